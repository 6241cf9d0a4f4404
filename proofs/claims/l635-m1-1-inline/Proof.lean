import JvmDerived
import JvmDerived.Pilot.@@N@@Statement
import JvmDerived.Pilot.@@N@@Code
set_option linter.unusedVariables false
set_option linter.unusedSimpArgs false

/- laws to paste: Road.lenW (cut by pick.py; bodies as the Statement names them) -/
namespace Jvm.Pilot.@@N@@
namespace StrChars
open Jvm Sem ClassFile Op Lib Jvm.Stand Jvm.Free.XT Jvm.Free.ALB Jvm.Free.JM Jvm.Free
open Jvm.Lib.Cold (StaticIs)
/-- the byte that i2b leaves of a char -/
def lo8 (x : Int32) : Int32 := x.toInt8.toInt32
def U16 : String := "java/lang/StringUTF16"
namespace Cmp5
def yN : MethodName := ⟨"java/lang/StringUTF16", "compress", "([CI[BII)I"⟩
abbrev yB : ByteArray := jdk_52_method_21_code
end Cmp5
namespace Cmp3
def yN : MethodName := ⟨"java/lang/StringUTF16", "compress", "([CII)[B"⟩
abbrev yB : ByteArray := jdk_52_method_16_code
end Cmp3
namespace CodL
def yN : MethodName := ⟨"java/lang/StringUTF16", "coderFromArrayLen", "([BI)B"⟩
abbrev yB : ByteArray := jdk_52_method_15_code
end CodL
namespace New4
def yN : MethodName := ⟨"java/lang/String", "<init>", "([CIILjava/lang/Void;)V"⟩
abbrev yB : ByteArray := jdk_42_method_149_code
end New4
namespace New1
def yN : MethodName := ⟨"java/lang/String", "<init>", "([C)V"⟩
abbrev yB : ByteArray := jdk_42_method_3_code
end New1
end StrChars
namespace StrChars.Road
open Jvm Sem ClassFile Op Lib Jvm.Stand Jvm.Free Jvm.Free.XT
open Jvm.Lib.Cold (StaticIs)
abbrev ST : String := "java/lang/String"
/-- every table word that New1's law asks, flat -/
abbrev words : List Jvm.Cond := [.code New1.yN New1.yB 2 none, .initialized ST, .methodLink ST 27 New4.yN, .instanceMethod New4.yN,
  .code New4.yN New4.yB 6 none, .fieldLink ST 38 ST "COMPACT_STRINGS" "Z", .laysFinal ST ST "value" "[B", .fieldLink ST 9 ST "value" "[B", .laysFinal ST ST "coder" "B", .fieldLink ST 15 ST "coder" "B",
  .methodLink ST 1 Lib.objectInit, .instanceMethod Lib.objectInit, .code Lib.objectInit ⟨#[0xb1]⟩ 1 none, .methodLink ST 177 Cmp3.yN, .static Cmp3.yN, .methodLink ST 47 CodL.yN, .static CodL.yN,
  .code Cmp3.yN Cmp3.yB 6 (some (.array .byte)), .initialized U16, .arrayClass .byte, .methodLink U16 115 Cmp5.yN, .static Cmp5.yN, .code Cmp5.yN Cmp5.yB 7 (some .int), .code CodL.yN CodL.yB 2 (some .byte)]
end StrChars.Road
namespace StrChars
open Jvm Sem ClassFile Op Lib Jvm.Stand Jvm.Free.XT Jvm.Free.ALB Jvm.Free.JM Jvm.Free
open Jvm.Lib.Cold (StaticIs)
def hi8 (x : Int32) : Int32 := lo8 (x >>> ((8 : Int32) &&& 31))
theorem shr0 (c : Int32) : c >>> ((0 : Int32) &&& 31) = c := by
  have e : ((0 : Int32) &&& 31) = 0 := by decide
  rw [e]
  apply Int32.toBitVec_inj.mp
  rw [Int32.toBitVec_shiftRight]
  have e1 : ((0 : Int32).toBitVec.smod 32) = 0#32 := by decide
  rw [e1, BitVec.sshiftRight_eq']
  exact BitVec.sshiftRight_zero
end StrChars
namespace StrChars
open Jvm Sem ClassFile Op Lib Jvm.Stand Jvm.Free.XT Jvm.Free.ALB Jvm.Free.JM Jvm.Free
open Jvm.Lib.Cold (StaticIs)
theorem shr1 {n : Nat} (h : 2 * n < 2 ^ 31) : Int32.ofNat (2 * n) >>> ((1 : Int32) &&& 31) = Int32.ofNat n := by
  have e : ((1 : Int32) &&& 31) = 1 := by decide
  rw [e]
  apply Int32.toBitVec_inj.mp
  rw [Int32.toBitVec_shiftRight]
  have e1 : ((1 : Int32).toBitVec.smod 32) = 1#32 := by decide
  have hm : (BitVec.ofNat 32 (2 * n)).toNat = 2 * n := by rw [BitVec.toNat_ofNat, Nat.mod_eq_of_lt (by omega)]
  rw [e1, BitVec.sshiftRight_eq']
  apply BitVec.eq_of_toNat_eq
  show ((BitVec.ofNat 32 (2 * n)).sshiftRight 1).toNat = (BitVec.ofNat 32 n).toNat
  rw [BitVec.toNat_sshiftRight_of_msb_false (by rw [BitVec.msb_eq_false_iff_two_mul_lt, hm]; omega), hm, BitVec.toNat_ofNat, Nat.shiftRight_eq_div_pow]
  omega
/-- the array's cell V codes the n chars f 0 .. f (n - 1) by the coder cd, as the JDK does: coder 1 just where some char is above 255 -/
def Cod (cd : Int32) (n : Nat) (f : Nat → Int32) (V : Cell) : Prop := (cd = 0 ∧ V.slots.size = n ∧ ∀ j, j < n → V.slots[j]? = some (.int (lo8 (f j))) ∧ ¬ 255 < f j) ∨ (cd = 1 ∧ V.slots.size = 2 * n ∧ (∀ j, j < n → V.slots[2 * j]? = some (.int (lo8 (f j))) ∧ V.slots[2 * j + 1]? = some (.int (hi8 (f j)))) ∧ ∃ j, j < n ∧ 255 < f j)
theorem Cod.cd {cd : Int32} {n : Nat} {f : Nat → Int32} {V : Cell} (h : Cod cd n f V) : cd = 0 ∨ cd = 1 := h.imp (fun q => q.1) fun q => q.1
theorem Cod.len {cd : Int32} {n : Nat} {f : Nat → Int32} {V : Cell} (h : Cod cd n f V) (hs : V.slots.size < 2 ^ 31) : Int32.ofNat V.slots.size >>> (cd &&& 31) = Int32.ofNat n := by
  rcases h with ⟨rfl, h, -⟩ | ⟨rfl, h, -⟩
  · rw [shr0, h]
  · rw [h, shr1 (by omega)]
/-- **x is a String of the n chars f 0 .. f (n - 1)**, Latin-1 or UTF-16; its array at t has the cell V -/
def Txt (x t : Addr) (V : Cell) (cd : Int32) (n : Nat) (f : Nat → Int32) (U : State) : Prop := Exact "java/lang/String" x U ∧ Has x "java/lang/String" "value" "[B" (.ref t) U ∧ Has x "java/lang/String" "coder" "B" (.int cd) U ∧ XT.Arr .byte t V U ∧ Cod cd n f V ∧ ∀ j, j < n → ¬ f j < 0 ∧ ¬ 65535 < f j
theorem Txt.mv {x t : Addr} {V : Cell} {cd : Int32} {n : Nat} {f : Nat → Int32} {U U' : State} (h : Txt x t V cd n f U) (hal : U.vm.Alike U'.vm) (hh : U'.heap = U.heap) : Txt x t V cd n f U' := ⟨h.1.mv hal hh, h.2.1.mv hal hh, h.2.2.1.mv hal hh, h.2.2.2.1.mv hal hh, h.2.2.2.2⟩
namespace Cdr
def yN : MethodName := ⟨"java/lang/String", "coder", "()B"⟩
abbrev yB : ByteArray := jdk_42_method_152_code
theorem d0 : decode yB 0 = .ok (.getstatic 38, 3) := by decide +kernel
theorem d3 : decode yB 3 = .ok (.ifCond (.eq) 10, 3) := by decide +kernel
theorem d6 : decode yB 6 = .ok (.aload_n 0, 1) := by decide +kernel
theorem d7 : decode yB 7 = .ok (.getfield 15, 3) := by decide +kernel
theorem d10 : decode yB 10 = .ok (.goto 4, 3) := by decide +kernel
theorem d14 : decode yB 14 = .ok (.ireturn, 1) := by decide +kernel
def site : List Cond := [.fieldLink "java/lang/String" 38 "java/lang/String" "COMPACT_STRINGS" "Z", .fieldLink "java/lang/String" 15 "java/lang/String" "coder" "B"]
def tab : Cond := tabOf yN yB 1 (some .byte) site
def P (x : Addr) (cd z : Int32) (args : Array Value) (s : State) : Prop := args = #[.ref x] ∧ Has x "java/lang/String" "coder" "B" (.int cd) s ∧ (cd = 0 ∨ cd = 1) ∧ StaticIs s "java/lang/String" "COMPACT_STRINGS" "Z" (.int z) ∧ ¬ z = 0
def E (cd : Int32) (r : Option Value) (s u : State) : Prop := XT.PureE (some (.int cd)) r s u
theorem law (l : Launch) (x : Addr) (cd z : Int32) : Law l yN 1 0 0 0 yB 1 (some .byte) site (P x cd z) (E cd) [] 0 0 := by
  refine Law.of_walk (plainFor_of_name (by decide +kernel)) (by decide +kernel) (by decide +kernel) (by decide) (fun _ _ h => by rw [h.1]; rfl) (fun _ U U' hal hh h => ⟨h.1, h.2.1.mv hal hh, h.2.2.1, h.2.2.2.1.there hal hh, h.2.2.2.2⟩) (fun r U U' V V' h1 hal h2 h => XT.PureE.mv r U U' V V' h1 hal h2 h) ?_
  intro p e s m args below meth c s₁ X0 hexec hbytes hml hret hlk hnm hown hh0 W hP
  obtain ⟨rfl, hx, hc, s1, hz⟩ := hP
  have c1 : Steps p.tables e below (s₁.setTop (entryFrame m #[.ref x] 1)) (s₁.setTop (mkF m 0 #[.val (.ref x)] [])) := entry rfl
  obtain ⟨T2, X2, q2, st2⟩ := X0.sget hexec hown (wk W (.fieldLink "java/lang/String" 38 "java/lang/String" "COMPACT_STRINGS" "Z")) s1 (fun _ _ h => by rw [hh0]; exact h) (g := (mkF m 0 #[.val (.ref x)] [])) rfl (hb hbytes d0)
  have hh2 := q2.trans hh0
  have c3 : Steps p.tables e below (s₁.setTop (entryFrame m #[.ref x] 1)) (T2.setTop (mkF m 7 #[.val (.ref x)] [.ref x])) := (c1.trans (st2 _ (Steps.refl _))).trans (by
    refine XS.ifNo X2.here hexec rfl (hb hbytes d3) rfl (i0_eq_f hz) ?_
    refine XS.aloadN X2.here hexec rfl (hb hbytes d6) rfl rfl ?_
    exact Steps.refl _)
  obtain ⟨T4, X4, q4, st4⟩ := X2.hget hexec hown (wk W (.fieldLink "java/lang/String" 15 "java/lang/String" "coder" "B")) (hx.mv X2.warmed.alike hh2) (g := (mkF m 7 #[.val (.ref x)] [.ref x])) rfl (rest := []) rfl (hb hbytes d7)
  have c5 : Steps p.tables e below (s₁.setTop (entryFrame m #[.ref x] 1)) (T4.setTop (mkF m 14 #[.val (.ref x)] [.int cd])) := (c3.trans (st4 _ (Steps.refl _))).trans (by
    refine XS.goto X4.here hexec rfl (pc0 := 10) rfl (hb hbytes d10) (by decide) rfl ?_
    exact Steps.refl _)
  exact ⟨T4, some (.int cd), _, _, _, X4, rfl, rfl, rfl, (fun h => by cases h), ⟨rfl, q4.trans hh2⟩, fun fs hl => c5.trans (X4.ireturnOut hexec hret (by rcases hc with rfl | rfl <;> rfl) (Or.inr (Or.inr (Or.inl rfl))) (hb hbytes d14) hl)⟩
end Cdr
namespace Len
def yN : MethodName := ⟨"java/lang/String", "length", "()I"⟩
abbrev yB : ByteArray := jdk_42_method_54_code
theorem d0 : decode yB 0 = .ok (.aload_n 0, 1) := by decide +kernel
theorem d1 : decode yB 1 = .ok (.getfield 9, 3) := by decide +kernel
theorem d4 : decode yB 4 = .ok (.arraylength, 1) := by decide +kernel
theorem d5 : decode yB 5 = .ok (.aload_n 0, 1) := by decide +kernel
theorem d6 : decode yB 6 = .ok (.invokevirtual 335, 3) := by decide +kernel
theorem d9 : decode yB 9 = .ok (.ishr, 1) := by decide +kernel
theorem d10 : decode yB 10 = .ok (.ireturn, 1) := by decide +kernel
def site : List Cond := [.fieldLink "java/lang/String" 9 "java/lang/String" "value" "[B", Cdr.tab] ++ virtW "java/lang/String" 335 "java/lang/String" Cdr.yN Cdr.yN
def tab : Cond := tabOf yN yB 1 (some .int) site
def P (x t : Addr) (V : Cell) (cd : Int32) (n : Nat) (f : Nat → Int32) (z : Int32) (args : Array Value) (s : State) : Prop := args = #[.ref x] ∧ Txt x t V cd n f s ∧ StaticIs s "java/lang/String" "COMPACT_STRINGS" "Z" (.int z) ∧ ¬ z = 0
def E (n : Nat) (r : Option Value) (s u : State) : Prop := XT.PureE (some (.int (Int32.ofNat n))) r s u
/-- length() of a String of n chars, in either coding -/
theorem law (l : Launch) (x t : Addr) (V : Cell) (cd : Int32) (n : Nat) (f : Nat → Int32) (z : Int32) : Law l yN 1 0 1 13 yB 1 (some .int) site (P x t V cd n f z) (E n) [] 0 0 := by
  refine Law.of_walk (plainFor_of_name (by decide +kernel)) (by decide +kernel) (by decide +kernel) (by decide) (fun _ _ h => by rw [h.1]; rfl) (fun _ U U' hal hh h => ⟨h.1, h.2.1.mv hal hh, h.2.2.1.there hal hh, h.2.2.2⟩) (fun r U U' V V' h1 hal h2 h => XT.PureE.mv r U U' V V' h1 hal h2 h) ?_
  intro p e s m args below meth c s₁ X0 hexec hbytes hml hret hlk hnm hown hh0 W hP
  obtain ⟨rfl, hx, s1, hz⟩ := hP
  have v31 := hx.2.2.2.1.2.2.2
  have c1 : Steps p.tables e below (s₁.setTop (entryFrame m #[.ref x] 1)) (s₁.setTop (mkF m 1 #[.val (.ref x)] [.ref x])) := Steps.trans (entry rfl) (by
    show Steps p.tables e below (s₁.setTop (mkF m 0 #[.val (.ref x)] [])) _
    refine XS.aloadN X0.here hexec rfl (hb hbytes d0) rfl rfl ?_
    exact Steps.refl _)
  obtain ⟨T2, X2, q2, st2⟩ := X0.hget hexec hown (wk W (.fieldLink "java/lang/String" 9 "java/lang/String" "value" "[B")) (hx.mv X0.warmed.alike hh0).2.1 (g := (mkF m 1 #[.val (.ref x)] [.ref x])) rfl (rest := []) rfl (hb hbytes d1)
  have hh2 := q2.trans hh0
  have hx2 := hx.mv X2.warmed.alike hh2
  have c3 : Steps p.tables e below (s₁.setTop (entryFrame m #[.ref x] 1)) (T2.setTop (mkF m 6 #[.val (.ref x)] [.ref x, .int (Int32.ofNat V.slots.size)])) := (c1.trans (st2 _ (Steps.refl _))).trans (by
    refine X2.alen hexec hx2.2.2.2.1 rfl rfl (hb hbytes d4) ?_
    refine XS.aloadN X2.here hexec rfl (hb hbytes d5) rfl rfl ?_
    exact Steps.refl _)
  obtain ⟨v4, T4, X4, E4, g4⟩ := X2.callV hexec (Cdr.law l x cd z) hown (wks W (virtW "java/lang/String" 335 "java/lang/String" Cdr.yN Cdr.yN)) rfl (by decide) (wk W Cdr.tab) (W := 1) (Nat.le_of_ble_eq_true rfl) (Nat.le_of_ble_eq_true rfl) (Nat.le_refl _) (Nat.le_refl _) (hx2.1.fc X2.warmed.alike) hx2.1.is (g := (mkF m 6 #[.val (.ref x)] [.ref x, .int (Int32.ofNat V.slots.size)])) rfl (by rw [hml]; rfl) c3 (argsL := []) (rest := [.int (Int32.ofNat V.slots.size)]) rfl rfl (by show 2 * 0 + (1 + 0) ≤ _; decide) (hb hbytes d6) (⟨rfl, hx2.2.2.1, hx.2.2.2.2.1.cd, s1.there X2.warmed.alike hh2, hz⟩)
  obtain ⟨rfl, q4⟩ := E4
  have c5 : Steps p.tables e below (s₁.setTop (entryFrame m #[.ref x] 1)) (T4.setTop (mkF m 10 #[.val (.ref x)] [.int (Int32.ofNat V.slots.size >>> (cd &&& 31))])) := Steps.trans g4 (by
    refine ishr X4.here hexec rfl (hb hbytes d9) rfl ?_
    exact Steps.refl _)
  rw [hx.2.2.2.2.1.len v31] at c5
  exact ⟨T4, some (.int (Int32.ofNat n)), _, _, _, X4, rfl, rfl, rfl, (fun h => by cases h), ⟨rfl, q4.trans hh2⟩, fun fs hl => c5.trans (X4.ireturnOut hexec hret rfl (Or.inl rfl) (hb hbytes d10) hl)⟩
theorem pays {l : Launch} {R : Room} {p : Program} {e : Env} {below : List Frame} {s : State} {sargs : Array Value} {len W : Nat} (x t : Addr) (V : Cell) (cd : Int32) (n : Nat) (f : Nat → Int32) (z : Int32) (htab : tab.before sargs s = true) (hfr : 2 ≤ R.frames) (hlo : W + 25 ≤ R.locals) :
    Back l R p e below s sargs yN len W (fun A₁ a₁ => A₁.cells + 0 ≤ R.cells ∧ A₁.slots + 0 ≤ R.slots ∧ P x t V cd n f z a₁ A₁.U) (fun A₁ _ v₁ B₁ => E n v₁ A₁.U B₁.U ∧ B₁.locs = A₁.locs ++ [] ∧ B₁.cells = A₁.cells + 0 ∧ B₁.slots = A₁.slots + 0) :=
  (law l x t V cd n f z).pays htab hfr (by omega)
end Len
end StrChars
namespace StrChars.Road
open Jvm Sem ClassFile Op Lib Jvm.Stand Jvm.Free Jvm.Free.XT
open Jvm.Lib.Cold (StaticIs)
theorem consq {a : Array Value} {s : State} {c : Jvm.Cond} {L : List Jvm.Cond} (h0 : c.before a s = true) (h : ∀ w ∈ L, w.before a s = true) : ∀ w ∈ c :: L, w.before a s = true := fun w hw => (List.mem_cons.mp hw).elim (fun e => e ▸ h0) (h w)
/-- the words of String.length(), either coding -/
abbrev wordsLen : List Jvm.Cond := [.code Len.yN Len.yB 1 (some .int), .initialized ST, .fieldLink ST 9 ST "value" "[B", .fieldLink ST 38 ST "COMPACT_STRINGS" "Z", .fieldLink ST 15 ST "coder" "B", .code Cdr.yN Cdr.yB 1 (some .byte), .methodLink ST 335 Cdr.yN, .declares Cdr.yN, .selects ST Cdr.yN Cdr.yN, .instanceMethod Cdr.yN]
theorem tabLen_of {a : Array Value} {s : State} (h : ∀ w ∈ wordsLen, w.before a s = true) : Len.tab.before a s = true := by
  have hc : Cdr.tab.before a s = true := unparts (wk h (.code Cdr.yN Cdr.yB 1 (some .byte))) (wks h (.initialized Cdr.yN.cls :: Cdr.site))
  have q := consq hc h
  exact unparts (wk q (.code Len.yN Len.yB 1 (some .int))) (wks q (.initialized Len.yN.cls :: Len.site))
theorem movedLen {Z s : State} {a0 args : Array Value} (hZ : Z.Warmed39 s.vm) (hw : ∀ d ∈ wordsLen, d.before a0 Z = true) : ∀ d ∈ wordsLen, d.before args s = true := fun d hd => by
  have q := hw d hd
  have t : ∀ d ∈ wordsLen, d = .arrayClass .byte ∨ (d.onTables && d.keepsFace) = true := by decide +kernel
  rcases t d hd with rfl | t
  · exact RoadKit.mvA hZ q
  · exact RoadKit.mv hZ q t
/-- the bytes of the chars cs, low before high -/
def wideBytes : List Int32 → List Value
  | [] => []
  | c :: cs => .int (lo8 c) :: .int (hi8 c) :: wideBytes cs
theorem wide_lo (d : Value) : ∀ (cs : List Int32) (j : Nat), j < cs.length → (wideBytes cs).getD (2 * j) d = .int (lo8 (cs.getD j 0))
  | [], j, h => absurd h (Nat.not_lt_zero j)
  | c :: cs, 0, _ => rfl
  | c :: cs, j + 1, h => by
    have q := wide_lo d cs j (by simpa using h)
    rw [show 2 * (j + 1) = 2 * j + 1 + 1 from by omega]
    simpa [wideBytes] using q
theorem wide_hi (d : Value) : ∀ (cs : List Int32) (j : Nat), j < cs.length → (wideBytes cs).getD (2 * j + 1) d = .int (hi8 (cs.getD j 0))
  | [], j, h => absurd h (Nat.not_lt_zero j)
  | c :: cs, 0, _ => rfl
  | c :: cs, j + 1, h => by
    have q := wide_hi d cs j (by simpa using h)
    rw [show 2 * (j + 1) + 1 = 2 * j + 1 + 1 + 1 from by omega]
    simpa [wideBytes] using q
theorem low_at (d : Value) (cs : List Int32) (j : Nat) (h : j < cs.length) : (cs.map fun c => Value.int (lo8 c)).getD j d = .int (lo8 (cs.getD j 0)) := by
  simp [List.getD_eq_getElem?_getD, h]
/-- an array of N2 bytes vs codes the chars cs by the coder cd -/
def CodA (cs : List Int32) (cd N2 : Int32) (vs : List Value) : Prop := (cd = 0 ∧ N2 = Int32.ofNat cs.length ∧ vs = (cs.map fun c => Value.int (lo8 c)) ∧ ∀ c ∈ cs, ¬ 255 < c) ∨ (cd = 1 ∧ N2 = Int32.ofNat (2 * cs.length) ∧ vs = wideBytes cs ∧ ∃ c ∈ cs, 255 < c)
theorem CodA.cod {cs : List Int32} {cd N2 : Int32} {vs : List Value} {V : Cell} (h : CodA cs cd N2 vs) (hn : 2 * cs.length < 2 ^ 31) (hs : V.slots.size = N2.toNatClampNeg) (hv : RoadKit.Has V vs (.int 0)) : Cod cd cs.length (fun j => cs.getD j 0) V := by
  rcases h with ⟨rfl, rfl, rfl, h⟩ | ⟨rfl, rfl, rfl, c, hc, hw⟩
  · rw [n32 (by omega)] at hs
    exact Or.inl ⟨rfl, hs, fun j hj => ⟨by rw [hv j (by omega), low_at _ _ _ hj], by
      have e : cs.getD j 0 = cs[j] := by simp [List.getD_eq_getElem?_getD, hj]
      show ¬ 255 < cs.getD j 0
      rw [e]; exact h _ (List.getElem_mem _)⟩⟩
  · rw [n32 (by omega)] at hs
    obtain ⟨j, hj, rfl⟩ := List.getElem_of_mem hc
    exact Or.inr ⟨rfl, hs, fun j hj => ⟨by rw [hv _ (by omega), wide_lo _ _ _ hj], by rw [hv _ (by omega), wide_hi _ _ _ hj]⟩, j, hj, by
      have e : cs.getD j 0 = cs[j] := by simp [List.getD_eq_getElem?_getD, hj]
      show 255 < cs.getD j 0
      rw [e]; exact hw⟩
/-- an object of exactly java/lang/String, its two fields found: as the laws ask it -/
theorem strObj {Z U : State} {a0 : Array Value} {kI : Nat} (wi : (Jvm.Cond.instantiable ST kI).before a0 Z = true) (al : Z.vm.Alike U.vm) {x : Addr} {v0 c0 : Value} (E : RoadKit.Exa Z U.heap x ST) (V : RoadKit.Fld Z U.heap x ST "value" "[B" v0) (C : RoadKit.Fld Z U.heap x ST "coder" "B" c0) :
    ∃ (D : Cell) (fV fC : Field), Blank ST x D U ∧ Found ST "value" "[B" fV U ∧ Found ST "coder" "B" fC U ∧ D.slots[fV.slot]? = some v0 ∧ D.slots[fC.slot]? = some c0 ∧ RoadKit.slotOf Z ST "value" "[B" = fV.slot ∧ RoadKit.slotOf Z ST "coder" "B" = fC.slot := by
  obtain ⟨D, cfV, kV, iV, fV, hD, gV, stV, knV, obV, asV, slV⟩ := V
  obtain ⟨D', cfC, kC, iC, fC, hD', gC, stC, -, -, asC, slC⟩ := C
  cases hD.symm.trans hD'
  obtain ⟨D2, kD, e1, e2, e3, e4, e5⟩ := E
  cases hD.symm.trans e1
  obtain ⟨c2, k2, i1, i2, i3, -⟩ := Cond.instantiable_spec wi
  cases e2.symm.trans i1
  cases e3.symm.trans i2
  obtain ⟨kU, u1, u2⟩ := al.2.2 _ _ e3
  exact ⟨D, fV, fC, ⟨hD, ⟨knV, fun q hq => by rw [hq] at obV; cases obV⟩, by rw [al.findClass]; exact e2, kU, u1, by rw [u2]; exact i3, by rw [u2]; exact e5 i3⟩, ⟨SBG.found_only al ⟨cfV, kV, iV, gV⟩, stV⟩, ⟨SBG.found_only al ⟨cfC, kC, iC, gC⟩, stC⟩, slV, slC, by simp [RoadKit.slotOf, gV], by simp [RoadKit.slotOf, gC]⟩
theorem sta_is {Z U : State} (al : Z.vm.Alike U.vm) {C n d : String} {v : Value} (S : RoadKit.Sta Z U.heap C n d v) : StaticIs U C n d v := by
  obtain ⟨cfS, iS, kS, fS, st, cS, t1, t2, t3, t4, t5, t6, t7⟩ := S
  exact StaticIs.there (s := { Z with heap := U.heap }) ⟨cfS, iS, kS, fS, st, cS, t1, t2, t3, t4, t5, (fun q => by rw [q] at t6; cases t6), t7⟩ al rfl
/-- **length() OF SUCH A STRING** -/
theorem lenW {p : Program} {l : Launch} {e : Env} {R : Room} {s : State} {args : Array Value} {below : List Frame} {len W : Nat} {Z : State} {a0 : Array Value} {h : Heap} (hZ : Z.Warmed39 s.vm) (hw : ∀ d ∈ wordsLen, d.before a0 Z = true) {kI : Nat} (wi : (Jvm.Cond.instantiable ST kI).before a0 Z = true)
    {x t : Addr} {kb : ClassId} {cs : List Int32} {cd N2 z : Int32} {vs : List Value} (E : RoadKit.Exa Z h x ST) (V : RoadKit.Fld Z h x ST "value" "[B" (.ref t)) (C : RoadKit.Fld Z h x ST "coder" "B" (.int cd)) (K : RoadKit.Arv Z h t kb .byte N2 vs (.int 0)) (hc : CodA cs cd N2 vs) (hb : ∀ c ∈ cs, ¬ c < 0 ∧ ¬ (65535 : Int32) < c)
    (S : RoadKit.Sta Z h ST "COMPACT_STRINGS" "Z" (.int z)) (hz : ¬ z = 0) (l2 : cs.length ≤ 4000) (hfr : 2 ≤ R.frames) (hlo : W + 25 ≤ R.locals) :
    Back l R p e below s args (⟨"java/lang/String", "length", "()I"⟩ : MethodName) len W (fun P a => a = #[.ref x] ∧ P.U.heap = h ∧ P.cells + 0 ≤ R.cells ∧ P.slots + 0 ≤ R.slots)
      (fun P _ v B => ∃ L, (v = some (.int (Int32.ofNat cs.length)) ∧ L = [] ∧ B.U.heap = h) ∧ B.locs = P.locs ++ L ∧ B.cells = P.cells + 0 ∧ B.slots = P.slots + 0) := by
  obtain ⟨A, K1, K2, K3, K4, K5, K6⟩ := K
  have hcod := hc.cod (by omega) K3 K5
  intro m meth c P g ig mk a X hg hsize hdg hW hn hp'
  obtain ⟨rfl, rfl, r1, r2⟩ := hp'
  have al : Z.vm.Alike P.U.vm := hZ.alike.trans X.warmed.alike
  obtain ⟨D, fV, fC, hB, F1, F2, g1, g2, -, -⟩ := strObj wi al E V C
  have hx : Txt x t A cd cs.length (fun j => cs.getD j 0) P.U := ⟨⟨_, hB.2.2.1, D, hB.1, rfl, by cases q : D.vm <;> first | rfl | exact absurd q (hB.2.1.2 _)⟩, Has.of hB F1 g1, Has.of hB F2 g2, ⟨K1.1, State.isArrayOf_alike al K1.2.1, K1.2.2, by rcases hcod with ⟨-, q, -⟩ | ⟨-, q, -⟩ <;> omega⟩, hcod, fun j hj => by
    have e : cs.getD j 0 = cs[j] := by simp [List.getD_eq_getElem?_getD, hj]
    show ¬ cs.getD j 0 < 0 ∧ ¬ 65535 < cs.getD j 0
    rw [e]; exact hb _ (List.getElem_mem _)⟩
  obtain ⟨v, B, X', ⟨⟨hv, hh⟩, hl, hk, hs⟩, st⟩ := Len.pays x t A cd cs.length (fun j => cs.getD j 0) z (tabLen_of (movedLen hZ hw)) hfr hlo m meth c P g ig mk _ X hg hsize hdg hW hn ⟨r1, r2, rfl, hx, sta_is al S, hz⟩
  exact ⟨v, B, X', ⟨[], ⟨hv, rfl, hh⟩, hl, hk, hs⟩, st⟩
end StrChars.Road
end Jvm.Pilot.@@N@@

namespace Jvm.Pilot.@@N@@
open Jvm Jvm.ClassFile Sem Op Lib Jvm.Free Jvm.Stand Jvm.LawKit Jvm.RoadKit Bundle Jvm.Pilot.@@N@@.Jvm.D
section OwnKit
/-- where a walk stands that may intern String constants: the library's Stand over the tables at hand, and what stays the same throughout; EL: the constants whose text is known -/
def On (l : Launch) (Z : State) (EL : List (String × Nat)) (p : Program) (e : Env) (R : Room) (s : State) (m : MethodId) (args : Array Value) (below : List Frame) (meth : Method) (c : Code) (y : MethodName) (code : ByteArray) (maxL : Nat) (ret : Option FieldType) (vm : Vm) (T : State) (h : Heap) (locs : List Loc) (cells slots : Nat) : Prop :=
  Stand p l e R (s.setVm vm) m args below meth c T locs cells slots ∧ (p.tables.exec = Jvm.exec ∧ c.code = code ∧ Z.Warmed39 vm ∧ vm.findClass y.cls = some m.cls ∧ meth.sig.returnType = ret ∧ meth.locks = false ∧ meth.name = y.name ∧ c.maxLocals = maxL) ∧ T.heap = h ∧ Fr Z.heap.size locs ∧ Ext Z.heap h ∧ (∃ k0, s.Since vm k0 ∧ k0 ≤ h.size) ∧ CHr Z EL s.vm s.heap vm h ∧ ∃ a1, EW Z a1 EL
/-- the run from here ends as F says -/
def Goes (p : Program) (e : Env) (below : List Frame) (F : State → Outcome → Prop) (T : State) (g : JFrame) : Prop :=
  ∃ s₂ o, Steps p.tables e below (T.setTop g) s₂ ∧ s₂.status = .running ∧ Ended s₂ below o ∧ F s₂ o
def FinQ (Z : State) (EL : List (String × Nat)) (s : State) (Q : Option Value → Heap → (Addr → Prop) → Prop) (rc rs : Nat) (s₂ : State) (o : Outcome) : Prop :=
  ∃ v L, o = .returned v ∧ (Q v s₂.heap (Safe Z EL s₂.vm s₂.heap) ∧ Fr Z.heap.size L ∧ Ext Z.heap s₂.heap) ∧ CHr Z EL s.vm s.heap s₂.vm s₂.heap ∧ ReturnedEndW s o s₂ L rc rs
/-- a method's contract: called with these arguments on this heap it returns, and Q holds; ss: places that are no constant's -/
def Con (l : Launch) (Z : State) (EL : List (String × Nat)) (y : MethodName) (code : ByteArray) (maxL : Nat) (ret : Option FieldType) (rm : Room) (as : Array Value) (h : Heap) (ss : List Addr) (Q : Option Value → Heap → (Addr → Prop) → Prop) : Prop :=
  (∃ a1, EW Z a1 EL) → Ext Z.heap h → ∀ ws : List Jvm.Cond, MetFree l y (head1 (Jvm.Cond.code y code maxL ret :: ws) rm) (fun a U => a = as ∧ Z.Warmed39 U.vm ∧ U.heap = h ∧ CHv Z EL U.vm h ∧ ∀ x ∈ ss, Safe Z EL U.vm h x) (fun _ _ _ _ _ => True) (fun _ U o U' => ∃ v L, o = .returned v ∧ (Q v U'.heap (Safe Z EL U'.vm U'.heap) ∧ Fr Z.heap.size L ∧ Ext Z.heap U'.heap) ∧ CHr Z EL U.vm U.heap U'.vm U'.heap ∧ ReturnedEndW U o U' L rm.cells rm.slots)
theorem Goes.step {p : Program} {e : Env} {below : List Frame} {F : State → Outcome → Prop} {T T' : State} {g g' : JFrame} (st : ∀ t, Steps p.tables e below (T'.setTop g') t → Steps p.tables e below (T.setTop g) t) (k : Goes p e below F T' g') : Goes p e below F T g := by
  obtain ⟨s₂, o, h1, h2⟩ := k
  exact ⟨s₂, o, st _ h1, h2⟩
theorem Goes.cast {p : Program} {e : Env} {below : List Frame} {F : State → Outcome → Prop} {T : State} {g g' : JFrame} (q : g = g') (k : Goes p e below F T g') : Goes p e below F T g := q ▸ k
theorem Goes.mono {p : Program} {e : Env} {below : List Frame} {F F' : State → Outcome → Prop} {T : State} {g : JFrame} (q : ∀ s o, F s o → F' s o) (k : Goes p e below F T g) : Goes p e below F' T g := by
  obtain ⟨s₂, o, h1, h2, h3, h4⟩ := k
  exact ⟨s₂, o, h1, h2, h3, q _ _ h4⟩
variable {l : Launch} {Z : State} {EL : List (String × Nat)} {p : Program} {e : Env} {R : Room} {s : State} {m : MethodId} {args : Array Value} {below : List Frame} {meth : Method} {c : Code} {y : MethodName} {code : ByteArray} {maxL : Nat} {ret : Option FieldType} {vm : Vm} {T : State} {h : Heap} {locs : List Loc} {cells slots : Nat} {F : State → Outcome → Prop} {pc : Nat} {L L' : Array Slot} {S : List Value} {a0 : Array Value} {ss : List Addr}
theorem Con.intro {rm : Room} {as : Array Value} {Q : Option Value → Heap → (Addr → Prop) → Prop} (hp : plainFor y = true)
    (body : ∀ (p : Program) (e : Env) (s : State) (m : MethodId) (below : List Frame) (meth : Method) (c : Code) (T : State), On l Z EL p e rm s m as below meth c y code maxL ret s.vm T h [] 0 0 → (∀ x ∈ ss, Safe Z EL s.vm h x) → Goes p e below (FinQ Z EL s Q rm.cells rm.slots) T (entryFrame m as maxL)) : Con l Z EL y code maxL ret rm as h ss Q := by
  intro hEW hE ws
  refine MetFree.of_bodySF hp hisR ?_
  intro p e s m args below meth c s₁ Bd hml0 hP hK
  obtain ⟨rfl, hZ, hh, hC, hs⟩ := hP
  have hnm := (name_of_methodNamed Bd.named Bd.method).1
  subst hh
  obtain ⟨s₂, o, k1, k2, k3, k4⟩ := body p e s m below meth c s₁ ⟨Stand.of_body Bd, ⟨Bd.exec, Bd.bytes, hZ, findClass_of_methodNamed Bd.named, Bd.returns, Bd.notSynchronized, hnm, hml0⟩, by rw [Bd.state]; rfl, Fr.nil _, hE, ⟨0, (State.WarmedH.refl s).since 0, Nat.zero_le _⟩, CHr.refl hC, hEW⟩ hs
  exact ⟨s₂, o, k1, k2, k3, k4⟩
theorem Con.mono {rm : Room} {as : Array Value} {Q Q' : Option Value → Heap → (Addr → Prop) → Prop} (hC : Con l Z EL y code maxL ret rm as h ss Q) (hq : ∀ v h' S, Q v h' S → Q' v h' S) : Con l Z EL y code maxL ret rm as h ss Q' := by
  intro hEW hE ws p e ha hc hk s m args below hf happ hP hK
  obtain ⟨n, o, h1, h2, h3, v, L, h4, ⟨h5, h6⟩, h7⟩ := hC hEW hE ws p e ha hc hk s m args below hf happ hP hK
  exact ⟨n, o, h1, h2, h3, v, L, h4, ⟨hq _ _ _ h5, h6⟩, h7⟩
theorem On.size (X : On l Z EL p e R s m args below meth c y code maxL ret vm T h locs cells slots) : Z.heap.size ≤ h.size := X.2.2.2.2.1.1
theorem On.ext (X : On l Z EL p e R s m args below meth c y code maxL ret vm T h locs cells slots) : Ext Z.heap h := X.2.2.2.2.1
theorem On.chv (X : On l Z EL p e R s m args below meth c y code maxL ret vm T h locs cells slots) : CHv Z EL vm h := X.2.2.2.2.2.2.1.1
theorem On.alike (X : On l Z EL p e R s m args below meth c y code maxL ret vm T h locs cells slots) : Z.vm.Alike vm := X.2.1.2.2.1.alike
theorem On.sta (X : On l Z EL p e R s m args below meth c y code maxL ret vm T h locs cells slots) {C n d : String} {v : Value} (S : Sta Z Z.heap C n d v) : Sta Z h C n d v := S.ext X.ext
theorem ext_wr {Z : State} {h h' : Heap} {a : Addr} {sl : Nat} {v : Value} (E : Ext Z.heap h) (W : Wr h h' a sl v) (q : Z.heap.size ≤ a) : Ext Z.heap h' := (Old.wr (Z := Z) (n0 := Z.heap.size) ⟨rfl, E⟩ W q).2
theorem ext_keep {Z : State} {h h' : Heap} {ws : List Addr} (E : Ext Z.heap h) (K : Keep h h' ws) (q : ∀ x ∈ ws, Z.heap.size ≤ x) : Ext Z.heap h' := (Old.keep (Z := Z) (n0 := Z.heap.size) ⟨rfl, E⟩ K q).2
theorem ext_trans {h h' h'' : Heap} (E : Ext h h') (E' : Ext h' h'') : Ext h h'' := ⟨Nat.le_trans E.1 E'.1, fun a c q => E'.2 a c (E.2 a c q)⟩
theorem keep_ext {h h' : Heap} (E : Ext h h') : Keep h h' [] := (Keep.refl h []).ext E
theorem ext_of_keep {h h' : Heap} (K : Keep h h' []) : Ext h h' := ⟨K.1, fun a c q => K.2.1 a c q nin0⟩
/-- the walk goes on at a later heap over the same tables -/
theorem On.later (X : On l Z EL p e R s m args below meth c y code maxL ret vm T h locs cells slots) {T' : State} {h' : Heap} {locs' : List Loc} {cells' slots' : Nat} (X' : Stand p l e R (s.setVm vm) m args below meth c T' locs' cells' slots') (e' : T'.heap = h') (N' : Fr Z.heap.size locs') (E' : Ext Z.heap h') (R' : CHr Z EL vm h vm h') : On l Z EL p e R s m args below meth c y code maxL ret vm T' h' locs' cells' slots' := by
  obtain ⟨X1, C1, e1, N1, E1, ⟨k0, s0, q0⟩, H1, hw⟩ := X
  exact ⟨X', C1, e', N', E', ⟨k0, s0, Nat.le_trans q0 R'.2.1⟩, H1.trans R', hw⟩
/-- .. or over later tables -/
theorem On.laterV (X : On l Z EL p e R s m args below meth c y code maxL ret vm T h locs cells slots) {vm' : Vm} {T' : State} {h' : Heap} {locs' : List Loc} {cells' slots' n : Nat} (X' : Stand p l e R ((s.setVm vm).setVm vm') m args below meth c T' locs' cells' slots') (S' : (s.setVm vm).Since vm' n) (hn : n = h'.size) (e' : T'.heap = h') (N' : Fr Z.heap.size locs') (E' : Ext Z.heap h') (R' : CHr Z EL vm h vm' h') : On l Z EL p e R s m args below meth c y code maxL ret vm' T' h' locs' cells' slots' := by
  obtain ⟨X1, C1, e1, N1, E1, ⟨k0, s0, q0⟩, H1, hw⟩ := X
  subst hn
  exact ⟨X', ⟨C1.1, C1.2.1, State.Warmed39.trans (t := s.setVm vm) C1.2.2.1 S'.1, (S'.1.alike.findClass _ _).trans C1.2.2.2.1, C1.2.2.2.2⟩, e', N', E', ⟨h'.size, s0.trans S' (Nat.le_trans q0 R'.2.1), Nat.le_refl _⟩, H1.trans R', hw⟩
theorem o_iload (X : On l Z EL p e R s m args below meth c y code maxL ret vm T h locs cells slots) {k : Nat} {v : Int32} {q : Nat} (hd : decode code pc = .ok (.iload k, 2)) (hl : L[k]? = some (.val (.int v))) (hp : pc + 2 = q) (K : Goes p e below F T (mkF m q L (.int v :: S))) : Goes p e below F T (mkF m pc L S) := by
  subst hp
  exact Goes.step (fun _ k => XS.iload X.1.here X.2.1.1 (g := mkF m pc L S) rfl (hb X.2.1.2.1 hd) hl k) K
theorem o_iloadN (X : On l Z EL p e R s m args below meth c y code maxL ret vm T h locs cells slots) {k : Fin 4} {v : Int32} {q : Nat} (hd : decode code pc = .ok (.iload_n k, 1)) (hl : L[k.val]? = some (.val (.int v))) (hp : pc + 1 = q) (K : Goes p e below F T (mkF m q L (.int v :: S))) : Goes p e below F T (mkF m pc L S) := by
  subst hp
  exact Goes.step (fun _ k => XS.iloadN X.1.here X.2.1.1 (g := mkF m pc L S) rfl (hb X.2.1.2.1 hd) hl k) K
theorem o_lload (X : On l Z EL p e R s m args below meth c y code maxL ret vm T h locs cells slots) {k : Nat} {v : Int64} {q : Nat} (hd : decode code pc = .ok (.lload k, 2)) (hl : L[k]? = some (.val (.long v))) (hp : pc + 2 = q) (K : Goes p e below F T (mkF m q L (.long v :: S))) : Goes p e below F T (mkF m pc L S) := by
  subst hp
  exact Goes.step (fun _ k => XS.lload X.1.here X.2.1.1 (g := mkF m pc L S) rfl (hb X.2.1.2.1 hd) hl k) K
theorem o_lloadN (X : On l Z EL p e R s m args below meth c y code maxL ret vm T h locs cells slots) {k : Fin 4} {v : Int64} {q : Nat} (hd : decode code pc = .ok (.lload_n k, 1)) (hl : L[k.val]? = some (.val (.long v))) (hp : pc + 1 = q) (K : Goes p e below F T (mkF m q L (.long v :: S))) : Goes p e below F T (mkF m pc L S) := by
  subst hp
  exact Goes.step (fun _ k => XS.lloadN X.1.here X.2.1.1 (g := mkF m pc L S) rfl (hb X.2.1.2.1 hd) hl k) K
theorem o_aload (X : On l Z EL p e R s m args below meth c y code maxL ret vm T h locs cells slots) {k : Nat} {v : Value} {q : Nat} (hd : decode code pc = .ok (.aload k, 2)) (hl : L[k]? = some (.val v)) (hv : v.isRef = true) (hp : pc + 2 = q) (K : Goes p e below F T (mkF m q L (v :: S))) : Goes p e below F T (mkF m pc L S) := by
  subst hp
  exact Goes.step (fun _ k => XS.aload X.1.here X.2.1.1 (g := mkF m pc L S) rfl (hb X.2.1.2.1 hd) hl hv k) K
theorem o_aloadN (X : On l Z EL p e R s m args below meth c y code maxL ret vm T h locs cells slots) {k : Fin 4} {v : Value} {q : Nat} (hd : decode code pc = .ok (.aload_n k, 1)) (hl : L[k.val]? = some (.val v)) (hv : v.isRef = true) (hp : pc + 1 = q) (K : Goes p e below F T (mkF m q L (v :: S))) : Goes p e below F T (mkF m pc L S) := by
  subst hp
  exact Goes.step (fun _ k => XS.aloadN X.1.here X.2.1.1 (g := mkF m pc L S) rfl (hb X.2.1.2.1 hd) hl hv k) K
theorem o_istore (X : On l Z EL p e R s m args below meth c y code maxL ret vm T h locs cells slots) {k : Nat} {x z : Int32} {q : Nat} (hd : decode code pc = .ok (.istore k, 2)) (hz : x = z) (hl : storeLocals L k (.int z) = some L') (hp : pc + 2 = q) (K : Goes p e below F T (mkF m q L' S)) : Goes p e below F T (mkF m pc L (.int x :: S)) := by
  subst hz hp
  exact Goes.step (fun _ k => XS.istore X.1.here X.2.1.1 (g := mkF m pc L (.int x :: S)) rfl (hb X.2.1.2.1 hd) rfl hl k) K
theorem o_istoreN (X : On l Z EL p e R s m args below meth c y code maxL ret vm T h locs cells slots) {k : Fin 4} {x z : Int32} {q : Nat} (hd : decode code pc = .ok (.istore_n k, 1)) (hz : x = z) (hl : storeLocals L k.val (.int z) = some L') (hp : pc + 1 = q) (K : Goes p e below F T (mkF m q L' S)) : Goes p e below F T (mkF m pc L (.int x :: S)) := by
  subst hz hp
  exact Goes.step (fun _ k => XS.istoreN X.1.here X.2.1.1 (g := mkF m pc L (.int x :: S)) rfl (hb X.2.1.2.1 hd) rfl hl k) K
theorem o_lstore (X : On l Z EL p e R s m args below meth c y code maxL ret vm T h locs cells slots) {k : Nat} {x z : Int64} {q : Nat} (hd : decode code pc = .ok (.lstore k, 2)) (hz : x = z) (hl : storeLocals L k (.long z) = some L') (hp : pc + 2 = q) (K : Goes p e below F T (mkF m q L' S)) : Goes p e below F T (mkF m pc L (.long x :: S)) := by
  subst hz hp
  exact Goes.step (fun _ k => XS.lstore X.1.here X.2.1.1 (g := mkF m pc L (.long x :: S)) rfl (hb X.2.1.2.1 hd) rfl hl k) K
theorem o_lstoreN (X : On l Z EL p e R s m args below meth c y code maxL ret vm T h locs cells slots) {k : Fin 4} {x z : Int64} {q : Nat} (hd : decode code pc = .ok (.lstore_n k, 1)) (hz : x = z) (hl : storeLocals L k.val (.long z) = some L') (hp : pc + 1 = q) (K : Goes p e below F T (mkF m q L' S)) : Goes p e below F T (mkF m pc L (.long x :: S)) := by
  subst hz hp
  exact Goes.step (fun _ k => XS.lstoreN X.1.here X.2.1.1 (g := mkF m pc L (.long x :: S)) rfl (hb X.2.1.2.1 hd) rfl hl k) K
theorem o_astore (X : On l Z EL p e R s m args below meth c y code maxL ret vm T h locs cells slots) {k : Nat} {x : Value} {q : Nat} (hd : decode code pc = .ok (.astore k, 2)) (hv : x.isRef = true) (hl : storeLocals L k x = some L') (hp : pc + 2 = q) (K : Goes p e below F T (mkF m q L' S)) : Goes p e below F T (mkF m pc L (x :: S)) := by
  subst hp
  exact Goes.step (fun _ k => XS.astore X.1.here X.2.1.1 (g := mkF m pc L (x :: S)) rfl (hb X.2.1.2.1 hd) rfl hv hl k) K
theorem o_astoreN (X : On l Z EL p e R s m args below meth c y code maxL ret vm T h locs cells slots) {k : Fin 4} {x : Value} {q : Nat} (hd : decode code pc = .ok (.astore_n k, 1)) (hv : x.isRef = true) (hl : storeLocals L k.val x = some L') (hp : pc + 1 = q) (K : Goes p e below F T (mkF m q L' S)) : Goes p e below F T (mkF m pc L (x :: S)) := by
  subst hp
  exact Goes.step (fun _ k => XS.astoreN X.1.here X.2.1.1 (g := mkF m pc L (x :: S)) rfl (hb X.2.1.2.1 hd) rfl hv hl k) K
theorem o_iconst (X : On l Z EL p e R s m args below meth c y code maxL ret vm T h locs cells slots) {i : Int} {w : Int32} {q : Nat} (hd : decode code pc = .ok (.iconst i, 1)) (hw : Int32.ofInt i = w) (hp : pc + 1 = q) (K : Goes p e below F T (mkF m q L (.int w :: S))) : Goes p e below F T (mkF m pc L S) := by
  subst hw hp
  exact Goes.step (fun _ k => XS.iconst X.1.here X.2.1.1 (g := mkF m pc L S) rfl (hb X.2.1.2.1 hd) k) K
theorem o_bipush (X : On l Z EL p e R s m args below meth c y code maxL ret vm T h locs cells slots) {i : Int} {w : Int32} {q : Nat} (hd : decode code pc = .ok (.bipush i, 2)) (hw : (Int8.ofInt i).toInt32 = w) (hp : pc + 2 = q) (K : Goes p e below F T (mkF m q L (.int w :: S))) : Goes p e below F T (mkF m pc L S) := by
  subst hw hp
  exact Goes.step (fun _ k => XS.bipush X.1.here X.2.1.1 (g := mkF m pc L S) rfl (hb X.2.1.2.1 hd) k) K
theorem o_sipush (X : On l Z EL p e R s m args below meth c y code maxL ret vm T h locs cells slots) {i : Int} {w : Int32} {q : Nat} (hd : decode code pc = .ok (.sipush i, 3)) (hw : (Int16.ofInt i).toInt32 = w) (hp : pc + 3 = q) (K : Goes p e below F T (mkF m q L (.int w :: S))) : Goes p e below F T (mkF m pc L S) := by
  subst hw hp
  exact Goes.step (fun _ k => XS.sipush X.1.here X.2.1.1 (g := mkF m pc L S) rfl (hb X.2.1.2.1 hd) k) K
theorem o_lconst (X : On l Z EL p e R s m args below meth c y code maxL ret vm T h locs cells slots) {i : Fin 2} {w : Int64} {q : Nat} (hd : decode code pc = .ok (.lconst i, 1)) (hw : Int64.ofNat i = w) (hp : pc + 1 = q) (K : Goes p e below F T (mkF m q L (.long w :: S))) : Goes p e below F T (mkF m pc L S) := by
  subst hw hp
  exact Goes.step (fun _ k => XS.lconst X.1.here X.2.1.1 (g := mkF m pc L S) rfl (hb X.2.1.2.1 hd) k) K
theorem o_null (X : On l Z EL p e R s m args below meth c y code maxL ret vm T h locs cells slots)  {q : Nat} (hd : decode code pc = .ok (.aconst_null, 1)) (hp : pc + 1 = q) (K : Goes p e below F T (mkF m q L (.null :: S))) : Goes p e below F T (mkF m pc L S) := by
  subst hp
  exact Goes.step (fun _ k => XS.aconstNull X.1.here X.2.1.1 (g := mkF m pc L S) rfl (hb X.2.1.2.1 hd)  k) K
theorem o_iadd (X : On l Z EL p e R s m args below meth c y code maxL ret vm T h locs cells slots) {x : Int32} {z : Int32} {w : Int32} {q : Nat} (hd : decode code pc = .ok (.iadd, 1)) (hw : x + z = w) (hp : pc + 1 = q) (K : Goes p e below F T (mkF m q L (.int w :: S))) : Goes p e below F T (mkF m pc L (.int z :: .int x :: S)) := by
  subst hw hp
  exact Goes.step (fun _ k => XS.iadd X.1.here X.2.1.1 (g := mkF m pc L (.int z :: .int x :: S)) rfl (hb X.2.1.2.1 hd) rfl  k) K
theorem o_isub (X : On l Z EL p e R s m args below meth c y code maxL ret vm T h locs cells slots) {x : Int32} {z : Int32} {w : Int32} {q : Nat} (hd : decode code pc = .ok (.isub, 1)) (hw : x - z = w) (hp : pc + 1 = q) (K : Goes p e below F T (mkF m q L (.int w :: S))) : Goes p e below F T (mkF m pc L (.int z :: .int x :: S)) := by
  subst hw hp
  exact Goes.step (fun _ k => XS.isub X.1.here X.2.1.1 (g := mkF m pc L (.int z :: .int x :: S)) rfl (hb X.2.1.2.1 hd) rfl  k) K
theorem o_imul (X : On l Z EL p e R s m args below meth c y code maxL ret vm T h locs cells slots) {x : Int32} {z : Int32} {w : Int32} {q : Nat} (hd : decode code pc = .ok (.imul, 1)) (hw : x * z = w) (hp : pc + 1 = q) (K : Goes p e below F T (mkF m q L (.int w :: S))) : Goes p e below F T (mkF m pc L (.int z :: .int x :: S)) := by
  subst hw hp
  exact Goes.step (fun _ k => XS.imul X.1.here X.2.1.1 (g := mkF m pc L (.int z :: .int x :: S)) rfl (hb X.2.1.2.1 hd) rfl  k) K
theorem o_iand (X : On l Z EL p e R s m args below meth c y code maxL ret vm T h locs cells slots) {x : Int32} {z : Int32} {w : Int32} {q : Nat} (hd : decode code pc = .ok (.iand, 1)) (hw : x &&& z = w) (hp : pc + 1 = q) (K : Goes p e below F T (mkF m q L (.int w :: S))) : Goes p e below F T (mkF m pc L (.int z :: .int x :: S)) := by
  subst hw hp
  exact Goes.step (fun _ k => XS.iand X.1.here X.2.1.1 (g := mkF m pc L (.int z :: .int x :: S)) rfl (hb X.2.1.2.1 hd) rfl  k) K
theorem o_ior (X : On l Z EL p e R s m args below meth c y code maxL ret vm T h locs cells slots) {x : Int32} {z : Int32} {w : Int32} {q : Nat} (hd : decode code pc = .ok (.ior, 1)) (hw : x ||| z = w) (hp : pc + 1 = q) (K : Goes p e below F T (mkF m q L (.int w :: S))) : Goes p e below F T (mkF m pc L (.int z :: .int x :: S)) := by
  subst hw hp
  exact Goes.step (fun _ k => XS.ior X.1.here X.2.1.1 (g := mkF m pc L (.int z :: .int x :: S)) rfl (hb X.2.1.2.1 hd) rfl  k) K
theorem o_ixor (X : On l Z EL p e R s m args below meth c y code maxL ret vm T h locs cells slots) {x : Int32} {z : Int32} {w : Int32} {q : Nat} (hd : decode code pc = .ok (.ixor, 1)) (hw : x ^^^ z = w) (hp : pc + 1 = q) (K : Goes p e below F T (mkF m q L (.int w :: S))) : Goes p e below F T (mkF m pc L (.int z :: .int x :: S)) := by
  subst hw hp
  exact Goes.step (fun _ k => XS.ixor X.1.here X.2.1.1 (g := mkF m pc L (.int z :: .int x :: S)) rfl (hb X.2.1.2.1 hd) rfl  k) K
theorem o_ishl (X : On l Z EL p e R s m args below meth c y code maxL ret vm T h locs cells slots) {x : Int32} {z : Int32} {w : Int32} {q : Nat} (hd : decode code pc = .ok (.ishl, 1)) (hw : x <<< (z &&& 31) = w) (hp : pc + 1 = q) (K : Goes p e below F T (mkF m q L (.int w :: S))) : Goes p e below F T (mkF m pc L (.int z :: .int x :: S)) := by
  subst hw hp
  exact Goes.step (fun _ k => XS.ishl X.1.here X.2.1.1 (g := mkF m pc L (.int z :: .int x :: S)) rfl (hb X.2.1.2.1 hd) rfl  k) K
theorem o_ishr (X : On l Z EL p e R s m args below meth c y code maxL ret vm T h locs cells slots) {x : Int32} {z : Int32} {w : Int32} {q : Nat} (hd : decode code pc = .ok (.ishr, 1)) (hw : x >>> (z &&& 31) = w) (hp : pc + 1 = q) (K : Goes p e below F T (mkF m q L (.int w :: S))) : Goes p e below F T (mkF m pc L (.int z :: .int x :: S)) := by
  subst hw hp
  exact Goes.step (fun _ k => XS.ishr X.1.here X.2.1.1 (g := mkF m pc L (.int z :: .int x :: S)) rfl (hb X.2.1.2.1 hd) rfl  k) K
theorem o_iushr (X : On l Z EL p e R s m args below meth c y code maxL ret vm T h locs cells slots) {x : Int32} {z : Int32} {w : Int32} {q : Nat} (hd : decode code pc = .ok (.iushr, 1)) (hw : (x.toUInt32 >>> (z &&& 31).toUInt32).toInt32 = w) (hp : pc + 1 = q) (K : Goes p e below F T (mkF m q L (.int w :: S))) : Goes p e below F T (mkF m pc L (.int z :: .int x :: S)) := by
  subst hw hp
  exact Goes.step (fun _ k => XS.iushr X.1.here X.2.1.1 (g := mkF m pc L (.int z :: .int x :: S)) rfl (hb X.2.1.2.1 hd) rfl  k) K
theorem o_ladd (X : On l Z EL p e R s m args below meth c y code maxL ret vm T h locs cells slots) {x : Int64} {z : Int64} {w : Int64} {q : Nat} (hd : decode code pc = .ok (.ladd, 1)) (hw : x + z = w) (hp : pc + 1 = q) (K : Goes p e below F T (mkF m q L (.long w :: S))) : Goes p e below F T (mkF m pc L (.long z :: .long x :: S)) := by
  subst hw hp
  exact Goes.step (fun _ k => XS.ladd X.1.here X.2.1.1 (g := mkF m pc L (.long z :: .long x :: S)) rfl (hb X.2.1.2.1 hd) rfl  k) K
theorem o_lsub (X : On l Z EL p e R s m args below meth c y code maxL ret vm T h locs cells slots) {x : Int64} {z : Int64} {w : Int64} {q : Nat} (hd : decode code pc = .ok (.lsub, 1)) (hw : x - z = w) (hp : pc + 1 = q) (K : Goes p e below F T (mkF m q L (.long w :: S))) : Goes p e below F T (mkF m pc L (.long z :: .long x :: S)) := by
  subst hw hp
  exact Goes.step (fun _ k => XS.lsub X.1.here X.2.1.1 (g := mkF m pc L (.long z :: .long x :: S)) rfl (hb X.2.1.2.1 hd) rfl  k) K
theorem o_lmul (X : On l Z EL p e R s m args below meth c y code maxL ret vm T h locs cells slots) {x : Int64} {z : Int64} {w : Int64} {q : Nat} (hd : decode code pc = .ok (.lmul, 1)) (hw : x * z = w) (hp : pc + 1 = q) (K : Goes p e below F T (mkF m q L (.long w :: S))) : Goes p e below F T (mkF m pc L (.long z :: .long x :: S)) := by
  subst hw hp
  exact Goes.step (fun _ k => XS.lmul X.1.here X.2.1.1 (g := mkF m pc L (.long z :: .long x :: S)) rfl (hb X.2.1.2.1 hd) rfl  k) K
theorem o_land (X : On l Z EL p e R s m args below meth c y code maxL ret vm T h locs cells slots) {x : Int64} {z : Int64} {w : Int64} {q : Nat} (hd : decode code pc = .ok (.land, 1)) (hw : x &&& z = w) (hp : pc + 1 = q) (K : Goes p e below F T (mkF m q L (.long w :: S))) : Goes p e below F T (mkF m pc L (.long z :: .long x :: S)) := by
  subst hw hp
  exact Goes.step (fun _ k => XS.land X.1.here X.2.1.1 (g := mkF m pc L (.long z :: .long x :: S)) rfl (hb X.2.1.2.1 hd) rfl  k) K
theorem o_lor (X : On l Z EL p e R s m args below meth c y code maxL ret vm T h locs cells slots) {x : Int64} {z : Int64} {w : Int64} {q : Nat} (hd : decode code pc = .ok (.lor, 1)) (hw : x ||| z = w) (hp : pc + 1 = q) (K : Goes p e below F T (mkF m q L (.long w :: S))) : Goes p e below F T (mkF m pc L (.long z :: .long x :: S)) := by
  subst hw hp
  exact Goes.step (fun _ k => XS.lor X.1.here X.2.1.1 (g := mkF m pc L (.long z :: .long x :: S)) rfl (hb X.2.1.2.1 hd) rfl  k) K
theorem o_lxor (X : On l Z EL p e R s m args below meth c y code maxL ret vm T h locs cells slots) {x : Int64} {z : Int64} {w : Int64} {q : Nat} (hd : decode code pc = .ok (.lxor, 1)) (hw : x ^^^ z = w) (hp : pc + 1 = q) (K : Goes p e below F T (mkF m q L (.long w :: S))) : Goes p e below F T (mkF m pc L (.long z :: .long x :: S)) := by
  subst hw hp
  exact Goes.step (fun _ k => XS.lxor X.1.here X.2.1.1 (g := mkF m pc L (.long z :: .long x :: S)) rfl (hb X.2.1.2.1 hd) rfl  k) K
theorem o_lshl (X : On l Z EL p e R s m args below meth c y code maxL ret vm T h locs cells slots) {x : Int64} {z : Int32} {w : Int64} {q : Nat} (hd : decode code pc = .ok (.lshl, 1)) (hw : x <<< (z &&& 0x3f).toInt64 = w) (hp : pc + 1 = q) (K : Goes p e below F T (mkF m q L (.long w :: S))) : Goes p e below F T (mkF m pc L (.int z :: .long x :: S)) := by
  subst hw hp
  exact Goes.step (fun _ k => XS.lshl X.1.here X.2.1.1 (g := mkF m pc L (.int z :: .long x :: S)) rfl (hb X.2.1.2.1 hd) rfl  k) K
theorem o_lshr (X : On l Z EL p e R s m args below meth c y code maxL ret vm T h locs cells slots) {x : Int64} {z : Int32} {w : Int64} {q : Nat} (hd : decode code pc = .ok (.lshr, 1)) (hw : x >>> (z &&& 0x3f).toInt64 = w) (hp : pc + 1 = q) (K : Goes p e below F T (mkF m q L (.long w :: S))) : Goes p e below F T (mkF m pc L (.int z :: .long x :: S)) := by
  subst hw hp
  exact Goes.step (fun _ k => XS.lshr X.1.here X.2.1.1 (g := mkF m pc L (.int z :: .long x :: S)) rfl (hb X.2.1.2.1 hd) rfl  k) K
theorem o_lushr (X : On l Z EL p e R s m args below meth c y code maxL ret vm T h locs cells slots) {x : Int64} {z : Int32} {w : Int64} {q : Nat} (hd : decode code pc = .ok (.lushr, 1)) (hw : (x.toUInt64 >>> (z &&& 0x3f).toInt64.toUInt64).toInt64 = w) (hp : pc + 1 = q) (K : Goes p e below F T (mkF m q L (.long w :: S))) : Goes p e below F T (mkF m pc L (.int z :: .long x :: S)) := by
  subst hw hp
  exact Goes.step (fun _ k => XS.lushr X.1.here X.2.1.1 (g := mkF m pc L (.int z :: .long x :: S)) rfl (hb X.2.1.2.1 hd) rfl  k) K
theorem o_idiv (X : On l Z EL p e R s m args below meth c y code maxL ret vm T h locs cells slots) {x : Int32} {z : Int32} {w : Int32} {q : Nat} (hd : decode code pc = .ok (.idiv, 1)) (hn : z ≠ 0) (hw : x / z = w) (hp : pc + 1 = q) (K : Goes p e below F T (mkF m q L (.int w :: S))) : Goes p e below F T (mkF m pc L (.int z :: .int x :: S)) := by
  subst hw hp
  exact Goes.step (fun _ k => XS.idiv X.1.here X.2.1.1 (g := mkF m pc L (.int z :: .int x :: S)) rfl (hb X.2.1.2.1 hd) rfl hn k) K
theorem o_irem (X : On l Z EL p e R s m args below meth c y code maxL ret vm T h locs cells slots) {x : Int32} {z : Int32} {w : Int32} {q : Nat} (hd : decode code pc = .ok (.irem, 1)) (hn : z ≠ 0) (hw : x % z = w) (hp : pc + 1 = q) (K : Goes p e below F T (mkF m q L (.int w :: S))) : Goes p e below F T (mkF m pc L (.int z :: .int x :: S)) := by
  subst hw hp
  exact Goes.step (fun _ k => iremM (g := mkF m pc L (.int z :: .int x :: S)) X.1 X.2.1.1 rfl (hb X.2.1.2.1 hd) rfl hn k) K
theorem o_lcmp (X : On l Z EL p e R s m args below meth c y code maxL ret vm T h locs cells slots) {x : Int64} {z : Int64} {w : Int32} {q : Nat} (hd : decode code pc = .ok (.lcmp, 1)) (hw : lcmpW x z = w) (hp : pc + 1 = q) (K : Goes p e below F T (mkF m q L (.int w :: S))) : Goes p e below F T (mkF m pc L (.long z :: .long x :: S)) := by
  subst hw hp
  exact Goes.step (fun _ k => XS.lcmp X.1.here X.2.1.1 (g := mkF m pc L (.long z :: .long x :: S)) rfl (hb X.2.1.2.1 hd) rfl  k) K
theorem o_ineg (X : On l Z EL p e R s m args below meth c y code maxL ret vm T h locs cells slots) {x : Int32} {w : Int32} {q : Nat} (hd : decode code pc = .ok (.ineg, 1)) (hw : -x = w) (hp : pc + 1 = q) (K : Goes p e below F T (mkF m q L (.int w :: S))) : Goes p e below F T (mkF m pc L (.int x :: S)) := by
  subst hw hp
  exact Goes.step (fun _ k => XS.ineg X.1.here X.2.1.1 (g := mkF m pc L (.int x :: S)) rfl (hb X.2.1.2.1 hd) rfl k) K
theorem o_lneg (X : On l Z EL p e R s m args below meth c y code maxL ret vm T h locs cells slots) {x : Int64} {w : Int64} {q : Nat} (hd : decode code pc = .ok (.lneg, 1)) (hw : -x = w) (hp : pc + 1 = q) (K : Goes p e below F T (mkF m q L (.long w :: S))) : Goes p e below F T (mkF m pc L (.long x :: S)) := by
  subst hw hp
  exact Goes.step (fun _ k => XS.lneg X.1.here X.2.1.1 (g := mkF m pc L (.long x :: S)) rfl (hb X.2.1.2.1 hd) rfl k) K
theorem o_i2l (X : On l Z EL p e R s m args below meth c y code maxL ret vm T h locs cells slots) {x : Int32} {w : Int64} {q : Nat} (hd : decode code pc = .ok (.i2l, 1)) (hw : x.toInt64 = w) (hp : pc + 1 = q) (K : Goes p e below F T (mkF m q L (.long w :: S))) : Goes p e below F T (mkF m pc L (.int x :: S)) := by
  subst hw hp
  exact Goes.step (fun _ k => XS.i2l X.1.here X.2.1.1 (g := mkF m pc L (.int x :: S)) rfl (hb X.2.1.2.1 hd) rfl k) K
theorem o_l2i (X : On l Z EL p e R s m args below meth c y code maxL ret vm T h locs cells slots) {x : Int64} {w : Int32} {q : Nat} (hd : decode code pc = .ok (.l2i, 1)) (hw : x.toInt32 = w) (hp : pc + 1 = q) (K : Goes p e below F T (mkF m q L (.int w :: S))) : Goes p e below F T (mkF m pc L (.long x :: S)) := by
  subst hw hp
  exact Goes.step (fun _ k => XS.l2i X.1.here X.2.1.1 (g := mkF m pc L (.long x :: S)) rfl (hb X.2.1.2.1 hd) rfl k) K
theorem o_i2b (X : On l Z EL p e R s m args below meth c y code maxL ret vm T h locs cells slots) {x : Int32} {w : Int32} {q : Nat} (hd : decode code pc = .ok (.i2b, 1)) (hw : x.toInt8.toInt32 = w) (hp : pc + 1 = q) (K : Goes p e below F T (mkF m q L (.int w :: S))) : Goes p e below F T (mkF m pc L (.int x :: S)) := by
  subst hw hp
  exact Goes.step (fun _ k => XS.i2b X.1.here X.2.1.1 (g := mkF m pc L (.int x :: S)) rfl (hb X.2.1.2.1 hd) rfl k) K
theorem o_i2c (X : On l Z EL p e R s m args below meth c y code maxL ret vm T h locs cells slots) {x : Int32} {w : Int32} {q : Nat} (hd : decode code pc = .ok (.i2c, 1)) (hw : x.toUInt32.toUInt16.toUInt32.toInt32 = w) (hp : pc + 1 = q) (K : Goes p e below F T (mkF m q L (.int w :: S))) : Goes p e below F T (mkF m pc L (.int x :: S)) := by
  subst hw hp
  exact Goes.step (fun _ k => XS.i2c X.1.here X.2.1.1 (g := mkF m pc L (.int x :: S)) rfl (hb X.2.1.2.1 hd) rfl k) K
theorem o_i2s (X : On l Z EL p e R s m args below meth c y code maxL ret vm T h locs cells slots) {x : Int32} {w : Int32} {q : Nat} (hd : decode code pc = .ok (.i2s, 1)) (hw : x.toInt16.toInt32 = w) (hp : pc + 1 = q) (K : Goes p e below F T (mkF m q L (.int w :: S))) : Goes p e below F T (mkF m pc L (.int x :: S)) := by
  subst hw hp
  exact Goes.step (fun _ k => XS.i2s X.1.here X.2.1.1 (g := mkF m pc L (.int x :: S)) rfl (hb X.2.1.2.1 hd) rfl k) K
theorem o_dup (X : On l Z EL p e R s m args below meth c y code maxL ret vm T h locs cells slots) {x : Value} {q : Nat} (hd : decode code pc = .ok (.dup, 1)) (hc : x.category = 1) (hp : pc + 1 = q) (K : Goes p e below F T (mkF m q L (x :: x :: S))) : Goes p e below F T (mkF m pc L (x :: S)) := by
  subst hp
  exact Goes.step (fun _ k => XS.dup X.1.here X.2.1.1 (g := mkF m pc L (x :: S)) rfl (hb X.2.1.2.1 hd) rfl hc k) K
theorem o_pop (X : On l Z EL p e R s m args below meth c y code maxL ret vm T h locs cells slots) {x : Value} {q : Nat} (hd : decode code pc = .ok (.pop, 1)) (hc : x.category = 1) (hp : pc + 1 = q) (K : Goes p e below F T (mkF m q L S)) : Goes p e below F T (mkF m pc L (x :: S)) := by
  subst hp
  exact Goes.step (fun _ k => XS.pop X.1.here X.2.1.1 (g := mkF m pc L (x :: S)) rfl (hb X.2.1.2.1 hd) rfl hc k) K
theorem o_dupX1 (X : On l Z EL p e R s m args below meth c y code maxL ret vm T h locs cells slots) {x z : Value} {q : Nat} (hd : decode code pc = .ok (.dup_x1, 1)) (hc : x.category = 1) (hc' : z.category = 1) (hp : pc + 1 = q) (K : Goes p e below F T (mkF m q L (x :: z :: x :: S))) : Goes p e below F T (mkF m pc L (x :: z :: S)) := by
  subst hp
  exact Goes.step (fun _ k => XS.dupX1 X.1.here X.2.1.1 (g := mkF m pc L (x :: z :: S)) rfl (hb X.2.1.2.1 hd) rfl hc hc' k) K
theorem o_dup2 (X : On l Z EL p e R s m args below meth c y code maxL ret vm T h locs cells slots) {x z : Value} {q : Nat} (hd : decode code pc = .ok (.dup2, 1)) (hc : x.category = 1) (hc' : z.category = 1) (hp : pc + 1 = q) (K : Goes p e below F T (mkF m q L (x :: z :: x :: z :: S))) : Goes p e below F T (mkF m pc L (x :: z :: S)) := by
  subst hp
  exact Goes.step (fun _ k => Jvm.Free.XT.dup2 X.1.here X.2.1.1 (g := mkF m pc L (x :: z :: S)) rfl (hb X.2.1.2.1 hd) rfl hc hc' k) K
theorem o_iinc (X : On l Z EL p e R s m args below meth c y code maxL ret vm T h locs cells slots) {k : Nat} {i : Int} {x z : Int32} {q : Nat} (hd : decode code pc = .ok (.iinc k i, 3)) (hl : L[k]? = some (.val (.int x))) (hz : x + Int32.ofInt i = z) (hl' : storeLocals L k (.int z) = some L') (hp : pc + 3 = q) (K : Goes p e below F T (mkF m q L' S)) : Goes p e below F T (mkF m pc L S) := by
  subst hz hp
  exact Goes.step (fun _ k => XS.iinc X.1.here X.2.1.1 (g := mkF m pc L S) rfl (hb X.2.1.2.1 hd) hl hl' k) K
theorem o_goto (X : On l Z EL p e R s m args below meth c y code maxL ret vm T h locs cells slots) {i : Int} {q : Nat} (hd : decode code pc = .ok (.goto i, 3)) (ho : 0 ≤ (pc : Int) + i) (hp : ((pc : Int) + i).toNat = q) (K : Goes p e below F T (mkF m q L S)) : Goes p e below F T (mkF m pc L S) := Goes.step (fun _ k => XS.goto X.1.here X.2.1.1 (g := mkF m pc L S) (pc0 := pc) rfl rfl (hb X.2.1.2.1 hd) ho hp k) K
theorem o_ifY (X : On l Z EL p e R s m args below meth c y code maxL ret vm T h locs cells slots) {cd : ClassFile.Cond} {i : Int} {x : Int32} {q : Nat} (hd : decode code pc = .ok (.ifCond cd i, 3)) (hc : if_icmp.holds cd x 0 = true) (ho : 0 ≤ (pc : Int) + i) (hp : ((pc : Int) + i).toNat = q) (K : Goes p e below F T (mkF m q L S)) : Goes p e below F T (mkF m pc L (.int x :: S)) := Goes.step (fun _ k => XS.ifYes X.1.here X.2.1.1 (g := mkF m pc L (.int x :: S)) rfl (pc0 := pc) rfl (hb X.2.1.2.1 hd) rfl ((if0 _ _).trans hc) ho hp k) K
theorem o_ifN (X : On l Z EL p e R s m args below meth c y code maxL ret vm T h locs cells slots) {cd : ClassFile.Cond} {i : Int} {x : Int32} {q : Nat} (hd : decode code pc = .ok (.ifCond cd i, 3)) (hc : if_icmp.holds cd x 0 = false) (hp : pc + 3 = q) (K : Goes p e below F T (mkF m q L S)) : Goes p e below F T (mkF m pc L (.int x :: S)) := by
  subst hp
  exact Goes.step (fun _ k => XS.ifNo X.1.here X.2.1.1 (g := mkF m pc L (.int x :: S)) rfl (hb X.2.1.2.1 hd) rfl ((if0 _ _).trans hc) k) K
theorem o_icmpY (X : On l Z EL p e R s m args below meth c y code maxL ret vm T h locs cells slots) {cd : ClassFile.Cond} {i : Int} {x z : Int32} {q : Nat} (hd : decode code pc = .ok (.if_icmp cd i, 3)) (hc : if_icmp.holds cd x z = true) (ho : 0 ≤ (pc : Int) + i) (hp : ((pc : Int) + i).toNat = q) (K : Goes p e below F T (mkF m q L S)) : Goes p e below F T (mkF m pc L (.int z :: .int x :: S)) := Goes.step (fun _ k => XS.icmpYes X.1.here X.2.1.1 (g := mkF m pc L (.int z :: .int x :: S)) rfl (pc0 := pc) rfl (hb X.2.1.2.1 hd) rfl hc ho hp k) K
theorem o_icmpN (X : On l Z EL p e R s m args below meth c y code maxL ret vm T h locs cells slots) {cd : ClassFile.Cond} {i : Int} {x z : Int32} {q : Nat} (hd : decode code pc = .ok (.if_icmp cd i, 3)) (hc : if_icmp.holds cd x z = false) (hp : pc + 3 = q) (K : Goes p e below F T (mkF m q L S)) : Goes p e below F T (mkF m pc L (.int z :: .int x :: S)) := by
  subst hp
  exact Goes.step (fun _ k => XS.icmpNo X.1.here X.2.1.1 (g := mkF m pc L (.int z :: .int x :: S)) rfl (hb X.2.1.2.1 hd) rfl hc k) K
theorem o_ifnullY (X : On l Z EL p e R s m args below meth c y code maxL ret vm T h locs cells slots) {i : Int} {q : Nat} (hd : decode code pc = .ok (.ifnull i, 3)) (ho : 0 ≤ (pc : Int) + i) (hp : ((pc : Int) + i).toNat = q) (K : Goes p e below F T (mkF m q L S)) : Goes p e below F T (mkF m pc L (.null :: S)) := Goes.step (fun _ k => XS.ifnullYes X.1.here X.2.1.1 (g := mkF m pc L (.null :: S)) rfl (pc0 := pc) rfl (hb X.2.1.2.1 hd) rfl ho hp k) K
theorem o_ifnullN (X : On l Z EL p e R s m args below meth c y code maxL ret vm T h locs cells slots) {i : Int} {q : Nat} {b : Addr} (hd : decode code pc = .ok (.ifnull i, 3)) (hp : pc + 3 = q) (K : Goes p e below F T (mkF m q L S)) : Goes p e below F T (mkF m pc L ((.ref b) :: S)) := by
  subst hp
  exact Goes.step (fun _ k => XS.ifnullNo X.1.here X.2.1.1 (g := mkF m pc L ((.ref b) :: S)) rfl (hb X.2.1.2.1 hd) rfl k) K
theorem o_ifnonnullY (X : On l Z EL p e R s m args below meth c y code maxL ret vm T h locs cells slots) {i : Int} {q : Nat} {b : Addr} (hd : decode code pc = .ok (.ifnonnull i, 3)) (ho : 0 ≤ (pc : Int) + i) (hp : ((pc : Int) + i).toNat = q) (K : Goes p e below F T (mkF m q L S)) : Goes p e below F T (mkF m pc L ((.ref b) :: S)) := Goes.step (fun _ k => XS.ifnonnullYes X.1.here X.2.1.1 (g := mkF m pc L ((.ref b) :: S)) rfl (pc0 := pc) rfl (hb X.2.1.2.1 hd) rfl ho hp k) K
theorem o_ifnonnullN (X : On l Z EL p e R s m args below meth c y code maxL ret vm T h locs cells slots) {i : Int} {q : Nat} (hd : decode code pc = .ok (.ifnonnull i, 3)) (hp : pc + 3 = q) (K : Goes p e below F T (mkF m q L S)) : Goes p e below F T (mkF m pc L (.null :: S)) := by
  subst hp
  exact Goes.step (fun _ k => XS.ifnonnullNo X.1.here X.2.1.1 (g := mkF m pc L (.null :: S)) rfl (hb X.2.1.2.1 hd) rfl k) K
theorem o_acmp (X : On l Z EL p e R s m args below meth c y code maxL ret vm T h locs cells slots) {cd : ACond} {i : Int} {x z : Value} {q : Nat} {same : Bool} (hd : decode code pc = .ok (.if_acmp cd i, 3)) (h1 : x.isRef = true) (h2 : z.isRef = true) (hq : decide (x = z) = same) (ho : 0 ≤ (pc : Int) + i) (hp : q = if acV cd same = true then ((pc : Int) + i).toNat else pc + 3) (K : Goes p e below F T (mkF m q L S)) : Goes p e below F T (mkF m pc L (z :: x :: S)) := Goes.step (fun _ k => Jvm.RoadKit.acmp (g := mkF m pc L (z :: x :: S)) X.1 X.2.1.1 rfl h1 h2 (pc0 := pc) rfl (hb X.2.1.2.1 hd) rfl hq ho hp k) K
theorem o_ldcI (X : On l Z EL p e R s m args below meth c y code maxL ret vm T h locs cells slots) {index : Nat} {v : Int32} {q : Nat} (w : (Jvm.Cond.constant y.cls index v).before a0 Z = true) (hd : decode code pc = .ok (.ldc index, 2)) (hp : pc + 2 = q) (K : Goes p e below F T (mkF m q L (.int v :: S))) : Goes p e below F T (mkF m pc L S) := by
  subst hp
  exact Goes.step (X.1.ldcInt X.2.1.1 X.2.1.2.2.2.1 (mvT (s := s.setVm vm) X.2.1.2.2.1 w) (g := mkF m pc L S) rfl (hb X.2.1.2.1 hd)) K
theorem o_ldcJ (X : On l Z EL p e R s m args below meth c y code maxL ret vm T h locs cells slots) {index : Nat} {v : Int64} {q : Nat} (w : (Jvm.Cond.constantLong y.cls index v).before a0 Z = true) (hd : decode code pc = .ok (.ldc2_w index, 3)) (hp : pc + 3 = q) (K : Goes p e below F T (mkF m q L (.long v :: S))) : Goes p e below F T (mkF m pc L S) := by
  subst hp
  exact Goes.step (X.1.ldc2Long X.2.1.1 X.2.1.2.2.2.1 (mvT (s := s.setVm vm) X.2.1.2.2.1 w) (g := mkF m pc L S) rfl (hb X.2.1.2.1 hd)) K
theorem o_ldcS (X : On l Z EL p e R s m args below meth c y code maxL ret vm T h locs cells slots) {text : String} {index q n : Nat} {vs : List Value} {z : Int32} (w : (Jvm.Cond.stringLink y.cls index text).before a0 Z = true) (wS : ∀ a ∈ Bundle.stringAtoms, a.before a0 Z = true) (hmem : (y.cls, index) ∈ EL) (ht : (∀ c ∈ text.toList, c.toNat < 256) ∧ text.toList.map (fun c => Value.int (Jvm.Lit.byteI c.toNat.toUInt16)) = vs) (hz : ¬ z < 0) (hl : z.toNatClampNeg = vs.length) (hd : decode code pc = .ok (.ldc index, 2)) (hn : 4 * text.toList.length ≤ n) (hbig : n ≤ 536870912) (hc : cells + 2 ≤ R.cells) (hl' : slots + (n + 4) ≤ R.slots) (hp : pc + 2 = q)
    (K : ∀ (vm' : Vm) (T' : State) (h' : Heap) (a b : Addr) (k : ClassId), On l Z EL p e R s m args below meth c y code maxL ret vm' T' h' locs (cells + 2) (slots + (n + 4)) → Ext h h' → CHr Z EL vm h vm' h' → Exa Z h' a "java/lang/String" → Fld Z h' a "java/lang/String" "coder" "B" (.int 0) → Fld Z h' a "java/lang/String" "value" "[B" (.ref b) → Arv Z h' b k .byte z vs (.int 0) → (∀ x, Safe Z EL vm' h' x → x ≠ a ∧ x ≠ b) → Goes p e below F T' (mkF m q L (.ref a :: S))) : Goes p e below F T (mkF m pc L S) := by
  subst hp
  obtain ⟨X1, C1, e1, N1, E1, ⟨k0, s0, q0⟩, H1, ⟨a1, hw⟩⟩ := X
  have hEL : EW Z a0 EL := fun p hp => by
    obtain ⟨t, q1, q2⟩ := hw p hp
    exact ⟨t, by simpa [Cond.before, Cond.holds, Cond.value] using q1, q2⟩
  obtain ⟨a, T', h', k1, b, k, X', e', E', S', q', hZ', ho', r1, r2, r3, r4, -, -, R', -, r5, st⟩ := ldcCH X1 C1.1 C1.2.2.1 C1.2.2.2.1 w wS e1 s0 q0 hEL hmem H1.1 ht hz hl (g := mkF m pc L S) rfl (hb C1.2.1 hd) hn hbig hc hl'
  exact Goes.step st (K T'.vm T' h' a b k ⟨X', ⟨C1.1, C1.2.1, hZ', ho', C1.2.2.2.2⟩, e', N1, ext_trans E1 E', ⟨k1, S', q'⟩, H1.trans R', ⟨a1, hw⟩⟩ E' R' r1 r2 r3 r4 r5)
theorem o_ldcO (X : On l Z EL p e R s m args below meth c y code maxL ret vm T h locs cells slots) {text : String} {index q n : Nat} (w : (Jvm.Cond.stringLink y.cls index text).before a0 Z = true) (wS : ∀ a ∈ Bundle.stringAtoms, a.before a0 Z = true) (hd : decode code pc = .ok (.ldc index, 2)) (hn : 4 * text.toList.length ≤ n) (hbig : n ≤ 536870912) (hc : cells + 2 ≤ R.cells) (hl' : slots + (n + 4) ≤ R.slots) (hp : pc + 2 = q)
    (K : ∀ (vm' : Vm) (T' : State) (h' : Heap) (a : Addr), On l Z EL p e R s m args below meth c y code maxL ret vm' T' h' locs (cells + 2) (slots + (n + 4)) → Ext h h' → CHr Z EL vm h vm' h' → Goes p e below F T' (mkF m q L (.ref a :: S))) : Goes p e below F T (mkF m pc L S) := by
  subst hp
  obtain ⟨X1, C1, e1, N1, E1, ⟨k0, s0, q0⟩, H1, ⟨a1, hw⟩⟩ := X
  have hEL : EW Z a0 EL := fun p hp => by
    obtain ⟨t, q1, q2⟩ := hw p hp
    exact ⟨t, by simpa [Cond.before, Cond.holds, Cond.value] using q1, q2⟩
  obtain ⟨a, T', h', k1, X', e', E', S', q', hZ', ho', R', -, st⟩ := ldcOH X1 C1.1 C1.2.2.1 C1.2.2.2.1 w wS e1 s0 q0 hEL H1.1 (g := mkF m pc L S) rfl (hb C1.2.1 hd) hn hbig hc hl'
  exact Goes.step st (K T'.vm T' h' a ⟨X', ⟨C1.1, C1.2.1, hZ', ho', C1.2.2.2.2⟩, e', N1, ext_trans E1 E', ⟨k1, S', q'⟩, H1.trans R', ⟨a1, hw⟩⟩ E' R')
theorem o_new (X : On l Z EL p e R s m args below meth c y code maxL ret vm T h locs cells slots) {C : String} {index n q : Nat} (w : (Jvm.Cond.classLink y.cls index C).before a0 Z = true) (wi : (Jvm.Cond.instantiable C n).before a0 Z = true) (wz : (Jvm.Cond.initialized C).before a0 Z = true) (hd : decode code pc = .ok (.new index, 3)) (hc : cells + 1 ≤ R.cells) (hl : slots + n ≤ R.slots) (hp : pc + 3 = q)
    (K : ∀ (T' : State) (h' : Heap) (a : Addr), a = h.size → On l Z EL p e R s m args below meth c y code maxL ret vm T' h' locs (cells + 1) (slots + n) → Ext h h' → CHr Z EL vm h vm h' → Safe Z EL vm h' a → Exa Z h' a C → (∀ {O nm d : String} {ty : FieldType}, Laid Z a0 C O nm d → parseFieldDescriptor d = some ty → Fld Z h' a O nm d (defaultValue ty)) → Z.heap.size ≤ a → Goes p e below F T' (mkF m q L (.ref a :: S))) : Goes p e below F T (mkF m pc L S) := by
  subst hp
  obtain ⟨T', h', X', e', E', A', D', -, st⟩ := newO X.1 X.2.1.1 (show Z.Warmed39 (s.setVm vm).vm from X.2.1.2.2.1) X.2.1.2.2.2.1 w wi wz X.2.2.1 (g := mkF m pc L S) rfl (hb X.2.1.2.1 hd) hc hl
  exact Goes.step st (K T' h' h.size rfl (X.later X' e' X.2.2.2.1 (ext_trans X.ext E') (CHr.ext E' X.chv)) E' (CHr.ext E' X.chv) (Safe.ext E' X.chv (Safe.new (Nat.le_refl _))) A' D' X.size)
theorem o_newarr (X : On l Z EL p e R s m args below meth c y code maxL ret vm T h locs cells slots) {aty : ArrayType} {n : Int32} {cap q : Nat} (N : Nat) (w : (Jvm.Cond.arrayClass (newarray.typeOf aty)).before a0 Z = true) (hd : decode code pc = .ok (.newarray aty, 2)) (hn : ¬ n < 0) (hcap : n.toNatClampNeg ≤ cap) (hb8 : cap * 8 ≤ 536870912) (hc : cells + 1 ≤ R.cells) (hl : slots + cap ≤ R.slots) (hp : pc + 2 = q)
    (K : ∀ (T' : State) (h' : Heap) (a : Addr) (k : ClassId), a = h.size → On l Z EL p e R s m args below meth c y code maxL ret vm T' h' locs (cells + 1) (slots + cap) → Ext h h' → CHr Z EL vm h vm h' → Safe Z EL vm h' a → Arv Z h' a k (newarray.typeOf aty) n (List.replicate N (defaultValue (newarray.typeOf aty))) (defaultValue (newarray.typeOf aty)) → Z.heap.size ≤ a → Goes p e below F T' (mkF m q L (.ref a :: S))) : Goes p e below F T (mkF m pc L (.int n :: S)) := by
  subst hp
  obtain ⟨T', h', k, X', e', E', A', st⟩ := newP X.1 X.2.1.1 (show Z.Warmed39 (s.setVm vm).vm from X.2.1.2.2.1) w X.2.2.1 (g := mkF m pc L (.int n :: S)) rfl (hb X.2.1.2.1 hd) rfl hn hcap hb8 hc hl
  exact Goes.step st (K T' h' h.size k rfl (X.later X' e' X.2.2.2.1 (ext_trans X.ext E') (CHr.ext E' X.chv)) E' (CHr.ext E' X.chv) (Safe.ext E' X.chv (Safe.new (Nat.le_refl _))) ((Arv.new A' hn).pad (pad_rep [] _ N)) X.size)
theorem o_getF (X : On l Z EL p e R s m args below meth c y code maxL ret vm T h locs cells slots) {R0 O n d host : String} {index q : Nat} {a : Addr} {v : Value} (Fx : Fld Z h a O n d v) (w : (Jvm.Cond.fieldLink y.cls index R0 n d).before a0 Z = true ∨ (Jvm.Cond.fieldLinkNest y.cls index R0 n d host).before a0 Z = true) (via : Via Z R0 O n d) (hd : decode code pc = .ok (.getfield index, 3)) (hp : pc + 3 = q)
    (K : ∀ T' : State, On l Z EL p e R s m args below meth c y code maxL ret vm T' h locs cells slots → Goes p e below F T' (mkF m q L (v :: S))) : Goes p e below F T (mkF m pc L (.ref a :: S)) := by
  subst hp
  obtain ⟨T', X', e', st⟩ := getF X.1 X.2.1.1 (show Z.Warmed39 (s.setVm vm).vm from X.2.1.2.2.1) X.2.1.2.2.2.1 w via X.2.2.1 Fx (g := mkF m pc L (.ref a :: S)) rfl rfl (hb X.2.1.2.1 hd)
  exact Goes.step st (K T' (X.later X' e' X.2.2.2.1 X.ext (CHr.refl X.chv)))
theorem o_getS (X : On l Z EL p e R s m args below meth c y code maxL ret vm T h locs cells slots) {R0 O n d host : String} {index q : Nat} {v : Value} (Fx : Sta Z Z.heap O n d v) (w : (Jvm.Cond.fieldLink y.cls index R0 n d).before a0 Z = true ∨ (Jvm.Cond.fieldLinkNest y.cls index R0 n d host).before a0 Z = true) (via : Via Z R0 O n d) (hd : decode code pc = .ok (.getstatic index, 3)) (hp : pc + 3 = q)
    (K : ∀ T' : State, On l Z EL p e R s m args below meth c y code maxL ret vm T' h locs cells slots → Goes p e below F T' (mkF m q L (v :: S))) : Goes p e below F T (mkF m pc L S) := by
  subst hp
  obtain ⟨T', X', e', st⟩ := getS2 X.1 X.2.1.1 (show Z.Warmed39 (s.setVm vm).vm from X.2.1.2.2.1) X.2.1.2.2.2.1 w via X.2.2.1 (Fx.ext X.ext) (g := mkF m pc L S) rfl (hb X.2.1.2.1 hd)
  exact Goes.step st (K T' (X.later X' e' X.2.2.2.1 X.ext (CHr.refl X.chv)))
theorem o_putF (X : On l Z EL p e R s m args below meth c y code maxL ret vm T h locs cells slots) {R0 O n d host C : String} {index kk q : Nat} {ty : FieldType} {a : Addr} {v old : Value} (Fx : Fld Z h a O n d old) (E : Exa Z h a C) (ha : Z.heap.size ≤ a) (hsf : Safe Z EL vm h a) (w : (Jvm.Cond.fieldLink y.cls index R0 n d).before a0 Z = true ∨ (Jvm.Cond.fieldLinkNest y.cls index R0 n d host).before a0 Z = true) (via : Via Z R0 O n d)
    (Lw : (Jvm.Cond.lays C O n d).before a0 Z = true ∨ ((Jvm.Cond.laysFinal C O n d).before a0 Z = true ∧ y.cls = O ∧ y.name = "<init>")) (wi : (Jvm.Cond.instantiable C kk).before a0 Z = true) (hty : parseFieldDescriptor d = some ty) (hn : narrow ty v = v) (hf : fits ty v = true) (hd : decode code pc = .ok (.putfield index, 3)) (hp : pc + 3 = q)
    (K : ∀ (T' : State) (h' : Heap) (locs' : List Loc), On l Z EL p e R s m args below meth c y code maxL ret vm T' h' locs' cells slots → Wr h h' a (Jvm.RoadKit.slotOf Z O n d) v → CHr Z EL vm h vm h' → Fld Z h' a O n d v → Goes p e below F T' (mkF m q L S)) : Goes p e below F T (mkF m pc L (v :: .ref a :: S)) := by
  subst hp
  obtain ⟨T', h', X', e', W', st⟩ := putF X.1 X.2.1.1 (show Z.Warmed39 (s.setVm vm).vm from X.2.1.2.2.1) X.2.1.2.2.2.1 w via X.2.2.1 Fx E (Lw.imp_right fun q => ⟨q.1, q.2.1, X.2.1.2.2.2.2.2.2.1.trans q.2.2⟩) wi hty hn hf (g := mkF m pc L (v :: .ref a :: S)) rfl rfl (hb X.2.1.2.1 hd)
  exact Goes.step st (K T' h' _ (X.later X' e' (Fr.snoc X' X.2.2.2.1 ha) (ext_wr X.ext W' ha) (CHr.wr W' hsf X.chv)) W' (CHr.wr W' hsf X.chv) (Fx.same W'))
theorem o_len (X : On l Z EL p e R s m args below meth c y code maxL ret vm T h locs cells slots) {a : Addr} {k : ClassId} {ty : FieldType} {n : Int32} {vs : List Value} {dv : Value} {q : Nat} (A : Arv Z h a k ty n vs dv) (hd : decode code pc = .ok (.arraylength, 1)) (hp : pc + 1 = q) (K : Goes p e below F T (mkF m q L (.int n :: S))) : Goes p e below F T (mkF m pc L (.ref a :: S)) := by
  subst hp
  obtain ⟨cl, Ar, -, Sz, Nn, -⟩ := A
  refine Goes.step (X.1.arraylength X.2.1.1 (by rw [X.2.2.1]; exact Ar.1) (State.isArrayOf_alike X.alike Ar.2.1) (g := mkF m pc L (.ref a :: S)) rfl rfl (hb X.2.1.2.1 hd)) ?_
  rw [len_of Sz Nn]
  exact K
theorem o_iaload (X : On l Z EL p e R s m args below meth c y code maxL ret vm T h locs cells slots) {a : Addr} {k : ClassId} {n j : Int32} {vs : List Value} {dv v : Value} {q : Nat} (A : Arv Z h a k .int n vs dv) (hj : ¬ j < 0 ∧ j < n) (hv : vs.getD j.toNatClampNeg dv = v) (hd : decode code pc = .ok (.iaload, 1)) (hp : pc + 1 = q) (K : Goes p e below F T (mkF m q L (v :: S))) : Goes p e below F T (mkF m pc L (.int j :: .ref a :: S)) := by
  subst hp
  obtain ⟨cl, Ar, -, Sz, Nn, H, -⟩ := A
  have hin := inb_of Sz hj
  exact Goes.step (X.1.iaload X.2.1.1 (j := j) (v := v) (by rw [X.2.2.1]; exact Ar.1) (State.isArrayOf_alike X.alike Ar.2.1) Ar.2.2 hin (H.at hin hv) (g := mkF m pc L (.int j :: .ref a :: S)) rfl rfl (hb X.2.1.2.1 hd)) K
theorem o_laload (X : On l Z EL p e R s m args below meth c y code maxL ret vm T h locs cells slots) {a : Addr} {k : ClassId} {n j : Int32} {vs : List Value} {dv v : Value} {q : Nat} (A : Arv Z h a k .long n vs dv) (hj : ¬ j < 0 ∧ j < n) (hv : vs.getD j.toNatClampNeg dv = v) (hd : decode code pc = .ok (.laload, 1)) (hp : pc + 1 = q) (K : Goes p e below F T (mkF m q L (v :: S))) : Goes p e below F T (mkF m pc L (.int j :: .ref a :: S)) := by
  subst hp
  obtain ⟨cl, Ar, -, Sz, Nn, H, -⟩ := A
  have hin := inb_of Sz hj
  exact Goes.step (X.1.laload X.2.1.1 (j := j) (v := v) (by rw [X.2.2.1]; exact Ar.1) (State.isArrayOf_alike X.alike Ar.2.1) Ar.2.2 hin (H.at hin hv) (g := mkF m pc L (.int j :: .ref a :: S)) rfl rfl (hb X.2.1.2.1 hd)) K
theorem o_caload (X : On l Z EL p e R s m args below meth c y code maxL ret vm T h locs cells slots) {a : Addr} {k : ClassId} {n j : Int32} {vs : List Value} {dv v : Value} {q : Nat} (A : Arv Z h a k .char n vs dv) (hj : ¬ j < 0 ∧ j < n) (hv : vs.getD j.toNatClampNeg dv = v) (hd : decode code pc = .ok (.caload, 1)) (hp : pc + 1 = q) (K : Goes p e below F T (mkF m q L (v :: S))) : Goes p e below F T (mkF m pc L (.int j :: .ref a :: S)) := by
  subst hp
  obtain ⟨cl, Ar, -, Sz, Nn, H, -⟩ := A
  have hin := inb_of Sz hj
  exact Goes.step (X.1.caload X.2.1.1 (j := j) (v := v) (by rw [X.2.2.1]; exact Ar.1) (State.isArrayOf_alike X.alike Ar.2.1) Ar.2.2 hin (H.at hin hv) (g := mkF m pc L (.int j :: .ref a :: S)) rfl rfl (hb X.2.1.2.1 hd)) K
theorem o_baload (X : On l Z EL p e R s m args below meth c y code maxL ret vm T h locs cells slots) {a : Addr} {k : ClassId} {n j : Int32} {vs : List Value} {dv v : Value} {q : Nat} (A : Arv Z h a k .byte n vs dv) (hj : ¬ j < 0 ∧ j < n) (hv : vs.getD j.toNatClampNeg dv = v) (hd : decode code pc = .ok (.baload, 1)) (hp : pc + 1 = q) (K : Goes p e below F T (mkF m q L (v :: S))) : Goes p e below F T (mkF m pc L (.int j :: .ref a :: S)) := by
  subst hp
  obtain ⟨cl, Ar, -, Sz, Nn, H, -⟩ := A
  have hin := inb_of Sz hj
  exact Goes.step (X.1.baloadBytes X.2.1.1 (j := j) (v := v) (by rw [X.2.2.1]; exact Ar.1) (State.isArrayOf_alike X.alike Ar.2.1) Ar.2.2 hin (H.at hin hv) (g := mkF m pc L (.int j :: .ref a :: S)) rfl rfl (hb X.2.1.2.1 hd)) K
theorem o_aaload (X : On l Z EL p e R s m args below meth c y code maxL ret vm T h locs cells slots) {a : Addr} {k : ClassId} {ty : FieldType} {n j : Int32} {vs : List Value} {dv v : Value} {q : Nat} (A : Arv Z h a k ty n vs dv) (hty : ty.isReference = true) (hj : ¬ j < 0 ∧ j < n) (hv : vs.getD j.toNatClampNeg dv = v) (hd : decode code pc = .ok (.aaload, 1)) (hp : pc + 1 = q) (K : Goes p e below F T (mkF m q L (v :: S))) : Goes p e below F T (mkF m pc L (.int j :: .ref a :: S)) := by
  subst hp
  obtain ⟨cl, Ar, -, Sz, Nn, H, -⟩ := A
  have hin := inb_of Sz hj
  exact Goes.step (X.1.aaload X.2.1.1 (j := j) (v := v) (by rw [X.2.2.1]; exact Ar.1) (State.isArrayOf_alike X.alike Ar.2.1) hty Ar.2.2 hin (H.at hin hv) (g := mkF m pc L (.int j :: .ref a :: S)) rfl rfl (hb X.2.1.2.1 hd)) K
theorem o_iastore (X : On l Z EL p e R s m args below meth c y code maxL ret vm T h locs cells slots) {a : Addr} {k : ClassId} {n j : Int32} {x : Int32} {v : Value} {vs : List Value} {dv : Value} {q : Nat} (i : Nat) (A : Arv Z h a k .int n vs dv) (ha : Z.heap.size ≤ a) (hsf : Safe Z EL vm h a) (hj : ¬ j < 0 ∧ j < n) (hi : j.toNatClampNeg = i) (hlt : i < vs.length) (hv : (.int x : Value) = v) (hd : decode code pc = .ok (.iastore, 1)) (hp : pc + 1 = q)
    (K : ∀ (T' : State) (h' : Heap) (locs' : List Loc), On l Z EL p e R s m args below meth c y code maxL ret vm T' h' locs' cells slots → Wr h h' a i v → CHr Z EL vm h vm h' → Arv Z h' a k .int n (vs.set i v) dv → Goes p e below F T' (mkF m q L S)) : Goes p e below F T (mkF m pc L (.int x :: .int j :: .ref a :: S)) := by
  subst hp hv
  obtain ⟨cl, Ar, q1, Sz, Nn, H, G⟩ := A
  obtain ⟨T', h', X', e', W', st⟩ := stI X.1 X.2.1.1 (show Z.Warmed39 (s.setVm vm).vm from X.2.1.2.2.1) X.2.2.1 Ar (j := j) (inb_of Sz hj) (g := mkF m pc L (.int x :: .int j :: .ref a :: S)) rfl rfl (hb X.2.1.2.1 hd)
  exact Goes.step st (K T' h' _ (X.later X' e' (Fr.snoc X' X.2.2.2.1 ha) (ext_wr X.ext W' ha) (CHr.wr W' hsf X.chv)) (hi ▸ W') (CHr.wr W' hsf X.chv) (Arv.set Ar q1 Sz Nn H G rfl W' i hi hlt))
theorem o_lastore (X : On l Z EL p e R s m args below meth c y code maxL ret vm T h locs cells slots) {a : Addr} {k : ClassId} {n j : Int32} {x : Int64} {v : Value} {vs : List Value} {dv : Value} {q : Nat} (i : Nat) (A : Arv Z h a k .long n vs dv) (ha : Z.heap.size ≤ a) (hsf : Safe Z EL vm h a) (hj : ¬ j < 0 ∧ j < n) (hi : j.toNatClampNeg = i) (hlt : i < vs.length) (hv : (.long x : Value) = v) (hd : decode code pc = .ok (.lastore, 1)) (hp : pc + 1 = q)
    (K : ∀ (T' : State) (h' : Heap) (locs' : List Loc), On l Z EL p e R s m args below meth c y code maxL ret vm T' h' locs' cells slots → Wr h h' a i v → CHr Z EL vm h vm h' → Arv Z h' a k .long n (vs.set i v) dv → Goes p e below F T' (mkF m q L S)) : Goes p e below F T (mkF m pc L (.long x :: .int j :: .ref a :: S)) := by
  subst hp hv
  obtain ⟨cl, Ar, q1, Sz, Nn, H, G⟩ := A
  obtain ⟨T', h', X', e', W', st⟩ := stJ X.1 X.2.1.1 (show Z.Warmed39 (s.setVm vm).vm from X.2.1.2.2.1) X.2.2.1 Ar (j := j) (inb_of Sz hj) (g := mkF m pc L (.long x :: .int j :: .ref a :: S)) rfl rfl (hb X.2.1.2.1 hd)
  exact Goes.step st (K T' h' _ (X.later X' e' (Fr.snoc X' X.2.2.2.1 ha) (ext_wr X.ext W' ha) (CHr.wr W' hsf X.chv)) (hi ▸ W') (CHr.wr W' hsf X.chv) (Arv.set Ar q1 Sz Nn H G rfl W' i hi hlt))
theorem o_castore (X : On l Z EL p e R s m args below meth c y code maxL ret vm T h locs cells slots) {a : Addr} {k : ClassId} {n j : Int32} {x : Int32} {v : Value} {vs : List Value} {dv : Value} {q : Nat} (i : Nat) (A : Arv Z h a k .char n vs dv) (ha : Z.heap.size ≤ a) (hsf : Safe Z EL vm h a) (hj : ¬ j < 0 ∧ j < n) (hi : j.toNatClampNeg = i) (hlt : i < vs.length) (hv : (.int (nar .char x) : Value) = v) (hd : decode code pc = .ok (.castore, 1)) (hp : pc + 1 = q)
    (K : ∀ (T' : State) (h' : Heap) (locs' : List Loc), On l Z EL p e R s m args below meth c y code maxL ret vm T' h' locs' cells slots → Wr h h' a i v → CHr Z EL vm h vm h' → Arv Z h' a k .char n (vs.set i v) dv → Goes p e below F T' (mkF m q L S)) : Goes p e below F T (mkF m pc L (.int x :: .int j :: .ref a :: S)) := by
  subst hp hv
  obtain ⟨cl, Ar, q1, Sz, Nn, H, G⟩ := A
  obtain ⟨T', h', X', e', W', st⟩ := stC X.1 X.2.1.1 (show Z.Warmed39 (s.setVm vm).vm from X.2.1.2.2.1) X.2.2.1 Ar (j := j) (inb_of Sz hj) (g := mkF m pc L (.int x :: .int j :: .ref a :: S)) rfl rfl (hb X.2.1.2.1 hd)
  exact Goes.step st (K T' h' _ (X.later X' e' (Fr.snoc X' X.2.2.2.1 ha) (ext_wr X.ext W' ha) (CHr.wr W' hsf X.chv)) (hi ▸ W') (CHr.wr W' hsf X.chv) (Arv.set Ar q1 Sz Nn H G (fits_nar_char x) W' i hi hlt))
theorem o_bastore (X : On l Z EL p e R s m args below meth c y code maxL ret vm T h locs cells slots) {a : Addr} {k : ClassId} {n j : Int32} {x : Int32} {v : Value} {vs : List Value} {dv : Value} {q : Nat} (i : Nat) (A : Arv Z h a k .byte n vs dv) (ha : Z.heap.size ≤ a) (hsf : Safe Z EL vm h a) (hj : ¬ j < 0 ∧ j < n) (hi : j.toNatClampNeg = i) (hlt : i < vs.length) (hv : (.int (nar .byte x) : Value) = v) (hd : decode code pc = .ok (.bastore, 1)) (hp : pc + 1 = q)
    (K : ∀ (T' : State) (h' : Heap) (locs' : List Loc), On l Z EL p e R s m args below meth c y code maxL ret vm T' h' locs' cells slots → Wr h h' a i v → CHr Z EL vm h vm h' → Arv Z h' a k .byte n (vs.set i v) dv → Goes p e below F T' (mkF m q L S)) : Goes p e below F T (mkF m pc L (.int x :: .int j :: .ref a :: S)) := by
  subst hp hv
  obtain ⟨cl, Ar, q1, Sz, Nn, H, G⟩ := A
  obtain ⟨T', h', X', e', W', st⟩ := stB X.1 X.2.1.1 (show Z.Warmed39 (s.setVm vm).vm from X.2.1.2.2.1) X.2.2.1 Ar (j := j) (inb_of Sz hj) (g := mkF m pc L (.int x :: .int j :: .ref a :: S)) rfl rfl (hb X.2.1.2.1 hd)
  exact Goes.step st (K T' h' _ (X.later X' e' (Fr.snoc X' X.2.2.2.1 ha) (ext_wr X.ext W' ha) (CHr.wr W' hsf X.chv)) (hi ▸ W') (CHr.wr W' hsf X.chv) (Arv.set Ar q1 Sz Nn H G (fits_nar_byte x) W' i hi hlt))
/-- the end of a walk -/
theorem fin_of (X : On l Z EL p e R s m args below meth c y code maxL ret vm T h locs cells slots) {Q : Option Value → Heap → (Addr → Prop) → Prop} {rc rs : Nat} {v : Option Value} (hv : ret = none → v = none) (hQ : ∀ Sf : Addr → Prop, (∀ x, x < h.size → Safe Z EL vm h x → Sf x) → Q v h Sf) (hc : cells ≤ rc) (hs : slots ≤ rs)
    (hr : ∀ fs, (∀ (f : JFrame) (acts : List Action), f.method = m → f.locked = none → f.entered = [] → (doReturn e (T.setTop f) acts v).1 = T.setFrames fs) → Steps p.tables e below (T.setTop (mkF m pc L S)) (T.setFrames fs)) : Goes p e below (FinQ Z EL s Q rc rs) T (mkF m pc L S) := by
  obtain ⟨X1, C1, e1, N1, E1, ⟨k0, s0, q0⟩, H1, ⟨a1, hw⟩⟩ := X
  obtain ⟨fs, h1, h2, h3, h4⟩ := X1.leaveW s0 (by rw [e1]; exact q0) (v := v) (fun q => hv (C1.2.2.2.2.1.symm.trans q)) C1.2.2.2.2.2.1
  have A := CHv.at X1 C1.2.2.1 hw H1.1
  obtain ⟨g1, g2, g3, g4⟩ := h4
  refine ⟨_, _, hr fs h1, h2, h3, v, locs, rfl, ⟨?_, N1, ?_⟩, ?_, g1, g2, g3, g4.mono hc hs⟩
  · show Q v T.heap (Safe Z EL T.vm T.heap)
    rw [e1]
    exact hQ _ fun x hx S => A.safe hx S
  · show Ext Z.heap T.heap
    rw [e1]; exact E1
  · show CHr Z EL s.vm s.heap T.vm T.heap
    rw [e1]; exact H1.trans A
theorem o_ret (X : On l Z EL p e R s m args below meth c y code maxL none vm T h locs cells slots) {Q : Option Value → Heap → (Addr → Prop) → Prop} {rc rs : Nat} (hd : decode code pc = .ok (.return_, 1)) (hQ : ∀ Sf : Addr → Prop, (∀ x, x < h.size → Safe Z EL vm h x → Sf x) → Q none h Sf) (hc : cells ≤ rc) (hs : slots ≤ rs) : Goes p e below (FinQ Z EL s Q rc rs) T (mkF m pc L []) :=
  fin_of X (fun _ => rfl) hQ hc hs (fun fs hr => X.1.returnOut X.2.1.1 X.2.1.2.2.2.2.1 (hb X.2.1.2.1 hd) hr)
theorem o_retI (X : On l Z EL p e R s m args below meth c y code maxL (some .int) vm T h locs cells slots) {Q : Option Value → Heap → (Addr → Prop) → Prop} {rc rs : Nat} {z : Int32} (hd : decode code pc = .ok (.ireturn, 1)) (hQ : ∀ Sf : Addr → Prop, (∀ x, x < h.size → Safe Z EL vm h x → Sf x) → Q (some (.int z)) h Sf) (hc : cells ≤ rc) (hs : slots ≤ rs) : Goes p e below (FinQ Z EL s Q rc rs) T (mkF m pc L (.int z :: S)) :=
  fin_of X (fun q => nomatch q) hQ hc hs (fun fs hr => retOut X.1 X.2.1.1 X.2.1.2.2.2.2.1 rfl (Or.inl ⟨rfl, Or.inl rfl, z, rfl⟩) (hb X.2.1.2.1 hd) hr)
theorem o_retN {t : FieldType} (X : On l Z EL p e R s m args below meth c y code maxL (some t) vm T h locs cells slots) {Q : Option Value → Heap → (Addr → Prop) → Prop} {rc rs : Nat} {z : Int32} (hd : decode code pc = .ok (.ireturn, 1)) (ht : t = .boolean ∨ t = .byte ∨ t = .char ∨ t = .short) (hQ : ∀ Sf : Addr → Prop, (∀ x, x < h.size → Safe Z EL vm h x → Sf x) → Q (some (.int (nar t z))) h Sf) (hc : cells ≤ rc) (hs : slots ≤ rs) : Goes p e below (FinQ Z EL s Q rc rs) T (mkF m pc L (.int z :: S)) :=
  fin_of X (fun q => nomatch q) hQ hc hs (fun fs hr => retN X.1 X.2.1.1 X.2.1.2.2.2.2.1 ht (hb X.2.1.2.1 hd) hr)
theorem o_retR {t : FieldType} (X : On l Z EL p e R s m args below meth c y code maxL (some t) vm T h locs cells slots) {Q : Option Value → Heap → (Addr → Prop) → Prop} {rc rs : Nat} {v : Value} (hd : decode code pc = .ok (.areturn, 1)) (ht : t.isReference = true) (hv : v.isRef = true) (hn : narrow t v = v) (hQ : ∀ Sf : Addr → Prop, (∀ x, x < h.size → Safe Z EL vm h x → Sf x) → Q (some v) h Sf) (hc : cells ≤ rc) (hs : slots ≤ rs) : Goes p e below (FinQ Z EL s Q rc rs) T (mkF m pc L (v :: S)) :=
  fin_of X (fun q => nomatch q) hQ hc hs (fun fs hr => retOut X.1 X.2.1.1 X.2.1.2.2.2.2.1 hn (Or.inr (Or.inr (Or.inr (Or.inr ⟨rfl, ht, hv⟩)))) (hb X.2.1.2.1 hd) hr)
theorem o_retJ (X : On l Z EL p e R s m args below meth c y code maxL (some .long) vm T h locs cells slots) {Q : Option Value → Heap → (Addr → Prop) → Prop} {rc rs : Nat} {z : Int64} (hd : decode code pc = .ok (.lreturn, 1)) (hQ : ∀ Sf : Addr → Prop, (∀ x, x < h.size → Safe Z EL vm h x → Sf x) → Q (some (.long z)) h Sf) (hc : cells ≤ rc) (hs : slots ≤ rs) : Goes p e below (FinQ Z EL s Q rc rs) T (mkF m pc L (.long z :: S)) :=
  fin_of X (fun q => nomatch q) hQ hc hs (fun fs hr => retOut X.1 X.2.1.1 X.2.1.2.2.2.2.1 rfl (Or.inr (Or.inl ⟨rfl, rfl, z, rfl⟩)) (hb X.2.1.2.1 hd) hr)
theorem o_initO (X : On l Z EL p e R s m args below meth c y code maxL ret vm T h locs cells slots) {idx q : Nat} {a : Addr} (w1 : (Jvm.Cond.methodLink y.cls idx Lib.objectInit).before a0 Z = true) (w2 : (Jvm.Cond.instanceMethod Lib.objectInit).before a0 Z = true) (w3 : (Jvm.Cond.code Lib.objectInit ⟨#[0xb1]⟩ 1 none).before a0 Z = true) (hd : decode code pc = .ok (.invokespecial idx, 3)) (hL : L.size = maxL) (hf : 1 ≤ R.frames) (hl : (S.map fun v => v.category).sum + 12 ≤ R.locals) (hp : pc + 3 = q)
    (K : ∀ T' : State, On l Z EL p e R s m args below meth c y code maxL ret vm T' h locs cells slots → Goes p e below F T' (mkF m q L S)) : Goes p e below F T (mkF m pc L (.ref a :: S)) := by
  subst hp
  obtain ⟨T', X', e', st⟩ := initO X.1 X.2.1.1 (show Z.Warmed39 (s.setVm vm).vm from X.2.1.2.2.1) X.2.1.2.2.2.1 w1 w2 w3 X.2.2.1 (g := mkF m pc L (.ref a :: S)) rfl (hL.trans X.2.1.2.2.2.2.2.2.2.symm) rfl (hb X.2.1.2.1 hd) hf (W := (S.map fun v => v.category).sum) (by show 2 * 0 + _ ≤ _; omega) hl
  exact Goes.step st (K T' (X.later X' e' X.2.2.2.1 X.ext (CHr.refl X.chv)))
/-- a contract as a BackS -/
theorem Con.back {y' : MethodName} {bytes : ByteArray} {maxL' : Nat} {ret' : Option FieldType} {rm : Room} {as : Array Value} {Q : Option Value → Heap → (Addr → Prop) → Prop} {len W : Nat} (X : On l Z EL p e R s m args below meth c y code maxL ret vm T h locs cells slots) (hC : Con l Z EL y' bytes maxL' ret' rm as h ss Q) (hss : ∀ x ∈ ss, x < h.size ∧ Safe Z EL vm h x) (w4 : (Jvm.Cond.code y' bytes maxL' ret').before a0 Z = true) (w3 : (Jvm.Cond.initialized y'.cls).before a0 Z = true) (hf : rm.frames + 1 ≤ R.frames) (hl : W + (maxL' + 11) + rm.locals ≤ R.locals) :
    BackS l R p e below (s.setVm vm) args y' len W (fun A b => b = as ∧ A.U.heap = h ∧ A.cells + rm.cells ≤ R.cells ∧ A.slots + rm.slots ≤ R.slots) (fun A _ v B => ∃ L, (Q v B.U.heap (Safe Z EL B.U.vm B.U.heap) ∧ Fr Z.heap.size L ∧ Ext Z.heap B.U.heap) ∧ B.locs = A.locs ++ L ∧ B.cells = A.cells + rm.cells ∧ B.slots = A.slots + rm.slots ∧ CHr Z EL vm h B.U.vm B.U.heap) := by
  obtain ⟨X1, C1, e1, N1, E1, ⟨k0, s0, q0⟩, H1, ⟨a1, hw⟩⟩ := X
  exact BackS.of_freeW (bytes := bytes) (maxL := maxL') (ret := ret') (E := fun _ first o t L k n => k = rm.cells ∧ n = rm.slots ∧ (∃ v, o = .returned v ∧ Q v t.heap (Safe Z EL t.vm t.heap) ∧ Fr Z.heap.size L ∧ Ext Z.heap t.heap) ∧ CHr Z EL first.vm first.heap t.vm t.heap) (hC ⟨a1, hw⟩ E1 []) hf hl
    (fun m meth c A a Y hp => have hU : Z.Warmed39 A.U.vm := wtrans (s := s.setVm vm) C1.2.2.1 Y.warmed
      ⟨by show (Cond.and _ .tt).before a A.U = true; rw [Cond.before_and, mv hU w4]; rfl, mv hU w4, mv hU w3, hp.2.2.1, hp.2.2.2⟩)
    (fun m meth c A a g mk Y hp => ⟨hp.1, wtrans (s := s.setVm vm) C1.2.2.1 Y.warmed, hp.2.1, (CHv.at Y C1.2.2.1 hw H1.1).1, fun x hx => (CHv.at Y C1.2.2.1 hw H1.1).safe (hss x hx).1 (hss x hx).2⟩) (fun _ _ _ _ _ _ _ _ _ => trivial)
    (fun _ _ _ _ ⟨v, L, h1, h2, h3, h4⟩ => ⟨L, _, _, h4, rfl, rfl, ⟨v, h1, h2⟩, h3⟩)
    (fun m meth c A a g mk v t L k n Y hp _ _ ⟨e1, e2, ⟨v', e3, e4⟩, e5⟩ => by
      cases e3; subst e1 e2
      refine ⟨L, e4, rfl, rfl, rfl, (CHv.at Y C1.2.2.1 hw H1.1).trans ?_⟩
      rw [← hp.2.1]; exact e5)
theorem o_spec (X : On l Z EL p e R s m args below meth c y code maxL ret vm T h locs cells slots) {y' : MethodName} {index q : Nat} {bytes : ByteArray} {maxL' : Nat} {rm : Room} {as : Array Value} {Q : Option Value → Heap → (Addr → Prop) → Prop} (argsL : List Value) {a : Addr} {rest : List Value} (hC : Con l Z EL y' bytes maxL' none rm as h ss Q) (hss : ∀ x ∈ ss, x < h.size ∧ Safe Z EL vm h x)
    (hy1 : y'.name = "<init>") (w1 : (Jvm.Cond.methodLink y.cls index y').before a0 Z = true) (w2 : (Jvm.Cond.instanceMethod y').before a0 Z = true) (w3 : (Jvm.Cond.code y' bytes maxL' none).before a0 Z = true) (w4 : (Jvm.Cond.initialized y'.cls).before a0 Z = true) (hy : y'.cls ≠ "java/lang/invoke/MethodHandle" ∧ y'.cls ≠ "java/lang/invoke/VarHandle")
    (hd : decode code pc = .ok (.invokespecial index, 3)) (has : (.ref a :: argsL).toArray = as) (hL : L.size = maxL) (hlen : ∀ sig, parseMethodDescriptor y'.desc = some sig → argsL.length = sig.parameters.length) (hS : S = argsL.reverse ++ .ref a :: rest) (hf : rm.frames + 1 ≤ R.frames) (hl : (rest.map fun v => v.category).sum + (maxL' + 11) + rm.locals ≤ R.locals) (hc : cells + rm.cells ≤ R.cells) (hs : slots + rm.slots ≤ R.slots) (hp : pc + 3 = q)
    (K : ∀ (v : Option Value) (vm' : Vm) (T' : State) (h' : Heap) (locs' : List Loc), On l Z EL p e R s m args below meth c y code maxL ret vm' T' h' locs' (cells + rm.cells) (slots + rm.slots) → CHr Z EL vm h vm' h' → Q v h' (Safe Z EL vm' h') → Goes p e below F T' (mkF m q L (v.toList ++ rest))) : Goes p e below F T (mkF m pc L S) := by
  subst hp hS has
  obtain ⟨v, vm1, ⟨T', L1, k1, n1⟩, -, X', S', g', ⟨Lc, hQ, e2, e3, e4, R'⟩, st⟩ := X.1.specialBackS X.2.1.1 hy1 X.2.1.2.2.2.1 (mvT (s := s.setVm vm) X.2.1.2.2.1 w1) (mvT (s := s.setVm vm) X.2.1.2.2.1 w2) (mvT (s := s.setVm vm) X.2.1.2.2.1 w3) hy (Con.back X hC hss w3 w4 hf hl) (g := mkF m pc L (argsL.reverse ++ .ref a :: rest)) rfl (hL.trans X.2.1.2.2.2.2.2.2.2.symm) (Steps.refl _) hlen rfl (by show 2 * 0 + _ ≤ _; omega) (hb X.2.1.2.1 hd) (fun _ _ => ⟨rfl, X.2.2.1, hc, hs⟩)
  dsimp only [Pt.U, Pt.locs, Pt.cells, Pt.slots] at X' S' g' hQ e2 e3 e4 R' st
  subst e2 e3 e4
  exact Goes.step (fun _ k => st.trans k) (K v T'.vm T' T'.heap _ (X.laterV X' S' rfl rfl (Fr.app X.2.2.2.1 hQ.2.1) hQ.2.2 R') R' hQ.1)
theorem o_virt (X : On l Z EL p e R s m args below meth c y code maxL ret vm T h locs cells slots) {C : String} {y' : MethodName} {index q : Nat} {bytes : ByteArray} {maxL' : Nat} {ret' : Option FieldType} {rm : Room} {as : Array Value} {Q : Option Value → Heap → (Addr → Prop) → Prop} (argsL : List Value) {a : Addr} {rest : List Value} (E : Exa Z h a C) (hC : Con l Z EL y' bytes maxL' ret' rm as h ss Q) (hss : ∀ x ∈ ss, x < h.size ∧ Safe Z EL vm h x)
    (w1 : (Jvm.Cond.methodLink y.cls index y').before a0 Z = true) (w2 : (Jvm.Cond.declares y').before a0 Z = true) (w3 : (Jvm.Cond.selects C y' y').before a0 Z = true) (w4 : (Jvm.Cond.instanceMethod y').before a0 Z = true) (w5 : (Jvm.Cond.code y' bytes maxL' ret').before a0 Z = true) (w6 : (Jvm.Cond.initialized y'.cls).before a0 Z = true) (hy : y'.cls ≠ "java/lang/invoke/MethodHandle" ∧ y'.cls ≠ "java/lang/invoke/VarHandle")
    (hd : decode code pc = .ok (.invokevirtual index, 3)) (has : (.ref a :: argsL).toArray = as) (hL : L.size = maxL) (hlen : ∀ sig, parseMethodDescriptor y'.desc = some sig → argsL.length = sig.parameters.length) (hS : S = argsL.reverse ++ .ref a :: rest) (hf : rm.frames + 1 ≤ R.frames) (hl : (rest.map fun v => v.category).sum + (maxL' + 11) + rm.locals ≤ R.locals) (hc : cells + rm.cells ≤ R.cells) (hs : slots + rm.slots ≤ R.slots) (hp : pc + 3 = q)
    (K : ∀ (v : Option Value) (vm' : Vm) (T' : State) (h' : Heap) (locs' : List Loc), On l Z EL p e R s m args below meth c y code maxL ret vm' T' h' locs' (cells + rm.cells) (slots + rm.slots) → CHr Z EL vm h vm' h' → Q v h' (Safe Z EL vm' h') → Goes p e below F T' (mkF m q L (v.toList ++ rest))) : Goes p e below F T (mkF m pc L S) := by
  subst hp hS has
  obtain ⟨cB, kB, q1, q2, q3⟩ := isOf (show Z.Warmed39 (s.setVm vm).vm from X.2.1.2.2.1) X.2.2.1 E
  obtain ⟨v, vm1, ⟨T', L1, k1, n1⟩, -, X', S', g', ⟨Lc, hQ, e2, e3, e4, R'⟩, st⟩ := X.1.virtualBackS X.2.1.1 (y := y') (z := y') X.2.1.2.2.2.1 (mvT (s := s.setVm vm) X.2.1.2.2.1 w1) (mvT (s := s.setVm vm) X.2.1.2.2.1 w2) (notFace_of_selects (args := #[]) (mvT (s := s.setVm vm) X.2.1.2.2.1 w3)) (mvT (s := s.setVm vm) X.2.1.2.2.1 w3) (mvT (s := s.setVm vm) X.2.1.2.2.1 w4) hy (Con.back X hC hss w5 w6 hf hl) q1 q3 (g := mkF m pc L (argsL.reverse ++ .ref a :: rest)) rfl (hL.trans X.2.1.2.2.2.2.2.2.2.symm) (Steps.refl _) hlen rfl (by show 2 * 0 + _ ≤ _; omega) (hb X.2.1.2.1 hd) (fun _ _ => ⟨rfl, X.2.2.1, hc, hs⟩)
  dsimp only [Pt.U, Pt.locs, Pt.cells, Pt.slots] at X' S' g' hQ e2 e3 e4 R' st
  subst e2 e3 e4
  exact Goes.step (fun _ k => st.trans k) (K v T'.vm T' T'.heap _ (X.laterV X' S' rfl rfl (Fr.app X.2.2.2.1 hQ.2.1) hQ.2.2 R') R' hQ.1)
theorem o_stat (X : On l Z EL p e R s m args below meth c y code maxL ret vm T h locs cells slots) {y' : MethodName} {index q : Nat} {bytes : ByteArray} {maxL' : Nat} {ret' : Option FieldType} {rm : Room} {as : Array Value} {Q : Option Value → Heap → (Addr → Prop) → Prop} (argsL : List Value) {rest : List Value} (hC : Con l Z EL y' bytes maxL' ret' rm as h ss Q) (hss : ∀ x ∈ ss, x < h.size ∧ Safe Z EL vm h x)
    (w1 : (Jvm.Cond.methodLink y.cls index y').before a0 Z = true) (w2 : (Jvm.Cond.static y').before a0 Z = true) (w3 : (Jvm.Cond.initialized y'.cls).before a0 Z = true) (w4 : (Jvm.Cond.code y' bytes maxL' ret').before a0 Z = true) (hy : y'.cls ≠ "java/lang/invoke/MethodHandle" ∧ y'.cls ≠ "java/lang/invoke/VarHandle")
    (hd : decode code pc = .ok (.invokestatic index, 3)) (has : argsL.toArray = as) (hL : L.size = maxL) (hlen : ∀ sig, parseMethodDescriptor y'.desc = some sig → argsL.length = sig.parameters.length) (hS : S = argsL.reverse ++ rest) (hf : rm.frames + 1 ≤ R.frames) (hl : (rest.map fun v => v.category).sum + (maxL' + 11) + rm.locals ≤ R.locals) (hc : cells + rm.cells ≤ R.cells) (hs : slots + rm.slots ≤ R.slots) (hp : pc + 3 = q)
    (K : ∀ (v : Option Value) (vm' : Vm) (T' : State) (h' : Heap) (locs' : List Loc), On l Z EL p e R s m args below meth c y code maxL ret vm' T' h' locs' (cells + rm.cells) (slots + rm.slots) → CHr Z EL vm h vm' h' → Q v h' (Safe Z EL vm' h') → Goes p e below F T' (mkF m q L (v.toList ++ rest))) : Goes p e below F T (mkF m pc L S) := by
  subst hp hS has
  obtain ⟨v, vm1, ⟨T', L1, k1, n1⟩, -, X', S', g', ⟨Lc, hQ, e2, e3, e4, R'⟩, st⟩ := callSS X.1 X.2.1.1 X.2.1.2.2.2.1 (mvT (s := s.setVm vm) X.2.1.2.2.1 w1) (mvT (s := s.setVm vm) X.2.1.2.2.1 w2) (mvT (s := s.setVm vm) X.2.1.2.2.1 w3) (mvT (s := s.setVm vm) X.2.1.2.2.1 w4) hy (Con.back X hC hss w4 w3 hf hl) (g := mkF m pc L (argsL.reverse ++ rest)) rfl (hL.trans X.2.1.2.2.2.2.2.2.2.symm) hlen rfl (by show 2 * 0 + _ ≤ _; omega) (hb X.2.1.2.1 hd) (fun _ _ => ⟨rfl, X.2.2.1, hc, hs⟩)
  dsimp only [Pt.U, Pt.locs, Pt.cells, Pt.slots] at X' S' g' hQ e2 e3 e4 R' st
  subst e2 e3 e4
  exact Goes.step (fun _ k => st.trans k) (K v T'.vm T' T'.heap _ (X.laterV X' S' rfl rfl (Fr.app X.2.2.2.1 hQ.2.1) hQ.2.2 R') R' hQ.1)
theorem o_specB (X : On l Z EL p e R s m args below meth c y code maxL ret vm T h locs cells slots) {y' : MethodName} {index W q : Nat} {bytes : ByteArray} {maxL' : Nat} {Q : Option Value → Heap → List Loc → Prop} {rc rs : Nat} {as : Array Value} {ws : List Addr} (argsL : List Value) {a : Addr} {rest : List Value}
    (hK : Back l R p e below (s.setVm vm) args y' 3 W (fun A b => b = as ∧ A.U.heap = h ∧ A.cells + rc ≤ R.cells ∧ A.slots + rs ≤ R.slots) (fun A _ v B => ∃ L, Q v B.U.heap L ∧ B.locs = A.locs ++ L ∧ B.cells = A.cells + rc ∧ B.slots = A.slots + rs))
    (hq : ∀ v h' L, Q v h' L → Fr Z.heap.size L ∧ Keep h h' ws) (hws : ∀ x ∈ ws, Z.heap.size ≤ x ∧ Safe Z EL vm h x)
    (hy1 : y'.name = "<init>") (w1 : (Jvm.Cond.methodLink y.cls index y').before a0 Z = true) (w2 : (Jvm.Cond.instanceMethod y').before a0 Z = true) (w3 : (Jvm.Cond.code y' bytes maxL' none).before a0 Z = true) (hy : y'.cls ≠ "java/lang/invoke/MethodHandle" ∧ y'.cls ≠ "java/lang/invoke/VarHandle")
    (hd : decode code pc = .ok (.invokespecial index, 3)) (has : (.ref a :: argsL).toArray = as) (hL : L.size = maxL) (hlen : ∀ sig, parseMethodDescriptor y'.desc = some sig → argsL.length = sig.parameters.length) (hS : S = argsL.reverse ++ .ref a :: rest) (hW : (rest.map fun v => v.category).sum ≤ W) (hc : cells + rc ≤ R.cells) (hs : slots + rs ≤ R.slots) (hp : pc + 3 = q)
    (K : ∀ (v : Option Value) (T' : State) (h' : Heap) (L' locs' : List Loc), On l Z EL p e R s m args below meth c y code maxL ret vm T' h' locs' (cells + rc) (slots + rs) → CHr Z EL vm h vm h' → Q v h' L' → Goes p e below F T' (mkF m q L (v.toList ++ rest))) : Goes p e below F T (mkF m pc L S) := by
  subst hp hS has
  obtain ⟨v, vm1, ⟨T', L1, k1, n1⟩, -, X', ⟨Lc, hQ, e2, e3, e4⟩, st⟩ := X.1.specialBack X.2.1.1 hy1 X.2.1.2.2.2.1 (mvT (s := s.setVm vm) X.2.1.2.2.1 w1) (mvT (s := s.setVm vm) X.2.1.2.2.1 w2) (mvT (s := s.setVm vm) X.2.1.2.2.1 w3) hy hK (g := mkF m pc L (argsL.reverse ++ .ref a :: rest)) rfl (hL.trans X.2.1.2.2.2.2.2.2.2.symm) (Steps.refl _) hlen rfl (by show 2 * 0 + _ ≤ _; omega) (hb X.2.1.2.1 hd) (fun _ _ => ⟨rfl, X.2.2.1, hc, hs⟩)
  dsimp only [Pt.U, Pt.locs, Pt.cells, Pt.slots] at X' hQ e2 e3 e4 st
  subst e2 e3 e4
  obtain ⟨f1, f2⟩ := hq _ _ _ hQ
  have R' : CHr Z EL vm h vm T'.heap := CHr.keep f2 (fun x hx => (hws x hx).2) X.chv
  exact Goes.step (fun _ k => st.trans k) (K v T' T'.heap Lc _ (X.later X' rfl (Fr.app X.2.2.2.1 f1) (ext_keep X.ext f2 fun x hx => (hws x hx).1) R') R' hQ)
theorem o_virtB (X : On l Z EL p e R s m args below meth c y code maxL ret vm T h locs cells slots) {C : String} {y' : MethodName} {index W q : Nat} {Q : Option Value → Heap → List Loc → Prop} {rc rs : Nat} {as : Array Value} {ws : List Addr} (argsL : List Value) {a : Addr} {rest : List Value} (E : Exa Z h a C)
    (hK : Back l R p e below (s.setVm vm) args y' 3 W (fun A b => b = as ∧ A.U.heap = h ∧ A.cells + rc ≤ R.cells ∧ A.slots + rs ≤ R.slots) (fun A _ v B => ∃ L, Q v B.U.heap L ∧ B.locs = A.locs ++ L ∧ B.cells = A.cells + rc ∧ B.slots = A.slots + rs))
    (hq : ∀ v h' L, Q v h' L → Fr Z.heap.size L ∧ Keep h h' ws) (hws : ∀ x ∈ ws, Z.heap.size ≤ x ∧ Safe Z EL vm h x)
    (w1 : (Jvm.Cond.methodLink y.cls index y').before a0 Z = true) (w2 : (Jvm.Cond.declares y').before a0 Z = true) (w3 : (Jvm.Cond.selects C y' y').before a0 Z = true) (w4 : (Jvm.Cond.instanceMethod y').before a0 Z = true) (hy : y'.cls ≠ "java/lang/invoke/MethodHandle" ∧ y'.cls ≠ "java/lang/invoke/VarHandle")
    (hd : decode code pc = .ok (.invokevirtual index, 3)) (has : (.ref a :: argsL).toArray = as) (hL : L.size = maxL) (hlen : ∀ sig, parseMethodDescriptor y'.desc = some sig → argsL.length = sig.parameters.length) (hS : S = argsL.reverse ++ .ref a :: rest) (hW : (rest.map fun v => v.category).sum ≤ W) (hc : cells + rc ≤ R.cells) (hs : slots + rs ≤ R.slots) (hp : pc + 3 = q)
    (K : ∀ (v : Option Value) (T' : State) (h' : Heap) (L' locs' : List Loc), On l Z EL p e R s m args below meth c y code maxL ret vm T' h' locs' (cells + rc) (slots + rs) → CHr Z EL vm h vm h' → Q v h' L' → Goes p e below F T' (mkF m q L (v.toList ++ rest))) : Goes p e below F T (mkF m pc L S) := by
  subst hp hS has
  obtain ⟨cB, kB, q1, q2, q3⟩ := isOf (show Z.Warmed39 (s.setVm vm).vm from X.2.1.2.2.1) X.2.2.1 E
  obtain ⟨v, vm1, ⟨T', L1, k1, n1⟩, -, X', ⟨Lc, hQ, e2, e3, e4⟩, st⟩ := X.1.virtualBack X.2.1.1 (y := y') (z := y') X.2.1.2.2.2.1 (mvT (s := s.setVm vm) X.2.1.2.2.1 w1) (mvT (s := s.setVm vm) X.2.1.2.2.1 w2) (notFace_of_selects (args := #[]) (mvT (s := s.setVm vm) X.2.1.2.2.1 w3)) (mvT (s := s.setVm vm) X.2.1.2.2.1 w3) (mvT (s := s.setVm vm) X.2.1.2.2.1 w4) hy hK q1 q3 (g := mkF m pc L (argsL.reverse ++ .ref a :: rest)) rfl (hL.trans X.2.1.2.2.2.2.2.2.2.symm) (Steps.refl _) hlen rfl (by show 2 * 0 + _ ≤ _; omega) (hb X.2.1.2.1 hd) (fun _ _ => ⟨rfl, X.2.2.1, hc, hs⟩)
  dsimp only [Pt.U, Pt.locs, Pt.cells, Pt.slots] at X' hQ e2 e3 e4 st
  subst e2 e3 e4
  obtain ⟨f1, f2⟩ := hq _ _ _ hQ
  have R' : CHr Z EL vm h vm T'.heap := CHr.keep f2 (fun x hx => (hws x hx).2) X.chv
  exact Goes.step (fun _ k => st.trans k) (K v T' T'.heap Lc _ (X.later X' rfl (Fr.app X.2.2.2.1 f1) (ext_keep X.ext f2 fun x hx => (hws x hx).1) R') R' hQ)
theorem o_statB (X : On l Z EL p e R s m args below meth c y code maxL ret vm T h locs cells slots) {y' : MethodName} {index W q : Nat} {bytes : ByteArray} {maxL' : Nat} {ret' : Option FieldType} {Q : Option Value → Heap → List Loc → Prop} {rc rs : Nat} {as : Array Value} {ws : List Addr} (argsL : List Value) {rest : List Value}
    (hK : Back l R p e below (s.setVm vm) args y' 3 W (fun A b => b = as ∧ A.U.heap = h ∧ A.cells + rc ≤ R.cells ∧ A.slots + rs ≤ R.slots) (fun A _ v B => ∃ L, Q v B.U.heap L ∧ B.locs = A.locs ++ L ∧ B.cells = A.cells + rc ∧ B.slots = A.slots + rs))
    (hq : ∀ v h' L, Q v h' L → Fr Z.heap.size L ∧ Keep h h' ws) (hws : ∀ x ∈ ws, Z.heap.size ≤ x ∧ Safe Z EL vm h x)
    (w1 : (Jvm.Cond.methodLink y.cls index y').before a0 Z = true) (w2 : (Jvm.Cond.static y').before a0 Z = true) (w3 : (Jvm.Cond.initialized y'.cls).before a0 Z = true) (w4 : (Jvm.Cond.code y' bytes maxL' ret').before a0 Z = true) (hy : y'.cls ≠ "java/lang/invoke/MethodHandle" ∧ y'.cls ≠ "java/lang/invoke/VarHandle")
    (hd : decode code pc = .ok (.invokestatic index, 3)) (has : argsL.toArray = as) (hL : L.size = maxL) (hlen : ∀ sig, parseMethodDescriptor y'.desc = some sig → argsL.length = sig.parameters.length) (hS : S = argsL.reverse ++ rest) (hW : (rest.map fun v => v.category).sum ≤ W) (hc : cells + rc ≤ R.cells) (hs : slots + rs ≤ R.slots) (hp : pc + 3 = q)
    (K : ∀ (v : Option Value) (T' : State) (h' : Heap) (L' locs' : List Loc), On l Z EL p e R s m args below meth c y code maxL ret vm T' h' locs' (cells + rc) (slots + rs) → CHr Z EL vm h vm h' → Q v h' L' → Goes p e below F T' (mkF m q L (v.toList ++ rest))) : Goes p e below F T (mkF m pc L S) := by
  subst hp hS has
  obtain ⟨v, vm1, ⟨T', L1, k1, n1⟩, -, X', ⟨Lc, hQ, e2, e3, e4⟩, st⟩ := Jvm.LawKit.callS X.1 X.2.1.1 X.2.1.2.2.2.1 (mvT (s := s.setVm vm) X.2.1.2.2.1 w1) (mvT (s := s.setVm vm) X.2.1.2.2.1 w2) (mvT (s := s.setVm vm) X.2.1.2.2.1 w3) (mvT (s := s.setVm vm) X.2.1.2.2.1 w4) hy hK (g := mkF m pc L (argsL.reverse ++ rest)) rfl (hL.trans X.2.1.2.2.2.2.2.2.2.symm) hlen rfl (by show 2 * 0 + _ ≤ _; omega) (hb X.2.1.2.1 hd) (fun _ _ => ⟨rfl, X.2.2.1, hc, hs⟩)
  dsimp only [Pt.U, Pt.locs, Pt.cells, Pt.slots] at X' hQ e2 e3 e4 st
  subst e2 e3 e4
  obtain ⟨f1, f2⟩ := hq _ _ _ hQ
  have R' : CHr Z EL vm h vm T'.heap := CHr.keep f2 (fun x hx => (hws x hx).2) X.chv
  exact Goes.step st (K v T' T'.heap Lc _ (X.later X' rfl (Fr.app X.2.2.2.1 f1) (ext_keep X.ext f2 fun x hx => (hws x hx).1) R') R' hQ)
end OwnKit
end Jvm.Pilot.@@N@@

namespace Jvm.Pilot.@@N@@
open Jvm Jvm.ClassFile Sem Op Lib Jvm.Free Jvm.Stand Jvm.LawKit Jvm.RoadKit Bundle Jvm.Pilot.@@N@@.Jvm.D
section OwnStr
/-- a Latin-1 String: the object a, its byte[] b, its chars cs -/
def LS (Z : State) (h : Heap) (a b : Addr) (kb : ClassId) (cs : List Int32) : Prop := Exa Z h a "java/lang/String" ∧ Fld Z h a "java/lang/String" "coder" "B" (.int 0) ∧ Fld Z h a "java/lang/String" "value" "[B" (.ref b) ∧ Arv Z h b kb .byte (Int32.ofNat cs.length) ((cs.map fun c => c.toInt8.toInt32).map Value.int) (.int 0) ∧ (∀ c ∈ cs, ¬ c < 0 ∧ ¬ (255 : Int32) < c) ∧ cs.length ≤ 4000
theorem LS.ext {Z : State} {h h' : Heap} {a b : Addr} {kb : ClassId} {cs : List Int32} (H : LS Z h a b kb cs) (E : Ext h h') : LS Z h' a b kb cs := ⟨H.1.ext E, H.2.1.ext E, H.2.2.1.ext E, H.2.2.2.1.ext E, H.2.2.2.2⟩
theorem LS.keep {Z : State} {h h' : Heap} {a b : Addr} {kb : ClassId} {cs : List Int32} {ws : List Addr} (H : LS Z h a b kb cs) (K : Keep h h' ws) (n1 : a ∉ ws) (n2 : b ∉ ws) : LS Z h' a b kb cs := ⟨H.1.keep K, H.2.1.keep K n1, H.2.2.1.keep K n1, H.2.2.2.1.keep K n2, H.2.2.2.2⟩
theorem LS.other {Z : State} {h h' : Heap} {a b x : Addr} {sl : Nat} {v : Value} {kb : ClassId} {cs : List Int32} (H : LS Z h a b kb cs) (W : Wr h h' x sl v) (n1 : a ≠ x) (n2 : b ≠ x) : LS Z h' a b kb cs := ⟨H.1.wr W, H.2.1.other W (Or.inl n1), H.2.2.1.other W (Or.inl n1), H.2.2.2.1.other W n2, H.2.2.2.2⟩
theorem LS.lt {Z : State} {h : Heap} {a b : Addr} {kb : ClassId} {cs : List Int32} (H : LS Z h a b kb cs) : a < h.size := H.1.lt
theorem LS.up {Z : State} {h : Heap} {a b : Addr} {kb : ClassId} {cs : List Int32} (H : LS Z h a b kb cs) : ∀ c ∈ cs, ¬ c < 0 ∧ ¬ (65535 : Int32) < c := fun c hc => ⟨(H.2.2.2.2.1 c hc).1, fun q => (H.2.2.2.2.1 c hc).2 (by rw [Int32.lt_iff_toInt_lt] at q ⊢; have e1 : (65535 : Int32).toInt = 65535 := rfl; have e2 : (255 : Int32).toInt = 255 := rfl; omega)⟩
theorem own_codOf {cs : List Int32} (hb : ∀ c ∈ cs, ¬ (255 : Int32) < c) : StrChars.Road.CodA cs 0 (Int32.ofNat cs.length) ((cs.map fun c => c.toInt8.toInt32).map Value.int) := Or.inl ⟨rfl, rfl, by rw [List.map_map]; rfl, hb⟩
variable {l : Launch} {Z : State} {EL : List (String × Nat)} {p : Program} {e : Env} {R : Room} {s : State} {m : MethodId} {args : Array Value} {below : List Frame} {meth : Method} {c : Code} {y : MethodName} {code : ByteArray} {maxL : Nat} {ret : Option FieldType} {vm : Vm} {T : State} {h : Heap} {locs : List Loc} {cells slots : Nat} {F : State → Outcome → Prop} {pc : Nat} {L L' : Array Slot} {S : List Value} {a0 : Array Value} {ss : List Addr}
theorem o_strlen (X : On l Z EL p e R s m args below meth c y code maxL ret vm T h locs cells slots) {a b : Addr} {kb : ClassId} {cs : List Int32} {z : Int32} {index q : Nat} (H : LS Z h a b kb cs) (O2 : Sta Z Z.heap "java/lang/String" "COMPACT_STRINGS" "Z" (.int z)) (P5 : ¬ z = 0) (hln : ∀ d ∈ StrChars.Road.wordsLen, d.before a0 Z = true) (wi : (Jvm.Cond.instantiable "java/lang/String" 4).before a0 Z = true)
    (w1 : (Jvm.Cond.methodLink y.cls index ⟨"java/lang/String", "length", "()I"⟩).before a0 Z = true) (w2 : (Jvm.Cond.declares ⟨"java/lang/String", "length", "()I"⟩).before a0 Z = true) (w3 : (Jvm.Cond.selects "java/lang/String" ⟨"java/lang/String", "length", "()I"⟩ ⟨"java/lang/String", "length", "()I"⟩).before a0 Z = true) (w4 : (Jvm.Cond.instanceMethod ⟨"java/lang/String", "length", "()I"⟩).before a0 Z = true)
    (hd : decode code pc = .ok (.invokevirtual index, 3)) (hL : L.size = maxL) (hf : 2 ≤ R.frames) (hlo : (S.map fun v => v.category).sum + 25 ≤ R.locals) (hc : cells ≤ R.cells) (hs : slots ≤ R.slots) (hp : pc + 3 = q)
    (K : ∀ (T' : State) (locs' : List Loc), On l Z EL p e R s m args below meth c y code maxL ret vm T' h locs' cells slots → Goes p e below F T' (mkF m q L (.int (Int32.ofNat cs.length) :: S))) : Goes p e below F T (mkF m pc L (.ref a :: S)) := by
  have hcd : StrChars.Road.CodA cs 0 (Int32.ofNat cs.length) ((cs.map fun c => c.toInt8.toInt32).map Value.int) := own_codOf (fun c hc => (H.2.2.2.2.1 c hc).2)
  refine o_virtB X [] (rest := S) (ws := []) (Q := fun v h' L => v = some (.int (Int32.ofNat cs.length)) ∧ L = [] ∧ h' = h) H.1 (StrChars.Road.lenW (W := (S.map fun v => v.category).sum) (s := s.setVm vm) X.2.1.2.2.1 hln (kI := 4) wi H.1 H.2.2.1 H.2.1 H.2.2.2.1 hcd H.up (X.sta O2) P5 H.2.2.2.2.2 hf hlo) (fun v h' L q => ?_) all0 w1 w2 w3 w4 (by decide) hd rfl hL (fun sig q => ?_) rfl (Nat.le_refl _) hc hs hp (fun v T' h' L' locs' X' R' q => ?_)
  · obtain ⟨-, rfl, rfl⟩ := q
    exact ⟨Fr.nil _, Keep.refl _ _⟩
  · exact lenOf (by decide +kernel : parseMethodDescriptor "()I" = some ⟨[], some .int⟩) rfl sig q
  · obtain ⟨rfl, rfl, rfl⟩ := q
    exact K T' locs' X'
end OwnStr
end Jvm.Pilot.@@N@@

namespace Jvm.Pilot.@@N@@
open Jvm Jvm.ClassFile Sem Op Lib Jvm.Free Jvm.Stand Jvm.LawKit Jvm.RoadKit Bundle Jvm.Pilot.@@N@@.Jvm.D
section OwnUstr
def Rg (c : Int32) : Prop := ¬ c < 0 ∧ ¬ (65535 : Int32) < c
/-- a UTF-16 String: the object a, its byte[] b, its chars cs, one of them above 255 -/
def HS (Z : State) (h : Heap) (a b : Addr) (kb : ClassId) (cs : List Int32) : Prop := Exa Z h a "java/lang/String" ∧ Fld Z h a "java/lang/String" "coder" "B" (.int 1) ∧ Fld Z h a "java/lang/String" "value" "[B" (.ref b) ∧ Arv Z h b kb .byte (Int32.ofNat (2 * cs.length)) (StrChars.Road.wideBytes cs) (.int 0) ∧ (∃ c ∈ cs, (255 : Int32) < c) ∧ (∀ c ∈ cs, Rg c) ∧ cs.length ≤ 4000
theorem HS.ext {Z : State} {h h' : Heap} {a b : Addr} {kb : ClassId} {cs : List Int32} (H : HS Z h a b kb cs) (E : Ext h h') : HS Z h' a b kb cs := ⟨H.1.ext E, H.2.1.ext E, H.2.2.1.ext E, H.2.2.2.1.ext E, H.2.2.2.2⟩
theorem HS.keep {Z : State} {h h' : Heap} {a b : Addr} {kb : ClassId} {cs : List Int32} {ws : List Addr} (H : HS Z h a b kb cs) (K : Keep h h' ws) (n1 : a ∉ ws) (n2 : b ∉ ws) : HS Z h' a b kb cs := ⟨H.1.keep K, H.2.1.keep K n1, H.2.2.1.keep K n1, H.2.2.2.1.keep K n2, H.2.2.2.2⟩
theorem HS.other {Z : State} {h h' : Heap} {a b x : Addr} {sl : Nat} {v : Value} {kb : ClassId} {cs : List Int32} (H : HS Z h a b kb cs) (W : Wr h h' x sl v) (n1 : a ≠ x) (n2 : b ≠ x) : HS Z h' a b kb cs := ⟨H.1.wr W, H.2.1.other W (Or.inl n1), H.2.2.1.other W (Or.inl n1), H.2.2.2.1.other W n2, H.2.2.2.2⟩
/-- a String of chars, Latin-1 or UTF-16 -/
def US (Z : State) (h : Heap) (a b : Addr) (kb : ClassId) (cs : List Int32) : Prop := LS Z h a b kb cs ∨ HS Z h a b kb cs
theorem US.ext {Z : State} {h h' : Heap} {a b : Addr} {kb : ClassId} {cs : List Int32} (H : US Z h a b kb cs) (E : Ext h h') : US Z h' a b kb cs := H.imp (fun q => q.ext E) (fun q => q.ext E)
theorem US.keep {Z : State} {h h' : Heap} {a b : Addr} {kb : ClassId} {cs : List Int32} {ws : List Addr} (H : US Z h a b kb cs) (K : Keep h h' ws) (n1 : a ∉ ws) (n2 : b ∉ ws) : US Z h' a b kb cs := H.imp (fun q => q.keep K n1 n2) (fun q => q.keep K n1 n2)
theorem US.other {Z : State} {h h' : Heap} {a b x : Addr} {sl : Nat} {v : Value} {kb : ClassId} {cs : List Int32} (H : US Z h a b kb cs) (W : Wr h h' x sl v) (n1 : a ≠ x) (n2 : b ≠ x) : US Z h' a b kb cs := H.imp (fun q => q.other W n1 n2) (fun q => q.other W n1 n2)
theorem US.exa {Z : State} {h : Heap} {a b : Addr} {kb : ClassId} {cs : List Int32} (H : US Z h a b kb cs) : Exa Z h a "java/lang/String" := H.elim (fun q => q.1) (fun q => q.1)
theorem US.lt {Z : State} {h : Heap} {a b : Addr} {kb : ClassId} {cs : List Int32} (H : US Z h a b kb cs) : a < h.size := H.exa.lt
theorem US.blt {Z : State} {h : Heap} {a b : Addr} {kb : ClassId} {cs : List Int32} (H : US Z h a b kb cs) : b < h.size := H.elim (fun q => q.2.2.2.1.lt) (fun q => q.2.2.2.1.lt)
theorem US.le {Z : State} {h : Heap} {a b : Addr} {kb : ClassId} {cs : List Int32} (H : US Z h a b kb cs) : cs.length ≤ 4000 := H.elim (fun q => q.2.2.2.2.2) (fun q => q.2.2.2.2.2.2)
theorem US.rg {Z : State} {h : Heap} {a b : Addr} {kb : ClassId} {cs : List Int32} (H : US Z h a b kb cs) : ∀ c ∈ cs, Rg c := H.elim (fun q => q.up) (fun q => q.2.2.2.2.2.1)
variable {l : Launch} {Z : State} {EL : List (String × Nat)} {p : Program} {e : Env} {R : Room} {s : State} {m : MethodId} {args : Array Value} {below : List Frame} {meth : Method} {c : Code} {y : MethodName} {code : ByteArray} {maxL : Nat} {ret : Option FieldType} {vm : Vm} {T : State} {h : Heap} {locs : List Loc} {cells slots : Nat} {F : State → Outcome → Prop} {pc : Nat} {L L' : Array Slot} {S : List Value} {a0 : Array Value} {ss : List Addr}
theorem o_strlenU (X : On l Z EL p e R s m args below meth c y code maxL ret vm T h locs cells slots) {a b : Addr} {kb : ClassId} {cs : List Int32} {z : Int32} {index q : Nat} (H : US Z h a b kb cs) (O2 : Sta Z Z.heap "java/lang/String" "COMPACT_STRINGS" "Z" (.int z)) (P5 : ¬ z = 0) (hln : ∀ d ∈ StrChars.Road.wordsLen, d.before a0 Z = true) (wi : (Jvm.Cond.instantiable "java/lang/String" 4).before a0 Z = true)
    (w1 : (Jvm.Cond.methodLink y.cls index ⟨"java/lang/String", "length", "()I"⟩).before a0 Z = true) (w2 : (Jvm.Cond.declares ⟨"java/lang/String", "length", "()I"⟩).before a0 Z = true) (w3 : (Jvm.Cond.selects "java/lang/String" ⟨"java/lang/String", "length", "()I"⟩ ⟨"java/lang/String", "length", "()I"⟩).before a0 Z = true) (w4 : (Jvm.Cond.instanceMethod ⟨"java/lang/String", "length", "()I"⟩).before a0 Z = true)
    (hd : decode code pc = .ok (.invokevirtual index, 3)) (hL : L.size = maxL) (hf : 2 ≤ R.frames) (hlo : (S.map fun v => v.category).sum + 25 ≤ R.locals) (hc : cells ≤ R.cells) (hs : slots ≤ R.slots) (hp : pc + 3 = q)
    (K : ∀ (T' : State) (locs' : List Loc), On l Z EL p e R s m args below meth c y code maxL ret vm T' h locs' cells slots → Goes p e below F T' (mkF m q L (.int (Int32.ofNat cs.length) :: S))) : Goes p e below F T (mkF m pc L (.ref a :: S)) := by
  rcases H with H | H
  · exact o_strlen X H O2 P5 hln wi w1 w2 w3 w4 hd hL hf hlo hc hs hp K
  have hcd : StrChars.Road.CodA cs 1 (Int32.ofNat (2 * cs.length)) (StrChars.Road.wideBytes cs) := Or.inr ⟨rfl, rfl, rfl, H.2.2.2.2.1⟩
  refine o_virtB X [] (rest := S) (ws := []) (Q := fun v h' L => v = some (.int (Int32.ofNat cs.length)) ∧ L = [] ∧ h' = h) H.1 (StrChars.Road.lenW (W := (S.map fun v => v.category).sum) (s := s.setVm vm) X.2.1.2.2.1 hln (kI := 4) wi H.1 H.2.2.1 H.2.1 H.2.2.2.1 hcd H.2.2.2.2.2.1 (X.sta O2) P5 H.2.2.2.2.2.2 hf hlo) (fun v h' L q => ?_) all0 w1 w2 w3 w4 (by decide) hd rfl hL (fun sig q => ?_) rfl (Nat.le_refl _) hc hs hp (fun v T' h' L' locs' X' R' q => ?_)
  · obtain ⟨-, rfl, rfl⟩ := q
    exact ⟨Fr.nil _, Keep.refl _ _⟩
  · exact lenOf (by decide +kernel : parseMethodDescriptor "()I" = some ⟨[], some .int⟩) rfl sig q
  · obtain ⟨rfl, rfl, rfl⟩ := q
    exact K T' locs' X'
end OwnUstr
end Jvm.Pilot.@@N@@

namespace Jvm.Pilot.@@N@@
open Jvm Jvm.ClassFile Sem Op Lib Jvm.Free Jvm.Stand Jvm.LawKit Jvm.RoadKit Bundle Jvm.Pilot.@@N@@.Jvm.D
section OwnCol
variable {l : Launch} {Z : State} {EL : List (String × Nat)} {p : Program} {e : Env} {R : Room} {s : State} {m : MethodId} {args : Array Value} {below : List Frame} {meth : Method} {c : Code} {y : MethodName} {code : ByteArray} {maxL : Nat} {ret : Option FieldType} {vm : Vm} {T : State} {h : Heap} {locs : List Loc} {cells slots : Nat} {F : State → Outcome → Prop} {pc : Nat} {L L' : Array Slot} {S : List Value} {a0 : Array Value} {ss : List Addr}
theorem o_anew (X : On l Z EL p e R s m args below meth c y code maxL ret vm T h locs cells slots) {C ad : String} {index : Nat} {n : Int32} {cap q : Nat} (N : Nat) (w1 : (Jvm.Cond.classLink y.cls index C).before a0 Z = true) (w2 : (Jvm.Cond.arrayOver (.object C)).before a0 Z = true) (had : "[" ++ (FieldType.object C).toString = ad) (hd : decode code pc = .ok (.anewarray index, 3)) (hn : ¬ n < 0) (hcap : n.toNatClampNeg ≤ cap) (hb8 : cap * 8 ≤ 536870912) (hc : cells + 1 ≤ R.cells) (hl : slots + cap ≤ R.slots) (hp : pc + 3 = q)
    (K : ∀ (T' : State) (h' : Heap) (a : Addr) (k : ClassId), a = h.size → On l Z EL p e R s m args below meth c y code maxL ret vm T' h' locs (cells + 1) (slots + cap) → Ext h h' → CHr Z EL vm h vm h' → Safe Z EL vm h' a → Arv Z h' a k (.object C) n (List.replicate N .null) .null → Exa Z h' a ad → Ovr Z k C → Z.heap.size ≤ a → Goes p e below F T' (mkF m q L (.ref a :: S))) : Goes p e below F T (mkF m pc L (.int n :: S)) := by
  subst hp
  obtain ⟨T', h', k, X', e', E', A', Ex, O', st⟩ := newRE X.1 X.2.1.1 (show Z.Warmed39 (s.setVm vm).vm from X.2.1.2.2.1) X.2.1.2.2.2.1 w1 w2 X.2.2.1 (g := mkF m pc L (.int n :: S)) rfl (hb X.2.1.2.1 hd) rfl hn hcap hb8 hc hl had
  exact Goes.step st (K T' h' h.size k rfl (X.later X' e' X.2.2.2.1 (ext_trans X.ext E') (CHr.ext E' X.chv)) E' (CHr.ext E' X.chv) (Safe.ext E' X.chv (Safe.new (Nat.le_refl _))) ((Arv.new A' hn).pad (pad_rep [] _ N)) Ex O' X.size)
theorem o_aastore (X : On l Z EL p e R s m args below meth c y code maxL ret vm T h locs cells slots) {a : Addr} {k : ClassId} {ty : FieldType} {n j : Int32} {v : Value} {vs : List Value} {dv : Value} {q : Nat} (i : Nat) (A : Arv Z h a k ty n vs dv) (ha : Z.heap.size ≤ a) (hsf : Safe Z EL vm h a) (hty : ty.isReference = true) (hfit : fits ty v = true) (Sx : Sto Z h a v) (hj : ¬ j < 0 ∧ j < n) (hi : j.toNatClampNeg = i) (hlt : i < vs.length) (hd : decode code pc = .ok (.aastore, 1)) (hp : pc + 1 = q)
    (K : ∀ (T' : State) (h' : Heap) (locs' : List Loc), On l Z EL p e R s m args below meth c y code maxL ret vm T' h' locs' cells slots → Wr h h' a i v → CHr Z EL vm h vm h' → Arv Z h' a k ty n (vs.set i v) dv → Goes p e below F T' (mkF m q L S)) : Goes p e below F T (mkF m pc L (v :: .int j :: .ref a :: S)) := by
  subst hp
  obtain ⟨cl, Ar, q1, Sz, Nn, H, G⟩ := A
  obtain ⟨T', h', X', e', W', st⟩ := stR X.1 X.2.1.1 (show Z.Warmed39 (s.setVm vm).vm from X.2.1.2.2.1) X.2.2.1 Ar (j := j) (inb_of Sz hj) hty Sx (g := mkF m pc L (v :: .int j :: .ref a :: S)) rfl rfl (hb X.2.1.2.1 hd)
  exact Goes.step st (K T' h' _ (X.later X' e' (Fr.snoc X' X.2.2.2.1 ha) (ext_wr X.ext W' ha) (CHr.wr W' hsf X.chv)) (hi ▸ W') (CHr.wr W' hsf X.chv) (Arv.set Ar q1 Sz Nn H G hfit W' i hi hlt))
theorem sto_of {Z : State} {h : Heap} {a x : Addr} {k : ClassId} {ty : FieldType} {C D : String} {n : Int32} {vs : List Value} {dv : Value} {a0 : Array Value} (A : Arv Z h a k ty n vs dv) (O : Ovr Z k C) (E : Exa Z h x D) (w : (Jvm.Cond.castable D C).before a0 Z = true) : Sto Z h a (.ref x) := by
  obtain ⟨cl, Ar, q1, -⟩ := A
  exact Sto.ofV Ar q1 O (Ins.of_exa E w)
theorem o_cast (X : On l Z EL p e R s m args below meth c y code maxL ret vm T h locs cells slots) {K' : String} {index q : Nat} {a : Addr} (I : Ins Z h a K' true) (w : (Jvm.Cond.classLink y.cls index K').before a0 Z = true) (hd : decode code pc = .ok (.checkcast index, 3)) (hp : pc + 3 = q)
    (K : ∀ T' : State, On l Z EL p e R s m args below meth c y code maxL ret vm T' h locs cells slots → Goes p e below F T' (mkF m q L (.ref a :: S))) : Goes p e below F T (mkF m pc L (.ref a :: S)) := by
  subst hp
  obtain ⟨T', X', e', st⟩ := castY X.1 X.2.1.1 (show Z.Warmed39 (s.setVm vm).vm from X.2.1.2.2.1) X.2.1.2.2.2.1 w X.2.2.1 I (g := mkF m pc L (.ref a :: S)) rfl rfl (hb X.2.1.2.1 hd)
  exact Goes.step st (K T' (X.later X' e' X.2.2.2.1 X.ext (CHr.refl X.chv)))
theorem o_instY (X : On l Z EL p e R s m args below meth c y code maxL ret vm T h locs cells slots) {K' : String} {index q : Nat} {a : Addr} (I : Ins Z h a K' true) (w : (Jvm.Cond.classLink y.cls index K').before a0 Z = true) (hd : decode code pc = .ok (.instanceof index, 3)) (hp : pc + 3 = q)
    (K : ∀ T' : State, On l Z EL p e R s m args below meth c y code maxL ret vm T' h locs cells slots → Goes p e below F T' (mkF m q L (.int 1 :: S))) : Goes p e below F T (mkF m pc L (.ref a :: S)) := by
  subst hp
  obtain ⟨T', X', e', st⟩ := instY X.1 X.2.1.1 (show Z.Warmed39 (s.setVm vm).vm from X.2.1.2.2.1) X.2.1.2.2.2.1 w X.2.2.1 I (g := mkF m pc L (.ref a :: S)) rfl rfl (hb X.2.1.2.1 hd)
  exact Goes.step st (K T' (X.later X' e' X.2.2.2.1 X.ext (CHr.refl X.chv)))
theorem o_instNo (X : On l Z EL p e R s m args below meth c y code maxL ret vm T h locs cells slots) {C K' : String} {index q : Nat} {a : Addr} (E : Exa Z h a C) (N : ∃ c t, Z.vm.findClass C = some c ∧ Z.vm.findClass K' = some t ∧ Z.vm.assignable c t = false) (w : (Jvm.Cond.classLink y.cls index K').before a0 Z = true) (hd : decode code pc = .ok (.instanceof index, 3)) (hp : pc + 3 = q)
    (K : ∀ T' : State, On l Z EL p e R s m args below meth c y code maxL ret vm T' h locs cells slots → Goes p e below F T' (mkF m q L (.int 0 :: S))) : Goes p e below F T (mkF m pc L (.ref a :: S)) := by
  subst hp
  obtain ⟨T', X', e', st⟩ := instNo X.1 X.2.1.1 (show Z.Warmed39 (s.setVm vm).vm from X.2.1.2.2.1) X.2.1.2.2.2.1 w X.2.2.1 E N (g := mkF m pc L (.ref a :: S)) rfl rfl (hb X.2.1.2.1 hd)
  exact Goes.step st (K T' (X.later X' e' X.2.2.2.1 X.ext (CHr.refl X.chv)))
/-- C's chain of superclasses does not meet the class K, which can be made -/
theorem ns_root {Z : State} {a0 : Array Value} {O K : String} {n : Nat} (w : (Jvm.Cond.noSuperclass O).before a0 Z = true) (wk : (Jvm.Cond.instantiable K n).before a0 Z = true) (hn : O ≠ K) : NS Z O K := by
  obtain ⟨c, k, h1, h2, h3, -, -⟩ := Cond.noSuperclass_spec w
  obtain ⟨t, kt, g1, -⟩ := Cond.instantiable_spec wk
  have ne := ids_ne h1 g1 hn
  refine ⟨c, t, h1, g1, fun fuel => ?_⟩
  cases fuel with
  | zero => rfl
  | succ f => simp [Vm.isSubclassAux, ne, h2, h3]
theorem ns_no {Z : State} {a0 : Array Value} {C S K : String} {n : Nat} (w : (Jvm.Cond.superclass C S).before a0 Z = true) (wk : (Jvm.Cond.instantiable K n).before a0 Z = true) (N : NS Z C K) (hn : C ≠ K) : ∃ c t, Z.vm.findClass C = some c ∧ Z.vm.findClass K = some t ∧ Z.vm.assignable c t = false := by
  obtain ⟨c, t, h0, g0, n3⟩ := N
  obtain ⟨p, k, kp, h1, h2, h3, h4, h5, -, h7⟩ := Cond.superclass_spec h0 w
  obtain ⟨t', kt, g1, g2, g3, g4, -⟩ := Cond.instantiable_spec wk
  cases g0.symm.trans g1
  have ne := ids_ne h0 g0 hn
  have g5 : kt.isInterface = false := by
    cases q : kt.isInterface
    · rfl
    · rw [q] at g4; simp at g4
  refine ⟨c, t, h0, g0, ?_⟩
  show Z.vm.assignableAux (255 + 1) c t = false
  simp [Vm.assignableAux, ne, h2, g2, h5, g3, g5, Vm.isSubclass, n3]
theorem o_ldcM (X : On l Z EL p e R s m args below meth c y code maxL ret vm T h locs cells slots) {C : String} {index q : Nat} {mr : Addr} (M : Mir Z C mr) (w : (Jvm.Cond.classLink y.cls index C).before a0 Z = true) (hd : decode code pc = .ok (.ldc index, 2)) (hp : pc + 2 = q)
    (K : ∀ T' : State, On l Z EL p e R s m args below meth c y code maxL ret vm T' h locs cells slots → Goes p e below F T' (mkF m q L (.ref mr :: S))) : Goes p e below F T (mkF m pc L S) := by
  subst hp
  obtain ⟨c0, k0, m1, m2, m3, -⟩ := M
  obtain ⟨k', q1, ek⟩ := (show Z.Warmed39 (s.setVm vm).vm from X.2.1.2.2.1).alike.2.2 _ _ m2
  have hm : k'.mirror = some mr := by rw [ek]; exact m3
  obtain ⟨vm', X', st⟩ := X.1.ldcMirror X.2.1.1 X.2.1.2.2.2.1 (mvT (s := (s.setVm vm)) X.2.1.2.2.1 w) (a := mr) (by
    have q2 : (s.setVm vm).vm.findClass C = some c0 := by rw [(show Z.Warmed39 (s.setVm vm).vm from X.2.1.2.2.1).alike.findClass]; exact m1
    simp only [Term.eval, q2, Option.bind_eq_bind, Option.bind_some, q1, hm, Option.pure_def]) (g := mkF m pc L S) rfl (hb X.2.1.2.1 hd)
  have e' : (T.setVm vm').heap = h := X.2.2.1
  exact Goes.step st (K _ (X.later X' e' X.2.2.2.1 X.ext (CHr.refl X.chv)))
theorem o_gcls (X : On l Z EL p e R s m args below meth c y code maxL ret vm T h locs cells slots) {C : String} {index q : Nat} {a mr : Addr} (E : Exa Z h a C) (M : Mir Z C mr) (w1 : (Jvm.Cond.methodLink y.cls index ⟨"java/lang/Object", "getClass", "()Ljava/lang/Class;"⟩).before a0 Z = true) (w2 : (Jvm.Cond.declares ⟨"java/lang/Object", "getClass", "()Ljava/lang/Class;"⟩).before a0 Z = true) (w3 : (Jvm.Cond.noSuperclass "java/lang/Object").before a0 Z = true) (w4 : (Jvm.Cond.selects C ⟨"java/lang/Object", "getClass", "()Ljava/lang/Class;"⟩ ⟨"java/lang/Object", "getClass", "()Ljava/lang/Class;"⟩).before a0 Z = true) (w5 : (Jvm.Cond.instanceMethod ⟨"java/lang/Object", "getClass", "()Ljava/lang/Class;"⟩).before a0 Z = true) (w6 : (Jvm.Cond.native ⟨"java/lang/Object", "getClass", "()Ljava/lang/Class;"⟩).before a0 Z = true)
    (hd : decode code pc = .ok (.invokevirtual index, 3)) (hL : L.size = maxL) (hf : 1 ≤ R.frames) (hl : (S.map fun v => v.category).sum + (nativeFrameWords "java/lang/Object" "getClass" 1 + 11) ≤ R.locals) (hp : pc + 3 = q)
    (K : ∀ T' : State, On l Z EL p e R s m args below meth c y code maxL ret vm T' h locs cells slots → Goes p e below F T' (mkF m q L (.ref mr :: S))) : Goes p e below F T (mkF m pc L (.ref a :: S)) := by
  subst hp
  obtain ⟨T', X', e', st⟩ := gcls X.1 X.2.1.1 (show Z.Warmed39 (s.setVm vm).vm from X.2.1.2.2.1) X.2.1.2.2.2.1 w1 w2 w3 w4 w5 w6 X.2.2.1 E M (g := mkF m pc L (.ref a :: S)) rfl (hL.trans X.2.1.2.2.2.2.2.2.2.symm) rfl (hb X.2.1.2.1 hd) hf (W := (S.map fun v => v.category).sum) (by show 2 * 0 + _ ≤ _; omega) hl
  exact Goes.step st (K T' (X.later X' e' X.2.2.2.1 X.ext (CHr.refl X.chv)))
theorem o_copy (X : On l Z EL p e R s m args below meth c y code maxL ret vm T h locs cells slots) {index q : Nat} {a b : Addr} {k k' : ClassId} {ty ty' : FieldType} {z z' sp dp nn : Int32} {vs vd us vs' : List Value} {dv dd : Value} (A : Arv Z h a k ty z vs dv) (B : Arv Z h b k' ty' z' vd dd) (hty : (ty = ty' ∧ refKind ty = false) ∨ (refKind ty = true ∧ refKind ty' = true ∧ StoL Z h b us)) (hgb : Z.heap.size ≤ b) (hsf : Safe Z EL vm h b)
    (h1 : ¬ sp < 0) (h2 : ¬ dp < 0) (h3 : ¬ nn < 0) (h4 : sp.toNatClampNeg + nn.toNatClampNeg ≤ z.toNatClampNeg) (h5 : dp.toNatClampNeg + nn.toNatClampNeg ≤ z'.toNatClampNeg) (hus : us = (List.range nn.toNatClampNeg).map fun i => vs.getD (sp.toNatClampNeg + i) dv) (hlv : dp.toNatClampNeg + nn.toNatClampNeg ≤ vd.length) (hvs : vd.take dp.toNatClampNeg ++ us ++ vd.drop (dp.toNatClampNeg + nn.toNatClampNeg) = vs')
    (w1 : (Jvm.Cond.methodLink y.cls index Jvm.Stand.acN).before a0 Z = true) (w2 : (Jvm.Cond.native Jvm.Stand.acN).before a0 Z = true) (w3 : (Jvm.Cond.static Jvm.Stand.acN).before a0 Z = true) (w4 : (Jvm.Cond.initialized "java/lang/System").before a0 Z = true)
    (hd : decode code pc = .ok (.invokestatic index, 3)) (hL : L.size = maxL) (hf : 1 ≤ R.frames) (hl : (S.map fun v => v.category).sum + (nativeFrameWords "java/lang/System" "arraycopy" 5 + 11) ≤ R.locals) (hp : pc + 3 = q)
    (K : ∀ (T' : State) (h' : Heap) (locs' : List Loc), On l Z EL p e R s m args below meth c y code maxL ret vm T' h' locs' cells slots → Keep h h' [b] → CHr Z EL vm h vm h' → Arv Z h' b k' ty' z' vs' dd → Goes p e below F T' (mkF m q L S)) : Goes p e below F T (mkF m pc L (.int nn :: .int dp :: .ref b :: .int sp :: .ref a :: S)) := by
  subst hp hvs
  obtain ⟨T', h', Lc, X', e', N', K', A', st⟩ := cpA X.1 X.2.1.1 (show Z.Warmed39 (s.setVm vm).vm from X.2.1.2.2.1) X.2.1.2.2.2.1 w1 w2 w3 w4 X.2.2.1 A B hty h1 h2 h3 h4 h5 hus hlv X.2.2.2.1 hgb (g := mkF m pc L (.int nn :: .int dp :: .ref b :: .int sp :: .ref a :: S)) rfl (hL.trans X.2.1.2.2.2.2.2.2.2.symm) rfl (hb X.2.1.2.1 hd) hf (W := (S.map fun v => v.category).sum) (by show 2 * 0 + _ ≤ _; omega) hl
  exact Goes.step st (K T' h' Lc (X.later X' e' N' (ext_keep X.ext K' (allS hgb all0)) (CHr.keep K' (fun x hx => by cases List.mem_singleton.mp hx; exact hsf) X.chv)) K' (CHr.keep K' (fun x hx => by cases List.mem_singleton.mp hx; exact hsf) X.chv) A')
theorem o_tsw (X : On l Z EL p e R s m args below meth c y code maxL ret vm T h locs cells slots) {dflt low high : Int} {offs : Array Int} {len : Nat} {i : Int} {x : Int32} {q : Nat} (hd : decode code pc = .ok (.tableswitch dflt low high offs, len)) (h1 : low ≤ x.toInt) (h2 : x.toInt ≤ high) (hi : offs[(x.toInt - low).toNat]? = some i) (ho : 0 ≤ (pc : Int) + i) (hp : ((pc : Int) + i).toNat = q) (K : Goes p e below F T (mkF m q L S)) : Goes p e below F T (mkF m pc L (.int x :: S)) :=
  Goes.step (fun _ k => Jvm.Free.XS.tswIn X.1.here X.2.1.1 (g := mkF m pc L (.int x :: S)) rfl (pc0 := pc) rfl (hb X.2.1.2.1 hd) rfl (fun q => q.elim (fun r => by omega) (fun r => by omega)) hi ho hp k) K
theorem o_tswD (X : On l Z EL p e R s m args below meth c y code maxL ret vm T h locs cells slots) {dflt low high : Int} {offs : Array Int} {len : Nat} {x : Int32} {q : Nat} (hd : decode code pc = .ok (.tableswitch dflt low high offs, len)) (h1 : x.toInt < low ∨ high < x.toInt) (ho : 0 ≤ (pc : Int) + dflt) (hp : ((pc : Int) + dflt).toNat = q) (K : Goes p e below F T (mkF m q L S)) : Goes p e below F T (mkF m pc L (.int x :: S)) :=
  Goes.step (fun _ k => Jvm.Free.XS.tswOut X.1.here X.2.1.1 (g := mkF m pc L (.int x :: S)) rfl (pc0 := pc) rfl (hb X.2.1.2.1 hd) rfl h1 ho hp k) K
theorem o_iface (X : On l Z EL p e R s m args below meth c y code maxL ret vm T h locs cells slots) {C : String} {xi y' : MethodName} {index count q : Nat} {bytes : ByteArray} {maxL' : Nat} {ret' : Option FieldType} {rm : Room} {as : Array Value} {Q : Option Value → Heap → (Addr → Prop) → Prop} (argsL : List Value) {a : Addr} {rest : List Value} (E : Exa Z h a C) (hC : Con l Z EL y' bytes maxL' ret' rm as h ss Q) (hss : ∀ x ∈ ss, x < h.size ∧ Safe Z EL vm h x)
    (w1 : (Jvm.Cond.methodLink y.cls index xi).before a0 Z = true) (w2 : (Jvm.Cond.declares xi).before a0 Z = true) (w3 : (Jvm.Cond.interfaceMethod xi.cls xi.cls xi.name xi.desc).before a0 Z = true) (w4 : (Jvm.Cond.selects C xi y').before a0 Z = true) (w5 : (Jvm.Cond.instanceMethod y').before a0 Z = true) (w6 : (Jvm.Cond.publicMethod y').before a0 Z = true) (w7 : (Jvm.Cond.unhidden C xi.name xi.desc).before a0 Z = true) (w8 : (Jvm.Cond.castable C xi.cls).before a0 Z = true) (w9 : (Jvm.Cond.code y' bytes maxL' ret').before a0 Z = true) (w10 : (Jvm.Cond.initialized y'.cls).before a0 Z = true) (hy : xi.cls ≠ "java/lang/invoke/MethodHandle" ∧ xi.cls ≠ "java/lang/invoke/VarHandle")
    (hd : decode code pc = .ok (.invokeinterface index count, 5)) (has : (.ref a :: argsL).toArray = as) (hL : L.size = maxL) (hlen : ∀ sig, parseMethodDescriptor xi.desc = some sig → argsL.length = sig.parameters.length) (hS : S = argsL.reverse ++ .ref a :: rest) (hf : rm.frames + 1 ≤ R.frames) (hl : (rest.map fun v => v.category).sum + (maxL' + 11) + rm.locals ≤ R.locals) (hc : cells + rm.cells ≤ R.cells) (hs : slots + rm.slots ≤ R.slots) (hp : pc + 5 = q)
    (K : ∀ (v : Option Value) (vm' : Vm) (T' : State) (h' : Heap) (locs' : List Loc), On l Z EL p e R s m args below meth c y code maxL ret vm' T' h' locs' (cells + rm.cells) (slots + rm.slots) → CHr Z EL vm h vm' h' → Q v h' (Safe Z EL vm' h') → Goes p e below F T' (mkF m q L (v.toList ++ rest))) : Goes p e below F T (mkF m pc L S) := by
  subst hp hS has
  obtain ⟨cB, kB, q1, q2, q3⟩ := isOf (show Z.Warmed39 (s.setVm vm).vm from X.2.1.2.2.1) X.2.2.1 E
  obtain ⟨v, vm1, ⟨T', L1, k1, n1⟩, -, X', S', g', ⟨Lc, hQ, e2, e3, e4, R'⟩, st⟩ := X.1.interfaceBackS X.2.1.1 (xi := xi) (y := y') X.2.1.2.2.2.1 (mvT (s := (s.setVm vm)) X.2.1.2.2.1 w1) (mvT (s := (s.setVm vm)) X.2.1.2.2.1 w2) (mvT (s := (s.setVm vm)) X.2.1.2.2.1 w3 (by simp [Cond.onTables, Cond.keepsFace, Cond.keeps, Cond.steady, Cond.faceAtom]; exact hy)) (mvT (s := (s.setVm vm)) X.2.1.2.2.1 w4) (mvT (s := (s.setVm vm)) X.2.1.2.2.1 w5) (mvT (s := (s.setVm vm)) X.2.1.2.2.1 w6) (mvT (s := (s.setVm vm)) X.2.1.2.2.1 w7) (mvT (s := (s.setVm vm)) X.2.1.2.2.1 w8) hy (Con.back X hC hss w9 w10 hf hl) q1 q2 q3 (g := mkF m pc L (argsL.reverse ++ .ref a :: rest)) rfl (hL.trans X.2.1.2.2.2.2.2.2.2.symm) (Steps.refl _) hlen rfl (by show 2 * 0 + _ ≤ _; omega) (hb X.2.1.2.1 hd) (fun _ _ => ⟨rfl, X.2.2.1, hc, hs⟩)
  dsimp only [Pt.U, Pt.locs, Pt.cells, Pt.slots] at X' S' g' hQ e2 e3 e4 R' st
  subst e2 e3 e4
  exact Goes.step (fun _ k => st.trans k) (K v T'.vm T' T'.heap _ (X.laterV X' S' rfl rfl (Fr.app X.2.2.2.1 hQ.2.1) hQ.2.2 R') R' hQ.1)
theorem o_priv (X : On l Z EL p e R s m args below meth c y code maxL ret vm T h locs cells slots) {D : String} {y' : MethodName} {index q : Nat} {bytes : ByteArray} {maxL' : Nat} {ret' : Option FieldType} {rm : Room} {as : Array Value} {Q : Option Value → Heap → (Addr → Prop) → Prop} (argsL : List Value) {a : Addr} {rest : List Value} (E : Exa Z h a D) (hC : Con l Z EL y' bytes maxL' ret' rm as h ss Q) (hss : ∀ x ∈ ss, x < h.size ∧ Safe Z EL vm h x)
    (w1 : (Jvm.Cond.methodLink y.cls index y').before a0 Z = true) (w2 : (Jvm.Cond.instanceMethod y').before a0 Z = true) (w3 : (Jvm.Cond.selects y'.cls y' y').before a0 Z = true) (w4 : (Jvm.Cond.privateMethod y').before a0 Z = true) (w5 : (Jvm.Cond.code y' bytes maxL' ret').before a0 Z = true) (w6 : (Jvm.Cond.initialized y'.cls).before a0 Z = true) (hy : y'.cls ≠ "java/lang/invoke/MethodHandle" ∧ y'.cls ≠ "java/lang/invoke/VarHandle")
    (hd : decode code pc = .ok (.invokevirtual index, 3)) (has : (.ref a :: argsL).toArray = as) (hL : L.size = maxL) (hlen : ∀ sig, parseMethodDescriptor y'.desc = some sig → argsL.length = sig.parameters.length) (hS : S = argsL.reverse ++ .ref a :: rest) (hf : rm.frames + 1 ≤ R.frames) (hl : (rest.map fun v => v.category).sum + (maxL' + 11) + rm.locals ≤ R.locals) (hc : cells + rm.cells ≤ R.cells) (hs : slots + rm.slots ≤ R.slots) (hp : pc + 3 = q)
    (K : ∀ (v : Option Value) (vm' : Vm) (T' : State) (h' : Heap) (locs' : List Loc), On l Z EL p e R s m args below meth c y code maxL ret vm' T' h' locs' (cells + rm.cells) (slots + rm.slots) → CHr Z EL vm h vm' h' → Q v h' (Safe Z EL vm' h') → Goes p e below F T' (mkF m q L (v.toList ++ rest))) : Goes p e below F T (mkF m pc L S) := by
  subst hp hS has
  obtain ⟨cl, hcl, hst⟩ := E.cell
  obtain ⟨v, vm1, ⟨T', L1, k1, n1⟩, -, X', S', g', ⟨Lc, hQ, e2, e3, e4, R'⟩, st⟩ := X.1.privateBackS X.2.1.1 (y := y') X.2.1.2.2.2.1 (mvT (s := (s.setVm vm)) X.2.1.2.2.1 w1) (mvT (s := (s.setVm vm)) X.2.1.2.2.1 w2) (mvT (s := (s.setVm vm)) X.2.1.2.2.1 w3) (Cond.privateMethod_at (mvP (show Z.Warmed39 (s.setVm vm).vm from X.2.1.2.2.1) w4 (args := #[]))) (mvT (s := (s.setVm vm)) X.2.1.2.2.1 w5) hy (Con.back X hC hss w5 w6 hf hl) (g := mkF m pc L (argsL.reverse ++ .ref a :: rest)) rfl (hL.trans X.2.1.2.2.2.2.2.2.2.symm) (Steps.refl _) (a := a) (cell := cl) (by rw [X.2.2.1]; exact hcl) hst hlen rfl (by show 2 * 0 + _ ≤ _; omega) (hb X.2.1.2.1 hd) (fun _ _ => ⟨rfl, X.2.2.1, hc, hs⟩)
  dsimp only [Pt.U, Pt.locs, Pt.cells, Pt.slots] at X' S' g' hQ e2 e3 e4 R' st
  subst e2 e3 e4
  exact Goes.step (fun _ k => st.trans k) (K v T'.vm T' T'.heap _ (X.laterV X' S' rfl rfl (Fr.app X.2.2.2.1 hQ.2.1) hQ.2.2 R') R' hQ.1)
theorem o_specN (X : On l Z EL p e R s m args below meth c y code maxL ret vm T h locs cells slots) {host : String} {y' : MethodName} {index q : Nat} {bytes : ByteArray} {maxL' : Nat} {rm : Room} {as : Array Value} {Q : Option Value → Heap → (Addr → Prop) → Prop} (argsL : List Value) {a : Addr} {rest : List Value} (hC : Con l Z EL y' bytes maxL' none rm as h ss Q) (hss : ∀ x ∈ ss, x < h.size ∧ Safe Z EL vm h x)
    (hy1 : y'.name = "<init>") (w1 : (Jvm.Cond.methodLinkNest y.cls index y' host).before a0 Z = true) (w2 : (Jvm.Cond.instanceMethod y').before a0 Z = true) (w3 : (Jvm.Cond.code y' bytes maxL' none).before a0 Z = true) (w4 : (Jvm.Cond.initialized y'.cls).before a0 Z = true) (hy : y'.cls ≠ "java/lang/invoke/MethodHandle" ∧ y'.cls ≠ "java/lang/invoke/VarHandle")
    (hd : decode code pc = .ok (.invokespecial index, 3)) (has : (.ref a :: argsL).toArray = as) (hL : L.size = maxL) (hlen : ∀ sig, parseMethodDescriptor y'.desc = some sig → argsL.length = sig.parameters.length) (hS : S = argsL.reverse ++ .ref a :: rest) (hf : rm.frames + 1 ≤ R.frames) (hl : (rest.map fun v => v.category).sum + (maxL' + 11) + rm.locals ≤ R.locals) (hc : cells + rm.cells ≤ R.cells) (hs : slots + rm.slots ≤ R.slots) (hp : pc + 3 = q)
    (K : ∀ (v : Option Value) (vm' : Vm) (T' : State) (h' : Heap) (locs' : List Loc), On l Z EL p e R s m args below meth c y code maxL ret vm' T' h' locs' (cells + rm.cells) (slots + rm.slots) → CHr Z EL vm h vm' h' → Q v h' (Safe Z EL vm' h') → Goes p e below F T' (mkF m q L (v.toList ++ rest))) : Goes p e below F T (mkF m pc L S) := by
  subst hp hS has
  obtain ⟨v, vm1, ⟨T', L1, k1, n1⟩, -, X', S', g', ⟨Lc, hQ, e2, e3, e4, R'⟩, st⟩ := X.1.specialBackNestS X.2.1.1 hy1 X.2.1.2.2.2.1 ((Cond.methodLinkNest_wide (show Z.Warmed39 (s.setVm vm).vm from X.2.1.2.2.1) w1 :)) (mvT (s := (s.setVm vm)) X.2.1.2.2.1 w2) (mvT (s := (s.setVm vm)) X.2.1.2.2.1 w3) hy (Con.back X hC hss w3 w4 hf hl) (g := mkF m pc L (argsL.reverse ++ .ref a :: rest)) rfl (hL.trans X.2.1.2.2.2.2.2.2.2.symm) (Steps.refl _) hlen rfl (by show 2 * 0 + _ ≤ _; omega) (hb X.2.1.2.1 hd) (fun _ _ => ⟨rfl, X.2.2.1, hc, hs⟩)
  dsimp only [Pt.U, Pt.locs, Pt.cells, Pt.slots] at X' S' g' hQ e2 e3 e4 R' st
  subst e2 e3 e4
  exact Goes.step (fun _ k => st.trans k) (K v T'.vm T' T'.heap _ (X.laterV X' S' rfl rfl (Fr.app X.2.2.2.1 hQ.2.1) hQ.2.2 R') R' hQ.1)
/-- a private method's word for its own class, from the word for a subclass -/
theorem sel_up {Z : State} {a0 : Array Value} {C : String} {y : MethodName} (w1 : (Jvm.Cond.selects C y y).before a0 Z = true) (w2 : (Jvm.Cond.instanceMethod y).before a0 Z = true) (w3 : (Jvm.Cond.privateMethod y).before a0 Z = true) (hy : y.cls ≠ "java/lang/invoke/MethodHandle" ∧ y.cls ≠ "java/lang/invoke/VarHandle") : (Jvm.Cond.selects y.cls y y).before a0 Z = true := by
  obtain ⟨mk, methM, hn, hm, -, -⟩ := Cond.instanceMethod_spec w2
  obtain ⟨c, r, m, q1, q2, q3, q4, kk, q5, q6⟩ := Cond.selects_spec w1
  cases hn.symm.trans q3
  have hf := State.methodFound?_of_named hn hy
  have hc := findClass_of_methodNamed hn
  have hs : selectMethod {} Z.vm mk.cls mk = .method mk := selectMethod_private hm (Cond.privateMethod_at w3 mk methM hn hm)
  simp [Cond.before, Cond.holds, Cond.value, hc, hf, hn, hs, q5, q6]
/-- a method of a class (no interface, by another word) is the one its own class finds -/
theorem same_up {Z : State} {a0 : Array Value} {C : String} {y z : MethodName} (w1 : (Jvm.Cond.selects C z z).before a0 Z = true) (w2 : (Jvm.Cond.instanceMethod y).before a0 Z = true) (hz : z.cls = y.cls) (hy : y.cls ≠ "java/lang/invoke/MethodHandle" ∧ y.cls ≠ "java/lang/invoke/VarHandle") : (Jvm.Cond.sameMethod y.cls y.cls y.name y.desc).before a0 Z = true := by
  obtain ⟨mk, methM, hn, hm, -, -⟩ := Cond.instanceMethod_spec w2
  obtain ⟨c, r, m, q1, q2, q3, q4, kk, q5, q6⟩ := Cond.selects_spec w1
  have hf := State.methodFound?_of_named hn hy
  have hc := findClass_of_methodNamed hn
  have hc2 := findClass_of_methodNamed q3
  rw [hz, hc] at hc2
  have e := Option.some.inj hc2
  rw [← e] at q5
  simp [Cond.before, Cond.holds, Cond.value, hc, hf, show Z.methodNamed? ⟨y.cls, y.name, y.desc⟩ = some mk from hn, q5, q6]
theorem o_super (X : On l Z EL p e R s m args below meth c y code maxL ret vm T h locs cells slots) {D : String} {y' : MethodName} {index q : Nat} {bytes : ByteArray} {maxL' : Nat} {ret' : Option FieldType} {rm : Room} {as : Array Value} {Q : Option Value → Heap → (Addr → Prop) → Prop} (argsL : List Value) {a : Addr} {rest : List Value} (E : Exa Z h a D) (hC : Con l Z EL y' bytes maxL' ret' rm as h ss Q) (hss : ∀ x ∈ ss, x < h.size ∧ Safe Z EL vm h x)
    (w1 : (Jvm.Cond.methodLink y.cls index y').before a0 Z = true) (w2 : (Jvm.Cond.sameMethod y'.cls y'.cls y'.name y'.desc).before a0 Z = true) (w3 : (Jvm.Cond.instanceMethod y').before a0 Z = true) (w4 : (Jvm.Cond.superclass y.cls y'.cls).before a0 Z = true) (hn : y'.name ≠ "<init>") (w5 : (Jvm.Cond.code y' bytes maxL' ret').before a0 Z = true) (w6 : (Jvm.Cond.initialized y'.cls).before a0 Z = true)
    (hd : decode code pc = .ok (.invokespecial index, 3)) (has : (.ref a :: argsL).toArray = as) (hL : L.size = maxL) (hlen : ∀ sig, parseMethodDescriptor y'.desc = some sig → argsL.length = sig.parameters.length) (hS : S = argsL.reverse ++ .ref a :: rest) (hf : rm.frames + 1 ≤ R.frames) (hl : (rest.map fun v => v.category).sum + (maxL' + 11) + rm.locals ≤ R.locals) (hc : cells + rm.cells ≤ R.cells) (hs : slots + rm.slots ≤ R.slots) (hp : pc + 3 = q)
    (K : ∀ (v : Option Value) (vm' : Vm) (T' : State) (h' : Heap) (locs' : List Loc), On l Z EL p e R s m args below meth c y code maxL ret vm' T' h' locs' (cells + rm.cells) (slots + rm.slots) → CHr Z EL vm h vm' h' → Q v h' (Safe Z EL vm' h') → Goes p e below F T' (mkF m q L (v.toList ++ rest))) : Goes p e below F T (mkF m pc L S) := by
  subst hp hS has
  obtain ⟨v, vm1, ⟨T', L1, k1, n1⟩, -, X', S', g', ⟨Lc, hQ, e2, e3, e4, R'⟩, st⟩ := superBackS X.1 X.2.1.1 (show Z.Warmed39 (s.setVm vm).vm from X.2.1.2.2.1) X.2.1.2.2.2.1 w1 w2 w3 w4 hn (Con.back X hC hss w5 w6 hf hl) X.2.2.1 (Ins.self E) (g := mkF m pc L (argsL.reverse ++ .ref a :: rest)) rfl (hL.trans X.2.1.2.2.2.2.2.2.2.symm) w5 hlen rfl (by show 2 * 0 + _ ≤ _; omega) (hb X.2.1.2.1 hd) (fun _ _ => ⟨rfl, X.2.2.1, hc, hs⟩)
  dsimp only [Pt.U, Pt.locs, Pt.cells, Pt.slots] at X' S' g' hQ e2 e3 e4 R' st
  subst e2 e3 e4
  exact Goes.step (fun _ k => st.trans k) (K v T'.vm T' T'.heap _ (X.laterV X' S' rfl rfl (Fr.app X.2.2.2.1 hQ.2.1) hQ.2.2 R') R' hQ.1)
theorem o_virt2 (X : On l Z EL p e R s m args below meth c y code maxL ret vm T h locs cells slots) {C : String} {z' y' : MethodName} {index q : Nat} {bytes : ByteArray} {maxL' : Nat} {ret' : Option FieldType} {rm : Room} {as : Array Value} {Q : Option Value → Heap → (Addr → Prop) → Prop} (argsL : List Value) {a : Addr} {rest : List Value} (E : Exa Z h a C) (hC : Con l Z EL y' bytes maxL' ret' rm as h ss Q) (hss : ∀ x ∈ ss, x < h.size ∧ Safe Z EL vm h x)
    (w1 : (Jvm.Cond.methodLink y.cls index z').before a0 Z = true) (w2 : (Jvm.Cond.declares z').before a0 Z = true) (w3 : (Jvm.Cond.selects C z' y').before a0 Z = true) {D : String} {u : MethodName} (wn : (Jvm.Cond.selects D u u).before a0 Z = true) (hu : u.cls = z'.cls) (w4 : (Jvm.Cond.instanceMethod y').before a0 Z = true) (w5 : (Jvm.Cond.code y' bytes maxL' ret').before a0 Z = true) (w6 : (Jvm.Cond.initialized y'.cls).before a0 Z = true) (hy : z'.cls ≠ "java/lang/invoke/MethodHandle" ∧ z'.cls ≠ "java/lang/invoke/VarHandle")
    (hd : decode code pc = .ok (.invokevirtual index, 3)) (has : (.ref a :: argsL).toArray = as) (hL : L.size = maxL) (hlen : ∀ sig, parseMethodDescriptor z'.desc = some sig → argsL.length = sig.parameters.length) (hS : S = argsL.reverse ++ .ref a :: rest) (hf : rm.frames + 1 ≤ R.frames) (hl : (rest.map fun v => v.category).sum + (maxL' + 11) + rm.locals ≤ R.locals) (hc : cells + rm.cells ≤ R.cells) (hs : slots + rm.slots ≤ R.slots) (hp : pc + 3 = q)
    (K : ∀ (v : Option Value) (vm' : Vm) (T' : State) (h' : Heap) (locs' : List Loc), On l Z EL p e R s m args below meth c y code maxL ret vm' T' h' locs' (cells + rm.cells) (slots + rm.slots) → CHr Z EL vm h vm' h' → Q v h' (Safe Z EL vm' h') → Goes p e below F T' (mkF m q L (v.toList ++ rest))) : Goes p e below F T (mkF m pc L S) := by
  subst hp hS has
  obtain ⟨cB, kB, q1, q2, q3⟩ := isOf (show Z.Warmed39 (s.setVm vm).vm from X.2.1.2.2.1) X.2.2.1 E
  have hnf : NotFace (s.setVm vm) z' := by
    intro r0 h0
    obtain ⟨c2, r2, m2, -, -, u3, -, kP, hkP, hkPi⟩ := Cond.selects_spec (mvT (args := #[]) (s := (s.setVm vm)) X.2.1.2.2.1 wn)
    have e1 := findClass_of_methodNamed h0
    have e2 := findClass_of_methodNamed u3
    rw [hu, e1] at e2
    rw [Option.some.inj e2]
    exact ⟨kP, hkP, hkPi⟩
  obtain ⟨v, vm1, ⟨T', L1, k1, n1⟩, -, X', S', g', ⟨Lc, hQ, e2, e3, e4, R'⟩, st⟩ := X.1.virtualBackS X.2.1.1 (y := z') (z := y') X.2.1.2.2.2.1 (mvT (s := (s.setVm vm)) X.2.1.2.2.1 w1) (mvT (s := (s.setVm vm)) X.2.1.2.2.1 w2) hnf (mvT (s := (s.setVm vm)) X.2.1.2.2.1 w3) (mvT (s := (s.setVm vm)) X.2.1.2.2.1 w4) hy (Con.back X hC hss w5 w6 hf hl) q1 q3 (g := mkF m pc L (argsL.reverse ++ .ref a :: rest)) rfl (hL.trans X.2.1.2.2.2.2.2.2.2.symm) (Steps.refl _) hlen rfl (by show 2 * 0 + _ ≤ _; omega) (hb X.2.1.2.1 hd) (fun _ _ => ⟨rfl, X.2.2.1, hc, hs⟩)
  dsimp only [Pt.U, Pt.locs, Pt.cells, Pt.slots] at X' S' g' hQ e2 e3 e4 R' st
  subst e2 e3 e4
  exact Goes.step (fun _ k => st.trans k) (K v T'.vm T' T'.heap _ (X.laterV X' S' rfl rfl (Fr.app X.2.2.2.1 hQ.2.1) hQ.2.2 R') R' hQ.1)
theorem o_virtUp (X : On l Z EL p e R s m args below meth c y code maxL ret vm T h locs cells slots) {C owner : String} {z' y' : MethodName} {index q : Nat} {bytes : ByteArray} {maxL' : Nat} {ret' : Option FieldType} {rm : Room} {as : Array Value} {Q : Option Value → Heap → (Addr → Prop) → Prop} (argsL : List Value) {a : Addr} {rest : List Value} (E : Exa Z h a C) (hC : Con l Z EL y' bytes maxL' ret' rm as h ss Q) (hss : ∀ x ∈ ss, x < h.size ∧ Safe Z EL vm h x)
    (w1 : (Jvm.Cond.methodLink y.cls index z').before a0 Z = true) (w2 : (Jvm.Cond.sameMethod z'.cls owner z'.name z'.desc).before a0 Z = true) (w3 : (Jvm.Cond.declares ⟨owner, z'.name, z'.desc⟩).before a0 Z = true) (ho : owner ≠ "java/lang/invoke/MethodHandle" ∧ owner ≠ "java/lang/invoke/VarHandle") (w4 : (Jvm.Cond.selects C z' y').before a0 Z = true) (w5 : (Jvm.Cond.instanceMethod y').before a0 Z = true) (w6 : (Jvm.Cond.code y' bytes maxL' ret').before a0 Z = true) (w7 : (Jvm.Cond.initialized y'.cls).before a0 Z = true) (hy : z'.cls ≠ "java/lang/invoke/MethodHandle" ∧ z'.cls ≠ "java/lang/invoke/VarHandle")
    (hd : decode code pc = .ok (.invokevirtual index, 3)) (has : (.ref a :: argsL).toArray = as) (hL : L.size = maxL) (hlen : ∀ sig, parseMethodDescriptor z'.desc = some sig → argsL.length = sig.parameters.length) (hS : S = argsL.reverse ++ .ref a :: rest) (hf : rm.frames + 1 ≤ R.frames) (hl : (rest.map fun v => v.category).sum + (maxL' + 11) + rm.locals ≤ R.locals) (hc : cells + rm.cells ≤ R.cells) (hs : slots + rm.slots ≤ R.slots) (hp : pc + 3 = q)
    (K : ∀ (v : Option Value) (vm' : Vm) (T' : State) (h' : Heap) (locs' : List Loc), On l Z EL p e R s m args below meth c y code maxL ret vm' T' h' locs' (cells + rm.cells) (slots + rm.slots) → CHr Z EL vm h vm' h' → Q v h' (Safe Z EL vm' h') → Goes p e below F T' (mkF m q L (v.toList ++ rest))) : Goes p e below F T (mkF m pc L S) := by
  subst hp hS has
  obtain ⟨cB, kB, q1, q2, q3⟩ := isOf (show Z.Warmed39 (s.setVm vm).vm from X.2.1.2.2.1) X.2.2.1 E
  obtain ⟨v, vm1, ⟨T', L1, k1, n1⟩, -, X', S', g', ⟨Lc, hQ, e2, e3, e4, R'⟩, st⟩ := X.1.virtualBackUpS X.2.1.1 (x := z') (y := y') X.2.1.2.2.2.1 (mvT (s := (s.setVm vm)) X.2.1.2.2.1 w1) (mv (show Z.Warmed39 (s.setVm vm).vm from X.2.1.2.2.1) w2) (mvT (s := (s.setVm vm)) X.2.1.2.2.1 w3) ho (mvT (s := (s.setVm vm)) X.2.1.2.2.1 w4) (mvT (s := (s.setVm vm)) X.2.1.2.2.1 w5) (Con.back X hC hss w6 w7 hf hl) q1 q3 (g := mkF m pc L (argsL.reverse ++ .ref a :: rest)) rfl (hL.trans X.2.1.2.2.2.2.2.2.2.symm) (Steps.refl _) hlen rfl (by show 2 * 0 + _ ≤ _; omega) (hb X.2.1.2.1 hd) (fun _ _ => ⟨rfl, X.2.2.1, hc, hs⟩)
  dsimp only [Pt.U, Pt.locs, Pt.cells, Pt.slots] at X' S' g' hQ e2 e3 e4 R' st
  subst e2 e3 e4
  exact Goes.step (fun _ k => st.trans k) (K v T'.vm T' T'.heap _ (X.laterV X' S' rfl rfl (Fr.app X.2.2.2.1 hQ.2.1) hQ.2.2 R') R' hQ.1)
theorem o_instNull (X : On l Z EL p e R s m args below meth c y code maxL ret vm T h locs cells slots) {index q : Nat} (hd : decode code pc = .ok (.instanceof index, 3)) (hp : pc + 3 = q) (K : Goes p e below F T (mkF m q L (.int 0 :: S))) : Goes p e below F T (mkF m pc L (.null :: S)) := by
  subst hp
  exact Goes.step (fun _ k => X.1.instanceofNull X.2.1.1 (g := mkF m pc L (.null :: S)) rfl (rest := S) rfl (hb X.2.1.2.1 hd) _ k) K
end OwnCol
end Jvm.Pilot.@@N@@

namespace Jvm.Pilot.@@N@@
open Jvm Jvm.ClassFile Sem Op Lib Jvm.Free Jvm.Stand Jvm.LawKit Jvm.RoadKit Bundle Jvm.Pilot.@@N@@.Jvm.D
def W (a0 : Array Value) (Z : State) : Prop := ∀ d ∈ tables_1, d.before a0 Z = true
def EL0 : List (String × Nat) := [("com/example/unibrace/unibrace/ErrorText", 26), ("com/example/unibrace/unibrace/ErrorText", 32), ("java/lang/String", 7)]
theorem w0 {a0 : Array Value} {Z : State} (hw : W a0 Z) : (Jvm.Cond.arrayClass Jvm.ClassFile.FieldType.int).before a0 Z = true := hw _ (List.mem_of_getElem? (i := 0) rfl)
theorem w1 {a0 : Array Value} {Z : State} (hw : W a0 Z) : (Jvm.Cond.arrayClass Jvm.ClassFile.FieldType.char).before a0 Z = true := hw _ (List.mem_of_getElem? (i := 1) rfl)
theorem w2 {a0 : Array Value} {Z : State} (hw : W a0 Z) : (Jvm.Cond.classLink "com/example/unibrace/unibrace/ErrorTextQuotePinLaw" (8 : Nat) "java/lang/String").before a0 Z = true := hw _ (List.mem_of_getElem? (i := 2) rfl)
theorem w3 {a0 : Array Value} {Z : State} (hw : W a0 Z) : (Jvm.Cond.instantiable "java/lang/String" (4 : Nat)).before a0 Z = true := hw _ (List.mem_of_getElem? (i := 3) rfl)
theorem w4 {a0 : Array Value} {Z : State} (hw : W a0 Z) : (Jvm.Cond.initialized "java/lang/String").before a0 Z = true := hw _ (List.mem_of_getElem? (i := 4) rfl)
theorem w5 {a0 : Array Value} {Z : State} (hw : W a0 Z) : (Jvm.Cond.methodLink "com/example/unibrace/unibrace/ErrorTextQuotePinLaw" (25 : Nat) ({ cls := "java/lang/String", name := "<init>", desc := "([C)V" } : Jvm.MethodName)).before a0 Z = true := hw _ (List.mem_of_getElem? (i := 5) rfl)
theorem w6 {a0 : Array Value} {Z : State} (hw : W a0 Z) : (Jvm.Cond.instanceMethod ({ cls := "java/lang/String", name := "<init>", desc := "([C)V" } : Jvm.MethodName)).before a0 Z = true := hw _ (List.mem_of_getElem? (i := 6) rfl)
theorem w7 {a0 : Array Value} {Z : State} (hw : W a0 Z) : (Jvm.Cond.code ({ cls := "java/lang/String", name := "<init>", desc := "([C)V" } : Jvm.MethodName) jdk_42_method_3_code (2 : Nat) (Option.none : Option Jvm.ClassFile.FieldType)).before a0 Z = true := hw _ (List.mem_of_getElem? (i := 7) rfl)
theorem w8 {a0 : Array Value} {Z : State} (hw : W a0 Z) : (Jvm.Cond.methodLink "java/lang/String" (27 : Nat) ({ cls := "java/lang/String", name := "<init>", desc := "([CIILjava/lang/Void;)V" } : Jvm.MethodName)).before a0 Z = true := hw _ (List.mem_of_getElem? (i := 8) rfl)
theorem w9 {a0 : Array Value} {Z : State} (hw : W a0 Z) : (Jvm.Cond.instanceMethod ({ cls := "java/lang/String", name := "<init>", desc := "([CIILjava/lang/Void;)V" } : Jvm.MethodName)).before a0 Z = true := hw _ (List.mem_of_getElem? (i := 9) rfl)
theorem w11 {a0 : Array Value} {Z : State} (hw : W a0 Z) : (Jvm.Cond.code ({ cls := "java/lang/String", name := "<init>", desc := "([CIILjava/lang/Void;)V" } : Jvm.MethodName) jdk_42_method_149_code (6 : Nat) (Option.none : Option Jvm.ClassFile.FieldType)).before a0 Z = true := hw _ (List.mem_of_getElem? (i := 11) rfl)
theorem w12 {a0 : Array Value} {Z : State} (hw : W a0 Z) : (Jvm.Cond.methodLink "java/lang/String" (1 : Nat) ({ cls := "java/lang/Object", name := "<init>", desc := "()V" } : Jvm.MethodName)).before a0 Z = true := hw _ (List.mem_of_getElem? (i := 12) rfl)
theorem w13 {a0 : Array Value} {Z : State} (hw : W a0 Z) : (Jvm.Cond.instanceMethod ({ cls := "java/lang/Object", name := "<init>", desc := "()V" } : Jvm.MethodName)).before a0 Z = true := hw _ (List.mem_of_getElem? (i := 13) rfl)
theorem w14 {a0 : Array Value} {Z : State} (hw : W a0 Z) : (Jvm.Cond.code ({ cls := "java/lang/Object", name := "<init>", desc := "()V" } : Jvm.MethodName) object_method_1_code (1 : Nat) (Option.none : Option Jvm.ClassFile.FieldType)).before a0 Z = true := hw _ (List.mem_of_getElem? (i := 14) rfl)
theorem w15 {a0 : Array Value} {Z : State} (hw : W a0 Z) : (Jvm.Cond.stringLink "java/lang/String" (7 : Nat) "").before a0 Z = true := hw _ (List.mem_of_getElem? (i := 15) rfl)
theorem w16 {a0 : Array Value} {Z : State} (hw : W a0 Z) : (Jvm.Cond.arrayClass Jvm.ClassFile.FieldType.byte).before a0 Z = true := hw _ (List.mem_of_getElem? (i := 16) rfl)
theorem w17 {a0 : Array Value} {Z : State} (hw : W a0 Z) : (Jvm.Cond.laysFinal "java/lang/String" "java/lang/String" "value" "[B").before a0 Z = true := hw _ (List.mem_of_getElem? (i := 17) rfl)
theorem w18 {a0 : Array Value} {Z : State} (hw : W a0 Z) : (Jvm.Cond.laysFinal "java/lang/String" "java/lang/String" "coder" "B").before a0 Z = true := hw _ (List.mem_of_getElem? (i := 18) rfl)
theorem w21 {a0 : Array Value} {Z : State} (hw : W a0 Z) : (Jvm.Cond.fieldLink "java/lang/String" (9 : Nat) "java/lang/String" "value" "[B").before a0 Z = true := hw _ (List.mem_of_getElem? (i := 21) rfl)
theorem w22 {a0 : Array Value} {Z : State} (hw : W a0 Z) : (Jvm.Cond.fieldLink "java/lang/String" (15 : Nat) "java/lang/String" "coder" "B").before a0 Z = true := hw _ (List.mem_of_getElem? (i := 22) rfl)
theorem w23 {a0 : Array Value} {Z : State} (hw : W a0 Z) : (Jvm.Cond.methodLink "com/example/unibrace/unibrace/ErrorTextQuotePinLaw" (28 : Nat) ({ cls := "com/example/unibrace/unibrace/ErrorText", name := "quote", desc := "(Ljava/lang/String;)Ljava/lang/String;" } : Jvm.MethodName)).before a0 Z = true := hw _ (List.mem_of_getElem? (i := 23) rfl)
theorem w24 {a0 : Array Value} {Z : State} (hw : W a0 Z) : (Jvm.Cond.static ({ cls := "com/example/unibrace/unibrace/ErrorText", name := "quote", desc := "(Ljava/lang/String;)Ljava/lang/String;" } : Jvm.MethodName)).before a0 Z = true := hw _ (List.mem_of_getElem? (i := 24) rfl)
theorem w25 {a0 : Array Value} {Z : State} (hw : W a0 Z) : (Jvm.Cond.initialized "com/example/unibrace/unibrace/ErrorText").before a0 Z = true := hw _ (List.mem_of_getElem? (i := 25) rfl)
theorem w26 {a0 : Array Value} {Z : State} (hw : W a0 Z) : (Jvm.Cond.code ({ cls := "com/example/unibrace/unibrace/ErrorText", name := "quote", desc := "(Ljava/lang/String;)Ljava/lang/String;" } : Jvm.MethodName) prog_1_method_2_code (2 : Nat) (Option.some (Jvm.ClassFile.FieldType.object "java/lang/String"))).before a0 Z = true := hw _ (List.mem_of_getElem? (i := 26) rfl)
theorem w27 {a0 : Array Value} {Z : State} (hw : W a0 Z) : (Jvm.Cond.methodLink "com/example/unibrace/unibrace/ErrorText" (7 : Nat) ({ cls := "java/lang/String", name := "length", desc := "()I" } : Jvm.MethodName)).before a0 Z = true := hw _ (List.mem_of_getElem? (i := 27) rfl)
theorem w28 {a0 : Array Value} {Z : State} (hw : W a0 Z) : (Jvm.Cond.declares ({ cls := "java/lang/String", name := "length", desc := "()I" } : Jvm.MethodName)).before a0 Z = true := hw _ (List.mem_of_getElem? (i := 28) rfl)
theorem w29 {a0 : Array Value} {Z : State} (hw : W a0 Z) : (Jvm.Cond.instanceMethod ({ cls := "java/lang/String", name := "length", desc := "()I" } : Jvm.MethodName)).before a0 Z = true := hw _ (List.mem_of_getElem? (i := 29) rfl)
theorem w30 {a0 : Array Value} {Z : State} (hw : W a0 Z) : (Jvm.Cond.selects "java/lang/String" ({ cls := "java/lang/String", name := "length", desc := "()I" } : Jvm.MethodName) ({ cls := "java/lang/String", name := "length", desc := "()I" } : Jvm.MethodName)).before a0 Z = true := hw _ (List.mem_of_getElem? (i := 30) rfl)
theorem w32 {a0 : Array Value} {Z : State} (hw : W a0 Z) : (Jvm.Cond.methodLink "java/lang/String" (335 : Nat) ({ cls := "java/lang/String", name := "coder", desc := "()B" } : Jvm.MethodName)).before a0 Z = true := hw _ (List.mem_of_getElem? (i := 32) rfl)
theorem w33 {a0 : Array Value} {Z : State} (hw : W a0 Z) : (Jvm.Cond.declares ({ cls := "java/lang/String", name := "coder", desc := "()B" } : Jvm.MethodName)).before a0 Z = true := hw _ (List.mem_of_getElem? (i := 33) rfl)
theorem w34 {a0 : Array Value} {Z : State} (hw : W a0 Z) : (Jvm.Cond.instanceMethod ({ cls := "java/lang/String", name := "coder", desc := "()B" } : Jvm.MethodName)).before a0 Z = true := hw _ (List.mem_of_getElem? (i := 34) rfl)
theorem w35 {a0 : Array Value} {Z : State} (hw : W a0 Z) : (Jvm.Cond.selects "java/lang/String" ({ cls := "java/lang/String", name := "coder", desc := "()B" } : Jvm.MethodName) ({ cls := "java/lang/String", name := "coder", desc := "()B" } : Jvm.MethodName)).before a0 Z = true := hw _ (List.mem_of_getElem? (i := 35) rfl)
theorem w36 {a0 : Array Value} {Z : State} (hw : W a0 Z) : (Jvm.Cond.code ({ cls := "java/lang/String", name := "coder", desc := "()B" } : Jvm.MethodName) jdk_42_method_152_code (1 : Nat) (Option.some Jvm.ClassFile.FieldType.byte)).before a0 Z = true := hw _ (List.mem_of_getElem? (i := 36) rfl)
theorem w37 {a0 : Array Value} {Z : State} (hw : W a0 Z) : (Jvm.Cond.fieldLink "java/lang/String" (38 : Nat) "java/lang/String" "COMPACT_STRINGS" "Z").before a0 Z = true := hw _ (List.mem_of_getElem? (i := 37) rfl)
theorem w38 {a0 : Array Value} {Z : State} (hw : W a0 Z) : (Jvm.Cond.classLink "com/example/unibrace/unibrace/ErrorText" (15 : Nat) "java/lang/StringBuilder").before a0 Z = true := hw _ (List.mem_of_getElem? (i := 38) rfl)
theorem w39 {a0 : Array Value} {Z : State} (hw : W a0 Z) : (Jvm.Cond.instantiable "java/lang/StringBuilder" (4 : Nat)).before a0 Z = true := hw _ (List.mem_of_getElem? (i := 39) rfl)
theorem w40 {a0 : Array Value} {Z : State} (hw : W a0 Z) : (Jvm.Cond.initialized "java/lang/StringBuilder").before a0 Z = true := hw _ (List.mem_of_getElem? (i := 40) rfl)
theorem w41 {a0 : Array Value} {Z : State} (hw : W a0 Z) : (Jvm.Cond.methodLink "com/example/unibrace/unibrace/ErrorText" (17 : Nat) ({ cls := "java/lang/StringBuilder", name := "<init>", desc := "()V" } : Jvm.MethodName)).before a0 Z = true := hw _ (List.mem_of_getElem? (i := 41) rfl)
theorem w42 {a0 : Array Value} {Z : State} (hw : W a0 Z) : (Jvm.Cond.instanceMethod ({ cls := "java/lang/StringBuilder", name := "<init>", desc := "()V" } : Jvm.MethodName)).before a0 Z = true := hw _ (List.mem_of_getElem? (i := 42) rfl)
theorem w43 {a0 : Array Value} {Z : State} (hw : W a0 Z) : (Jvm.Cond.code ({ cls := "java/lang/StringBuilder", name := "<init>", desc := "()V" } : Jvm.MethodName) jdk_67_method_1_code (1 : Nat) (Option.none : Option Jvm.ClassFile.FieldType)).before a0 Z = true := hw _ (List.mem_of_getElem? (i := 43) rfl)
theorem w44 {a0 : Array Value} {Z : State} (hw : W a0 Z) : (Jvm.Cond.methodLink "java/lang/StringBuilder" (1 : Nat) ({ cls := "java/lang/AbstractStringBuilder", name := "<init>", desc := "(I)V" } : Jvm.MethodName)).before a0 Z = true := hw _ (List.mem_of_getElem? (i := 44) rfl)
theorem w45 {a0 : Array Value} {Z : State} (hw : W a0 Z) : (Jvm.Cond.instanceMethod ({ cls := "java/lang/AbstractStringBuilder", name := "<init>", desc := "(I)V" } : Jvm.MethodName)).before a0 Z = true := hw _ (List.mem_of_getElem? (i := 45) rfl)
theorem w48 {a0 : Array Value} {Z : State} (hw : W a0 Z) : (Jvm.Cond.initialized "java/lang/AbstractStringBuilder").before a0 Z = true := hw _ (List.mem_of_getElem? (i := 48) rfl)
theorem w49 {a0 : Array Value} {Z : State} (hw : W a0 Z) : (Jvm.Cond.code ({ cls := "java/lang/AbstractStringBuilder", name := "<init>", desc := "(I)V" } : Jvm.MethodName) jdk_68_method_2_code (2 : Nat) (Option.none : Option Jvm.ClassFile.FieldType)).before a0 Z = true := hw _ (List.mem_of_getElem? (i := 49) rfl)
theorem w50 {a0 : Array Value} {Z : State} (hw : W a0 Z) : (Jvm.Cond.methodLink "java/lang/AbstractStringBuilder" (3 : Nat) ({ cls := "java/lang/Object", name := "<init>", desc := "()V" } : Jvm.MethodName)).before a0 Z = true := hw _ (List.mem_of_getElem? (i := 50) rfl)
theorem w51 {a0 : Array Value} {Z : State} (hw : W a0 Z) : (Jvm.Cond.fieldLink "java/lang/AbstractStringBuilder" (18 : Nat) "java/lang/String" "COMPACT_STRINGS" "Z").before a0 Z = true := hw _ (List.mem_of_getElem? (i := 51) rfl)
theorem w52 {a0 : Array Value} {Z : State} (hw : W a0 Z) : (Jvm.Cond.fieldLink "java/lang/AbstractStringBuilder" (15 : Nat) "java/lang/AbstractStringBuilder" "value" "[B").before a0 Z = true := hw _ (List.mem_of_getElem? (i := 52) rfl)
theorem w53 {a0 : Array Value} {Z : State} (hw : W a0 Z) : (Jvm.Cond.lays "java/lang/StringBuilder" "java/lang/AbstractStringBuilder" "value" "[B").before a0 Z = true := hw _ (List.mem_of_getElem? (i := 53) rfl)
theorem w54 {a0 : Array Value} {Z : State} (hw : W a0 Z) : (Jvm.Cond.fieldLink "java/lang/AbstractStringBuilder" (22 : Nat) "java/lang/AbstractStringBuilder" "coder" "B").before a0 Z = true := hw _ (List.mem_of_getElem? (i := 54) rfl)
theorem w55 {a0 : Array Value} {Z : State} (hw : W a0 Z) : (Jvm.Cond.lays "java/lang/StringBuilder" "java/lang/AbstractStringBuilder" "coder" "B").before a0 Z = true := hw _ (List.mem_of_getElem? (i := 55) rfl)
theorem w56 {a0 : Array Value} {Z : State} (hw : W a0 Z) : (Jvm.Cond.stringLink "com/example/unibrace/unibrace/ErrorText" (32 : Nat) "\"").before a0 Z = true := hw _ (List.mem_of_getElem? (i := 56) rfl)
theorem w57 {a0 : Array Value} {Z : State} (hw : W a0 Z) : (Jvm.Cond.methodLink "com/example/unibrace/unibrace/ErrorText" (22 : Nat) ({ cls := "java/lang/StringBuilder", name := "append", desc := "(Ljava/lang/String;)Ljava/lang/StringBuilder;" } : Jvm.MethodName)).before a0 Z = true := hw _ (List.mem_of_getElem? (i := 57) rfl)
theorem w58 {a0 : Array Value} {Z : State} (hw : W a0 Z) : (Jvm.Cond.declares ({ cls := "java/lang/StringBuilder", name := "append", desc := "(Ljava/lang/String;)Ljava/lang/StringBuilder;" } : Jvm.MethodName)).before a0 Z = true := hw _ (List.mem_of_getElem? (i := 58) rfl)
theorem w59 {a0 : Array Value} {Z : State} (hw : W a0 Z) : (Jvm.Cond.instanceMethod ({ cls := "java/lang/StringBuilder", name := "append", desc := "(Ljava/lang/String;)Ljava/lang/StringBuilder;" } : Jvm.MethodName)).before a0 Z = true := hw _ (List.mem_of_getElem? (i := 59) rfl)
theorem w60 {a0 : Array Value} {Z : State} (hw : W a0 Z) : (Jvm.Cond.selects "java/lang/StringBuilder" ({ cls := "java/lang/StringBuilder", name := "append", desc := "(Ljava/lang/String;)Ljava/lang/StringBuilder;" } : Jvm.MethodName) ({ cls := "java/lang/StringBuilder", name := "append", desc := "(Ljava/lang/String;)Ljava/lang/StringBuilder;" } : Jvm.MethodName)).before a0 Z = true := hw _ (List.mem_of_getElem? (i := 60) rfl)
theorem w61 {a0 : Array Value} {Z : State} (hw : W a0 Z) : (Jvm.Cond.code ({ cls := "java/lang/StringBuilder", name := "append", desc := "(Ljava/lang/String;)Ljava/lang/StringBuilder;" } : Jvm.MethodName) jdk_67_method_7_code (2 : Nat) (Option.some (Jvm.ClassFile.FieldType.object "java/lang/StringBuilder"))).before a0 Z = true := hw _ (List.mem_of_getElem? (i := 61) rfl)
theorem w62 {a0 : Array Value} {Z : State} (hw : W a0 Z) : (Jvm.Cond.methodLink "java/lang/StringBuilder" (29 : Nat) ({ cls := "java/lang/AbstractStringBuilder", name := "append", desc := "(Ljava/lang/String;)Ljava/lang/AbstractStringBuilder;" } : Jvm.MethodName)).before a0 Z = true := hw _ (List.mem_of_getElem? (i := 62) rfl)
theorem w63 {a0 : Array Value} {Z : State} (hw : W a0 Z) : (Jvm.Cond.instanceMethod ({ cls := "java/lang/AbstractStringBuilder", name := "append", desc := "(Ljava/lang/String;)Ljava/lang/AbstractStringBuilder;" } : Jvm.MethodName)).before a0 Z = true := hw _ (List.mem_of_getElem? (i := 63) rfl)
theorem w64 {a0 : Array Value} {Z : State} (hw : W a0 Z) : (Jvm.Cond.superclass "java/lang/StringBuilder" "java/lang/AbstractStringBuilder").before a0 Z = true := hw _ (List.mem_of_getElem? (i := 64) rfl)
theorem w66 {a0 : Array Value} {Z : State} (hw : W a0 Z) : (Jvm.Cond.code ({ cls := "java/lang/AbstractStringBuilder", name := "append", desc := "(Ljava/lang/String;)Ljava/lang/AbstractStringBuilder;" } : Jvm.MethodName) jdk_68_method_22_code (3 : Nat) (Option.some (Jvm.ClassFile.FieldType.object "java/lang/AbstractStringBuilder"))).before a0 Z = true := hw _ (List.mem_of_getElem? (i := 66) rfl)
theorem w67 {a0 : Array Value} {Z : State} (hw : W a0 Z) : (Jvm.Cond.methodLink "java/lang/AbstractStringBuilder" (32 : Nat) ({ cls := "java/lang/String", name := "length", desc := "()I" } : Jvm.MethodName)).before a0 Z = true := hw _ (List.mem_of_getElem? (i := 67) rfl)
theorem w68 {a0 : Array Value} {Z : State} (hw : W a0 Z) : (Jvm.Cond.fieldLink "java/lang/AbstractStringBuilder" (79 : Nat) "java/lang/AbstractStringBuilder" "count" "I").before a0 Z = true := hw _ (List.mem_of_getElem? (i := 68) rfl)
theorem w69 {a0 : Array Value} {Z : State} (hw : W a0 Z) : (Jvm.Cond.lays "java/lang/StringBuilder" "java/lang/AbstractStringBuilder" "count" "I").before a0 Z = true := hw _ (List.mem_of_getElem? (i := 69) rfl)
theorem w70 {a0 : Array Value} {Z : State} (hw : W a0 Z) : (Jvm.Cond.methodLink "java/lang/AbstractStringBuilder" (100 : Nat) ({ cls := "java/lang/AbstractStringBuilder", name := "ensureCapacityInternal", desc := "(I)V" } : Jvm.MethodName)).before a0 Z = true := hw _ (List.mem_of_getElem? (i := 70) rfl)
theorem w71 {a0 : Array Value} {Z : State} (hw : W a0 Z) : (Jvm.Cond.instanceMethod ({ cls := "java/lang/AbstractStringBuilder", name := "ensureCapacityInternal", desc := "(I)V" } : Jvm.MethodName)).before a0 Z = true := hw _ (List.mem_of_getElem? (i := 71) rfl)
theorem w72 {a0 : Array Value} {Z : State} (hw : W a0 Z) : (Jvm.Cond.privateMethod ({ cls := "java/lang/AbstractStringBuilder", name := "ensureCapacityInternal", desc := "(I)V" } : Jvm.MethodName)).before a0 Z = true := hw _ (List.mem_of_getElem? (i := 72) rfl)
theorem w73 {a0 : Array Value} {Z : State} (hw : W a0 Z) : (Jvm.Cond.selects "java/lang/StringBuilder" ({ cls := "java/lang/AbstractStringBuilder", name := "ensureCapacityInternal", desc := "(I)V" } : Jvm.MethodName) ({ cls := "java/lang/AbstractStringBuilder", name := "ensureCapacityInternal", desc := "(I)V" } : Jvm.MethodName)).before a0 Z = true := hw _ (List.mem_of_getElem? (i := 73) rfl)
theorem w74 {a0 : Array Value} {Z : State} (hw : W a0 Z) : (Jvm.Cond.code ({ cls := "java/lang/AbstractStringBuilder", name := "ensureCapacityInternal", desc := "(I)V" } : Jvm.MethodName) jdk_68_method_9_code (3 : Nat) (Option.none : Option Jvm.ClassFile.FieldType)).before a0 Z = true := hw _ (List.mem_of_getElem? (i := 74) rfl)
theorem w75 {a0 : Array Value} {Z : State} (hw : W a0 Z) : (Jvm.Cond.methodLink "java/lang/AbstractStringBuilder" (208 : Nat) ({ cls := "java/lang/AbstractStringBuilder", name := "putStringAt", desc := "(ILjava/lang/String;)V" } : Jvm.MethodName)).before a0 Z = true := hw _ (List.mem_of_getElem? (i := 75) rfl)
theorem w76 {a0 : Array Value} {Z : State} (hw : W a0 Z) : (Jvm.Cond.instanceMethod ({ cls := "java/lang/AbstractStringBuilder", name := "putStringAt", desc := "(ILjava/lang/String;)V" } : Jvm.MethodName)).before a0 Z = true := hw _ (List.mem_of_getElem? (i := 76) rfl)
theorem w77 {a0 : Array Value} {Z : State} (hw : W a0 Z) : (Jvm.Cond.privateMethod ({ cls := "java/lang/AbstractStringBuilder", name := "putStringAt", desc := "(ILjava/lang/String;)V" } : Jvm.MethodName)).before a0 Z = true := hw _ (List.mem_of_getElem? (i := 77) rfl)
theorem w78 {a0 : Array Value} {Z : State} (hw : W a0 Z) : (Jvm.Cond.selects "java/lang/StringBuilder" ({ cls := "java/lang/AbstractStringBuilder", name := "putStringAt", desc := "(ILjava/lang/String;)V" } : Jvm.MethodName) ({ cls := "java/lang/AbstractStringBuilder", name := "putStringAt", desc := "(ILjava/lang/String;)V" } : Jvm.MethodName)).before a0 Z = true := hw _ (List.mem_of_getElem? (i := 78) rfl)
theorem w79 {a0 : Array Value} {Z : State} (hw : W a0 Z) : (Jvm.Cond.code ({ cls := "java/lang/AbstractStringBuilder", name := "putStringAt", desc := "(ILjava/lang/String;)V" } : Jvm.MethodName) jdk_68_method_73_code (3 : Nat) (Option.none : Option Jvm.ClassFile.FieldType)).before a0 Z = true := hw _ (List.mem_of_getElem? (i := 79) rfl)
theorem w80 {a0 : Array Value} {Z : State} (hw : W a0 Z) : (Jvm.Cond.methodLink "java/lang/AbstractStringBuilder" (397 : Nat) ({ cls := "java/lang/AbstractStringBuilder", name := "inflateIfNeededFor", desc := "(Ljava/lang/String;)V" } : Jvm.MethodName)).before a0 Z = true := hw _ (List.mem_of_getElem? (i := 80) rfl)
theorem w81 {a0 : Array Value} {Z : State} (hw : W a0 Z) : (Jvm.Cond.instanceMethod ({ cls := "java/lang/AbstractStringBuilder", name := "inflateIfNeededFor", desc := "(Ljava/lang/String;)V" } : Jvm.MethodName)).before a0 Z = true := hw _ (List.mem_of_getElem? (i := 81) rfl)
theorem w82 {a0 : Array Value} {Z : State} (hw : W a0 Z) : (Jvm.Cond.privateMethod ({ cls := "java/lang/AbstractStringBuilder", name := "inflateIfNeededFor", desc := "(Ljava/lang/String;)V" } : Jvm.MethodName)).before a0 Z = true := hw _ (List.mem_of_getElem? (i := 82) rfl)
theorem w83 {a0 : Array Value} {Z : State} (hw : W a0 Z) : (Jvm.Cond.selects "java/lang/StringBuilder" ({ cls := "java/lang/AbstractStringBuilder", name := "inflateIfNeededFor", desc := "(Ljava/lang/String;)V" } : Jvm.MethodName) ({ cls := "java/lang/AbstractStringBuilder", name := "inflateIfNeededFor", desc := "(Ljava/lang/String;)V" } : Jvm.MethodName)).before a0 Z = true := hw _ (List.mem_of_getElem? (i := 83) rfl)
theorem w84 {a0 : Array Value} {Z : State} (hw : W a0 Z) : (Jvm.Cond.code ({ cls := "java/lang/AbstractStringBuilder", name := "inflateIfNeededFor", desc := "(Ljava/lang/String;)V" } : Jvm.MethodName) jdk_68_method_71_code (2 : Nat) (Option.none : Option Jvm.ClassFile.FieldType)).before a0 Z = true := hw _ (List.mem_of_getElem? (i := 84) rfl)
theorem w85 {a0 : Array Value} {Z : State} (hw : W a0 Z) : (Jvm.Cond.methodLink "java/lang/AbstractStringBuilder" (40 : Nat) ({ cls := "java/lang/String", name := "coder", desc := "()B" } : Jvm.MethodName)).before a0 Z = true := hw _ (List.mem_of_getElem? (i := 85) rfl)
theorem w86 {a0 : Array Value} {Z : State} (hw : W a0 Z) : (Jvm.Cond.methodLink "java/lang/AbstractStringBuilder" (399 : Nat) ({ cls := "java/lang/String", name := "getBytes", desc := "([BIB)V" } : Jvm.MethodName)).before a0 Z = true := hw _ (List.mem_of_getElem? (i := 86) rfl)
theorem w87 {a0 : Array Value} {Z : State} (hw : W a0 Z) : (Jvm.Cond.declares ({ cls := "java/lang/String", name := "getBytes", desc := "([BIB)V" } : Jvm.MethodName)).before a0 Z = true := hw _ (List.mem_of_getElem? (i := 87) rfl)
theorem w88 {a0 : Array Value} {Z : State} (hw : W a0 Z) : (Jvm.Cond.instanceMethod ({ cls := "java/lang/String", name := "getBytes", desc := "([BIB)V" } : Jvm.MethodName)).before a0 Z = true := hw _ (List.mem_of_getElem? (i := 88) rfl)
theorem w89 {a0 : Array Value} {Z : State} (hw : W a0 Z) : (Jvm.Cond.selects "java/lang/String" ({ cls := "java/lang/String", name := "getBytes", desc := "([BIB)V" } : Jvm.MethodName) ({ cls := "java/lang/String", name := "getBytes", desc := "([BIB)V" } : Jvm.MethodName)).before a0 Z = true := hw _ (List.mem_of_getElem? (i := 89) rfl)
theorem w90 {a0 : Array Value} {Z : State} (hw : W a0 Z) : (Jvm.Cond.code ({ cls := "java/lang/String", name := "getBytes", desc := "([BIB)V" } : Jvm.MethodName) jdk_42_method_147_code (4 : Nat) (Option.none : Option Jvm.ClassFile.FieldType)).before a0 Z = true := hw _ (List.mem_of_getElem? (i := 90) rfl)
theorem w91 {a0 : Array Value} {Z : State} (hw : W a0 Z) : (Jvm.Cond.methodLink "java/lang/String" (212 : Nat) ({ cls := "java/lang/System", name := "arraycopy", desc := "(Ljava/lang/Object;ILjava/lang/Object;II)V" } : Jvm.MethodName)).before a0 Z = true := hw _ (List.mem_of_getElem? (i := 91) rfl)
theorem w92 {a0 : Array Value} {Z : State} (hw : W a0 Z) : (Jvm.Cond.static ({ cls := "java/lang/System", name := "arraycopy", desc := "(Ljava/lang/Object;ILjava/lang/Object;II)V" } : Jvm.MethodName)).before a0 Z = true := hw _ (List.mem_of_getElem? (i := 92) rfl)
theorem w93 {a0 : Array Value} {Z : State} (hw : W a0 Z) : (Jvm.Cond.initialized "java/lang/System").before a0 Z = true := hw _ (List.mem_of_getElem? (i := 93) rfl)
theorem w94 {a0 : Array Value} {Z : State} (hw : W a0 Z) : (Jvm.Cond.native ({ cls := "java/lang/System", name := "arraycopy", desc := "(Ljava/lang/Object;ILjava/lang/Object;II)V" } : Jvm.MethodName)).before a0 Z = true := hw _ (List.mem_of_getElem? (i := 94) rfl)
theorem w95 {a0 : Array Value} {Z : State} (hw : W a0 Z) : (Jvm.Cond.methodLink "com/example/unibrace/unibrace/ErrorText" (28 : Nat) ({ cls := "java/lang/StringBuilder", name := "toString", desc := "()Ljava/lang/String;" } : Jvm.MethodName)).before a0 Z = true := hw _ (List.mem_of_getElem? (i := 95) rfl)
theorem w96 {a0 : Array Value} {Z : State} (hw : W a0 Z) : (Jvm.Cond.declares ({ cls := "java/lang/StringBuilder", name := "toString", desc := "()Ljava/lang/String;" } : Jvm.MethodName)).before a0 Z = true := hw _ (List.mem_of_getElem? (i := 96) rfl)
theorem w97 {a0 : Array Value} {Z : State} (hw : W a0 Z) : (Jvm.Cond.instanceMethod ({ cls := "java/lang/StringBuilder", name := "toString", desc := "()Ljava/lang/String;" } : Jvm.MethodName)).before a0 Z = true := hw _ (List.mem_of_getElem? (i := 97) rfl)
theorem w98 {a0 : Array Value} {Z : State} (hw : W a0 Z) : (Jvm.Cond.selects "java/lang/StringBuilder" ({ cls := "java/lang/StringBuilder", name := "toString", desc := "()Ljava/lang/String;" } : Jvm.MethodName) ({ cls := "java/lang/StringBuilder", name := "toString", desc := "()Ljava/lang/String;" } : Jvm.MethodName)).before a0 Z = true := hw _ (List.mem_of_getElem? (i := 98) rfl)
theorem w99 {a0 : Array Value} {Z : State} (hw : W a0 Z) : (Jvm.Cond.code ({ cls := "java/lang/StringBuilder", name := "toString", desc := "()Ljava/lang/String;" } : Jvm.MethodName) jdk_67_method_42_code (1 : Nat) (Option.some (Jvm.ClassFile.FieldType.object "java/lang/String"))).before a0 Z = true := hw _ (List.mem_of_getElem? (i := 99) rfl)
theorem w100 {a0 : Array Value} {Z : State} (hw : W a0 Z) : (Jvm.Cond.classLink "java/lang/StringBuilder" (18 : Nat) "java/lang/String").before a0 Z = true := hw _ (List.mem_of_getElem? (i := 100) rfl)
theorem w101 {a0 : Array Value} {Z : State} (hw : W a0 Z) : (Jvm.Cond.methodLink "java/lang/StringBuilder" (137 : Nat) ({ cls := "java/lang/String", name := "<init>", desc := "(Ljava/lang/StringBuilder;)V" } : Jvm.MethodName)).before a0 Z = true := hw _ (List.mem_of_getElem? (i := 101) rfl)
theorem w102 {a0 : Array Value} {Z : State} (hw : W a0 Z) : (Jvm.Cond.instanceMethod ({ cls := "java/lang/String", name := "<init>", desc := "(Ljava/lang/StringBuilder;)V" } : Jvm.MethodName)).before a0 Z = true := hw _ (List.mem_of_getElem? (i := 102) rfl)
theorem w103 {a0 : Array Value} {Z : State} (hw : W a0 Z) : (Jvm.Cond.code ({ cls := "java/lang/String", name := "<init>", desc := "(Ljava/lang/StringBuilder;)V" } : Jvm.MethodName) jdk_42_method_53_code (2 : Nat) (Option.none : Option Jvm.ClassFile.FieldType)).before a0 Z = true := hw _ (List.mem_of_getElem? (i := 103) rfl)
theorem w104 {a0 : Array Value} {Z : State} (hw : W a0 Z) : (Jvm.Cond.methodLink "java/lang/String" (489 : Nat) ({ cls := "java/lang/String", name := "<init>", desc := "(Ljava/lang/AbstractStringBuilder;Ljava/lang/Void;)V" } : Jvm.MethodName)).before a0 Z = true := hw _ (List.mem_of_getElem? (i := 104) rfl)
theorem w105 {a0 : Array Value} {Z : State} (hw : W a0 Z) : (Jvm.Cond.instanceMethod ({ cls := "java/lang/String", name := "<init>", desc := "(Ljava/lang/AbstractStringBuilder;Ljava/lang/Void;)V" } : Jvm.MethodName)).before a0 Z = true := hw _ (List.mem_of_getElem? (i := 105) rfl)
theorem w106 {a0 : Array Value} {Z : State} (hw : W a0 Z) : (Jvm.Cond.code ({ cls := "java/lang/String", name := "<init>", desc := "(Ljava/lang/AbstractStringBuilder;Ljava/lang/Void;)V" } : Jvm.MethodName) jdk_42_method_150_code (5 : Nat) (Option.none : Option Jvm.ClassFile.FieldType)).before a0 Z = true := hw _ (List.mem_of_getElem? (i := 106) rfl)
theorem w107 {a0 : Array Value} {Z : State} (hw : W a0 Z) : (Jvm.Cond.methodLink "java/lang/String" (552 : Nat) ({ cls := "java/lang/AbstractStringBuilder", name := "getValue", desc := "()[B" } : Jvm.MethodName)).before a0 Z = true := hw _ (List.mem_of_getElem? (i := 107) rfl)
theorem w108 {a0 : Array Value} {Z : State} (hw : W a0 Z) : (Jvm.Cond.declares ({ cls := "java/lang/AbstractStringBuilder", name := "getValue", desc := "()[B" } : Jvm.MethodName)).before a0 Z = true := hw _ (List.mem_of_getElem? (i := 108) rfl)
theorem w109 {a0 : Array Value} {Z : State} (hw : W a0 Z) : (Jvm.Cond.instanceMethod ({ cls := "java/lang/AbstractStringBuilder", name := "getValue", desc := "()[B" } : Jvm.MethodName)).before a0 Z = true := hw _ (List.mem_of_getElem? (i := 109) rfl)
theorem w110 {a0 : Array Value} {Z : State} (hw : W a0 Z) : (Jvm.Cond.selects "java/lang/StringBuilder" ({ cls := "java/lang/AbstractStringBuilder", name := "getValue", desc := "()[B" } : Jvm.MethodName) ({ cls := "java/lang/AbstractStringBuilder", name := "getValue", desc := "()[B" } : Jvm.MethodName)).before a0 Z = true := hw _ (List.mem_of_getElem? (i := 110) rfl)
theorem w111 {a0 : Array Value} {Z : State} (hw : W a0 Z) : (Jvm.Cond.code ({ cls := "java/lang/AbstractStringBuilder", name := "getValue", desc := "()[B" } : Jvm.MethodName) jdk_68_method_64_code (1 : Nat) (Option.some (Jvm.ClassFile.FieldType.array Jvm.ClassFile.FieldType.byte))).before a0 Z = true := hw _ (List.mem_of_getElem? (i := 111) rfl)
theorem w112 {a0 : Array Value} {Z : State} (hw : W a0 Z) : (Jvm.Cond.methodLink "java/lang/String" (549 : Nat) ({ cls := "java/lang/AbstractStringBuilder", name := "length", desc := "()I" } : Jvm.MethodName)).before a0 Z = true := hw _ (List.mem_of_getElem? (i := 112) rfl)
theorem w113 {a0 : Array Value} {Z : State} (hw : W a0 Z) : (Jvm.Cond.declares ({ cls := "java/lang/AbstractStringBuilder", name := "length", desc := "()I" } : Jvm.MethodName)).before a0 Z = true := hw _ (List.mem_of_getElem? (i := 113) rfl)
theorem w114 {a0 : Array Value} {Z : State} (hw : W a0 Z) : (Jvm.Cond.instanceMethod ({ cls := "java/lang/AbstractStringBuilder", name := "length", desc := "()I" } : Jvm.MethodName)).before a0 Z = true := hw _ (List.mem_of_getElem? (i := 114) rfl)
theorem w115 {a0 : Array Value} {Z : State} (hw : W a0 Z) : (Jvm.Cond.selects "java/lang/StringBuilder" ({ cls := "java/lang/AbstractStringBuilder", name := "length", desc := "()I" } : Jvm.MethodName) ({ cls := "java/lang/StringBuilder", name := "length", desc := "()I" } : Jvm.MethodName)).before a0 Z = true := hw _ (List.mem_of_getElem? (i := 115) rfl)
theorem w116 {a0 : Array Value} {Z : State} (hw : W a0 Z) : (Jvm.Cond.instanceMethod ({ cls := "java/lang/StringBuilder", name := "length", desc := "()I" } : Jvm.MethodName)).before a0 Z = true := hw _ (List.mem_of_getElem? (i := 116) rfl)
theorem w117 {a0 : Array Value} {Z : State} (hw : W a0 Z) : (Jvm.Cond.code ({ cls := "java/lang/StringBuilder", name := "length", desc := "()I" } : Jvm.MethodName) jdk_67_method_93_code (1 : Nat) (Option.some Jvm.ClassFile.FieldType.int)).before a0 Z = true := hw _ (List.mem_of_getElem? (i := 117) rfl)
theorem w118 {a0 : Array Value} {Z : State} (hw : W a0 Z) : (Jvm.Cond.methodLink "java/lang/StringBuilder" (343 : Nat) ({ cls := "java/lang/AbstractStringBuilder", name := "length", desc := "()I" } : Jvm.MethodName)).before a0 Z = true := hw _ (List.mem_of_getElem? (i := 118) rfl)
theorem w119 {a0 : Array Value} {Z : State} (hw : W a0 Z) : (Jvm.Cond.code ({ cls := "java/lang/AbstractStringBuilder", name := "length", desc := "()I" } : Jvm.MethodName) jdk_68_method_6_code (1 : Nat) (Option.some Jvm.ClassFile.FieldType.int)).before a0 Z = true := hw _ (List.mem_of_getElem? (i := 119) rfl)
theorem w120 {a0 : Array Value} {Z : State} (hw : W a0 Z) : (Jvm.Cond.methodLink "java/lang/String" (1047 : Nat) ({ cls := "java/lang/AbstractStringBuilder", name := "isLatin1", desc := "()Z" } : Jvm.MethodName)).before a0 Z = true := hw _ (List.mem_of_getElem? (i := 120) rfl)
theorem w121 {a0 : Array Value} {Z : State} (hw : W a0 Z) : (Jvm.Cond.declares ({ cls := "java/lang/AbstractStringBuilder", name := "isLatin1", desc := "()Z" } : Jvm.MethodName)).before a0 Z = true := hw _ (List.mem_of_getElem? (i := 121) rfl)
theorem w122 {a0 : Array Value} {Z : State} (hw : W a0 Z) : (Jvm.Cond.instanceMethod ({ cls := "java/lang/AbstractStringBuilder", name := "isLatin1", desc := "()Z" } : Jvm.MethodName)).before a0 Z = true := hw _ (List.mem_of_getElem? (i := 122) rfl)
theorem w123 {a0 : Array Value} {Z : State} (hw : W a0 Z) : (Jvm.Cond.selects "java/lang/StringBuilder" ({ cls := "java/lang/AbstractStringBuilder", name := "isLatin1", desc := "()Z" } : Jvm.MethodName) ({ cls := "java/lang/AbstractStringBuilder", name := "isLatin1", desc := "()Z" } : Jvm.MethodName)).before a0 Z = true := hw _ (List.mem_of_getElem? (i := 123) rfl)
theorem w124 {a0 : Array Value} {Z : State} (hw : W a0 Z) : (Jvm.Cond.code ({ cls := "java/lang/AbstractStringBuilder", name := "isLatin1", desc := "()Z" } : Jvm.MethodName) jdk_68_method_68_code (1 : Nat) (Option.some Jvm.ClassFile.FieldType.boolean)).before a0 Z = true := hw _ (List.mem_of_getElem? (i := 124) rfl)
theorem w125 {a0 : Array Value} {Z : State} (hw : W a0 Z) : (Jvm.Cond.methodLink "java/lang/String" (54 : Nat) ({ cls := "java/util/Arrays", name := "copyOfRange", desc := "([BII)[B" } : Jvm.MethodName)).before a0 Z = true := hw _ (List.mem_of_getElem? (i := 125) rfl)
theorem w126 {a0 : Array Value} {Z : State} (hw : W a0 Z) : (Jvm.Cond.static ({ cls := "java/util/Arrays", name := "copyOfRange", desc := "([BII)[B" } : Jvm.MethodName)).before a0 Z = true := hw _ (List.mem_of_getElem? (i := 126) rfl)
theorem w127 {a0 : Array Value} {Z : State} (hw : W a0 Z) : (Jvm.Cond.initialized "java/util/Arrays").before a0 Z = true := hw _ (List.mem_of_getElem? (i := 127) rfl)
theorem w128 {a0 : Array Value} {Z : State} (hw : W a0 Z) : (Jvm.Cond.code ({ cls := "java/util/Arrays", name := "copyOfRange", desc := "([BII)[B" } : Jvm.MethodName) jdk_65_method_132_code (3 : Nat) (Option.some (Jvm.ClassFile.FieldType.array Jvm.ClassFile.FieldType.byte))).before a0 Z = true := hw _ (List.mem_of_getElem? (i := 128) rfl)
theorem w129 {a0 : Array Value} {Z : State} (hw : W a0 Z) : (Jvm.Cond.methodLink "java/util/Arrays" (339 : Nat) ({ cls := "java/util/Arrays", name := "copyOfRangeByte", desc := "([BII)[B" } : Jvm.MethodName)).before a0 Z = true := hw _ (List.mem_of_getElem? (i := 129) rfl)
theorem w130 {a0 : Array Value} {Z : State} (hw : W a0 Z) : (Jvm.Cond.static ({ cls := "java/util/Arrays", name := "copyOfRangeByte", desc := "([BII)[B" } : Jvm.MethodName)).before a0 Z = true := hw _ (List.mem_of_getElem? (i := 130) rfl)
theorem w131 {a0 : Array Value} {Z : State} (hw : W a0 Z) : (Jvm.Cond.code ({ cls := "java/util/Arrays", name := "copyOfRangeByte", desc := "([BII)[B" } : Jvm.MethodName) jdk_65_method_133_code (5 : Nat) (Option.some (Jvm.ClassFile.FieldType.array Jvm.ClassFile.FieldType.byte))).before a0 Z = true := hw _ (List.mem_of_getElem? (i := 131) rfl)
theorem w132 {a0 : Array Value} {Z : State} (hw : W a0 Z) : (Jvm.Cond.methodLink "java/util/Arrays" (343 : Nat) ({ cls := "java/util/Arrays", name := "checkLength", desc := "(II)V" } : Jvm.MethodName)).before a0 Z = true := hw _ (List.mem_of_getElem? (i := 132) rfl)
theorem w133 {a0 : Array Value} {Z : State} (hw : W a0 Z) : (Jvm.Cond.static ({ cls := "java/util/Arrays", name := "checkLength", desc := "(II)V" } : Jvm.MethodName)).before a0 Z = true := hw _ (List.mem_of_getElem? (i := 133) rfl)
theorem w134 {a0 : Array Value} {Z : State} (hw : W a0 Z) : (Jvm.Cond.code ({ cls := "java/util/Arrays", name := "checkLength", desc := "(II)V" } : Jvm.MethodName) jdk_65_method_131_code (2 : Nat) (Option.none : Option Jvm.ClassFile.FieldType)).before a0 Z = true := hw _ (List.mem_of_getElem? (i := 134) rfl)
theorem w135 {a0 : Array Value} {Z : State} (hw : W a0 Z) : (Jvm.Cond.methodLink "java/util/Arrays" (304 : Nat) ({ cls := "java/lang/Math", name := "min", desc := "(II)I" } : Jvm.MethodName)).before a0 Z = true := hw _ (List.mem_of_getElem? (i := 135) rfl)
theorem w136 {a0 : Array Value} {Z : State} (hw : W a0 Z) : (Jvm.Cond.static ({ cls := "java/lang/Math", name := "min", desc := "(II)I" } : Jvm.MethodName)).before a0 Z = true := hw _ (List.mem_of_getElem? (i := 136) rfl)
theorem w137 {a0 : Array Value} {Z : State} (hw : W a0 Z) : (Jvm.Cond.initialized "java/lang/Math").before a0 Z = true := hw _ (List.mem_of_getElem? (i := 137) rfl)
theorem w138 {a0 : Array Value} {Z : State} (hw : W a0 Z) : (Jvm.Cond.code ({ cls := "java/lang/Math", name := "min", desc := "(II)I" } : Jvm.MethodName) jdk_29_method_69_code (2 : Nat) (Option.some Jvm.ClassFile.FieldType.int)).before a0 Z = true := hw _ (List.mem_of_getElem? (i := 138) rfl)
theorem w139 {a0 : Array Value} {Z : State} (hw : W a0 Z) : (Jvm.Cond.methodLink "java/util/Arrays" (150 : Nat) ({ cls := "java/lang/System", name := "arraycopy", desc := "(Ljava/lang/Object;ILjava/lang/Object;II)V" } : Jvm.MethodName)).before a0 Z = true := hw _ (List.mem_of_getElem? (i := 139) rfl)
theorem w140 {a0 : Array Value} {Z : State} (hw : W a0 Z) : (Jvm.Cond.methodLink "com/example/unibrace/unibrace/ErrorTextQuotePinLaw" (7 : Nat) ({ cls := "java/lang/String", name := "length", desc := "()I" } : Jvm.MethodName)).before a0 Z = true := hw _ (List.mem_of_getElem? (i := 140) rfl)
theorem w141 {a0 : Array Value} {Z : State} (hw : W a0 Z) : (Jvm.Cond.constant "com/example/unibrace/unibrace/ErrorTextQuotePinLaw" (23 : Nat) (2147483647 : Int32)).before a0 Z = true := hw _ (List.mem_of_getElem? (i := 141) rfl)
theorem w142 {a0 : Array Value} {Z : State} (hw : W a0 Z) : (Jvm.Cond.methodLink "com/example/unibrace/unibrace/ErrorTextQuotePinLaw" (34 : Nat) ({ cls := "com/example/unibrace/unibrace/ErrorTextQuotePinLaw", name := "check", desc := "(Ljava/lang/String;Ljava/lang/String;I)Z" } : Jvm.MethodName)).before a0 Z = true := hw _ (List.mem_of_getElem? (i := 142) rfl)
theorem w143 {a0 : Array Value} {Z : State} (hw : W a0 Z) : (Jvm.Cond.static ({ cls := "com/example/unibrace/unibrace/ErrorTextQuotePinLaw", name := "check", desc := "(Ljava/lang/String;Ljava/lang/String;I)Z" } : Jvm.MethodName)).before a0 Z = true := hw _ (List.mem_of_getElem? (i := 143) rfl)
theorem w144 {a0 : Array Value} {Z : State} (hw : W a0 Z) : (Jvm.Cond.initialized "com/example/unibrace/unibrace/ErrorTextQuotePinLaw").before a0 Z = true := hw _ (List.mem_of_getElem? (i := 144) rfl)
theorem w145 {a0 : Array Value} {Z : State} (hw : W a0 Z) : (Jvm.Cond.code ({ cls := "com/example/unibrace/unibrace/ErrorTextQuotePinLaw", name := "check", desc := "(Ljava/lang/String;Ljava/lang/String;I)Z" } : Jvm.MethodName) method_3_code (3 : Nat) (Option.some Jvm.ClassFile.FieldType.boolean)).before a0 Z = true := hw _ (List.mem_of_getElem? (i := 145) rfl)
theorem w146 {a0 : Array Value} {Z : State} (hw : W a0 Z) : (Jvm.Cond.methodLink "com/example/unibrace/unibrace/ErrorTextQuotePinLaw" (13 : Nat) ({ cls := "java/lang/String", name := "charAt", desc := "(I)C" } : Jvm.MethodName)).before a0 Z = true := hw _ (List.mem_of_getElem? (i := 146) rfl)
theorem w147 {a0 : Array Value} {Z : State} (hw : W a0 Z) : (Jvm.Cond.declares ({ cls := "java/lang/String", name := "charAt", desc := "(I)C" } : Jvm.MethodName)).before a0 Z = true := hw _ (List.mem_of_getElem? (i := 147) rfl)
theorem w148 {a0 : Array Value} {Z : State} (hw : W a0 Z) : (Jvm.Cond.instanceMethod ({ cls := "java/lang/String", name := "charAt", desc := "(I)C" } : Jvm.MethodName)).before a0 Z = true := hw _ (List.mem_of_getElem? (i := 148) rfl)
theorem w149 {a0 : Array Value} {Z : State} (hw : W a0 Z) : (Jvm.Cond.selects "java/lang/String" ({ cls := "java/lang/String", name := "charAt", desc := "(I)C" } : Jvm.MethodName) ({ cls := "java/lang/String", name := "charAt", desc := "(I)C" } : Jvm.MethodName)).before a0 Z = true := hw _ (List.mem_of_getElem? (i := 149) rfl)
theorem w150 {a0 : Array Value} {Z : State} (hw : W a0 Z) : (Jvm.Cond.code ({ cls := "java/lang/String", name := "charAt", desc := "(I)C" } : Jvm.MethodName) jdk_42_method_56_code (2 : Nat) (Option.some Jvm.ClassFile.FieldType.char)).before a0 Z = true := hw _ (List.mem_of_getElem? (i := 150) rfl)
theorem w151 {a0 : Array Value} {Z : State} (hw : W a0 Z) : (Jvm.Cond.methodLink "java/lang/String" (492 : Nat) ({ cls := "java/lang/String", name := "isLatin1", desc := "()Z" } : Jvm.MethodName)).before a0 Z = true := hw _ (List.mem_of_getElem? (i := 151) rfl)
theorem w152 {a0 : Array Value} {Z : State} (hw : W a0 Z) : (Jvm.Cond.declares ({ cls := "java/lang/String", name := "isLatin1", desc := "()Z" } : Jvm.MethodName)).before a0 Z = true := hw _ (List.mem_of_getElem? (i := 152) rfl)
theorem w153 {a0 : Array Value} {Z : State} (hw : W a0 Z) : (Jvm.Cond.instanceMethod ({ cls := "java/lang/String", name := "isLatin1", desc := "()Z" } : Jvm.MethodName)).before a0 Z = true := hw _ (List.mem_of_getElem? (i := 153) rfl)
theorem w154 {a0 : Array Value} {Z : State} (hw : W a0 Z) : (Jvm.Cond.selects "java/lang/String" ({ cls := "java/lang/String", name := "isLatin1", desc := "()Z" } : Jvm.MethodName) ({ cls := "java/lang/String", name := "isLatin1", desc := "()Z" } : Jvm.MethodName)).before a0 Z = true := hw _ (List.mem_of_getElem? (i := 154) rfl)
theorem w155 {a0 : Array Value} {Z : State} (hw : W a0 Z) : (Jvm.Cond.code ({ cls := "java/lang/String", name := "isLatin1", desc := "()Z" } : Jvm.MethodName) jdk_42_method_154_code (1 : Nat) (Option.some Jvm.ClassFile.FieldType.boolean)).before a0 Z = true := hw _ (List.mem_of_getElem? (i := 155) rfl)
theorem w156 {a0 : Array Value} {Z : State} (hw : W a0 Z) : (Jvm.Cond.methodLink "java/lang/String" (495 : Nat) ({ cls := "java/lang/StringLatin1", name := "charAt", desc := "([BI)C" } : Jvm.MethodName)).before a0 Z = true := hw _ (List.mem_of_getElem? (i := 156) rfl)
theorem w157 {a0 : Array Value} {Z : State} (hw : W a0 Z) : (Jvm.Cond.static ({ cls := "java/lang/StringLatin1", name := "charAt", desc := "([BI)C" } : Jvm.MethodName)).before a0 Z = true := hw _ (List.mem_of_getElem? (i := 157) rfl)
theorem w158 {a0 : Array Value} {Z : State} (hw : W a0 Z) : (Jvm.Cond.initialized "java/lang/StringLatin1").before a0 Z = true := hw _ (List.mem_of_getElem? (i := 158) rfl)
theorem w159 {a0 : Array Value} {Z : State} (hw : W a0 Z) : (Jvm.Cond.code ({ cls := "java/lang/StringLatin1", name := "charAt", desc := "([BI)C" } : Jvm.MethodName) jdk_43_method_2_code (2 : Nat) (Option.some Jvm.ClassFile.FieldType.char)).before a0 Z = true := hw _ (List.mem_of_getElem? (i := 159) rfl)
theorem w160 {a0 : Array Value} {Z : State} (hw : W a0 Z) : (Jvm.Cond.methodLink "java/lang/StringLatin1" (9 : Nat) ({ cls := "java/lang/String", name := "checkIndex", desc := "(II)V" } : Jvm.MethodName)).before a0 Z = true := hw _ (List.mem_of_getElem? (i := 160) rfl)
theorem w161 {a0 : Array Value} {Z : State} (hw : W a0 Z) : (Jvm.Cond.static ({ cls := "java/lang/String", name := "checkIndex", desc := "(II)V" } : Jvm.MethodName)).before a0 Z = true := hw _ (List.mem_of_getElem? (i := 161) rfl)
theorem w162 {a0 : Array Value} {Z : State} (hw : W a0 Z) : (Jvm.Cond.code ({ cls := "java/lang/String", name := "checkIndex", desc := "(II)V" } : Jvm.MethodName) jdk_42_method_155_code (2 : Nat) (Option.none : Option Jvm.ClassFile.FieldType)).before a0 Z = true := hw _ (List.mem_of_getElem? (i := 162) rfl)
theorem w163 {a0 : Array Value} {Z : State} (hw : W a0 Z) : (Jvm.Cond.fieldLink "java/lang/String" (1053 : Nat) "jdk/internal/util/Preconditions" "SIOOBE_FORMATTER" "Ljava/util/function/BiFunction;").before a0 Z = true := hw _ (List.mem_of_getElem? (i := 163) rfl)
theorem w164 {a0 : Array Value} {Z : State} (hw : W a0 Z) : (Jvm.Cond.initialized "jdk/internal/util/Preconditions").before a0 Z = true := hw _ (List.mem_of_getElem? (i := 164) rfl)
theorem w165 {a0 : Array Value} {Z : State} (hw : W a0 Z) : (Jvm.Cond.methodLink "java/lang/String" (1059 : Nat) ({ cls := "jdk/internal/util/Preconditions", name := "checkIndex", desc := "(IILjava/util/function/BiFunction;)I" } : Jvm.MethodName)).before a0 Z = true := hw _ (List.mem_of_getElem? (i := 165) rfl)
theorem w166 {a0 : Array Value} {Z : State} (hw : W a0 Z) : (Jvm.Cond.static ({ cls := "jdk/internal/util/Preconditions", name := "checkIndex", desc := "(IILjava/util/function/BiFunction;)I" } : Jvm.MethodName)).before a0 Z = true := hw _ (List.mem_of_getElem? (i := 166) rfl)
theorem w167 {a0 : Array Value} {Z : State} (hw : W a0 Z) : (Jvm.Cond.code ({ cls := "jdk/internal/util/Preconditions", name := "checkIndex", desc := "(IILjava/util/function/BiFunction;)I" } : Jvm.MethodName) jdk_41_method_11_code (3 : Nat) (Option.some Jvm.ClassFile.FieldType.int)).before a0 Z = true := hw _ (List.mem_of_getElem? (i := 167) rfl)
theorem w168 {a0 : Array Value} {Z : State} (hw : W a0 Z) : (Jvm.Cond.methodLink "com/example/unibrace/unibrace/ErrorTextQuotePinLaw" (17 : Nat) ({ cls := "com/example/unibrace/unibrace/ErrorTextQuotePinLaw", name := "expected", desc := "(Ljava/lang/String;II)C" } : Jvm.MethodName)).before a0 Z = true := hw _ (List.mem_of_getElem? (i := 168) rfl)
theorem w169 {a0 : Array Value} {Z : State} (hw : W a0 Z) : (Jvm.Cond.static ({ cls := "com/example/unibrace/unibrace/ErrorTextQuotePinLaw", name := "expected", desc := "(Ljava/lang/String;II)C" } : Jvm.MethodName)).before a0 Z = true := hw _ (List.mem_of_getElem? (i := 169) rfl)
theorem w170 {a0 : Array Value} {Z : State} (hw : W a0 Z) : (Jvm.Cond.code ({ cls := "com/example/unibrace/unibrace/ErrorTextQuotePinLaw", name := "expected", desc := "(Ljava/lang/String;II)C" } : Jvm.MethodName) method_2_code (4 : Nat) (Option.some Jvm.ClassFile.FieldType.char)).before a0 Z = true := hw _ (List.mem_of_getElem? (i := 170) rfl)
theorem w171 {a0 : Array Value} {Z : State} (hw : W a0 Z) : (Jvm.Cond.constant "com/example/unibrace/unibrace/ErrorTextQuotePinLaw" (24 : Nat) (65535 : Int32)).before a0 Z = true := hw _ (List.mem_of_getElem? (i := 171) rfl)
theorem w172 {a0 : Array Value} {Z : State} (hw : W a0 Z) : (Jvm.Cond.methodLink "java/lang/String" (177 : Nat) ({ cls := "java/lang/StringUTF16", name := "compress", desc := "([CII)[B" } : Jvm.MethodName)).before a0 Z = true := hw _ (List.mem_of_getElem? (i := 172) rfl)
theorem w173 {a0 : Array Value} {Z : State} (hw : W a0 Z) : (Jvm.Cond.static ({ cls := "java/lang/StringUTF16", name := "compress", desc := "([CII)[B" } : Jvm.MethodName)).before a0 Z = true := hw _ (List.mem_of_getElem? (i := 173) rfl)
theorem w174 {a0 : Array Value} {Z : State} (hw : W a0 Z) : (Jvm.Cond.initialized "java/lang/StringUTF16").before a0 Z = true := hw _ (List.mem_of_getElem? (i := 174) rfl)
theorem w175 {a0 : Array Value} {Z : State} (hw : W a0 Z) : (Jvm.Cond.code ({ cls := "java/lang/StringUTF16", name := "compress", desc := "([CII)[B" } : Jvm.MethodName) jdk_52_method_16_code (6 : Nat) (Option.some (Jvm.ClassFile.FieldType.array Jvm.ClassFile.FieldType.byte))).before a0 Z = true := hw _ (List.mem_of_getElem? (i := 175) rfl)
theorem w176 {a0 : Array Value} {Z : State} (hw : W a0 Z) : (Jvm.Cond.methodLink "java/lang/StringUTF16" (115 : Nat) ({ cls := "java/lang/StringUTF16", name := "compress", desc := "([CI[BII)I" } : Jvm.MethodName)).before a0 Z = true := hw _ (List.mem_of_getElem? (i := 176) rfl)
theorem w177 {a0 : Array Value} {Z : State} (hw : W a0 Z) : (Jvm.Cond.static ({ cls := "java/lang/StringUTF16", name := "compress", desc := "([CI[BII)I" } : Jvm.MethodName)).before a0 Z = true := hw _ (List.mem_of_getElem? (i := 177) rfl)
theorem w178 {a0 : Array Value} {Z : State} (hw : W a0 Z) : (Jvm.Cond.code ({ cls := "java/lang/StringUTF16", name := "compress", desc := "([CI[BII)I" } : Jvm.MethodName) jdk_52_method_21_code (7 : Nat) (Option.some Jvm.ClassFile.FieldType.int)).before a0 Z = true := hw _ (List.mem_of_getElem? (i := 178) rfl)
theorem w179 {a0 : Array Value} {Z : State} (hw : W a0 Z) : (Jvm.Cond.methodLink "java/lang/String" (47 : Nat) ({ cls := "java/lang/StringUTF16", name := "coderFromArrayLen", desc := "([BI)B" } : Jvm.MethodName)).before a0 Z = true := hw _ (List.mem_of_getElem? (i := 179) rfl)
theorem w180 {a0 : Array Value} {Z : State} (hw : W a0 Z) : (Jvm.Cond.static ({ cls := "java/lang/StringUTF16", name := "coderFromArrayLen", desc := "([BI)B" } : Jvm.MethodName)).before a0 Z = true := hw _ (List.mem_of_getElem? (i := 180) rfl)
theorem w181 {a0 : Array Value} {Z : State} (hw : W a0 Z) : (Jvm.Cond.code ({ cls := "java/lang/StringUTF16", name := "coderFromArrayLen", desc := "([BI)B" } : Jvm.MethodName) jdk_52_method_15_code (2 : Nat) (Option.some Jvm.ClassFile.FieldType.byte)).before a0 Z = true := hw _ (List.mem_of_getElem? (i := 181) rfl)
theorem w182 {a0 : Array Value} {Z : State} (hw : W a0 Z) : (Jvm.Cond.methodLink "com/example/unibrace/unibrace/ErrorText" (18 : Nat) ({ cls := "java/lang/String", name := "substring", desc := "(II)Ljava/lang/String;" } : Jvm.MethodName)).before a0 Z = true := hw _ (List.mem_of_getElem? (i := 182) rfl)
theorem w183 {a0 : Array Value} {Z : State} (hw : W a0 Z) : (Jvm.Cond.declares ({ cls := "java/lang/String", name := "substring", desc := "(II)Ljava/lang/String;" } : Jvm.MethodName)).before a0 Z = true := hw _ (List.mem_of_getElem? (i := 183) rfl)
theorem w184 {a0 : Array Value} {Z : State} (hw : W a0 Z) : (Jvm.Cond.instanceMethod ({ cls := "java/lang/String", name := "substring", desc := "(II)Ljava/lang/String;" } : Jvm.MethodName)).before a0 Z = true := hw _ (List.mem_of_getElem? (i := 184) rfl)
theorem w185 {a0 : Array Value} {Z : State} (hw : W a0 Z) : (Jvm.Cond.selects "java/lang/String" ({ cls := "java/lang/String", name := "substring", desc := "(II)Ljava/lang/String;" } : Jvm.MethodName) ({ cls := "java/lang/String", name := "substring", desc := "(II)Ljava/lang/String;" } : Jvm.MethodName)).before a0 Z = true := hw _ (List.mem_of_getElem? (i := 185) rfl)
theorem w186 {a0 : Array Value} {Z : State} (hw : W a0 Z) : (Jvm.Cond.code ({ cls := "java/lang/String", name := "substring", desc := "(II)Ljava/lang/String;" } : Jvm.MethodName) jdk_42_method_92_code (5 : Nat) (Option.some (Jvm.ClassFile.FieldType.object "java/lang/String"))).before a0 Z = true := hw _ (List.mem_of_getElem? (i := 186) rfl)
theorem w187 {a0 : Array Value} {Z : State} (hw : W a0 Z) : (Jvm.Cond.methodLink "java/lang/String" (505 : Nat) ({ cls := "java/lang/String", name := "length", desc := "()I" } : Jvm.MethodName)).before a0 Z = true := hw _ (List.mem_of_getElem? (i := 187) rfl)
theorem w188 {a0 : Array Value} {Z : State} (hw : W a0 Z) : (Jvm.Cond.methodLink "java/lang/String" (521 : Nat) ({ cls := "java/lang/String", name := "checkBoundsBeginEnd", desc := "(III)V" } : Jvm.MethodName)).before a0 Z = true := hw _ (List.mem_of_getElem? (i := 188) rfl)
theorem w189 {a0 : Array Value} {Z : State} (hw : W a0 Z) : (Jvm.Cond.static ({ cls := "java/lang/String", name := "checkBoundsBeginEnd", desc := "(III)V" } : Jvm.MethodName)).before a0 Z = true := hw _ (List.mem_of_getElem? (i := 189) rfl)
theorem w190 {a0 : Array Value} {Z : State} (hw : W a0 Z) : (Jvm.Cond.code ({ cls := "java/lang/String", name := "checkBoundsBeginEnd", desc := "(III)V" } : Jvm.MethodName) jdk_42_method_158_code (3 : Nat) (Option.none : Option Jvm.ClassFile.FieldType)).before a0 Z = true := hw _ (List.mem_of_getElem? (i := 190) rfl)
theorem w191 {a0 : Array Value} {Z : State} (hw : W a0 Z) : (Jvm.Cond.methodLink "java/lang/String" (1062 : Nat) ({ cls := "jdk/internal/util/Preconditions", name := "checkFromToIndex", desc := "(IIILjava/util/function/BiFunction;)I" } : Jvm.MethodName)).before a0 Z = true := hw _ (List.mem_of_getElem? (i := 191) rfl)
theorem w192 {a0 : Array Value} {Z : State} (hw : W a0 Z) : (Jvm.Cond.static ({ cls := "jdk/internal/util/Preconditions", name := "checkFromToIndex", desc := "(IIILjava/util/function/BiFunction;)I" } : Jvm.MethodName)).before a0 Z = true := hw _ (List.mem_of_getElem? (i := 192) rfl)
theorem w193 {a0 : Array Value} {Z : State} (hw : W a0 Z) : (Jvm.Cond.code ({ cls := "jdk/internal/util/Preconditions", name := "checkFromToIndex", desc := "(IIILjava/util/function/BiFunction;)I" } : Jvm.MethodName) jdk_41_method_12_code (4 : Nat) (Option.some Jvm.ClassFile.FieldType.int)).before a0 Z = true := hw _ (List.mem_of_getElem? (i := 193) rfl)
theorem w194 {a0 : Array Value} {Z : State} (hw : W a0 Z) : (Jvm.Cond.methodLink "java/lang/String" (685 : Nat) ({ cls := "java/lang/StringLatin1", name := "newString", desc := "([BII)Ljava/lang/String;" } : Jvm.MethodName)).before a0 Z = true := hw _ (List.mem_of_getElem? (i := 194) rfl)
theorem w195 {a0 : Array Value} {Z : State} (hw : W a0 Z) : (Jvm.Cond.static ({ cls := "java/lang/StringLatin1", name := "newString", desc := "([BII)Ljava/lang/String;" } : Jvm.MethodName)).before a0 Z = true := hw _ (List.mem_of_getElem? (i := 195) rfl)
theorem w196 {a0 : Array Value} {Z : State} (hw : W a0 Z) : (Jvm.Cond.code ({ cls := "java/lang/StringLatin1", name := "newString", desc := "([BII)Ljava/lang/String;" } : Jvm.MethodName) jdk_43_method_47_code (3 : Nat) (Option.some (Jvm.ClassFile.FieldType.object "java/lang/String"))).before a0 Z = true := hw _ (List.mem_of_getElem? (i := 196) rfl)
theorem w197 {a0 : Array Value} {Z : State} (hw : W a0 Z) : (Jvm.Cond.classLink "java/lang/StringLatin1" (1 : Nat) "java/lang/String").before a0 Z = true := hw _ (List.mem_of_getElem? (i := 197) rfl)
theorem w198 {a0 : Array Value} {Z : State} (hw : W a0 Z) : (Jvm.Cond.methodLink "java/lang/StringLatin1" (232 : Nat) ({ cls := "java/util/Arrays", name := "copyOfRange", desc := "([BII)[B" } : Jvm.MethodName)).before a0 Z = true := hw _ (List.mem_of_getElem? (i := 198) rfl)
theorem w199 {a0 : Array Value} {Z : State} (hw : W a0 Z) : (Jvm.Cond.methodLink "java/lang/StringLatin1" (112 : Nat) ({ cls := "java/lang/String", name := "<init>", desc := "([BB)V" } : Jvm.MethodName)).before a0 Z = true := hw _ (List.mem_of_getElem? (i := 199) rfl)
theorem w200 {a0 : Array Value} {Z : State} (hw : W a0 Z) : (Jvm.Cond.instanceMethod ({ cls := "java/lang/String", name := "<init>", desc := "([BB)V" } : Jvm.MethodName)).before a0 Z = true := hw _ (List.mem_of_getElem? (i := 200) rfl)
theorem w201 {a0 : Array Value} {Z : State} (hw : W a0 Z) : (Jvm.Cond.code ({ cls := "java/lang/String", name := "<init>", desc := "([BB)V" } : Jvm.MethodName) jdk_42_method_151_code (3 : Nat) (Option.none : Option Jvm.ClassFile.FieldType)).before a0 Z = true := hw _ (List.mem_of_getElem? (i := 201) rfl)
theorem w202 {a0 : Array Value} {Z : State} (hw : W a0 Z) : (Jvm.Cond.methodLink "java/lang/AbstractStringBuilder" (104 : Nat) ({ cls := "java/lang/AbstractStringBuilder", name := "newCapacity", desc := "(I)I" } : Jvm.MethodName)).before a0 Z = true := hw _ (List.mem_of_getElem? (i := 202) rfl)
theorem w203 {a0 : Array Value} {Z : State} (hw : W a0 Z) : (Jvm.Cond.instanceMethod ({ cls := "java/lang/AbstractStringBuilder", name := "newCapacity", desc := "(I)I" } : Jvm.MethodName)).before a0 Z = true := hw _ (List.mem_of_getElem? (i := 203) rfl)
theorem w204 {a0 : Array Value} {Z : State} (hw : W a0 Z) : (Jvm.Cond.privateMethod ({ cls := "java/lang/AbstractStringBuilder", name := "newCapacity", desc := "(I)I" } : Jvm.MethodName)).before a0 Z = true := hw _ (List.mem_of_getElem? (i := 204) rfl)
theorem w205 {a0 : Array Value} {Z : State} (hw : W a0 Z) : (Jvm.Cond.selects "java/lang/StringBuilder" ({ cls := "java/lang/AbstractStringBuilder", name := "newCapacity", desc := "(I)I" } : Jvm.MethodName) ({ cls := "java/lang/AbstractStringBuilder", name := "newCapacity", desc := "(I)I" } : Jvm.MethodName)).before a0 Z = true := hw _ (List.mem_of_getElem? (i := 205) rfl)
theorem w206 {a0 : Array Value} {Z : State} (hw : W a0 Z) : (Jvm.Cond.code ({ cls := "java/lang/AbstractStringBuilder", name := "newCapacity", desc := "(I)I" } : Jvm.MethodName) jdk_68_method_10_code (6 : Nat) (Option.some Jvm.ClassFile.FieldType.int)).before a0 Z = true := hw _ (List.mem_of_getElem? (i := 206) rfl)
theorem w207 {a0 : Array Value} {Z : State} (hw : W a0 Z) : (Jvm.Cond.methodLink "java/lang/AbstractStringBuilder" (114 : Nat) ({ cls := "jdk/internal/util/ArraysSupport", name := "newLength", desc := "(III)I" } : Jvm.MethodName)).before a0 Z = true := hw _ (List.mem_of_getElem? (i := 207) rfl)
theorem w208 {a0 : Array Value} {Z : State} (hw : W a0 Z) : (Jvm.Cond.static ({ cls := "jdk/internal/util/ArraysSupport", name := "newLength", desc := "(III)I" } : Jvm.MethodName)).before a0 Z = true := hw _ (List.mem_of_getElem? (i := 208) rfl)
theorem w209 {a0 : Array Value} {Z : State} (hw : W a0 Z) : (Jvm.Cond.initialized "jdk/internal/util/ArraysSupport").before a0 Z = true := hw _ (List.mem_of_getElem? (i := 209) rfl)
theorem w210 {a0 : Array Value} {Z : State} (hw : W a0 Z) : (Jvm.Cond.code ({ cls := "jdk/internal/util/ArraysSupport", name := "newLength", desc := "(III)I" } : Jvm.MethodName) jdk_48_method_27_code (4 : Nat) (Option.some Jvm.ClassFile.FieldType.int)).before a0 Z = true := hw _ (List.mem_of_getElem? (i := 210) rfl)
theorem w211 {a0 : Array Value} {Z : State} (hw : W a0 Z) : (Jvm.Cond.methodLink "jdk/internal/util/ArraysSupport" (194 : Nat) ({ cls := "java/lang/Math", name := "max", desc := "(II)I" } : Jvm.MethodName)).before a0 Z = true := hw _ (List.mem_of_getElem? (i := 211) rfl)
theorem w212 {a0 : Array Value} {Z : State} (hw : W a0 Z) : (Jvm.Cond.static ({ cls := "java/lang/Math", name := "max", desc := "(II)I" } : Jvm.MethodName)).before a0 Z = true := hw _ (List.mem_of_getElem? (i := 212) rfl)
theorem w213 {a0 : Array Value} {Z : State} (hw : W a0 Z) : (Jvm.Cond.code ({ cls := "java/lang/Math", name := "max", desc := "(II)I" } : Jvm.MethodName) jdk_29_method_65_code (2 : Nat) (Option.some Jvm.ClassFile.FieldType.int)).before a0 Z = true := hw _ (List.mem_of_getElem? (i := 213) rfl)
theorem w214 {a0 : Array Value} {Z : State} (hw : W a0 Z) : (Jvm.Cond.constant "jdk/internal/util/ArraysSupport" (200 : Nat) (2147483639 : Int32)).before a0 Z = true := hw _ (List.mem_of_getElem? (i := 214) rfl)
theorem w215 {a0 : Array Value} {Z : State} (hw : W a0 Z) : (Jvm.Cond.constant "java/lang/AbstractStringBuilder" (39 : Nat) (2147483647 : Int32)).before a0 Z = true := hw _ (List.mem_of_getElem? (i := 215) rfl)
theorem w216 {a0 : Array Value} {Z : State} (hw : W a0 Z) : (Jvm.Cond.methodLink "java/lang/AbstractStringBuilder" (108 : Nat) ({ cls := "java/util/Arrays", name := "copyOf", desc := "([BI)[B" } : Jvm.MethodName)).before a0 Z = true := hw _ (List.mem_of_getElem? (i := 216) rfl)
theorem w217 {a0 : Array Value} {Z : State} (hw : W a0 Z) : (Jvm.Cond.static ({ cls := "java/util/Arrays", name := "copyOf", desc := "([BI)[B" } : Jvm.MethodName)).before a0 Z = true := hw _ (List.mem_of_getElem? (i := 217) rfl)
theorem w218 {a0 : Array Value} {Z : State} (hw : W a0 Z) : (Jvm.Cond.code ({ cls := "java/util/Arrays", name := "copyOf", desc := "([BI)[B" } : Jvm.MethodName) jdk_65_method_121_code (3 : Nat) (Option.some (Jvm.ClassFile.FieldType.array Jvm.ClassFile.FieldType.byte))).before a0 Z = true := hw _ (List.mem_of_getElem? (i := 218) rfl)
theorem w219 {a0 : Array Value} {Z : State} (hw : W a0 Z) : (Jvm.Cond.stringLink "com/example/unibrace/unibrace/ErrorText" (26 : Nat) "...").before a0 Z = true := hw _ (List.mem_of_getElem? (i := 219) rfl)
theorem w220 {a0 : Array Value} {Z : State} (hw : W a0 Z) : (Jvm.Cond.methodLink "java/lang/StringUTF16" (119 : Nat) ({ cls := "java/lang/StringUTF16", name := "toBytes", desc := "([CII)[B" } : Jvm.MethodName)).before a0 Z = true := hw _ (List.mem_of_getElem? (i := 220) rfl)
theorem w221 {a0 : Array Value} {Z : State} (hw : W a0 Z) : (Jvm.Cond.static ({ cls := "java/lang/StringUTF16", name := "toBytes", desc := "([CII)[B" } : Jvm.MethodName)).before a0 Z = true := hw _ (List.mem_of_getElem? (i := 221) rfl)
theorem w222 {a0 : Array Value} {Z : State} (hw : W a0 Z) : (Jvm.Cond.code ({ cls := "java/lang/StringUTF16", name := "toBytes", desc := "([CII)[B" } : Jvm.MethodName) jdk_52_method_14_code (5 : Nat) (Option.some (Jvm.ClassFile.FieldType.array Jvm.ClassFile.FieldType.byte))).before a0 Z = true := hw _ (List.mem_of_getElem? (i := 222) rfl)
theorem w223 {a0 : Array Value} {Z : State} (hw : W a0 Z) : (Jvm.Cond.methodLink "java/lang/StringUTF16" (107 : Nat) ({ cls := "java/lang/StringUTF16", name := "newBytesFor", desc := "(I)[B" } : Jvm.MethodName)).before a0 Z = true := hw _ (List.mem_of_getElem? (i := 223) rfl)
theorem w224 {a0 : Array Value} {Z : State} (hw : W a0 Z) : (Jvm.Cond.static ({ cls := "java/lang/StringUTF16", name := "newBytesFor", desc := "(I)[B" } : Jvm.MethodName)).before a0 Z = true := hw _ (List.mem_of_getElem? (i := 224) rfl)
theorem w225 {a0 : Array Value} {Z : State} (hw : W a0 Z) : (Jvm.Cond.code ({ cls := "java/lang/StringUTF16", name := "newBytesFor", desc := "(I)[B" } : Jvm.MethodName) jdk_52_method_2_code (1 : Nat) (Option.some (Jvm.ClassFile.FieldType.array Jvm.ClassFile.FieldType.byte))).before a0 Z = true := hw _ (List.mem_of_getElem? (i := 225) rfl)
theorem w226 {a0 : Array Value} {Z : State} (hw : W a0 Z) : (Jvm.Cond.methodLink "java/lang/StringUTF16" (11 : Nat) ({ cls := "java/lang/StringUTF16", name := "newBytesLength", desc := "(I)I" } : Jvm.MethodName)).before a0 Z = true := hw _ (List.mem_of_getElem? (i := 226) rfl)
theorem w227 {a0 : Array Value} {Z : State} (hw : W a0 Z) : (Jvm.Cond.static ({ cls := "java/lang/StringUTF16", name := "newBytesLength", desc := "(I)I" } : Jvm.MethodName)).before a0 Z = true := hw _ (List.mem_of_getElem? (i := 227) rfl)
theorem w228 {a0 : Array Value} {Z : State} (hw : W a0 Z) : (Jvm.Cond.code ({ cls := "java/lang/StringUTF16", name := "newBytesLength", desc := "(I)I" } : Jvm.MethodName) jdk_52_method_3_code (1 : Nat) (Option.some Jvm.ClassFile.FieldType.int)).before a0 Z = true := hw _ (List.mem_of_getElem? (i := 228) rfl)
theorem w229 {a0 : Array Value} {Z : State} (hw : W a0 Z) : (Jvm.Cond.constant "java/lang/StringUTF16" (20 : Nat) (1073741823 : Int32)).before a0 Z = true := hw _ (List.mem_of_getElem? (i := 229) rfl)
theorem w230 {a0 : Array Value} {Z : State} (hw : W a0 Z) : (Jvm.Cond.methodLink "java/lang/StringUTF16" (111 : Nat) ({ cls := "java/lang/StringUTF16", name := "putChar", desc := "([BII)V" } : Jvm.MethodName)).before a0 Z = true := hw _ (List.mem_of_getElem? (i := 230) rfl)
theorem w231 {a0 : Array Value} {Z : State} (hw : W a0 Z) : (Jvm.Cond.static ({ cls := "java/lang/StringUTF16", name := "putChar", desc := "([BII)V" } : Jvm.MethodName)).before a0 Z = true := hw _ (List.mem_of_getElem? (i := 231) rfl)
theorem w232 {a0 : Array Value} {Z : State} (hw : W a0 Z) : (Jvm.Cond.code ({ cls := "java/lang/StringUTF16", name := "putChar", desc := "([BII)V" } : Jvm.MethodName) jdk_52_method_4_code (3 : Nat) (Option.none : Option Jvm.ClassFile.FieldType)).before a0 Z = true := hw _ (List.mem_of_getElem? (i := 232) rfl)
theorem w233 {a0 : Array Value} {Z : State} (hw : W a0 Z) : (Jvm.Cond.fieldLink "java/lang/StringUTF16" (44 : Nat) "java/lang/StringUTF16" "$assertionsDisabled" "Z").before a0 Z = true := hw _ (List.mem_of_getElem? (i := 233) rfl)
theorem w234 {a0 : Array Value} {Z : State} (hw : W a0 Z) : (Jvm.Cond.fieldLink "java/lang/StringUTF16" (59 : Nat) "java/lang/StringUTF16" "HI_BYTE_SHIFT" "I").before a0 Z = true := hw _ (List.mem_of_getElem? (i := 234) rfl)
theorem w235 {a0 : Array Value} {Z : State} (hw : W a0 Z) : (Jvm.Cond.fieldLink "java/lang/StringUTF16" (63 : Nat) "java/lang/StringUTF16" "LO_BYTE_SHIFT" "I").before a0 Z = true := hw _ (List.mem_of_getElem? (i := 235) rfl)
theorem w236 {a0 : Array Value} {Z : State} (hw : W a0 Z) : (Jvm.Cond.methodLink "java/lang/StringUTF16" (71 : Nat) ({ cls := "java/lang/StringUTF16", name := "getChar", desc := "([BI)C" } : Jvm.MethodName)).before a0 Z = true := hw _ (List.mem_of_getElem? (i := 236) rfl)
theorem w237 {a0 : Array Value} {Z : State} (hw : W a0 Z) : (Jvm.Cond.static ({ cls := "java/lang/StringUTF16", name := "getChar", desc := "([BI)C" } : Jvm.MethodName)).before a0 Z = true := hw _ (List.mem_of_getElem? (i := 237) rfl)
theorem w238 {a0 : Array Value} {Z : State} (hw : W a0 Z) : (Jvm.Cond.code ({ cls := "java/lang/StringUTF16", name := "getChar", desc := "([BI)C" } : Jvm.MethodName) jdk_52_method_5_code (2 : Nat) (Option.some Jvm.ClassFile.FieldType.char)).before a0 Z = true := hw _ (List.mem_of_getElem? (i := 238) rfl)
theorem w239 {a0 : Array Value} {Z : State} (hw : W a0 Z) : (Jvm.Cond.methodLink "java/lang/String" (689 : Nat) ({ cls := "java/lang/StringUTF16", name := "newString", desc := "([BII)Ljava/lang/String;" } : Jvm.MethodName)).before a0 Z = true := hw _ (List.mem_of_getElem? (i := 239) rfl)
theorem w240 {a0 : Array Value} {Z : State} (hw : W a0 Z) : (Jvm.Cond.static ({ cls := "java/lang/StringUTF16", name := "newString", desc := "([BII)Ljava/lang/String;" } : Jvm.MethodName)).before a0 Z = true := hw _ (List.mem_of_getElem? (i := 240) rfl)
theorem w241 {a0 : Array Value} {Z : State} (hw : W a0 Z) : (Jvm.Cond.code ({ cls := "java/lang/StringUTF16", name := "newString", desc := "([BII)Ljava/lang/String;" } : Jvm.MethodName) jdk_52_method_69_code (5 : Nat) (Option.some (Jvm.ClassFile.FieldType.object "java/lang/String"))).before a0 Z = true := hw _ (List.mem_of_getElem? (i := 241) rfl)
theorem w242 {a0 : Array Value} {Z : State} (hw : W a0 Z) : (Jvm.Cond.fieldLink "java/lang/StringUTF16" (251 : Nat) "java/lang/String" "COMPACT_STRINGS" "Z").before a0 Z = true := hw _ (List.mem_of_getElem? (i := 242) rfl)
theorem w243 {a0 : Array Value} {Z : State} (hw : W a0 Z) : (Jvm.Cond.methodLink "java/lang/StringUTF16" (257 : Nat) ({ cls := "java/lang/StringUTF16", name := "compress", desc := "([BII)[B" } : Jvm.MethodName)).before a0 Z = true := hw _ (List.mem_of_getElem? (i := 243) rfl)
theorem w244 {a0 : Array Value} {Z : State} (hw : W a0 Z) : (Jvm.Cond.static ({ cls := "java/lang/StringUTF16", name := "compress", desc := "([BII)[B" } : Jvm.MethodName)).before a0 Z = true := hw _ (List.mem_of_getElem? (i := 244) rfl)
theorem w245 {a0 : Array Value} {Z : State} (hw : W a0 Z) : (Jvm.Cond.code ({ cls := "java/lang/StringUTF16", name := "compress", desc := "([BII)[B" } : Jvm.MethodName) jdk_52_method_17_code (6 : Nat) (Option.some (Jvm.ClassFile.FieldType.array Jvm.ClassFile.FieldType.byte))).before a0 Z = true := hw _ (List.mem_of_getElem? (i := 245) rfl)
theorem w246 {a0 : Array Value} {Z : State} (hw : W a0 Z) : (Jvm.Cond.methodLink "java/lang/StringUTF16" (123 : Nat) ({ cls := "java/lang/StringUTF16", name := "compress", desc := "([BI[BII)I" } : Jvm.MethodName)).before a0 Z = true := hw _ (List.mem_of_getElem? (i := 246) rfl)
theorem w247 {a0 : Array Value} {Z : State} (hw : W a0 Z) : (Jvm.Cond.static ({ cls := "java/lang/StringUTF16", name := "compress", desc := "([BI[BII)I" } : Jvm.MethodName)).before a0 Z = true := hw _ (List.mem_of_getElem? (i := 247) rfl)
theorem w248 {a0 : Array Value} {Z : State} (hw : W a0 Z) : (Jvm.Cond.code ({ cls := "java/lang/StringUTF16", name := "compress", desc := "([BI[BII)I" } : Jvm.MethodName) jdk_52_method_22_code (7 : Nat) (Option.some Jvm.ClassFile.FieldType.int)).before a0 Z = true := hw _ (List.mem_of_getElem? (i := 248) rfl)
theorem w249 {a0 : Array Value} {Z : State} (hw : W a0 Z) : (Jvm.Cond.methodLink "java/lang/StringUTF16" (173 : Nat) ({ cls := "java/lang/StringUTF16", name := "checkBoundsOffCount", desc := "(II[B)V" } : Jvm.MethodName)).before a0 Z = true := hw _ (List.mem_of_getElem? (i := 249) rfl)
theorem w250 {a0 : Array Value} {Z : State} (hw : W a0 Z) : (Jvm.Cond.static ({ cls := "java/lang/StringUTF16", name := "checkBoundsOffCount", desc := "(II[B)V" } : Jvm.MethodName)).before a0 Z = true := hw _ (List.mem_of_getElem? (i := 250) rfl)
theorem w251 {a0 : Array Value} {Z : State} (hw : W a0 Z) : (Jvm.Cond.code ({ cls := "java/lang/StringUTF16", name := "checkBoundsOffCount", desc := "(II[B)V" } : Jvm.MethodName) jdk_52_method_94_code (3 : Nat) (Option.none : Option Jvm.ClassFile.FieldType)).before a0 Z = true := hw _ (List.mem_of_getElem? (i := 251) rfl)
theorem w252 {a0 : Array Value} {Z : State} (hw : W a0 Z) : (Jvm.Cond.methodLink "java/lang/StringUTF16" (48 : Nat) ({ cls := "java/lang/StringUTF16", name := "length", desc := "([B)I" } : Jvm.MethodName)).before a0 Z = true := hw _ (List.mem_of_getElem? (i := 252) rfl)
theorem w253 {a0 : Array Value} {Z : State} (hw : W a0 Z) : (Jvm.Cond.static ({ cls := "java/lang/StringUTF16", name := "length", desc := "([B)I" } : Jvm.MethodName)).before a0 Z = true := hw _ (List.mem_of_getElem? (i := 253) rfl)
theorem w254 {a0 : Array Value} {Z : State} (hw : W a0 Z) : (Jvm.Cond.code ({ cls := "java/lang/StringUTF16", name := "length", desc := "([B)I" } : Jvm.MethodName) jdk_52_method_6_code (1 : Nat) (Option.some Jvm.ClassFile.FieldType.int)).before a0 Z = true := hw _ (List.mem_of_getElem? (i := 254) rfl)
theorem w255 {a0 : Array Value} {Z : State} (hw : W a0 Z) : (Jvm.Cond.methodLink "java/lang/StringUTF16" (419 : Nat) ({ cls := "java/lang/String", name := "checkBoundsOffCount", desc := "(III)I" } : Jvm.MethodName)).before a0 Z = true := hw _ (List.mem_of_getElem? (i := 255) rfl)
theorem w256 {a0 : Array Value} {Z : State} (hw : W a0 Z) : (Jvm.Cond.static ({ cls := "java/lang/String", name := "checkBoundsOffCount", desc := "(III)I" } : Jvm.MethodName)).before a0 Z = true := hw _ (List.mem_of_getElem? (i := 256) rfl)
theorem w257 {a0 : Array Value} {Z : State} (hw : W a0 Z) : (Jvm.Cond.code ({ cls := "java/lang/String", name := "checkBoundsOffCount", desc := "(III)I" } : Jvm.MethodName) jdk_42_method_157_code (3 : Nat) (Option.some Jvm.ClassFile.FieldType.int)).before a0 Z = true := hw _ (List.mem_of_getElem? (i := 257) rfl)
theorem w258 {a0 : Array Value} {Z : State} (hw : W a0 Z) : (Jvm.Cond.methodLink "java/lang/String" (1065 : Nat) ({ cls := "jdk/internal/util/Preconditions", name := "checkFromIndexSize", desc := "(IIILjava/util/function/BiFunction;)I" } : Jvm.MethodName)).before a0 Z = true := hw _ (List.mem_of_getElem? (i := 258) rfl)
theorem w259 {a0 : Array Value} {Z : State} (hw : W a0 Z) : (Jvm.Cond.static ({ cls := "jdk/internal/util/Preconditions", name := "checkFromIndexSize", desc := "(IIILjava/util/function/BiFunction;)I" } : Jvm.MethodName)).before a0 Z = true := hw _ (List.mem_of_getElem? (i := 259) rfl)
theorem w260 {a0 : Array Value} {Z : State} (hw : W a0 Z) : (Jvm.Cond.code ({ cls := "jdk/internal/util/Preconditions", name := "checkFromIndexSize", desc := "(IIILjava/util/function/BiFunction;)I" } : Jvm.MethodName) jdk_41_method_13_code (4 : Nat) (Option.some Jvm.ClassFile.FieldType.int)).before a0 Z = true := hw _ (List.mem_of_getElem? (i := 260) rfl)
theorem w261 {a0 : Array Value} {Z : State} (hw : W a0 Z) : (Jvm.Cond.methodLink "java/lang/StringUTF16" (126 : Nat) ({ cls := "java/util/Arrays", name := "copyOfRange", desc := "([BII)[B" } : Jvm.MethodName)).before a0 Z = true := hw _ (List.mem_of_getElem? (i := 261) rfl)
theorem w262 {a0 : Array Value} {Z : State} (hw : W a0 Z) : (Jvm.Cond.methodLink "java/lang/StringUTF16" (259 : Nat) ({ cls := "java/lang/StringUTF16", name := "coderFromArrayLen", desc := "([BI)B" } : Jvm.MethodName)).before a0 Z = true := hw _ (List.mem_of_getElem? (i := 262) rfl)
theorem w263 {a0 : Array Value} {Z : State} (hw : W a0 Z) : (Jvm.Cond.classLink "java/lang/StringUTF16" (3 : Nat) "java/lang/String").before a0 Z = true := hw _ (List.mem_of_getElem? (i := 263) rfl)
theorem w264 {a0 : Array Value} {Z : State} (hw : W a0 Z) : (Jvm.Cond.methodLink "java/lang/StringUTF16" (263 : Nat) ({ cls := "java/lang/String", name := "<init>", desc := "([BB)V" } : Jvm.MethodName)).before a0 Z = true := hw _ (List.mem_of_getElem? (i := 264) rfl)
theorem w265 {a0 : Array Value} {Z : State} (hw : W a0 Z) : (Jvm.Cond.methodLink "java/lang/AbstractStringBuilder" (195 : Nat) ({ cls := "java/lang/AbstractStringBuilder", name := "inflate", desc := "()V" } : Jvm.MethodName)).before a0 Z = true := hw _ (List.mem_of_getElem? (i := 265) rfl)
theorem w266 {a0 : Array Value} {Z : State} (hw : W a0 Z) : (Jvm.Cond.instanceMethod ({ cls := "java/lang/AbstractStringBuilder", name := "inflate", desc := "()V" } : Jvm.MethodName)).before a0 Z = true := hw _ (List.mem_of_getElem? (i := 266) rfl)
theorem w267 {a0 : Array Value} {Z : State} (hw : W a0 Z) : (Jvm.Cond.privateMethod ({ cls := "java/lang/AbstractStringBuilder", name := "inflate", desc := "()V" } : Jvm.MethodName)).before a0 Z = true := hw _ (List.mem_of_getElem? (i := 267) rfl)
theorem w268 {a0 : Array Value} {Z : State} (hw : W a0 Z) : (Jvm.Cond.selects "java/lang/StringBuilder" ({ cls := "java/lang/AbstractStringBuilder", name := "inflate", desc := "()V" } : Jvm.MethodName) ({ cls := "java/lang/AbstractStringBuilder", name := "inflate", desc := "()V" } : Jvm.MethodName)).before a0 Z = true := hw _ (List.mem_of_getElem? (i := 268) rfl)
theorem w269 {a0 : Array Value} {Z : State} (hw : W a0 Z) : (Jvm.Cond.code ({ cls := "java/lang/AbstractStringBuilder", name := "inflate", desc := "()V" } : Jvm.MethodName) jdk_68_method_11_code (2 : Nat) (Option.none : Option Jvm.ClassFile.FieldType)).before a0 Z = true := hw _ (List.mem_of_getElem? (i := 269) rfl)
theorem w270 {a0 : Array Value} {Z : State} (hw : W a0 Z) : (Jvm.Cond.methodLink "java/lang/AbstractStringBuilder" (83 : Nat) ({ cls := "java/lang/AbstractStringBuilder", name := "isLatin1", desc := "()Z" } : Jvm.MethodName)).before a0 Z = true := hw _ (List.mem_of_getElem? (i := 270) rfl)
theorem w271 {a0 : Array Value} {Z : State} (hw : W a0 Z) : (Jvm.Cond.methodLink "java/lang/AbstractStringBuilder" (26 : Nat) ({ cls := "java/lang/StringUTF16", name := "newBytesFor", desc := "(I)[B" } : Jvm.MethodName)).before a0 Z = true := hw _ (List.mem_of_getElem? (i := 271) rfl)
theorem w272 {a0 : Array Value} {Z : State} (hw : W a0 Z) : (Jvm.Cond.methodLink "java/lang/AbstractStringBuilder" (125 : Nat) ({ cls := "java/lang/StringLatin1", name := "inflate", desc := "([BI[BII)V" } : Jvm.MethodName)).before a0 Z = true := hw _ (List.mem_of_getElem? (i := 272) rfl)
theorem w273 {a0 : Array Value} {Z : State} (hw : W a0 Z) : (Jvm.Cond.static ({ cls := "java/lang/StringLatin1", name := "inflate", desc := "([BI[BII)V" } : Jvm.MethodName)).before a0 Z = true := hw _ (List.mem_of_getElem? (i := 273) rfl)
theorem w274 {a0 : Array Value} {Z : State} (hw : W a0 Z) : (Jvm.Cond.code ({ cls := "java/lang/StringLatin1", name := "inflate", desc := "([BI[BII)V" } : Jvm.MethodName) jdk_43_method_50_code (5 : Nat) (Option.none : Option Jvm.ClassFile.FieldType)).before a0 Z = true := hw _ (List.mem_of_getElem? (i := 274) rfl)
theorem w275 {a0 : Array Value} {Z : State} (hw : W a0 Z) : (Jvm.Cond.methodLink "java/lang/StringLatin1" (240 : Nat) ({ cls := "java/lang/StringUTF16", name := "inflate", desc := "([BI[BII)V" } : Jvm.MethodName)).before a0 Z = true := hw _ (List.mem_of_getElem? (i := 275) rfl)
theorem w276 {a0 : Array Value} {Z : State} (hw : W a0 Z) : (Jvm.Cond.static ({ cls := "java/lang/StringUTF16", name := "inflate", desc := "([BI[BII)V" } : Jvm.MethodName)).before a0 Z = true := hw _ (List.mem_of_getElem? (i := 276) rfl)
theorem w277 {a0 : Array Value} {Z : State} (hw : W a0 Z) : (Jvm.Cond.code ({ cls := "java/lang/StringUTF16", name := "inflate", desc := "([BI[BII)V" } : Jvm.MethodName) jdk_52_method_86_code (6 : Nat) (Option.none : Option Jvm.ClassFile.FieldType)).before a0 Z = true := hw _ (List.mem_of_getElem? (i := 277) rfl)
theorem w278 {a0 : Array Value} {Z : State} (hw : W a0 Z) : (Jvm.Cond.methodLink "java/lang/String" (106 : Nat) ({ cls := "java/lang/StringLatin1", name := "inflate", desc := "([BI[BII)V" } : Jvm.MethodName)).before a0 Z = true := hw _ (List.mem_of_getElem? (i := 278) rfl)
theorem w279 {a0 : Array Value} {Z : State} (hw : W a0 Z) : (Jvm.Cond.fieldLink "java/lang/String" (1048 : Nat) "java/lang/AbstractStringBuilder" "maybeLatin1" "Z").before a0 Z = true := hw _ (List.mem_of_getElem? (i := 279) rfl)
theorem w280 {a0 : Array Value} {Z : State} (hw : W a0 Z) : (Jvm.Cond.lays "java/lang/StringBuilder" "java/lang/AbstractStringBuilder" "maybeLatin1" "Z").before a0 Z = true := hw _ (List.mem_of_getElem? (i := 280) rfl)
theorem w281 {a0 : Array Value} {Z : State} (hw : W a0 Z) : (Jvm.Cond.methodLink "java/lang/String" (498 : Nat) ({ cls := "java/lang/StringUTF16", name := "charAt", desc := "([BI)C" } : Jvm.MethodName)).before a0 Z = true := hw _ (List.mem_of_getElem? (i := 281) rfl)
theorem w282 {a0 : Array Value} {Z : State} (hw : W a0 Z) : (Jvm.Cond.static ({ cls := "java/lang/StringUTF16", name := "charAt", desc := "([BI)C" } : Jvm.MethodName)).before a0 Z = true := hw _ (List.mem_of_getElem? (i := 282) rfl)
theorem w283 {a0 : Array Value} {Z : State} (hw : W a0 Z) : (Jvm.Cond.code ({ cls := "java/lang/StringUTF16", name := "charAt", desc := "([BI)C" } : Jvm.MethodName) jdk_52_method_83_code (2 : Nat) (Option.some Jvm.ClassFile.FieldType.char)).before a0 Z = true := hw _ (List.mem_of_getElem? (i := 283) rfl)
theorem w284 {a0 : Array Value} {Z : State} (hw : W a0 Z) : (Jvm.Cond.methodLink "java/lang/StringUTF16" (67 : Nat) ({ cls := "java/lang/StringUTF16", name := "checkIndex", desc := "(I[B)V" } : Jvm.MethodName)).before a0 Z = true := hw _ (List.mem_of_getElem? (i := 284) rfl)
theorem w285 {a0 : Array Value} {Z : State} (hw : W a0 Z) : (Jvm.Cond.static ({ cls := "java/lang/StringUTF16", name := "checkIndex", desc := "(I[B)V" } : Jvm.MethodName)).before a0 Z = true := hw _ (List.mem_of_getElem? (i := 285) rfl)
theorem w286 {a0 : Array Value} {Z : State} (hw : W a0 Z) : (Jvm.Cond.code ({ cls := "java/lang/StringUTF16", name := "checkIndex", desc := "(I[B)V" } : Jvm.MethodName) jdk_52_method_91_code (2 : Nat) (Option.none : Option Jvm.ClassFile.FieldType)).before a0 Z = true := hw _ (List.mem_of_getElem? (i := 286) rfl)
theorem w287 {a0 : Array Value} {Z : State} (hw : W a0 Z) : (Jvm.Cond.methodLink "java/lang/StringUTF16" (414 : Nat) ({ cls := "java/lang/String", name := "checkIndex", desc := "(II)V" } : Jvm.MethodName)).before a0 Z = true := hw _ (List.mem_of_getElem? (i := 287) rfl)
theorem d_jdk_42_method_149_0 : decode jdk_42_method_149_code 0 = .ok (.aload_n 0, 1) := by decide +kernel
theorem d_jdk_42_method_149_1 : decode jdk_42_method_149_code 1 = .ok (.invokespecial 1, 3) := by decide +kernel
theorem d_jdk_42_method_149_4 : decode jdk_42_method_149_code 4 = .ok (.iload_n 3, 1) := by decide +kernel
theorem d_jdk_42_method_149_5 : decode jdk_42_method_149_code 5 = .ok (.ifCond .ne 22, 3) := by decide +kernel
theorem d_jdk_42_method_149_8 : decode jdk_42_method_149_code 8 = .ok (.aload_n 0, 1) := by decide +kernel
theorem d_jdk_42_method_149_9 : decode jdk_42_method_149_code 9 = .ok (.ldc 7, 2) := by decide +kernel
theorem d_jdk_42_method_149_11 : decode jdk_42_method_149_code 11 = .ok (.getfield 9, 3) := by decide +kernel
theorem d_jdk_42_method_149_14 : decode jdk_42_method_149_code 14 = .ok (.putfield 9, 3) := by decide +kernel
theorem d_jdk_42_method_149_17 : decode jdk_42_method_149_code 17 = .ok (.aload_n 0, 1) := by decide +kernel
theorem d_jdk_42_method_149_18 : decode jdk_42_method_149_code 18 = .ok (.ldc 7, 2) := by decide +kernel
theorem d_jdk_42_method_149_20 : decode jdk_42_method_149_code 20 = .ok (.getfield 15, 3) := by decide +kernel
theorem d_jdk_42_method_149_23 : decode jdk_42_method_149_code 23 = .ok (.putfield 15, 3) := by decide +kernel
theorem d_jdk_42_method_149_26 : decode jdk_42_method_149_code 26 = .ok (.return_, 1) := by decide +kernel
theorem d_jdk_42_method_3_0 : decode jdk_42_method_3_code 0 = .ok (.aload_n 0, 1) := by decide +kernel
theorem d_jdk_42_method_3_1 : decode jdk_42_method_3_code 1 = .ok (.aload_n 1, 1) := by decide +kernel
theorem d_jdk_42_method_3_2 : decode jdk_42_method_3_code 2 = .ok (.iconst 0, 1) := by decide +kernel
theorem d_jdk_42_method_3_3 : decode jdk_42_method_3_code 3 = .ok (.aload_n 1, 1) := by decide +kernel
theorem d_jdk_42_method_3_4 : decode jdk_42_method_3_code 4 = .ok (.arraylength, 1) := by decide +kernel
theorem d_jdk_42_method_3_5 : decode jdk_42_method_3_code 5 = .ok (.aconst_null, 1) := by decide +kernel
theorem d_jdk_42_method_3_6 : decode jdk_42_method_3_code 6 = .ok (.invokespecial 27, 3) := by decide +kernel
theorem d_jdk_42_method_3_9 : decode jdk_42_method_3_code 9 = .ok (.return_, 1) := by decide +kernel
theorem d_jdk_52_method_21_0 : decode jdk_52_method_21_code 0 = .ok (.iconst 0, 1) := by decide +kernel
theorem d_jdk_52_method_21_1 : decode jdk_52_method_21_code 1 = .ok (.istore 5, 2) := by decide +kernel
theorem d_jdk_52_method_21_3 : decode jdk_52_method_21_code 3 = .ok (.iload 5, 2) := by decide +kernel
theorem d_jdk_52_method_21_5 : decode jdk_52_method_21_code 5 = .ok (.iload 4, 2) := by decide +kernel
theorem d_jdk_52_method_21_7 : decode jdk_52_method_21_code 7 = .ok (.if_icmp .ge 37, 3) := by decide +kernel
theorem d_jdk_52_method_21_44 : decode jdk_52_method_21_code 44 = .ok (.iload 4, 2) := by decide +kernel
theorem d_jdk_52_method_21_46 : decode jdk_52_method_21_code 46 = .ok (.ireturn, 1) := by decide +kernel
theorem d_jdk_52_method_21_10 : decode jdk_52_method_21_code 10 = .ok (.aload_n 0, 1) := by decide +kernel
theorem d_jdk_52_method_21_11 : decode jdk_52_method_21_code 11 = .ok (.iload_n 1, 1) := by decide +kernel
theorem d_jdk_52_method_21_12 : decode jdk_52_method_21_code 12 = .ok (.caload, 1) := by decide +kernel
theorem d_jdk_52_method_21_13 : decode jdk_52_method_21_code 13 = .ok (.istore 6, 2) := by decide +kernel
theorem d_jdk_52_method_21_15 : decode jdk_52_method_21_code 15 = .ok (.iload 6, 2) := by decide +kernel
theorem d_jdk_52_method_21_17 : decode jdk_52_method_21_code 17 = .ok (.sipush 255, 3) := by decide +kernel
theorem d_jdk_52_method_21_20 : decode jdk_52_method_21_code 20 = .ok (.if_icmp .le 6, 3) := by decide +kernel
theorem d_jdk_52_method_21_23 : decode jdk_52_method_21_code 23 = .ok (.iload 5, 2) := by decide +kernel
theorem d_jdk_52_method_21_25 : decode jdk_52_method_21_code 25 = .ok (.ireturn, 1) := by decide +kernel
theorem d_jdk_52_method_21_26 : decode jdk_52_method_21_code 26 = .ok (.aload_n 2, 1) := by decide +kernel
theorem d_jdk_52_method_21_27 : decode jdk_52_method_21_code 27 = .ok (.iload_n 3, 1) := by decide +kernel
theorem d_jdk_52_method_21_28 : decode jdk_52_method_21_code 28 = .ok (.iload 6, 2) := by decide +kernel
theorem d_jdk_52_method_21_30 : decode jdk_52_method_21_code 30 = .ok (.i2b, 1) := by decide +kernel
theorem d_jdk_52_method_21_31 : decode jdk_52_method_21_code 31 = .ok (.bastore, 1) := by decide +kernel
theorem d_jdk_52_method_21_32 : decode jdk_52_method_21_code 32 = .ok (.iinc 1 1, 3) := by decide +kernel
theorem d_jdk_52_method_21_35 : decode jdk_52_method_21_code 35 = .ok (.iinc 3 1, 3) := by decide +kernel
theorem d_jdk_52_method_21_38 : decode jdk_52_method_21_code 38 = .ok (.iinc 5 1, 3) := by decide +kernel
theorem d_jdk_52_method_21_41 : decode jdk_52_method_21_code 41 = .ok (.goto (-38), 3) := by decide +kernel
theorem d_jdk_52_method_3_0 : decode jdk_52_method_3_code 0 = .ok (.iload_n 0, 1) := by decide +kernel
theorem d_jdk_52_method_3_1 : decode jdk_52_method_3_code 1 = .ok (.ifCond .ge 11, 3) := by decide +kernel
theorem d_jdk_52_method_3_12 : decode jdk_52_method_3_code 12 = .ok (.iload_n 0, 1) := by decide +kernel
theorem d_jdk_52_method_3_13 : decode jdk_52_method_3_code 13 = .ok (.ldc 20, 2) := by decide +kernel
theorem d_jdk_52_method_3_15 : decode jdk_52_method_3_code 15 = .ok (.if_icmp .lt 40, 3) := by decide +kernel
theorem d_jdk_52_method_3_55 : decode jdk_52_method_3_code 55 = .ok (.iload_n 0, 1) := by decide +kernel
theorem d_jdk_52_method_3_56 : decode jdk_52_method_3_code 56 = .ok (.iconst 1, 1) := by decide +kernel
theorem d_jdk_52_method_3_57 : decode jdk_52_method_3_code 57 = .ok (.ishl, 1) := by decide +kernel
theorem d_jdk_52_method_3_58 : decode jdk_52_method_3_code 58 = .ok (.ireturn, 1) := by decide +kernel
theorem d_jdk_52_method_2_0 : decode jdk_52_method_2_code 0 = .ok (.iload_n 0, 1) := by decide +kernel
theorem d_jdk_52_method_2_1 : decode jdk_52_method_2_code 1 = .ok (.invokestatic 11, 3) := by decide +kernel
theorem d_jdk_52_method_2_4 : decode jdk_52_method_2_code 4 = .ok (.newarray .byte, 2) := by decide +kernel
theorem d_jdk_52_method_2_6 : decode jdk_52_method_2_code 6 = .ok (.areturn, 1) := by decide +kernel
theorem d_jdk_52_method_4_0 : decode jdk_52_method_4_code 0 = .ok (.getstatic 44, 3) := by decide +kernel
theorem d_jdk_52_method_4_3 : decode jdk_52_method_4_code 3 = .ok (.ifCond .ne 25, 3) := by decide +kernel
theorem d_jdk_52_method_4_28 : decode jdk_52_method_4_code 28 = .ok (.iload_n 1, 1) := by decide +kernel
theorem d_jdk_52_method_4_29 : decode jdk_52_method_4_code 29 = .ok (.iconst 1, 1) := by decide +kernel
theorem d_jdk_52_method_4_30 : decode jdk_52_method_4_code 30 = .ok (.ishl, 1) := by decide +kernel
theorem d_jdk_52_method_4_31 : decode jdk_52_method_4_code 31 = .ok (.istore_n 1, 1) := by decide +kernel
theorem d_jdk_52_method_4_32 : decode jdk_52_method_4_code 32 = .ok (.aload_n 0, 1) := by decide +kernel
theorem d_jdk_52_method_4_33 : decode jdk_52_method_4_code 33 = .ok (.iload_n 1, 1) := by decide +kernel
theorem d_jdk_52_method_4_34 : decode jdk_52_method_4_code 34 = .ok (.iinc 1 1, 3) := by decide +kernel
theorem d_jdk_52_method_4_37 : decode jdk_52_method_4_code 37 = .ok (.iload_n 2, 1) := by decide +kernel
theorem d_jdk_52_method_4_38 : decode jdk_52_method_4_code 38 = .ok (.getstatic 59, 3) := by decide +kernel
theorem d_jdk_52_method_4_41 : decode jdk_52_method_4_code 41 = .ok (.ishr, 1) := by decide +kernel
theorem d_jdk_52_method_4_42 : decode jdk_52_method_4_code 42 = .ok (.i2b, 1) := by decide +kernel
theorem d_jdk_52_method_4_43 : decode jdk_52_method_4_code 43 = .ok (.bastore, 1) := by decide +kernel
theorem d_jdk_52_method_4_44 : decode jdk_52_method_4_code 44 = .ok (.aload_n 0, 1) := by decide +kernel
theorem d_jdk_52_method_4_45 : decode jdk_52_method_4_code 45 = .ok (.iload_n 1, 1) := by decide +kernel
theorem d_jdk_52_method_4_46 : decode jdk_52_method_4_code 46 = .ok (.iload_n 2, 1) := by decide +kernel
theorem d_jdk_52_method_4_47 : decode jdk_52_method_4_code 47 = .ok (.getstatic 63, 3) := by decide +kernel
theorem d_jdk_52_method_4_50 : decode jdk_52_method_4_code 50 = .ok (.ishr, 1) := by decide +kernel
theorem d_jdk_52_method_4_51 : decode jdk_52_method_4_code 51 = .ok (.i2b, 1) := by decide +kernel
theorem d_jdk_52_method_4_52 : decode jdk_52_method_4_code 52 = .ok (.bastore, 1) := by decide +kernel
theorem d_jdk_52_method_4_53 : decode jdk_52_method_4_code 53 = .ok (.return_, 1) := by decide +kernel
theorem d_jdk_52_method_5_0 : decode jdk_52_method_5_code 0 = .ok (.getstatic 44, 3) := by decide +kernel
theorem d_jdk_52_method_5_3 : decode jdk_52_method_5_code 3 = .ok (.ifCond .ne 25, 3) := by decide +kernel
theorem d_jdk_52_method_5_28 : decode jdk_52_method_5_code 28 = .ok (.iload_n 1, 1) := by decide +kernel
theorem d_jdk_52_method_5_29 : decode jdk_52_method_5_code 29 = .ok (.iconst 1, 1) := by decide +kernel
theorem d_jdk_52_method_5_30 : decode jdk_52_method_5_code 30 = .ok (.ishl, 1) := by decide +kernel
theorem d_jdk_52_method_5_31 : decode jdk_52_method_5_code 31 = .ok (.istore_n 1, 1) := by decide +kernel
theorem d_jdk_52_method_5_32 : decode jdk_52_method_5_code 32 = .ok (.aload_n 0, 1) := by decide +kernel
theorem d_jdk_52_method_5_33 : decode jdk_52_method_5_code 33 = .ok (.iload_n 1, 1) := by decide +kernel
theorem d_jdk_52_method_5_34 : decode jdk_52_method_5_code 34 = .ok (.iinc 1 1, 3) := by decide +kernel
theorem d_jdk_52_method_5_37 : decode jdk_52_method_5_code 37 = .ok (.baload, 1) := by decide +kernel
theorem d_jdk_52_method_5_38 : decode jdk_52_method_5_code 38 = .ok (.sipush 255, 3) := by decide +kernel
theorem d_jdk_52_method_5_41 : decode jdk_52_method_5_code 41 = .ok (.iand, 1) := by decide +kernel
theorem d_jdk_52_method_5_42 : decode jdk_52_method_5_code 42 = .ok (.getstatic 59, 3) := by decide +kernel
theorem d_jdk_52_method_5_45 : decode jdk_52_method_5_code 45 = .ok (.ishl, 1) := by decide +kernel
theorem d_jdk_52_method_5_46 : decode jdk_52_method_5_code 46 = .ok (.aload_n 0, 1) := by decide +kernel
theorem d_jdk_52_method_5_47 : decode jdk_52_method_5_code 47 = .ok (.iload_n 1, 1) := by decide +kernel
theorem d_jdk_52_method_5_48 : decode jdk_52_method_5_code 48 = .ok (.baload, 1) := by decide +kernel
theorem d_jdk_52_method_5_49 : decode jdk_52_method_5_code 49 = .ok (.sipush 255, 3) := by decide +kernel
theorem d_jdk_52_method_5_52 : decode jdk_52_method_5_code 52 = .ok (.iand, 1) := by decide +kernel
theorem d_jdk_52_method_5_53 : decode jdk_52_method_5_code 53 = .ok (.getstatic 63, 3) := by decide +kernel
theorem d_jdk_52_method_5_56 : decode jdk_52_method_5_code 56 = .ok (.ishl, 1) := by decide +kernel
theorem d_jdk_52_method_5_57 : decode jdk_52_method_5_code 57 = .ok (.ior, 1) := by decide +kernel
theorem d_jdk_52_method_5_58 : decode jdk_52_method_5_code 58 = .ok (.i2c, 1) := by decide +kernel
theorem d_jdk_52_method_5_59 : decode jdk_52_method_5_code 59 = .ok (.ireturn, 1) := by decide +kernel
theorem d_jdk_52_method_14_0 : decode jdk_52_method_14_code 0 = .ok (.iload_n 2, 1) := by decide +kernel
theorem d_jdk_52_method_14_1 : decode jdk_52_method_14_code 1 = .ok (.invokestatic 107, 3) := by decide +kernel
theorem d_jdk_52_method_14_4 : decode jdk_52_method_14_code 4 = .ok (.astore_n 3, 1) := by decide +kernel
theorem d_jdk_52_method_14_5 : decode jdk_52_method_14_code 5 = .ok (.iconst 0, 1) := by decide +kernel
theorem d_jdk_52_method_14_6 : decode jdk_52_method_14_code 6 = .ok (.istore 4, 2) := by decide +kernel
theorem d_jdk_52_method_14_8 : decode jdk_52_method_14_code 8 = .ok (.iload 4, 2) := by decide +kernel
theorem d_jdk_52_method_14_10 : decode jdk_52_method_14_code 10 = .ok (.iload_n 2, 1) := by decide +kernel
theorem d_jdk_52_method_14_11 : decode jdk_52_method_14_code 11 = .ok (.if_icmp .ge 21, 3) := by decide +kernel
theorem d_jdk_52_method_14_32 : decode jdk_52_method_14_code 32 = .ok (.aload_n 3, 1) := by decide +kernel
theorem d_jdk_52_method_14_33 : decode jdk_52_method_14_code 33 = .ok (.areturn, 1) := by decide +kernel
theorem d_jdk_52_method_14_14 : decode jdk_52_method_14_code 14 = .ok (.aload_n 3, 1) := by decide +kernel
theorem d_jdk_52_method_14_15 : decode jdk_52_method_14_code 15 = .ok (.iload 4, 2) := by decide +kernel
theorem d_jdk_52_method_14_17 : decode jdk_52_method_14_code 17 = .ok (.aload_n 0, 1) := by decide +kernel
theorem d_jdk_52_method_14_18 : decode jdk_52_method_14_code 18 = .ok (.iload_n 1, 1) := by decide +kernel
theorem d_jdk_52_method_14_19 : decode jdk_52_method_14_code 19 = .ok (.caload, 1) := by decide +kernel
theorem d_jdk_52_method_14_20 : decode jdk_52_method_14_code 20 = .ok (.invokestatic 111, 3) := by decide +kernel
theorem d_jdk_52_method_14_23 : decode jdk_52_method_14_code 23 = .ok (.iinc 1 1, 3) := by decide +kernel
theorem d_jdk_52_method_14_26 : decode jdk_52_method_14_code 26 = .ok (.iinc 4 1, 3) := by decide +kernel
theorem d_jdk_52_method_14_29 : decode jdk_52_method_14_code 29 = .ok (.goto (-21), 3) := by decide +kernel
theorem d_jdk_52_method_16_0 : decode jdk_52_method_16_code 0 = .ok (.iload_n 2, 1) := by decide +kernel
theorem d_jdk_52_method_16_1 : decode jdk_52_method_16_code 1 = .ok (.newarray .byte, 2) := by decide +kernel
theorem d_jdk_52_method_16_3 : decode jdk_52_method_16_code 3 = .ok (.astore_n 3, 1) := by decide +kernel
theorem d_jdk_52_method_16_4 : decode jdk_52_method_16_code 4 = .ok (.aload_n 0, 1) := by decide +kernel
theorem d_jdk_52_method_16_5 : decode jdk_52_method_16_code 5 = .ok (.iload_n 1, 1) := by decide +kernel
theorem d_jdk_52_method_16_6 : decode jdk_52_method_16_code 6 = .ok (.aload_n 3, 1) := by decide +kernel
theorem d_jdk_52_method_16_7 : decode jdk_52_method_16_code 7 = .ok (.iconst 0, 1) := by decide +kernel
theorem d_jdk_52_method_16_8 : decode jdk_52_method_16_code 8 = .ok (.iload_n 2, 1) := by decide +kernel
theorem d_jdk_52_method_16_9 : decode jdk_52_method_16_code 9 = .ok (.invokestatic 115, 3) := by decide +kernel
theorem d_jdk_52_method_16_12 : decode jdk_52_method_16_code 12 = .ok (.istore 4, 2) := by decide +kernel
theorem d_jdk_52_method_16_14 : decode jdk_52_method_16_code 14 = .ok (.iload 4, 2) := by decide +kernel
theorem d_jdk_52_method_16_16 : decode jdk_52_method_16_code 16 = .ok (.iload_n 2, 1) := by decide +kernel
theorem d_jdk_52_method_16_17 : decode jdk_52_method_16_code 17 = .ok (.if_icmp .eq 40, 3) := by decide +kernel
theorem d_jdk_52_method_16_57 : decode jdk_52_method_16_code 57 = .ok (.aload_n 3, 1) := by decide +kernel
theorem d_jdk_52_method_16_58 : decode jdk_52_method_16_code 58 = .ok (.areturn, 1) := by decide +kernel
theorem d_jdk_52_method_16_20 : decode jdk_52_method_16_code 20 = .ok (.aload_n 0, 1) := by decide +kernel
theorem d_jdk_52_method_16_21 : decode jdk_52_method_16_code 21 = .ok (.iload_n 1, 1) := by decide +kernel
theorem d_jdk_52_method_16_22 : decode jdk_52_method_16_code 22 = .ok (.iload_n 2, 1) := by decide +kernel
theorem d_jdk_52_method_16_23 : decode jdk_52_method_16_code 23 = .ok (.invokestatic 119, 3) := by decide +kernel
theorem d_jdk_52_method_16_26 : decode jdk_52_method_16_code 26 = .ok (.astore 5, 2) := by decide +kernel
theorem d_jdk_52_method_16_28 : decode jdk_52_method_16_code 28 = .ok (.aload 5, 2) := by decide +kernel
theorem d_jdk_52_method_16_30 : decode jdk_52_method_16_code 30 = .ok (.iload 4, 2) := by decide +kernel
theorem d_jdk_52_method_16_32 : decode jdk_52_method_16_code 32 = .ok (.invokestatic 71, 3) := by decide +kernel
theorem d_jdk_52_method_16_35 : decode jdk_52_method_16_code 35 = .ok (.sipush 255, 3) := by decide +kernel
theorem d_jdk_52_method_16_38 : decode jdk_52_method_16_code 38 = .ok (.if_icmp .gt 16, 3) := by decide +kernel
theorem d_jdk_52_method_16_54 : decode jdk_52_method_16_code 54 = .ok (.aload 5, 2) := by decide +kernel
theorem d_jdk_52_method_16_56 : decode jdk_52_method_16_code 56 = .ok (.areturn, 1) := by decide +kernel
theorem d_jdk_52_method_15_0 : decode jdk_52_method_15_code 0 = .ok (.iload_n 1, 1) := by decide +kernel
theorem d_jdk_52_method_15_1 : decode jdk_52_method_15_code 1 = .ok (.aload_n 0, 1) := by decide +kernel
theorem d_jdk_52_method_15_2 : decode jdk_52_method_15_code 2 = .ok (.arraylength, 1) := by decide +kernel
theorem d_jdk_52_method_15_3 : decode jdk_52_method_15_code 3 = .ok (.isub, 1) := by decide +kernel
theorem d_jdk_52_method_15_4 : decode jdk_52_method_15_code 4 = .ok (.bipush 31, 2) := by decide +kernel
theorem d_jdk_52_method_15_6 : decode jdk_52_method_15_code 6 = .ok (.iushr, 1) := by decide +kernel
theorem d_jdk_52_method_15_7 : decode jdk_52_method_15_code 7 = .ok (.i2b, 1) := by decide +kernel
theorem d_jdk_52_method_15_8 : decode jdk_52_method_15_code 8 = .ok (.ireturn, 1) := by decide +kernel
theorem d_jdk_42_method_149_27 : decode jdk_42_method_149_code 27 = .ok (.getstatic 38, 3) := by decide +kernel
theorem d_jdk_42_method_149_30 : decode jdk_42_method_149_code 30 = .ok (.ifCond .eq 28, 3) := by decide +kernel
theorem d_jdk_42_method_149_33 : decode jdk_42_method_149_code 33 = .ok (.aload_n 1, 1) := by decide +kernel
theorem d_jdk_42_method_149_34 : decode jdk_42_method_149_code 34 = .ok (.iload_n 2, 1) := by decide +kernel
theorem d_jdk_42_method_149_35 : decode jdk_42_method_149_code 35 = .ok (.iload_n 3, 1) := by decide +kernel
theorem d_jdk_42_method_149_36 : decode jdk_42_method_149_code 36 = .ok (.invokestatic 177, 3) := by decide +kernel
theorem d_jdk_42_method_149_39 : decode jdk_42_method_149_code 39 = .ok (.astore 5, 2) := by decide +kernel
theorem d_jdk_42_method_149_41 : decode jdk_42_method_149_code 41 = .ok (.aload_n 0, 1) := by decide +kernel
theorem d_jdk_42_method_149_42 : decode jdk_42_method_149_code 42 = .ok (.aload 5, 2) := by decide +kernel
theorem d_jdk_42_method_149_44 : decode jdk_42_method_149_code 44 = .ok (.iload_n 3, 1) := by decide +kernel
theorem d_jdk_42_method_149_45 : decode jdk_42_method_149_code 45 = .ok (.invokestatic 47, 3) := by decide +kernel
theorem d_jdk_42_method_149_48 : decode jdk_42_method_149_code 48 = .ok (.putfield 15, 3) := by decide +kernel
theorem d_jdk_42_method_149_51 : decode jdk_42_method_149_code 51 = .ok (.aload_n 0, 1) := by decide +kernel
theorem d_jdk_42_method_149_52 : decode jdk_42_method_149_code 52 = .ok (.aload 5, 2) := by decide +kernel
theorem d_jdk_42_method_149_54 : decode jdk_42_method_149_code 54 = .ok (.putfield 9, 3) := by decide +kernel
theorem d_jdk_42_method_149_57 : decode jdk_42_method_149_code 57 = .ok (.return_, 1) := by decide +kernel
theorem d_jdk_41_method_11_0 : decode jdk_41_method_11_code 0 = .ok (.iload_n 0, 1) := by decide +kernel
theorem d_jdk_41_method_11_1 : decode jdk_41_method_11_code 1 = .ok (.ifCond .lt 8, 3) := by decide +kernel
theorem d_jdk_41_method_11_4 : decode jdk_41_method_11_code 4 = .ok (.iload_n 0, 1) := by decide +kernel
theorem d_jdk_41_method_11_5 : decode jdk_41_method_11_code 5 = .ok (.iload_n 1, 1) := by decide +kernel
theorem d_jdk_41_method_11_6 : decode jdk_41_method_11_code 6 = .ok (.if_icmp .lt 10, 3) := by decide +kernel
theorem d_jdk_41_method_11_16 : decode jdk_41_method_11_code 16 = .ok (.iload_n 0, 1) := by decide +kernel
theorem d_jdk_41_method_11_17 : decode jdk_41_method_11_code 17 = .ok (.ireturn, 1) := by decide +kernel
theorem d_jdk_42_method_155_0 : decode jdk_42_method_155_code 0 = .ok (.iload_n 0, 1) := by decide +kernel
theorem d_jdk_42_method_155_1 : decode jdk_42_method_155_code 1 = .ok (.iload_n 1, 1) := by decide +kernel
theorem d_jdk_42_method_155_2 : decode jdk_42_method_155_code 2 = .ok (.getstatic 1053, 3) := by decide +kernel
theorem d_jdk_42_method_155_5 : decode jdk_42_method_155_code 5 = .ok (.invokestatic 1059, 3) := by decide +kernel
theorem d_jdk_42_method_155_8 : decode jdk_42_method_155_code 8 = .ok (.pop, 1) := by decide +kernel
theorem d_jdk_42_method_155_9 : decode jdk_42_method_155_code 9 = .ok (.return_, 1) := by decide +kernel
theorem d_jdk_41_method_12_0 : decode jdk_41_method_12_code 0 = .ok (.iload_n 0, 1) := by decide +kernel
theorem d_jdk_41_method_12_1 : decode jdk_41_method_12_code 1 = .ok (.ifCond .lt 13, 3) := by decide +kernel
theorem d_jdk_41_method_12_4 : decode jdk_41_method_12_code 4 = .ok (.iload_n 0, 1) := by decide +kernel
theorem d_jdk_41_method_12_5 : decode jdk_41_method_12_code 5 = .ok (.iload_n 1, 1) := by decide +kernel
theorem d_jdk_41_method_12_6 : decode jdk_41_method_12_code 6 = .ok (.if_icmp .gt 8, 3) := by decide +kernel
theorem d_jdk_41_method_12_9 : decode jdk_41_method_12_code 9 = .ok (.iload_n 1, 1) := by decide +kernel
theorem d_jdk_41_method_12_10 : decode jdk_41_method_12_code 10 = .ok (.iload_n 2, 1) := by decide +kernel
theorem d_jdk_41_method_12_11 : decode jdk_41_method_12_code 11 = .ok (.if_icmp .le 11, 3) := by decide +kernel
theorem d_jdk_41_method_12_22 : decode jdk_41_method_12_code 22 = .ok (.iload_n 0, 1) := by decide +kernel
theorem d_jdk_41_method_12_23 : decode jdk_41_method_12_code 23 = .ok (.ireturn, 1) := by decide +kernel
theorem d_jdk_42_method_158_0 : decode jdk_42_method_158_code 0 = .ok (.iload_n 0, 1) := by decide +kernel
theorem d_jdk_42_method_158_1 : decode jdk_42_method_158_code 1 = .ok (.iload_n 1, 1) := by decide +kernel
theorem d_jdk_42_method_158_2 : decode jdk_42_method_158_code 2 = .ok (.iload_n 2, 1) := by decide +kernel
theorem d_jdk_42_method_158_3 : decode jdk_42_method_158_code 3 = .ok (.getstatic 1053, 3) := by decide +kernel
theorem d_jdk_42_method_158_6 : decode jdk_42_method_158_code 6 = .ok (.invokestatic 1062, 3) := by decide +kernel
theorem d_jdk_42_method_158_9 : decode jdk_42_method_158_code 9 = .ok (.pop, 1) := by decide +kernel
theorem d_jdk_42_method_158_10 : decode jdk_42_method_158_code 10 = .ok (.return_, 1) := by decide +kernel
theorem d_jdk_41_method_13_0 : decode jdk_41_method_13_code 0 = .ok (.iload_n 2, 1) := by decide +kernel
theorem d_jdk_41_method_13_1 : decode jdk_41_method_13_code 1 = .ok (.iload_n 0, 1) := by decide +kernel
theorem d_jdk_41_method_13_2 : decode jdk_41_method_13_code 2 = .ok (.ior, 1) := by decide +kernel
theorem d_jdk_41_method_13_3 : decode jdk_41_method_13_code 3 = .ok (.iload_n 1, 1) := by decide +kernel
theorem d_jdk_41_method_13_4 : decode jdk_41_method_13_code 4 = .ok (.ior, 1) := by decide +kernel
theorem d_jdk_41_method_13_5 : decode jdk_41_method_13_code 5 = .ok (.ifCond .lt 10, 3) := by decide +kernel
theorem d_jdk_41_method_13_8 : decode jdk_41_method_13_code 8 = .ok (.iload_n 1, 1) := by decide +kernel
theorem d_jdk_41_method_13_9 : decode jdk_41_method_13_code 9 = .ok (.iload_n 2, 1) := by decide +kernel
theorem d_jdk_41_method_13_10 : decode jdk_41_method_13_code 10 = .ok (.iload_n 0, 1) := by decide +kernel
theorem d_jdk_41_method_13_11 : decode jdk_41_method_13_code 11 = .ok (.isub, 1) := by decide +kernel
theorem d_jdk_41_method_13_12 : decode jdk_41_method_13_code 12 = .ok (.if_icmp .le 11, 3) := by decide +kernel
theorem d_jdk_41_method_13_23 : decode jdk_41_method_13_code 23 = .ok (.iload_n 0, 1) := by decide +kernel
theorem d_jdk_41_method_13_24 : decode jdk_41_method_13_code 24 = .ok (.ireturn, 1) := by decide +kernel
theorem d_jdk_42_method_157_0 : decode jdk_42_method_157_code 0 = .ok (.iload_n 0, 1) := by decide +kernel
theorem d_jdk_42_method_157_1 : decode jdk_42_method_157_code 1 = .ok (.iload_n 1, 1) := by decide +kernel
theorem d_jdk_42_method_157_2 : decode jdk_42_method_157_code 2 = .ok (.iload_n 2, 1) := by decide +kernel
theorem d_jdk_42_method_157_3 : decode jdk_42_method_157_code 3 = .ok (.getstatic 1053, 3) := by decide +kernel
theorem d_jdk_42_method_157_6 : decode jdk_42_method_157_code 6 = .ok (.invokestatic 1065, 3) := by decide +kernel
theorem d_jdk_42_method_157_9 : decode jdk_42_method_157_code 9 = .ok (.ireturn, 1) := by decide +kernel
theorem d_jdk_52_method_6_0 : decode jdk_52_method_6_code 0 = .ok (.aload_n 0, 1) := by decide +kernel
theorem d_jdk_52_method_6_1 : decode jdk_52_method_6_code 1 = .ok (.arraylength, 1) := by decide +kernel
theorem d_jdk_52_method_6_2 : decode jdk_52_method_6_code 2 = .ok (.iconst 1, 1) := by decide +kernel
theorem d_jdk_52_method_6_3 : decode jdk_52_method_6_code 3 = .ok (.ishr, 1) := by decide +kernel
theorem d_jdk_52_method_6_4 : decode jdk_52_method_6_code 4 = .ok (.ireturn, 1) := by decide +kernel
theorem d_jdk_52_method_94_0 : decode jdk_52_method_94_code 0 = .ok (.iload_n 0, 1) := by decide +kernel
theorem d_jdk_52_method_94_1 : decode jdk_52_method_94_code 1 = .ok (.iload_n 1, 1) := by decide +kernel
theorem d_jdk_52_method_94_2 : decode jdk_52_method_94_code 2 = .ok (.aload_n 2, 1) := by decide +kernel
theorem d_jdk_52_method_94_3 : decode jdk_52_method_94_code 3 = .ok (.invokestatic 48, 3) := by decide +kernel
theorem d_jdk_52_method_94_6 : decode jdk_52_method_94_code 6 = .ok (.invokestatic 419, 3) := by decide +kernel
theorem d_jdk_52_method_94_9 : decode jdk_52_method_94_code 9 = .ok (.pop, 1) := by decide +kernel
theorem d_jdk_52_method_94_10 : decode jdk_52_method_94_code 10 = .ok (.return_, 1) := by decide +kernel
theorem d_jdk_52_method_91_0 : decode jdk_52_method_91_code 0 = .ok (.iload_n 0, 1) := by decide +kernel
theorem d_jdk_52_method_91_1 : decode jdk_52_method_91_code 1 = .ok (.aload_n 1, 1) := by decide +kernel
theorem d_jdk_52_method_91_2 : decode jdk_52_method_91_code 2 = .ok (.invokestatic 48, 3) := by decide +kernel
theorem d_jdk_52_method_91_5 : decode jdk_52_method_91_code 5 = .ok (.invokestatic 414, 3) := by decide +kernel
theorem d_jdk_52_method_91_8 : decode jdk_52_method_91_code 8 = .ok (.return_, 1) := by decide +kernel
theorem d_jdk_42_method_154_0 : decode jdk_42_method_154_code 0 = .ok (.getstatic 38, 3) := by decide +kernel
theorem d_jdk_42_method_154_3 : decode jdk_42_method_154_code 3 = .ok (.ifCond .eq 14, 3) := by decide +kernel
theorem d_jdk_42_method_154_6 : decode jdk_42_method_154_code 6 = .ok (.aload_n 0, 1) := by decide +kernel
theorem d_jdk_42_method_154_7 : decode jdk_42_method_154_code 7 = .ok (.getfield 15, 3) := by decide +kernel
theorem d_jdk_42_method_154_10 : decode jdk_42_method_154_code 10 = .ok (.ifCond .ne 7, 3) := by decide +kernel
theorem d_jdk_42_method_154_13 : decode jdk_42_method_154_code 13 = .ok (.iconst 1, 1) := by decide +kernel
theorem d_jdk_42_method_154_14 : decode jdk_42_method_154_code 14 = .ok (.goto 4, 3) := by decide +kernel
theorem d_jdk_42_method_154_18 : decode jdk_42_method_154_code 18 = .ok (.ireturn, 1) := by decide +kernel
theorem d_jdk_42_method_152_0 : decode jdk_42_method_152_code 0 = .ok (.getstatic 38, 3) := by decide +kernel
theorem d_jdk_42_method_152_3 : decode jdk_42_method_152_code 3 = .ok (.ifCond .eq 10, 3) := by decide +kernel
theorem d_jdk_42_method_152_6 : decode jdk_42_method_152_code 6 = .ok (.aload_n 0, 1) := by decide +kernel
theorem d_jdk_42_method_152_7 : decode jdk_42_method_152_code 7 = .ok (.getfield 15, 3) := by decide +kernel
theorem d_jdk_42_method_152_10 : decode jdk_42_method_152_code 10 = .ok (.goto 4, 3) := by decide +kernel
theorem d_jdk_42_method_152_14 : decode jdk_42_method_152_code 14 = .ok (.ireturn, 1) := by decide +kernel
theorem d_jdk_42_method_154_17 : decode jdk_42_method_154_code 17 = .ok (.iconst 0, 1) := by decide +kernel
theorem d_jdk_43_method_2_0 : decode jdk_43_method_2_code 0 = .ok (.iload_n 1, 1) := by decide +kernel
theorem d_jdk_43_method_2_1 : decode jdk_43_method_2_code 1 = .ok (.aload_n 0, 1) := by decide +kernel
theorem d_jdk_43_method_2_2 : decode jdk_43_method_2_code 2 = .ok (.arraylength, 1) := by decide +kernel
theorem d_jdk_43_method_2_3 : decode jdk_43_method_2_code 3 = .ok (.invokestatic 9, 3) := by decide +kernel
theorem d_jdk_43_method_2_6 : decode jdk_43_method_2_code 6 = .ok (.aload_n 0, 1) := by decide +kernel
theorem d_jdk_43_method_2_7 : decode jdk_43_method_2_code 7 = .ok (.iload_n 1, 1) := by decide +kernel
theorem d_jdk_43_method_2_8 : decode jdk_43_method_2_code 8 = .ok (.baload, 1) := by decide +kernel
theorem d_jdk_43_method_2_9 : decode jdk_43_method_2_code 9 = .ok (.sipush 255, 3) := by decide +kernel
theorem d_jdk_43_method_2_12 : decode jdk_43_method_2_code 12 = .ok (.iand, 1) := by decide +kernel
theorem d_jdk_43_method_2_13 : decode jdk_43_method_2_code 13 = .ok (.i2c, 1) := by decide +kernel
theorem d_jdk_43_method_2_14 : decode jdk_43_method_2_code 14 = .ok (.ireturn, 1) := by decide +kernel
theorem d_jdk_52_method_83_0 : decode jdk_52_method_83_code 0 = .ok (.iload_n 1, 1) := by decide +kernel
theorem d_jdk_52_method_83_1 : decode jdk_52_method_83_code 1 = .ok (.aload_n 0, 1) := by decide +kernel
theorem d_jdk_52_method_83_2 : decode jdk_52_method_83_code 2 = .ok (.invokestatic 67, 3) := by decide +kernel
theorem d_jdk_52_method_83_5 : decode jdk_52_method_83_code 5 = .ok (.aload_n 0, 1) := by decide +kernel
theorem d_jdk_52_method_83_6 : decode jdk_52_method_83_code 6 = .ok (.iload_n 1, 1) := by decide +kernel
theorem d_jdk_52_method_83_7 : decode jdk_52_method_83_code 7 = .ok (.invokestatic 71, 3) := by decide +kernel
theorem d_jdk_52_method_83_10 : decode jdk_52_method_83_code 10 = .ok (.ireturn, 1) := by decide +kernel
theorem d_jdk_42_method_56_0 : decode jdk_42_method_56_code 0 = .ok (.aload_n 0, 1) := by decide +kernel
theorem d_jdk_42_method_56_1 : decode jdk_42_method_56_code 1 = .ok (.invokevirtual 492, 3) := by decide +kernel
theorem d_jdk_42_method_56_4 : decode jdk_42_method_56_code 4 = .ok (.ifCond .eq 12, 3) := by decide +kernel
theorem d_jdk_42_method_56_7 : decode jdk_42_method_56_code 7 = .ok (.aload_n 0, 1) := by decide +kernel
theorem d_jdk_42_method_56_8 : decode jdk_42_method_56_code 8 = .ok (.getfield 9, 3) := by decide +kernel
theorem d_jdk_42_method_56_11 : decode jdk_42_method_56_code 11 = .ok (.iload_n 1, 1) := by decide +kernel
theorem d_jdk_42_method_56_12 : decode jdk_42_method_56_code 12 = .ok (.invokestatic 495, 3) := by decide +kernel
theorem d_jdk_42_method_56_15 : decode jdk_42_method_56_code 15 = .ok (.ireturn, 1) := by decide +kernel
theorem d_jdk_42_method_56_16 : decode jdk_42_method_56_code 16 = .ok (.aload_n 0, 1) := by decide +kernel
theorem d_jdk_42_method_56_17 : decode jdk_42_method_56_code 17 = .ok (.getfield 9, 3) := by decide +kernel
theorem d_jdk_42_method_56_20 : decode jdk_42_method_56_code 20 = .ok (.iload_n 1, 1) := by decide +kernel
theorem d_jdk_42_method_56_21 : decode jdk_42_method_56_code 21 = .ok (.invokestatic 498, 3) := by decide +kernel
theorem d_jdk_42_method_56_24 : decode jdk_42_method_56_code 24 = .ok (.ireturn, 1) := by decide +kernel
theorem d_jdk_29_method_69_0 : decode jdk_29_method_69_code 0 = .ok (.iload_n 0, 1) := by decide +kernel
theorem d_jdk_29_method_69_1 : decode jdk_29_method_69_code 1 = .ok (.iload_n 1, 1) := by decide +kernel
theorem d_jdk_29_method_69_2 : decode jdk_29_method_69_code 2 = .ok (.if_icmp .gt 7, 3) := by decide +kernel
theorem d_jdk_29_method_69_9 : decode jdk_29_method_69_code 9 = .ok (.iload_n 1, 1) := by decide +kernel
theorem d_jdk_29_method_69_10 : decode jdk_29_method_69_code 10 = .ok (.ireturn, 1) := by decide +kernel
theorem d_jdk_29_method_69_5 : decode jdk_29_method_69_code 5 = .ok (.iload_n 0, 1) := by decide +kernel
theorem d_jdk_29_method_69_6 : decode jdk_29_method_69_code 6 = .ok (.goto 4, 3) := by decide +kernel
theorem d_jdk_29_method_65_0 : decode jdk_29_method_65_code 0 = .ok (.iload_n 0, 1) := by decide +kernel
theorem d_jdk_29_method_65_1 : decode jdk_29_method_65_code 1 = .ok (.iload_n 1, 1) := by decide +kernel
theorem d_jdk_29_method_65_2 : decode jdk_29_method_65_code 2 = .ok (.if_icmp .lt 7, 3) := by decide +kernel
theorem d_jdk_29_method_65_9 : decode jdk_29_method_65_code 9 = .ok (.iload_n 1, 1) := by decide +kernel
theorem d_jdk_29_method_65_10 : decode jdk_29_method_65_code 10 = .ok (.ireturn, 1) := by decide +kernel
theorem d_jdk_29_method_65_5 : decode jdk_29_method_65_code 5 = .ok (.iload_n 0, 1) := by decide +kernel
theorem d_jdk_29_method_65_6 : decode jdk_29_method_65_code 6 = .ok (.goto 4, 3) := by decide +kernel
theorem d_jdk_65_method_131_0 : decode jdk_65_method_131_code 0 = .ok (.iload_n 1, 1) := by decide +kernel
theorem d_jdk_65_method_131_1 : decode jdk_65_method_131_code 1 = .ok (.iload_n 0, 1) := by decide +kernel
theorem d_jdk_65_method_131_2 : decode jdk_65_method_131_code 2 = .ok (.if_icmp .ge 35, 3) := by decide +kernel
theorem d_jdk_65_method_131_37 : decode jdk_65_method_131_code 37 = .ok (.return_, 1) := by decide +kernel
theorem d_jdk_65_method_133_0 : decode jdk_65_method_133_code 0 = .ok (.iload_n 1, 1) := by decide +kernel
theorem d_jdk_65_method_133_1 : decode jdk_65_method_133_code 1 = .ok (.iload_n 2, 1) := by decide +kernel
theorem d_jdk_65_method_133_2 : decode jdk_65_method_133_code 2 = .ok (.invokestatic 343, 3) := by decide +kernel
theorem d_jdk_65_method_133_5 : decode jdk_65_method_133_code 5 = .ok (.iload_n 2, 1) := by decide +kernel
theorem d_jdk_65_method_133_6 : decode jdk_65_method_133_code 6 = .ok (.iload_n 1, 1) := by decide +kernel
theorem d_jdk_65_method_133_7 : decode jdk_65_method_133_code 7 = .ok (.isub, 1) := by decide +kernel
theorem d_jdk_65_method_133_8 : decode jdk_65_method_133_code 8 = .ok (.istore_n 3, 1) := by decide +kernel
theorem d_jdk_65_method_133_9 : decode jdk_65_method_133_code 9 = .ok (.iload_n 3, 1) := by decide +kernel
theorem d_jdk_65_method_133_10 : decode jdk_65_method_133_code 10 = .ok (.newarray .byte, 2) := by decide +kernel
theorem d_jdk_65_method_133_12 : decode jdk_65_method_133_code 12 = .ok (.astore 4, 2) := by decide +kernel
theorem d_jdk_65_method_133_14 : decode jdk_65_method_133_code 14 = .ok (.aload_n 0, 1) := by decide +kernel
theorem d_jdk_65_method_133_15 : decode jdk_65_method_133_code 15 = .ok (.iload_n 1, 1) := by decide +kernel
theorem d_jdk_65_method_133_16 : decode jdk_65_method_133_code 16 = .ok (.aload 4, 2) := by decide +kernel
theorem d_jdk_65_method_133_18 : decode jdk_65_method_133_code 18 = .ok (.iconst 0, 1) := by decide +kernel
theorem d_jdk_65_method_133_19 : decode jdk_65_method_133_code 19 = .ok (.aload_n 0, 1) := by decide +kernel
theorem d_jdk_65_method_133_20 : decode jdk_65_method_133_code 20 = .ok (.arraylength, 1) := by decide +kernel
theorem d_jdk_65_method_133_21 : decode jdk_65_method_133_code 21 = .ok (.iload_n 1, 1) := by decide +kernel
theorem d_jdk_65_method_133_22 : decode jdk_65_method_133_code 22 = .ok (.isub, 1) := by decide +kernel
theorem d_jdk_65_method_133_23 : decode jdk_65_method_133_code 23 = .ok (.iload_n 3, 1) := by decide +kernel
theorem d_jdk_65_method_133_24 : decode jdk_65_method_133_code 24 = .ok (.invokestatic 304, 3) := by decide +kernel
theorem d_jdk_65_method_133_27 : decode jdk_65_method_133_code 27 = .ok (.invokestatic 150, 3) := by decide +kernel
theorem d_jdk_65_method_133_30 : decode jdk_65_method_133_code 30 = .ok (.aload 4, 2) := by decide +kernel
theorem d_jdk_65_method_133_32 : decode jdk_65_method_133_code 32 = .ok (.areturn, 1) := by decide +kernel
theorem d_jdk_65_method_132_0 : decode jdk_65_method_132_code 0 = .ok (.iload_n 1, 1) := by decide +kernel
theorem d_jdk_65_method_132_1 : decode jdk_65_method_132_code 1 = .ok (.ifCond .ne 9, 3) := by decide +kernel
theorem d_jdk_65_method_132_4 : decode jdk_65_method_132_code 4 = .ok (.iload_n 2, 1) := by decide +kernel
theorem d_jdk_65_method_132_5 : decode jdk_65_method_132_code 5 = .ok (.aload_n 0, 1) := by decide +kernel
theorem d_jdk_65_method_132_6 : decode jdk_65_method_132_code 6 = .ok (.arraylength, 1) := by decide +kernel
theorem d_jdk_65_method_132_7 : decode jdk_65_method_132_code 7 = .ok (.if_icmp .eq 10, 3) := by decide +kernel
theorem d_jdk_65_method_132_10 : decode jdk_65_method_132_code 10 = .ok (.aload_n 0, 1) := by decide +kernel
theorem d_jdk_65_method_132_11 : decode jdk_65_method_132_code 11 = .ok (.iload_n 1, 1) := by decide +kernel
theorem d_jdk_65_method_132_12 : decode jdk_65_method_132_code 12 = .ok (.iload_n 2, 1) := by decide +kernel
theorem d_jdk_65_method_132_13 : decode jdk_65_method_132_code 13 = .ok (.invokestatic 339, 3) := by decide +kernel
theorem d_jdk_65_method_132_16 : decode jdk_65_method_132_code 16 = .ok (.areturn, 1) := by decide +kernel
theorem d_jdk_65_method_121_0 : decode jdk_65_method_121_code 0 = .ok (.iload_n 1, 1) := by decide +kernel
theorem d_jdk_65_method_121_1 : decode jdk_65_method_121_code 1 = .ok (.aload_n 0, 1) := by decide +kernel
theorem d_jdk_65_method_121_2 : decode jdk_65_method_121_code 2 = .ok (.arraylength, 1) := by decide +kernel
theorem d_jdk_65_method_121_3 : decode jdk_65_method_121_code 3 = .ok (.if_icmp .ne 11, 3) := by decide +kernel
theorem d_jdk_65_method_121_14 : decode jdk_65_method_121_code 14 = .ok (.iload_n 1, 1) := by decide +kernel
theorem d_jdk_65_method_121_15 : decode jdk_65_method_121_code 15 = .ok (.newarray .byte, 2) := by decide +kernel
theorem d_jdk_65_method_121_17 : decode jdk_65_method_121_code 17 = .ok (.astore_n 2, 1) := by decide +kernel
theorem d_jdk_65_method_121_18 : decode jdk_65_method_121_code 18 = .ok (.aload_n 0, 1) := by decide +kernel
theorem d_jdk_65_method_121_19 : decode jdk_65_method_121_code 19 = .ok (.iconst 0, 1) := by decide +kernel
theorem d_jdk_65_method_121_20 : decode jdk_65_method_121_code 20 = .ok (.aload_n 2, 1) := by decide +kernel
theorem d_jdk_65_method_121_21 : decode jdk_65_method_121_code 21 = .ok (.iconst 0, 1) := by decide +kernel
theorem d_jdk_65_method_121_22 : decode jdk_65_method_121_code 22 = .ok (.aload_n 0, 1) := by decide +kernel
theorem d_jdk_65_method_121_23 : decode jdk_65_method_121_code 23 = .ok (.arraylength, 1) := by decide +kernel
theorem d_jdk_65_method_121_24 : decode jdk_65_method_121_code 24 = .ok (.iload_n 1, 1) := by decide +kernel
theorem d_jdk_65_method_121_25 : decode jdk_65_method_121_code 25 = .ok (.invokestatic 304, 3) := by decide +kernel
theorem d_jdk_65_method_121_28 : decode jdk_65_method_121_code 28 = .ok (.invokestatic 150, 3) := by decide +kernel
theorem d_jdk_65_method_121_31 : decode jdk_65_method_121_code 31 = .ok (.aload_n 2, 1) := by decide +kernel
theorem d_jdk_65_method_121_32 : decode jdk_65_method_121_code 32 = .ok (.areturn, 1) := by decide +kernel
theorem d_jdk_42_method_151_0 : decode jdk_42_method_151_code 0 = .ok (.aload_n 0, 1) := by decide +kernel
theorem d_jdk_42_method_151_1 : decode jdk_42_method_151_code 1 = .ok (.invokespecial 1, 3) := by decide +kernel
theorem d_jdk_42_method_151_4 : decode jdk_42_method_151_code 4 = .ok (.aload_n 0, 1) := by decide +kernel
theorem d_jdk_42_method_151_5 : decode jdk_42_method_151_code 5 = .ok (.aload_n 1, 1) := by decide +kernel
theorem d_jdk_42_method_151_6 : decode jdk_42_method_151_code 6 = .ok (.putfield 9, 3) := by decide +kernel
theorem d_jdk_42_method_151_9 : decode jdk_42_method_151_code 9 = .ok (.aload_n 0, 1) := by decide +kernel
theorem d_jdk_42_method_151_10 : decode jdk_42_method_151_code 10 = .ok (.iload_n 2, 1) := by decide +kernel
theorem d_jdk_42_method_151_11 : decode jdk_42_method_151_code 11 = .ok (.putfield 15, 3) := by decide +kernel
theorem d_jdk_42_method_151_14 : decode jdk_42_method_151_code 14 = .ok (.return_, 1) := by decide +kernel
theorem d_jdk_43_method_47_0 : decode jdk_43_method_47_code 0 = .ok (.iload_n 2, 1) := by decide +kernel
theorem d_jdk_43_method_47_1 : decode jdk_43_method_47_code 1 = .ok (.ifCond .ne 6, 3) := by decide +kernel
theorem d_jdk_43_method_47_7 : decode jdk_43_method_47_code 7 = .ok (.new 1, 3) := by decide +kernel
theorem d_jdk_43_method_47_10 : decode jdk_43_method_47_code 10 = .ok (.dup, 1) := by decide +kernel
theorem d_jdk_43_method_47_11 : decode jdk_43_method_47_code 11 = .ok (.aload_n 0, 1) := by decide +kernel
theorem d_jdk_43_method_47_12 : decode jdk_43_method_47_code 12 = .ok (.iload_n 1, 1) := by decide +kernel
theorem d_jdk_43_method_47_13 : decode jdk_43_method_47_code 13 = .ok (.iload_n 1, 1) := by decide +kernel
theorem d_jdk_43_method_47_14 : decode jdk_43_method_47_code 14 = .ok (.iload_n 2, 1) := by decide +kernel
theorem d_jdk_43_method_47_15 : decode jdk_43_method_47_code 15 = .ok (.iadd, 1) := by decide +kernel
theorem d_jdk_43_method_47_16 : decode jdk_43_method_47_code 16 = .ok (.invokestatic 232, 3) := by decide +kernel
theorem d_jdk_43_method_47_19 : decode jdk_43_method_47_code 19 = .ok (.iconst 0, 1) := by decide +kernel
theorem d_jdk_43_method_47_20 : decode jdk_43_method_47_code 20 = .ok (.invokespecial 112, 3) := by decide +kernel
theorem d_jdk_43_method_47_23 : decode jdk_43_method_47_code 23 = .ok (.areturn, 1) := by decide +kernel
theorem d_jdk_52_method_22_0 : decode jdk_52_method_22_code 0 = .ok (.iload_n 1, 1) := by decide +kernel
theorem d_jdk_52_method_22_1 : decode jdk_52_method_22_code 1 = .ok (.iload 4, 2) := by decide +kernel
theorem d_jdk_52_method_22_3 : decode jdk_52_method_22_code 3 = .ok (.aload_n 0, 1) := by decide +kernel
theorem d_jdk_52_method_22_4 : decode jdk_52_method_22_code 4 = .ok (.invokestatic 173, 3) := by decide +kernel
theorem d_jdk_52_method_22_7 : decode jdk_52_method_22_code 7 = .ok (.iconst 0, 1) := by decide +kernel
theorem d_jdk_52_method_22_8 : decode jdk_52_method_22_code 8 = .ok (.istore 5, 2) := by decide +kernel
theorem d_jdk_52_method_22_10 : decode jdk_52_method_22_code 10 = .ok (.iload 5, 2) := by decide +kernel
theorem d_jdk_52_method_22_12 : decode jdk_52_method_22_code 12 = .ok (.iload 4, 2) := by decide +kernel
theorem d_jdk_52_method_22_14 : decode jdk_52_method_22_code 14 = .ok (.if_icmp .ge 39, 3) := by decide +kernel
theorem d_jdk_52_method_22_53 : decode jdk_52_method_22_code 53 = .ok (.iload 4, 2) := by decide +kernel
theorem d_jdk_52_method_22_55 : decode jdk_52_method_22_code 55 = .ok (.ireturn, 1) := by decide +kernel
theorem d_jdk_52_method_22_17 : decode jdk_52_method_22_code 17 = .ok (.aload_n 0, 1) := by decide +kernel
theorem d_jdk_52_method_22_18 : decode jdk_52_method_22_code 18 = .ok (.iload_n 1, 1) := by decide +kernel
theorem d_jdk_52_method_22_19 : decode jdk_52_method_22_code 19 = .ok (.invokestatic 71, 3) := by decide +kernel
theorem d_jdk_52_method_22_22 : decode jdk_52_method_22_code 22 = .ok (.istore 6, 2) := by decide +kernel
theorem d_jdk_52_method_22_24 : decode jdk_52_method_22_code 24 = .ok (.iload 6, 2) := by decide +kernel
theorem d_jdk_52_method_22_26 : decode jdk_52_method_22_code 26 = .ok (.sipush 255, 3) := by decide +kernel
theorem d_jdk_52_method_22_29 : decode jdk_52_method_22_code 29 = .ok (.if_icmp .le 6, 3) := by decide +kernel
theorem d_jdk_52_method_22_32 : decode jdk_52_method_22_code 32 = .ok (.iload 5, 2) := by decide +kernel
theorem d_jdk_52_method_22_34 : decode jdk_52_method_22_code 34 = .ok (.ireturn, 1) := by decide +kernel
theorem d_jdk_52_method_22_35 : decode jdk_52_method_22_code 35 = .ok (.aload_n 2, 1) := by decide +kernel
theorem d_jdk_52_method_22_36 : decode jdk_52_method_22_code 36 = .ok (.iload_n 3, 1) := by decide +kernel
theorem d_jdk_52_method_22_37 : decode jdk_52_method_22_code 37 = .ok (.iload 6, 2) := by decide +kernel
theorem d_jdk_52_method_22_39 : decode jdk_52_method_22_code 39 = .ok (.i2b, 1) := by decide +kernel
theorem d_jdk_52_method_22_40 : decode jdk_52_method_22_code 40 = .ok (.bastore, 1) := by decide +kernel
theorem d_jdk_52_method_22_41 : decode jdk_52_method_22_code 41 = .ok (.iinc 1 1, 3) := by decide +kernel
theorem d_jdk_52_method_22_44 : decode jdk_52_method_22_code 44 = .ok (.iinc 3 1, 3) := by decide +kernel
theorem d_jdk_52_method_22_47 : decode jdk_52_method_22_code 47 = .ok (.iinc 5 1, 3) := by decide +kernel
theorem d_jdk_52_method_22_50 : decode jdk_52_method_22_code 50 = .ok (.goto (-40), 3) := by decide +kernel
theorem d_jdk_52_method_17_0 : decode jdk_52_method_17_code 0 = .ok (.iload_n 2, 1) := by decide +kernel
theorem d_jdk_52_method_17_1 : decode jdk_52_method_17_code 1 = .ok (.newarray .byte, 2) := by decide +kernel
theorem d_jdk_52_method_17_3 : decode jdk_52_method_17_code 3 = .ok (.astore_n 3, 1) := by decide +kernel
theorem d_jdk_52_method_17_4 : decode jdk_52_method_17_code 4 = .ok (.aload_n 0, 1) := by decide +kernel
theorem d_jdk_52_method_17_5 : decode jdk_52_method_17_code 5 = .ok (.iload_n 1, 1) := by decide +kernel
theorem d_jdk_52_method_17_6 : decode jdk_52_method_17_code 6 = .ok (.aload_n 3, 1) := by decide +kernel
theorem d_jdk_52_method_17_7 : decode jdk_52_method_17_code 7 = .ok (.iconst 0, 1) := by decide +kernel
theorem d_jdk_52_method_17_8 : decode jdk_52_method_17_code 8 = .ok (.iload_n 2, 1) := by decide +kernel
theorem d_jdk_52_method_17_9 : decode jdk_52_method_17_code 9 = .ok (.invokestatic 123, 3) := by decide +kernel
theorem d_jdk_52_method_17_12 : decode jdk_52_method_17_code 12 = .ok (.istore 4, 2) := by decide +kernel
theorem d_jdk_52_method_17_14 : decode jdk_52_method_17_code 14 = .ok (.iload 4, 2) := by decide +kernel
theorem d_jdk_52_method_17_16 : decode jdk_52_method_17_code 16 = .ok (.iload_n 2, 1) := by decide +kernel
theorem d_jdk_52_method_17_17 : decode jdk_52_method_17_code 17 = .ok (.if_icmp .eq 47, 3) := by decide +kernel
theorem d_jdk_52_method_17_64 : decode jdk_52_method_17_code 64 = .ok (.aload_n 3, 1) := by decide +kernel
theorem d_jdk_52_method_17_65 : decode jdk_52_method_17_code 65 = .ok (.areturn, 1) := by decide +kernel
theorem d_jdk_52_method_17_20 : decode jdk_52_method_17_code 20 = .ok (.aload_n 0, 1) := by decide +kernel
theorem d_jdk_52_method_17_21 : decode jdk_52_method_17_code 21 = .ok (.iload_n 1, 1) := by decide +kernel
theorem d_jdk_52_method_17_22 : decode jdk_52_method_17_code 22 = .ok (.iconst 1, 1) := by decide +kernel
theorem d_jdk_52_method_17_23 : decode jdk_52_method_17_code 23 = .ok (.ishl, 1) := by decide +kernel
theorem d_jdk_52_method_17_24 : decode jdk_52_method_17_code 24 = .ok (.iload_n 1, 1) := by decide +kernel
theorem d_jdk_52_method_17_25 : decode jdk_52_method_17_code 25 = .ok (.iload_n 2, 1) := by decide +kernel
theorem d_jdk_52_method_17_26 : decode jdk_52_method_17_code 26 = .ok (.iadd, 1) := by decide +kernel
theorem d_jdk_52_method_17_27 : decode jdk_52_method_17_code 27 = .ok (.invokestatic 11, 3) := by decide +kernel
theorem d_jdk_52_method_17_30 : decode jdk_52_method_17_code 30 = .ok (.invokestatic 126, 3) := by decide +kernel
theorem d_jdk_52_method_17_33 : decode jdk_52_method_17_code 33 = .ok (.astore 5, 2) := by decide +kernel
theorem d_jdk_52_method_17_35 : decode jdk_52_method_17_code 35 = .ok (.aload 5, 2) := by decide +kernel
theorem d_jdk_52_method_17_37 : decode jdk_52_method_17_code 37 = .ok (.iload 4, 2) := by decide +kernel
theorem d_jdk_52_method_17_39 : decode jdk_52_method_17_code 39 = .ok (.invokestatic 71, 3) := by decide +kernel
theorem d_jdk_52_method_17_42 : decode jdk_52_method_17_code 42 = .ok (.sipush 255, 3) := by decide +kernel
theorem d_jdk_52_method_17_45 : decode jdk_52_method_17_code 45 = .ok (.if_icmp .gt 16, 3) := by decide +kernel
theorem d_jdk_52_method_17_61 : decode jdk_52_method_17_code 61 = .ok (.aload 5, 2) := by decide +kernel
theorem d_jdk_52_method_17_63 : decode jdk_52_method_17_code 63 = .ok (.areturn, 1) := by decide +kernel
theorem d_jdk_52_method_69_0 : decode jdk_52_method_69_code 0 = .ok (.iload_n 2, 1) := by decide +kernel
theorem d_jdk_52_method_69_1 : decode jdk_52_method_69_code 1 = .ok (.ifCond .ne 7, 3) := by decide +kernel
theorem d_jdk_52_method_69_8 : decode jdk_52_method_69_code 8 = .ok (.getstatic 251, 3) := by decide +kernel
theorem d_jdk_52_method_69_11 : decode jdk_52_method_69_code 11 = .ok (.ifCond .eq 28, 3) := by decide +kernel
theorem d_jdk_52_method_69_14 : decode jdk_52_method_69_code 14 = .ok (.aload_n 0, 1) := by decide +kernel
theorem d_jdk_52_method_69_15 : decode jdk_52_method_69_code 15 = .ok (.iload_n 1, 1) := by decide +kernel
theorem d_jdk_52_method_69_16 : decode jdk_52_method_69_code 16 = .ok (.iload_n 2, 1) := by decide +kernel
theorem d_jdk_52_method_69_17 : decode jdk_52_method_69_code 17 = .ok (.invokestatic 257, 3) := by decide +kernel
theorem d_jdk_52_method_69_20 : decode jdk_52_method_69_code 20 = .ok (.astore_n 3, 1) := by decide +kernel
theorem d_jdk_52_method_69_21 : decode jdk_52_method_69_code 21 = .ok (.aload_n 3, 1) := by decide +kernel
theorem d_jdk_52_method_69_22 : decode jdk_52_method_69_code 22 = .ok (.iload_n 2, 1) := by decide +kernel
theorem d_jdk_52_method_69_23 : decode jdk_52_method_69_code 23 = .ok (.invokestatic 259, 3) := by decide +kernel
theorem d_jdk_52_method_69_26 : decode jdk_52_method_69_code 26 = .ok (.istore 4, 2) := by decide +kernel
theorem d_jdk_52_method_69_28 : decode jdk_52_method_69_code 28 = .ok (.new 3, 3) := by decide +kernel
theorem d_jdk_52_method_69_31 : decode jdk_52_method_69_code 31 = .ok (.dup, 1) := by decide +kernel
theorem d_jdk_52_method_69_32 : decode jdk_52_method_69_code 32 = .ok (.aload_n 3, 1) := by decide +kernel
theorem d_jdk_52_method_69_33 : decode jdk_52_method_69_code 33 = .ok (.iload 4, 2) := by decide +kernel
theorem d_jdk_52_method_69_35 : decode jdk_52_method_69_code 35 = .ok (.invokespecial 263, 3) := by decide +kernel
theorem d_jdk_52_method_69_38 : decode jdk_52_method_69_code 38 = .ok (.areturn, 1) := by decide +kernel
theorem d_jdk_42_method_92_0 : decode jdk_42_method_92_code 0 = .ok (.aload_n 0, 1) := by decide +kernel
theorem d_jdk_42_method_92_1 : decode jdk_42_method_92_code 1 = .ok (.invokevirtual 505, 3) := by decide +kernel
theorem d_jdk_42_method_92_4 : decode jdk_42_method_92_code 4 = .ok (.istore_n 3, 1) := by decide +kernel
theorem d_jdk_42_method_92_5 : decode jdk_42_method_92_code 5 = .ok (.iload_n 1, 1) := by decide +kernel
theorem d_jdk_42_method_92_6 : decode jdk_42_method_92_code 6 = .ok (.iload_n 2, 1) := by decide +kernel
theorem d_jdk_42_method_92_7 : decode jdk_42_method_92_code 7 = .ok (.iload_n 3, 1) := by decide +kernel
theorem d_jdk_42_method_92_8 : decode jdk_42_method_92_code 8 = .ok (.invokestatic 521, 3) := by decide +kernel
theorem d_jdk_42_method_92_11 : decode jdk_42_method_92_code 11 = .ok (.iload_n 1, 1) := by decide +kernel
theorem d_jdk_42_method_92_12 : decode jdk_42_method_92_code 12 = .ok (.ifCond .ne 10, 3) := by decide +kernel
theorem d_jdk_42_method_92_15 : decode jdk_42_method_92_code 15 = .ok (.iload_n 2, 1) := by decide +kernel
theorem d_jdk_42_method_92_16 : decode jdk_42_method_92_code 16 = .ok (.iload_n 3, 1) := by decide +kernel
theorem d_jdk_42_method_92_17 : decode jdk_42_method_92_code 17 = .ok (.if_icmp .ne 5, 3) := by decide +kernel
theorem d_jdk_42_method_92_22 : decode jdk_42_method_92_code 22 = .ok (.iload_n 2, 1) := by decide +kernel
theorem d_jdk_42_method_92_23 : decode jdk_42_method_92_code 23 = .ok (.iload_n 1, 1) := by decide +kernel
theorem d_jdk_42_method_92_24 : decode jdk_42_method_92_code 24 = .ok (.isub, 1) := by decide +kernel
theorem d_jdk_42_method_92_25 : decode jdk_42_method_92_code 25 = .ok (.istore 4, 2) := by decide +kernel
theorem d_jdk_42_method_92_27 : decode jdk_42_method_92_code 27 = .ok (.aload_n 0, 1) := by decide +kernel
theorem d_jdk_42_method_92_28 : decode jdk_42_method_92_code 28 = .ok (.invokevirtual 492, 3) := by decide +kernel
theorem d_jdk_42_method_92_31 : decode jdk_42_method_92_code 31 = .ok (.ifCond .eq 16, 3) := by decide +kernel
theorem d_jdk_42_method_92_34 : decode jdk_42_method_92_code 34 = .ok (.aload_n 0, 1) := by decide +kernel
theorem d_jdk_42_method_92_35 : decode jdk_42_method_92_code 35 = .ok (.getfield 9, 3) := by decide +kernel
theorem d_jdk_42_method_92_38 : decode jdk_42_method_92_code 38 = .ok (.iload_n 1, 1) := by decide +kernel
theorem d_jdk_42_method_92_39 : decode jdk_42_method_92_code 39 = .ok (.iload 4, 2) := by decide +kernel
theorem d_jdk_42_method_92_41 : decode jdk_42_method_92_code 41 = .ok (.invokestatic 685, 3) := by decide +kernel
theorem d_jdk_42_method_92_44 : decode jdk_42_method_92_code 44 = .ok (.goto 13, 3) := by decide +kernel
theorem d_jdk_42_method_92_57 : decode jdk_42_method_92_code 57 = .ok (.areturn, 1) := by decide +kernel
theorem d_jdk_42_method_92_47 : decode jdk_42_method_92_code 47 = .ok (.aload_n 0, 1) := by decide +kernel
theorem d_jdk_42_method_92_48 : decode jdk_42_method_92_code 48 = .ok (.getfield 9, 3) := by decide +kernel
theorem d_jdk_42_method_92_51 : decode jdk_42_method_92_code 51 = .ok (.iload_n 1, 1) := by decide +kernel
theorem d_jdk_42_method_92_52 : decode jdk_42_method_92_code 52 = .ok (.iload 4, 2) := by decide +kernel
theorem d_jdk_42_method_92_54 : decode jdk_42_method_92_code 54 = .ok (.invokestatic 689, 3) := by decide +kernel
theorem d_jdk_48_method_27_0 : decode jdk_48_method_27_code 0 = .ok (.iload_n 0, 1) := by decide +kernel
theorem d_jdk_48_method_27_1 : decode jdk_48_method_27_code 1 = .ok (.iload_n 1, 1) := by decide +kernel
theorem d_jdk_48_method_27_2 : decode jdk_48_method_27_code 2 = .ok (.iload_n 2, 1) := by decide +kernel
theorem d_jdk_48_method_27_3 : decode jdk_48_method_27_code 3 = .ok (.invokestatic 194, 3) := by decide +kernel
theorem d_jdk_48_method_27_6 : decode jdk_48_method_27_code 6 = .ok (.iadd, 1) := by decide +kernel
theorem d_jdk_48_method_27_7 : decode jdk_48_method_27_code 7 = .ok (.istore_n 3, 1) := by decide +kernel
theorem d_jdk_48_method_27_8 : decode jdk_48_method_27_code 8 = .ok (.iconst 0, 1) := by decide +kernel
theorem d_jdk_48_method_27_9 : decode jdk_48_method_27_code 9 = .ok (.iload_n 3, 1) := by decide +kernel
theorem d_jdk_48_method_27_10 : decode jdk_48_method_27_code 10 = .ok (.if_icmp .ge 11, 3) := by decide +kernel
theorem d_jdk_48_method_27_13 : decode jdk_48_method_27_code 13 = .ok (.iload_n 3, 1) := by decide +kernel
theorem d_jdk_48_method_27_14 : decode jdk_48_method_27_code 14 = .ok (.ldc 200, 2) := by decide +kernel
theorem d_jdk_48_method_27_16 : decode jdk_48_method_27_code 16 = .ok (.if_icmp .gt 5, 3) := by decide +kernel
theorem d_jdk_48_method_27_19 : decode jdk_48_method_27_code 19 = .ok (.iload_n 3, 1) := by decide +kernel
theorem d_jdk_48_method_27_20 : decode jdk_48_method_27_code 20 = .ok (.ireturn, 1) := by decide +kernel
theorem d_jdk_68_method_10_0 : decode jdk_68_method_10_code 0 = .ok (.aload_n 0, 1) := by decide +kernel
theorem d_jdk_68_method_10_1 : decode jdk_68_method_10_code 1 = .ok (.getfield 15, 3) := by decide +kernel
theorem d_jdk_68_method_10_4 : decode jdk_68_method_10_code 4 = .ok (.arraylength, 1) := by decide +kernel
theorem d_jdk_68_method_10_5 : decode jdk_68_method_10_code 5 = .ok (.istore_n 2, 1) := by decide +kernel
theorem d_jdk_68_method_10_6 : decode jdk_68_method_10_code 6 = .ok (.iload_n 1, 1) := by decide +kernel
theorem d_jdk_68_method_10_7 : decode jdk_68_method_10_code 7 = .ok (.aload_n 0, 1) := by decide +kernel
theorem d_jdk_68_method_10_8 : decode jdk_68_method_10_code 8 = .ok (.getfield 22, 3) := by decide +kernel
theorem d_jdk_68_method_10_11 : decode jdk_68_method_10_code 11 = .ok (.ishl, 1) := by decide +kernel
theorem d_jdk_68_method_10_12 : decode jdk_68_method_10_code 12 = .ok (.istore_n 3, 1) := by decide +kernel
theorem d_jdk_68_method_10_13 : decode jdk_68_method_10_code 13 = .ok (.iload_n 3, 1) := by decide +kernel
theorem d_jdk_68_method_10_14 : decode jdk_68_method_10_code 14 = .ok (.iload_n 2, 1) := by decide +kernel
theorem d_jdk_68_method_10_15 : decode jdk_68_method_10_code 15 = .ok (.isub, 1) := by decide +kernel
theorem d_jdk_68_method_10_16 : decode jdk_68_method_10_code 16 = .ok (.istore 4, 2) := by decide +kernel
theorem d_jdk_68_method_10_18 : decode jdk_68_method_10_code 18 = .ok (.iload_n 2, 1) := by decide +kernel
theorem d_jdk_68_method_10_19 : decode jdk_68_method_10_code 19 = .ok (.iload 4, 2) := by decide +kernel
theorem d_jdk_68_method_10_21 : decode jdk_68_method_10_code 21 = .ok (.iload_n 2, 1) := by decide +kernel
theorem d_jdk_68_method_10_22 : decode jdk_68_method_10_code 22 = .ok (.iconst 2, 1) := by decide +kernel
theorem d_jdk_68_method_10_23 : decode jdk_68_method_10_code 23 = .ok (.aload_n 0, 1) := by decide +kernel
theorem d_jdk_68_method_10_24 : decode jdk_68_method_10_code 24 = .ok (.getfield 22, 3) := by decide +kernel
theorem d_jdk_68_method_10_27 : decode jdk_68_method_10_code 27 = .ok (.ishl, 1) := by decide +kernel
theorem d_jdk_68_method_10_28 : decode jdk_68_method_10_code 28 = .ok (.iadd, 1) := by decide +kernel
theorem d_jdk_68_method_10_29 : decode jdk_68_method_10_code 29 = .ok (.invokestatic 114, 3) := by decide +kernel
theorem d_jdk_68_method_10_32 : decode jdk_68_method_10_code 32 = .ok (.istore 5, 2) := by decide +kernel
theorem d_jdk_68_method_10_34 : decode jdk_68_method_10_code 34 = .ok (.iload 5, 2) := by decide +kernel
theorem d_jdk_68_method_10_36 : decode jdk_68_method_10_code 36 = .ok (.ldc 39, 2) := by decide +kernel
theorem d_jdk_68_method_10_38 : decode jdk_68_method_10_code 38 = .ok (.if_icmp .ne 13, 3) := by decide +kernel
theorem d_jdk_68_method_10_51 : decode jdk_68_method_10_code 51 = .ok (.iload 5, 2) := by decide +kernel
theorem d_jdk_68_method_10_53 : decode jdk_68_method_10_code 53 = .ok (.aload_n 0, 1) := by decide +kernel
theorem d_jdk_68_method_10_54 : decode jdk_68_method_10_code 54 = .ok (.getfield 22, 3) := by decide +kernel
theorem d_jdk_68_method_10_57 : decode jdk_68_method_10_code 57 = .ok (.ishr, 1) := by decide +kernel
theorem d_jdk_68_method_10_58 : decode jdk_68_method_10_code 58 = .ok (.ireturn, 1) := by decide +kernel
theorem d_jdk_68_method_9_0 : decode jdk_68_method_9_code 0 = .ok (.aload_n 0, 1) := by decide +kernel
theorem d_jdk_68_method_9_1 : decode jdk_68_method_9_code 1 = .ok (.getfield 15, 3) := by decide +kernel
theorem d_jdk_68_method_9_4 : decode jdk_68_method_9_code 4 = .ok (.arraylength, 1) := by decide +kernel
theorem d_jdk_68_method_9_5 : decode jdk_68_method_9_code 5 = .ok (.aload_n 0, 1) := by decide +kernel
theorem d_jdk_68_method_9_6 : decode jdk_68_method_9_code 6 = .ok (.getfield 22, 3) := by decide +kernel
theorem d_jdk_68_method_9_9 : decode jdk_68_method_9_code 9 = .ok (.ishr, 1) := by decide +kernel
theorem d_jdk_68_method_9_10 : decode jdk_68_method_9_code 10 = .ok (.istore_n 2, 1) := by decide +kernel
theorem d_jdk_68_method_9_11 : decode jdk_68_method_9_code 11 = .ok (.iload_n 1, 1) := by decide +kernel
theorem d_jdk_68_method_9_12 : decode jdk_68_method_9_code 12 = .ok (.iload_n 2, 1) := by decide +kernel
theorem d_jdk_68_method_9_13 : decode jdk_68_method_9_code 13 = .ok (.isub, 1) := by decide +kernel
theorem d_jdk_68_method_9_14 : decode jdk_68_method_9_code 14 = .ok (.ifCond .le 24, 3) := by decide +kernel
theorem d_jdk_68_method_9_38 : decode jdk_68_method_9_code 38 = .ok (.return_, 1) := by decide +kernel
theorem d_jdk_68_method_9_17 : decode jdk_68_method_9_code 17 = .ok (.aload_n 0, 1) := by decide +kernel
theorem d_jdk_68_method_9_18 : decode jdk_68_method_9_code 18 = .ok (.aload_n 0, 1) := by decide +kernel
theorem d_jdk_68_method_9_19 : decode jdk_68_method_9_code 19 = .ok (.getfield 15, 3) := by decide +kernel
theorem d_jdk_68_method_9_22 : decode jdk_68_method_9_code 22 = .ok (.aload_n 0, 1) := by decide +kernel
theorem d_jdk_68_method_9_23 : decode jdk_68_method_9_code 23 = .ok (.iload_n 1, 1) := by decide +kernel
theorem d_jdk_68_method_9_24 : decode jdk_68_method_9_code 24 = .ok (.invokevirtual 104, 3) := by decide +kernel
theorem d_jdk_68_method_9_27 : decode jdk_68_method_9_code 27 = .ok (.aload_n 0, 1) := by decide +kernel
theorem d_jdk_68_method_9_28 : decode jdk_68_method_9_code 28 = .ok (.getfield 22, 3) := by decide +kernel
theorem d_jdk_68_method_9_31 : decode jdk_68_method_9_code 31 = .ok (.ishl, 1) := by decide +kernel
theorem d_jdk_68_method_9_32 : decode jdk_68_method_9_code 32 = .ok (.invokestatic 108, 3) := by decide +kernel
theorem d_jdk_68_method_9_35 : decode jdk_68_method_9_code 35 = .ok (.putfield 15, 3) := by decide +kernel
theorem d_jdk_52_method_86_0 : decode jdk_52_method_86_code 0 = .ok (.iload_n 3, 1) := by decide +kernel
theorem d_jdk_52_method_86_1 : decode jdk_52_method_86_code 1 = .ok (.iload 4, 2) := by decide +kernel
theorem d_jdk_52_method_86_3 : decode jdk_52_method_86_code 3 = .ok (.aload_n 2, 1) := by decide +kernel
theorem d_jdk_52_method_86_4 : decode jdk_52_method_86_code 4 = .ok (.invokestatic 173, 3) := by decide +kernel
theorem d_jdk_52_method_86_7 : decode jdk_52_method_86_code 7 = .ok (.iconst 0, 1) := by decide +kernel
theorem d_jdk_52_method_86_8 : decode jdk_52_method_86_code 8 = .ok (.istore 5, 2) := by decide +kernel
theorem d_jdk_52_method_86_10 : decode jdk_52_method_86_code 10 = .ok (.iload 5, 2) := by decide +kernel
theorem d_jdk_52_method_86_12 : decode jdk_52_method_86_code 12 = .ok (.iload 4, 2) := by decide +kernel
theorem d_jdk_52_method_86_14 : decode jdk_52_method_86_code 14 = .ok (.if_icmp .ge 27, 3) := by decide +kernel
theorem d_jdk_52_method_86_41 : decode jdk_52_method_86_code 41 = .ok (.return_, 1) := by decide +kernel
theorem d_jdk_52_method_86_17 : decode jdk_52_method_86_code 17 = .ok (.aload_n 2, 1) := by decide +kernel
theorem d_jdk_52_method_86_18 : decode jdk_52_method_86_code 18 = .ok (.iload_n 3, 1) := by decide +kernel
theorem d_jdk_52_method_86_19 : decode jdk_52_method_86_code 19 = .ok (.iinc 3 1, 3) := by decide +kernel
theorem d_jdk_52_method_86_22 : decode jdk_52_method_86_code 22 = .ok (.aload_n 0, 1) := by decide +kernel
theorem d_jdk_52_method_86_23 : decode jdk_52_method_86_code 23 = .ok (.iload_n 1, 1) := by decide +kernel
theorem d_jdk_52_method_86_24 : decode jdk_52_method_86_code 24 = .ok (.iinc 1 1, 3) := by decide +kernel
theorem d_jdk_52_method_86_27 : decode jdk_52_method_86_code 27 = .ok (.baload, 1) := by decide +kernel
theorem d_jdk_52_method_86_28 : decode jdk_52_method_86_code 28 = .ok (.sipush 255, 3) := by decide +kernel
theorem d_jdk_52_method_86_31 : decode jdk_52_method_86_code 31 = .ok (.iand, 1) := by decide +kernel
theorem d_jdk_52_method_86_32 : decode jdk_52_method_86_code 32 = .ok (.invokestatic 111, 3) := by decide +kernel
theorem d_jdk_52_method_86_35 : decode jdk_52_method_86_code 35 = .ok (.iinc 5 1, 3) := by decide +kernel
theorem d_jdk_52_method_86_38 : decode jdk_52_method_86_code 38 = .ok (.goto (-28), 3) := by decide +kernel
theorem d_jdk_43_method_50_0 : decode jdk_43_method_50_code 0 = .ok (.aload_n 0, 1) := by decide +kernel
theorem d_jdk_43_method_50_1 : decode jdk_43_method_50_code 1 = .ok (.iload_n 1, 1) := by decide +kernel
theorem d_jdk_43_method_50_2 : decode jdk_43_method_50_code 2 = .ok (.aload_n 2, 1) := by decide +kernel
theorem d_jdk_43_method_50_3 : decode jdk_43_method_50_code 3 = .ok (.iload_n 3, 1) := by decide +kernel
theorem d_jdk_43_method_50_4 : decode jdk_43_method_50_code 4 = .ok (.iload 4, 2) := by decide +kernel
theorem d_jdk_43_method_50_6 : decode jdk_43_method_50_code 6 = .ok (.invokestatic 240, 3) := by decide +kernel
theorem d_jdk_43_method_50_9 : decode jdk_43_method_50_code 9 = .ok (.return_, 1) := by decide +kernel
theorem d_jdk_68_method_68_0 : decode jdk_68_method_68_code 0 = .ok (.getstatic 18, 3) := by decide +kernel
theorem d_jdk_68_method_68_3 : decode jdk_68_method_68_code 3 = .ok (.ifCond .eq 14, 3) := by decide +kernel
theorem d_jdk_68_method_68_6 : decode jdk_68_method_68_code 6 = .ok (.aload_n 0, 1) := by decide +kernel
theorem d_jdk_68_method_68_7 : decode jdk_68_method_68_code 7 = .ok (.getfield 22, 3) := by decide +kernel
theorem d_jdk_68_method_68_10 : decode jdk_68_method_68_code 10 = .ok (.ifCond .ne 7, 3) := by decide +kernel
theorem d_jdk_68_method_68_13 : decode jdk_68_method_68_code 13 = .ok (.iconst 1, 1) := by decide +kernel
theorem d_jdk_68_method_68_14 : decode jdk_68_method_68_code 14 = .ok (.goto 4, 3) := by decide +kernel
theorem d_jdk_68_method_68_18 : decode jdk_68_method_68_code 18 = .ok (.ireturn, 1) := by decide +kernel
theorem d_jdk_68_method_68_17 : decode jdk_68_method_68_code 17 = .ok (.iconst 0, 1) := by decide +kernel
theorem d_jdk_68_method_11_0 : decode jdk_68_method_11_code 0 = .ok (.aload_n 0, 1) := by decide +kernel
theorem d_jdk_68_method_11_1 : decode jdk_68_method_11_code 1 = .ok (.invokevirtual 83, 3) := by decide +kernel
theorem d_jdk_68_method_11_4 : decode jdk_68_method_11_code 4 = .ok (.ifCond .ne 4, 3) := by decide +kernel
theorem d_jdk_68_method_11_8 : decode jdk_68_method_11_code 8 = .ok (.aload_n 0, 1) := by decide +kernel
theorem d_jdk_68_method_11_9 : decode jdk_68_method_11_code 9 = .ok (.getfield 15, 3) := by decide +kernel
theorem d_jdk_68_method_11_12 : decode jdk_68_method_11_code 12 = .ok (.arraylength, 1) := by decide +kernel
theorem d_jdk_68_method_11_13 : decode jdk_68_method_11_code 13 = .ok (.invokestatic 26, 3) := by decide +kernel
theorem d_jdk_68_method_11_16 : decode jdk_68_method_11_code 16 = .ok (.astore_n 1, 1) := by decide +kernel
theorem d_jdk_68_method_11_17 : decode jdk_68_method_11_code 17 = .ok (.aload_n 0, 1) := by decide +kernel
theorem d_jdk_68_method_11_18 : decode jdk_68_method_11_code 18 = .ok (.getfield 15, 3) := by decide +kernel
theorem d_jdk_68_method_11_21 : decode jdk_68_method_11_code 21 = .ok (.iconst 0, 1) := by decide +kernel
theorem d_jdk_68_method_11_22 : decode jdk_68_method_11_code 22 = .ok (.aload_n 1, 1) := by decide +kernel
theorem d_jdk_68_method_11_23 : decode jdk_68_method_11_code 23 = .ok (.iconst 0, 1) := by decide +kernel
theorem d_jdk_68_method_11_24 : decode jdk_68_method_11_code 24 = .ok (.aload_n 0, 1) := by decide +kernel
theorem d_jdk_68_method_11_25 : decode jdk_68_method_11_code 25 = .ok (.getfield 79, 3) := by decide +kernel
theorem d_jdk_68_method_11_28 : decode jdk_68_method_11_code 28 = .ok (.invokestatic 125, 3) := by decide +kernel
theorem d_jdk_68_method_11_31 : decode jdk_68_method_11_code 31 = .ok (.aload_n 0, 1) := by decide +kernel
theorem d_jdk_68_method_11_32 : decode jdk_68_method_11_code 32 = .ok (.aload_n 1, 1) := by decide +kernel
theorem d_jdk_68_method_11_33 : decode jdk_68_method_11_code 33 = .ok (.putfield 15, 3) := by decide +kernel
theorem d_jdk_68_method_11_36 : decode jdk_68_method_11_code 36 = .ok (.aload_n 0, 1) := by decide +kernel
theorem d_jdk_68_method_11_37 : decode jdk_68_method_11_code 37 = .ok (.iconst 1, 1) := by decide +kernel
theorem d_jdk_68_method_11_38 : decode jdk_68_method_11_code 38 = .ok (.putfield 22, 3) := by decide +kernel
theorem d_jdk_68_method_11_41 : decode jdk_68_method_11_code 41 = .ok (.return_, 1) := by decide +kernel
theorem d_jdk_68_method_11_7 : decode jdk_68_method_11_code 7 = .ok (.return_, 1) := by decide +kernel
theorem d_jdk_68_method_71_0 : decode jdk_68_method_71_code 0 = .ok (.getstatic 18, 3) := by decide +kernel
theorem d_jdk_68_method_71_3 : decode jdk_68_method_71_code 3 = .ok (.ifCond .eq 18, 3) := by decide +kernel
theorem d_jdk_68_method_71_6 : decode jdk_68_method_71_code 6 = .ok (.aload_n 0, 1) := by decide +kernel
theorem d_jdk_68_method_71_7 : decode jdk_68_method_71_code 7 = .ok (.getfield 22, 3) := by decide +kernel
theorem d_jdk_68_method_71_10 : decode jdk_68_method_71_code 10 = .ok (.aload_n 1, 1) := by decide +kernel
theorem d_jdk_68_method_71_11 : decode jdk_68_method_71_code 11 = .ok (.invokevirtual 40, 3) := by decide +kernel
theorem d_jdk_68_method_71_14 : decode jdk_68_method_71_code 14 = .ok (.if_icmp .eq 7, 3) := by decide +kernel
theorem d_jdk_68_method_71_21 : decode jdk_68_method_71_code 21 = .ok (.return_, 1) := by decide +kernel
theorem d_jdk_68_method_71_17 : decode jdk_68_method_71_code 17 = .ok (.aload_n 0, 1) := by decide +kernel
theorem d_jdk_68_method_71_18 : decode jdk_68_method_71_code 18 = .ok (.invokevirtual 195, 3) := by decide +kernel
theorem d_jdk_42_method_147_0 : decode jdk_42_method_147_code 0 = .ok (.aload_n 0, 1) := by decide +kernel
theorem d_jdk_42_method_147_1 : decode jdk_42_method_147_code 1 = .ok (.invokevirtual 335, 3) := by decide +kernel
theorem d_jdk_42_method_147_4 : decode jdk_42_method_147_code 4 = .ok (.iload_n 3, 1) := by decide +kernel
theorem d_jdk_42_method_147_5 : decode jdk_42_method_147_code 5 = .ok (.if_icmp .ne 23, 3) := by decide +kernel
theorem d_jdk_42_method_147_8 : decode jdk_42_method_147_code 8 = .ok (.aload_n 0, 1) := by decide +kernel
theorem d_jdk_42_method_147_9 : decode jdk_42_method_147_code 9 = .ok (.getfield 9, 3) := by decide +kernel
theorem d_jdk_42_method_147_12 : decode jdk_42_method_147_code 12 = .ok (.iconst 0, 1) := by decide +kernel
theorem d_jdk_42_method_147_13 : decode jdk_42_method_147_code 13 = .ok (.aload_n 1, 1) := by decide +kernel
theorem d_jdk_42_method_147_14 : decode jdk_42_method_147_code 14 = .ok (.iload_n 2, 1) := by decide +kernel
theorem d_jdk_42_method_147_15 : decode jdk_42_method_147_code 15 = .ok (.iload_n 3, 1) := by decide +kernel
theorem d_jdk_42_method_147_16 : decode jdk_42_method_147_code 16 = .ok (.ishl, 1) := by decide +kernel
theorem d_jdk_42_method_147_17 : decode jdk_42_method_147_code 17 = .ok (.aload_n 0, 1) := by decide +kernel
theorem d_jdk_42_method_147_18 : decode jdk_42_method_147_code 18 = .ok (.getfield 9, 3) := by decide +kernel
theorem d_jdk_42_method_147_21 : decode jdk_42_method_147_code 21 = .ok (.arraylength, 1) := by decide +kernel
theorem d_jdk_42_method_147_22 : decode jdk_42_method_147_code 22 = .ok (.invokestatic 212, 3) := by decide +kernel
theorem d_jdk_42_method_147_25 : decode jdk_42_method_147_code 25 = .ok (.goto 18, 3) := by decide +kernel
theorem d_jdk_42_method_147_43 : decode jdk_42_method_147_code 43 = .ok (.return_, 1) := by decide +kernel
theorem d_jdk_42_method_147_28 : decode jdk_42_method_147_code 28 = .ok (.aload_n 0, 1) := by decide +kernel
theorem d_jdk_42_method_147_29 : decode jdk_42_method_147_code 29 = .ok (.getfield 9, 3) := by decide +kernel
theorem d_jdk_42_method_147_32 : decode jdk_42_method_147_code 32 = .ok (.iconst 0, 1) := by decide +kernel
theorem d_jdk_42_method_147_33 : decode jdk_42_method_147_code 33 = .ok (.aload_n 1, 1) := by decide +kernel
theorem d_jdk_42_method_147_34 : decode jdk_42_method_147_code 34 = .ok (.iload_n 2, 1) := by decide +kernel
theorem d_jdk_42_method_147_35 : decode jdk_42_method_147_code 35 = .ok (.aload_n 0, 1) := by decide +kernel
theorem d_jdk_42_method_147_36 : decode jdk_42_method_147_code 36 = .ok (.getfield 9, 3) := by decide +kernel
theorem d_jdk_42_method_147_39 : decode jdk_42_method_147_code 39 = .ok (.arraylength, 1) := by decide +kernel
theorem d_jdk_42_method_147_40 : decode jdk_42_method_147_code 40 = .ok (.invokestatic 106, 3) := by decide +kernel
theorem d_jdk_68_method_73_0 : decode jdk_68_method_73_code 0 = .ok (.aload_n 0, 1) := by decide +kernel
theorem d_jdk_68_method_73_1 : decode jdk_68_method_73_code 1 = .ok (.aload_n 2, 1) := by decide +kernel
theorem d_jdk_68_method_73_2 : decode jdk_68_method_73_code 2 = .ok (.invokevirtual 397, 3) := by decide +kernel
theorem d_jdk_68_method_73_5 : decode jdk_68_method_73_code 5 = .ok (.aload_n 2, 1) := by decide +kernel
theorem d_jdk_68_method_73_6 : decode jdk_68_method_73_code 6 = .ok (.aload_n 0, 1) := by decide +kernel
theorem d_jdk_68_method_73_7 : decode jdk_68_method_73_code 7 = .ok (.getfield 15, 3) := by decide +kernel
theorem d_jdk_68_method_73_10 : decode jdk_68_method_73_code 10 = .ok (.iload_n 1, 1) := by decide +kernel
theorem d_jdk_68_method_73_11 : decode jdk_68_method_73_code 11 = .ok (.aload_n 0, 1) := by decide +kernel
theorem d_jdk_68_method_73_12 : decode jdk_68_method_73_code 12 = .ok (.getfield 22, 3) := by decide +kernel
theorem d_jdk_68_method_73_15 : decode jdk_68_method_73_code 15 = .ok (.invokevirtual 399, 3) := by decide +kernel
theorem d_jdk_68_method_73_18 : decode jdk_68_method_73_code 18 = .ok (.return_, 1) := by decide +kernel
theorem d_jdk_68_method_22_0 : decode jdk_68_method_22_code 0 = .ok (.aload_n 1, 1) := by decide +kernel
theorem d_jdk_68_method_22_1 : decode jdk_68_method_22_code 1 = .ok (.ifnonnull 8, 3) := by decide +kernel
theorem d_jdk_68_method_22_9 : decode jdk_68_method_22_code 9 = .ok (.aload_n 1, 1) := by decide +kernel
theorem d_jdk_68_method_22_10 : decode jdk_68_method_22_code 10 = .ok (.invokevirtual 32, 3) := by decide +kernel
theorem d_jdk_68_method_22_13 : decode jdk_68_method_22_code 13 = .ok (.istore_n 2, 1) := by decide +kernel
theorem d_jdk_68_method_22_14 : decode jdk_68_method_22_code 14 = .ok (.aload_n 0, 1) := by decide +kernel
theorem d_jdk_68_method_22_15 : decode jdk_68_method_22_code 15 = .ok (.aload_n 0, 1) := by decide +kernel
theorem d_jdk_68_method_22_16 : decode jdk_68_method_22_code 16 = .ok (.getfield 79, 3) := by decide +kernel
theorem d_jdk_68_method_22_19 : decode jdk_68_method_22_code 19 = .ok (.iload_n 2, 1) := by decide +kernel
theorem d_jdk_68_method_22_20 : decode jdk_68_method_22_code 20 = .ok (.iadd, 1) := by decide +kernel
theorem d_jdk_68_method_22_21 : decode jdk_68_method_22_code 21 = .ok (.invokevirtual 100, 3) := by decide +kernel
theorem d_jdk_68_method_22_24 : decode jdk_68_method_22_code 24 = .ok (.aload_n 0, 1) := by decide +kernel
theorem d_jdk_68_method_22_25 : decode jdk_68_method_22_code 25 = .ok (.aload_n 0, 1) := by decide +kernel
theorem d_jdk_68_method_22_26 : decode jdk_68_method_22_code 26 = .ok (.getfield 79, 3) := by decide +kernel
theorem d_jdk_68_method_22_29 : decode jdk_68_method_22_code 29 = .ok (.aload_n 1, 1) := by decide +kernel
theorem d_jdk_68_method_22_30 : decode jdk_68_method_22_code 30 = .ok (.invokevirtual 208, 3) := by decide +kernel
theorem d_jdk_68_method_22_33 : decode jdk_68_method_22_code 33 = .ok (.aload_n 0, 1) := by decide +kernel
theorem d_jdk_68_method_22_34 : decode jdk_68_method_22_code 34 = .ok (.dup, 1) := by decide +kernel
theorem d_jdk_68_method_22_35 : decode jdk_68_method_22_code 35 = .ok (.getfield 79, 3) := by decide +kernel
theorem d_jdk_68_method_22_38 : decode jdk_68_method_22_code 38 = .ok (.iload_n 2, 1) := by decide +kernel
theorem d_jdk_68_method_22_39 : decode jdk_68_method_22_code 39 = .ok (.iadd, 1) := by decide +kernel
theorem d_jdk_68_method_22_40 : decode jdk_68_method_22_code 40 = .ok (.putfield 79, 3) := by decide +kernel
theorem d_jdk_68_method_22_43 : decode jdk_68_method_22_code 43 = .ok (.aload_n 0, 1) := by decide +kernel
theorem d_jdk_68_method_22_44 : decode jdk_68_method_22_code 44 = .ok (.areturn, 1) := by decide +kernel
theorem d_jdk_67_method_7_0 : decode jdk_67_method_7_code 0 = .ok (.aload_n 0, 1) := by decide +kernel
theorem d_jdk_67_method_7_1 : decode jdk_67_method_7_code 1 = .ok (.aload_n 1, 1) := by decide +kernel
theorem d_jdk_67_method_7_2 : decode jdk_67_method_7_code 2 = .ok (.invokespecial 29, 3) := by decide +kernel
theorem d_jdk_67_method_7_5 : decode jdk_67_method_7_code 5 = .ok (.pop, 1) := by decide +kernel
theorem d_jdk_67_method_7_6 : decode jdk_67_method_7_code 6 = .ok (.aload_n 0, 1) := by decide +kernel
theorem d_jdk_67_method_7_7 : decode jdk_67_method_7_code 7 = .ok (.areturn, 1) := by decide +kernel
theorem d_jdk_68_method_2_0 : decode jdk_68_method_2_code 0 = .ok (.aload_n 0, 1) := by decide +kernel
theorem d_jdk_68_method_2_1 : decode jdk_68_method_2_code 1 = .ok (.invokespecial 3, 3) := by decide +kernel
theorem d_jdk_68_method_2_4 : decode jdk_68_method_2_code 4 = .ok (.getstatic 18, 3) := by decide +kernel
theorem d_jdk_68_method_2_7 : decode jdk_68_method_2_code 7 = .ok (.ifCond .eq 18, 3) := by decide +kernel
theorem d_jdk_68_method_2_10 : decode jdk_68_method_2_code 10 = .ok (.aload_n 0, 1) := by decide +kernel
theorem d_jdk_68_method_2_11 : decode jdk_68_method_2_code 11 = .ok (.iload_n 1, 1) := by decide +kernel
theorem d_jdk_68_method_2_12 : decode jdk_68_method_2_code 12 = .ok (.newarray .byte, 2) := by decide +kernel
theorem d_jdk_68_method_2_14 : decode jdk_68_method_2_code 14 = .ok (.putfield 15, 3) := by decide +kernel
theorem d_jdk_68_method_2_17 : decode jdk_68_method_2_code 17 = .ok (.aload_n 0, 1) := by decide +kernel
theorem d_jdk_68_method_2_18 : decode jdk_68_method_2_code 18 = .ok (.iconst 0, 1) := by decide +kernel
theorem d_jdk_68_method_2_19 : decode jdk_68_method_2_code 19 = .ok (.putfield 22, 3) := by decide +kernel
theorem d_jdk_68_method_2_22 : decode jdk_68_method_2_code 22 = .ok (.goto 16, 3) := by decide +kernel
theorem d_jdk_68_method_2_38 : decode jdk_68_method_2_code 38 = .ok (.return_, 1) := by decide +kernel
theorem d_jdk_67_method_1_0 : decode jdk_67_method_1_code 0 = .ok (.aload_n 0, 1) := by decide +kernel
theorem d_jdk_67_method_1_1 : decode jdk_67_method_1_code 1 = .ok (.bipush 16, 2) := by decide +kernel
theorem d_jdk_67_method_1_3 : decode jdk_67_method_1_code 3 = .ok (.invokespecial 1, 3) := by decide +kernel
theorem d_jdk_67_method_1_6 : decode jdk_67_method_1_code 6 = .ok (.return_, 1) := by decide +kernel
theorem d_jdk_68_method_64_0 : decode jdk_68_method_64_code 0 = .ok (.aload_n 0, 1) := by decide +kernel
theorem d_jdk_68_method_64_1 : decode jdk_68_method_64_code 1 = .ok (.getfield 15, 3) := by decide +kernel
theorem d_jdk_68_method_64_4 : decode jdk_68_method_64_code 4 = .ok (.areturn, 1) := by decide +kernel
theorem d_jdk_68_method_6_0 : decode jdk_68_method_6_code 0 = .ok (.aload_n 0, 1) := by decide +kernel
theorem d_jdk_68_method_6_1 : decode jdk_68_method_6_code 1 = .ok (.getfield 79, 3) := by decide +kernel
theorem d_jdk_68_method_6_4 : decode jdk_68_method_6_code 4 = .ok (.ireturn, 1) := by decide +kernel
theorem d_jdk_67_method_93_0 : decode jdk_67_method_93_code 0 = .ok (.aload_n 0, 1) := by decide +kernel
theorem d_jdk_67_method_93_1 : decode jdk_67_method_93_code 1 = .ok (.invokespecial 343, 3) := by decide +kernel
theorem d_jdk_67_method_93_4 : decode jdk_67_method_93_code 4 = .ok (.ireturn, 1) := by decide +kernel
theorem d_jdk_42_method_150_0 : decode jdk_42_method_150_code 0 = .ok (.aload_n 0, 1) := by decide +kernel
theorem d_jdk_42_method_150_1 : decode jdk_42_method_150_code 1 = .ok (.invokespecial 1, 3) := by decide +kernel
theorem d_jdk_42_method_150_4 : decode jdk_42_method_150_code 4 = .ok (.aload_n 1, 1) := by decide +kernel
theorem d_jdk_42_method_150_5 : decode jdk_42_method_150_code 5 = .ok (.invokevirtual 552, 3) := by decide +kernel
theorem d_jdk_42_method_150_8 : decode jdk_42_method_150_code 8 = .ok (.astore_n 3, 1) := by decide +kernel
theorem d_jdk_42_method_150_9 : decode jdk_42_method_150_code 9 = .ok (.aload_n 1, 1) := by decide +kernel
theorem d_jdk_42_method_150_10 : decode jdk_42_method_150_code 10 = .ok (.invokevirtual 549, 3) := by decide +kernel
theorem d_jdk_42_method_150_13 : decode jdk_42_method_150_code 13 = .ok (.istore 4, 2) := by decide +kernel
theorem d_jdk_42_method_150_15 : decode jdk_42_method_150_code 15 = .ok (.aload_n 1, 1) := by decide +kernel
theorem d_jdk_42_method_150_16 : decode jdk_42_method_150_code 16 = .ok (.invokevirtual 1047, 3) := by decide +kernel
theorem d_jdk_42_method_150_19 : decode jdk_42_method_150_code 19 = .ok (.ifCond .eq 22, 3) := by decide +kernel
theorem d_jdk_42_method_150_22 : decode jdk_42_method_150_code 22 = .ok (.aload_n 0, 1) := by decide +kernel
theorem d_jdk_42_method_150_23 : decode jdk_42_method_150_code 23 = .ok (.iconst 0, 1) := by decide +kernel
theorem d_jdk_42_method_150_24 : decode jdk_42_method_150_code 24 = .ok (.putfield 15, 3) := by decide +kernel
theorem d_jdk_42_method_150_27 : decode jdk_42_method_150_code 27 = .ok (.aload_n 0, 1) := by decide +kernel
theorem d_jdk_42_method_150_28 : decode jdk_42_method_150_code 28 = .ok (.aload_n 3, 1) := by decide +kernel
theorem d_jdk_42_method_150_29 : decode jdk_42_method_150_code 29 = .ok (.iconst 0, 1) := by decide +kernel
theorem d_jdk_42_method_150_30 : decode jdk_42_method_150_code 30 = .ok (.iload 4, 2) := by decide +kernel
theorem d_jdk_42_method_150_32 : decode jdk_42_method_150_code 32 = .ok (.invokestatic 54, 3) := by decide +kernel
theorem d_jdk_42_method_150_35 : decode jdk_42_method_150_code 35 = .ok (.putfield 9, 3) := by decide +kernel
theorem d_jdk_42_method_150_38 : decode jdk_42_method_150_code 38 = .ok (.goto 59, 3) := by decide +kernel
theorem d_jdk_42_method_150_97 : decode jdk_42_method_150_code 97 = .ok (.return_, 1) := by decide +kernel
theorem d_jdk_42_method_150_41 : decode jdk_42_method_150_code 41 = .ok (.getstatic 38, 3) := by decide +kernel
theorem d_jdk_42_method_150_44 : decode jdk_42_method_150_code 44 = .ok (.ifCond .eq 35, 3) := by decide +kernel
theorem d_jdk_42_method_150_47 : decode jdk_42_method_150_code 47 = .ok (.aload_n 1, 1) := by decide +kernel
theorem d_jdk_42_method_150_48 : decode jdk_42_method_150_code 48 = .ok (.getfield 1048, 3) := by decide +kernel
theorem d_jdk_42_method_150_51 : decode jdk_42_method_150_code 51 = .ok (.ifCond .eq 28, 3) := by decide +kernel
theorem d_jdk_42_method_150_79 : decode jdk_42_method_150_code 79 = .ok (.aload_n 0, 1) := by decide +kernel
theorem d_jdk_42_method_150_80 : decode jdk_42_method_150_code 80 = .ok (.iconst 1, 1) := by decide +kernel
theorem d_jdk_42_method_150_81 : decode jdk_42_method_150_code 81 = .ok (.putfield 15, 3) := by decide +kernel
theorem d_jdk_42_method_150_84 : decode jdk_42_method_150_code 84 = .ok (.aload_n 0, 1) := by decide +kernel
theorem d_jdk_42_method_150_85 : decode jdk_42_method_150_code 85 = .ok (.aload_n 3, 1) := by decide +kernel
theorem d_jdk_42_method_150_86 : decode jdk_42_method_150_code 86 = .ok (.iconst 0, 1) := by decide +kernel
theorem d_jdk_42_method_150_87 : decode jdk_42_method_150_code 87 = .ok (.iload 4, 2) := by decide +kernel
theorem d_jdk_42_method_150_89 : decode jdk_42_method_150_code 89 = .ok (.iconst 1, 1) := by decide +kernel
theorem d_jdk_42_method_150_90 : decode jdk_42_method_150_code 90 = .ok (.ishl, 1) := by decide +kernel
theorem d_jdk_42_method_150_91 : decode jdk_42_method_150_code 91 = .ok (.invokestatic 54, 3) := by decide +kernel
theorem d_jdk_42_method_150_94 : decode jdk_42_method_150_code 94 = .ok (.putfield 9, 3) := by decide +kernel
theorem d_jdk_42_method_53_0 : decode jdk_42_method_53_code 0 = .ok (.aload_n 0, 1) := by decide +kernel
theorem d_jdk_42_method_53_1 : decode jdk_42_method_53_code 1 = .ok (.aload_n 1, 1) := by decide +kernel
theorem d_jdk_42_method_53_2 : decode jdk_42_method_53_code 2 = .ok (.aconst_null, 1) := by decide +kernel
theorem d_jdk_42_method_53_3 : decode jdk_42_method_53_code 3 = .ok (.invokespecial 489, 3) := by decide +kernel
theorem d_jdk_42_method_53_6 : decode jdk_42_method_53_code 6 = .ok (.return_, 1) := by decide +kernel
theorem d_jdk_67_method_42_0 : decode jdk_67_method_42_code 0 = .ok (.new 18, 3) := by decide +kernel
theorem d_jdk_67_method_42_3 : decode jdk_67_method_42_code 3 = .ok (.dup, 1) := by decide +kernel
theorem d_jdk_67_method_42_4 : decode jdk_67_method_42_code 4 = .ok (.aload_n 0, 1) := by decide +kernel
theorem d_jdk_67_method_42_5 : decode jdk_67_method_42_code 5 = .ok (.invokespecial 137, 3) := by decide +kernel
theorem d_jdk_67_method_42_8 : decode jdk_67_method_42_code 8 = .ok (.areturn, 1) := by decide +kernel
theorem d_prog_1_method_2_0 : decode prog_1_method_2_code 0 = .ok (.aload_n 0, 1) := by decide +kernel
theorem d_prog_1_method_2_1 : decode prog_1_method_2_code 1 = .ok (.invokevirtual 7, 3) := by decide +kernel
theorem d_prog_1_method_2_4 : decode prog_1_method_2_code 4 = .ok (.sipush 200, 3) := by decide +kernel
theorem d_prog_1_method_2_7 : decode prog_1_method_2_code 7 = .ok (.if_icmp .gt 7, 3) := by decide +kernel
theorem d_prog_1_method_2_10 : decode prog_1_method_2_code 10 = .ok (.aload_n 0, 1) := by decide +kernel
theorem d_prog_1_method_2_11 : decode prog_1_method_2_code 11 = .ok (.goto 29, 3) := by decide +kernel
theorem d_prog_1_method_2_40 : decode prog_1_method_2_code 40 = .ok (.astore_n 1, 1) := by decide +kernel
theorem d_prog_1_method_2_41 : decode prog_1_method_2_code 41 = .ok (.new 15, 3) := by decide +kernel
theorem d_prog_1_method_2_44 : decode prog_1_method_2_code 44 = .ok (.dup, 1) := by decide +kernel
theorem d_prog_1_method_2_45 : decode prog_1_method_2_code 45 = .ok (.invokespecial 17, 3) := by decide +kernel
theorem d_prog_1_method_2_48 : decode prog_1_method_2_code 48 = .ok (.ldc 32, 2) := by decide +kernel
theorem d_prog_1_method_2_50 : decode prog_1_method_2_code 50 = .ok (.invokevirtual 22, 3) := by decide +kernel
theorem d_prog_1_method_2_53 : decode prog_1_method_2_code 53 = .ok (.aload_n 1, 1) := by decide +kernel
theorem d_prog_1_method_2_54 : decode prog_1_method_2_code 54 = .ok (.invokevirtual 22, 3) := by decide +kernel
theorem d_prog_1_method_2_57 : decode prog_1_method_2_code 57 = .ok (.ldc 32, 2) := by decide +kernel
theorem d_prog_1_method_2_59 : decode prog_1_method_2_code 59 = .ok (.invokevirtual 22, 3) := by decide +kernel
theorem d_prog_1_method_2_62 : decode prog_1_method_2_code 62 = .ok (.invokevirtual 28, 3) := by decide +kernel
theorem d_prog_1_method_2_65 : decode prog_1_method_2_code 65 = .ok (.areturn, 1) := by decide +kernel
theorem d_prog_1_method_2_14 : decode prog_1_method_2_code 14 = .ok (.new 15, 3) := by decide +kernel
theorem d_prog_1_method_2_17 : decode prog_1_method_2_code 17 = .ok (.dup, 1) := by decide +kernel
theorem d_prog_1_method_2_18 : decode prog_1_method_2_code 18 = .ok (.invokespecial 17, 3) := by decide +kernel
theorem d_prog_1_method_2_21 : decode prog_1_method_2_code 21 = .ok (.aload_n 0, 1) := by decide +kernel
theorem d_prog_1_method_2_22 : decode prog_1_method_2_code 22 = .ok (.iconst 0, 1) := by decide +kernel
theorem d_prog_1_method_2_23 : decode prog_1_method_2_code 23 = .ok (.sipush 197, 3) := by decide +kernel
theorem d_prog_1_method_2_26 : decode prog_1_method_2_code 26 = .ok (.invokevirtual 18, 3) := by decide +kernel
theorem d_prog_1_method_2_29 : decode prog_1_method_2_code 29 = .ok (.invokevirtual 22, 3) := by decide +kernel
theorem d_prog_1_method_2_32 : decode prog_1_method_2_code 32 = .ok (.ldc 26, 2) := by decide +kernel
theorem d_prog_1_method_2_34 : decode prog_1_method_2_code 34 = .ok (.invokevirtual 22, 3) := by decide +kernel
theorem d_prog_1_method_2_37 : decode prog_1_method_2_code 37 = .ok (.invokevirtual 28, 3) := by decide +kernel
theorem d_method_2_0 : decode method_2_code 0 = .ok (.aload_n 0, 1) := by decide +kernel
theorem d_method_2_1 : decode method_2_code 1 = .ok (.invokevirtual 7, 3) := by decide +kernel
theorem d_method_2_4 : decode method_2_code 4 = .ok (.istore_n 3, 1) := by decide +kernel
theorem d_method_2_5 : decode method_2_code 5 = .ok (.iload_n 1, 1) := by decide +kernel
theorem d_method_2_6 : decode method_2_code 6 = .ok (.ifCond .eq 10, 3) := by decide +kernel
theorem d_method_2_16 : decode method_2_code 16 = .ok (.bipush 34, 2) := by decide +kernel
theorem d_method_2_18 : decode method_2_code 18 = .ok (.ireturn, 1) := by decide +kernel
theorem d_method_2_9 : decode method_2_code 9 = .ok (.iload_n 1, 1) := by decide +kernel
theorem d_method_2_10 : decode method_2_code 10 = .ok (.iload_n 2, 1) := by decide +kernel
theorem d_method_2_11 : decode method_2_code 11 = .ok (.iconst 1, 1) := by decide +kernel
theorem d_method_2_12 : decode method_2_code 12 = .ok (.isub, 1) := by decide +kernel
theorem d_method_2_13 : decode method_2_code 13 = .ok (.if_icmp .ne 6, 3) := by decide +kernel
theorem d_method_2_19 : decode method_2_code 19 = .ok (.iload_n 3, 1) := by decide +kernel
theorem d_method_2_20 : decode method_2_code 20 = .ok (.sipush 200, 3) := by decide +kernel
theorem d_method_2_23 : decode method_2_code 23 = .ok (.if_icmp .gt 11, 3) := by decide +kernel
theorem d_method_2_34 : decode method_2_code 34 = .ok (.iload_n 1, 1) := by decide +kernel
theorem d_method_2_35 : decode method_2_code 35 = .ok (.sipush 197, 3) := by decide +kernel
theorem d_method_2_38 : decode method_2_code 38 = .ok (.if_icmp .gt 11, 3) := by decide +kernel
theorem d_method_2_49 : decode method_2_code 49 = .ok (.bipush 46, 2) := by decide +kernel
theorem d_method_2_51 : decode method_2_code 51 = .ok (.ireturn, 1) := by decide +kernel
theorem d_method_2_41 : decode method_2_code 41 = .ok (.aload_n 0, 1) := by decide +kernel
theorem d_method_2_42 : decode method_2_code 42 = .ok (.iload_n 1, 1) := by decide +kernel
theorem d_method_2_43 : decode method_2_code 43 = .ok (.iconst 1, 1) := by decide +kernel
theorem d_method_2_44 : decode method_2_code 44 = .ok (.isub, 1) := by decide +kernel
theorem d_method_2_45 : decode method_2_code 45 = .ok (.invokevirtual 13, 3) := by decide +kernel
theorem d_method_2_48 : decode method_2_code 48 = .ok (.ireturn, 1) := by decide +kernel
theorem d_method_2_26 : decode method_2_code 26 = .ok (.aload_n 0, 1) := by decide +kernel
theorem d_method_2_27 : decode method_2_code 27 = .ok (.iload_n 1, 1) := by decide +kernel
theorem d_method_2_28 : decode method_2_code 28 = .ok (.iconst 1, 1) := by decide +kernel
theorem d_method_2_29 : decode method_2_code 29 = .ok (.isub, 1) := by decide +kernel
theorem d_method_2_30 : decode method_2_code 30 = .ok (.invokevirtual 13, 3) := by decide +kernel
theorem d_method_2_33 : decode method_2_code 33 = .ok (.ireturn, 1) := by decide +kernel
theorem d_method_3_0 : decode method_3_code 0 = .ok (.iload_n 2, 1) := by decide +kernel
theorem d_method_3_1 : decode method_3_code 1 = .ok (.ifCond .lt 11, 3) := by decide +kernel
theorem d_method_3_12 : decode method_3_code 12 = .ok (.iconst 1, 1) := by decide +kernel
theorem d_method_3_13 : decode method_3_code 13 = .ok (.ireturn, 1) := by decide +kernel
theorem d_method_3_4 : decode method_3_code 4 = .ok (.iload_n 2, 1) := by decide +kernel
theorem d_method_3_5 : decode method_3_code 5 = .ok (.aload_n 0, 1) := by decide +kernel
theorem d_method_3_6 : decode method_3_code 6 = .ok (.invokevirtual 7, 3) := by decide +kernel
theorem d_method_3_9 : decode method_3_code 9 = .ok (.if_icmp .lt 5, 3) := by decide +kernel
theorem d_method_3_14 : decode method_3_code 14 = .ok (.aload_n 0, 1) := by decide +kernel
theorem d_method_3_15 : decode method_3_code 15 = .ok (.iload_n 2, 1) := by decide +kernel
theorem d_method_3_16 : decode method_3_code 16 = .ok (.invokevirtual 13, 3) := by decide +kernel
theorem d_method_3_19 : decode method_3_code 19 = .ok (.aload_n 1, 1) := by decide +kernel
theorem d_method_3_20 : decode method_3_code 20 = .ok (.iload_n 2, 1) := by decide +kernel
theorem d_method_3_21 : decode method_3_code 21 = .ok (.aload_n 0, 1) := by decide +kernel
theorem d_method_3_22 : decode method_3_code 22 = .ok (.invokevirtual 7, 3) := by decide +kernel
theorem d_method_3_25 : decode method_3_code 25 = .ok (.invokestatic 17, 3) := by decide +kernel
theorem d_method_3_28 : decode method_3_code 28 = .ok (.if_icmp .ne 7, 3) := by decide +kernel
theorem d_method_3_31 : decode method_3_code 31 = .ok (.iconst 1, 1) := by decide +kernel
theorem d_method_3_32 : decode method_3_code 32 = .ok (.goto 4, 3) := by decide +kernel
theorem d_method_3_36 : decode method_3_code 36 = .ok (.ireturn, 1) := by decide +kernel
theorem pd0 : parseMethodDescriptor "([CIILjava/lang/Void;)V" = some ⟨[(.array .char), .int, .int, (.object "java/lang/Void")], none⟩ := by decide +kernel
theorem pd1 : parseMethodDescriptor "(I)I" = some ⟨[.int], some .int⟩ := by decide +kernel
theorem pd2 : parseMethodDescriptor "(I)[B" = some ⟨[.int], some (.array .byte)⟩ := by decide +kernel
theorem pd3 : parseMethodDescriptor "([BII)V" = some ⟨[(.array .byte), .int, .int], none⟩ := by decide +kernel
theorem pd4 : parseMethodDescriptor "([CI[BII)I" = some ⟨[(.array .char), .int, (.array .byte), .int, .int], some .int⟩ := by decide +kernel
theorem pd5 : parseMethodDescriptor "([CII)[B" = some ⟨[(.array .char), .int, .int], some (.array .byte)⟩ := by decide +kernel
theorem pd6 : parseMethodDescriptor "([BI)C" = some ⟨[(.array .byte), .int], some .char⟩ := by decide +kernel
theorem pd7 : parseMethodDescriptor "([BI)B" = some ⟨[(.array .byte), .int], some .byte⟩ := by decide +kernel
theorem pd8 : parseMethodDescriptor "(IILjava/util/function/BiFunction;)I" = some ⟨[.int, .int, (.object "java/util/function/BiFunction")], some .int⟩ := by decide +kernel
theorem pd9 : parseMethodDescriptor "(IIILjava/util/function/BiFunction;)I" = some ⟨[.int, .int, .int, (.object "java/util/function/BiFunction")], some .int⟩ := by decide +kernel
theorem pd10 : parseMethodDescriptor "([B)I" = some ⟨[(.array .byte)], some .int⟩ := by decide +kernel
theorem pd11 : parseMethodDescriptor "(III)I" = some ⟨[.int, .int, .int], some .int⟩ := by decide +kernel
theorem pd12 : parseMethodDescriptor "(II)V" = some ⟨[.int, .int], none⟩ := by decide +kernel
theorem pd13 : parseMethodDescriptor "(I[B)V" = some ⟨[.int, (.array .byte)], none⟩ := by decide +kernel
theorem pd14 : parseMethodDescriptor "()Z" = some ⟨[], some .boolean⟩ := by decide +kernel
theorem pd15 : parseMethodDescriptor "(II)I" = some ⟨[.int, .int], some .int⟩ := by decide +kernel
theorem pd16 : parseMethodDescriptor "([BII)[B" = some ⟨[(.array .byte), .int, .int], some (.array .byte)⟩ := by decide +kernel
theorem pd17 : parseMethodDescriptor "([BB)V" = some ⟨[(.array .byte), .byte], none⟩ := by decide +kernel
theorem pd18 : parseMethodDescriptor "(II[B)V" = some ⟨[.int, .int, (.array .byte)], none⟩ := by decide +kernel
theorem pd19 : parseMethodDescriptor "([BI[BII)I" = some ⟨[(.array .byte), .int, (.array .byte), .int, .int], some .int⟩ := by decide +kernel
theorem pd20 : parseMethodDescriptor "(III)V" = some ⟨[.int, .int, .int], none⟩ := by decide +kernel
theorem pd21 : parseMethodDescriptor "([BII)Ljava/lang/String;" = some ⟨[(.array .byte), .int, .int], some (.object "java/lang/String")⟩ := by decide +kernel
theorem pd22 : parseMethodDescriptor "([BI)[B" = some ⟨[(.array .byte), .int], some (.array .byte)⟩ := by decide +kernel
theorem pd23 : parseMethodDescriptor "([BI[BII)V" = some ⟨[(.array .byte), .int, (.array .byte), .int, .int], none⟩ := by decide +kernel
theorem pd24 : parseMethodDescriptor "()B" = some ⟨[], some .byte⟩ := by decide +kernel
theorem pd25 : parseMethodDescriptor "()V" = some ⟨[], none⟩ := by decide +kernel
theorem pd26 : parseMethodDescriptor "(Ljava/lang/String;)V" = some ⟨[(.object "java/lang/String")], none⟩ := by decide +kernel
theorem pd27 : parseMethodDescriptor "([BIB)V" = some ⟨[(.array .byte), .int, .byte], none⟩ := by decide +kernel
theorem pd28 : parseMethodDescriptor "(I)V" = some ⟨[.int], none⟩ := by decide +kernel
theorem pd29 : parseMethodDescriptor "(ILjava/lang/String;)V" = some ⟨[.int, (.object "java/lang/String")], none⟩ := by decide +kernel
theorem pd30 : parseMethodDescriptor "(Ljava/lang/String;)Ljava/lang/AbstractStringBuilder;" = some ⟨[(.object "java/lang/String")], some (.object "java/lang/AbstractStringBuilder")⟩ := by decide +kernel
theorem pd31 : parseMethodDescriptor "()I" = some ⟨[], some .int⟩ := by decide +kernel
theorem pd32 : parseMethodDescriptor "()[B" = some ⟨[], some (.array .byte)⟩ := by decide +kernel
theorem pd33 : parseMethodDescriptor "(Ljava/lang/AbstractStringBuilder;Ljava/lang/Void;)V" = some ⟨[(.object "java/lang/AbstractStringBuilder"), (.object "java/lang/Void")], none⟩ := by decide +kernel
theorem pd34 : parseMethodDescriptor "(Ljava/lang/StringBuilder;)V" = some ⟨[(.object "java/lang/StringBuilder")], none⟩ := by decide +kernel
theorem pd35 : parseMethodDescriptor "(Ljava/lang/String;)Ljava/lang/StringBuilder;" = some ⟨[(.object "java/lang/String")], some (.object "java/lang/StringBuilder")⟩ := by decide +kernel
theorem pd36 : parseMethodDescriptor "()Ljava/lang/String;" = some ⟨[], some (.object "java/lang/String")⟩ := by decide +kernel
theorem pd37 : parseMethodDescriptor "(II)Ljava/lang/String;" = some ⟨[.int, .int], some (.object "java/lang/String")⟩ := by decide +kernel
theorem pd38 : parseMethodDescriptor "(I)C" = some ⟨[.int], some .char⟩ := by decide +kernel
theorem pd39 : parseMethodDescriptor "(Ljava/lang/String;II)C" = some ⟨[(.object "java/lang/String"), .int, .int], some .char⟩ := by decide +kernel
theorem pd40 : parseMethodDescriptor "([C)V" = some ⟨[(.array .char)], none⟩ := by decide +kernel
theorem pd41 : parseMethodDescriptor "(Ljava/lang/String;)Ljava/lang/String;" = some ⟨[(.object "java/lang/String")], some (.object "java/lang/String")⟩ := by decide +kernel
theorem pd42 : parseMethodDescriptor "(Ljava/lang/String;Ljava/lang/String;I)Z" = some ⟨[(.object "java/lang/String"), (.object "java/lang/String"), .int], some .boolean⟩ := by decide +kernel
theorem hwln {a0 : Array Value} {Z : State} (hw : W a0 Z) : ∀ d ∈ StrChars.Road.wordsLen, d.before a0 Z = true := fun d hd => hw d ((by decide +kernel : ∀ d ∈ StrChars.Road.wordsLen, d ∈ tables_1) d hd)
theorem wS0 {a0 : Array Value} {Z : State} (hw : W a0 Z) : ∀ d ∈ Bundle.stringAtoms, d.before a0 Z = true := fun d hd => hw d ((by decide +kernel : ∀ d ∈ Bundle.stringAtoms, d ∈ tables_1) d hd)
/-- small naturals as ints -/
theorem n_toInt {n : Nat} (h : n < 2147483648) : (Int32.ofNat n).toInt = n := Int32.toInt_ofNat_small (by omega)
theorem n_nat {n : Nat} (h : n < 2147483648) : (Int32.ofNat n).toNatClampNeg = n := by
  rw [Int32.toNatClampNeg, n_toInt h]; rfl
theorem n_add (a b : Nat) : Int32.ofNat a + Int32.ofNat b = Int32.ofNat (a + b) := (Int32.ofNat_add a b).symm
theorem n_sub {a b : Nat} (h : b ≤ a) : Int32.ofNat a - Int32.ofNat b = Int32.ofNat (a - b) := by
  have e := n_add (a - b) b
  rw [Nat.sub_add_cancel h] at e
  rw [← e, Int32.add_sub_cancel]
theorem n_lt {a b : Nat} (ha : a < 2147483648) (hb : b < 2147483648) : Int32.ofNat a < Int32.ofNat b ↔ a < b := by
  rw [Int32.lt_iff_toInt_lt, n_toInt ha, n_toInt hb]; omega
theorem n_eq {a b : Nat} (ha : a < 2147483648) (hb : b < 2147483648) : Int32.ofNat a = Int32.ofNat b ↔ a = b := by
  rw [← Int32.toInt_inj, n_toInt ha, n_toInt hb]; omega
theorem n_in {i n : Nat} (hi : i < n) (hn : n < 2147483648) : ¬ Int32.ofNat i < 0 ∧ Int32.ofNat i < Int32.ofNat n :=
  ⟨fun q => by rw [show (0 : Int32) = Int32.ofNat 0 from rfl, n_lt (by omega) (by omega)] at q; omega, (n_lt (by omega) hn).mpr hi⟩
theorem n_neg {i : Nat} (h : i < 2147483648) : ¬ Int32.ofNat i < 0 := fun q => by
  rw [show (0 : Int32) = Int32.ofNat 0 from rfl, n_lt h (by omega)] at q; omega
theorem n_get {cs : List Int32} {f : Int32 → Int32} {d : Value} {i : Nat} (h : i < cs.length) (hs : cs.length < 2147483648) : ((cs.map f).map Value.int).getD (Int32.ofNat i).toNatClampNeg d = .int (f (cs.getD i 0)) := by
  rw [n_nat (by omega)]
  simp [List.getD_eq_getElem?_getD, h]
theorem n_of {x : Int32} (h : ¬ x < 0) : ∃ n : Nat, n < 2147483648 ∧ x = Int32.ofNat n := by
  rw [Int32.lt_iff_toInt_lt] at h
  have e0 : (0 : Int32).toInt = 0 := rfl
  have b := x.toInt_lt
  refine ⟨x.toInt.toNat, by omega, ?_⟩
  rw [← Int32.toInt_inj, n_toInt (by omega)]
  omega
theorem n_shr0 (x : Int32) : x >>> ((0 : Int32) &&& 31) = x := by
  have e : ((0 : Int32) &&& 31) = 0 := by decide
  rw [e]
  apply Int32.toBitVec_inj.mp
  rw [Int32.toBitVec_shiftRight]
  have e1 : ((0 : Int32).toBitVec.smod 32) = 0#32 := by decide
  rw [e1, BitVec.sshiftRight_eq']
  exact BitVec.sshiftRight_zero
theorem own_eqI {x y : Int32} (h : (x.toInt - y.toInt) % 4294967296 = 0) : x = y := by
  have := x.toInt_lt
  have := x.le_toInt
  have := y.toInt_lt
  have := y.le_toInt
  exact Int32.toInt_inj.mp (by omega)
theorem own_rg {c : Int32} : Rg c ↔ 0 ≤ c.toInt ∧ c.toInt ≤ 65535 := by
  unfold Rg
  rw [Int32.lt_iff_toInt_lt, Int32.lt_iff_toInt_lt]
  have e0 : (0 : Int32).toInt = 0 := rfl
  have e1 : (65535 : Int32).toInt = 65535 := rfl
  omega
theorem own_narb (x : Int32) : nar .byte (x.toInt8.toInt32) = x.toInt8.toInt32 := by
  have a := c_i2b x
  have b := c_i2b x.toInt8.toInt32
  show (x.toInt8.toInt32).toInt8.toInt32 = x.toInt8.toInt32
  exact Int32.toInt_inj.mp (by omega)
theorem own_narc {x : Int32} (h : Rg x) : nar .char x = x := by
  have a := c_i2c x
  have h := own_rg.mp h
  show x.toUInt32.toUInt16.toUInt32.toInt32 = x
  exact Int32.toInt_inj.mp (by omega)
theorem own_i2cr (x : Int32) : Rg (nar .char (x.toUInt32.toUInt16.toUInt32.toInt32)) := by
  have a := c_i2c (x.toUInt32.toUInt16.toUInt32.toInt32)
  apply own_rg.mpr
  show 0 ≤ (x.toUInt32.toUInt16.toUInt32.toInt32.toUInt32.toUInt16.toUInt32.toInt32).toInt ∧ (x.toUInt32.toUInt16.toUInt32.toInt32.toUInt32.toUInt16.toUInt32.toInt32).toInt ≤ 65535
  omega
theorem own_shl1 {i : Nat} (h : i ≤ 4000) : Int32.ofNat i <<< ((1 : Int32) &&& 31) = Int32.ofNat (2 * i) := by
  have a := c_ishl (Int32.ofNat i) 1 1 (by decide)
  rw [n_toInt (by omega)] at a
  apply own_eqI
  rw [n_toInt (by omega)]
  omega
theorem own_shr1 {i : Nat} (h : i ≤ 4000) : Int32.ofNat (2 * i) >>> ((1 : Int32) &&& 31) = Int32.ofNat i := by
  have a := c_ishr (Int32.ofNat (2 * i)) 1 1 (by decide)
  rw [n_toInt (by omega)] at a
  apply own_eqI
  rw [n_toInt (by omega)]
  omega
theorem own_wlo {cs : List Int32} {i : Nat} {d : Value} (hi : i < cs.length) (hN : cs.length ≤ 4000) : (StrChars.Road.wideBytes cs).getD (Int32.ofNat (2 * i)).toNatClampNeg d = .int (cs.getD i 0).toInt8.toInt32 := by
  rw [n_nat (by omega)]
  exact StrChars.Road.wide_lo d cs i hi
theorem own_whi {cs : List Int32} {i : Nat} {d : Value} (hi : i < cs.length) (hN : cs.length ≤ 4000) : (StrChars.Road.wideBytes cs).getD (Int32.ofNat (2 * i + 1)).toNatClampNeg d = .int ((cs.getD i 0) >>> ((8 : Int32) &&& 31)).toInt8.toInt32 := by
  rw [n_nat (by omega)]
  exact StrChars.Road.wide_hi d cs i hi
theorem own_mem {cs : List Int32} {i : Nat} (h : i < cs.length) : cs.getD i 0 ∈ cs := by
  rw [List.getD_eq_getElem?_getD, List.getElem?_eq_getElem h]
  exact List.getElem_mem h
theorem own_getch {c : Int32} (h : Rg c) : nar .char ((((c.toInt8.toInt32 &&& (255 : Int32)) <<< ((0 : Int32) &&& 31)) ||| (((c >>> ((8 : Int32) &&& 31)).toInt8.toInt32 &&& (255 : Int32)) <<< ((8 : Int32) &&& 31))).toUInt32.toUInt16.toUInt32.toInt32) = c := by
  have h := own_rg.mp h
  have b1 := c_i2b c
  have m1 := c_mask c.toInt8.toInt32 255 8 (by decide) (by decide)
  have s1 := c_ishl (c.toInt8.toInt32 &&& 255) 0 0 (by decide)
  have r2 := c_ishr c 8 8 (by decide)
  have b2 := c_i2b (c >>> ((8 : Int32) &&& 31))
  have m2 := c_mask (c >>> ((8 : Int32) &&& 31)).toInt8.toInt32 255 8 (by decide) (by decide)
  have s2 := c_ishl ((c >>> ((8 : Int32) &&& 31)).toInt8.toInt32 &&& 255) 8 8 (by decide)
  generalize hu : (c.toInt8.toInt32 &&& (255 : Int32)) <<< ((0 : Int32) &&& 31) = u at *
  generalize hv : ((c >>> ((8 : Int32) &&& 31)).toInt8.toInt32 &&& (255 : Int32)) <<< ((8 : Int32) &&& 31) = v at *
  have bu := u.toInt_lt
  have bu' := u.le_toInt
  have bv := v.toInt_lt
  have bv' := v.le_toInt
  have eu : u.toInt = c.toInt % 256 := by omega
  have ev : v.toInt = c.toInt / 256 * 256 := by omega
  have o := c_or' u v 8 (by decide) 256 rfl (by omega) (by omega) (by omega)
  have a := c_i2c (u ||| v)
  have k := own_narc (x := (u ||| v).toUInt32.toUInt16.toUInt32.toInt32) (own_rg.mpr (by omega))
  rw [k]
  have bo := (u ||| v).toInt_lt
  have bo' := (u ||| v).le_toInt
  exact Int32.toInt_inj.mp (by omega)
theorem own_evI {Z : State} {args : Array Value} {t : Term} {x : Int32} (h : (Cond.eq t (Term.int x)).value args Z none Z [] = some true) : t.eval args Z none [] Z = some (.int x) := by
  cases q : t.eval args Z none [] Z with
  | none => simp [Cond.value, q] at h
  | some v =>
    cases v <;> simp [Cond.value, q, Term.int_eval] at h
    rw [h]
theorem own_lat {cs : List Int32} (hr : ∀ c ∈ cs, Rg c) (hl : ∀ c ∈ cs, ¬ (255 : Int32) < c) : ∀ c ∈ cs, ¬ c < 0 ∧ ¬ (255 : Int32) < c := fun c h => ⟨(hr c h).1, hl c h⟩
abbrev LB (cs : List Int32) : List Value := (cs.map fun c => c.toInt8.toInt32).map Value.int
def InH (h : Heap) (a : Addr) : Prop := a < h.size
theorem InH.lt {h : Heap} {a : Addr} (q : InH h a) : a < h.size := q
theorem InH.ext {h h' : Heap} {a : Addr} (q : InH h a) (E : Ext h h') : InH h' a := Nat.lt_of_lt_of_le q E.1
/-- a StringBuilder: the object sb, its byte[] va with room for cap chars, its chars ys -/
def BS (Z : State) (h : Heap) (sb va : Addr) (kv : ClassId) (cap : Nat) (ys : List Int32) : Prop := Exa Z h sb "java/lang/StringBuilder" ∧ Fld Z h sb "java/lang/AbstractStringBuilder" "value" "[B" (.ref va) ∧ Fld Z h sb "java/lang/AbstractStringBuilder" "count" "I" (.int (Int32.ofNat ys.length)) ∧ Fld Z h sb "java/lang/AbstractStringBuilder" "maybeLatin1" "Z" (.int (0 : Int32)) ∧ ((Fld Z h sb "java/lang/AbstractStringBuilder" "coder" "B" (.int (0 : Int32)) ∧ Arv Z h va kv .byte (Int32.ofNat cap) (LB ys) (.int (0 : Int32)) ∧ ∀ c ∈ ys, ¬ (255 : Int32) < c) ∨ (Fld Z h sb "java/lang/AbstractStringBuilder" "coder" "B" (.int (1 : Int32)) ∧ Arv Z h va kv .byte (Int32.ofNat (2 * cap)) (StrChars.Road.wideBytes ys) (.int (0 : Int32)) ∧ ∃ c ∈ ys, (255 : Int32) < c)) ∧ (∀ c ∈ ys, Rg c) ∧ ys.length ≤ cap
theorem BS.ext {Z : State} {h h' : Heap} {sb va : Addr} {kv : ClassId} {cap : Nat} {ys : List Int32} (B : BS Z h sb va kv cap ys) (E : Ext h h') : BS Z h' sb va kv cap ys := ⟨B.1.ext E, B.2.1.ext E, B.2.2.1.ext E, B.2.2.2.1.ext E, B.2.2.2.2.1.imp (fun q => ⟨q.1.ext E, q.2.1.ext E, q.2.2⟩) (fun q => ⟨q.1.ext E, q.2.1.ext E, q.2.2⟩), B.2.2.2.2.2⟩
theorem BS.keep {Z : State} {h h' : Heap} {sb va : Addr} {kv : ClassId} {cap : Nat} {ys : List Int32} {ws : List Addr} (B : BS Z h sb va kv cap ys) (K : Keep h h' ws) (n1 : sb ∉ ws) (n2 : va ∉ ws) : BS Z h' sb va kv cap ys := ⟨B.1.keep K, B.2.1.keep K n1, B.2.2.1.keep K n1, B.2.2.2.1.keep K n1, B.2.2.2.2.1.imp (fun q => ⟨q.1.keep K n1, q.2.1.keep K n2, q.2.2⟩) (fun q => ⟨q.1.keep K n1, q.2.1.keep K n2, q.2.2⟩), B.2.2.2.2.2⟩
theorem BS.exa {Z : State} {h : Heap} {sb va : Addr} {kv : ClassId} {cap : Nat} {ys : List Int32} (B : BS Z h sb va kv cap ys) : Exa Z h sb "java/lang/StringBuilder" := B.1
theorem BS.lt {Z : State} {h : Heap} {sb va : Addr} {kv : ClassId} {cap : Nat} {ys : List Int32} (B : BS Z h sb va kv cap ys) : sb < h.size := B.1.lt
theorem BS.blt {Z : State} {h : Heap} {sb va : Addr} {kv : ClassId} {cap : Nat} {ys : List Int32} (B : BS Z h sb va kv cap ys) : va < h.size := B.2.2.2.2.1.elim (fun q => q.2.1.lt) (fun q => q.2.1.lt)
theorem BS.vx {Z : State} {h : Heap} {sb va : Addr} {kv : ClassId} {cap : Nat} {ys : List Int32} (B : BS Z h sb va kv cap ys) : InH h va := B.blt
def nc (cap nd : Nat) : Nat := if nd ≤ cap then cap else max nd (2 * cap + 2)
theorem nc_sm {cap nd : Nat} (h : nd ≤ cap) : nc cap nd = cap := if_pos h
theorem nc_big {cap nd : Nat} (h : cap < nd) : nc cap nd = max nd (2 * cap + 2) := if_neg (by omega)
theorem own_big {n : Nat} (h : n ≤ 404) : Int32.ofNat n < (1073741823 : Int32) := (n_lt (a := n) (b := 1073741823) (by omega) (by omega)).mpr (by omega)
theorem own_big2 {n : Nat} (h : n ≤ 8000) : ¬ (2147483639 : Int32) < Int32.ofNat n := fun q => absurd ((n_lt (a := 2147483639) (b := n) (by omega) (by omega)).mp q) (by omega)
theorem own_nmax {n : Nat} (h : n ≤ 8000) : ¬ Int32.ofNat n = (2147483647 : Int32) := fun q => absurd ((n_eq (a := n) (b := 2147483647) (by omega) (by omega)).mp q) (by omega)
theorem own_cl {n cap : Nat} (h : n ≤ cap) (hb : n < 2147483648) : (Int32.ofNat n).toNatClampNeg ≤ cap := by rw [n_nat hb]; exact h
theorem own_cget {cs : List Int32} {i : Nat} {d : Value} (h : i < cs.length) (hs : cs.length < 2147483648) : (cs.map Value.int).getD (Int32.ofNat i).toNatClampNeg d = .int (cs.getD i 0) := by
  rw [n_nat (by omega)]
  simp [List.getD_eq_getElem?_getD, h]
theorem own_take1 {cs : List Int32} {i : Nat} (h : i < cs.length) : cs.take i ++ [cs.getD i 0] = cs.take (i + 1) := by
  rw [List.take_add_one, List.getD_eq_getElem?_getD, List.getElem?_eq_getElem h]
  rfl
theorem own_setapp {vs : List Value} {d v : Value} {i : Nat} (h : vs.length = i) : (vs ++ List.replicate 1 d).set i v = vs ++ [v] := by
  subst h
  simp
theorem own_LBs {cs : List Int32} {i : Nat} {d : Value} (h : i < cs.length) : (LB (cs.take i) ++ List.replicate 1 d).set i (.int (cs.getD i 0).toInt8.toInt32) = LB (cs.take (i + 1)) := by
  rw [own_setapp (by simp; omega), ← own_take1 h]
  simp [LB]
theorem own_tk {cs : List Int32} {i : Nat} (hl : ∀ c ∈ cs.take i, ¬ (255 : Int32) < c) (h : i < cs.length) (q : ¬ (255 : Int32) < cs.getD i 0) : ∀ c ∈ cs.take (i + 1), ¬ (255 : Int32) < c := by
  intro c hc
  rw [← own_take1 h] at hc
  rcases List.mem_append.mp hc with k | k
  · exact hl c k
  · cases List.mem_singleton.mp k
    exact q
theorem own_wlen : ∀ ds : List Int32, (StrChars.Road.wideBytes ds).length = 2 * ds.length
  | [] => rfl
  | c :: r => by
    have q := own_wlen r
    simp [StrChars.Road.wideBytes, q]
    omega
theorem own_wapp : ∀ (ds es : List Int32), StrChars.Road.wideBytes (ds ++ es) = StrChars.Road.wideBytes ds ++ StrChars.Road.wideBytes es
  | [], es => rfl
  | c :: r, es => by
    have q := own_wapp r es
    show _ :: _ :: StrChars.Road.wideBytes (r ++ es) = _ :: _ :: (StrChars.Road.wideBytes r ++ _)
    rw [q]
theorem own_app1 {vs : List Value} {n : Nat} {d v : Value} (h : vs.length = n) : (vs ++ List.replicate 1 d).set n v = vs ++ [v] := own_setapp h
theorem own_app2 (ds : List Int32) (c : Int32) {d : Value} : ((StrChars.Road.wideBytes ds ++ [Value.int c.toInt8.toInt32]) ++ List.replicate 1 d).set (2 * ds.length + 1) (Value.int (c >>> ((8 : Int32) &&& 31)).toInt8.toInt32) = StrChars.Road.wideBytes (ds ++ [c]) := by
  rw [own_setapp (by simp [own_wlen]), own_wapp, List.append_assoc]
  rfl
theorem own_ush1 {n : Nat} (h0 : 0 < n) (h : n ≤ 404) : (((Int32.ofNat n - Int32.ofNat (2 * n)).toUInt32 >>> ((31 : Int32) &&& 31).toUInt32).toInt32) = 1 := by
  have a := c_iushr (Int32.ofNat n - Int32.ofNat (2 * n)) 31 31 (by decide) (by decide)
  have b := c_isub (Int32.ofNat n) (Int32.ofNat (2 * n))
  rw [n_toInt (by omega), n_toInt (by omega)] at b
  have u := (Int32.ofNat n - Int32.ofNat (2 * n)).toInt_lt
  have u' := (Int32.ofNat n - Int32.ofNat (2 * n)).le_toInt
  have e : (1 : Int32).toInt = 1 := rfl
  apply Int32.toInt_inj.mp
  rw [a, e]
  omega
theorem own_keepn {h0 h h' : Heap} {b : Addr} (K : Keep h0 h []) (K' : Keep h h' [b]) (g : h0.size ≤ b) : Keep h0 h' [] := Keep.trans K K' (allS (Or.inr g) all0)
theorem own_or3 {o k n : Nat} (ho : o < 2147483648) (hk : k < 2147483648) (hn : n < 2147483648) : ¬ ((Int32.ofNat n ||| Int32.ofNat o) ||| Int32.ofNat k) < (0 : Int32) := by
  have a := (c_orS (Int32.ofNat n) (Int32.ofNat o)).1 (by rw [n_toInt hn]; omega) (by rw [n_toInt ho]; omega)
  have b := (c_orS (Int32.ofNat n ||| Int32.ofNat o) (Int32.ofNat k)).1 a (by rw [n_toInt hk]; omega)
  rw [Int32.lt_iff_toInt_lt]
  have e : (0 : Int32).toInt = 0 := rfl
  omega
theorem own_m8 {c : Int32} (h : ¬ c < 0 ∧ ¬ (255 : Int32) < c) : (c.toInt8.toInt32 &&& (255 : Int32)) = c := by
  rw [Int32.lt_iff_toInt_lt, Int32.lt_iff_toInt_lt] at h
  have e0 : (0 : Int32).toInt = 0 := rfl
  have e1 : (255 : Int32).toInt = 255 := rfl
  have b1 := c_i2b c
  have m1 := c_mask c.toInt8.toInt32 255 8 (by decide) (by decide)
  exact Int32.toInt_inj.mp (by omega)
theorem own_ch8 {c : Int32} (h : ¬ c < 0 ∧ ¬ (255 : Int32) < c) : nar .char ((c.toInt8.toInt32 &&& (255 : Int32)).toUInt32.toUInt16.toUInt32.toInt32) = c := by
  rw [own_m8 h]
  rw [Int32.lt_iff_toInt_lt, Int32.lt_iff_toInt_lt] at h
  have e0 : (0 : Int32).toInt = 0 := rfl
  have e1 : (255 : Int32).toInt = 255 := rfl
  have a := c_i2c c
  have e : c.toUInt32.toUInt16.toUInt32.toInt32 = c := Int32.toInt_inj.mp (by omega)
  rw [e]
  exact e
theorem own_maxL {x z : Nat} (h : x < z) : max x z = z := by omega
theorem own_maxR {x z : Nat} (h : ¬ x < z) : max x z = x := by omega
theorem own_le0 {n N : Nat} (h : n ≤ N) (hb : N < 2147483648) : (0 : Int32).toNatClampNeg + (Int32.ofNat n).toNatClampNeg ≤ (Int32.ofNat N).toNatClampNeg := by
  rw [n_nat (by omega), n_nat hb]
  show 0 + n ≤ N
  omega
theorem own_leA {d n N : Nat} (h : d + n ≤ N) (hb : N < 2147483648) (hd : d < 2147483648) : (Int32.ofNat d).toNatClampNeg + (Int32.ofNat n).toNatClampNeg ≤ (Int32.ofNat N).toNatClampNeg := by
  rw [n_nat (by omega), n_nat hb, n_nat (by omega)]
  exact h
theorem own_rng {vs : List Value} {m : Nat} {d : Value} (h : m ≤ vs.length) : vs.take m = (List.range m).map fun i => vs.getD i d := by
  apply List.ext_getElem
  · simp; omega
  · intro i h1 h2
    simp at h1 h2 ⊢
    rw [List.getElem?_eq_getElem (by omega)]
    rfl
theorem own_us {vs : List Value} {m : Nat} {d : Value} (hb : m < 2147483648) (h : m ≤ vs.length) : vs.take m = (List.range (Int32.ofNat m).toNatClampNeg).map fun i => vs.getD ((0 : Int32).toNatClampNeg + i) d := by
  rw [n_nat hb, own_rng h]
  congr 1
  funext i
  rw [show (0 : Int32).toNatClampNeg = 0 from rfl, Nat.zero_add]
theorem own_ln0 {m : Nat} {d : Value} (hb : m < 2147483648) : (0 : Int32).toNatClampNeg + (Int32.ofNat m).toNatClampNeg ≤ (List.replicate m d).length := by
  rw [n_nat hb, List.length_replicate]
  show 0 + m ≤ m
  omega
theorem own_cat {vs : List Value} {m : Nat} {d : Value} (hb : m < 2147483648) (h : m ≤ vs.length) : (List.replicate m d).take (0 : Int32).toNatClampNeg ++ vs.take m ++ (List.replicate m d).drop ((0 : Int32).toNatClampNeg + (Int32.ofNat m).toNatClampNeg) = vs.take m := by
  rw [n_nat hb, show (0 : Int32).toNatClampNeg = 0 from rfl, Nat.zero_add]
  simp
theorem own_us2 {vs : List Value} {N : Nat} {d : Value} (hb : N < 2147483648) (h : vs.length ≤ N) : vs ++ List.replicate (N - vs.length) d = (List.range (Int32.ofNat N).toNatClampNeg).map fun i => vs.getD ((0 : Int32).toNatClampNeg + i) d := by
  have q := own_rng (vs := vs ++ List.replicate (N - vs.length) d) (m := N) (d := d) (by simp; omega)
  rw [List.take_of_length_le (by simp; omega)] at q
  rw [n_nat hb, q]
  congr 1
  funext i
  rw [show (0 : Int32).toNatClampNeg = 0 from rfl, Nat.zero_add]
  exact pad_rep vs d _ i
theorem own_cat2 {vs : List Value} {N : Nat} {d : Value} (hb : N < 2147483648) (h : vs.length ≤ N) : (List.replicate N d).take (0 : Int32).toNatClampNeg ++ (vs ++ List.replicate (N - vs.length) d) ++ (List.replicate N d).drop ((0 : Int32).toNatClampNeg + (Int32.ofNat N).toNatClampNeg) = vs ++ List.replicate (N - vs.length) d := by
  rw [n_nat hb, show (0 : Int32).toNatClampNeg = 0 from rfl, Nat.zero_add]
  simp
theorem own_usA {vs : List Value} {m : Nat} {d : Value} (hb : m < 2147483648) (h : vs.length = m) : vs = (List.range (Int32.ofNat m).toNatClampNeg).map fun i => vs.getD ((0 : Int32).toNatClampNeg + i) d := by
  have q := own_us (d := d) hb (Nat.le_of_eq h.symm)
  rw [List.take_of_length_le (Nat.le_of_eq h)] at q
  exact q
theorem own_hlA {us vs : List Value} {a b : Nat} {d : Value} (ha : us.length = a) (hb : a + b < 2147483648) : (Int32.ofNat a).toNatClampNeg + (Int32.ofNat b).toNatClampNeg ≤ (us ++ List.replicate b d).length := by
  rw [n_nat (by omega), n_nat (by omega), List.length_append, List.length_replicate, ha]
  exact Nat.le_refl _
theorem own_catA {us vs : List Value} {a b : Nat} {d : Value} (ha : us.length = a) (hb : a + b < 2147483648) : (us ++ List.replicate b d).take (Int32.ofNat a).toNatClampNeg ++ vs ++ (us ++ List.replicate b d).drop ((Int32.ofNat a).toNatClampNeg + (Int32.ofNat b).toNatClampNeg) = us ++ vs := by
  rw [n_nat (by omega), n_nat (by omega)]
  subst ha
  rw [List.take_left' rfl, List.drop_of_length_le (by simp), List.append_nil]
theorem own_usL {xs : List Int32} {d : Value} (hb : xs.length < 2147483648) : LB xs = (List.range (Int32.ofNat xs.length).toNatClampNeg).map fun i => (LB xs).getD ((0 : Int32).toNatClampNeg + i) d := own_usA hb (by simp)
theorem own_usW {xs : List Int32} {d : Value} (hb : 2 * xs.length < 2147483648) : StrChars.Road.wideBytes xs = (List.range (Int32.ofNat (2 * xs.length)).toNatClampNeg).map fun i => (StrChars.Road.wideBytes xs).getD ((0 : Int32).toNatClampNeg + i) d := own_usA hb (own_wlen xs)
theorem own_hlL {ys xs : List Int32} {d : Value} (h : ys.length < 1000000) (hb : xs.length < 1000000) : (Int32.ofNat ys.length).toNatClampNeg + (Int32.ofNat xs.length).toNatClampNeg ≤ (LB ys ++ List.replicate xs.length d).length := own_hlA (vs := []) (by simp) (by omega)
theorem own_hlW {ys xs : List Int32} {d : Value} (h : ys.length < 1000000) (hb : xs.length < 1000000) : (Int32.ofNat (2 * ys.length)).toNatClampNeg + (Int32.ofNat (2 * xs.length)).toNatClampNeg ≤ (StrChars.Road.wideBytes ys ++ List.replicate (2 * xs.length) d).length := own_hlA (vs := []) (own_wlen ys) (by omega)
theorem own_catL {ys xs : List Int32} {d : Value} (h : ys.length < 1000000) (hb : xs.length < 1000000) : (LB ys ++ List.replicate xs.length d).take (Int32.ofNat ys.length).toNatClampNeg ++ LB xs ++ (LB ys ++ List.replicate xs.length d).drop ((Int32.ofNat ys.length).toNatClampNeg + (Int32.ofNat xs.length).toNatClampNeg) = LB (ys ++ xs) := by
  rw [own_catA (by simp) (by omega)]
  simp [LB]
theorem own_catW {ys xs : List Int32} {d : Value} (h : ys.length < 1000000) (hb : xs.length < 1000000) : (StrChars.Road.wideBytes ys ++ List.replicate (2 * xs.length) d).take (Int32.ofNat (2 * ys.length)).toNatClampNeg ++ StrChars.Road.wideBytes xs ++ (StrChars.Road.wideBytes ys ++ List.replicate (2 * xs.length) d).drop ((Int32.ofNat (2 * ys.length)).toNatClampNeg + (Int32.ofNat (2 * xs.length)).toNatClampNeg) = StrChars.Road.wideBytes (ys ++ xs) := by
  rw [own_catA (own_wlen ys) (by omega), own_wapp]
theorem own_tkR {cs : List Int32} (h : ∀ c ∈ cs, Rg c) (n : Nat) : ∀ c ∈ cs.take n, Rg c := fun c hc => h c (List.mem_of_mem_take hc)
theorem own_LBt {cs : List Int32} {n : Nat} : LB (cs.take n) = (LB cs).take n := by simp [LB, List.map_take]
theorem own_wtk {cs : List Int32} : ∀ (n : Nat), StrChars.Road.wideBytes (cs.take n) = (StrChars.Road.wideBytes cs).take (2 * n) := by
  intro n
  induction cs generalizing n with
  | nil => simp [StrChars.Road.wideBytes]
  | cons c r ih =>
    cases n with
    | zero => rfl
    | succ n =>
      have q := ih n
      show _ :: _ :: StrChars.Road.wideBytes (r.take n) = _
      rw [q, show 2 * (n + 1) = 2 * n + 1 + 1 from by omega]
      rfl
theorem own_tkget {cs : List Int32} {k n : Nat} (h : k < n) : (cs.take n).getD k 0 = cs.getD k 0 := by
  rw [List.getD_eq_getElem?_getD, List.getD_eq_getElem?_getD, List.getElem?_take_of_lt h]
theorem own_shl0 (x : Int32) : x <<< ((0 : Int32) &&& 31) = x := by
  have a := c_ishl x 0 0 (by decide)
  apply own_eqI
  omega
theorem own_nc0 {cap nd : Nat} (h : cap < nd) : cap + max (nd - cap) (cap + 2) = max nd (2 * cap + 2) := by omega
theorem own_nc1 {cap nd : Nat} (h : cap < nd) : 2 * cap + max (2 * nd - 2 * cap) (2 * cap + 4) = 2 * max nd (2 * cap + 2) := by omega
theorem own_sle {a b : Nat} (h : a ≤ b) (hb : b < 1000000) : ¬ (0 : Int32) < Int32.ofNat a - Int32.ofNat b := by
  have q := c_isub (Int32.ofNat a) (Int32.ofNat b)
  rw [n_toInt (by omega), n_toInt (by omega)] at q
  have u := (Int32.ofNat a - Int32.ofNat b).toInt_lt
  have u' := (Int32.ofNat a - Int32.ofNat b).le_toInt
  rw [Int32.lt_iff_toInt_lt]
  have e : (0 : Int32).toInt = 0 := rfl
  omega
theorem own_ge2 {Zs : Nat} {h : Nat} {va v2 : Addr} (hz : Zs ≤ h) (g : Zs ≤ va) (q : v2 = va ∨ h ≤ v2) : Zs ≤ v2 := q.elim (fun e => e ▸ g) (fun e => Nat.le_trans hz e)
theorem own_ne2 {h : Nat} {sb va v2 : Addr} (n : sb ≠ va) (hs : sb < h) (q : v2 = va ∨ h ≤ v2) : sb ≠ v2 := q.elim (fun e => e ▸ n) (fun e => Nat.ne_of_lt (Nat.lt_of_lt_of_le hs e))
theorem own_org0 {h0 h : Nat} {va v2 : Addr} (q : v2 = va ∨ h ≤ v2) (e : h0 ≤ h) : v2 = va ∨ h0 ≤ v2 := q.imp id (fun x => Nat.le_trans e x)
theorem own_org {h0 h : Nat} {va v1 v2 : Addr} (q : v2 = v1 ∨ h ≤ v2) (g : h0 ≤ v1) (e : h0 ≤ h) : v2 = va ∨ h0 ≤ v2 := Or.inr (q.elim (fun x => x ▸ g) (fun x => Nat.le_trans e x))
theorem own_allA {ys xs : List Int32} (h1 : ∀ c ∈ ys, ¬ c < 0 ∧ ¬ (255 : Int32) < c) (h2 : ∀ c ∈ xs, ¬ c < 0 ∧ ¬ (255 : Int32) < c) : ∀ c ∈ ys ++ xs, ¬ (255 : Int32) < c := fun c hc => (List.mem_append.mp hc).elim (fun k => (h1 c k).2) (fun k => (h2 c k).2)
theorem own_allR {ys xs : List Int32} (h1 : ∀ c ∈ ys, Rg c) (h2 : ∀ c ∈ xs, Rg c) : ∀ c ∈ ys ++ xs, Rg c := fun c hc => (List.mem_append.mp hc).elim (h1 c) (h2 c)
theorem own_exR {ys xs : List Int32} (h : ∃ c ∈ xs, (255 : Int32) < c) : ∃ c ∈ ys ++ xs, (255 : Int32) < c := by
  obtain ⟨c, k, q⟩ := h
  exact ⟨c, List.mem_append_right _ k, q⟩
theorem own_exL {ys xs : List Int32} (h : ∃ c ∈ ys, (255 : Int32) < c) : ∃ c ∈ ys ++ xs, (255 : Int32) < c := by
  obtain ⟨c, k, q⟩ := h
  exact ⟨c, List.mem_append_left _ k, q⟩
/-- the quoted text -/
def quoteF (cs : List Int32) : List Int32 := [34] ++ (if cs.length ≤ 200 then cs else cs.take 197 ++ [46, 46, 46]) ++ [34]
theorem own_qlS {cs : List Int32} (h : cs.length ≤ 200) : (quoteF cs).length = cs.length + 2 := by
  unfold quoteF
  rw [if_pos h]
  simp
theorem own_qlB {cs : List Int32} (h : 200 < cs.length) : (quoteF cs).length = 202 := by
  unfold quoteF
  rw [if_neg (by omega)]
  simp
  omega
theorem own_ql4 (cs : List Int32) : (quoteF cs).length ≤ 400 := by
  rcases Nat.lt_or_ge 200 cs.length with h | h
  · rw [own_qlB h]; omega
  · rw [own_qlS h]; omega
theorem own_q0 {cs : List Int32} : (quoteF cs).getD 0 0 = 34 := by
  unfold quoteF
  rfl
theorem own_app_l {a b : List Int32} {i : Nat} (h : i < a.length) : (a ++ b).getD i 0 = a.getD i 0 := by
  rw [List.getD_eq_getElem?_getD, List.getD_eq_getElem?_getD, List.getElem?_append_left h]
theorem own_app_r {a b : List Int32} {i : Nat} (h : a.length ≤ i) : (a ++ b).getD i 0 = b.getD (i - a.length) 0 := by
  rw [List.getD_eq_getElem?_getD, List.getD_eq_getElem?_getD, List.getElem?_append_right h]
theorem own_qe {cs : List Int32} {r : Nat} (h : r + 1 = (quoteF cs).length) : (quoteF cs).getD r 0 = 34 := by
  unfold quoteF at h ⊢
  rw [List.length_append] at h
  have e : ([34] : List Int32).length = 1 := rfl
  rw [own_app_r (by omega)]
  have e2 : r - ([34] ++ (if cs.length ≤ 200 then cs else cs.take 197 ++ [46, 46, 46])).length = 0 := by omega
  rw [e2]
  rfl
theorem own_qs {cs : List Int32} {r : Nat} (h : cs.length ≤ 200) (h0 : 0 < r) (h1 : r ≤ cs.length) : (quoteF cs).getD r 0 = cs.getD (r - 1) 0 := by
  unfold quoteF
  rw [if_pos h, own_app_l (by simp; omega), own_app_r (by simp; omega)]
  rfl
theorem own_qb {cs : List Int32} {r : Nat} (h : 200 < cs.length) (h0 : 0 < r) (h1 : r ≤ 197) : (quoteF cs).getD r 0 = cs.getD (r - 1) 0 := by
  unfold quoteF
  rw [if_neg (by omega), own_app_l (by simp; omega), own_app_r (by simp; omega), own_app_l (by simp; omega), own_tkget (by simp; omega)]
  rfl
theorem own_qd {cs : List Int32} {r : Nat} (h : 200 < cs.length) (h0 : 197 < r) (h1 : r < 201) : (quoteF cs).getD r 0 = 46 := by
  unfold quoteF
  rw [if_neg (by omega), own_app_l (by simp; omega), own_app_r (by simp; omega), own_app_r (by simp; omega)]
  have e : (cs.take 197).length = 197 := by rw [List.length_take]; omega
  have e2 : r - ([34] : List Int32).length - (cs.take 197).length = 0 ∨ r - ([34] : List Int32).length - (cs.take 197).length = 1 ∨ r - ([34] : List Int32).length - (cs.take 197).length = 2 := by
    rw [e]
    show r - 1 - 197 = 0 ∨ r - 1 - 197 = 1 ∨ r - 1 - 197 = 2
    omega
  rcases e2 with e2 | e2 | e2 <;> rw [e2] <;> rfl
def sizes635 : List Int32 := [0, 1, 2, 3, 4, 196, 197, 198, 199, 200, 201, 202, 203, 204, 250, 400]
theorem own_ix (x : Int32) : ¬ (x &&& (15 : Int32)) < 0 ∧ (x &&& (15 : Int32)) < (16 : Int32) := by
  have m := c_mask x 15 4 (by decide) (by decide)
  rw [Int32.lt_iff_toInt_lt, Int32.lt_iff_toInt_lt]
  have e0 : (0 : Int32).toInt = 0 := rfl
  have e1 : (16 : Int32).toInt = 16 := rfl
  omega
theorem own_size (x : Int32) : ∃ n : Nat, ([(.int (0 : Int32)), (.int (1 : Int32)), (.int (2 : Int32)), (.int (3 : Int32)), (.int (4 : Int32)), (.int (196 : Int32)), (.int (197 : Int32)), (.int (198 : Int32)), (.int (199 : Int32)), (.int (200 : Int32)), (.int (201 : Int32)), (.int (202 : Int32)), (.int (203 : Int32)), (.int (204 : Int32)), (.int (250 : Int32)), (.int (400 : Int32))] : List Value).getD (x &&& (15 : Int32)).toNatClampNeg (.int (0 : Int32)) = .int (Int32.ofNat n) ∧ (n < 5 ∨ (100 < n ∧ n ≤ 400)) := by
  have m := c_mask x 15 4 (by decide) (by decide)
  have k : (x &&& (15 : Int32)).toNatClampNeg < 16 := by rw [Int32.toNatClampNeg]; omega
  generalize (x &&& (15 : Int32)).toNatClampNeg = i at k
  have h : i = 0 ∨ i = 1 ∨ i = 2 ∨ i = 3 ∨ i = 4 ∨ i = 5 ∨ i = 6 ∨ i = 7 ∨ i = 8 ∨ i = 9 ∨ i = 10 ∨ i = 11 ∨ i = 12 ∨ i = 13 ∨ i = 14 ∨ i = 15 := by omega
  rcases h with rfl | rfl | rfl | rfl | rfl | rfl | rfl | rfl | rfl | rfl | rfl | rfl | rfl | rfl | rfl | rfl
  · exact ⟨0, rfl, by omega⟩
  · exact ⟨1, rfl, by omega⟩
  · exact ⟨2, rfl, by omega⟩
  · exact ⟨3, rfl, by omega⟩
  · exact ⟨4, rfl, by omega⟩
  · exact ⟨196, rfl, by omega⟩
  · exact ⟨197, rfl, by omega⟩
  · exact ⟨198, rfl, by omega⟩
  · exact ⟨199, rfl, by omega⟩
  · exact ⟨200, rfl, by omega⟩
  · exact ⟨201, rfl, by omega⟩
  · exact ⟨202, rfl, by omega⟩
  · exact ⟨203, rfl, by omega⟩
  · exact ⟨204, rfl, by omega⟩
  · exact ⟨250, rfl, by omega⟩
  · exact ⟨400, rfl, by omega⟩
theorem own_n0 {n : Nat} (h : (0 : Int32) < Int32.ofNat n) : ¬ Int32.ofNat n = 0 := fun q => by rw [q] at h; exact absurd h (by decide)
theorem own_idx {x k : Int32} {n : Nat} (h : ((x &&& (2147483647 : Int32)) % Int32.ofNat n) = k) (h0 : (0 : Int32) < Int32.ofNat n) (hn : n ≤ 400) : ∃ i : Nat, i < n ∧ k = Int32.ofNat i := by
  have m := c_mask x 2147483647 31 (by decide) (by decide)
  have p : 0 < n := by
    rcases Nat.eq_zero_or_pos n with q | q
    · rw [q] at h0; exact absurd h0 (by decide)
    · exact q
  have r := (c_iremV (x &&& 2147483647) (Int32.ofNat n)).1 (by omega) (by rw [n_toInt (by omega)]; omega)
  rw [h, n_toInt (by omega)] at r
  refine ⟨k.toInt.toNat, by omega, ?_⟩
  rw [← Int32.toInt_inj, n_toInt (by omega)]
  omega
theorem own_nzq {n : Nat} (h0 : 0 < n) (h : n ≤ 4000) : ¬ Int32.ofNat n = (0 : Int32) := fun q => absurd ((n_eq (a := n) (b := 0) (by omega) (by omega)).mp q) (by omega)
theorem own_set0 (n i : Nat) (x : Int32) : (List.replicate n (Value.int (0 : Int32))).set i (.int x) = ((List.replicate n (0 : Int32)).set i x).map Value.int := by
  rw [List.map_set, List.map_replicate]
theorem own_set1 (l : List Int32) (j : Nat) (y : Int32) : (l.map Value.int).set j (.int y) = (l.set j y).map Value.int := by
  rw [List.map_set]
theorem own_repI {n : Nat} : (List.replicate n (0 : Int32)).map Value.int = List.replicate n (Value.int (0 : Int32)) := List.map_replicate
theorem own_rep (n : Nat) : ∀ c ∈ List.replicate n (0 : Int32), Rg c := fun c hc => by
  rw [(List.mem_replicate.mp hc).2]
  exact ⟨by decide, by decide⟩
theorem own_setR {l : List Int32} {i : Nat} {x : Int32} (h : ∀ c ∈ l, Rg c) (hx : Rg x) : ∀ c ∈ l.set i x, Rg c := fun c hc => by
  rcases List.mem_or_eq_of_mem_set hc with k | k
  · exact h c k
  · rw [k]; exact hx

set_option maxRecDepth 65536 in
set_option maxHeartbeats 40000000 in
theorem c_strE4 {l : Launch} {Z : State} {a0 : Array Value} (hw : W a0 Z) (a ar : Addr) (h0 : Heap) (E : Exa Z h0 a "java/lang/String") (ga : Z.heap.size ≤ a) (Fv : Fld Z h0 a "java/lang/String" "value" "[B" .null) (Fc : Fld Z h0 a "java/lang/String" "coder" "B" (.int (0 : Int32))) :
    Con l Z EL0 (⟨"java/lang/String", "<init>", "([CIILjava/lang/Void;)V"⟩ : MethodName) jdk_42_method_149_code 6 none ({ frames := 1, cells := 4, slots := 8, locals := 12 } : Room) #[(.ref a), (.ref ar), (.int (0 : Int32)), (.int (0 : Int32)), .null] h0 [a] (fun v h' Sf => v = none ∧ Keep h0 h' [a] ∧ ∃ (b : Addr) (kb : ClassId), LS Z h' a b kb []) := by
  have hpn : plainName "java/lang/String" = true := by first | (simp [plainName, overriddenIn]; done) | decide +kernel
  refine Con.intro (plainFor_of_name hpn) ?_
  intro p e s m below meth c T X hss
  have S_a := hss a (by simp)
  refine Goes.cast (g' := mkF m 0 #[.val (.ref a), .val (.ref ar), .val (.int (0 : Int32)), .val (.int (0 : Int32)), .val .null, .unset] []) (by first | (simp [entryFrame, mkF, argsToLocals, Value.category]; done) | rfl) ?_
  refine o_aloadN X d_jdk_42_method_149_0 rfl rfl (q := 1) rfl ?_
  refine o_initO X (w12 hw) (w13 hw) (w14 hw) d_jdk_42_method_149_1 rfl (by decide) (Nat.le_of_ble_eq_true rfl) (q := 4) rfl ?_
  intro T1 X1
  refine o_iloadN X1 d_jdk_42_method_149_4 rfl (q := 5) rfl ?_
  refine o_ifN X1 d_jdk_42_method_149_5 (by decide) (q := 8) rfl ?_
  refine o_aloadN X1 d_jdk_42_method_149_8 rfl rfl (q := 9) rfl ?_
  refine o_ldcS X1 (n := 0) (vs := []) (z := 0) (w15 hw) (wS0 hw) (List.mem_of_getElem? (i := 2) rfl) ⟨by decide, by decide⟩ (by decide) (by decide) d_jdk_42_method_149_9 (by decide) (by decide) (by decide) (by decide) (q := 11) rfl ?_
  intro vm2 T2 h2 a2 b2 k2 X2 E2 R2 A2 Fc2 Fv2 V2 ne2
  refine o_getF X2 Fv2 (host := "") (Or.inl (w21 hw)) Via.refl d_jdk_42_method_149_11 (q := 14) rfl ?_
  intro T3 X3
  have f4 := (Fv.ext E2)
  have f5 := (E.ext E2)
  have f7 := (CHr.safe R2 (E.lt) S_a)
  refine o_putF X3 f4 f5 ga f7 (host := "") (Or.inl (w21 hw)) Via.refl (Or.inr ⟨(w17 hw), rfl, rfl⟩) (w3 hw) (ty := (.array .byte)) (by decide) rfl rfl d_jdk_42_method_149_14 (q := 17) rfl ?_
  intro T6 h6 l6 X6 W6 R6 F6
  refine o_aloadN X6 d_jdk_42_method_149_17 rfl rfl (q := 18) rfl ?_
  refine o_ldcS X6 (n := 0) (vs := []) (z := 0) (w15 hw) (wS0 hw) (List.mem_of_getElem? (i := 2) rfl) ⟨by decide, by decide⟩ (by decide) (by decide) d_jdk_42_method_149_18 (by decide) (by decide) (by decide) (by decide) (q := 20) rfl ?_
  intro vm8 T8 h8 a8 b8 k8 X8 E8 R8 A8 Fc8 Fv8 V8 ne8
  refine o_getF X8 Fc8 (host := "") (Or.inl (w22 hw)) Via.refl d_jdk_42_method_149_20 (q := 23) rfl ?_
  intro T9 X9
  have f10 := (((Fc.ext E2).other W6 (Or.inr (slot_ne (Or.inr (w18 hw)) (Or.inr (w17 hw)) (by decide) (t := .byte) (t' := (.array .byte)) (by decide) (by decide)))).ext E8)
  have f11 := ((f5.wr W6).ext E8)
  have f13 := (CHr.safe R8 (F6.lt) (CHr.safe R6 (f5.lt) f7))
  refine o_putF X9 f10 f11 ga f13 (host := "") (Or.inl (w22 hw)) Via.refl (Or.inr ⟨(w18 hw), rfl, rfl⟩) (w3 hw) (ty := .byte) (by decide) (by decide) (by decide) d_jdk_42_method_149_23 (q := 26) rfl ?_
  intro T12 h12 l12 X12 W12 R12 F12
  have k14 := Keep.ext (Keep.refl h0 [a]) E2
  have k15 := Keep.wr k14 W6 (Or.inl (by simp))
  have k16 := Keep.ext k15 E8
  have k17 := Keep.wr k16 W12 (Or.inl (by simp))
  have f18 := (f11.wr W12)
  have f19 := ((F6.ext E8).other W12 (Or.inr (slot_ne (Or.inr (w17 hw)) (Or.inr (w18 hw)) (by decide) (t := (.array .byte)) (t' := .byte) (by decide) (by decide))))
  have f20 := (((V2.other W6 (Ne.symm (ne2 _ f7).2)).ext E8).other W12 (Ne.symm (ne2 _ f7).2))
  exact o_ret X12 d_jdk_42_method_149_26 (fun Sf hSf => ⟨rfl, k17, b2, k2, f18, F12, f19, f20, (fun c hc => nomatch hc), by decide⟩) (by decide) (by decide)
set_option maxRecDepth 65536 in
set_option maxHeartbeats 40000000 in
theorem c_strE {l : Launch} {Z : State} {a0 : Array Value} (hw : W a0 Z) (a ar : Addr) (h0 : Heap) (E : Exa Z h0 a "java/lang/String") (ga : Z.heap.size ≤ a) (Fv : Fld Z h0 a "java/lang/String" "value" "[B" .null) (Fc : Fld Z h0 a "java/lang/String" "coder" "B" (.int (0 : Int32))) {kc : ClassId} (Vb : Arv Z h0 ar kc .char (0 : Int32) [] (.int (0 : Int32))) :
    Con l Z EL0 (⟨"java/lang/String", "<init>", "([C)V"⟩ : MethodName) jdk_42_method_3_code 2 none ({ frames := 2, cells := 4, slots := 8, locals := 29 } : Room) #[(.ref a), (.ref ar)] h0 [a] (fun v h' Sf => v = none ∧ Keep h0 h' [a] ∧ ∃ (b : Addr) (kb : ClassId), LS Z h' a b kb []) := by
  have hpn : plainName "java/lang/String" = true := by first | (simp [plainName, overriddenIn]; done) | decide +kernel
  refine Con.intro (plainFor_of_name hpn) ?_
  intro p e s m below meth c T X hss
  have S_a := hss a (by simp)
  refine Goes.cast (g' := mkF m 0 #[.val (.ref a), .val (.ref ar)] []) (by first | (simp [entryFrame, mkF, argsToLocals, Value.category]; done) | rfl) ?_
  refine o_aloadN X d_jdk_42_method_3_0 rfl rfl (q := 1) rfl ?_
  refine o_aloadN X d_jdk_42_method_3_1 rfl rfl (q := 2) rfl ?_
  refine o_iconst X d_jdk_42_method_3_2 (w := 0) rfl (q := 3) rfl ?_
  refine o_aloadN X d_jdk_42_method_3_3 rfl rfl (q := 4) rfl ?_
  refine o_len X Vb d_jdk_42_method_3_4 (q := 5) rfl ?_
  refine o_null X d_jdk_42_method_3_5 (q := 6) rfl ?_
  refine o_spec X [(.ref ar), (.int (0 : Int32)), (.int (0 : Int32)), .null] (y' := (⟨"java/lang/String", "<init>", "([CIILjava/lang/Void;)V"⟩ : MethodName)) (c_strE4 hw a ar _ E ga Fv Fc) (allS ⟨E.lt, S_a⟩ all0) rfl (w8 hw) (w9 hw) (w11 hw) (w4 hw) (by decide) d_jdk_42_method_3_6 (rest := []) rfl rfl (lenOf pd0 rfl) rfl (by decide) (Nat.le_of_ble_eq_true rfl) (by decide) (by decide) (q := 9) rfl ?_
  intro v1 vm1 T1 h1 l1 X1 R1 q1
  obtain ⟨rfl, K1, b1, kb1, L1⟩ := q1
  show Goes p e below _ T1 (mkF m 9 #[.val (.ref a), .val (.ref ar)] [])
  have k2 := Keep.trans (Keep.refl h0 [a]) K1 (allS (Or.inl (by simp)) all0)
  exact o_ret X1 d_jdk_42_method_3_9 (fun Sf hSf => ⟨rfl, k2, b1, kb1, L1⟩) (by decide) (by decide)
set_option maxRecDepth 65536 in
set_option maxHeartbeats 40000000 in
theorem c_cmp5 {l : Launch} {Z : State} {a0 : Array Value} (hw : W a0 Z) (ar b : Addr) (cs : List Int32) (h0 : Heap) {ka kb : ClassId} (Va : Arv Z h0 ar ka .char (Int32.ofNat cs.length) (cs.map Value.int) (.int (0 : Int32))) (Vb : Arv Z h0 b kb .byte (Int32.ofNat cs.length) [] (.int (0 : Int32))) (gb : Z.heap.size ≤ b) (hne : ar ≠ b) (hN : cs.length ≤ 400) :
    Con l Z EL0 (⟨"java/lang/StringUTF16", "compress", "([CI[BII)I"⟩ : MethodName) jdk_52_method_21_code 7 (some .int) ({ frames := 0, cells := 0, slots := 0, locals := 0 } : Room) #[(.ref ar), (.int (0 : Int32)), (.ref b), (.int (0 : Int32)), (.int (Int32.ofNat cs.length))] h0 [b] (fun v h' Sf => (v = some (.int (Int32.ofNat cs.length)) ∧ Keep h0 h' [b] ∧ Arv Z h' b kb .byte (Int32.ofNat cs.length) (LB cs) (.int (0 : Int32)) ∧ ∀ c ∈ cs, ¬ (255 : Int32) < c) ∨ (∃ k, k < cs.length ∧ v = some (.int (Int32.ofNat k)) ∧ Keep h0 h' [b] ∧ (255 : Int32) < cs.getD k 0)) := by
  have hpn : plainName "java/lang/StringUTF16" = true := by first | (simp [plainName, overriddenIn]; done) | decide +kernel
  refine Con.intro (plainFor_of_name hpn) ?_
  intro p e s m below meth c T X hss
  have S_b := hss b (by simp)
  refine Goes.cast (g' := mkF m 0 #[.val (.ref ar), .val (.int (0 : Int32)), .val (.ref b), .val (.int (0 : Int32)), .val (.int (Int32.ofNat cs.length)), .unset, .unset] []) (by first | (simp [entryFrame, mkF, argsToLocals, Value.category]; done) | rfl) ?_
  refine o_iconst X d_jdk_52_method_21_0 (w := 0) rfl (q := 1) rfl ?_
  refine o_istore X d_jdk_52_method_21_1 rfl (L' := #[.val (.ref ar), .val (.int (0 : Int32)), .val (.ref b), .val (.int (0 : Int32)), .val (.int (Int32.ofNat cs.length)), .val (.int (0 : Int32)), .unset]) rfl (q := 3) rfl ?_
  have loop : ∀ (k i : Nat) {vm : Vm} {T : State} {h : Heap} {locs : List Loc} (s6 : Slot), One s6 → i + k = cs.length → (∀ c ∈ cs.take i, ¬ (255 : Int32) < c) → Keep h0 h [b] → Arv Z h ar ka .char (Int32.ofNat cs.length) (cs.map Value.int) (.int (0 : Int32)) → Arv Z h b kb .byte (Int32.ofNat cs.length) (LB (cs.take i)) (.int (0 : Int32)) → Safe Z EL0 vm h b → On l Z EL0 p e ({ frames := 0, cells := 0, slots := 0, locals := 0 } : Room) s m #[(.ref ar), (.int (0 : Int32)), (.ref b), (.int (0 : Int32)), (.int (Int32.ofNat cs.length))] below meth c (⟨"java/lang/StringUTF16", "compress", "([CI[BII)I"⟩ : MethodName) jdk_52_method_21_code 7 (some .int) vm T h locs 0 0 → Goes p e below (FinQ Z EL0 s (fun v h' Sf => (v = some (.int (Int32.ofNat cs.length)) ∧ Keep h0 h' [b] ∧ Arv Z h' b kb .byte (Int32.ofNat cs.length) (LB cs) (.int (0 : Int32)) ∧ ∀ c ∈ cs, ¬ (255 : Int32) < c) ∨ (∃ k, k < cs.length ∧ v = some (.int (Int32.ofNat k)) ∧ Keep h0 h' [b] ∧ (255 : Int32) < cs.getD k 0)) (({ frames := 0, cells := 0, slots := 0, locals := 0 } : Room)).cells (({ frames := 0, cells := 0, slots := 0, locals := 0 } : Room)).slots) T (mkF m 3 #[.val (.ref ar), .val (.int (Int32.ofNat i)), .val (.ref b), .val (.int (Int32.ofNat i)), .val (.int (Int32.ofNat cs.length)), .val (.int (Int32.ofNat i)), s6] []) := by
    intro k
    induction k with
    | zero =>
      intro i vm T h locs s6 o6 hi hl Kp Va Vb Sb X
      obtain rfl : i = cs.length := by omega
      rw [List.take_length] at hl Vb
      refine o_iload X d_jdk_52_method_21_3 rfl (q := 5) rfl ?_
      refine o_iload X d_jdk_52_method_21_5 rfl (q := 7) rfl ?_
      refine o_icmpY X d_jdk_52_method_21_7 (flt (fun q => absurd ((n_lt (by omega) (by omega)).mp q) (by omega))).2.1 (by decide) (q := 44) (by decide) ?_
      refine o_iload X d_jdk_52_method_21_44 rfl (q := 46) rfl ?_
      exact o_retI X d_jdk_52_method_21_46 (fun Sf hSf => Or.inl ⟨rfl, Kp, Vb, hl⟩) (by decide) (by decide)
    | succ k ih =>
      intro i vm T h locs s6 o6 hi hl Kp Va Vb Sb X
      refine o_iload X d_jdk_52_method_21_3 rfl (q := 5) rfl ?_
      refine o_iload X d_jdk_52_method_21_5 rfl (q := 7) rfl ?_
      refine o_icmpN X d_jdk_52_method_21_7 (tlt ((n_lt (by omega) (by omega)).mpr (by omega))).2.1 (q := 10) rfl ?_
      refine o_aloadN X d_jdk_52_method_21_10 rfl rfl (q := 11) rfl ?_
      refine o_iloadN X d_jdk_52_method_21_11 rfl (q := 12) rfl ?_
      refine o_caload X Va (n_in (by omega) (by omega)) (v := .int (cs.getD i 0)) (own_cget (by omega) (by omega)) d_jdk_52_method_21_12 (q := 13) rfl ?_
      refine o_istore X d_jdk_52_method_21_13 rfl (L' := #[.val (.ref ar), .val (.int (Int32.ofNat i)), .val (.ref b), .val (.int (Int32.ofNat i)), .val (.int (Int32.ofNat cs.length)), .val (.int (Int32.ofNat i)), .val (.int (cs.getD i 0))]) (Jvm.Free.XS.store1 rfl o6 rfl) (q := 15) rfl ?_
      refine o_iload X d_jdk_52_method_21_15 rfl (q := 17) rfl ?_
      refine o_sipush X d_jdk_52_method_21_17 (w := 255) rfl (q := 20) rfl ?_
      by_cases hc20 : (255 : Int32) < (cs.getD i 0)
      · refine o_icmpN X d_jdk_52_method_21_20 (tlt hc20).2.2.2 (q := 23) rfl ?_
        refine o_iload X d_jdk_52_method_21_23 rfl (q := 25) rfl ?_
        exact o_retI X d_jdk_52_method_21_25 (fun Sf hSf => Or.inr ⟨i, by omega, rfl, Kp, hc20⟩) (by decide) (by decide)
      · refine o_icmpY X d_jdk_52_method_21_20 (flt hc20).2.2.2 (by decide) (q := 26) (by decide) ?_
        refine o_aloadN X d_jdk_52_method_21_26 rfl rfl (q := 27) rfl ?_
        refine o_iloadN X d_jdk_52_method_21_27 rfl (q := 28) rfl ?_
        refine o_iload X d_jdk_52_method_21_28 rfl (q := 30) rfl ?_
        refine o_i2b X d_jdk_52_method_21_30 (w := ((cs.getD i 0).toInt8.toInt32)) rfl (q := 31) rfl ?_
        refine o_bastore X i (Vb.pad (pad_rep _ _ 1)) gb Sb (n_in (by omega) (by omega)) (n_nat (by omega)) (by simp; omega) (v := (.int ((cs.getD i 0).toInt8.toInt32))) (by rw [own_narb]) d_jdk_52_method_21_31 (q := 32) rfl ?_
        intro T1 h1 l1 X1 W1 R1 V1
        have V1 : Arv Z h1 b kb .byte (Int32.ofNat cs.length) (LB (cs.take (i + 1))) (.int (0 : Int32)) := by rw [← (own_LBs (by omega))]; exact V1
        refine o_iinc X1 d_jdk_52_method_21_32 rfl (z := (Int32.ofNat (i + 1))) (n_add _ _) (L' := #[.val (.ref ar), .val (.int (Int32.ofNat (i + 1))), .val (.ref b), .val (.int (Int32.ofNat i)), .val (.int (Int32.ofNat cs.length)), .val (.int (Int32.ofNat i)), .val (.int (cs.getD i 0))]) rfl (q := 35) rfl ?_
        refine o_iinc X1 d_jdk_52_method_21_35 rfl (z := (Int32.ofNat (i + 1))) (n_add _ _) (L' := #[.val (.ref ar), .val (.int (Int32.ofNat (i + 1))), .val (.ref b), .val (.int (Int32.ofNat (i + 1))), .val (.int (Int32.ofNat cs.length)), .val (.int (Int32.ofNat i)), .val (.int (cs.getD i 0))]) rfl (q := 38) rfl ?_
        refine o_iinc X1 d_jdk_52_method_21_38 rfl (z := (Int32.ofNat (i + 1))) (n_add _ _) (L' := #[.val (.ref ar), .val (.int (Int32.ofNat (i + 1))), .val (.ref b), .val (.int (Int32.ofNat (i + 1))), .val (.int (Int32.ofNat cs.length)), .val (.int (Int32.ofNat (i + 1))), .val (.int (cs.getD i 0))]) rfl (q := 41) rfl ?_
        refine o_goto X1 d_jdk_52_method_21_41 (by decide) (q := 3) (by decide) ?_
        have k2 := Keep.wr (Keep.refl h [b]) W1 (Or.inl (by simp))
        have f3 := (Va.other W1 hne)
        have f4 := (CHr.safe R1 (Vb.lt) Sb)
        exact ih (i + 1) _ (One.val rfl) (by omega) (own_tk hl (by omega) hc20) (Keep.trans Kp k2 (allS (Or.inl (by simp)) all0)) f3 V1 f4 X1
  exact loop cs.length 0 _ One.u (by omega) (fun c hc => nomatch hc) (Keep.refl _ _) Va Vb S_b X
set_option maxRecDepth 65536 in
set_option maxHeartbeats 40000000 in
theorem c_nbl {l : Launch} {Z : State} {a0 : Array Value} (hw : W a0 Z) (n : Nat) (h0 : Heap) (hn : n ≤ 404) :
    Con l Z EL0 (⟨"java/lang/StringUTF16", "newBytesLength", "(I)I"⟩ : MethodName) jdk_52_method_3_code 1 (some .int) ({ frames := 0, cells := 0, slots := 0, locals := 0 } : Room) #[(.int (Int32.ofNat n))] h0 [] (fun v h' Sf => v = some (.int (Int32.ofNat (2 * n))) ∧ h' = h0) := by
  have hpn : plainName "java/lang/StringUTF16" = true := by first | (simp [plainName, overriddenIn]; done) | decide +kernel
  refine Con.intro (plainFor_of_name hpn) ?_
  intro p e s m below meth c T X hss
  refine Goes.cast (g' := mkF m 0 #[.val (.int (Int32.ofNat n))] []) (by first | (simp [entryFrame, mkF, argsToLocals, Value.category]; done) | rfl) ?_
  refine o_iloadN X d_jdk_52_method_3_0 rfl (q := 1) rfl ?_
  refine o_ifY X d_jdk_52_method_3_1 (flt (n_neg (by omega))).2.1 (by decide) (q := 12) (by decide) ?_
  refine o_iloadN X d_jdk_52_method_3_12 rfl (q := 13) rfl ?_
  refine o_ldcI X (w229 hw) d_jdk_52_method_3_13 (q := 15) rfl ?_
  refine o_icmpY X d_jdk_52_method_3_15 (tlt (own_big (by omega))).1 (by decide) (q := 55) (by decide) ?_
  refine o_iloadN X d_jdk_52_method_3_55 rfl (q := 56) rfl ?_
  refine o_iconst X d_jdk_52_method_3_56 (w := 1) rfl (q := 57) rfl ?_
  refine o_ishl X d_jdk_52_method_3_57 (w := (Int32.ofNat (2 * n))) (own_shl1 (by omega)) (q := 58) rfl ?_
  exact o_retI X d_jdk_52_method_3_58 (fun Sf hSf => ⟨rfl, rfl⟩) (by decide) (by decide)
set_option maxRecDepth 65536 in
set_option maxHeartbeats 40000000 in
theorem c_nbf8 {l : Launch} {Z : State} {a0 : Array Value} (hw : W a0 Z) (n : Nat) (h0 : Heap) (hn : 2 * n ≤ 808) (hn2 : n ≤ 404) :
    Con l Z EL0 (⟨"java/lang/StringUTF16", "newBytesFor", "(I)[B"⟩ : MethodName) jdk_52_method_2_code 1 (some (.array .byte)) ({ frames := 1, cells := 1, slots := 808, locals := 12 } : Room) #[(.int (Int32.ofNat n))] h0 [] (fun v h' Sf => ∃ (b : Addr) (kb : ClassId), v = some (.ref b) ∧ Keep h0 h' [] ∧ h0.size ≤ b ∧ Sf b ∧ Arv Z h' b kb .byte (Int32.ofNat (2 * n)) [] (.int (0 : Int32))) := by
  have hpn : plainName "java/lang/StringUTF16" = true := by first | (simp [plainName, overriddenIn]; done) | decide +kernel
  refine Con.intro (plainFor_of_name hpn) ?_
  intro p e s m below meth c T X hss
  refine Goes.cast (g' := mkF m 0 #[.val (.int (Int32.ofNat n))] []) (by first | (simp [entryFrame, mkF, argsToLocals, Value.category]; done) | rfl) ?_
  refine o_iloadN X d_jdk_52_method_2_0 rfl (q := 1) rfl ?_
  refine o_stat X [(.int (Int32.ofNat n))] (y' := (⟨"java/lang/StringUTF16", "newBytesLength", "(I)I"⟩ : MethodName)) (c_nbl hw n _ (by omega)) all0 (w226 hw) (w227 hw) (w174 hw) (w228 hw) (by decide) d_jdk_52_method_2_1 (rest := []) rfl rfl (lenOf pd1 rfl) rfl (by decide) (Nat.le_of_ble_eq_true rfl) (by decide) (by decide) (q := 4) rfl ?_
  intro v1 vm1 T1 h1 l1 X1 R1 q1
  obtain ⟨rfl, e1⟩ := q1
  have e1 := e1.symm
  subst e1
  show Goes p e below _ T1 (mkF m 4 #[.val (.int (Int32.ofNat n))] [(.int (Int32.ofNat (2 * n)))])
  refine o_newarr X1 (aty := .byte) (cap := 808) 0 (w16 hw) d_jdk_52_method_2_4 (n_neg (by omega)) (own_cl (by omega) (by omega)) (by decide) (by decide) (by decide) (q := 6) rfl ?_
  intro T2 h2 b2 k2 gb2 X2 E2 R2 S2 V2 g0_b2
  have V2 : Arv Z h2 b2 k2 .byte (Int32.ofNat (2 * n)) [] (.int (0 : Int32)) := V2
  have sz3 := Nat.le_trans (Keep.refl h0 []).1 (Nat.le_of_eq gb2.symm)
  have k4 := Keep.ext (Keep.refl h0 []) E2
  exact o_retR X2 d_jdk_52_method_2_6 rfl rfl rfl (fun Sf hSf => ⟨b2, k2, rfl, k4, sz3, hSf _ V2.lt S2, V2⟩) (by decide) (by decide)
set_option maxRecDepth 65536 in
set_option maxHeartbeats 40000000 in
theorem c_put {l : Launch} {Z : State} {a0 : Array Value} (hw : W a0 Z) (b : Addr) (ch : Int32) (ds : List Int32) (mm : Nat) (h0 : Heap) (SA : Sta Z Z.heap "java/lang/StringUTF16" "$assertionsDisabled" "Z" (.int (1 : Int32))) (SH : Sta Z Z.heap "java/lang/StringUTF16" "HI_BYTE_SHIFT" "I" (.int (0 : Int32))) (SL : Sta Z Z.heap "java/lang/StringUTF16" "LO_BYTE_SHIFT" "I" (.int (8 : Int32))) {kb : ClassId} (Vb : Arv Z h0 b kb .byte (Int32.ofNat (2 * mm)) (StrChars.Road.wideBytes ds) (.int (0 : Int32))) (gb : Z.heap.size ≤ b) (hm : ds.length < mm) (hm2 : mm ≤ 404) :
    Con l Z EL0 (⟨"java/lang/StringUTF16", "putChar", "([BII)V"⟩ : MethodName) jdk_52_method_4_code 3 none ({ frames := 0, cells := 0, slots := 0, locals := 0 } : Room) #[(.ref b), (.int (Int32.ofNat ds.length)), (.int ch)] h0 [b] (fun v h' Sf => v = none ∧ Keep h0 h' [b] ∧ Arv Z h' b kb .byte (Int32.ofNat (2 * mm)) (StrChars.Road.wideBytes (ds ++ [ch])) (.int (0 : Int32))) := by
  have hpn : plainName "java/lang/StringUTF16" = true := by first | (simp [plainName, overriddenIn]; done) | decide +kernel
  refine Con.intro (plainFor_of_name hpn) ?_
  intro p e s m below meth c T X hss
  have S_b := hss b (by simp)
  refine Goes.cast (g' := mkF m 0 #[.val (.ref b), .val (.int (Int32.ofNat ds.length)), .val (.int ch)] []) (by first | (simp [entryFrame, mkF, argsToLocals, Value.category]; done) | rfl) ?_
  refine o_getS X SA (host := "") (Or.inl (w233 hw)) Via.refl d_jdk_52_method_4_0 (q := 3) rfl ?_
  intro T1 X1
  refine o_ifY X1 d_jdk_52_method_4_3 (by decide) (by decide) (q := 28) (by decide) ?_
  refine o_iloadN X1 d_jdk_52_method_4_28 rfl (q := 29) rfl ?_
  refine o_iconst X1 d_jdk_52_method_4_29 (w := 1) rfl (q := 30) rfl ?_
  refine o_ishl X1 d_jdk_52_method_4_30 (w := (Int32.ofNat (2 * ds.length))) (own_shl1 (by omega)) (q := 31) rfl ?_
  refine o_istoreN X1 d_jdk_52_method_4_31 rfl (L' := #[.val (.ref b), .val (.int (Int32.ofNat (2 * ds.length))), .val (.int ch)]) rfl (q := 32) rfl ?_
  refine o_aloadN X1 d_jdk_52_method_4_32 rfl rfl (q := 33) rfl ?_
  refine o_iloadN X1 d_jdk_52_method_4_33 rfl (q := 34) rfl ?_
  refine o_iinc X1 d_jdk_52_method_4_34 rfl (z := (Int32.ofNat ((2 * ds.length) + 1))) (n_add _ _) (L' := #[.val (.ref b), .val (.int (Int32.ofNat ((2 * ds.length) + 1))), .val (.int ch)]) rfl (q := 37) rfl ?_
  refine o_iloadN X1 d_jdk_52_method_4_37 rfl (q := 38) rfl ?_
  refine o_getS X1 SH (host := "") (Or.inl (w234 hw)) Via.refl d_jdk_52_method_4_38 (q := 41) rfl ?_
  intro T2 X2
  refine o_ishr X2 d_jdk_52_method_4_41 (w := (ch >>> ((0 : Int32) &&& 31))) rfl (q := 42) rfl ?_
  refine o_i2b X2 d_jdk_52_method_4_42 (w := ((ch >>> ((0 : Int32) &&& 31)).toInt8.toInt32)) rfl (q := 43) rfl ?_
  refine o_bastore X2 (2 * ds.length) (Vb.pad (pad_rep _ _ 1)) gb S_b (n_in (by omega) (by omega)) (n_nat (by omega)) (by simp [own_wlen]) (v := (.int ch.toInt8.toInt32)) (by rw [own_narb, n_shr0]) d_jdk_52_method_4_43 (q := 44) rfl ?_
  intro T3 h3 l3 X3 W3 R3 V3
  have V3 : Arv Z h3 b kb .byte (Int32.ofNat (2 * mm)) (StrChars.Road.wideBytes ds ++ [(.int ch.toInt8.toInt32)]) (.int (0 : Int32)) := by rw [← (own_app1 (own_wlen ds))]; exact V3
  refine o_aloadN X3 d_jdk_52_method_4_44 rfl rfl (q := 45) rfl ?_
  refine o_iloadN X3 d_jdk_52_method_4_45 rfl (q := 46) rfl ?_
  refine o_iloadN X3 d_jdk_52_method_4_46 rfl (q := 47) rfl ?_
  refine o_getS X3 SL (host := "") (Or.inl (w235 hw)) Via.refl d_jdk_52_method_4_47 (q := 50) rfl ?_
  intro T4 X4
  refine o_ishr X4 d_jdk_52_method_4_50 (w := (ch >>> ((8 : Int32) &&& 31))) rfl (q := 51) rfl ?_
  refine o_i2b X4 d_jdk_52_method_4_51 (w := ((ch >>> ((8 : Int32) &&& 31)).toInt8.toInt32)) rfl (q := 52) rfl ?_
  have f6 := (CHr.safe R3 (Vb.lt) S_b)
  refine o_bastore X4 (2 * ds.length + 1) (V3.pad (pad_rep _ _ 1)) gb f6 (n_in (by omega) (by omega)) (n_nat (by omega)) (by simp [own_wlen]) (v := (.int (ch >>> ((8 : Int32) &&& 31)).toInt8.toInt32)) (by rw [own_narb]) d_jdk_52_method_4_52 (q := 53) rfl ?_
  intro T5 h5 l5 X5 W5 R5 V5
  have V5 : Arv Z h5 b kb .byte (Int32.ofNat (2 * mm)) (StrChars.Road.wideBytes (ds ++ [ch])) (.int (0 : Int32)) := by rw [← (own_app2 ds ch)]; exact V5
  have k7 := Keep.wr (Keep.refl h0 [b]) W3 (Or.inl (by simp))
  have k8 := Keep.wr k7 W5 (Or.inl (by simp))
  exact o_ret X5 d_jdk_52_method_4_53 (fun Sf hSf => ⟨rfl, k8, V5⟩) (by decide) (by decide)
set_option maxRecDepth 65536 in
set_option maxHeartbeats 40000000 in
theorem c_getCh {l : Launch} {Z : State} {a0 : Array Value} (hw : W a0 Z) (b : Addr) (kb : ClassId) (cs : List Int32) (mm i : Nat) (h0 : Heap) (SA : Sta Z Z.heap "java/lang/StringUTF16" "$assertionsDisabled" "Z" (.int (1 : Int32))) (SH : Sta Z Z.heap "java/lang/StringUTF16" "HI_BYTE_SHIFT" "I" (.int (0 : Int32))) (SL : Sta Z Z.heap "java/lang/StringUTF16" "LO_BYTE_SHIFT" "I" (.int (8 : Int32))) (Vb : Arv Z h0 b kb .byte (Int32.ofNat (2 * mm)) (StrChars.Road.wideBytes cs) (.int (0 : Int32))) (hm : cs.length ≤ mm) (hm2 : mm ≤ 404) (hr : ∀ c ∈ cs, Rg c) (hi : i < cs.length) :
    Con l Z EL0 (⟨"java/lang/StringUTF16", "getChar", "([BI)C"⟩ : MethodName) jdk_52_method_5_code 2 (some .char) ({ frames := 0, cells := 0, slots := 0, locals := 0 } : Room) #[(.ref b), (.int (Int32.ofNat i))] h0 [] (fun v h' Sf => v = some (.int (cs.getD i 0)) ∧ h' = h0) := by
  have hpn : plainName "java/lang/StringUTF16" = true := by first | (simp [plainName, overriddenIn]; done) | decide +kernel
  refine Con.intro (plainFor_of_name hpn) ?_
  intro p e s m below meth c T X hss
  refine Goes.cast (g' := mkF m 0 #[.val (.ref b), .val (.int (Int32.ofNat i))] []) (by first | (simp [entryFrame, mkF, argsToLocals, Value.category]; done) | rfl) ?_
  refine o_getS X SA (host := "") (Or.inl (w233 hw)) Via.refl d_jdk_52_method_5_0 (q := 3) rfl ?_
  intro T1 X1
  refine o_ifY X1 d_jdk_52_method_5_3 (by decide) (by decide) (q := 28) (by decide) ?_
  refine o_iloadN X1 d_jdk_52_method_5_28 rfl (q := 29) rfl ?_
  refine o_iconst X1 d_jdk_52_method_5_29 (w := 1) rfl (q := 30) rfl ?_
  refine o_ishl X1 d_jdk_52_method_5_30 (w := (Int32.ofNat (2 * i))) (own_shl1 (by omega)) (q := 31) rfl ?_
  refine o_istoreN X1 d_jdk_52_method_5_31 rfl (L' := #[.val (.ref b), .val (.int (Int32.ofNat (2 * i)))]) rfl (q := 32) rfl ?_
  refine o_aloadN X1 d_jdk_52_method_5_32 rfl rfl (q := 33) rfl ?_
  refine o_iloadN X1 d_jdk_52_method_5_33 rfl (q := 34) rfl ?_
  refine o_iinc X1 d_jdk_52_method_5_34 rfl (z := (Int32.ofNat ((2 * i) + 1))) (n_add _ _) (L' := #[.val (.ref b), .val (.int (Int32.ofNat ((2 * i) + 1)))]) rfl (q := 37) rfl ?_
  refine o_baload X1 Vb (n_in (by omega) (by omega)) (v := .int (cs.getD i 0).toInt8.toInt32) (own_wlo hi (by omega)) d_jdk_52_method_5_37 (q := 38) rfl ?_
  refine o_sipush X1 d_jdk_52_method_5_38 (w := 255) rfl (q := 41) rfl ?_
  refine o_iand X1 d_jdk_52_method_5_41 (w := ((cs.getD i 0).toInt8.toInt32 &&& (255 : Int32))) rfl (q := 42) rfl ?_
  refine o_getS X1 SH (host := "") (Or.inl (w234 hw)) Via.refl d_jdk_52_method_5_42 (q := 45) rfl ?_
  intro T2 X2
  refine o_ishl X2 d_jdk_52_method_5_45 (w := (((cs.getD i 0).toInt8.toInt32 &&& (255 : Int32)) <<< ((0 : Int32) &&& 31))) rfl (q := 46) rfl ?_
  refine o_aloadN X2 d_jdk_52_method_5_46 rfl rfl (q := 47) rfl ?_
  refine o_iloadN X2 d_jdk_52_method_5_47 rfl (q := 48) rfl ?_
  refine o_baload X2 Vb (n_in (by omega) (by omega)) (v := .int ((cs.getD i 0) >>> ((8 : Int32) &&& 31)).toInt8.toInt32) (own_whi hi (by omega)) d_jdk_52_method_5_48 (q := 49) rfl ?_
  refine o_sipush X2 d_jdk_52_method_5_49 (w := 255) rfl (q := 52) rfl ?_
  refine o_iand X2 d_jdk_52_method_5_52 (w := (((cs.getD i 0) >>> ((8 : Int32) &&& 31)).toInt8.toInt32 &&& (255 : Int32))) rfl (q := 53) rfl ?_
  refine o_getS X2 SL (host := "") (Or.inl (w235 hw)) Via.refl d_jdk_52_method_5_53 (q := 56) rfl ?_
  intro T3 X3
  refine o_ishl X3 d_jdk_52_method_5_56 (w := ((((cs.getD i 0) >>> ((8 : Int32) &&& 31)).toInt8.toInt32 &&& (255 : Int32)) <<< ((8 : Int32) &&& 31))) rfl (q := 57) rfl ?_
  refine o_ior X3 d_jdk_52_method_5_57 (w := ((((cs.getD i 0).toInt8.toInt32 &&& (255 : Int32)) <<< ((0 : Int32) &&& 31)) ||| ((((cs.getD i 0) >>> ((8 : Int32) &&& 31)).toInt8.toInt32 &&& (255 : Int32)) <<< ((8 : Int32) &&& 31)))) rfl (q := 58) rfl ?_
  refine o_i2c X3 d_jdk_52_method_5_58 (w := (((((cs.getD i 0).toInt8.toInt32 &&& (255 : Int32)) <<< ((0 : Int32) &&& 31)) ||| ((((cs.getD i 0) >>> ((8 : Int32) &&& 31)).toInt8.toInt32 &&& (255 : Int32)) <<< ((8 : Int32) &&& 31))).toUInt32.toUInt16.toUInt32.toInt32)) rfl (q := 59) rfl ?_
  exact o_retN X3 d_jdk_52_method_5_59 (by simp) (fun Sf hSf => ⟨by rw [own_getch (hr _ (own_mem hi))], rfl⟩) (by decide) (by decide)
set_option maxRecDepth 65536 in
set_option maxHeartbeats 40000000 in
theorem c_tb {l : Launch} {Z : State} {a0 : Array Value} (hw : W a0 Z) (ar : Addr) (cs : List Int32) (h0 : Heap) (SA : Sta Z Z.heap "java/lang/StringUTF16" "$assertionsDisabled" "Z" (.int (1 : Int32))) (SH : Sta Z Z.heap "java/lang/StringUTF16" "HI_BYTE_SHIFT" "I" (.int (0 : Int32))) (SL : Sta Z Z.heap "java/lang/StringUTF16" "LO_BYTE_SHIFT" "I" (.int (8 : Int32))) {ka : ClassId} (Va : Arv Z h0 ar ka .char (Int32.ofNat cs.length) (cs.map Value.int) (.int (0 : Int32))) (hN : cs.length ≤ 400) :
    Con l Z EL0 (⟨"java/lang/StringUTF16", "toBytes", "([CII)[B"⟩ : MethodName) jdk_52_method_14_code 5 (some (.array .byte)) ({ frames := 2, cells := 1, slots := 808, locals := 24 } : Room) #[(.ref ar), (.int (0 : Int32)), (.int (Int32.ofNat cs.length))] h0 [] (fun v h' Sf => ∃ (b : Addr) (kb : ClassId), v = some (.ref b) ∧ Keep h0 h' [] ∧ h0.size ≤ b ∧ Sf b ∧ Arv Z h' b kb .byte (Int32.ofNat (2 * cs.length)) (StrChars.Road.wideBytes cs) (.int (0 : Int32))) := by
  have hpn : plainName "java/lang/StringUTF16" = true := by first | (simp [plainName, overriddenIn]; done) | decide +kernel
  refine Con.intro (plainFor_of_name hpn) ?_
  intro p e s m below meth c T X hss
  refine Goes.cast (g' := mkF m 0 #[.val (.ref ar), .val (.int (0 : Int32)), .val (.int (Int32.ofNat cs.length)), .unset, .unset] []) (by first | (simp [entryFrame, mkF, argsToLocals, Value.category]; done) | rfl) ?_
  refine o_iloadN X d_jdk_52_method_14_0 rfl (q := 1) rfl ?_
  refine o_stat X [(.int (Int32.ofNat cs.length))] (y' := (⟨"java/lang/StringUTF16", "newBytesFor", "(I)[B"⟩ : MethodName)) (c_nbf8 hw cs.length _ (by omega) (by omega)) all0 (w223 hw) (w224 hw) (w174 hw) (w225 hw) (by decide) d_jdk_52_method_14_1 (rest := []) rfl rfl (lenOf pd2 rfl) rfl (by decide) (Nat.le_of_ble_eq_true rfl) (by decide) (by decide) (q := 4) rfl ?_
  intro v1 vm1 T1 h1 l1 X1 R1 q1
  obtain ⟨b1, kb1, rfl, K1, g1, s1, V1⟩ := q1
  show Goes p e below _ T1 (mkF m 4 #[.val (.ref ar), .val (.int (0 : Int32)), .val (.int (Int32.ofNat cs.length)), .unset, .unset] [(.ref b1)])
  refine o_astoreN X1 d_jdk_52_method_14_4 rfl (L' := #[.val (.ref ar), .val (.int (0 : Int32)), .val (.int (Int32.ofNat cs.length)), .val (.ref b1), .unset]) rfl (q := 5) rfl ?_
  refine o_iconst X1 d_jdk_52_method_14_5 (w := 0) rfl (q := 6) rfl ?_
  refine o_istore X1 d_jdk_52_method_14_6 rfl (L' := #[.val (.ref ar), .val (.int (0 : Int32)), .val (.int (Int32.ofNat cs.length)), .val (.ref b1), .val (.int (0 : Int32))]) rfl (q := 8) rfl ?_
  have sz2 := Nat.le_trans (Keep.refl h0 []).1 g1
  have k3 := Keep.trans (Keep.refl h0 []) K1 all0
  have f4 := (Va.keep K1 nin0)
  have gsz := sz2
  have hneb : ar ≠ b1 := (Nat.ne_of_lt (Nat.lt_of_lt_of_le Va.lt g1))
  have geb : Z.heap.size ≤ b1 := (Nat.le_trans X.size g1)
  have loop : ∀ (k i : Nat) {vm : Vm} {T : State} {h : Heap} {locs : List Loc}, i + k = cs.length → Keep h0 h [] → Arv Z h ar ka .char (Int32.ofNat cs.length) (cs.map Value.int) (.int (0 : Int32)) → Arv Z h b1 kb1 .byte (Int32.ofNat (2 * cs.length)) (StrChars.Road.wideBytes (cs.take i)) (.int (0 : Int32)) → Safe Z EL0 vm h b1 → On l Z EL0 p e ({ frames := 2, cells := 1, slots := 808, locals := 24 } : Room) s m #[(.ref ar), (.int (0 : Int32)), (.int (Int32.ofNat cs.length))] below meth c (⟨"java/lang/StringUTF16", "toBytes", "([CII)[B"⟩ : MethodName) jdk_52_method_14_code 5 (some (.array .byte)) vm T h locs 1 808 → Goes p e below (FinQ Z EL0 s (fun v h' Sf => ∃ (b : Addr) (kb : ClassId), v = some (.ref b) ∧ Keep h0 h' [] ∧ h0.size ≤ b ∧ Sf b ∧ Arv Z h' b kb .byte (Int32.ofNat (2 * cs.length)) (StrChars.Road.wideBytes cs) (.int (0 : Int32))) (({ frames := 2, cells := 1, slots := 808, locals := 24 } : Room)).cells (({ frames := 2, cells := 1, slots := 808, locals := 24 } : Room)).slots) T (mkF m 8 #[.val (.ref ar), .val (.int (Int32.ofNat i)), .val (.int (Int32.ofNat cs.length)), .val (.ref b1), .val (.int (Int32.ofNat i))] []) := by
    intro k
    induction k with
    | zero =>
      intro i vm T h locs hi Kp Va Vb Sb X
      obtain rfl : i = cs.length := by omega
      rw [List.take_length] at Vb
      refine o_iload X d_jdk_52_method_14_8 rfl (q := 10) rfl ?_
      refine o_iloadN X d_jdk_52_method_14_10 rfl (q := 11) rfl ?_
      refine o_icmpY X d_jdk_52_method_14_11 (flt (fun q => absurd ((n_lt (by omega) (by omega)).mp q) (by omega))).2.1 (by decide) (q := 32) (by decide) ?_
      refine o_aloadN X d_jdk_52_method_14_32 rfl rfl (q := 33) rfl ?_
      exact o_retR X d_jdk_52_method_14_33 rfl rfl rfl (fun Sf hSf => ⟨b1, kb1, rfl, Kp, gsz, hSf _ Vb.lt Sb, Vb⟩) (by decide) (by decide)
    | succ k ih =>
      intro i vm T h locs hi Kp Va Vb Sb X
      refine o_iload X d_jdk_52_method_14_8 rfl (q := 10) rfl ?_
      refine o_iloadN X d_jdk_52_method_14_10 rfl (q := 11) rfl ?_
      refine o_icmpN X d_jdk_52_method_14_11 (tlt ((n_lt (by omega) (by omega)).mpr (by omega))).2.1 (q := 14) rfl ?_
      refine o_aloadN X d_jdk_52_method_14_14 rfl rfl (q := 15) rfl ?_
      refine o_iload X d_jdk_52_method_14_15 rfl (q := 17) rfl ?_
      refine o_aloadN X d_jdk_52_method_14_17 rfl rfl (q := 18) rfl ?_
      refine o_iloadN X d_jdk_52_method_14_18 rfl (q := 19) rfl ?_
      refine o_caload X Va (n_in (by omega) (by omega)) (v := .int (cs.getD i 0)) (own_cget (by omega) (by omega)) d_jdk_52_method_14_19 (q := 20) rfl ?_
      have ei : (cs.take i).length = i := by rw [List.length_take]; omega
      refine o_stat X [(.ref b1), (.int (Int32.ofNat i)), (.int (cs.getD i 0))] (y' := (⟨"java/lang/StringUTF16", "putChar", "([BII)V"⟩ : MethodName)) (by have q := c_put hw b1 (cs.getD i 0) (cs.take i) cs.length _ SA SH SL Vb geb (by omega) (by omega) (l := l); rw [ei] at q; exact q) (allS ⟨Vb.lt, Sb⟩ all0) (w230 hw) (w231 hw) (w174 hw) (w232 hw) (by decide) d_jdk_52_method_14_20 (rest := []) rfl rfl (lenOf pd3 rfl) rfl (by decide) (Nat.le_of_ble_eq_true rfl) (by decide) (by decide) (q := 23) rfl ?_
      intro v5 vm5 T5 h5 l5 X5 R5 q5
      obtain ⟨rfl, K5, V5⟩ := q5
      show Goes p e below _ T5 (mkF m 23 #[.val (.ref ar), .val (.int (Int32.ofNat i)), .val (.int (Int32.ofNat cs.length)), .val (.ref b1), .val (.int (Int32.ofNat i))] [])
      rw [own_take1 (by omega)] at V5
      refine o_iinc X5 d_jdk_52_method_14_23 rfl (z := (Int32.ofNat (i + 1))) (n_add _ _) (L' := #[.val (.ref ar), .val (.int (Int32.ofNat (i + 1))), .val (.int (Int32.ofNat cs.length)), .val (.ref b1), .val (.int (Int32.ofNat i))]) rfl (q := 26) rfl ?_
      refine o_iinc X5 d_jdk_52_method_14_26 rfl (z := (Int32.ofNat (i + 1))) (n_add _ _) (L' := #[.val (.ref ar), .val (.int (Int32.ofNat (i + 1))), .val (.int (Int32.ofNat cs.length)), .val (.ref b1), .val (.int (Int32.ofNat (i + 1)))]) rfl (q := 29) rfl ?_
      refine o_goto X5 d_jdk_52_method_14_29 (by decide) (q := 8) (by decide) ?_
      have k6 := Keep.trans (Keep.refl h [b1]) K5 (allS (Or.inl (by simp)) all0)
      have f7 := (Va.keep K5 (ninS hneb nin0))
      have f8 := (CHr.safe R5 (Vb.lt) Sb)
      exact ih (i + 1) (by omega) (own_keepn Kp k6 gsz) f7 V5 f8 X5
  exact loop cs.length 0 (by omega) k3 f4 V1 s1 X1
set_option maxRecDepth 65536 in
set_option maxHeartbeats 40000000 in
theorem c_cmp3 {l : Launch} {Z : State} {a0 : Array Value} (hw : W a0 Z) (ar : Addr) (cs : List Int32) (h0 : Heap) (SA : Sta Z Z.heap "java/lang/StringUTF16" "$assertionsDisabled" "Z" (.int (1 : Int32))) (SH : Sta Z Z.heap "java/lang/StringUTF16" "HI_BYTE_SHIFT" "I" (.int (0 : Int32))) (SL : Sta Z Z.heap "java/lang/StringUTF16" "LO_BYTE_SHIFT" "I" (.int (8 : Int32))) {ka : ClassId} (Va : Arv Z h0 ar ka .char (Int32.ofNat cs.length) (cs.map Value.int) (.int (0 : Int32))) (hN : cs.length ≤ 400) (hr : ∀ c ∈ cs, Rg c) :
    Con l Z EL0 (⟨"java/lang/StringUTF16", "compress", "([CII)[B"⟩ : MethodName) jdk_52_method_16_code 6 (some (.array .byte)) ({ frames := 3, cells := 2, slots := 1208, locals := 40 } : Room) #[(.ref ar), (.int (0 : Int32)), (.int (Int32.ofNat cs.length))] h0 [] (fun v h' Sf => (∃ (b : Addr) (kb : ClassId), v = some (.ref b) ∧ Keep h0 h' [] ∧ h0.size ≤ b ∧ Sf b ∧ Arv Z h' b kb .byte (Int32.ofNat cs.length) (LB cs) (.int (0 : Int32)) ∧ ∀ c ∈ cs, ¬ (255 : Int32) < c) ∨ (∃ (b : Addr) (kb : ClassId), v = some (.ref b) ∧ Keep h0 h' [] ∧ h0.size ≤ b ∧ Sf b ∧ Arv Z h' b kb .byte (Int32.ofNat (2 * cs.length)) (StrChars.Road.wideBytes cs) (.int (0 : Int32)) ∧ ∃ c ∈ cs, (255 : Int32) < c)) := by
  have hpn : plainName "java/lang/StringUTF16" = true := by first | (simp [plainName, overriddenIn]; done) | decide +kernel
  refine Con.intro (plainFor_of_name hpn) ?_
  intro p e s m below meth c T X hss
  refine Goes.cast (g' := mkF m 0 #[.val (.ref ar), .val (.int (0 : Int32)), .val (.int (Int32.ofNat cs.length)), .unset, .unset, .unset] []) (by first | (simp [entryFrame, mkF, argsToLocals, Value.category]; done) | rfl) ?_
  refine o_iloadN X d_jdk_52_method_16_0 rfl (q := 1) rfl ?_
  refine o_newarr X (aty := .byte) (cap := 400) 0 (w16 hw) d_jdk_52_method_16_1 (n_neg (by omega)) (own_cl (by omega) (by omega)) (by decide) (by decide) (by decide) (q := 3) rfl ?_
  intro T1 h1 b1 k1 gb1 X1 E1 R1 S1 V1 g0_b1
  have V1 : Arv Z h1 b1 k1 .byte (Int32.ofNat cs.length) [] (.int (0 : Int32)) := V1
  refine o_astoreN X1 d_jdk_52_method_16_3 rfl (L' := #[.val (.ref ar), .val (.int (0 : Int32)), .val (.int (Int32.ofNat cs.length)), .val (.ref b1), .unset, .unset]) rfl (q := 4) rfl ?_
  refine o_aloadN X1 d_jdk_52_method_16_4 rfl rfl (q := 5) rfl ?_
  refine o_iloadN X1 d_jdk_52_method_16_5 rfl (q := 6) rfl ?_
  refine o_aloadN X1 d_jdk_52_method_16_6 rfl rfl (q := 7) rfl ?_
  refine o_iconst X1 d_jdk_52_method_16_7 (w := 0) rfl (q := 8) rfl ?_
  refine o_iloadN X1 d_jdk_52_method_16_8 rfl (q := 9) rfl ?_
  have f2 := (Va.ext E1)
  refine o_stat X1 [(.ref ar), (.int (0 : Int32)), (.ref b1), (.int (0 : Int32)), (.int (Int32.ofNat cs.length))] (y' := (⟨"java/lang/StringUTF16", "compress", "([CI[BII)I"⟩ : MethodName)) (c_cmp5 hw ar b1 cs _ f2 V1 g0_b1 (Nat.ne_of_lt (Nat.lt_of_lt_of_le Va.lt (Nat.le_of_eq gb1.symm))) hN) (allS ⟨V1.lt, S1⟩ all0) (w176 hw) (w177 hw) (w174 hw) (w178 hw) (by decide) d_jdk_52_method_16_9 (rest := []) rfl rfl (lenOf pd4 rfl) rfl (by decide) (Nat.le_of_ble_eq_true rfl) (by decide) (by decide) (q := 12) rfl ?_
  intro v3 vm3 T3 h3 l3 X3 R3 q3
  rcases q3 with ⟨rfl, K3, V3, lt3⟩ | ⟨k3, hk3, rfl, K3, hg3⟩
  · show Goes p e below _ T3 (mkF m 12 #[.val (.ref ar), .val (.int (0 : Int32)), .val (.int (Int32.ofNat cs.length)), .val (.ref b1), .unset, .unset] [(.int (Int32.ofNat cs.length))])
    refine o_istore X3 d_jdk_52_method_16_12 rfl (L' := #[.val (.ref ar), .val (.int (0 : Int32)), .val (.int (Int32.ofNat cs.length)), .val (.ref b1), .val (.int (Int32.ofNat cs.length)), .unset]) rfl (q := 14) rfl ?_
    refine o_iload X3 d_jdk_52_method_16_14 rfl (q := 16) rfl ?_
    refine o_iloadN X3 d_jdk_52_method_16_16 rfl (q := 17) rfl ?_
    refine o_icmpY X3 d_jdk_52_method_16_17 (teq rfl).1 (by decide) (q := 57) (by decide) ?_
    refine o_aloadN X3 d_jdk_52_method_16_57 rfl rfl (q := 58) rfl ?_
    have sz4 := Nat.le_trans (Keep.refl h0 []).1 (Nat.le_of_eq gb1.symm)
    have k5 := Keep.ext (Keep.refl h0 []) E1
    have k6 := Keep.trans k5 K3 (allS (Or.inr sz4) all0)
    have f7 := (CHr.safe R3 (V1.lt) S1)
    exact o_retR X3 d_jdk_52_method_16_58 rfl rfl rfl (fun Sf hSf => Or.inl ⟨b1, k1, rfl, k6, sz4, hSf _ V3.lt f7, V3, lt3⟩) (by decide) (by decide)
  · show Goes p e below _ T3 (mkF m 12 #[.val (.ref ar), .val (.int (0 : Int32)), .val (.int (Int32.ofNat cs.length)), .val (.ref b1), .unset, .unset] [(.int (Int32.ofNat k3))])
    refine o_istore X3 d_jdk_52_method_16_12 rfl (L' := #[.val (.ref ar), .val (.int (0 : Int32)), .val (.int (Int32.ofNat cs.length)), .val (.ref b1), .val (.int (Int32.ofNat k3)), .unset]) rfl (q := 14) rfl ?_
    refine o_iload X3 d_jdk_52_method_16_14 rfl (q := 16) rfl ?_
    refine o_iloadN X3 d_jdk_52_method_16_16 rfl (q := 17) rfl ?_
    refine o_icmpN X3 d_jdk_52_method_16_17 (feq (fun q => absurd ((n_eq (a := k3) (b := cs.length) (by omega) (by omega)).mp q) (by omega))).1 (q := 20) rfl ?_
    refine o_aloadN X3 d_jdk_52_method_16_20 rfl rfl (q := 21) rfl ?_
    refine o_iloadN X3 d_jdk_52_method_16_21 rfl (q := 22) rfl ?_
    refine o_iloadN X3 d_jdk_52_method_16_22 rfl (q := 23) rfl ?_
    have f8 := (f2.keep K3 (ninS (Nat.ne_of_lt (Nat.lt_of_lt_of_le Va.lt (Nat.le_of_eq gb1.symm))) nin0))
    refine o_stat X3 [(.ref ar), (.int (0 : Int32)), (.int (Int32.ofNat cs.length))] (y' := (⟨"java/lang/StringUTF16", "toBytes", "([CII)[B"⟩ : MethodName)) (c_tb hw ar cs _ SA SH SL f8 hN) all0 (w220 hw) (w221 hw) (w174 hw) (w222 hw) (by decide) d_jdk_52_method_16_23 (rest := []) rfl rfl (lenOf pd5 rfl) rfl (by decide) (Nat.le_of_ble_eq_true rfl) (by decide) (by decide) (q := 26) rfl ?_
    intro v9 vm9 T9 h9 l9 X9 R9 q9
    obtain ⟨b9, kb9, rfl, K9, g9, s9, V9⟩ := q9
    show Goes p e below _ T9 (mkF m 26 #[.val (.ref ar), .val (.int (0 : Int32)), .val (.int (Int32.ofNat cs.length)), .val (.ref b1), .val (.int (Int32.ofNat k3)), .unset] [(.ref b9)])
    refine o_astore X9 d_jdk_52_method_16_26 rfl (L' := #[.val (.ref ar), .val (.int (0 : Int32)), .val (.int (Int32.ofNat cs.length)), .val (.ref b1), .val (.int (Int32.ofNat k3)), .val (.ref b9)]) rfl (q := 28) rfl ?_
    refine o_aload X9 d_jdk_52_method_16_28 rfl rfl (q := 30) rfl ?_
    refine o_iload X9 d_jdk_52_method_16_30 rfl (q := 32) rfl ?_
    refine o_stat X9 [(.ref b9), (.int (Int32.ofNat k3))] (y' := (⟨"java/lang/StringUTF16", "getChar", "([BI)C"⟩ : MethodName)) (c_getCh hw b9 kb9 cs cs.length k3 _ SA SH SL V9 (Nat.le_refl _) (by omega) hr hk3) all0 (w236 hw) (w237 hw) (w174 hw) (w238 hw) (by decide) d_jdk_52_method_16_32 (rest := []) rfl rfl (lenOf pd6 rfl) rfl (by decide) (Nat.le_of_ble_eq_true rfl) (by decide) (by decide) (q := 35) rfl ?_
    intro v10 vm10 T10 h10 l10 X10 R10 q10
    obtain ⟨rfl, e10⟩ := q10
    have e10 := e10.symm
    subst e10
    show Goes p e below _ T10 (mkF m 35 #[.val (.ref ar), .val (.int (0 : Int32)), .val (.int (Int32.ofNat cs.length)), .val (.ref b1), .val (.int (Int32.ofNat k3)), .val (.ref b9)] [(.int (cs.getD k3 0))])
    refine o_sipush X10 d_jdk_52_method_16_35 (w := 255) rfl (q := 38) rfl ?_
    refine o_icmpY X10 d_jdk_52_method_16_38 (tlt hg3).2.2.1 (by decide) (q := 54) (by decide) ?_
    refine o_aload X10 d_jdk_52_method_16_54 rfl rfl (q := 56) rfl ?_
    have sz11 := Nat.le_trans (Keep.refl h0 []).1 (Nat.le_of_eq gb1.symm)
    have k12 := Keep.ext (Keep.refl h0 []) E1
    have k13 := Keep.trans k12 K3 (allS (Or.inr sz11) all0)
    have sz14 := Nat.le_trans k13.1 g9
    have k15 := Keep.trans k13 K9 all0
    have f16 := (CHr.safe R10 (V9.lt) s9)
    have f17 := V9
    exact o_retR X10 d_jdk_52_method_16_56 rfl rfl rfl (fun Sf hSf => Or.inr ⟨b9, kb9, rfl, k15, sz14, hSf _ V9.lt f16, f17, ⟨_, own_mem hk3, hg3⟩⟩) (by decide) (by decide)
set_option maxRecDepth 65536 in
set_option maxHeartbeats 40000000 in
theorem c_cfl0 {l : Launch} {Z : State} {a0 : Array Value} (hw : W a0 Z) (b : Addr) (kb : ClassId) (vs : List Value) (n : Nat) (h0 : Heap) (Vb : Arv Z h0 b kb .byte (Int32.ofNat n) vs (.int (0 : Int32))) (hn : 0 < n) (hN : n ≤ 404) :
    Con l Z EL0 (⟨"java/lang/StringUTF16", "coderFromArrayLen", "([BI)B"⟩ : MethodName) jdk_52_method_15_code 2 (some .byte) ({ frames := 0, cells := 0, slots := 0, locals := 0 } : Room) #[(.ref b), (.int (Int32.ofNat n))] h0 [] (fun v h' Sf => v = some (.int (0 : Int32)) ∧ h' = h0) := by
  have hpn : plainName "java/lang/StringUTF16" = true := by first | (simp [plainName, overriddenIn]; done) | decide +kernel
  refine Con.intro (plainFor_of_name hpn) ?_
  intro p e s m below meth c T X hss
  refine Goes.cast (g' := mkF m 0 #[.val (.ref b), .val (.int (Int32.ofNat n))] []) (by first | (simp [entryFrame, mkF, argsToLocals, Value.category]; done) | rfl) ?_
  refine o_iloadN X d_jdk_52_method_15_0 rfl (q := 1) rfl ?_
  refine o_aloadN X d_jdk_52_method_15_1 rfl rfl (q := 2) rfl ?_
  refine o_len X Vb d_jdk_52_method_15_2 (q := 3) rfl ?_
  refine o_isub X d_jdk_52_method_15_3 (w := (0 : Int32)) (Int32.sub_self _) (q := 4) rfl ?_
  refine o_bipush X d_jdk_52_method_15_4 (w := 31) rfl (q := 6) rfl ?_
  refine o_iushr X d_jdk_52_method_15_6 (w := (0 : Int32)) (by decide) (q := 7) rfl ?_
  refine o_i2b X d_jdk_52_method_15_7 (w := (0 : Int32)) (by decide) (q := 8) rfl ?_
  exact o_retN X d_jdk_52_method_15_8 (by simp) (fun Sf hSf => ⟨rfl, rfl⟩) (by decide) (by decide)
set_option maxRecDepth 65536 in
set_option maxHeartbeats 40000000 in
theorem c_cfl1 {l : Launch} {Z : State} {a0 : Array Value} (hw : W a0 Z) (b : Addr) (kb : ClassId) (vs : List Value) (n : Nat) (h0 : Heap) (Vb : Arv Z h0 b kb .byte (Int32.ofNat (2 * n)) vs (.int (0 : Int32))) (hn : 0 < n) (hN : n ≤ 404) :
    Con l Z EL0 (⟨"java/lang/StringUTF16", "coderFromArrayLen", "([BI)B"⟩ : MethodName) jdk_52_method_15_code 2 (some .byte) ({ frames := 0, cells := 0, slots := 0, locals := 0 } : Room) #[(.ref b), (.int (Int32.ofNat n))] h0 [] (fun v h' Sf => v = some (.int (1 : Int32)) ∧ h' = h0) := by
  have hpn : plainName "java/lang/StringUTF16" = true := by first | (simp [plainName, overriddenIn]; done) | decide +kernel
  refine Con.intro (plainFor_of_name hpn) ?_
  intro p e s m below meth c T X hss
  refine Goes.cast (g' := mkF m 0 #[.val (.ref b), .val (.int (Int32.ofNat n))] []) (by first | (simp [entryFrame, mkF, argsToLocals, Value.category]; done) | rfl) ?_
  refine o_iloadN X d_jdk_52_method_15_0 rfl (q := 1) rfl ?_
  refine o_aloadN X d_jdk_52_method_15_1 rfl rfl (q := 2) rfl ?_
  refine o_len X Vb d_jdk_52_method_15_2 (q := 3) rfl ?_
  refine o_isub X d_jdk_52_method_15_3 (w := ((Int32.ofNat n) - (Int32.ofNat (2 * n)))) rfl (q := 4) rfl ?_
  refine o_bipush X d_jdk_52_method_15_4 (w := 31) rfl (q := 6) rfl ?_
  refine o_iushr X d_jdk_52_method_15_6 (w := (1 : Int32)) (own_ush1 (by omega) (by omega)) (q := 7) rfl ?_
  refine o_i2b X d_jdk_52_method_15_7 (w := (1 : Int32)) (by decide) (q := 8) rfl ?_
  exact o_retN X d_jdk_52_method_15_8 (by simp) (fun Sf hSf => ⟨rfl, rfl⟩) (by decide) (by decide)
set_option maxRecDepth 65536 in
set_option maxHeartbeats 40000000 in
theorem c_ini4 {l : Launch} {Z : State} {a0 : Array Value} (hw : W a0 Z) (a ar : Addr) (cs : List Int32) (h0 : Heap) {zc : Int32} (O2 : Sta Z Z.heap "java/lang/String" "COMPACT_STRINGS" "Z" (.int zc)) (P5 : ¬ zc = 0) (SA : Sta Z Z.heap "java/lang/StringUTF16" "$assertionsDisabled" "Z" (.int (1 : Int32))) (SH : Sta Z Z.heap "java/lang/StringUTF16" "HI_BYTE_SHIFT" "I" (.int (0 : Int32))) (SL : Sta Z Z.heap "java/lang/StringUTF16" "LO_BYTE_SHIFT" "I" (.int (8 : Int32))) (E : Exa Z h0 a "java/lang/String") (ga : Z.heap.size ≤ a) (Fv : Fld Z h0 a "java/lang/String" "value" "[B" .null) (Fc : Fld Z h0 a "java/lang/String" "coder" "B" (.int (0 : Int32))) {ka : ClassId} (Va : Arv Z h0 ar ka .char (Int32.ofNat cs.length) (cs.map Value.int) (.int (0 : Int32))) (hne : ar ≠ a) (hN : cs.length ≤ 400) (hr : ∀ c ∈ cs, Rg c) (hn : 0 < cs.length) :
    Con l Z EL0 (⟨"java/lang/String", "<init>", "([CIILjava/lang/Void;)V"⟩ : MethodName) jdk_42_method_149_code 6 none ({ frames := 4, cells := 2, slots := 1208, locals := 57 } : Room) #[(.ref a), (.ref ar), (.int (0 : Int32)), (.int (Int32.ofNat cs.length)), .null] h0 [a] (fun v h' Sf => v = none ∧ Keep h0 h' [a] ∧ ∃ (b : Addr) (kb : ClassId), h0.size ≤ b ∧ US Z h' a b kb cs) := by
  have hpn : plainName "java/lang/String" = true := by first | (simp [plainName, overriddenIn]; done) | decide +kernel
  refine Con.intro (plainFor_of_name hpn) ?_
  intro p e s m below meth c T X hss
  have S_a := hss a (by simp)
  refine Goes.cast (g' := mkF m 0 #[.val (.ref a), .val (.ref ar), .val (.int (0 : Int32)), .val (.int (Int32.ofNat cs.length)), .val .null, .unset] []) (by first | (simp [entryFrame, mkF, argsToLocals, Value.category]; done) | rfl) ?_
  refine o_aloadN X d_jdk_42_method_149_0 rfl rfl (q := 1) rfl ?_
  refine o_initO X (w12 hw) (w13 hw) (w14 hw) d_jdk_42_method_149_1 rfl (by decide) (Nat.le_of_ble_eq_true rfl) (q := 4) rfl ?_
  intro T1 X1
  refine o_iloadN X1 d_jdk_42_method_149_4 rfl (q := 5) rfl ?_
  refine o_ifY X1 d_jdk_42_method_149_5 (feq (fun q => absurd ((n_eq (a := cs.length) (b := 0) (by omega) (by omega)).mp q) (by omega))).2 (by decide) (q := 27) (by decide) ?_
  refine o_getS X1 O2 (host := "") (Or.inl (w37 hw)) Via.refl d_jdk_42_method_149_27 (q := 30) rfl ?_
  intro T2 X2
  refine o_ifN X2 d_jdk_42_method_149_30 (feq P5).1 (q := 33) rfl ?_
  refine o_aloadN X2 d_jdk_42_method_149_33 rfl rfl (q := 34) rfl ?_
  refine o_iloadN X2 d_jdk_42_method_149_34 rfl (q := 35) rfl ?_
  refine o_iloadN X2 d_jdk_42_method_149_35 rfl (q := 36) rfl ?_
  refine o_stat X2 [(.ref ar), (.int (0 : Int32)), (.int (Int32.ofNat cs.length))] (y' := (⟨"java/lang/StringUTF16", "compress", "([CII)[B"⟩ : MethodName)) (c_cmp3 hw ar cs _ SA SH SL Va hN hr) all0 (w172 hw) (w173 hw) (w174 hw) (w175 hw) (by decide) d_jdk_42_method_149_36 (rest := []) rfl rfl (lenOf pd5 rfl) rfl (by decide) (Nat.le_of_ble_eq_true rfl) (by decide) (by decide) (q := 39) rfl ?_
  intro v3 vm3 T3 h3 l3 X3 R3 q3
  rcases q3 with ⟨b3, kb3, rfl, K3, g3, s3, V3, lq3⟩ | ⟨b3, kb3, rfl, K3, g3, s3, V3, lq3⟩
  · show Goes p e below _ T3 (mkF m 39 #[.val (.ref a), .val (.ref ar), .val (.int (0 : Int32)), .val (.int (Int32.ofNat cs.length)), .val .null, .unset] [(.ref b3)])
    refine o_astore X3 d_jdk_42_method_149_39 rfl (L' := #[.val (.ref a), .val (.ref ar), .val (.int (0 : Int32)), .val (.int (Int32.ofNat cs.length)), .val .null, .val (.ref b3)]) rfl (q := 41) rfl ?_
    refine o_aloadN X3 d_jdk_42_method_149_41 rfl rfl (q := 42) rfl ?_
    refine o_aload X3 d_jdk_42_method_149_42 rfl rfl (q := 44) rfl ?_
    refine o_iloadN X3 d_jdk_42_method_149_44 rfl (q := 45) rfl ?_
    refine o_stat X3 [(.ref b3), (.int (Int32.ofNat cs.length))] (y' := (⟨"java/lang/StringUTF16", "coderFromArrayLen", "([BI)B"⟩ : MethodName)) (c_cfl0 hw b3 kb3 _ cs.length _ V3 hn (by omega)) all0 (w179 hw) (w180 hw) (w174 hw) (w181 hw) (by decide) d_jdk_42_method_149_45 (rest := [(.ref a)]) rfl rfl (lenOf pd7 rfl) rfl (by decide) (Nat.le_of_ble_eq_true rfl) (by decide) (by decide) (q := 48) rfl ?_
    intro v4 vm4 T4 h4 l4 X4 R4 q4
    obtain ⟨rfl, e4⟩ := q4
    have e4 := e4.symm
    subst e4
    show Goes p e below _ T4 (mkF m 48 #[.val (.ref a), .val (.ref ar), .val (.int (0 : Int32)), .val (.int (Int32.ofNat cs.length)), .val .null, .val (.ref b3)] [(.int (0 : Int32)), (.ref a)])
    have f5 := (Fc.keep K3 nin0)
    have f6 := (E.keep K3)
    have f8 := (CHr.safe R4 ((E.keep K3).lt) (CHr.safe R3 (E.lt) S_a))
    refine o_putF X4 f5 f6 ga f8 (host := "") (Or.inl (w22 hw)) Via.refl (Or.inr ⟨(w18 hw), rfl, rfl⟩) (w3 hw) (ty := .byte) (by decide) (by decide) (by decide) d_jdk_42_method_149_48 (q := 51) rfl ?_
    intro T7 h7 l7 X7 W7 R7 F7
    refine o_aloadN X7 d_jdk_42_method_149_51 rfl rfl (q := 52) rfl ?_
    refine o_aload X7 d_jdk_42_method_149_52 rfl rfl (q := 54) rfl ?_
    have f9 := ((Fv.keep K3 nin0).other W7 (Or.inr (slot_ne (Or.inr (w17 hw)) (Or.inr (w18 hw)) (by decide) (t := (.array .byte)) (t' := .byte) (by decide) (by decide))))
    have f10 := (f6.wr W7)
    have f12 := (CHr.safe R7 (f6.lt) f8)
    refine o_putF X7 f9 f10 ga f12 (host := "") (Or.inl (w21 hw)) Via.refl (Or.inr ⟨(w17 hw), rfl, rfl⟩) (w3 hw) (ty := (.array .byte)) (by decide) rfl rfl d_jdk_42_method_149_54 (q := 57) rfl ?_
    intro T11 h11 l11 X11 W11 R11 F11
    have sz13 := Nat.le_trans (Keep.refl h0 [a]).1 g3
    have k14 := Keep.trans (Keep.refl h0 [a]) K3 all0
    have k15 := Keep.wr k14 W7 (Or.inl (by simp))
    have k16 := Keep.wr k15 W11 (Or.inl (by simp))
    have f17 := (f10.wr W11)
    have f18 := (F7.other W11 (Or.inr (slot_ne (Or.inr (w18 hw)) (Or.inr (w17 hw)) (by decide) (t := .byte) (t' := (.array .byte)) (by decide) (by decide))))
    have f19 := ((V3.other W7 (Ne.symm (Nat.ne_of_lt (Nat.lt_of_lt_of_le E.lt g3)))).other W11 (Ne.symm (Nat.ne_of_lt (Nat.lt_of_lt_of_le E.lt g3))))
    exact o_ret X11 d_jdk_42_method_149_57 (fun Sf hSf => ⟨rfl, k16, b3, kb3, sz13, (Or.inl ⟨f17, f18, F11, f19, own_lat hr lq3, by omega⟩)⟩) (by decide) (by decide)
  · show Goes p e below _ T3 (mkF m 39 #[.val (.ref a), .val (.ref ar), .val (.int (0 : Int32)), .val (.int (Int32.ofNat cs.length)), .val .null, .unset] [(.ref b3)])
    refine o_astore X3 d_jdk_42_method_149_39 rfl (L' := #[.val (.ref a), .val (.ref ar), .val (.int (0 : Int32)), .val (.int (Int32.ofNat cs.length)), .val .null, .val (.ref b3)]) rfl (q := 41) rfl ?_
    refine o_aloadN X3 d_jdk_42_method_149_41 rfl rfl (q := 42) rfl ?_
    refine o_aload X3 d_jdk_42_method_149_42 rfl rfl (q := 44) rfl ?_
    refine o_iloadN X3 d_jdk_42_method_149_44 rfl (q := 45) rfl ?_
    refine o_stat X3 [(.ref b3), (.int (Int32.ofNat cs.length))] (y' := (⟨"java/lang/StringUTF16", "coderFromArrayLen", "([BI)B"⟩ : MethodName)) (c_cfl1 hw b3 kb3 _ cs.length _ V3 hn (by omega)) all0 (w179 hw) (w180 hw) (w174 hw) (w181 hw) (by decide) d_jdk_42_method_149_45 (rest := [(.ref a)]) rfl rfl (lenOf pd7 rfl) rfl (by decide) (Nat.le_of_ble_eq_true rfl) (by decide) (by decide) (q := 48) rfl ?_
    intro v20 vm20 T20 h20 l20 X20 R20 q20
    obtain ⟨rfl, e20⟩ := q20
    have e20 := e20.symm
    subst e20
    show Goes p e below _ T20 (mkF m 48 #[.val (.ref a), .val (.ref ar), .val (.int (0 : Int32)), .val (.int (Int32.ofNat cs.length)), .val .null, .val (.ref b3)] [(.int (1 : Int32)), (.ref a)])
    have f21 := (Fc.keep K3 nin0)
    have f22 := (E.keep K3)
    have f24 := (CHr.safe R20 ((E.keep K3).lt) (CHr.safe R3 (E.lt) S_a))
    refine o_putF X20 f21 f22 ga f24 (host := "") (Or.inl (w22 hw)) Via.refl (Or.inr ⟨(w18 hw), rfl, rfl⟩) (w3 hw) (ty := .byte) (by decide) (by decide) (by decide) d_jdk_42_method_149_48 (q := 51) rfl ?_
    intro T23 h23 l23 X23 W23 R23 F23
    refine o_aloadN X23 d_jdk_42_method_149_51 rfl rfl (q := 52) rfl ?_
    refine o_aload X23 d_jdk_42_method_149_52 rfl rfl (q := 54) rfl ?_
    have f25 := ((Fv.keep K3 nin0).other W23 (Or.inr (slot_ne (Or.inr (w17 hw)) (Or.inr (w18 hw)) (by decide) (t := (.array .byte)) (t' := .byte) (by decide) (by decide))))
    have f26 := (f22.wr W23)
    have f28 := (CHr.safe R23 (f22.lt) f24)
    refine o_putF X23 f25 f26 ga f28 (host := "") (Or.inl (w21 hw)) Via.refl (Or.inr ⟨(w17 hw), rfl, rfl⟩) (w3 hw) (ty := (.array .byte)) (by decide) rfl rfl d_jdk_42_method_149_54 (q := 57) rfl ?_
    intro T27 h27 l27 X27 W27 R27 F27
    have sz29 := Nat.le_trans (Keep.refl h0 [a]).1 g3
    have k30 := Keep.trans (Keep.refl h0 [a]) K3 all0
    have k31 := Keep.wr k30 W23 (Or.inl (by simp))
    have k32 := Keep.wr k31 W27 (Or.inl (by simp))
    have f33 := (f26.wr W27)
    have f34 := (F23.other W27 (Or.inr (slot_ne (Or.inr (w18 hw)) (Or.inr (w17 hw)) (by decide) (t := .byte) (t' := (.array .byte)) (by decide) (by decide))))
    have f35 := ((V3.other W23 (Ne.symm (Nat.ne_of_lt (Nat.lt_of_lt_of_le E.lt g3)))).other W27 (Ne.symm (Nat.ne_of_lt (Nat.lt_of_lt_of_le E.lt g3))))
    exact o_ret X27 d_jdk_42_method_149_57 (fun Sf hSf => ⟨rfl, k32, b3, kb3, sz29, (Or.inr ⟨f33, f34, F27, f35, lq3, hr, by omega⟩)⟩) (by decide) (by decide)
set_option maxRecDepth 65536 in
set_option maxHeartbeats 40000000 in
theorem c_newS1 {l : Launch} {Z : State} {a0 : Array Value} (hw : W a0 Z) (a ar : Addr) (cs : List Int32) (h0 : Heap) {zc : Int32} (O2 : Sta Z Z.heap "java/lang/String" "COMPACT_STRINGS" "Z" (.int zc)) (P5 : ¬ zc = 0) (SA : Sta Z Z.heap "java/lang/StringUTF16" "$assertionsDisabled" "Z" (.int (1 : Int32))) (SH : Sta Z Z.heap "java/lang/StringUTF16" "HI_BYTE_SHIFT" "I" (.int (0 : Int32))) (SL : Sta Z Z.heap "java/lang/StringUTF16" "LO_BYTE_SHIFT" "I" (.int (8 : Int32))) (E : Exa Z h0 a "java/lang/String") (ga : Z.heap.size ≤ a) (Fv : Fld Z h0 a "java/lang/String" "value" "[B" .null) (Fc : Fld Z h0 a "java/lang/String" "coder" "B" (.int (0 : Int32))) {ka : ClassId} (Va : Arv Z h0 ar ka .char (Int32.ofNat cs.length) (cs.map Value.int) (.int (0 : Int32))) (hne : ar ≠ a) (hN : cs.length ≤ 400) (hr : ∀ c ∈ cs, Rg c) (hn : 0 < cs.length) :
    Con l Z EL0 (⟨"java/lang/String", "<init>", "([C)V"⟩ : MethodName) jdk_42_method_3_code 2 none ({ frames := 5, cells := 4, slots := 1208, locals := 74 } : Room) #[(.ref a), (.ref ar)] h0 [a] (fun v h' Sf => v = none ∧ Keep h0 h' [a] ∧ ∃ (b : Addr) (kb : ClassId), h0.size ≤ b ∧ US Z h' a b kb cs) := by
  have hpn : plainName "java/lang/String" = true := by first | (simp [plainName, overriddenIn]; done) | decide +kernel
  refine Con.intro (plainFor_of_name hpn) ?_
  intro p e s m below meth c T X hss
  have S_a := hss a (by simp)
  refine Goes.cast (g' := mkF m 0 #[.val (.ref a), .val (.ref ar)] []) (by first | (simp [entryFrame, mkF, argsToLocals, Value.category]; done) | rfl) ?_
  refine o_aloadN X d_jdk_42_method_3_0 rfl rfl (q := 1) rfl ?_
  refine o_aloadN X d_jdk_42_method_3_1 rfl rfl (q := 2) rfl ?_
  refine o_iconst X d_jdk_42_method_3_2 (w := 0) rfl (q := 3) rfl ?_
  refine o_aloadN X d_jdk_42_method_3_3 rfl rfl (q := 4) rfl ?_
  refine o_len X Va d_jdk_42_method_3_4 (q := 5) rfl ?_
  refine o_null X d_jdk_42_method_3_5 (q := 6) rfl ?_
  refine o_spec X [(.ref ar), (.int (0 : Int32)), (.int (Int32.ofNat cs.length)), .null] (y' := (⟨"java/lang/String", "<init>", "([CIILjava/lang/Void;)V"⟩ : MethodName)) (c_ini4 hw a ar cs _ O2 P5 SA SH SL E ga Fv Fc Va hne hN hr hn) (allS ⟨E.lt, S_a⟩ all0) rfl (w8 hw) (w9 hw) (w11 hw) (w4 hw) (by decide) d_jdk_42_method_3_6 (rest := []) rfl rfl (lenOf pd0 rfl) rfl (by decide) (Nat.le_of_ble_eq_true rfl) (by decide) (by decide) (q := 9) rfl ?_
  intro v1 vm1 T1 h1 l1 X1 R1 q1
  obtain ⟨rfl, K1, b1, kb1, g1, U1⟩ := q1
  show Goes p e below _ T1 (mkF m 9 #[.val (.ref a), .val (.ref ar)] [])
  have k2 := Keep.trans (Keep.refl h0 [a]) K1 (allS (Or.inl (by simp)) all0)
  exact o_ret X1 d_jdk_42_method_3_9 (fun Sf hSf => ⟨rfl, k2, b1, kb1, g1, U1⟩) (by decide) (by decide)
set_option maxRecDepth 65536 in
set_option maxHeartbeats 40000000 in
theorem c_pchkR {l : Launch} {Z : State} {a0 : Array Value} (hw : W a0 Z) (f : Addr) (i n : Nat) (h0 : Heap) (hi : i < n) (hN : n ≤ 4000) :
    Con l Z EL0 (⟨"jdk/internal/util/Preconditions", "checkIndex", "(IILjava/util/function/BiFunction;)I"⟩ : MethodName) jdk_41_method_11_code 3 (some .int) ({ frames := 0, cells := 0, slots := 0, locals := 0 } : Room) #[(.int (Int32.ofNat i)), (.int (Int32.ofNat n)), (.ref f)] h0 [] (fun v h' Sf => v = some (.int (Int32.ofNat i)) ∧ h' = h0) := by
  have hpn : plainName "jdk/internal/util/Preconditions" = true := by first | (simp [plainName, overriddenIn]; done) | decide +kernel
  refine Con.intro (plainFor_of_name hpn) ?_
  intro p e s m below meth c T X hss
  refine Goes.cast (g' := mkF m 0 #[.val (.int (Int32.ofNat i)), .val (.int (Int32.ofNat n)), .val (.ref f)] []) (by first | (simp [entryFrame, mkF, argsToLocals, Value.category]; done) | rfl) ?_
  refine o_iloadN X d_jdk_41_method_11_0 rfl (q := 1) rfl ?_
  refine o_ifN X d_jdk_41_method_11_1 (flt (n_neg (by omega))).1 (q := 4) rfl ?_
  refine o_iloadN X d_jdk_41_method_11_4 rfl (q := 5) rfl ?_
  refine o_iloadN X d_jdk_41_method_11_5 rfl (q := 6) rfl ?_
  refine o_icmpY X d_jdk_41_method_11_6 (tlt ((n_lt (by omega) (by omega)).mpr hi)).1 (by decide) (q := 16) (by decide) ?_
  refine o_iloadN X d_jdk_41_method_11_16 rfl (q := 17) rfl ?_
  exact o_retI X d_jdk_41_method_11_17 (fun Sf hSf => ⟨rfl, rfl⟩) (by decide) (by decide)
set_option maxRecDepth 65536 in
set_option maxHeartbeats 40000000 in
theorem c_pchkN {l : Launch} {Z : State} {a0 : Array Value} (hw : W a0 Z) (i n : Nat) (h0 : Heap) (hi : i < n) (hN : n ≤ 4000) :
    Con l Z EL0 (⟨"jdk/internal/util/Preconditions", "checkIndex", "(IILjava/util/function/BiFunction;)I"⟩ : MethodName) jdk_41_method_11_code 3 (some .int) ({ frames := 0, cells := 0, slots := 0, locals := 0 } : Room) #[(.int (Int32.ofNat i)), (.int (Int32.ofNat n)), .null] h0 [] (fun v h' Sf => v = some (.int (Int32.ofNat i)) ∧ h' = h0) := by
  have hpn : plainName "jdk/internal/util/Preconditions" = true := by first | (simp [plainName, overriddenIn]; done) | decide +kernel
  refine Con.intro (plainFor_of_name hpn) ?_
  intro p e s m below meth c T X hss
  refine Goes.cast (g' := mkF m 0 #[.val (.int (Int32.ofNat i)), .val (.int (Int32.ofNat n)), .val .null] []) (by first | (simp [entryFrame, mkF, argsToLocals, Value.category]; done) | rfl) ?_
  refine o_iloadN X d_jdk_41_method_11_0 rfl (q := 1) rfl ?_
  refine o_ifN X d_jdk_41_method_11_1 (flt (n_neg (by omega))).1 (q := 4) rfl ?_
  refine o_iloadN X d_jdk_41_method_11_4 rfl (q := 5) rfl ?_
  refine o_iloadN X d_jdk_41_method_11_5 rfl (q := 6) rfl ?_
  refine o_icmpY X d_jdk_41_method_11_6 (tlt ((n_lt (by omega) (by omega)).mpr hi)).1 (by decide) (q := 16) (by decide) ?_
  refine o_iloadN X d_jdk_41_method_11_16 rfl (q := 17) rfl ?_
  exact o_retI X d_jdk_41_method_11_17 (fun Sf hSf => ⟨rfl, rfl⟩) (by decide) (by decide)
theorem c_pchk {l : Launch} {Z : State} {a0 : Array Value} (hw : W a0 Z) (fm : Value) (i n : Nat) (h0 : Heap) (rfm : fm.isRef = true) (hi : i < n) (hN : n ≤ 4000) :
    Con l Z EL0 (⟨"jdk/internal/util/Preconditions", "checkIndex", "(IILjava/util/function/BiFunction;)I"⟩ : MethodName) jdk_41_method_11_code 3 (some .int) ({ frames := 0, cells := 0, slots := 0, locals := 0 } : Room) #[(.int (Int32.ofNat i)), (.int (Int32.ofNat n)), fm] h0 [] (fun v h' Sf => v = some (.int (Int32.ofNat i)) ∧ h' = h0) := by
  cases fm with
  | null => exact c_pchkN hw i n h0 hi hN
  | ref f => exact c_pchkR hw f i n h0 hi hN
  | _ => exact absurd rfm (by simp [Value.isRef])
set_option maxRecDepth 65536 in
set_option maxHeartbeats 40000000 in
theorem c_chk {l : Launch} {Z : State} {a0 : Array Value} (hw : W a0 Z) (i n : Nat) (h0 : Heap) {fm : Value} (O4 : Sta Z Z.heap "jdk/internal/util/Preconditions" "SIOOBE_FORMATTER" "Ljava/util/function/BiFunction;" fm) (rfm : fm.isRef = true) (hi : i < n) (hN : n ≤ 4000) :
    Con l Z EL0 (⟨"java/lang/String", "checkIndex", "(II)V"⟩ : MethodName) jdk_42_method_155_code 2 none ({ frames := 1, cells := 0, slots := 0, locals := 14 } : Room) #[(.int (Int32.ofNat i)), (.int (Int32.ofNat n))] h0 [] (fun v h' Sf => v = none ∧ h' = h0) := by
  have hpn : plainName "java/lang/String" = true := by first | (simp [plainName, overriddenIn]; done) | decide +kernel
  refine Con.intro (plainFor_of_name hpn) ?_
  intro p e s m below meth c T X hss
  refine Goes.cast (g' := mkF m 0 #[.val (.int (Int32.ofNat i)), .val (.int (Int32.ofNat n))] []) (by first | (simp [entryFrame, mkF, argsToLocals, Value.category]; done) | rfl) ?_
  refine o_iloadN X d_jdk_42_method_155_0 rfl (q := 1) rfl ?_
  refine o_iloadN X d_jdk_42_method_155_1 rfl (q := 2) rfl ?_
  refine o_getS X O4 (host := "") (Or.inl (w163 hw)) Via.refl d_jdk_42_method_155_2 (q := 5) rfl ?_
  intro T1 X1
  refine o_stat X1 [(.int (Int32.ofNat i)), (.int (Int32.ofNat n)), fm] (y' := (⟨"jdk/internal/util/Preconditions", "checkIndex", "(IILjava/util/function/BiFunction;)I"⟩ : MethodName)) (c_pchk hw fm i n _ rfm hi hN) all0 (w165 hw) (w166 hw) (w164 hw) (w167 hw) (by decide) d_jdk_42_method_155_5 (rest := []) rfl rfl (lenOf pd8 rfl) rfl (by decide) (Nat.le_of_ble_eq_true rfl) (by decide) (by decide) (q := 8) rfl ?_
  intro v2 vm2 T2 h2 l2 X2 R2 q2
  obtain ⟨rfl, e2⟩ := q2
  have e2 := e2.symm
  subst e2
  show Goes p e below _ T2 (mkF m 8 #[.val (.int (Int32.ofNat i)), .val (.int (Int32.ofNat n))] [(.int (Int32.ofNat i))])
  refine o_pop X2 d_jdk_42_method_155_8 rfl (q := 9) rfl ?_
  exact o_ret X2 d_jdk_42_method_155_9 (fun Sf hSf => ⟨rfl, rfl⟩) (by decide) (by decide)
set_option maxRecDepth 65536 in
set_option maxHeartbeats 40000000 in
theorem c_pftR {l : Launch} {Z : State} {a0 : Array Value} (hw : W a0 Z) (f : Addr) (n : Nat) (h0 : Heap) (hi : 197 ≤ n) (hN : n ≤ 4000) :
    Con l Z EL0 (⟨"jdk/internal/util/Preconditions", "checkFromToIndex", "(IIILjava/util/function/BiFunction;)I"⟩ : MethodName) jdk_41_method_12_code 4 (some .int) ({ frames := 0, cells := 0, slots := 0, locals := 0 } : Room) #[(.int (0 : Int32)), (.int (197 : Int32)), (.int (Int32.ofNat n)), (.ref f)] h0 [] (fun v h' Sf => v = some (.int (0 : Int32)) ∧ h' = h0) := by
  have hpn : plainName "jdk/internal/util/Preconditions" = true := by first | (simp [plainName, overriddenIn]; done) | decide +kernel
  refine Con.intro (plainFor_of_name hpn) ?_
  intro p e s m below meth c T X hss
  refine Goes.cast (g' := mkF m 0 #[.val (.int (0 : Int32)), .val (.int (197 : Int32)), .val (.int (Int32.ofNat n)), .val (.ref f)] []) (by first | (simp [entryFrame, mkF, argsToLocals, Value.category]; done) | rfl) ?_
  refine o_iloadN X d_jdk_41_method_12_0 rfl (q := 1) rfl ?_
  refine o_ifN X d_jdk_41_method_12_1 (by decide) (q := 4) rfl ?_
  refine o_iloadN X d_jdk_41_method_12_4 rfl (q := 5) rfl ?_
  refine o_iloadN X d_jdk_41_method_12_5 rfl (q := 6) rfl ?_
  refine o_icmpN X d_jdk_41_method_12_6 (by decide) (q := 9) rfl ?_
  refine o_iloadN X d_jdk_41_method_12_9 rfl (q := 10) rfl ?_
  refine o_iloadN X d_jdk_41_method_12_10 rfl (q := 11) rfl ?_
  refine o_icmpY X d_jdk_41_method_12_11 (flt (fun q => absurd ((n_lt (a := n) (b := 197) (by omega) (by omega)).mp q) (by omega))).2.2.2 (by decide) (q := 22) (by decide) ?_
  refine o_iloadN X d_jdk_41_method_12_22 rfl (q := 23) rfl ?_
  exact o_retI X d_jdk_41_method_12_23 (fun Sf hSf => ⟨rfl, rfl⟩) (by decide) (by decide)
set_option maxRecDepth 65536 in
set_option maxHeartbeats 40000000 in
theorem c_pftN {l : Launch} {Z : State} {a0 : Array Value} (hw : W a0 Z) (n : Nat) (h0 : Heap) (hi : 197 ≤ n) (hN : n ≤ 4000) :
    Con l Z EL0 (⟨"jdk/internal/util/Preconditions", "checkFromToIndex", "(IIILjava/util/function/BiFunction;)I"⟩ : MethodName) jdk_41_method_12_code 4 (some .int) ({ frames := 0, cells := 0, slots := 0, locals := 0 } : Room) #[(.int (0 : Int32)), (.int (197 : Int32)), (.int (Int32.ofNat n)), .null] h0 [] (fun v h' Sf => v = some (.int (0 : Int32)) ∧ h' = h0) := by
  have hpn : plainName "jdk/internal/util/Preconditions" = true := by first | (simp [plainName, overriddenIn]; done) | decide +kernel
  refine Con.intro (plainFor_of_name hpn) ?_
  intro p e s m below meth c T X hss
  refine Goes.cast (g' := mkF m 0 #[.val (.int (0 : Int32)), .val (.int (197 : Int32)), .val (.int (Int32.ofNat n)), .val .null] []) (by first | (simp [entryFrame, mkF, argsToLocals, Value.category]; done) | rfl) ?_
  refine o_iloadN X d_jdk_41_method_12_0 rfl (q := 1) rfl ?_
  refine o_ifN X d_jdk_41_method_12_1 (by decide) (q := 4) rfl ?_
  refine o_iloadN X d_jdk_41_method_12_4 rfl (q := 5) rfl ?_
  refine o_iloadN X d_jdk_41_method_12_5 rfl (q := 6) rfl ?_
  refine o_icmpN X d_jdk_41_method_12_6 (by decide) (q := 9) rfl ?_
  refine o_iloadN X d_jdk_41_method_12_9 rfl (q := 10) rfl ?_
  refine o_iloadN X d_jdk_41_method_12_10 rfl (q := 11) rfl ?_
  refine o_icmpY X d_jdk_41_method_12_11 (flt (fun q => absurd ((n_lt (a := n) (b := 197) (by omega) (by omega)).mp q) (by omega))).2.2.2 (by decide) (q := 22) (by decide) ?_
  refine o_iloadN X d_jdk_41_method_12_22 rfl (q := 23) rfl ?_
  exact o_retI X d_jdk_41_method_12_23 (fun Sf hSf => ⟨rfl, rfl⟩) (by decide) (by decide)
theorem c_pft {l : Launch} {Z : State} {a0 : Array Value} (hw : W a0 Z) (fm : Value) (n : Nat) (h0 : Heap) (rfm : fm.isRef = true) (hi : 197 ≤ n) (hN : n ≤ 4000) :
    Con l Z EL0 (⟨"jdk/internal/util/Preconditions", "checkFromToIndex", "(IIILjava/util/function/BiFunction;)I"⟩ : MethodName) jdk_41_method_12_code 4 (some .int) ({ frames := 0, cells := 0, slots := 0, locals := 0 } : Room) #[(.int (0 : Int32)), (.int (197 : Int32)), (.int (Int32.ofNat n)), fm] h0 [] (fun v h' Sf => v = some (.int (0 : Int32)) ∧ h' = h0) := by
  cases fm with
  | null => exact c_pftN hw n h0 hi hN
  | ref f => exact c_pftR hw f n h0 hi hN
  | _ => exact absurd rfm (by simp [Value.isRef])
set_option maxRecDepth 65536 in
set_option maxHeartbeats 40000000 in
theorem c_cbe {l : Launch} {Z : State} {a0 : Array Value} (hw : W a0 Z) (n : Nat) (h0 : Heap) {fm : Value} (O4 : Sta Z Z.heap "jdk/internal/util/Preconditions" "SIOOBE_FORMATTER" "Ljava/util/function/BiFunction;" fm) (rfm : fm.isRef = true) (hi : 197 ≤ n) (hN : n ≤ 4000) :
    Con l Z EL0 (⟨"java/lang/String", "checkBoundsBeginEnd", "(III)V"⟩ : MethodName) jdk_42_method_158_code 3 none ({ frames := 1, cells := 0, slots := 0, locals := 15 } : Room) #[(.int (0 : Int32)), (.int (197 : Int32)), (.int (Int32.ofNat n))] h0 [] (fun v h' Sf => v = none ∧ h' = h0) := by
  have hpn : plainName "java/lang/String" = true := by first | (simp [plainName, overriddenIn]; done) | decide +kernel
  refine Con.intro (plainFor_of_name hpn) ?_
  intro p e s m below meth c T X hss
  refine Goes.cast (g' := mkF m 0 #[.val (.int (0 : Int32)), .val (.int (197 : Int32)), .val (.int (Int32.ofNat n))] []) (by first | (simp [entryFrame, mkF, argsToLocals, Value.category]; done) | rfl) ?_
  refine o_iloadN X d_jdk_42_method_158_0 rfl (q := 1) rfl ?_
  refine o_iloadN X d_jdk_42_method_158_1 rfl (q := 2) rfl ?_
  refine o_iloadN X d_jdk_42_method_158_2 rfl (q := 3) rfl ?_
  refine o_getS X O4 (host := "") (Or.inl (w163 hw)) Via.refl d_jdk_42_method_158_3 (q := 6) rfl ?_
  intro T1 X1
  refine o_stat X1 [(.int (0 : Int32)), (.int (197 : Int32)), (.int (Int32.ofNat n)), fm] (y' := (⟨"jdk/internal/util/Preconditions", "checkFromToIndex", "(IIILjava/util/function/BiFunction;)I"⟩ : MethodName)) (c_pft hw fm n _ rfm hi hN) all0 (w191 hw) (w192 hw) (w164 hw) (w193 hw) (by decide) d_jdk_42_method_158_6 (rest := []) rfl rfl (lenOf pd9 rfl) rfl (by decide) (Nat.le_of_ble_eq_true rfl) (by decide) (by decide) (q := 9) rfl ?_
  intro v2 vm2 T2 h2 l2 X2 R2 q2
  obtain ⟨rfl, e2⟩ := q2
  have e2 := e2.symm
  subst e2
  show Goes p e below _ T2 (mkF m 9 #[.val (.int (0 : Int32)), .val (.int (197 : Int32)), .val (.int (Int32.ofNat n))] [(.int (0 : Int32))])
  refine o_pop X2 d_jdk_42_method_158_9 rfl (q := 10) rfl ?_
  exact o_ret X2 d_jdk_42_method_158_10 (fun Sf hSf => ⟨rfl, rfl⟩) (by decide) (by decide)
set_option maxRecDepth 65536 in
set_option maxHeartbeats 40000000 in
theorem c_pfiR {l : Launch} {Z : State} {a0 : Array Value} (hw : W a0 Z) (f : Addr) (o k n : Nat) (h0 : Heap) (hi : o + k ≤ n) (hN : n ≤ 4000) :
    Con l Z EL0 (⟨"jdk/internal/util/Preconditions", "checkFromIndexSize", "(IIILjava/util/function/BiFunction;)I"⟩ : MethodName) jdk_41_method_13_code 4 (some .int) ({ frames := 0, cells := 0, slots := 0, locals := 0 } : Room) #[(.int (Int32.ofNat o)), (.int (Int32.ofNat k)), (.int (Int32.ofNat n)), (.ref f)] h0 [] (fun v h' Sf => v = some (.int (Int32.ofNat o)) ∧ h' = h0) := by
  have hpn : plainName "jdk/internal/util/Preconditions" = true := by first | (simp [plainName, overriddenIn]; done) | decide +kernel
  refine Con.intro (plainFor_of_name hpn) ?_
  intro p e s m below meth c T X hss
  refine Goes.cast (g' := mkF m 0 #[.val (.int (Int32.ofNat o)), .val (.int (Int32.ofNat k)), .val (.int (Int32.ofNat n)), .val (.ref f)] []) (by first | (simp [entryFrame, mkF, argsToLocals, Value.category]; done) | rfl) ?_
  refine o_iloadN X d_jdk_41_method_13_0 rfl (q := 1) rfl ?_
  refine o_iloadN X d_jdk_41_method_13_1 rfl (q := 2) rfl ?_
  refine o_ior X d_jdk_41_method_13_2 (w := ((Int32.ofNat n) ||| (Int32.ofNat o))) rfl (q := 3) rfl ?_
  refine o_iloadN X d_jdk_41_method_13_3 rfl (q := 4) rfl ?_
  refine o_ior X d_jdk_41_method_13_4 (w := (((Int32.ofNat n) ||| (Int32.ofNat o)) ||| (Int32.ofNat k))) rfl (q := 5) rfl ?_
  refine o_ifN X d_jdk_41_method_13_5 (flt (own_or3 (by omega) (by omega) (by omega))).1 (q := 8) rfl ?_
  refine o_iloadN X d_jdk_41_method_13_8 rfl (q := 9) rfl ?_
  refine o_iloadN X d_jdk_41_method_13_9 rfl (q := 10) rfl ?_
  refine o_iloadN X d_jdk_41_method_13_10 rfl (q := 11) rfl ?_
  refine o_isub X d_jdk_41_method_13_11 (w := (Int32.ofNat (n - o))) (n_sub (by omega)) (q := 12) rfl ?_
  refine o_icmpY X d_jdk_41_method_13_12 (flt (fun q => absurd ((n_lt (by omega) (by omega)).mp q) (by omega))).2.2.2 (by decide) (q := 23) (by decide) ?_
  refine o_iloadN X d_jdk_41_method_13_23 rfl (q := 24) rfl ?_
  exact o_retI X d_jdk_41_method_13_24 (fun Sf hSf => ⟨rfl, rfl⟩) (by decide) (by decide)
set_option maxRecDepth 65536 in
set_option maxHeartbeats 40000000 in
theorem c_pfiN {l : Launch} {Z : State} {a0 : Array Value} (hw : W a0 Z) (o k n : Nat) (h0 : Heap) (hi : o + k ≤ n) (hN : n ≤ 4000) :
    Con l Z EL0 (⟨"jdk/internal/util/Preconditions", "checkFromIndexSize", "(IIILjava/util/function/BiFunction;)I"⟩ : MethodName) jdk_41_method_13_code 4 (some .int) ({ frames := 0, cells := 0, slots := 0, locals := 0 } : Room) #[(.int (Int32.ofNat o)), (.int (Int32.ofNat k)), (.int (Int32.ofNat n)), .null] h0 [] (fun v h' Sf => v = some (.int (Int32.ofNat o)) ∧ h' = h0) := by
  have hpn : plainName "jdk/internal/util/Preconditions" = true := by first | (simp [plainName, overriddenIn]; done) | decide +kernel
  refine Con.intro (plainFor_of_name hpn) ?_
  intro p e s m below meth c T X hss
  refine Goes.cast (g' := mkF m 0 #[.val (.int (Int32.ofNat o)), .val (.int (Int32.ofNat k)), .val (.int (Int32.ofNat n)), .val .null] []) (by first | (simp [entryFrame, mkF, argsToLocals, Value.category]; done) | rfl) ?_
  refine o_iloadN X d_jdk_41_method_13_0 rfl (q := 1) rfl ?_
  refine o_iloadN X d_jdk_41_method_13_1 rfl (q := 2) rfl ?_
  refine o_ior X d_jdk_41_method_13_2 (w := ((Int32.ofNat n) ||| (Int32.ofNat o))) rfl (q := 3) rfl ?_
  refine o_iloadN X d_jdk_41_method_13_3 rfl (q := 4) rfl ?_
  refine o_ior X d_jdk_41_method_13_4 (w := (((Int32.ofNat n) ||| (Int32.ofNat o)) ||| (Int32.ofNat k))) rfl (q := 5) rfl ?_
  refine o_ifN X d_jdk_41_method_13_5 (flt (own_or3 (by omega) (by omega) (by omega))).1 (q := 8) rfl ?_
  refine o_iloadN X d_jdk_41_method_13_8 rfl (q := 9) rfl ?_
  refine o_iloadN X d_jdk_41_method_13_9 rfl (q := 10) rfl ?_
  refine o_iloadN X d_jdk_41_method_13_10 rfl (q := 11) rfl ?_
  refine o_isub X d_jdk_41_method_13_11 (w := (Int32.ofNat (n - o))) (n_sub (by omega)) (q := 12) rfl ?_
  refine o_icmpY X d_jdk_41_method_13_12 (flt (fun q => absurd ((n_lt (by omega) (by omega)).mp q) (by omega))).2.2.2 (by decide) (q := 23) (by decide) ?_
  refine o_iloadN X d_jdk_41_method_13_23 rfl (q := 24) rfl ?_
  exact o_retI X d_jdk_41_method_13_24 (fun Sf hSf => ⟨rfl, rfl⟩) (by decide) (by decide)
theorem c_pfi {l : Launch} {Z : State} {a0 : Array Value} (hw : W a0 Z) (fm : Value) (o k n : Nat) (h0 : Heap) (rfm : fm.isRef = true) (hi : o + k ≤ n) (hN : n ≤ 4000) :
    Con l Z EL0 (⟨"jdk/internal/util/Preconditions", "checkFromIndexSize", "(IIILjava/util/function/BiFunction;)I"⟩ : MethodName) jdk_41_method_13_code 4 (some .int) ({ frames := 0, cells := 0, slots := 0, locals := 0 } : Room) #[(.int (Int32.ofNat o)), (.int (Int32.ofNat k)), (.int (Int32.ofNat n)), fm] h0 [] (fun v h' Sf => v = some (.int (Int32.ofNat o)) ∧ h' = h0) := by
  cases fm with
  | null => exact c_pfiN hw o k n h0 hi hN
  | ref f => exact c_pfiR hw f o k n h0 hi hN
  | _ => exact absurd rfm (by simp [Value.isRef])
set_option maxRecDepth 65536 in
set_option maxHeartbeats 40000000 in
theorem c_cbo {l : Launch} {Z : State} {a0 : Array Value} (hw : W a0 Z) (o k n : Nat) (h0 : Heap) {fm : Value} (O4 : Sta Z Z.heap "jdk/internal/util/Preconditions" "SIOOBE_FORMATTER" "Ljava/util/function/BiFunction;" fm) (rfm : fm.isRef = true) (hi : o + k ≤ n) (hN : n ≤ 4000) :
    Con l Z EL0 (⟨"java/lang/String", "checkBoundsOffCount", "(III)I"⟩ : MethodName) jdk_42_method_157_code 3 (some .int) ({ frames := 1, cells := 0, slots := 0, locals := 15 } : Room) #[(.int (Int32.ofNat o)), (.int (Int32.ofNat k)), (.int (Int32.ofNat n))] h0 [] (fun v h' Sf => v = some (.int (Int32.ofNat o)) ∧ h' = h0) := by
  have hpn : plainName "java/lang/String" = true := by first | (simp [plainName, overriddenIn]; done) | decide +kernel
  refine Con.intro (plainFor_of_name hpn) ?_
  intro p e s m below meth c T X hss
  refine Goes.cast (g' := mkF m 0 #[.val (.int (Int32.ofNat o)), .val (.int (Int32.ofNat k)), .val (.int (Int32.ofNat n))] []) (by first | (simp [entryFrame, mkF, argsToLocals, Value.category]; done) | rfl) ?_
  refine o_iloadN X d_jdk_42_method_157_0 rfl (q := 1) rfl ?_
  refine o_iloadN X d_jdk_42_method_157_1 rfl (q := 2) rfl ?_
  refine o_iloadN X d_jdk_42_method_157_2 rfl (q := 3) rfl ?_
  refine o_getS X O4 (host := "") (Or.inl (w163 hw)) Via.refl d_jdk_42_method_157_3 (q := 6) rfl ?_
  intro T1 X1
  refine o_stat X1 [(.int (Int32.ofNat o)), (.int (Int32.ofNat k)), (.int (Int32.ofNat n)), fm] (y' := (⟨"jdk/internal/util/Preconditions", "checkFromIndexSize", "(IIILjava/util/function/BiFunction;)I"⟩ : MethodName)) (c_pfi hw fm o k n _ rfm hi hN) all0 (w258 hw) (w259 hw) (w164 hw) (w260 hw) (by decide) d_jdk_42_method_157_6 (rest := []) rfl rfl (lenOf pd9 rfl) rfl (by decide) (Nat.le_of_ble_eq_true rfl) (by decide) (by decide) (q := 9) rfl ?_
  intro v2 vm2 T2 h2 l2 X2 R2 q2
  obtain ⟨rfl, e2⟩ := q2
  have e2 := e2.symm
  subst e2
  show Goes p e below _ T2 (mkF m 9 #[.val (.int (Int32.ofNat o)), .val (.int (Int32.ofNat k)), .val (.int (Int32.ofNat n))] [(.int (Int32.ofNat o))])
  exact o_retI X2 d_jdk_42_method_157_9 (fun Sf hSf => ⟨rfl, rfl⟩) (by decide) (by decide)
set_option maxRecDepth 65536 in
set_option maxHeartbeats 40000000 in
theorem c_ulen {l : Launch} {Z : State} {a0 : Array Value} (hw : W a0 Z) (b : Addr) (mm : Nat) (h0 : Heap) {kb : ClassId} {vs : List Value} (Vb : Arv Z h0 b kb .byte (Int32.ofNat (2 * mm)) vs (.int (0 : Int32))) (hm : mm ≤ 404) :
    Con l Z EL0 (⟨"java/lang/StringUTF16", "length", "([B)I"⟩ : MethodName) jdk_52_method_6_code 1 (some .int) ({ frames := 0, cells := 0, slots := 0, locals := 0 } : Room) #[(.ref b)] h0 [] (fun v h' Sf => v = some (.int (Int32.ofNat mm)) ∧ h' = h0) := by
  have hpn : plainName "java/lang/StringUTF16" = true := by first | (simp [plainName, overriddenIn]; done) | decide +kernel
  refine Con.intro (plainFor_of_name hpn) ?_
  intro p e s m below meth c T X hss
  refine Goes.cast (g' := mkF m 0 #[.val (.ref b)] []) (by first | (simp [entryFrame, mkF, argsToLocals, Value.category]; done) | rfl) ?_
  refine o_aloadN X d_jdk_52_method_6_0 rfl rfl (q := 1) rfl ?_
  refine o_len X Vb d_jdk_52_method_6_1 (q := 2) rfl ?_
  refine o_iconst X d_jdk_52_method_6_2 (w := 1) rfl (q := 3) rfl ?_
  refine o_ishr X d_jdk_52_method_6_3 (w := (Int32.ofNat mm)) (own_shr1 (by omega)) (q := 4) rfl ?_
  exact o_retI X d_jdk_52_method_6_4 (fun Sf hSf => ⟨rfl, rfl⟩) (by decide) (by decide)
set_option maxRecDepth 65536 in
set_option maxHeartbeats 40000000 in
theorem c_ucbo {l : Launch} {Z : State} {a0 : Array Value} (hw : W a0 Z) (b : Addr) (o k mm : Nat) (h0 : Heap) {fm : Value} (O4 : Sta Z Z.heap "jdk/internal/util/Preconditions" "SIOOBE_FORMATTER" "Ljava/util/function/BiFunction;" fm) (rfm : fm.isRef = true) {kb : ClassId} {vs : List Value} (Vb : Arv Z h0 b kb .byte (Int32.ofNat (2 * mm)) vs (.int (0 : Int32))) (hm : mm ≤ 404) (hk : o + k ≤ mm) :
    Con l Z EL0 (⟨"java/lang/StringUTF16", "checkBoundsOffCount", "(II[B)V"⟩ : MethodName) jdk_52_method_94_code 3 none ({ frames := 2, cells := 0, slots := 0, locals := 29 } : Room) #[(.int (Int32.ofNat o)), (.int (Int32.ofNat k)), (.ref b)] h0 [] (fun v h' Sf => v = none ∧ h' = h0) := by
  have hpn : plainName "java/lang/StringUTF16" = true := by first | (simp [plainName, overriddenIn]; done) | decide +kernel
  refine Con.intro (plainFor_of_name hpn) ?_
  intro p e s m below meth c T X hss
  refine Goes.cast (g' := mkF m 0 #[.val (.int (Int32.ofNat o)), .val (.int (Int32.ofNat k)), .val (.ref b)] []) (by first | (simp [entryFrame, mkF, argsToLocals, Value.category]; done) | rfl) ?_
  refine o_iloadN X d_jdk_52_method_94_0 rfl (q := 1) rfl ?_
  refine o_iloadN X d_jdk_52_method_94_1 rfl (q := 2) rfl ?_
  refine o_aloadN X d_jdk_52_method_94_2 rfl rfl (q := 3) rfl ?_
  refine o_stat X [(.ref b)] (y' := (⟨"java/lang/StringUTF16", "length", "([B)I"⟩ : MethodName)) (c_ulen hw b mm _ Vb hm) all0 (w252 hw) (w253 hw) (w174 hw) (w254 hw) (by decide) d_jdk_52_method_94_3 (rest := [(.int (Int32.ofNat k)), (.int (Int32.ofNat o))]) rfl rfl (lenOf pd10 rfl) rfl (by decide) (Nat.le_of_ble_eq_true rfl) (by decide) (by decide) (q := 6) rfl ?_
  intro v1 vm1 T1 h1 l1 X1 R1 q1
  obtain ⟨rfl, e1⟩ := q1
  have e1 := e1.symm
  subst e1
  show Goes p e below _ T1 (mkF m 6 #[.val (.int (Int32.ofNat o)), .val (.int (Int32.ofNat k)), .val (.ref b)] [(.int (Int32.ofNat mm)), (.int (Int32.ofNat k)), (.int (Int32.ofNat o))])
  refine o_stat X1 [(.int (Int32.ofNat o)), (.int (Int32.ofNat k)), (.int (Int32.ofNat mm))] (y' := (⟨"java/lang/String", "checkBoundsOffCount", "(III)I"⟩ : MethodName)) (c_cbo hw o k mm _ O4 rfm hk (by omega)) all0 (w255 hw) (w256 hw) (w4 hw) (w257 hw) (by decide) d_jdk_52_method_94_6 (rest := []) rfl rfl (lenOf pd11 rfl) rfl (by decide) (Nat.le_of_ble_eq_true rfl) (by decide) (by decide) (q := 9) rfl ?_
  intro v2 vm2 T2 h2 l2 X2 R2 q2
  obtain ⟨rfl, e2⟩ := q2
  have e2 := e2.symm
  subst e2
  show Goes p e below _ T2 (mkF m 9 #[.val (.int (Int32.ofNat o)), .val (.int (Int32.ofNat k)), .val (.ref b)] [(.int (Int32.ofNat o))])
  refine o_pop X2 d_jdk_52_method_94_9 rfl (q := 10) rfl ?_
  exact o_ret X2 d_jdk_52_method_94_10 (fun Sf hSf => ⟨rfl, rfl⟩) (by decide) (by decide)
set_option maxRecDepth 65536 in
set_option maxHeartbeats 40000000 in
theorem c_uchk {l : Launch} {Z : State} {a0 : Array Value} (hw : W a0 Z) (b : Addr) (i mm : Nat) (h0 : Heap) {fm : Value} (O4 : Sta Z Z.heap "jdk/internal/util/Preconditions" "SIOOBE_FORMATTER" "Ljava/util/function/BiFunction;" fm) (rfm : fm.isRef = true) {kb : ClassId} {vs : List Value} (Vb : Arv Z h0 b kb .byte (Int32.ofNat (2 * mm)) vs (.int (0 : Int32))) (hm : mm ≤ 404) (hi : i < mm) :
    Con l Z EL0 (⟨"java/lang/StringUTF16", "checkIndex", "(I[B)V"⟩ : MethodName) jdk_52_method_91_code 2 none ({ frames := 2, cells := 0, slots := 0, locals := 27 } : Room) #[(.int (Int32.ofNat i)), (.ref b)] h0 [] (fun v h' Sf => v = none ∧ h' = h0) := by
  have hpn : plainName "java/lang/StringUTF16" = true := by first | (simp [plainName, overriddenIn]; done) | decide +kernel
  refine Con.intro (plainFor_of_name hpn) ?_
  intro p e s m below meth c T X hss
  refine Goes.cast (g' := mkF m 0 #[.val (.int (Int32.ofNat i)), .val (.ref b)] []) (by first | (simp [entryFrame, mkF, argsToLocals, Value.category]; done) | rfl) ?_
  refine o_iloadN X d_jdk_52_method_91_0 rfl (q := 1) rfl ?_
  refine o_aloadN X d_jdk_52_method_91_1 rfl rfl (q := 2) rfl ?_
  refine o_stat X [(.ref b)] (y' := (⟨"java/lang/StringUTF16", "length", "([B)I"⟩ : MethodName)) (c_ulen hw b mm _ Vb hm) all0 (w252 hw) (w253 hw) (w174 hw) (w254 hw) (by decide) d_jdk_52_method_91_2 (rest := [(.int (Int32.ofNat i))]) rfl rfl (lenOf pd10 rfl) rfl (by decide) (Nat.le_of_ble_eq_true rfl) (by decide) (by decide) (q := 5) rfl ?_
  intro v1 vm1 T1 h1 l1 X1 R1 q1
  obtain ⟨rfl, e1⟩ := q1
  have e1 := e1.symm
  subst e1
  show Goes p e below _ T1 (mkF m 5 #[.val (.int (Int32.ofNat i)), .val (.ref b)] [(.int (Int32.ofNat mm)), (.int (Int32.ofNat i))])
  refine o_stat X1 [(.int (Int32.ofNat i)), (.int (Int32.ofNat mm))] (y' := (⟨"java/lang/String", "checkIndex", "(II)V"⟩ : MethodName)) (c_chk hw i mm _ O4 rfm hi (by omega)) all0 (w287 hw) (w161 hw) (w4 hw) (w162 hw) (by decide) d_jdk_52_method_91_5 (rest := []) rfl rfl (lenOf pd12 rfl) rfl (by decide) (Nat.le_of_ble_eq_true rfl) (by decide) (by decide) (q := 8) rfl ?_
  intro v2 vm2 T2 h2 l2 X2 R2 q2
  obtain ⟨rfl, e2⟩ := q2
  have e2 := e2.symm
  subst e2
  show Goes p e below _ T2 (mkF m 8 #[.val (.int (Int32.ofNat i)), .val (.ref b)] [])
  exact o_ret X2 d_jdk_52_method_91_8 (fun Sf hSf => ⟨rfl, rfl⟩) (by decide) (by decide)
set_option maxRecDepth 65536 in
set_option maxHeartbeats 40000000 in
theorem c_isLatin10 {l : Launch} {Z : State} {a0 : Array Value} (hw : W a0 Z) (a : Addr) (h0 : Heap) {zc : Int32} (O2 : Sta Z Z.heap "java/lang/String" "COMPACT_STRINGS" "Z" (.int zc)) (P5 : ¬ zc = 0) (Fc : Fld Z h0 a "java/lang/String" "coder" "B" (.int (0 : Int32))) :
    Con l Z EL0 (⟨"java/lang/String", "isLatin1", "()Z"⟩ : MethodName) jdk_42_method_154_code 1 (some .boolean) ({ frames := 0, cells := 0, slots := 0, locals := 0 } : Room) #[(.ref a)] h0 [] (fun v h' Sf => v = some (.int (1 : Int32)) ∧ h' = h0) := by
  have hpn : plainName "java/lang/String" = true := by first | (simp [plainName, overriddenIn]; done) | decide +kernel
  refine Con.intro (plainFor_of_name hpn) ?_
  intro p e s m below meth c T X hss
  refine Goes.cast (g' := mkF m 0 #[.val (.ref a)] []) (by first | (simp [entryFrame, mkF, argsToLocals, Value.category]; done) | rfl) ?_
  refine o_getS X O2 (host := "") (Or.inl (w37 hw)) Via.refl d_jdk_42_method_154_0 (q := 3) rfl ?_
  intro T1 X1
  refine o_ifN X1 d_jdk_42_method_154_3 (feq P5).1 (q := 6) rfl ?_
  refine o_aloadN X1 d_jdk_42_method_154_6 rfl rfl (q := 7) rfl ?_
  refine o_getF X1 Fc (host := "") (Or.inl (w22 hw)) Via.refl d_jdk_42_method_154_7 (q := 10) rfl ?_
  intro T2 X2
  refine o_ifN X2 d_jdk_42_method_154_10 (by decide) (q := 13) rfl ?_
  refine o_iconst X2 d_jdk_42_method_154_13 (w := 1) rfl (q := 14) rfl ?_
  refine o_goto X2 d_jdk_42_method_154_14 (by decide) (q := 18) (by decide) ?_
  exact o_retN X2 d_jdk_42_method_154_18 (by simp) (fun Sf hSf => ⟨rfl, rfl⟩) (by decide) (by decide)
set_option maxRecDepth 65536 in
set_option maxHeartbeats 40000000 in
theorem c_coder0 {l : Launch} {Z : State} {a0 : Array Value} (hw : W a0 Z) (a : Addr) (h0 : Heap) {zc : Int32} (O2 : Sta Z Z.heap "java/lang/String" "COMPACT_STRINGS" "Z" (.int zc)) (P5 : ¬ zc = 0) (Fc : Fld Z h0 a "java/lang/String" "coder" "B" (.int (0 : Int32))) :
    Con l Z EL0 (⟨"java/lang/String", "coder", "()B"⟩ : MethodName) jdk_42_method_152_code 1 (some .byte) ({ frames := 0, cells := 0, slots := 0, locals := 0 } : Room) #[(.ref a)] h0 [] (fun v h' Sf => v = some (.int (0 : Int32)) ∧ h' = h0) := by
  have hpn : plainName "java/lang/String" = true := by first | (simp [plainName, overriddenIn]; done) | decide +kernel
  refine Con.intro (plainFor_of_name hpn) ?_
  intro p e s m below meth c T X hss
  refine Goes.cast (g' := mkF m 0 #[.val (.ref a)] []) (by first | (simp [entryFrame, mkF, argsToLocals, Value.category]; done) | rfl) ?_
  refine o_getS X O2 (host := "") (Or.inl (w37 hw)) Via.refl d_jdk_42_method_152_0 (q := 3) rfl ?_
  intro T1 X1
  refine o_ifN X1 d_jdk_42_method_152_3 (feq P5).1 (q := 6) rfl ?_
  refine o_aloadN X1 d_jdk_42_method_152_6 rfl rfl (q := 7) rfl ?_
  refine o_getF X1 Fc (host := "") (Or.inl (w22 hw)) Via.refl d_jdk_42_method_152_7 (q := 10) rfl ?_
  intro T2 X2
  refine o_goto X2 d_jdk_42_method_152_10 (by decide) (q := 14) (by decide) ?_
  exact o_retN X2 d_jdk_42_method_152_14 (by simp) (fun Sf hSf => ⟨rfl, rfl⟩) (by decide) (by decide)
set_option maxRecDepth 65536 in
set_option maxHeartbeats 40000000 in
theorem c_isLatin11 {l : Launch} {Z : State} {a0 : Array Value} (hw : W a0 Z) (a : Addr) (h0 : Heap) {zc : Int32} (O2 : Sta Z Z.heap "java/lang/String" "COMPACT_STRINGS" "Z" (.int zc)) (P5 : ¬ zc = 0) (Fc : Fld Z h0 a "java/lang/String" "coder" "B" (.int (1 : Int32))) :
    Con l Z EL0 (⟨"java/lang/String", "isLatin1", "()Z"⟩ : MethodName) jdk_42_method_154_code 1 (some .boolean) ({ frames := 0, cells := 0, slots := 0, locals := 0 } : Room) #[(.ref a)] h0 [] (fun v h' Sf => v = some (.int (0 : Int32)) ∧ h' = h0) := by
  have hpn : plainName "java/lang/String" = true := by first | (simp [plainName, overriddenIn]; done) | decide +kernel
  refine Con.intro (plainFor_of_name hpn) ?_
  intro p e s m below meth c T X hss
  refine Goes.cast (g' := mkF m 0 #[.val (.ref a)] []) (by first | (simp [entryFrame, mkF, argsToLocals, Value.category]; done) | rfl) ?_
  refine o_getS X O2 (host := "") (Or.inl (w37 hw)) Via.refl d_jdk_42_method_154_0 (q := 3) rfl ?_
  intro T1 X1
  refine o_ifN X1 d_jdk_42_method_154_3 (feq P5).1 (q := 6) rfl ?_
  refine o_aloadN X1 d_jdk_42_method_154_6 rfl rfl (q := 7) rfl ?_
  refine o_getF X1 Fc (host := "") (Or.inl (w22 hw)) Via.refl d_jdk_42_method_154_7 (q := 10) rfl ?_
  intro T2 X2
  refine o_ifY X2 d_jdk_42_method_154_10 (by decide) (by decide) (q := 17) (by decide) ?_
  refine o_iconst X2 d_jdk_42_method_154_17 (w := 0) rfl (q := 18) rfl ?_
  exact o_retN X2 d_jdk_42_method_154_18 (by simp) (fun Sf hSf => ⟨rfl, rfl⟩) (by decide) (by decide)
set_option maxRecDepth 65536 in
set_option maxHeartbeats 40000000 in
theorem c_coder1 {l : Launch} {Z : State} {a0 : Array Value} (hw : W a0 Z) (a : Addr) (h0 : Heap) {zc : Int32} (O2 : Sta Z Z.heap "java/lang/String" "COMPACT_STRINGS" "Z" (.int zc)) (P5 : ¬ zc = 0) (Fc : Fld Z h0 a "java/lang/String" "coder" "B" (.int (1 : Int32))) :
    Con l Z EL0 (⟨"java/lang/String", "coder", "()B"⟩ : MethodName) jdk_42_method_152_code 1 (some .byte) ({ frames := 0, cells := 0, slots := 0, locals := 0 } : Room) #[(.ref a)] h0 [] (fun v h' Sf => v = some (.int (1 : Int32)) ∧ h' = h0) := by
  have hpn : plainName "java/lang/String" = true := by first | (simp [plainName, overriddenIn]; done) | decide +kernel
  refine Con.intro (plainFor_of_name hpn) ?_
  intro p e s m below meth c T X hss
  refine Goes.cast (g' := mkF m 0 #[.val (.ref a)] []) (by first | (simp [entryFrame, mkF, argsToLocals, Value.category]; done) | rfl) ?_
  refine o_getS X O2 (host := "") (Or.inl (w37 hw)) Via.refl d_jdk_42_method_152_0 (q := 3) rfl ?_
  intro T1 X1
  refine o_ifN X1 d_jdk_42_method_152_3 (feq P5).1 (q := 6) rfl ?_
  refine o_aloadN X1 d_jdk_42_method_152_6 rfl rfl (q := 7) rfl ?_
  refine o_getF X1 Fc (host := "") (Or.inl (w22 hw)) Via.refl d_jdk_42_method_152_7 (q := 10) rfl ?_
  intro T2 X2
  refine o_goto X2 d_jdk_42_method_152_10 (by decide) (q := 14) (by decide) ?_
  exact o_retN X2 d_jdk_42_method_152_14 (by simp) (fun Sf hSf => ⟨rfl, rfl⟩) (by decide) (by decide)
set_option maxRecDepth 65536 in
set_option maxHeartbeats 40000000 in
theorem c_chL {l : Launch} {Z : State} {a0 : Array Value} (hw : W a0 Z) (b : Addr) (kb : ClassId) (cs : List Int32) (i : Nat) (h0 : Heap) {fm : Value} (O4 : Sta Z Z.heap "jdk/internal/util/Preconditions" "SIOOBE_FORMATTER" "Ljava/util/function/BiFunction;" fm) (rfm : fm.isRef = true) (Vb : Arv Z h0 b kb .byte (Int32.ofNat cs.length) (LB cs) (.int (0 : Int32))) (hl : ∀ c ∈ cs, ¬ c < 0 ∧ ¬ (255 : Int32) < c) (hi : i < cs.length) (hN : cs.length ≤ 400) :
    Con l Z EL0 (⟨"java/lang/StringLatin1", "charAt", "([BI)C"⟩ : MethodName) jdk_43_method_2_code 2 (some .char) ({ frames := 2, cells := 0, slots := 0, locals := 27 } : Room) #[(.ref b), (.int (Int32.ofNat i))] h0 [] (fun v h' Sf => v = some (.int (cs.getD i 0)) ∧ h' = h0) := by
  have hpn : plainName "java/lang/StringLatin1" = true := by first | (simp [plainName, overriddenIn]; done) | decide +kernel
  refine Con.intro (plainFor_of_name hpn) ?_
  intro p e s m below meth c T X hss
  refine Goes.cast (g' := mkF m 0 #[.val (.ref b), .val (.int (Int32.ofNat i))] []) (by first | (simp [entryFrame, mkF, argsToLocals, Value.category]; done) | rfl) ?_
  refine o_iloadN X d_jdk_43_method_2_0 rfl (q := 1) rfl ?_
  refine o_aloadN X d_jdk_43_method_2_1 rfl rfl (q := 2) rfl ?_
  refine o_len X Vb d_jdk_43_method_2_2 (q := 3) rfl ?_
  refine o_stat X [(.int (Int32.ofNat i)), (.int (Int32.ofNat cs.length))] (y' := (⟨"java/lang/String", "checkIndex", "(II)V"⟩ : MethodName)) (c_chk hw i cs.length _ O4 rfm hi (by omega)) all0 (w160 hw) (w161 hw) (w4 hw) (w162 hw) (by decide) d_jdk_43_method_2_3 (rest := []) rfl rfl (lenOf pd12 rfl) rfl (by decide) (Nat.le_of_ble_eq_true rfl) (by decide) (by decide) (q := 6) rfl ?_
  intro v1 vm1 T1 h1 l1 X1 R1 q1
  obtain ⟨rfl, e1⟩ := q1
  have e1 := e1.symm
  subst e1
  show Goes p e below _ T1 (mkF m 6 #[.val (.ref b), .val (.int (Int32.ofNat i))] [])
  refine o_aloadN X1 d_jdk_43_method_2_6 rfl rfl (q := 7) rfl ?_
  refine o_iloadN X1 d_jdk_43_method_2_7 rfl (q := 8) rfl ?_
  have f2 := Vb
  refine o_baload X1 f2 (n_in (by omega) (by omega)) (v := .int (cs.getD i 0).toInt8.toInt32) (n_get (by omega) (by omega)) d_jdk_43_method_2_8 (q := 9) rfl ?_
  refine o_sipush X1 d_jdk_43_method_2_9 (w := 255) rfl (q := 12) rfl ?_
  refine o_iand X1 d_jdk_43_method_2_12 (w := ((cs.getD i 0).toInt8.toInt32 &&& (255 : Int32))) rfl (q := 13) rfl ?_
  refine o_i2c X1 d_jdk_43_method_2_13 (w := (((cs.getD i 0).toInt8.toInt32 &&& (255 : Int32)).toUInt32.toUInt16.toUInt32.toInt32)) rfl (q := 14) rfl ?_
  exact o_retN X1 d_jdk_43_method_2_14 (by simp) (fun Sf hSf => ⟨by rw [own_ch8 (hl _ (own_mem hi))], rfl⟩) (by decide) (by decide)
set_option maxRecDepth 65536 in
set_option maxHeartbeats 40000000 in
theorem c_chU {l : Launch} {Z : State} {a0 : Array Value} (hw : W a0 Z) (b : Addr) (kb : ClassId) (cs : List Int32) (i : Nat) (h0 : Heap) {fm : Value} (O4 : Sta Z Z.heap "jdk/internal/util/Preconditions" "SIOOBE_FORMATTER" "Ljava/util/function/BiFunction;" fm) (rfm : fm.isRef = true) (SA : Sta Z Z.heap "java/lang/StringUTF16" "$assertionsDisabled" "Z" (.int (1 : Int32))) (SH : Sta Z Z.heap "java/lang/StringUTF16" "HI_BYTE_SHIFT" "I" (.int (0 : Int32))) (SL : Sta Z Z.heap "java/lang/StringUTF16" "LO_BYTE_SHIFT" "I" (.int (8 : Int32))) (Vb : Arv Z h0 b kb .byte (Int32.ofNat (2 * cs.length)) (StrChars.Road.wideBytes cs) (.int (0 : Int32))) (hr : ∀ c ∈ cs, Rg c) (hi : i < cs.length) (hN : cs.length ≤ 400) :
    Con l Z EL0 (⟨"java/lang/StringUTF16", "charAt", "([BI)C"⟩ : MethodName) jdk_52_method_83_code 2 (some .char) ({ frames := 3, cells := 0, slots := 0, locals := 40 } : Room) #[(.ref b), (.int (Int32.ofNat i))] h0 [] (fun v h' Sf => v = some (.int (cs.getD i 0)) ∧ h' = h0) := by
  have hpn : plainName "java/lang/StringUTF16" = true := by first | (simp [plainName, overriddenIn]; done) | decide +kernel
  refine Con.intro (plainFor_of_name hpn) ?_
  intro p e s m below meth c T X hss
  refine Goes.cast (g' := mkF m 0 #[.val (.ref b), .val (.int (Int32.ofNat i))] []) (by first | (simp [entryFrame, mkF, argsToLocals, Value.category]; done) | rfl) ?_
  refine o_iloadN X d_jdk_52_method_83_0 rfl (q := 1) rfl ?_
  refine o_aloadN X d_jdk_52_method_83_1 rfl rfl (q := 2) rfl ?_
  refine o_stat X [(.int (Int32.ofNat i)), (.ref b)] (y' := (⟨"java/lang/StringUTF16", "checkIndex", "(I[B)V"⟩ : MethodName)) (c_uchk hw b i cs.length _ O4 rfm Vb (by omega) hi) all0 (w284 hw) (w285 hw) (w174 hw) (w286 hw) (by decide) d_jdk_52_method_83_2 (rest := []) rfl rfl (lenOf pd13 rfl) rfl (by decide) (Nat.le_of_ble_eq_true rfl) (by decide) (by decide) (q := 5) rfl ?_
  intro v1 vm1 T1 h1 l1 X1 R1 q1
  obtain ⟨rfl, e1⟩ := q1
  have e1 := e1.symm
  subst e1
  show Goes p e below _ T1 (mkF m 5 #[.val (.ref b), .val (.int (Int32.ofNat i))] [])
  refine o_aloadN X1 d_jdk_52_method_83_5 rfl rfl (q := 6) rfl ?_
  refine o_iloadN X1 d_jdk_52_method_83_6 rfl (q := 7) rfl ?_
  have f2 := Vb
  refine o_stat X1 [(.ref b), (.int (Int32.ofNat i))] (y' := (⟨"java/lang/StringUTF16", "getChar", "([BI)C"⟩ : MethodName)) (c_getCh hw b kb cs cs.length i _ SA SH SL f2 (Nat.le_refl _) (by omega) hr hi) all0 (w236 hw) (w237 hw) (w174 hw) (w238 hw) (by decide) d_jdk_52_method_83_7 (rest := []) rfl rfl (lenOf pd6 rfl) rfl (by decide) (Nat.le_of_ble_eq_true rfl) (by decide) (by decide) (q := 10) rfl ?_
  intro v3 vm3 T3 h3 l3 X3 R3 q3
  obtain ⟨rfl, e3⟩ := q3
  have e3 := e3.symm
  subst e3
  show Goes p e below _ T3 (mkF m 10 #[.val (.ref b), .val (.int (Int32.ofNat i))] [(.int (cs.getD i 0))])
  exact o_retN X3 d_jdk_52_method_83_10 (by simp) (fun Sf hSf => ⟨by rw [own_narc (hr _ (own_mem hi))], rfl⟩) (by decide) (by decide)
set_option maxRecDepth 65536 in
set_option maxHeartbeats 40000000 in
theorem c_caL {l : Launch} {Z : State} {a0 : Array Value} (hw : W a0 Z) (a b : Addr) (kb : ClassId) (cs : List Int32) (i : Nat) (h0 : Heap) {zc : Int32} (O2 : Sta Z Z.heap "java/lang/String" "COMPACT_STRINGS" "Z" (.int zc)) (P5 : ¬ zc = 0) {fm : Value} (O4 : Sta Z Z.heap "jdk/internal/util/Preconditions" "SIOOBE_FORMATTER" "Ljava/util/function/BiFunction;" fm) (rfm : fm.isRef = true) (SA : Sta Z Z.heap "java/lang/StringUTF16" "$assertionsDisabled" "Z" (.int (1 : Int32))) (SH : Sta Z Z.heap "java/lang/StringUTF16" "HI_BYTE_SHIFT" "I" (.int (0 : Int32))) (SL : Sta Z Z.heap "java/lang/StringUTF16" "LO_BYTE_SHIFT" "I" (.int (8 : Int32))) (L : LS Z h0 a b kb cs) (hi : i < cs.length) (hN : cs.length ≤ 400) (hg : Rg (cs.getD i 0)) :
    Con l Z EL0 (⟨"java/lang/String", "charAt", "(I)C"⟩ : MethodName) jdk_42_method_56_code 2 (some .char) ({ frames := 4, cells := 0, slots := 0, locals := 53 } : Room) #[(.ref a), (.int (Int32.ofNat i))] h0 [] (fun v h' Sf => v = some (.int (cs.getD i 0)) ∧ h' = h0) := by
  have hpn : plainName "java/lang/String" = true := by first | (simp [plainName, overriddenIn]; done) | decide +kernel
  refine Con.intro (plainFor_of_name hpn) ?_
  intro p e s m below meth c T X hss
  refine Goes.cast (g' := mkF m 0 #[.val (.ref a), .val (.int (Int32.ofNat i))] []) (by first | (simp [entryFrame, mkF, argsToLocals, Value.category]; done) | rfl) ?_
  refine o_aloadN X d_jdk_42_method_56_0 rfl rfl (q := 1) rfl ?_
  refine o_virt X [] (y' := (⟨"java/lang/String", "isLatin1", "()Z"⟩ : MethodName)) L.1 (c_isLatin10 hw a _ O2 P5 L.2.1) all0 (w151 hw) (w152 hw) (w154 hw) (w153 hw) (w155 hw) (w4 hw) (by decide) d_jdk_42_method_56_1 (rest := []) rfl rfl (lenOf pd14 rfl) rfl (by decide) (Nat.le_of_ble_eq_true rfl) (by decide) (by decide) (q := 4) rfl ?_
  intro v1 vm1 T1 h1 l1 X1 R1 q1
  obtain ⟨rfl, e1⟩ := q1
  have e1 := e1.symm
  subst e1
  show Goes p e below _ T1 (mkF m 4 #[.val (.ref a), .val (.int (Int32.ofNat i))] [(.int (1 : Int32))])
  refine o_ifN X1 d_jdk_42_method_56_4 (by decide) (q := 7) rfl ?_
  refine o_aloadN X1 d_jdk_42_method_56_7 rfl rfl (q := 8) rfl ?_
  have f2 := L.2.2.1
  refine o_getF X1 f2 (host := "") (Or.inl (w21 hw)) Via.refl d_jdk_42_method_56_8 (q := 11) rfl ?_
  intro T3 X3
  refine o_iloadN X3 d_jdk_42_method_56_11 rfl (q := 12) rfl ?_
  have f4 := L.2.2.2.1
  refine o_stat X3 [(.ref b), (.int (Int32.ofNat i))] (y' := (⟨"java/lang/StringLatin1", "charAt", "([BI)C"⟩ : MethodName)) (c_chL hw b kb cs i _ O4 rfm f4 L.2.2.2.2.1 hi hN) all0 (w156 hw) (w157 hw) (w158 hw) (w159 hw) (by decide) d_jdk_42_method_56_12 (rest := []) rfl rfl (lenOf pd6 rfl) rfl (by decide) (Nat.le_of_ble_eq_true rfl) (by decide) (by decide) (q := 15) rfl ?_
  intro v5 vm5 T5 h5 l5 X5 R5 q5
  obtain ⟨rfl, e5⟩ := q5
  have e5 := e5.symm
  subst e5
  show Goes p e below _ T5 (mkF m 15 #[.val (.ref a), .val (.int (Int32.ofNat i))] [(.int (cs.getD i 0))])
  exact o_retN X5 d_jdk_42_method_56_15 (by simp) (fun Sf hSf => ⟨by rw [own_narc hg], rfl⟩) (by decide) (by decide)
set_option maxRecDepth 65536 in
set_option maxHeartbeats 40000000 in
theorem c_caH {l : Launch} {Z : State} {a0 : Array Value} (hw : W a0 Z) (a b : Addr) (kb : ClassId) (cs : List Int32) (i : Nat) (h0 : Heap) {zc : Int32} (O2 : Sta Z Z.heap "java/lang/String" "COMPACT_STRINGS" "Z" (.int zc)) (P5 : ¬ zc = 0) {fm : Value} (O4 : Sta Z Z.heap "jdk/internal/util/Preconditions" "SIOOBE_FORMATTER" "Ljava/util/function/BiFunction;" fm) (rfm : fm.isRef = true) (SA : Sta Z Z.heap "java/lang/StringUTF16" "$assertionsDisabled" "Z" (.int (1 : Int32))) (SH : Sta Z Z.heap "java/lang/StringUTF16" "HI_BYTE_SHIFT" "I" (.int (0 : Int32))) (SL : Sta Z Z.heap "java/lang/StringUTF16" "LO_BYTE_SHIFT" "I" (.int (8 : Int32))) (H : HS Z h0 a b kb cs) (hi : i < cs.length) (hN : cs.length ≤ 400) (hg : Rg (cs.getD i 0)) :
    Con l Z EL0 (⟨"java/lang/String", "charAt", "(I)C"⟩ : MethodName) jdk_42_method_56_code 2 (some .char) ({ frames := 4, cells := 0, slots := 0, locals := 53 } : Room) #[(.ref a), (.int (Int32.ofNat i))] h0 [] (fun v h' Sf => v = some (.int (cs.getD i 0)) ∧ h' = h0) := by
  have hpn : plainName "java/lang/String" = true := by first | (simp [plainName, overriddenIn]; done) | decide +kernel
  refine Con.intro (plainFor_of_name hpn) ?_
  intro p e s m below meth c T X hss
  refine Goes.cast (g' := mkF m 0 #[.val (.ref a), .val (.int (Int32.ofNat i))] []) (by first | (simp [entryFrame, mkF, argsToLocals, Value.category]; done) | rfl) ?_
  refine o_aloadN X d_jdk_42_method_56_0 rfl rfl (q := 1) rfl ?_
  refine o_virt X [] (y' := (⟨"java/lang/String", "isLatin1", "()Z"⟩ : MethodName)) H.1 (c_isLatin11 hw a _ O2 P5 H.2.1) all0 (w151 hw) (w152 hw) (w154 hw) (w153 hw) (w155 hw) (w4 hw) (by decide) d_jdk_42_method_56_1 (rest := []) rfl rfl (lenOf pd14 rfl) rfl (by decide) (Nat.le_of_ble_eq_true rfl) (by decide) (by decide) (q := 4) rfl ?_
  intro v1 vm1 T1 h1 l1 X1 R1 q1
  obtain ⟨rfl, e1⟩ := q1
  have e1 := e1.symm
  subst e1
  show Goes p e below _ T1 (mkF m 4 #[.val (.ref a), .val (.int (Int32.ofNat i))] [(.int (0 : Int32))])
  refine o_ifY X1 d_jdk_42_method_56_4 (by decide) (by decide) (q := 16) (by decide) ?_
  refine o_aloadN X1 d_jdk_42_method_56_16 rfl rfl (q := 17) rfl ?_
  have f2 := H.2.2.1
  refine o_getF X1 f2 (host := "") (Or.inl (w21 hw)) Via.refl d_jdk_42_method_56_17 (q := 20) rfl ?_
  intro T3 X3
  refine o_iloadN X3 d_jdk_42_method_56_20 rfl (q := 21) rfl ?_
  have f4 := H.2.2.2.1
  refine o_stat X3 [(.ref b), (.int (Int32.ofNat i))] (y' := (⟨"java/lang/StringUTF16", "charAt", "([BI)C"⟩ : MethodName)) (c_chU hw b kb cs i _ O4 rfm SA SH SL f4 H.2.2.2.2.2.1 hi hN) all0 (w281 hw) (w282 hw) (w174 hw) (w283 hw) (by decide) d_jdk_42_method_56_21 (rest := []) rfl rfl (lenOf pd6 rfl) rfl (by decide) (Nat.le_of_ble_eq_true rfl) (by decide) (by decide) (q := 24) rfl ?_
  intro v5 vm5 T5 h5 l5 X5 R5 q5
  obtain ⟨rfl, e5⟩ := q5
  have e5 := e5.symm
  subst e5
  show Goes p e below _ T5 (mkF m 24 #[.val (.ref a), .val (.int (Int32.ofNat i))] [(.int (cs.getD i 0))])
  exact o_retN X5 d_jdk_42_method_56_24 (by simp) (fun Sf hSf => ⟨by rw [own_narc hg], rfl⟩) (by decide) (by decide)
theorem c_charAt {l : Launch} {Z : State} {a0 : Array Value} (hw : W a0 Z) (a b : Addr) (kb : ClassId) (cs : List Int32) (i : Nat) (h0 : Heap) {zc : Int32} (O2 : Sta Z Z.heap "java/lang/String" "COMPACT_STRINGS" "Z" (.int zc)) (P5 : ¬ zc = 0) {fm : Value} (O4 : Sta Z Z.heap "jdk/internal/util/Preconditions" "SIOOBE_FORMATTER" "Ljava/util/function/BiFunction;" fm) (rfm : fm.isRef = true) (SA : Sta Z Z.heap "java/lang/StringUTF16" "$assertionsDisabled" "Z" (.int (1 : Int32))) (SH : Sta Z Z.heap "java/lang/StringUTF16" "HI_BYTE_SHIFT" "I" (.int (0 : Int32))) (SL : Sta Z Z.heap "java/lang/StringUTF16" "LO_BYTE_SHIFT" "I" (.int (8 : Int32))) (U : US Z h0 a b kb cs) (hi : i < cs.length) (hN : cs.length ≤ 400) :
    Con l Z EL0 (⟨"java/lang/String", "charAt", "(I)C"⟩ : MethodName) jdk_42_method_56_code 2 (some .char) ({ frames := 4, cells := 0, slots := 0, locals := 53 } : Room) #[(.ref a), (.int (Int32.ofNat i))] h0 [] (fun v h' Sf => v = some (.int (cs.getD i 0)) ∧ h' = h0) := by
  have hg := U.rg _ (own_mem hi)
  rcases U with L | H
  · exact c_caL hw a b kb cs i h0 O2 P5 O4 rfm SA SH SL L hi hN hg
  · exact c_caH hw a b kb cs i h0 O2 P5 O4 rfm SA SH SL H hi hN hg
set_option maxRecDepth 65536 in
set_option maxHeartbeats 40000000 in
theorem c_minG {l : Launch} {Z : State} {a0 : Array Value} (hw : W a0 Z) (x z : Nat) (h0 : Heap) (h : z < x) (hx : x ≤ 4000) :
    Con l Z EL0 (⟨"java/lang/Math", "min", "(II)I"⟩ : MethodName) jdk_29_method_69_code 2 (some .int) ({ frames := 0, cells := 0, slots := 0, locals := 0 } : Room) #[(.int (Int32.ofNat x)), (.int (Int32.ofNat z))] h0 [] (fun v h' Sf => v = some (.int (Int32.ofNat z)) ∧ h' = h0) := by
  refine Con.intro (Jvm.Free.JP.mathPlain rfl (by decide +kernel)) ?_
  intro p e s m below meth c T X hss
  refine Goes.cast (g' := mkF m 0 #[.val (.int (Int32.ofNat x)), .val (.int (Int32.ofNat z))] []) (by first | (simp [entryFrame, mkF, argsToLocals, Value.category]; done) | rfl) ?_
  refine o_iloadN X d_jdk_29_method_69_0 rfl (q := 1) rfl ?_
  refine o_iloadN X d_jdk_29_method_69_1 rfl (q := 2) rfl ?_
  refine o_icmpY X d_jdk_29_method_69_2 (tlt ((n_lt (by omega) (by omega)).mpr (by omega))).2.2.1 (by decide) (q := 9) (by decide) ?_
  refine o_iloadN X d_jdk_29_method_69_9 rfl (q := 10) rfl ?_
  exact o_retI X d_jdk_29_method_69_10 (fun Sf hSf => ⟨rfl, rfl⟩) (by decide) (by decide)
set_option maxRecDepth 65536 in
set_option maxHeartbeats 40000000 in
theorem c_minL {l : Launch} {Z : State} {a0 : Array Value} (hw : W a0 Z) (x z : Nat) (h0 : Heap) (h : x ≤ z) (hx : z ≤ 4000) :
    Con l Z EL0 (⟨"java/lang/Math", "min", "(II)I"⟩ : MethodName) jdk_29_method_69_code 2 (some .int) ({ frames := 0, cells := 0, slots := 0, locals := 0 } : Room) #[(.int (Int32.ofNat x)), (.int (Int32.ofNat z))] h0 [] (fun v h' Sf => v = some (.int (Int32.ofNat x)) ∧ h' = h0) := by
  refine Con.intro (Jvm.Free.JP.mathPlain rfl (by decide +kernel)) ?_
  intro p e s m below meth c T X hss
  refine Goes.cast (g' := mkF m 0 #[.val (.int (Int32.ofNat x)), .val (.int (Int32.ofNat z))] []) (by first | (simp [entryFrame, mkF, argsToLocals, Value.category]; done) | rfl) ?_
  refine o_iloadN X d_jdk_29_method_69_0 rfl (q := 1) rfl ?_
  refine o_iloadN X d_jdk_29_method_69_1 rfl (q := 2) rfl ?_
  refine o_icmpN X d_jdk_29_method_69_2 (flt (fun q => absurd ((n_lt (by omega) (by omega)).mp q) (by omega))).2.2.1 (q := 5) rfl ?_
  refine o_iloadN X d_jdk_29_method_69_5 rfl (q := 6) rfl ?_
  refine o_goto X d_jdk_29_method_69_6 (by decide) (q := 10) (by decide) ?_
  exact o_retI X d_jdk_29_method_69_10 (fun Sf hSf => ⟨rfl, rfl⟩) (by decide) (by decide)
set_option maxRecDepth 65536 in
set_option maxHeartbeats 40000000 in
theorem c_max {l : Launch} {Z : State} {a0 : Array Value} (hw : W a0 Z) (x z : Nat) (h0 : Heap) (hx : x ≤ 4000) (hz : z ≤ 4000) :
    Con l Z EL0 (⟨"java/lang/Math", "max", "(II)I"⟩ : MethodName) jdk_29_method_65_code 2 (some .int) ({ frames := 0, cells := 0, slots := 0, locals := 0 } : Room) #[(.int (Int32.ofNat x)), (.int (Int32.ofNat z))] h0 [] (fun v h' Sf => v = some (.int (Int32.ofNat (max x z))) ∧ h' = h0) := by
  refine Con.intro (Jvm.Free.JP.mathPlain rfl (by decide +kernel)) ?_
  intro p e s m below meth c T X hss
  refine Goes.cast (g' := mkF m 0 #[.val (.int (Int32.ofNat x)), .val (.int (Int32.ofNat z))] []) (by first | (simp [entryFrame, mkF, argsToLocals, Value.category]; done) | rfl) ?_
  refine o_iloadN X d_jdk_29_method_65_0 rfl (q := 1) rfl ?_
  refine o_iloadN X d_jdk_29_method_65_1 rfl (q := 2) rfl ?_
  by_cases hc2 : (Int32.ofNat x) < (Int32.ofNat z)
  · refine o_icmpY X d_jdk_29_method_65_2 (tlt hc2).1 (by decide) (q := 9) (by decide) ?_
    refine o_iloadN X d_jdk_29_method_65_9 rfl (q := 10) rfl ?_
    exact o_retI X d_jdk_29_method_65_10 (fun Sf hSf => ⟨by rw [own_maxL ((n_lt (by omega) (by omega)).mp hc2)], rfl⟩) (by decide) (by decide)
  · refine o_icmpN X d_jdk_29_method_65_2 (flt hc2).1 (q := 5) rfl ?_
    refine o_iloadN X d_jdk_29_method_65_5 rfl (q := 6) rfl ?_
    refine o_goto X d_jdk_29_method_65_6 (by decide) (q := 10) (by decide) ?_
    exact o_retI X d_jdk_29_method_65_10 (fun Sf hSf => ⟨by rw [own_maxR (fun q => hc2 ((n_lt (by omega) (by omega)).mpr q))], rfl⟩) (by decide) (by decide)
set_option maxRecDepth 65536 in
set_option maxHeartbeats 40000000 in
theorem c_ckl {l : Launch} {Z : State} {a0 : Array Value} (hw : W a0 Z) (mq : Nat) (h0 : Heap) (hm : mq ≤ 4000) :
    Con l Z EL0 (⟨"java/util/Arrays", "checkLength", "(II)V"⟩ : MethodName) jdk_65_method_131_code 2 none ({ frames := 0, cells := 0, slots := 0, locals := 0 } : Room) #[(.int (0 : Int32)), (.int (Int32.ofNat mq))] h0 [] (fun v h' Sf => v = none ∧ h' = h0) := by
  have hpn : plainName "java/util/Arrays" = true := by first | (simp [plainName, overriddenIn]; done) | decide +kernel
  refine Con.intro (plainFor_of_name hpn) ?_
  intro p e s m below meth c T X hss
  refine Goes.cast (g' := mkF m 0 #[.val (.int (0 : Int32)), .val (.int (Int32.ofNat mq))] []) (by first | (simp [entryFrame, mkF, argsToLocals, Value.category]; done) | rfl) ?_
  refine o_iloadN X d_jdk_65_method_131_0 rfl (q := 1) rfl ?_
  refine o_iloadN X d_jdk_65_method_131_1 rfl (q := 2) rfl ?_
  refine o_icmpY X d_jdk_65_method_131_2 (flt (n_neg (by omega))).2.1 (by decide) (q := 37) (by decide) ?_
  exact o_ret X d_jdk_65_method_131_37 (fun Sf hSf => ⟨rfl, rfl⟩) (by decide) (by decide)
set_option maxRecDepth 65536 in
set_option maxHeartbeats 40000000 in
theorem c_corb197 {l : Launch} {Z : State} {a0 : Array Value} (hw : W a0 Z) (va : Addr) (mq N : Nat) (h0 : Heap) {kv : ClassId} {vs : List Value} (Va : Arv Z h0 va kv .byte (Int32.ofNat N) vs (.int (0 : Int32))) (hm : mq < N) (hN : N ≤ 4000) (hv : mq ≤ vs.length) (hM : mq ≤ 197) :
    Con l Z EL0 (⟨"java/util/Arrays", "copyOfRangeByte", "([BII)[B"⟩ : MethodName) jdk_65_method_133_code 5 (some (.array .byte)) ({ frames := 1, cells := 1, slots := 197, locals := 18 } : Room) #[(.ref va), (.int (0 : Int32)), (.int (Int32.ofNat mq))] h0 [] (fun v h' Sf => ∃ (b : Addr) (kb : ClassId), v = some (.ref b) ∧ Keep h0 h' [] ∧ h0.size ≤ b ∧ Sf b ∧ Arv Z h' b kb .byte (Int32.ofNat mq) (vs.take mq) (.int (0 : Int32))) := by
  have hpn : plainName "java/util/Arrays" = true := by first | (simp [plainName, overriddenIn]; done) | decide +kernel
  refine Con.intro (plainFor_of_name hpn) ?_
  intro p e s m below meth c T X hss
  refine Goes.cast (g' := mkF m 0 #[.val (.ref va), .val (.int (0 : Int32)), .val (.int (Int32.ofNat mq)), .unset, .unset] []) (by first | (simp [entryFrame, mkF, argsToLocals, Value.category]; done) | rfl) ?_
  refine o_iloadN X d_jdk_65_method_133_0 rfl (q := 1) rfl ?_
  refine o_iloadN X d_jdk_65_method_133_1 rfl (q := 2) rfl ?_
  refine o_stat X [(.int (0 : Int32)), (.int (Int32.ofNat mq))] (y' := (⟨"java/util/Arrays", "checkLength", "(II)V"⟩ : MethodName)) (c_ckl hw mq _ (by omega)) all0 (w132 hw) (w133 hw) (w127 hw) (w134 hw) (by decide) d_jdk_65_method_133_2 (rest := []) rfl rfl (lenOf pd12 rfl) rfl (by decide) (Nat.le_of_ble_eq_true rfl) (by decide) (by decide) (q := 5) rfl ?_
  intro v1 vm1 T1 h1 l1 X1 R1 q1
  obtain ⟨rfl, e1⟩ := q1
  have e1 := e1.symm
  subst e1
  show Goes p e below _ T1 (mkF m 5 #[.val (.ref va), .val (.int (0 : Int32)), .val (.int (Int32.ofNat mq)), .unset, .unset] [])
  refine o_iloadN X1 d_jdk_65_method_133_5 rfl (q := 6) rfl ?_
  refine o_iloadN X1 d_jdk_65_method_133_6 rfl (q := 7) rfl ?_
  refine o_isub X1 d_jdk_65_method_133_7 (w := (Int32.ofNat mq)) (Int32.sub_zero _) (q := 8) rfl ?_
  refine o_istoreN X1 d_jdk_65_method_133_8 rfl (L' := #[.val (.ref va), .val (.int (0 : Int32)), .val (.int (Int32.ofNat mq)), .val (.int (Int32.ofNat mq)), .unset]) rfl (q := 9) rfl ?_
  refine o_iloadN X1 d_jdk_65_method_133_9 rfl (q := 10) rfl ?_
  refine o_newarr X1 (aty := .byte) (cap := 197) mq (w16 hw) d_jdk_65_method_133_10 (n_neg (by omega)) (own_cl (by omega) (by omega)) (by decide) (by decide) (by decide) (q := 12) rfl ?_
  intro T2 h2 b2 k2 gb2 X2 E2 R2 S2 V2 g0_b2
  refine o_astore X2 d_jdk_65_method_133_12 rfl (L' := #[.val (.ref va), .val (.int (0 : Int32)), .val (.int (Int32.ofNat mq)), .val (.int (Int32.ofNat mq)), .val (.ref b2)]) rfl (q := 14) rfl ?_
  refine o_aloadN X2 d_jdk_65_method_133_14 rfl rfl (q := 15) rfl ?_
  refine o_iloadN X2 d_jdk_65_method_133_15 rfl (q := 16) rfl ?_
  refine o_aload X2 d_jdk_65_method_133_16 rfl rfl (q := 18) rfl ?_
  refine o_iconst X2 d_jdk_65_method_133_18 (w := 0) rfl (q := 19) rfl ?_
  refine o_aloadN X2 d_jdk_65_method_133_19 rfl rfl (q := 20) rfl ?_
  have f3 := (Va.ext E2)
  refine o_len X2 f3 d_jdk_65_method_133_20 (q := 21) rfl ?_
  refine o_iloadN X2 d_jdk_65_method_133_21 rfl (q := 22) rfl ?_
  refine o_isub X2 d_jdk_65_method_133_22 (w := (Int32.ofNat N)) (Int32.sub_zero _) (q := 23) rfl ?_
  refine o_iloadN X2 d_jdk_65_method_133_23 rfl (q := 24) rfl ?_
  refine o_stat X2 [(.int (Int32.ofNat N)), (.int (Int32.ofNat mq))] (y' := (⟨"java/lang/Math", "min", "(II)I"⟩ : MethodName)) (c_minG hw N mq _ hm (by omega)) all0 (w135 hw) (w136 hw) (w137 hw) (w138 hw) (by decide) d_jdk_65_method_133_24 (rest := [(.int (0 : Int32)), (.ref b2), (.int (0 : Int32)), (.ref va)]) rfl rfl (lenOf pd15 rfl) rfl (by decide) (Nat.le_of_ble_eq_true rfl) (by decide) (by decide) (q := 27) rfl ?_
  intro v4 vm4 T4 h4 l4 X4 R4 q4
  obtain ⟨rfl, e4⟩ := q4
  have e4 := e4.symm
  subst e4
  show Goes p e below _ T4 (mkF m 27 #[.val (.ref va), .val (.int (0 : Int32)), .val (.int (Int32.ofNat mq)), .val (.int (Int32.ofNat mq)), .val (.ref b2)] [(.int (Int32.ofNat mq)), (.int (0 : Int32)), (.ref b2), (.int (0 : Int32)), (.ref va)])
  have f5 := f3
  have f6 := V2
  have f8 := (CHr.safe R4 (V2.lt) S2)
  refine o_copy X4 (us := (vs.take mq)) (vs' := (vs.take mq)) f5 f6 (Or.inl ⟨rfl, rfl⟩) g0_b2 f8 (by decide) (by decide) (n_neg (by omega)) (own_le0 (by omega) (by omega)) (own_le0 (by omega) (by omega)) (own_us (by omega) hv) (own_ln0 (by omega)) (own_cat (by omega) hv) (w139 hw) (w94 hw) (w92 hw) (w93 hw) d_jdk_65_method_133_27 rfl (by decide) (Nat.le_of_ble_eq_true rfl) (q := 30) rfl ?_
  intro T7 h7 l7 X7 K7 R7 V7
  refine o_aload X7 d_jdk_65_method_133_30 rfl rfl (q := 32) rfl ?_
  have sz9 := Nat.le_trans (Keep.refl h0 []).1 (Nat.le_of_eq gb2.symm)
  have k10 := Keep.ext (Keep.refl h0 []) E2
  have k11 := Keep.trans k10 K7 (allS (Or.inr sz9) all0)
  have f12 := (CHr.safe R7 (f6.lt) f8)
  exact o_retR X7 d_jdk_65_method_133_32 rfl rfl rfl (fun Sf hSf => ⟨b2, k2, rfl, k11, sz9, hSf _ V7.lt f12, V7⟩) (by decide) (by decide)
set_option maxRecDepth 65536 in
set_option maxHeartbeats 40000000 in
theorem c_cor197 {l : Launch} {Z : State} {a0 : Array Value} (hw : W a0 Z) (va : Addr) (mq N : Nat) (h0 : Heap) {kv : ClassId} {vs : List Value} (Va : Arv Z h0 va kv .byte (Int32.ofNat N) vs (.int (0 : Int32))) (hm : mq < N) (hN : N ≤ 4000) (hv : mq ≤ vs.length) (hM : mq ≤ 197) :
    Con l Z EL0 (⟨"java/util/Arrays", "copyOfRange", "([BII)[B"⟩ : MethodName) jdk_65_method_132_code 3 (some (.array .byte)) ({ frames := 2, cells := 1, slots := 197, locals := 34 } : Room) #[(.ref va), (.int (0 : Int32)), (.int (Int32.ofNat mq))] h0 [] (fun v h' Sf => ∃ (b : Addr) (kb : ClassId), v = some (.ref b) ∧ Keep h0 h' [] ∧ h0.size ≤ b ∧ Sf b ∧ Arv Z h' b kb .byte (Int32.ofNat mq) (vs.take mq) (.int (0 : Int32))) := by
  have hpn : plainName "java/util/Arrays" = true := by first | (simp [plainName, overriddenIn]; done) | decide +kernel
  refine Con.intro (plainFor_of_name hpn) ?_
  intro p e s m below meth c T X hss
  refine Goes.cast (g' := mkF m 0 #[.val (.ref va), .val (.int (0 : Int32)), .val (.int (Int32.ofNat mq))] []) (by first | (simp [entryFrame, mkF, argsToLocals, Value.category]; done) | rfl) ?_
  refine o_iloadN X d_jdk_65_method_132_0 rfl (q := 1) rfl ?_
  refine o_ifN X d_jdk_65_method_132_1 (by decide) (q := 4) rfl ?_
  refine o_iloadN X d_jdk_65_method_132_4 rfl (q := 5) rfl ?_
  refine o_aloadN X d_jdk_65_method_132_5 rfl rfl (q := 6) rfl ?_
  refine o_len X Va d_jdk_65_method_132_6 (q := 7) rfl ?_
  refine o_icmpN X d_jdk_65_method_132_7 (feq (fun q => absurd ((n_eq (by omega) (by omega)).mp q) (by omega))).1 (q := 10) rfl ?_
  refine o_aloadN X d_jdk_65_method_132_10 rfl rfl (q := 11) rfl ?_
  refine o_iloadN X d_jdk_65_method_132_11 rfl (q := 12) rfl ?_
  refine o_iloadN X d_jdk_65_method_132_12 rfl (q := 13) rfl ?_
  refine o_stat X [(.ref va), (.int (0 : Int32)), (.int (Int32.ofNat mq))] (y' := (⟨"java/util/Arrays", "copyOfRangeByte", "([BII)[B"⟩ : MethodName)) (c_corb197 hw va mq N _ Va hm hN hv hM) all0 (w129 hw) (w130 hw) (w127 hw) (w131 hw) (by decide) d_jdk_65_method_132_13 (rest := []) rfl rfl (lenOf pd16 rfl) rfl (by decide) (Nat.le_of_ble_eq_true rfl) (by decide) (by decide) (q := 16) rfl ?_
  intro v1 vm1 T1 h1 l1 X1 R1 q1
  obtain ⟨b1, kb1, rfl, K1, g1, s1, V1⟩ := q1
  show Goes p e below _ T1 (mkF m 16 #[.val (.ref va), .val (.int (0 : Int32)), .val (.int (Int32.ofNat mq))] [(.ref b1)])
  have sz2 := Nat.le_trans (Keep.refl h0 []).1 g1
  have k3 := Keep.trans (Keep.refl h0 []) K1 all0
  exact o_retR X1 d_jdk_65_method_132_16 rfl rfl rfl (fun Sf hSf => ⟨b1, kb1, rfl, k3, sz2, hSf _ V1.lt s1, V1⟩) (by decide) (by decide)
set_option maxRecDepth 65536 in
set_option maxHeartbeats 40000000 in
theorem c_corb394 {l : Launch} {Z : State} {a0 : Array Value} (hw : W a0 Z) (va : Addr) (mq N : Nat) (h0 : Heap) {kv : ClassId} {vs : List Value} (Va : Arv Z h0 va kv .byte (Int32.ofNat N) vs (.int (0 : Int32))) (hm : mq < N) (hN : N ≤ 4000) (hv : mq ≤ vs.length) (hM : mq ≤ 394) :
    Con l Z EL0 (⟨"java/util/Arrays", "copyOfRangeByte", "([BII)[B"⟩ : MethodName) jdk_65_method_133_code 5 (some (.array .byte)) ({ frames := 1, cells := 1, slots := 394, locals := 18 } : Room) #[(.ref va), (.int (0 : Int32)), (.int (Int32.ofNat mq))] h0 [] (fun v h' Sf => ∃ (b : Addr) (kb : ClassId), v = some (.ref b) ∧ Keep h0 h' [] ∧ h0.size ≤ b ∧ Sf b ∧ Arv Z h' b kb .byte (Int32.ofNat mq) (vs.take mq) (.int (0 : Int32))) := by
  have hpn : plainName "java/util/Arrays" = true := by first | (simp [plainName, overriddenIn]; done) | decide +kernel
  refine Con.intro (plainFor_of_name hpn) ?_
  intro p e s m below meth c T X hss
  refine Goes.cast (g' := mkF m 0 #[.val (.ref va), .val (.int (0 : Int32)), .val (.int (Int32.ofNat mq)), .unset, .unset] []) (by first | (simp [entryFrame, mkF, argsToLocals, Value.category]; done) | rfl) ?_
  refine o_iloadN X d_jdk_65_method_133_0 rfl (q := 1) rfl ?_
  refine o_iloadN X d_jdk_65_method_133_1 rfl (q := 2) rfl ?_
  refine o_stat X [(.int (0 : Int32)), (.int (Int32.ofNat mq))] (y' := (⟨"java/util/Arrays", "checkLength", "(II)V"⟩ : MethodName)) (c_ckl hw mq _ (by omega)) all0 (w132 hw) (w133 hw) (w127 hw) (w134 hw) (by decide) d_jdk_65_method_133_2 (rest := []) rfl rfl (lenOf pd12 rfl) rfl (by decide) (Nat.le_of_ble_eq_true rfl) (by decide) (by decide) (q := 5) rfl ?_
  intro v1 vm1 T1 h1 l1 X1 R1 q1
  obtain ⟨rfl, e1⟩ := q1
  have e1 := e1.symm
  subst e1
  show Goes p e below _ T1 (mkF m 5 #[.val (.ref va), .val (.int (0 : Int32)), .val (.int (Int32.ofNat mq)), .unset, .unset] [])
  refine o_iloadN X1 d_jdk_65_method_133_5 rfl (q := 6) rfl ?_
  refine o_iloadN X1 d_jdk_65_method_133_6 rfl (q := 7) rfl ?_
  refine o_isub X1 d_jdk_65_method_133_7 (w := (Int32.ofNat mq)) (Int32.sub_zero _) (q := 8) rfl ?_
  refine o_istoreN X1 d_jdk_65_method_133_8 rfl (L' := #[.val (.ref va), .val (.int (0 : Int32)), .val (.int (Int32.ofNat mq)), .val (.int (Int32.ofNat mq)), .unset]) rfl (q := 9) rfl ?_
  refine o_iloadN X1 d_jdk_65_method_133_9 rfl (q := 10) rfl ?_
  refine o_newarr X1 (aty := .byte) (cap := 394) mq (w16 hw) d_jdk_65_method_133_10 (n_neg (by omega)) (own_cl (by omega) (by omega)) (by decide) (by decide) (by decide) (q := 12) rfl ?_
  intro T2 h2 b2 k2 gb2 X2 E2 R2 S2 V2 g0_b2
  refine o_astore X2 d_jdk_65_method_133_12 rfl (L' := #[.val (.ref va), .val (.int (0 : Int32)), .val (.int (Int32.ofNat mq)), .val (.int (Int32.ofNat mq)), .val (.ref b2)]) rfl (q := 14) rfl ?_
  refine o_aloadN X2 d_jdk_65_method_133_14 rfl rfl (q := 15) rfl ?_
  refine o_iloadN X2 d_jdk_65_method_133_15 rfl (q := 16) rfl ?_
  refine o_aload X2 d_jdk_65_method_133_16 rfl rfl (q := 18) rfl ?_
  refine o_iconst X2 d_jdk_65_method_133_18 (w := 0) rfl (q := 19) rfl ?_
  refine o_aloadN X2 d_jdk_65_method_133_19 rfl rfl (q := 20) rfl ?_
  have f3 := (Va.ext E2)
  refine o_len X2 f3 d_jdk_65_method_133_20 (q := 21) rfl ?_
  refine o_iloadN X2 d_jdk_65_method_133_21 rfl (q := 22) rfl ?_
  refine o_isub X2 d_jdk_65_method_133_22 (w := (Int32.ofNat N)) (Int32.sub_zero _) (q := 23) rfl ?_
  refine o_iloadN X2 d_jdk_65_method_133_23 rfl (q := 24) rfl ?_
  refine o_stat X2 [(.int (Int32.ofNat N)), (.int (Int32.ofNat mq))] (y' := (⟨"java/lang/Math", "min", "(II)I"⟩ : MethodName)) (c_minG hw N mq _ hm (by omega)) all0 (w135 hw) (w136 hw) (w137 hw) (w138 hw) (by decide) d_jdk_65_method_133_24 (rest := [(.int (0 : Int32)), (.ref b2), (.int (0 : Int32)), (.ref va)]) rfl rfl (lenOf pd15 rfl) rfl (by decide) (Nat.le_of_ble_eq_true rfl) (by decide) (by decide) (q := 27) rfl ?_
  intro v4 vm4 T4 h4 l4 X4 R4 q4
  obtain ⟨rfl, e4⟩ := q4
  have e4 := e4.symm
  subst e4
  show Goes p e below _ T4 (mkF m 27 #[.val (.ref va), .val (.int (0 : Int32)), .val (.int (Int32.ofNat mq)), .val (.int (Int32.ofNat mq)), .val (.ref b2)] [(.int (Int32.ofNat mq)), (.int (0 : Int32)), (.ref b2), (.int (0 : Int32)), (.ref va)])
  have f5 := f3
  have f6 := V2
  have f8 := (CHr.safe R4 (V2.lt) S2)
  refine o_copy X4 (us := (vs.take mq)) (vs' := (vs.take mq)) f5 f6 (Or.inl ⟨rfl, rfl⟩) g0_b2 f8 (by decide) (by decide) (n_neg (by omega)) (own_le0 (by omega) (by omega)) (own_le0 (by omega) (by omega)) (own_us (by omega) hv) (own_ln0 (by omega)) (own_cat (by omega) hv) (w139 hw) (w94 hw) (w92 hw) (w93 hw) d_jdk_65_method_133_27 rfl (by decide) (Nat.le_of_ble_eq_true rfl) (q := 30) rfl ?_
  intro T7 h7 l7 X7 K7 R7 V7
  refine o_aload X7 d_jdk_65_method_133_30 rfl rfl (q := 32) rfl ?_
  have sz9 := Nat.le_trans (Keep.refl h0 []).1 (Nat.le_of_eq gb2.symm)
  have k10 := Keep.ext (Keep.refl h0 []) E2
  have k11 := Keep.trans k10 K7 (allS (Or.inr sz9) all0)
  have f12 := (CHr.safe R7 (f6.lt) f8)
  exact o_retR X7 d_jdk_65_method_133_32 rfl rfl rfl (fun Sf hSf => ⟨b2, k2, rfl, k11, sz9, hSf _ V7.lt f12, V7⟩) (by decide) (by decide)
set_option maxRecDepth 65536 in
set_option maxHeartbeats 40000000 in
theorem c_cor394 {l : Launch} {Z : State} {a0 : Array Value} (hw : W a0 Z) (va : Addr) (mq N : Nat) (h0 : Heap) {kv : ClassId} {vs : List Value} (Va : Arv Z h0 va kv .byte (Int32.ofNat N) vs (.int (0 : Int32))) (hm : mq < N) (hN : N ≤ 4000) (hv : mq ≤ vs.length) (hM : mq ≤ 394) :
    Con l Z EL0 (⟨"java/util/Arrays", "copyOfRange", "([BII)[B"⟩ : MethodName) jdk_65_method_132_code 3 (some (.array .byte)) ({ frames := 2, cells := 1, slots := 394, locals := 34 } : Room) #[(.ref va), (.int (0 : Int32)), (.int (Int32.ofNat mq))] h0 [] (fun v h' Sf => ∃ (b : Addr) (kb : ClassId), v = some (.ref b) ∧ Keep h0 h' [] ∧ h0.size ≤ b ∧ Sf b ∧ Arv Z h' b kb .byte (Int32.ofNat mq) (vs.take mq) (.int (0 : Int32))) := by
  have hpn : plainName "java/util/Arrays" = true := by first | (simp [plainName, overriddenIn]; done) | decide +kernel
  refine Con.intro (plainFor_of_name hpn) ?_
  intro p e s m below meth c T X hss
  refine Goes.cast (g' := mkF m 0 #[.val (.ref va), .val (.int (0 : Int32)), .val (.int (Int32.ofNat mq))] []) (by first | (simp [entryFrame, mkF, argsToLocals, Value.category]; done) | rfl) ?_
  refine o_iloadN X d_jdk_65_method_132_0 rfl (q := 1) rfl ?_
  refine o_ifN X d_jdk_65_method_132_1 (by decide) (q := 4) rfl ?_
  refine o_iloadN X d_jdk_65_method_132_4 rfl (q := 5) rfl ?_
  refine o_aloadN X d_jdk_65_method_132_5 rfl rfl (q := 6) rfl ?_
  refine o_len X Va d_jdk_65_method_132_6 (q := 7) rfl ?_
  refine o_icmpN X d_jdk_65_method_132_7 (feq (fun q => absurd ((n_eq (by omega) (by omega)).mp q) (by omega))).1 (q := 10) rfl ?_
  refine o_aloadN X d_jdk_65_method_132_10 rfl rfl (q := 11) rfl ?_
  refine o_iloadN X d_jdk_65_method_132_11 rfl (q := 12) rfl ?_
  refine o_iloadN X d_jdk_65_method_132_12 rfl (q := 13) rfl ?_
  refine o_stat X [(.ref va), (.int (0 : Int32)), (.int (Int32.ofNat mq))] (y' := (⟨"java/util/Arrays", "copyOfRangeByte", "([BII)[B"⟩ : MethodName)) (c_corb394 hw va mq N _ Va hm hN hv hM) all0 (w129 hw) (w130 hw) (w127 hw) (w131 hw) (by decide) d_jdk_65_method_132_13 (rest := []) rfl rfl (lenOf pd16 rfl) rfl (by decide) (Nat.le_of_ble_eq_true rfl) (by decide) (by decide) (q := 16) rfl ?_
  intro v1 vm1 T1 h1 l1 X1 R1 q1
  obtain ⟨b1, kb1, rfl, K1, g1, s1, V1⟩ := q1
  show Goes p e below _ T1 (mkF m 16 #[.val (.ref va), .val (.int (0 : Int32)), .val (.int (Int32.ofNat mq))] [(.ref b1)])
  have sz2 := Nat.le_trans (Keep.refl h0 []).1 g1
  have k3 := Keep.trans (Keep.refl h0 []) K1 all0
  exact o_retR X1 d_jdk_65_method_132_16 rfl rfl rfl (fun Sf hSf => ⟨b1, kb1, rfl, k3, sz2, hSf _ V1.lt s1, V1⟩) (by decide) (by decide)
set_option maxRecDepth 65536 in
set_option maxHeartbeats 40000000 in
theorem c_corb404 {l : Launch} {Z : State} {a0 : Array Value} (hw : W a0 Z) (va : Addr) (mq N : Nat) (h0 : Heap) {kv : ClassId} {vs : List Value} (Va : Arv Z h0 va kv .byte (Int32.ofNat N) vs (.int (0 : Int32))) (hm : mq < N) (hN : N ≤ 4000) (hv : mq ≤ vs.length) (hM : mq ≤ 404) :
    Con l Z EL0 (⟨"java/util/Arrays", "copyOfRangeByte", "([BII)[B"⟩ : MethodName) jdk_65_method_133_code 5 (some (.array .byte)) ({ frames := 1, cells := 1, slots := 404, locals := 18 } : Room) #[(.ref va), (.int (0 : Int32)), (.int (Int32.ofNat mq))] h0 [] (fun v h' Sf => ∃ (b : Addr) (kb : ClassId), v = some (.ref b) ∧ Keep h0 h' [] ∧ h0.size ≤ b ∧ Sf b ∧ Arv Z h' b kb .byte (Int32.ofNat mq) (vs.take mq) (.int (0 : Int32))) := by
  have hpn : plainName "java/util/Arrays" = true := by first | (simp [plainName, overriddenIn]; done) | decide +kernel
  refine Con.intro (plainFor_of_name hpn) ?_
  intro p e s m below meth c T X hss
  refine Goes.cast (g' := mkF m 0 #[.val (.ref va), .val (.int (0 : Int32)), .val (.int (Int32.ofNat mq)), .unset, .unset] []) (by first | (simp [entryFrame, mkF, argsToLocals, Value.category]; done) | rfl) ?_
  refine o_iloadN X d_jdk_65_method_133_0 rfl (q := 1) rfl ?_
  refine o_iloadN X d_jdk_65_method_133_1 rfl (q := 2) rfl ?_
  refine o_stat X [(.int (0 : Int32)), (.int (Int32.ofNat mq))] (y' := (⟨"java/util/Arrays", "checkLength", "(II)V"⟩ : MethodName)) (c_ckl hw mq _ (by omega)) all0 (w132 hw) (w133 hw) (w127 hw) (w134 hw) (by decide) d_jdk_65_method_133_2 (rest := []) rfl rfl (lenOf pd12 rfl) rfl (by decide) (Nat.le_of_ble_eq_true rfl) (by decide) (by decide) (q := 5) rfl ?_
  intro v1 vm1 T1 h1 l1 X1 R1 q1
  obtain ⟨rfl, e1⟩ := q1
  have e1 := e1.symm
  subst e1
  show Goes p e below _ T1 (mkF m 5 #[.val (.ref va), .val (.int (0 : Int32)), .val (.int (Int32.ofNat mq)), .unset, .unset] [])
  refine o_iloadN X1 d_jdk_65_method_133_5 rfl (q := 6) rfl ?_
  refine o_iloadN X1 d_jdk_65_method_133_6 rfl (q := 7) rfl ?_
  refine o_isub X1 d_jdk_65_method_133_7 (w := (Int32.ofNat mq)) (Int32.sub_zero _) (q := 8) rfl ?_
  refine o_istoreN X1 d_jdk_65_method_133_8 rfl (L' := #[.val (.ref va), .val (.int (0 : Int32)), .val (.int (Int32.ofNat mq)), .val (.int (Int32.ofNat mq)), .unset]) rfl (q := 9) rfl ?_
  refine o_iloadN X1 d_jdk_65_method_133_9 rfl (q := 10) rfl ?_
  refine o_newarr X1 (aty := .byte) (cap := 404) mq (w16 hw) d_jdk_65_method_133_10 (n_neg (by omega)) (own_cl (by omega) (by omega)) (by decide) (by decide) (by decide) (q := 12) rfl ?_
  intro T2 h2 b2 k2 gb2 X2 E2 R2 S2 V2 g0_b2
  refine o_astore X2 d_jdk_65_method_133_12 rfl (L' := #[.val (.ref va), .val (.int (0 : Int32)), .val (.int (Int32.ofNat mq)), .val (.int (Int32.ofNat mq)), .val (.ref b2)]) rfl (q := 14) rfl ?_
  refine o_aloadN X2 d_jdk_65_method_133_14 rfl rfl (q := 15) rfl ?_
  refine o_iloadN X2 d_jdk_65_method_133_15 rfl (q := 16) rfl ?_
  refine o_aload X2 d_jdk_65_method_133_16 rfl rfl (q := 18) rfl ?_
  refine o_iconst X2 d_jdk_65_method_133_18 (w := 0) rfl (q := 19) rfl ?_
  refine o_aloadN X2 d_jdk_65_method_133_19 rfl rfl (q := 20) rfl ?_
  have f3 := (Va.ext E2)
  refine o_len X2 f3 d_jdk_65_method_133_20 (q := 21) rfl ?_
  refine o_iloadN X2 d_jdk_65_method_133_21 rfl (q := 22) rfl ?_
  refine o_isub X2 d_jdk_65_method_133_22 (w := (Int32.ofNat N)) (Int32.sub_zero _) (q := 23) rfl ?_
  refine o_iloadN X2 d_jdk_65_method_133_23 rfl (q := 24) rfl ?_
  refine o_stat X2 [(.int (Int32.ofNat N)), (.int (Int32.ofNat mq))] (y' := (⟨"java/lang/Math", "min", "(II)I"⟩ : MethodName)) (c_minG hw N mq _ hm (by omega)) all0 (w135 hw) (w136 hw) (w137 hw) (w138 hw) (by decide) d_jdk_65_method_133_24 (rest := [(.int (0 : Int32)), (.ref b2), (.int (0 : Int32)), (.ref va)]) rfl rfl (lenOf pd15 rfl) rfl (by decide) (Nat.le_of_ble_eq_true rfl) (by decide) (by decide) (q := 27) rfl ?_
  intro v4 vm4 T4 h4 l4 X4 R4 q4
  obtain ⟨rfl, e4⟩ := q4
  have e4 := e4.symm
  subst e4
  show Goes p e below _ T4 (mkF m 27 #[.val (.ref va), .val (.int (0 : Int32)), .val (.int (Int32.ofNat mq)), .val (.int (Int32.ofNat mq)), .val (.ref b2)] [(.int (Int32.ofNat mq)), (.int (0 : Int32)), (.ref b2), (.int (0 : Int32)), (.ref va)])
  have f5 := f3
  have f6 := V2
  have f8 := (CHr.safe R4 (V2.lt) S2)
  refine o_copy X4 (us := (vs.take mq)) (vs' := (vs.take mq)) f5 f6 (Or.inl ⟨rfl, rfl⟩) g0_b2 f8 (by decide) (by decide) (n_neg (by omega)) (own_le0 (by omega) (by omega)) (own_le0 (by omega) (by omega)) (own_us (by omega) hv) (own_ln0 (by omega)) (own_cat (by omega) hv) (w139 hw) (w94 hw) (w92 hw) (w93 hw) d_jdk_65_method_133_27 rfl (by decide) (Nat.le_of_ble_eq_true rfl) (q := 30) rfl ?_
  intro T7 h7 l7 X7 K7 R7 V7
  refine o_aload X7 d_jdk_65_method_133_30 rfl rfl (q := 32) rfl ?_
  have sz9 := Nat.le_trans (Keep.refl h0 []).1 (Nat.le_of_eq gb2.symm)
  have k10 := Keep.ext (Keep.refl h0 []) E2
  have k11 := Keep.trans k10 K7 (allS (Or.inr sz9) all0)
  have f12 := (CHr.safe R7 (f6.lt) f8)
  exact o_retR X7 d_jdk_65_method_133_32 rfl rfl rfl (fun Sf hSf => ⟨b2, k2, rfl, k11, sz9, hSf _ V7.lt f12, V7⟩) (by decide) (by decide)
set_option maxRecDepth 65536 in
set_option maxHeartbeats 40000000 in
theorem c_cor404 {l : Launch} {Z : State} {a0 : Array Value} (hw : W a0 Z) (va : Addr) (mq N : Nat) (h0 : Heap) {kv : ClassId} {vs : List Value} (Va : Arv Z h0 va kv .byte (Int32.ofNat N) vs (.int (0 : Int32))) (hm : mq < N) (hN : N ≤ 4000) (hv : mq ≤ vs.length) (hM : mq ≤ 404) :
    Con l Z EL0 (⟨"java/util/Arrays", "copyOfRange", "([BII)[B"⟩ : MethodName) jdk_65_method_132_code 3 (some (.array .byte)) ({ frames := 2, cells := 1, slots := 404, locals := 34 } : Room) #[(.ref va), (.int (0 : Int32)), (.int (Int32.ofNat mq))] h0 [] (fun v h' Sf => ∃ (b : Addr) (kb : ClassId), v = some (.ref b) ∧ Keep h0 h' [] ∧ h0.size ≤ b ∧ Sf b ∧ Arv Z h' b kb .byte (Int32.ofNat mq) (vs.take mq) (.int (0 : Int32))) := by
  have hpn : plainName "java/util/Arrays" = true := by first | (simp [plainName, overriddenIn]; done) | decide +kernel
  refine Con.intro (plainFor_of_name hpn) ?_
  intro p e s m below meth c T X hss
  refine Goes.cast (g' := mkF m 0 #[.val (.ref va), .val (.int (0 : Int32)), .val (.int (Int32.ofNat mq))] []) (by first | (simp [entryFrame, mkF, argsToLocals, Value.category]; done) | rfl) ?_
  refine o_iloadN X d_jdk_65_method_132_0 rfl (q := 1) rfl ?_
  refine o_ifN X d_jdk_65_method_132_1 (by decide) (q := 4) rfl ?_
  refine o_iloadN X d_jdk_65_method_132_4 rfl (q := 5) rfl ?_
  refine o_aloadN X d_jdk_65_method_132_5 rfl rfl (q := 6) rfl ?_
  refine o_len X Va d_jdk_65_method_132_6 (q := 7) rfl ?_
  refine o_icmpN X d_jdk_65_method_132_7 (feq (fun q => absurd ((n_eq (by omega) (by omega)).mp q) (by omega))).1 (q := 10) rfl ?_
  refine o_aloadN X d_jdk_65_method_132_10 rfl rfl (q := 11) rfl ?_
  refine o_iloadN X d_jdk_65_method_132_11 rfl (q := 12) rfl ?_
  refine o_iloadN X d_jdk_65_method_132_12 rfl (q := 13) rfl ?_
  refine o_stat X [(.ref va), (.int (0 : Int32)), (.int (Int32.ofNat mq))] (y' := (⟨"java/util/Arrays", "copyOfRangeByte", "([BII)[B"⟩ : MethodName)) (c_corb404 hw va mq N _ Va hm hN hv hM) all0 (w129 hw) (w130 hw) (w127 hw) (w131 hw) (by decide) d_jdk_65_method_132_13 (rest := []) rfl rfl (lenOf pd16 rfl) rfl (by decide) (Nat.le_of_ble_eq_true rfl) (by decide) (by decide) (q := 16) rfl ?_
  intro v1 vm1 T1 h1 l1 X1 R1 q1
  obtain ⟨b1, kb1, rfl, K1, g1, s1, V1⟩ := q1
  show Goes p e below _ T1 (mkF m 16 #[.val (.ref va), .val (.int (0 : Int32)), .val (.int (Int32.ofNat mq))] [(.ref b1)])
  have sz2 := Nat.le_trans (Keep.refl h0 []).1 g1
  have k3 := Keep.trans (Keep.refl h0 []) K1 all0
  exact o_retR X1 d_jdk_65_method_132_16 rfl rfl rfl (fun Sf hSf => ⟨b1, kb1, rfl, k3, sz2, hSf _ V1.lt s1, V1⟩) (by decide) (by decide)
set_option maxRecDepth 65536 in
set_option maxHeartbeats 40000000 in
theorem c_cpo {l : Launch} {Z : State} {a0 : Array Value} (hw : W a0 Z) (va : Addr) (mq N : Nat) (h0 : Heap) {kv : ClassId} {vs : List Value} (Va : Arv Z h0 va kv .byte (Int32.ofNat N) vs (.int (0 : Int32))) (hm : N < mq) (hM : mq ≤ 808) (hv : vs.length ≤ N) :
    Con l Z EL0 (⟨"java/util/Arrays", "copyOf", "([BI)[B"⟩ : MethodName) jdk_65_method_121_code 3 (some (.array .byte)) ({ frames := 1, cells := 1, slots := 808, locals := 18 } : Room) #[(.ref va), (.int (Int32.ofNat mq))] h0 [] (fun v h' Sf => ∃ (b : Addr) (kb : ClassId), v = some (.ref b) ∧ Keep h0 h' [] ∧ h0.size ≤ b ∧ Sf b ∧ Arv Z h' b kb .byte (Int32.ofNat mq) vs (.int (0 : Int32))) := by
  have hpn : plainName "java/util/Arrays" = true := by first | (simp [plainName, overriddenIn]; done) | decide +kernel
  refine Con.intro (plainFor_of_name hpn) ?_
  intro p e s m below meth c T X hss
  refine Goes.cast (g' := mkF m 0 #[.val (.ref va), .val (.int (Int32.ofNat mq)), .unset] []) (by first | (simp [entryFrame, mkF, argsToLocals, Value.category]; done) | rfl) ?_
  refine o_iloadN X d_jdk_65_method_121_0 rfl (q := 1) rfl ?_
  refine o_aloadN X d_jdk_65_method_121_1 rfl rfl (q := 2) rfl ?_
  refine o_len X Va d_jdk_65_method_121_2 (q := 3) rfl ?_
  refine o_icmpY X d_jdk_65_method_121_3 (feq (fun q => absurd ((n_eq (by omega) (by omega)).mp q) (by omega))).2 (by decide) (q := 14) (by decide) ?_
  refine o_iloadN X d_jdk_65_method_121_14 rfl (q := 15) rfl ?_
  refine o_newarr X (aty := .byte) (cap := 808) N (w16 hw) d_jdk_65_method_121_15 (n_neg (by omega)) (own_cl (by omega) (by omega)) (by decide) (by decide) (by decide) (q := 17) rfl ?_
  intro T1 h1 b1 k1 gb1 X1 E1 R1 S1 V1 g0_b1
  refine o_astoreN X1 d_jdk_65_method_121_17 rfl (L' := #[.val (.ref va), .val (.int (Int32.ofNat mq)), .val (.ref b1)]) rfl (q := 18) rfl ?_
  refine o_aloadN X1 d_jdk_65_method_121_18 rfl rfl (q := 19) rfl ?_
  refine o_iconst X1 d_jdk_65_method_121_19 (w := 0) rfl (q := 20) rfl ?_
  refine o_aloadN X1 d_jdk_65_method_121_20 rfl rfl (q := 21) rfl ?_
  refine o_iconst X1 d_jdk_65_method_121_21 (w := 0) rfl (q := 22) rfl ?_
  refine o_aloadN X1 d_jdk_65_method_121_22 rfl rfl (q := 23) rfl ?_
  have f2 := (Va.ext E1)
  refine o_len X1 f2 d_jdk_65_method_121_23 (q := 24) rfl ?_
  refine o_iloadN X1 d_jdk_65_method_121_24 rfl (q := 25) rfl ?_
  refine o_stat X1 [(.int (Int32.ofNat N)), (.int (Int32.ofNat mq))] (y' := (⟨"java/lang/Math", "min", "(II)I"⟩ : MethodName)) (c_minL hw N mq _ (by omega) (by omega)) all0 (w135 hw) (w136 hw) (w137 hw) (w138 hw) (by decide) d_jdk_65_method_121_25 (rest := [(.int (0 : Int32)), (.ref b1), (.int (0 : Int32)), (.ref va)]) rfl rfl (lenOf pd15 rfl) rfl (by decide) (Nat.le_of_ble_eq_true rfl) (by decide) (by decide) (q := 28) rfl ?_
  intro v3 vm3 T3 h3 l3 X3 R3 q3
  obtain ⟨rfl, e3⟩ := q3
  have e3 := e3.symm
  subst e3
  show Goes p e below _ T3 (mkF m 28 #[.val (.ref va), .val (.int (Int32.ofNat mq)), .val (.ref b1)] [(.int (Int32.ofNat N)), (.int (0 : Int32)), (.ref b1), (.int (0 : Int32)), (.ref va)])
  have f4 := f2
  have f5 := V1
  have f7 := (CHr.safe R3 (V1.lt) S1)
  refine o_copy X3 (us := (vs ++ List.replicate (N - vs.length) (.int (0 : Int32)))) (vs' := (vs ++ List.replicate (N - vs.length) (.int (0 : Int32)))) f4 f5 (Or.inl ⟨rfl, rfl⟩) g0_b1 f7 (by decide) (by decide) (n_neg (by omega)) (own_le0 (by omega) (by omega)) (own_le0 (by omega) (by omega)) (own_us2 (by omega) hv) (own_ln0 (by omega)) (own_cat2 (by omega) hv) (w139 hw) (w94 hw) (w92 hw) (w93 hw) d_jdk_65_method_121_28 rfl (by decide) (Nat.le_of_ble_eq_true rfl) (q := 31) rfl ?_
  intro T6 h6 l6 X6 K6 R6 V6
  refine o_aloadN X6 d_jdk_65_method_121_31 rfl rfl (q := 32) rfl ?_
  have sz8 := Nat.le_trans (Keep.refl h0 []).1 (Nat.le_of_eq gb1.symm)
  have k9 := Keep.ext (Keep.refl h0 []) E1
  have k10 := Keep.trans k9 K6 (allS (Or.inr sz8) all0)
  have f11 := (CHr.safe R6 (f5.lt) f7)
  exact o_retR X6 d_jdk_65_method_121_32 rfl rfl rfl (fun Sf hSf => ⟨b1, k1, rfl, k10, sz8, hSf _ V6.lt f11, V6.pad (fun i => (pad_rep vs _ _ i).symm)⟩) (by decide) (by decide)
set_option maxRecDepth 65536 in
set_option maxHeartbeats 40000000 in
theorem c_bb0 {l : Launch} {Z : State} {a0 : Array Value} (hw : W a0 Z) (a b : Addr) (h0 : Heap) (E : Exa Z h0 a "java/lang/String") (ga : Z.heap.size ≤ a) (Fv : Fld Z h0 a "java/lang/String" "value" "[B" .null) (Fc : Fld Z h0 a "java/lang/String" "coder" "B" (.int (0 : Int32))) :
    Con l Z EL0 (⟨"java/lang/String", "<init>", "([BB)V"⟩ : MethodName) jdk_42_method_151_code 3 none ({ frames := 1, cells := 0, slots := 0, locals := 12 } : Room) #[(.ref a), (.ref b), (.int (0 : Int32))] h0 [a] (fun v h' Sf => v = none ∧ Keep h0 h' [a] ∧ Fld Z h' a "java/lang/String" "coder" "B" (.int (0 : Int32)) ∧ Fld Z h' a "java/lang/String" "value" "[B" (.ref b)) := by
  have hpn : plainName "java/lang/String" = true := by first | (simp [plainName, overriddenIn]; done) | decide +kernel
  refine Con.intro (plainFor_of_name hpn) ?_
  intro p e s m below meth c T X hss
  have S_a := hss a (by simp)
  refine Goes.cast (g' := mkF m 0 #[.val (.ref a), .val (.ref b), .val (.int (0 : Int32))] []) (by first | (simp [entryFrame, mkF, argsToLocals, Value.category]; done) | rfl) ?_
  refine o_aloadN X d_jdk_42_method_151_0 rfl rfl (q := 1) rfl ?_
  refine o_initO X (w12 hw) (w13 hw) (w14 hw) d_jdk_42_method_151_1 rfl (by decide) (Nat.le_of_ble_eq_true rfl) (q := 4) rfl ?_
  intro T1 X1
  refine o_aloadN X1 d_jdk_42_method_151_4 rfl rfl (q := 5) rfl ?_
  refine o_aloadN X1 d_jdk_42_method_151_5 rfl rfl (q := 6) rfl ?_
  refine o_putF X1 Fv E ga S_a (host := "") (Or.inl (w21 hw)) Via.refl (Or.inr ⟨(w17 hw), rfl, rfl⟩) (w3 hw) (ty := (.array .byte)) (by decide) rfl rfl d_jdk_42_method_151_6 (q := 9) rfl ?_
  intro T2 h2 l2 X2 W2 R2 F2
  refine o_aloadN X2 d_jdk_42_method_151_9 rfl rfl (q := 10) rfl ?_
  refine o_iloadN X2 d_jdk_42_method_151_10 rfl (q := 11) rfl ?_
  have f3 := (Fc.other W2 (Or.inr (slot_ne (Or.inr (w18 hw)) (Or.inr (w17 hw)) (by decide) (t := .byte) (t' := (.array .byte)) (by decide) (by decide))))
  have f4 := (E.wr W2)
  have f6 := (CHr.safe R2 (E.lt) S_a)
  refine o_putF X2 f3 f4 ga f6 (host := "") (Or.inl (w22 hw)) Via.refl (Or.inr ⟨(w18 hw), rfl, rfl⟩) (w3 hw) (ty := .byte) (by decide) (by decide) (by decide) d_jdk_42_method_151_11 (q := 14) rfl ?_
  intro T5 h5 l5 X5 W5 R5 F5
  have k7 := Keep.wr (Keep.refl h0 [a]) W2 (Or.inl (by simp))
  have k8 := Keep.wr k7 W5 (Or.inl (by simp))
  have f9 := (F2.other W5 (Or.inr (slot_ne (Or.inr (w17 hw)) (Or.inr (w18 hw)) (by decide) (t := (.array .byte)) (t' := .byte) (by decide) (by decide))))
  exact o_ret X5 d_jdk_42_method_151_14 (fun Sf hSf => ⟨rfl, k8, F5, f9⟩) (by decide) (by decide)
set_option maxRecDepth 65536 in
set_option maxHeartbeats 40000000 in
theorem c_bb1 {l : Launch} {Z : State} {a0 : Array Value} (hw : W a0 Z) (a b : Addr) (h0 : Heap) (E : Exa Z h0 a "java/lang/String") (ga : Z.heap.size ≤ a) (Fv : Fld Z h0 a "java/lang/String" "value" "[B" .null) (Fc : Fld Z h0 a "java/lang/String" "coder" "B" (.int (0 : Int32))) :
    Con l Z EL0 (⟨"java/lang/String", "<init>", "([BB)V"⟩ : MethodName) jdk_42_method_151_code 3 none ({ frames := 1, cells := 0, slots := 0, locals := 12 } : Room) #[(.ref a), (.ref b), (.int (1 : Int32))] h0 [a] (fun v h' Sf => v = none ∧ Keep h0 h' [a] ∧ Fld Z h' a "java/lang/String" "coder" "B" (.int (1 : Int32)) ∧ Fld Z h' a "java/lang/String" "value" "[B" (.ref b)) := by
  have hpn : plainName "java/lang/String" = true := by first | (simp [plainName, overriddenIn]; done) | decide +kernel
  refine Con.intro (plainFor_of_name hpn) ?_
  intro p e s m below meth c T X hss
  have S_a := hss a (by simp)
  refine Goes.cast (g' := mkF m 0 #[.val (.ref a), .val (.ref b), .val (.int (1 : Int32))] []) (by first | (simp [entryFrame, mkF, argsToLocals, Value.category]; done) | rfl) ?_
  refine o_aloadN X d_jdk_42_method_151_0 rfl rfl (q := 1) rfl ?_
  refine o_initO X (w12 hw) (w13 hw) (w14 hw) d_jdk_42_method_151_1 rfl (by decide) (Nat.le_of_ble_eq_true rfl) (q := 4) rfl ?_
  intro T1 X1
  refine o_aloadN X1 d_jdk_42_method_151_4 rfl rfl (q := 5) rfl ?_
  refine o_aloadN X1 d_jdk_42_method_151_5 rfl rfl (q := 6) rfl ?_
  refine o_putF X1 Fv E ga S_a (host := "") (Or.inl (w21 hw)) Via.refl (Or.inr ⟨(w17 hw), rfl, rfl⟩) (w3 hw) (ty := (.array .byte)) (by decide) rfl rfl d_jdk_42_method_151_6 (q := 9) rfl ?_
  intro T2 h2 l2 X2 W2 R2 F2
  refine o_aloadN X2 d_jdk_42_method_151_9 rfl rfl (q := 10) rfl ?_
  refine o_iloadN X2 d_jdk_42_method_151_10 rfl (q := 11) rfl ?_
  have f3 := (Fc.other W2 (Or.inr (slot_ne (Or.inr (w18 hw)) (Or.inr (w17 hw)) (by decide) (t := .byte) (t' := (.array .byte)) (by decide) (by decide))))
  have f4 := (E.wr W2)
  have f6 := (CHr.safe R2 (E.lt) S_a)
  refine o_putF X2 f3 f4 ga f6 (host := "") (Or.inl (w22 hw)) Via.refl (Or.inr ⟨(w18 hw), rfl, rfl⟩) (w3 hw) (ty := .byte) (by decide) (by decide) (by decide) d_jdk_42_method_151_11 (q := 14) rfl ?_
  intro T5 h5 l5 X5 W5 R5 F5
  have k7 := Keep.wr (Keep.refl h0 [a]) W2 (Or.inl (by simp))
  have k8 := Keep.wr k7 W5 (Or.inl (by simp))
  have f9 := (F2.other W5 (Or.inr (slot_ne (Or.inr (w17 hw)) (Or.inr (w18 hw)) (by decide) (t := (.array .byte)) (t' := .byte) (by decide) (by decide))))
  exact o_ret X5 d_jdk_42_method_151_14 (fun Sf hSf => ⟨rfl, k8, F5, f9⟩) (by decide) (by decide)
set_option maxRecDepth 65536 in
set_option maxHeartbeats 40000000 in
theorem c_nsL {l : Launch} {Z : State} {a0 : Array Value} (hw : W a0 Z) (b : Addr) (cs : List Int32) (h0 : Heap) {kb : ClassId} (Vb : Arv Z h0 b kb .byte (Int32.ofNat cs.length) (LB cs) (.int (0 : Int32))) (hl : ∀ c ∈ cs, ¬ (255 : Int32) < c) (hr : ∀ c ∈ cs, Rg c) (h2 : 200 < cs.length) (hN : cs.length ≤ 400) :
    Con l Z EL0 (⟨"java/lang/StringLatin1", "newString", "([BII)Ljava/lang/String;"⟩ : MethodName) jdk_43_method_47_code 3 (some (.object "java/lang/String")) ({ frames := 3, cells := 2, slots := 201, locals := 50 } : Room) #[(.ref b), (.int (0 : Int32)), (.int (197 : Int32))] h0 [] (fun v h' Sf => ∃ (r b : Addr) (kb : ClassId), v = some (.ref r) ∧ Keep h0 h' [] ∧ h0.size ≤ r ∧ h0.size ≤ b ∧ US Z h' r b kb (cs.take 197)) := by
  have hpn : plainName "java/lang/StringLatin1" = true := by first | (simp [plainName, overriddenIn]; done) | decide +kernel
  refine Con.intro (plainFor_of_name hpn) ?_
  intro p e s m below meth c T X hss
  refine Goes.cast (g' := mkF m 0 #[.val (.ref b), .val (.int (0 : Int32)), .val (.int (197 : Int32))] []) (by first | (simp [entryFrame, mkF, argsToLocals, Value.category]; done) | rfl) ?_
  have e7 : (cs.take 197).length = 197 := by rw [List.length_take]; omega
  have hr7 := own_tkR hr 197
  refine o_iloadN X d_jdk_43_method_47_0 rfl (q := 1) rfl ?_
  refine o_ifY X d_jdk_43_method_47_1 (by decide) (by decide) (q := 7) (by decide) ?_
  refine o_new X (w197 hw) (w3 hw) (w4 hw) d_jdk_43_method_47_7 (by decide) (by decide) (q := 10) rfl ?_
  intro T1 h1 b1 gb1 X1 E1 R1 S1 A1 D1 g0_b1
  have f2 : Fld Z h1 b1 "java/lang/String" "value" "[B" .null := D1 (Or.inr (w17 hw)) (ty := (.array .byte)) (by decide)
  have f3 : Fld Z h1 b1 "java/lang/String" "coder" "B" (.int (0 : Int32)) := D1 (Or.inr (w18 hw)) (ty := .byte) (by decide)
  refine o_dup X1 d_jdk_43_method_47_10 rfl (q := 11) rfl ?_
  refine o_aloadN X1 d_jdk_43_method_47_11 rfl rfl (q := 12) rfl ?_
  refine o_iloadN X1 d_jdk_43_method_47_12 rfl (q := 13) rfl ?_
  refine o_iloadN X1 d_jdk_43_method_47_13 rfl (q := 14) rfl ?_
  refine o_iloadN X1 d_jdk_43_method_47_14 rfl (q := 15) rfl ?_
  refine o_iadd X1 d_jdk_43_method_47_15 (w := (197 : Int32)) (by decide) (q := 16) rfl ?_
  have f4 := (Vb.ext E1)
  refine o_stat X1 [(.ref b), (.int (0 : Int32)), (.int (197 : Int32))] (y' := (⟨"java/util/Arrays", "copyOfRange", "([BII)[B"⟩ : MethodName)) (c_cor197 hw b 197 cs.length _ f4 (by omega) (by omega) (by simp; omega) (by omega)) all0 (w198 hw) (w126 hw) (w127 hw) (w128 hw) (by decide) d_jdk_43_method_47_16 (rest := [(.ref b1), (.ref b1)]) rfl rfl (lenOf pd16 rfl) rfl (by decide) (Nat.le_of_ble_eq_true rfl) (by decide) (by decide) (q := 19) rfl ?_
  intro v5 vm5 T5 h5 l5 X5 R5 q5
  obtain ⟨b5, kb5, rfl, K5, g5, s5, V5⟩ := q5
  show Goes p e below _ T5 (mkF m 19 #[.val (.ref b), .val (.int (0 : Int32)), .val (.int (197 : Int32))] [(.ref b5), (.ref b1), (.ref b1)])
  refine o_iconst X5 d_jdk_43_method_47_19 (w := 0) rfl (q := 20) rfl ?_
  have f6 := (A1.keep K5)
  have f7 := (f2.keep K5 nin0)
  have f8 := (f3.keep K5 nin0)
  have f10 := (CHr.safe R5 (A1.lt) S1)
  refine o_spec X5 [(.ref b5), (.int (0 : Int32))] (y' := (⟨"java/lang/String", "<init>", "([BB)V"⟩ : MethodName)) (c_bb0 hw b1 b5 _ f6 g0_b1 f7 f8) (allS ⟨f6.lt, f10⟩ all0) rfl (w199 hw) (w200 hw) (w201 hw) (w4 hw) (by decide) d_jdk_43_method_47_20 (rest := [(.ref b1)]) rfl rfl (lenOf pd17 rfl) rfl (by decide) (Nat.le_of_ble_eq_true rfl) (by decide) (by decide) (q := 23) rfl ?_
  intro v9 vm9 T9 h9 l9 X9 R9 q9
  obtain ⟨rfl, K9, Fc9, Fv9⟩ := q9
  show Goes p e below _ T9 (mkF m 23 #[.val (.ref b), .val (.int (0 : Int32)), .val (.int (197 : Int32))] [(.ref b1)])
  have sz11 := Nat.le_trans (Keep.refl h0 []).1 (Nat.le_of_eq gb1.symm)
  have k12 := Keep.ext (Keep.refl h0 []) E1
  have sz13 := Nat.le_trans k12.1 g5
  have k14 := Keep.trans k12 K5 all0
  have k15 := Keep.trans k14 K9 (allS (Or.inr sz11) all0)
  have f16 := (f6.keep K9)
  have f17 := (V5.keep K9 (ninS (Ne.symm (Nat.ne_of_lt (Nat.lt_of_lt_of_le A1.lt g5))) nin0))
  exact o_retR X9 d_jdk_43_method_47_23 rfl rfl rfl (fun Sf hSf => ⟨b1, b5, kb5, rfl, k15, sz11, sz13, Or.inl ⟨f16, Fc9, Fv9, (by rw [e7]; show Arv _ _ _ _ _ _ (LB (cs.take 197)) _; rw [own_LBt]; exact f17), own_lat hr7 (fun c hc => hl c (List.mem_of_mem_take hc)), by omega⟩⟩) (by decide) (by decide)
set_option maxRecDepth 65536 in
set_option maxHeartbeats 40000000 in
theorem c_cmpB5 {l : Launch} {Z : State} {a0 : Array Value} (hw : W a0 Z) (va b : Addr) (cs : List Int32) (h0 : Heap) {fm : Value} (O4 : Sta Z Z.heap "jdk/internal/util/Preconditions" "SIOOBE_FORMATTER" "Ljava/util/function/BiFunction;" fm) (rfm : fm.isRef = true) (SA : Sta Z Z.heap "java/lang/StringUTF16" "$assertionsDisabled" "Z" (.int (1 : Int32))) (SH : Sta Z Z.heap "java/lang/StringUTF16" "HI_BYTE_SHIFT" "I" (.int (0 : Int32))) (SL : Sta Z Z.heap "java/lang/StringUTF16" "LO_BYTE_SHIFT" "I" (.int (8 : Int32))) {kv kb : ClassId} (Va : Arv Z h0 va kv .byte (Int32.ofNat (2 * cs.length)) (StrChars.Road.wideBytes cs) (.int (0 : Int32))) (Vb : Arv Z h0 b kb .byte (197 : Int32) [] (.int (0 : Int32))) (gb : Z.heap.size ≤ b) (hne : va ≠ b) (hr : ∀ c ∈ cs, Rg c) (h2 : 200 < cs.length) (hN : cs.length ≤ 400) :
    Con l Z EL0 (⟨"java/lang/StringUTF16", "compress", "([BI[BII)I"⟩ : MethodName) jdk_52_method_22_code 7 (some .int) ({ frames := 3, cells := 0, slots := 0, locals := 43 } : Room) #[(.ref va), (.int (0 : Int32)), (.ref b), (.int (0 : Int32)), (.int (197 : Int32))] h0 [b] (fun v h' Sf => (v = some (.int (Int32.ofNat 197)) ∧ Keep h0 h' [b] ∧ Arv Z h' b kb .byte (197 : Int32) (LB (cs.take 197)) (.int (0 : Int32)) ∧ ∀ c ∈ cs.take 197, ¬ (255 : Int32) < c) ∨ (∃ k, k < 197 ∧ v = some (.int (Int32.ofNat k)) ∧ Keep h0 h' [b] ∧ (255 : Int32) < cs.getD k 0)) := by
  have hpn : plainName "java/lang/StringUTF16" = true := by first | (simp [plainName, overriddenIn]; done) | decide +kernel
  refine Con.intro (plainFor_of_name hpn) ?_
  intro p e s m below meth c T X hss
  have S_b := hss b (by simp)
  refine Goes.cast (g' := mkF m 0 #[.val (.ref va), .val (.int (0 : Int32)), .val (.ref b), .val (.int (0 : Int32)), .val (.int (197 : Int32)), .unset, .unset] []) (by first | (simp [entryFrame, mkF, argsToLocals, Value.category]; done) | rfl) ?_
  refine o_iloadN X d_jdk_52_method_22_0 rfl (q := 1) rfl ?_
  refine o_iload X d_jdk_52_method_22_1 rfl (q := 3) rfl ?_
  refine o_aloadN X d_jdk_52_method_22_3 rfl rfl (q := 4) rfl ?_
  refine o_stat X [(.int (0 : Int32)), (.int (197 : Int32)), (.ref va)] (y' := (⟨"java/lang/StringUTF16", "checkBoundsOffCount", "(II[B)V"⟩ : MethodName)) (c_ucbo hw va 0 197 cs.length _ O4 rfm Va (by omega) (by omega)) all0 (w249 hw) (w250 hw) (w174 hw) (w251 hw) (by decide) d_jdk_52_method_22_4 (rest := []) rfl rfl (lenOf pd18 rfl) rfl (by decide) (Nat.le_of_ble_eq_true rfl) (by decide) (by decide) (q := 7) rfl ?_
  intro v1 vm1 T1 h1 l1 X1 R1 q1
  obtain ⟨rfl, e1⟩ := q1
  have e1 := e1.symm
  subst e1
  show Goes p e below _ T1 (mkF m 7 #[.val (.ref va), .val (.int (0 : Int32)), .val (.ref b), .val (.int (0 : Int32)), .val (.int (197 : Int32)), .unset, .unset] [])
  refine o_iconst X1 d_jdk_52_method_22_7 (w := 0) rfl (q := 8) rfl ?_
  refine o_istore X1 d_jdk_52_method_22_8 rfl (L' := #[.val (.ref va), .val (.int (0 : Int32)), .val (.ref b), .val (.int (0 : Int32)), .val (.int (197 : Int32)), .val (.int (0 : Int32)), .unset]) rfl (q := 10) rfl ?_
  have f2 := Va
  have f3 := Vb
  have f4 := (CHr.safe R1 (Vb.lt) S_b)
  have loop : ∀ (k i : Nat) {vm : Vm} {T : State} {h : Heap} {locs : List Loc} (s6 : Slot), One s6 → i + k = 197 → (∀ c ∈ cs.take i, ¬ (255 : Int32) < c) → Keep h0 h [b] → Arv Z h va kv .byte (Int32.ofNat (2 * cs.length)) (StrChars.Road.wideBytes cs) (.int (0 : Int32)) → Arv Z h b kb .byte (197 : Int32) (LB (cs.take i)) (.int (0 : Int32)) → Safe Z EL0 vm h b → On l Z EL0 p e ({ frames := 3, cells := 0, slots := 0, locals := 43 } : Room) s m #[(.ref va), (.int (0 : Int32)), (.ref b), (.int (0 : Int32)), (.int (197 : Int32))] below meth c (⟨"java/lang/StringUTF16", "compress", "([BI[BII)I"⟩ : MethodName) jdk_52_method_22_code 7 (some .int) vm T h locs 0 0 → Goes p e below (FinQ Z EL0 s (fun v h' Sf => (v = some (.int (Int32.ofNat 197)) ∧ Keep h0 h' [b] ∧ Arv Z h' b kb .byte (197 : Int32) (LB (cs.take 197)) (.int (0 : Int32)) ∧ ∀ c ∈ cs.take 197, ¬ (255 : Int32) < c) ∨ (∃ k, k < 197 ∧ v = some (.int (Int32.ofNat k)) ∧ Keep h0 h' [b] ∧ (255 : Int32) < cs.getD k 0)) (({ frames := 3, cells := 0, slots := 0, locals := 43 } : Room)).cells (({ frames := 3, cells := 0, slots := 0, locals := 43 } : Room)).slots) T (mkF m 10 #[.val (.ref va), .val (.int (Int32.ofNat i)), .val (.ref b), .val (.int (Int32.ofNat i)), .val (.int (197 : Int32)), .val (.int (Int32.ofNat i)), s6] []) := by
    intro k
    induction k with
    | zero =>
      intro i vm T h locs s6 o6 hi hl Kp Va Vb Sb X
      obtain rfl : i = 197 := by omega
      refine o_iload X d_jdk_52_method_22_10 rfl (q := 12) rfl ?_
      refine o_iload X d_jdk_52_method_22_12 rfl (q := 14) rfl ?_
      refine o_icmpY X d_jdk_52_method_22_14 (flt (by decide)).2.1 (by decide) (q := 53) (by decide) ?_
      refine o_iload X d_jdk_52_method_22_53 rfl (q := 55) rfl ?_
      exact o_retI X d_jdk_52_method_22_55 (fun Sf hSf => Or.inl ⟨rfl, Kp, Vb, hl⟩) (by decide) (by decide)
    | succ k ih =>
      intro i vm T h locs s6 o6 hi hl Kp Va Vb Sb X
      refine o_iload X d_jdk_52_method_22_10 rfl (q := 12) rfl ?_
      refine o_iload X d_jdk_52_method_22_12 rfl (q := 14) rfl ?_
      refine o_icmpN X d_jdk_52_method_22_14 (tlt ((n_lt (a := i) (b := 197) (by omega) (by omega)).mpr (by omega))).2.1 (q := 17) rfl ?_
      refine o_aloadN X d_jdk_52_method_22_17 rfl rfl (q := 18) rfl ?_
      refine o_iloadN X d_jdk_52_method_22_18 rfl (q := 19) rfl ?_
      refine o_stat X [(.ref va), (.int (Int32.ofNat i))] (y' := (⟨"java/lang/StringUTF16", "getChar", "([BI)C"⟩ : MethodName)) (c_getCh hw va kv cs cs.length i _ SA SH SL Va (Nat.le_refl _) (by omega) hr (by omega)) all0 (w236 hw) (w237 hw) (w174 hw) (w238 hw) (by decide) d_jdk_52_method_22_19 (rest := []) rfl rfl (lenOf pd6 rfl) rfl (by decide) (Nat.le_of_ble_eq_true rfl) (by decide) (by decide) (q := 22) rfl ?_
      intro v5 vm5 T5 h5 l5 X5 R5 q5
      obtain ⟨rfl, e5⟩ := q5
      have e5 := e5.symm
      subst e5
      show Goes p e below _ T5 (mkF m 22 #[.val (.ref va), .val (.int (Int32.ofNat i)), .val (.ref b), .val (.int (Int32.ofNat i)), .val (.int (197 : Int32)), .val (.int (Int32.ofNat i)), s6] [(.int (cs.getD i 0))])
      refine o_istore X5 d_jdk_52_method_22_22 rfl (L' := #[.val (.ref va), .val (.int (Int32.ofNat i)), .val (.ref b), .val (.int (Int32.ofNat i)), .val (.int (197 : Int32)), .val (.int (Int32.ofNat i)), .val (.int (cs.getD i 0))]) (Jvm.Free.XS.store1 rfl o6 rfl) (q := 24) rfl ?_
      refine o_iload X5 d_jdk_52_method_22_24 rfl (q := 26) rfl ?_
      refine o_sipush X5 d_jdk_52_method_22_26 (w := 255) rfl (q := 29) rfl ?_
      by_cases hc29 : (255 : Int32) < (cs.getD i 0)
      · refine o_icmpN X5 d_jdk_52_method_22_29 (tlt hc29).2.2.2 (q := 32) rfl ?_
        refine o_iload X5 d_jdk_52_method_22_32 rfl (q := 34) rfl ?_
        exact o_retI X5 d_jdk_52_method_22_34 (fun Sf hSf => Or.inr ⟨i, by omega, rfl, Kp, hc29⟩) (by decide) (by decide)
      · refine o_icmpY X5 d_jdk_52_method_22_29 (flt hc29).2.2.2 (by decide) (q := 35) (by decide) ?_
        refine o_aloadN X5 d_jdk_52_method_22_35 rfl rfl (q := 36) rfl ?_
        refine o_iloadN X5 d_jdk_52_method_22_36 rfl (q := 37) rfl ?_
        refine o_iload X5 d_jdk_52_method_22_37 rfl (q := 39) rfl ?_
        refine o_i2b X5 d_jdk_52_method_22_39 (w := ((cs.getD i 0).toInt8.toInt32)) rfl (q := 40) rfl ?_
        have f6 := Vb
        have f8 := (CHr.safe R5 (Vb.lt) Sb)
        refine o_bastore X5 i (f6.pad (pad_rep _ _ 1)) gb f8 (n_in (n := 197) (by omega) (by omega)) (n_nat (by omega)) (by simp; omega) (v := (.int ((cs.getD i 0).toInt8.toInt32))) (by rw [own_narb]) d_jdk_52_method_22_40 (q := 41) rfl ?_
        intro T7 h7 l7 X7 W7 R7 V7
        have V7 : Arv Z h7 b kb .byte (197 : Int32) (LB (cs.take (i + 1))) (.int (0 : Int32)) := by rw [← (own_LBs (by omega))]; exact V7
        refine o_iinc X7 d_jdk_52_method_22_41 rfl (z := (Int32.ofNat (i + 1))) (n_add _ _) (L' := #[.val (.ref va), .val (.int (Int32.ofNat (i + 1))), .val (.ref b), .val (.int (Int32.ofNat i)), .val (.int (197 : Int32)), .val (.int (Int32.ofNat i)), .val (.int (cs.getD i 0))]) rfl (q := 44) rfl ?_
        refine o_iinc X7 d_jdk_52_method_22_44 rfl (z := (Int32.ofNat (i + 1))) (n_add _ _) (L' := #[.val (.ref va), .val (.int (Int32.ofNat (i + 1))), .val (.ref b), .val (.int (Int32.ofNat (i + 1))), .val (.int (197 : Int32)), .val (.int (Int32.ofNat i)), .val (.int (cs.getD i 0))]) rfl (q := 47) rfl ?_
        refine o_iinc X7 d_jdk_52_method_22_47 rfl (z := (Int32.ofNat (i + 1))) (n_add _ _) (L' := #[.val (.ref va), .val (.int (Int32.ofNat (i + 1))), .val (.ref b), .val (.int (Int32.ofNat (i + 1))), .val (.int (197 : Int32)), .val (.int (Int32.ofNat (i + 1))), .val (.int (cs.getD i 0))]) rfl (q := 50) rfl ?_
        refine o_goto X7 d_jdk_52_method_22_50 (by decide) (q := 10) (by decide) ?_
        have k9 := Keep.wr (Keep.refl h [b]) W7 (Or.inl (by simp))
        have f10 := (Va.other W7 hne)
        have f11 := (CHr.safe R7 (f6.lt) f8)
        exact ih (i + 1) _ (One.val rfl) (by omega) (own_tk hl (by omega) hc29) (Keep.trans Kp k9 (allS (Or.inl (by simp)) all0)) f10 V7 f11 X7
  exact loop 197 0 _ One.u (by omega) (fun c hc => nomatch hc) (Keep.refl _ _) f2 f3 f4 X1
set_option maxRecDepth 65536 in
set_option maxHeartbeats 40000000 in
theorem c_cmpB3 {l : Launch} {Z : State} {a0 : Array Value} (hw : W a0 Z) (va : Addr) (cs : List Int32) (h0 : Heap) {fm : Value} (O4 : Sta Z Z.heap "jdk/internal/util/Preconditions" "SIOOBE_FORMATTER" "Ljava/util/function/BiFunction;" fm) (rfm : fm.isRef = true) (SA : Sta Z Z.heap "java/lang/StringUTF16" "$assertionsDisabled" "Z" (.int (1 : Int32))) (SH : Sta Z Z.heap "java/lang/StringUTF16" "HI_BYTE_SHIFT" "I" (.int (0 : Int32))) (SL : Sta Z Z.heap "java/lang/StringUTF16" "LO_BYTE_SHIFT" "I" (.int (8 : Int32))) {kv : ClassId} (Va : Arv Z h0 va kv .byte (Int32.ofNat (2 * cs.length)) (StrChars.Road.wideBytes cs) (.int (0 : Int32))) (hr : ∀ c ∈ cs, Rg c) (h2 : 200 < cs.length) (hN : cs.length ≤ 400) :
    Con l Z EL0 (⟨"java/lang/StringUTF16", "compress", "([BII)[B"⟩ : MethodName) jdk_52_method_17_code 6 (some (.array .byte)) ({ frames := 4, cells := 2, slots := 591, locals := 61 } : Room) #[(.ref va), (.int (0 : Int32)), (.int (197 : Int32))] h0 [] (fun v h' Sf => (∃ (b : Addr) (kb : ClassId), v = some (.ref b) ∧ Keep h0 h' [] ∧ h0.size ≤ b ∧ Sf b ∧ Arv Z h' b kb .byte (197 : Int32) (LB (cs.take 197)) (.int (0 : Int32)) ∧ ∀ c ∈ cs.take 197, ¬ (255 : Int32) < c) ∨ (∃ (b : Addr) (kb : ClassId), v = some (.ref b) ∧ Keep h0 h' [] ∧ h0.size ≤ b ∧ Sf b ∧ Arv Z h' b kb .byte (394 : Int32) ((StrChars.Road.wideBytes cs).take 394) (.int (0 : Int32)) ∧ ∃ c ∈ cs.take 197, (255 : Int32) < c)) := by
  have hpn : plainName "java/lang/StringUTF16" = true := by first | (simp [plainName, overriddenIn]; done) | decide +kernel
  refine Con.intro (plainFor_of_name hpn) ?_
  intro p e s m below meth c T X hss
  refine Goes.cast (g' := mkF m 0 #[.val (.ref va), .val (.int (0 : Int32)), .val (.int (197 : Int32)), .unset, .unset, .unset] []) (by first | (simp [entryFrame, mkF, argsToLocals, Value.category]; done) | rfl) ?_
  have e7 : (cs.take 197).length = 197 := by rw [List.length_take]; omega
  have hr7 := own_tkR hr 197
  refine o_iloadN X d_jdk_52_method_17_0 rfl (q := 1) rfl ?_
  refine o_newarr X (aty := .byte) (cap := 197) 0 (w16 hw) d_jdk_52_method_17_1 (by decide) (by decide) (by decide) (by decide) (by decide) (q := 3) rfl ?_
  intro T1 h1 b1 k1 gb1 X1 E1 R1 S1 V1 g0_b1
  have V1 : Arv Z h1 b1 k1 .byte (197 : Int32) [] (.int (0 : Int32)) := V1
  refine o_astoreN X1 d_jdk_52_method_17_3 rfl (L' := #[.val (.ref va), .val (.int (0 : Int32)), .val (.int (197 : Int32)), .val (.ref b1), .unset, .unset]) rfl (q := 4) rfl ?_
  refine o_aloadN X1 d_jdk_52_method_17_4 rfl rfl (q := 5) rfl ?_
  refine o_iloadN X1 d_jdk_52_method_17_5 rfl (q := 6) rfl ?_
  refine o_aloadN X1 d_jdk_52_method_17_6 rfl rfl (q := 7) rfl ?_
  refine o_iconst X1 d_jdk_52_method_17_7 (w := 0) rfl (q := 8) rfl ?_
  refine o_iloadN X1 d_jdk_52_method_17_8 rfl (q := 9) rfl ?_
  have f2 := (Va.ext E1)
  refine o_stat X1 [(.ref va), (.int (0 : Int32)), (.ref b1), (.int (0 : Int32)), (.int (197 : Int32))] (y' := (⟨"java/lang/StringUTF16", "compress", "([BI[BII)I"⟩ : MethodName)) (c_cmpB5 hw va b1 cs _ O4 rfm SA SH SL f2 V1 g0_b1 (Nat.ne_of_lt (Nat.lt_of_lt_of_le Va.lt (Nat.le_of_eq gb1.symm))) hr h2 hN) (allS ⟨V1.lt, S1⟩ all0) (w246 hw) (w247 hw) (w174 hw) (w248 hw) (by decide) d_jdk_52_method_17_9 (rest := []) rfl rfl (lenOf pd19 rfl) rfl (by decide) (Nat.le_of_ble_eq_true rfl) (by decide) (by decide) (q := 12) rfl ?_
  intro v3 vm3 T3 h3 l3 X3 R3 q3
  rcases q3 with ⟨rfl, K3, V3, lt3⟩ | ⟨k3, hk3, rfl, K3, hg3⟩
  · show Goes p e below _ T3 (mkF m 12 #[.val (.ref va), .val (.int (0 : Int32)), .val (.int (197 : Int32)), .val (.ref b1), .unset, .unset] [(.int (Int32.ofNat 197))])
    refine o_istore X3 d_jdk_52_method_17_12 rfl (L' := #[.val (.ref va), .val (.int (0 : Int32)), .val (.int (197 : Int32)), .val (.ref b1), .val (.int (Int32.ofNat 197)), .unset]) rfl (q := 14) rfl ?_
    refine o_iload X3 d_jdk_52_method_17_14 rfl (q := 16) rfl ?_
    refine o_iloadN X3 d_jdk_52_method_17_16 rfl (q := 17) rfl ?_
    refine o_icmpY X3 d_jdk_52_method_17_17 (teq rfl).1 (by decide) (q := 64) (by decide) ?_
    refine o_aloadN X3 d_jdk_52_method_17_64 rfl rfl (q := 65) rfl ?_
    have sz4 := Nat.le_trans (Keep.refl h0 []).1 (Nat.le_of_eq gb1.symm)
    have k5 := Keep.ext (Keep.refl h0 []) E1
    have k6 := Keep.trans k5 K3 (allS (Or.inr sz4) all0)
    have f7 := (CHr.safe R3 (V1.lt) S1)
    exact o_retR X3 d_jdk_52_method_17_65 rfl rfl rfl (fun Sf hSf => Or.inl ⟨b1, k1, rfl, k6, sz4, hSf _ V3.lt f7, V3, lt3⟩) (by decide) (by decide)
  · show Goes p e below _ T3 (mkF m 12 #[.val (.ref va), .val (.int (0 : Int32)), .val (.int (197 : Int32)), .val (.ref b1), .unset, .unset] [(.int (Int32.ofNat k3))])
    refine o_istore X3 d_jdk_52_method_17_12 rfl (L' := #[.val (.ref va), .val (.int (0 : Int32)), .val (.int (197 : Int32)), .val (.ref b1), .val (.int (Int32.ofNat k3)), .unset]) rfl (q := 14) rfl ?_
    refine o_iload X3 d_jdk_52_method_17_14 rfl (q := 16) rfl ?_
    refine o_iloadN X3 d_jdk_52_method_17_16 rfl (q := 17) rfl ?_
    refine o_icmpN X3 d_jdk_52_method_17_17 (feq (fun q => absurd ((n_eq (a := k3) (b := 197) (by omega) (by omega)).mp q) (by omega))).1 (q := 20) rfl ?_
    refine o_aloadN X3 d_jdk_52_method_17_20 rfl rfl (q := 21) rfl ?_
    refine o_iloadN X3 d_jdk_52_method_17_21 rfl (q := 22) rfl ?_
    refine o_iconst X3 d_jdk_52_method_17_22 (w := 1) rfl (q := 23) rfl ?_
    refine o_ishl X3 d_jdk_52_method_17_23 (w := (0 : Int32)) (by decide) (q := 24) rfl ?_
    refine o_iloadN X3 d_jdk_52_method_17_24 rfl (q := 25) rfl ?_
    refine o_iloadN X3 d_jdk_52_method_17_25 rfl (q := 26) rfl ?_
    refine o_iadd X3 d_jdk_52_method_17_26 (w := (197 : Int32)) (by decide) (q := 27) rfl ?_
    refine o_stat X3 [(.int (197 : Int32))] (y' := (⟨"java/lang/StringUTF16", "newBytesLength", "(I)I"⟩ : MethodName)) (c_nbl hw 197 _ (by omega)) all0 (w226 hw) (w227 hw) (w174 hw) (w228 hw) (by decide) d_jdk_52_method_17_27 (rest := [(.int (0 : Int32)), (.ref va)]) rfl rfl (lenOf pd1 rfl) rfl (by decide) (Nat.le_of_ble_eq_true rfl) (by decide) (by decide) (q := 30) rfl ?_
    intro v8 vm8 T8 h8 l8 X8 R8 q8
    obtain ⟨rfl, e8⟩ := q8
    have e8 := e8.symm
    subst e8
    show Goes p e below _ T8 (mkF m 30 #[.val (.ref va), .val (.int (0 : Int32)), .val (.int (197 : Int32)), .val (.ref b1), .val (.int (Int32.ofNat k3)), .unset] [(.int (394 : Int32)), (.int (0 : Int32)), (.ref va)])
    have f9 := (f2.keep K3 (ninS (Nat.ne_of_lt (Nat.lt_of_lt_of_le Va.lt (Nat.le_of_eq gb1.symm))) nin0))
    refine o_stat X8 [(.ref va), (.int (0 : Int32)), (.int (394 : Int32))] (y' := (⟨"java/util/Arrays", "copyOfRange", "([BII)[B"⟩ : MethodName)) (c_cor394 hw va 394 (2 * cs.length) _ f9 (by omega) (by omega) (by rw [own_wlen]; omega) (by omega)) all0 (w261 hw) (w126 hw) (w127 hw) (w128 hw) (by decide) d_jdk_52_method_17_30 (rest := []) rfl rfl (lenOf pd16 rfl) rfl (by decide) (Nat.le_of_ble_eq_true rfl) (by decide) (by decide) (q := 33) rfl ?_
    intro v10 vm10 T10 h10 l10 X10 R10 q10
    obtain ⟨b10, kb10, rfl, K10, g10, s10, V10⟩ := q10
    show Goes p e below _ T10 (mkF m 33 #[.val (.ref va), .val (.int (0 : Int32)), .val (.int (197 : Int32)), .val (.ref b1), .val (.int (Int32.ofNat k3)), .unset] [(.ref b10)])
    refine o_astore X10 d_jdk_52_method_17_33 rfl (L' := #[.val (.ref va), .val (.int (0 : Int32)), .val (.int (197 : Int32)), .val (.ref b1), .val (.int (Int32.ofNat k3)), .val (.ref b10)]) rfl (q := 35) rfl ?_
    refine o_aload X10 d_jdk_52_method_17_35 rfl rfl (q := 37) rfl ?_
    refine o_iload X10 d_jdk_52_method_17_37 rfl (q := 39) rfl ?_
    refine o_stat X10 [(.ref b10), (.int (Int32.ofNat k3))] (y' := (⟨"java/lang/StringUTF16", "getChar", "([BI)C"⟩ : MethodName)) (c_getCh hw b10 kb10 (cs.take 197) 197 k3 _ SA SH SL (by rw [own_wtk 197]; exact V10) (by omega) (by omega) hr7 (by omega)) all0 (w236 hw) (w237 hw) (w174 hw) (w238 hw) (by decide) d_jdk_52_method_17_39 (rest := []) rfl rfl (lenOf pd6 rfl) rfl (by decide) (Nat.le_of_ble_eq_true rfl) (by decide) (by decide) (q := 42) rfl ?_
    intro v11 vm11 T11 h11 l11 X11 R11 q11
    obtain ⟨rfl, e11⟩ := q11
    have e11 := e11.symm
    subst e11
    show Goes p e below _ T11 (mkF m 42 #[.val (.ref va), .val (.int (0 : Int32)), .val (.int (197 : Int32)), .val (.ref b1), .val (.int (Int32.ofNat k3)), .val (.ref b10)] [(.int ((cs.take 197).getD k3 0))])
    refine o_sipush X11 d_jdk_52_method_17_42 (w := 255) rfl (q := 45) rfl ?_
    refine o_icmpY X11 d_jdk_52_method_17_45 (tlt (by rw [own_tkget hk3]; exact hg3)).2.2.1 (by decide) (q := 61) (by decide) ?_
    refine o_aload X11 d_jdk_52_method_17_61 rfl rfl (q := 63) rfl ?_
    have sz12 := Nat.le_trans (Keep.refl h0 []).1 (Nat.le_of_eq gb1.symm)
    have k13 := Keep.ext (Keep.refl h0 []) E1
    have k14 := Keep.trans k13 K3 (allS (Or.inr sz12) all0)
    have sz15 := Nat.le_trans k14.1 g10
    have k16 := Keep.trans k14 K10 all0
    have f17 := (CHr.safe R11 (V10.lt) s10)
    have f18 := V10
    exact o_retR X11 d_jdk_52_method_17_63 rfl rfl rfl (fun Sf hSf => Or.inr ⟨b10, kb10, rfl, k16, sz15, hSf _ V10.lt f17, f18, ⟨_, own_mem (cs := cs.take 197) (i := k3) (by omega), (by rw [own_tkget hk3]; exact hg3)⟩⟩) (by decide) (by decide)
set_option maxRecDepth 65536 in
set_option maxHeartbeats 40000000 in
theorem c_nsU {l : Launch} {Z : State} {a0 : Array Value} (hw : W a0 Z) (va : Addr) (cs : List Int32) (h0 : Heap) {zc : Int32} (O2 : Sta Z Z.heap "java/lang/String" "COMPACT_STRINGS" "Z" (.int zc)) (P5 : ¬ zc = 0) {fm : Value} (O4 : Sta Z Z.heap "jdk/internal/util/Preconditions" "SIOOBE_FORMATTER" "Ljava/util/function/BiFunction;" fm) (rfm : fm.isRef = true) (SA : Sta Z Z.heap "java/lang/StringUTF16" "$assertionsDisabled" "Z" (.int (1 : Int32))) (SH : Sta Z Z.heap "java/lang/StringUTF16" "HI_BYTE_SHIFT" "I" (.int (0 : Int32))) (SL : Sta Z Z.heap "java/lang/StringUTF16" "LO_BYTE_SHIFT" "I" (.int (8 : Int32))) {kv : ClassId} (Va : Arv Z h0 va kv .byte (Int32.ofNat (2 * cs.length)) (StrChars.Road.wideBytes cs) (.int (0 : Int32))) (hr : ∀ c ∈ cs, Rg c) (h2 : 200 < cs.length) (hN : cs.length ≤ 400) :
    Con l Z EL0 (⟨"java/lang/StringUTF16", "newString", "([BII)Ljava/lang/String;"⟩ : MethodName) jdk_52_method_69_code 5 (some (.object "java/lang/String")) ({ frames := 5, cells := 3, slots := 595, locals := 78 } : Room) #[(.ref va), (.int (0 : Int32)), (.int (197 : Int32))] h0 [] (fun v h' Sf => ∃ (r b : Addr) (kb : ClassId), v = some (.ref r) ∧ Keep h0 h' [] ∧ h0.size ≤ r ∧ h0.size ≤ b ∧ US Z h' r b kb (cs.take 197)) := by
  have hpn : plainName "java/lang/StringUTF16" = true := by first | (simp [plainName, overriddenIn]; done) | decide +kernel
  refine Con.intro (plainFor_of_name hpn) ?_
  intro p e s m below meth c T X hss
  refine Goes.cast (g' := mkF m 0 #[.val (.ref va), .val (.int (0 : Int32)), .val (.int (197 : Int32)), .unset, .unset] []) (by first | (simp [entryFrame, mkF, argsToLocals, Value.category]; done) | rfl) ?_
  have e7 : (cs.take 197).length = 197 := by rw [List.length_take]; omega
  have hr7 := own_tkR hr 197
  refine o_iloadN X d_jdk_52_method_69_0 rfl (q := 1) rfl ?_
  refine o_ifY X d_jdk_52_method_69_1 (by decide) (by decide) (q := 8) (by decide) ?_
  refine o_getS X O2 (host := "") (Or.inl (w242 hw)) Via.refl d_jdk_52_method_69_8 (q := 11) rfl ?_
  intro T1 X1
  refine o_ifN X1 d_jdk_52_method_69_11 (feq P5).1 (q := 14) rfl ?_
  refine o_aloadN X1 d_jdk_52_method_69_14 rfl rfl (q := 15) rfl ?_
  refine o_iloadN X1 d_jdk_52_method_69_15 rfl (q := 16) rfl ?_
  refine o_iloadN X1 d_jdk_52_method_69_16 rfl (q := 17) rfl ?_
  refine o_stat X1 [(.ref va), (.int (0 : Int32)), (.int (197 : Int32))] (y' := (⟨"java/lang/StringUTF16", "compress", "([BII)[B"⟩ : MethodName)) (c_cmpB3 hw va cs _ O4 rfm SA SH SL Va hr h2 hN) all0 (w243 hw) (w244 hw) (w174 hw) (w245 hw) (by decide) d_jdk_52_method_69_17 (rest := []) rfl rfl (lenOf pd16 rfl) rfl (by decide) (Nat.le_of_ble_eq_true rfl) (by decide) (by decide) (q := 20) rfl ?_
  intro v2 vm2 T2 h2 l2 X2 R2 q2
  rcases q2 with ⟨b2, kb2, rfl, K2, g2, s2, V2, lq2⟩ | ⟨b2, kb2, rfl, K2, g2, s2, V2, lq2⟩
  · show Goes p e below _ T2 (mkF m 20 #[.val (.ref va), .val (.int (0 : Int32)), .val (.int (197 : Int32)), .unset, .unset] [(.ref b2)])
    refine o_astoreN X2 d_jdk_52_method_69_20 rfl (L' := #[.val (.ref va), .val (.int (0 : Int32)), .val (.int (197 : Int32)), .val (.ref b2), .unset]) rfl (q := 21) rfl ?_
    refine o_aloadN X2 d_jdk_52_method_69_21 rfl rfl (q := 22) rfl ?_
    refine o_iloadN X2 d_jdk_52_method_69_22 rfl (q := 23) rfl ?_
    refine o_stat X2 [(.ref b2), (.int (197 : Int32))] (y' := (⟨"java/lang/StringUTF16", "coderFromArrayLen", "([BI)B"⟩ : MethodName)) (c_cfl0 hw b2 kb2 _ 197 _ V2 (by omega) (by omega)) all0 (w262 hw) (w180 hw) (w174 hw) (w181 hw) (by decide) d_jdk_52_method_69_23 (rest := []) rfl rfl (lenOf pd7 rfl) rfl (by decide) (Nat.le_of_ble_eq_true rfl) (by decide) (by decide) (q := 26) rfl ?_
    intro v3 vm3 T3 h3 l3 X3 R3 q3
    obtain ⟨rfl, e3⟩ := q3
    have e3 := e3.symm
    subst e3
    show Goes p e below _ T3 (mkF m 26 #[.val (.ref va), .val (.int (0 : Int32)), .val (.int (197 : Int32)), .val (.ref b2), .unset] [(.int (0 : Int32))])
    refine o_istore X3 d_jdk_52_method_69_26 rfl (L' := #[.val (.ref va), .val (.int (0 : Int32)), .val (.int (197 : Int32)), .val (.ref b2), .val (.int (0 : Int32))]) rfl (q := 28) rfl ?_
    refine o_new X3 (w263 hw) (w3 hw) (w4 hw) d_jdk_52_method_69_28 (by decide) (by decide) (q := 31) rfl ?_
    intro T4 h4 b4 gb4 X4 E4 R4 S4 A4 D4 g0_b4
    have f5 : Fld Z h4 b4 "java/lang/String" "value" "[B" .null := D4 (Or.inr (w17 hw)) (ty := (.array .byte)) (by decide)
    have f6 : Fld Z h4 b4 "java/lang/String" "coder" "B" (.int (0 : Int32)) := D4 (Or.inr (w18 hw)) (ty := .byte) (by decide)
    refine o_dup X4 d_jdk_52_method_69_31 rfl (q := 32) rfl ?_
    refine o_aloadN X4 d_jdk_52_method_69_32 rfl rfl (q := 33) rfl ?_
    refine o_iload X4 d_jdk_52_method_69_33 rfl (q := 35) rfl ?_
    refine o_spec X4 [(.ref b2), (.int (0 : Int32))] (y' := (⟨"java/lang/String", "<init>", "([BB)V"⟩ : MethodName)) (c_bb0 hw b4 b2 _ A4 g0_b4 f5 f6) (allS ⟨A4.lt, S4⟩ all0) rfl (w264 hw) (w200 hw) (w201 hw) (w4 hw) (by decide) d_jdk_52_method_69_35 (rest := [(.ref b4)]) rfl rfl (lenOf pd17 rfl) rfl (by decide) (Nat.le_of_ble_eq_true rfl) (by decide) (by decide) (q := 38) rfl ?_
    intro v7 vm7 T7 h7 l7 X7 R7 q7
    obtain ⟨rfl, K7, Fc7, Fv7⟩ := q7
    show Goes p e below _ T7 (mkF m 38 #[.val (.ref va), .val (.int (0 : Int32)), .val (.int (197 : Int32)), .val (.ref b2), .val (.int (0 : Int32))] [(.ref b4)])
    have sz8 := Nat.le_trans (Keep.refl h0 []).1 g2
    have k9 := Keep.trans (Keep.refl h0 []) K2 all0
    have sz10 := Nat.le_trans k9.1 (Nat.le_of_eq gb4.symm)
    have k11 := Keep.ext k9 E4
    have k12 := Keep.trans k11 K7 (allS (Or.inr sz10) all0)
    have f13 := (A4.keep K7)
    have f14 := ((V2.ext E4).keep K7 (ninS (Nat.ne_of_lt (Nat.lt_of_lt_of_le V2.lt (Nat.le_of_eq gb4.symm))) nin0))
    exact o_retR X7 d_jdk_52_method_69_38 rfl rfl rfl (fun Sf hSf => ⟨b4, b2, kb2, rfl, k12, sz10, sz8, Or.inl ⟨f13, Fc7, Fv7, (by rw [e7]; exact f14), own_lat hr7 lq2, by omega⟩⟩) (by decide) (by decide)
  · show Goes p e below _ T2 (mkF m 20 #[.val (.ref va), .val (.int (0 : Int32)), .val (.int (197 : Int32)), .unset, .unset] [(.ref b2)])
    refine o_astoreN X2 d_jdk_52_method_69_20 rfl (L' := #[.val (.ref va), .val (.int (0 : Int32)), .val (.int (197 : Int32)), .val (.ref b2), .unset]) rfl (q := 21) rfl ?_
    refine o_aloadN X2 d_jdk_52_method_69_21 rfl rfl (q := 22) rfl ?_
    refine o_iloadN X2 d_jdk_52_method_69_22 rfl (q := 23) rfl ?_
    refine o_stat X2 [(.ref b2), (.int (197 : Int32))] (y' := (⟨"java/lang/StringUTF16", "coderFromArrayLen", "([BI)B"⟩ : MethodName)) (c_cfl1 hw b2 kb2 _ 197 _ V2 (by omega) (by omega)) all0 (w262 hw) (w180 hw) (w174 hw) (w181 hw) (by decide) d_jdk_52_method_69_23 (rest := []) rfl rfl (lenOf pd7 rfl) rfl (by decide) (Nat.le_of_ble_eq_true rfl) (by decide) (by decide) (q := 26) rfl ?_
    intro v15 vm15 T15 h15 l15 X15 R15 q15
    obtain ⟨rfl, e15⟩ := q15
    have e15 := e15.symm
    subst e15
    show Goes p e below _ T15 (mkF m 26 #[.val (.ref va), .val (.int (0 : Int32)), .val (.int (197 : Int32)), .val (.ref b2), .unset] [(.int (1 : Int32))])
    refine o_istore X15 d_jdk_52_method_69_26 rfl (L' := #[.val (.ref va), .val (.int (0 : Int32)), .val (.int (197 : Int32)), .val (.ref b2), .val (.int (1 : Int32))]) rfl (q := 28) rfl ?_
    refine o_new X15 (w263 hw) (w3 hw) (w4 hw) d_jdk_52_method_69_28 (by decide) (by decide) (q := 31) rfl ?_
    intro T16 h16 b16 gb16 X16 E16 R16 S16 A16 D16 g0_b16
    have f17 : Fld Z h16 b16 "java/lang/String" "value" "[B" .null := D16 (Or.inr (w17 hw)) (ty := (.array .byte)) (by decide)
    have f18 : Fld Z h16 b16 "java/lang/String" "coder" "B" (.int (0 : Int32)) := D16 (Or.inr (w18 hw)) (ty := .byte) (by decide)
    refine o_dup X16 d_jdk_52_method_69_31 rfl (q := 32) rfl ?_
    refine o_aloadN X16 d_jdk_52_method_69_32 rfl rfl (q := 33) rfl ?_
    refine o_iload X16 d_jdk_52_method_69_33 rfl (q := 35) rfl ?_
    refine o_spec X16 [(.ref b2), (.int (1 : Int32))] (y' := (⟨"java/lang/String", "<init>", "([BB)V"⟩ : MethodName)) (c_bb1 hw b16 b2 _ A16 g0_b16 f17 f18) (allS ⟨A16.lt, S16⟩ all0) rfl (w264 hw) (w200 hw) (w201 hw) (w4 hw) (by decide) d_jdk_52_method_69_35 (rest := [(.ref b16)]) rfl rfl (lenOf pd17 rfl) rfl (by decide) (Nat.le_of_ble_eq_true rfl) (by decide) (by decide) (q := 38) rfl ?_
    intro v19 vm19 T19 h19 l19 X19 R19 q19
    obtain ⟨rfl, K19, Fc19, Fv19⟩ := q19
    show Goes p e below _ T19 (mkF m 38 #[.val (.ref va), .val (.int (0 : Int32)), .val (.int (197 : Int32)), .val (.ref b2), .val (.int (1 : Int32))] [(.ref b16)])
    have sz20 := Nat.le_trans (Keep.refl h0 []).1 g2
    have k21 := Keep.trans (Keep.refl h0 []) K2 all0
    have sz22 := Nat.le_trans k21.1 (Nat.le_of_eq gb16.symm)
    have k23 := Keep.ext k21 E16
    have k24 := Keep.trans k23 K19 (allS (Or.inr sz22) all0)
    have f25 := (A16.keep K19)
    have f26 := ((V2.ext E16).keep K19 (ninS (Nat.ne_of_lt (Nat.lt_of_lt_of_le V2.lt (Nat.le_of_eq gb16.symm))) nin0))
    exact o_retR X19 d_jdk_52_method_69_38 rfl rfl rfl (fun Sf hSf => ⟨b16, b2, kb2, rfl, k24, sz22, sz20, Or.inr ⟨f25, Fc19, Fv19, (by rw [e7, own_wtk 197]; exact f26), lq2, hr7, by omega⟩⟩) (by decide) (by decide)
set_option maxRecDepth 65536 in
set_option maxHeartbeats 40000000 in
theorem c_subL {l : Launch} {Z : State} {a0 : Array Value} (hw : W a0 Z) (a b : Addr) (kb : ClassId) (cs : List Int32) (h0 : Heap) {zc : Int32} (O2 : Sta Z Z.heap "java/lang/String" "COMPACT_STRINGS" "Z" (.int zc)) (P5 : ¬ zc = 0) {fm : Value} (O4 : Sta Z Z.heap "jdk/internal/util/Preconditions" "SIOOBE_FORMATTER" "Ljava/util/function/BiFunction;" fm) (rfm : fm.isRef = true) (SA : Sta Z Z.heap "java/lang/StringUTF16" "$assertionsDisabled" "Z" (.int (1 : Int32))) (SH : Sta Z Z.heap "java/lang/StringUTF16" "HI_BYTE_SHIFT" "I" (.int (0 : Int32))) (SL : Sta Z Z.heap "java/lang/StringUTF16" "LO_BYTE_SHIFT" "I" (.int (8 : Int32))) (L : LS Z h0 a b kb cs) (h2 : 200 < cs.length) (hN : cs.length ≤ 400) :
    Con l Z EL0 (⟨"java/lang/String", "substring", "(II)Ljava/lang/String;"⟩ : MethodName) jdk_42_method_92_code 5 (some (.object "java/lang/String")) ({ frames := 6, cells := 3, slots := 595, locals := 94 } : Room) #[(.ref a), (.int (0 : Int32)), (.int (197 : Int32))] h0 [] (fun v h' Sf => ∃ (r b : Addr) (kb : ClassId), v = some (.ref r) ∧ Keep h0 h' [] ∧ h0.size ≤ r ∧ h0.size ≤ b ∧ US Z h' r b kb (cs.take 197)) := by
  have hpn : plainName "java/lang/String" = true := by first | (simp [plainName, overriddenIn]; done) | decide +kernel
  refine Con.intro (plainFor_of_name hpn) ?_
  intro p e s m below meth c T X hss
  refine Goes.cast (g' := mkF m 0 #[.val (.ref a), .val (.int (0 : Int32)), .val (.int (197 : Int32)), .unset, .unset] []) (by first | (simp [entryFrame, mkF, argsToLocals, Value.category]; done) | rfl) ?_
  have U : US Z h0 a b kb cs := Or.inl L
  have hr := U.rg
  refine o_aloadN X d_jdk_42_method_92_0 rfl rfl (q := 1) rfl ?_
  refine o_strlenU X U O2 P5 (hwln hw) (w3 hw) (w187 hw) (w28 hw) (w30 hw) (w29 hw) d_jdk_42_method_92_1 rfl (by decide) (Nat.le_of_ble_eq_true rfl) (by decide) (by decide) (q := 4) rfl ?_
  intro T1 l1 X1
  refine o_istoreN X1 d_jdk_42_method_92_4 rfl (L' := #[.val (.ref a), .val (.int (0 : Int32)), .val (.int (197 : Int32)), .val (.int (Int32.ofNat cs.length)), .unset]) rfl (q := 5) rfl ?_
  refine o_iloadN X1 d_jdk_42_method_92_5 rfl (q := 6) rfl ?_
  refine o_iloadN X1 d_jdk_42_method_92_6 rfl (q := 7) rfl ?_
  refine o_iloadN X1 d_jdk_42_method_92_7 rfl (q := 8) rfl ?_
  refine o_stat X1 [(.int (0 : Int32)), (.int (197 : Int32)), (.int (Int32.ofNat cs.length))] (y' := (⟨"java/lang/String", "checkBoundsBeginEnd", "(III)V"⟩ : MethodName)) (c_cbe hw cs.length _ O4 rfm (by omega) (by omega)) all0 (w188 hw) (w189 hw) (w4 hw) (w190 hw) (by decide) d_jdk_42_method_92_8 (rest := []) rfl rfl (lenOf pd20 rfl) rfl (by decide) (Nat.le_of_ble_eq_true rfl) (by decide) (by decide) (q := 11) rfl ?_
  intro v2 vm2 T2 h2 l2 X2 R2 q2
  obtain ⟨rfl, e2⟩ := q2
  have e2 := e2.symm
  subst e2
  show Goes p e below _ T2 (mkF m 11 #[.val (.ref a), .val (.int (0 : Int32)), .val (.int (197 : Int32)), .val (.int (Int32.ofNat cs.length)), .unset] [])
  refine o_iloadN X2 d_jdk_42_method_92_11 rfl (q := 12) rfl ?_
  refine o_ifN X2 d_jdk_42_method_92_12 (by decide) (q := 15) rfl ?_
  refine o_iloadN X2 d_jdk_42_method_92_15 rfl (q := 16) rfl ?_
  refine o_iloadN X2 d_jdk_42_method_92_16 rfl (q := 17) rfl ?_
  refine o_icmpY X2 d_jdk_42_method_92_17 (feq (fun q => absurd ((n_eq (a := 197) (b := cs.length) (by omega) (by omega)).mp q) (by omega))).2 (by decide) (q := 22) (by decide) ?_
  refine o_iloadN X2 d_jdk_42_method_92_22 rfl (q := 23) rfl ?_
  refine o_iloadN X2 d_jdk_42_method_92_23 rfl (q := 24) rfl ?_
  refine o_isub X2 d_jdk_42_method_92_24 (w := (197 : Int32)) (by decide) (q := 25) rfl ?_
  refine o_istore X2 d_jdk_42_method_92_25 rfl (L' := #[.val (.ref a), .val (.int (0 : Int32)), .val (.int (197 : Int32)), .val (.int (Int32.ofNat cs.length)), .val (.int (197 : Int32))]) rfl (q := 27) rfl ?_
  refine o_aloadN X2 d_jdk_42_method_92_27 rfl rfl (q := 28) rfl ?_
  have f3 := L.2.1
  have f5 := U
  refine o_virt X2 [] (y' := (⟨"java/lang/String", "isLatin1", "()Z"⟩ : MethodName)) f5.exa (c_isLatin10 hw a _ O2 P5 f3) all0 (w151 hw) (w152 hw) (w154 hw) (w153 hw) (w155 hw) (w4 hw) (by decide) d_jdk_42_method_92_28 (rest := []) rfl rfl (lenOf pd14 rfl) rfl (by decide) (Nat.le_of_ble_eq_true rfl) (by decide) (by decide) (q := 31) rfl ?_
  intro v4 vm4 T4 h4 l4 X4 R4 q4
  obtain ⟨rfl, e4⟩ := q4
  have e4 := e4.symm
  subst e4
  show Goes p e below _ T4 (mkF m 31 #[.val (.ref a), .val (.int (0 : Int32)), .val (.int (197 : Int32)), .val (.int (Int32.ofNat cs.length)), .val (.int (197 : Int32))] [(.int (1 : Int32))])
  refine o_ifN X4 d_jdk_42_method_92_31 (by decide) (q := 34) rfl ?_
  refine o_aloadN X4 d_jdk_42_method_92_34 rfl rfl (q := 35) rfl ?_
  have f6 := L.2.2.1
  refine o_getF X4 f6 (host := "") (Or.inl (w21 hw)) Via.refl d_jdk_42_method_92_35 (q := 38) rfl ?_
  intro T7 X7
  refine o_iloadN X7 d_jdk_42_method_92_38 rfl (q := 39) rfl ?_
  refine o_iload X7 d_jdk_42_method_92_39 rfl (q := 41) rfl ?_
  have f8 := L.2.2.2.1
  refine o_stat X7 [(.ref b), (.int (0 : Int32)), (.int (197 : Int32))] (y' := (⟨"java/lang/StringLatin1", "newString", "([BII)Ljava/lang/String;"⟩ : MethodName)) (c_nsL hw b cs _ f8 (fun c hc => (L.2.2.2.2.1 c hc).2) hr h2 hN) all0 (w194 hw) (w195 hw) (w158 hw) (w196 hw) (by decide) d_jdk_42_method_92_41 (rest := []) rfl rfl (lenOf pd21 rfl) rfl (by decide) (Nat.le_of_ble_eq_true rfl) (by decide) (by decide) (q := 44) rfl ?_
  intro v9 vm9 T9 h9 l9 X9 R9 q9
  obtain ⟨r9, b9, kb9, rfl, K9, g9, gg9, U9⟩ := q9
  show Goes p e below _ T9 (mkF m 44 #[.val (.ref a), .val (.int (0 : Int32)), .val (.int (197 : Int32)), .val (.int (Int32.ofNat cs.length)), .val (.int (197 : Int32))] [(.ref r9)])
  refine o_goto X9 d_jdk_42_method_92_44 (by decide) (q := 57) (by decide) ?_
  have k10 := Keep.trans (Keep.refl h0 []) K9 all0
  exact o_retR X9 d_jdk_42_method_92_57 rfl rfl rfl (fun Sf hSf => ⟨r9, b9, kb9, rfl, k10, g9, gg9, U9⟩) (by decide) (by decide)
set_option maxRecDepth 65536 in
set_option maxHeartbeats 40000000 in
theorem c_subH {l : Launch} {Z : State} {a0 : Array Value} (hw : W a0 Z) (a b : Addr) (kb : ClassId) (cs : List Int32) (h0 : Heap) {zc : Int32} (O2 : Sta Z Z.heap "java/lang/String" "COMPACT_STRINGS" "Z" (.int zc)) (P5 : ¬ zc = 0) {fm : Value} (O4 : Sta Z Z.heap "jdk/internal/util/Preconditions" "SIOOBE_FORMATTER" "Ljava/util/function/BiFunction;" fm) (rfm : fm.isRef = true) (SA : Sta Z Z.heap "java/lang/StringUTF16" "$assertionsDisabled" "Z" (.int (1 : Int32))) (SH : Sta Z Z.heap "java/lang/StringUTF16" "HI_BYTE_SHIFT" "I" (.int (0 : Int32))) (SL : Sta Z Z.heap "java/lang/StringUTF16" "LO_BYTE_SHIFT" "I" (.int (8 : Int32))) (H : HS Z h0 a b kb cs) (h2 : 200 < cs.length) (hN : cs.length ≤ 400) :
    Con l Z EL0 (⟨"java/lang/String", "substring", "(II)Ljava/lang/String;"⟩ : MethodName) jdk_42_method_92_code 5 (some (.object "java/lang/String")) ({ frames := 6, cells := 3, slots := 595, locals := 94 } : Room) #[(.ref a), (.int (0 : Int32)), (.int (197 : Int32))] h0 [] (fun v h' Sf => ∃ (r b : Addr) (kb : ClassId), v = some (.ref r) ∧ Keep h0 h' [] ∧ h0.size ≤ r ∧ h0.size ≤ b ∧ US Z h' r b kb (cs.take 197)) := by
  have hpn : plainName "java/lang/String" = true := by first | (simp [plainName, overriddenIn]; done) | decide +kernel
  refine Con.intro (plainFor_of_name hpn) ?_
  intro p e s m below meth c T X hss
  refine Goes.cast (g' := mkF m 0 #[.val (.ref a), .val (.int (0 : Int32)), .val (.int (197 : Int32)), .unset, .unset] []) (by first | (simp [entryFrame, mkF, argsToLocals, Value.category]; done) | rfl) ?_
  have U : US Z h0 a b kb cs := Or.inr H
  have hr := U.rg
  refine o_aloadN X d_jdk_42_method_92_0 rfl rfl (q := 1) rfl ?_
  refine o_strlenU X U O2 P5 (hwln hw) (w3 hw) (w187 hw) (w28 hw) (w30 hw) (w29 hw) d_jdk_42_method_92_1 rfl (by decide) (Nat.le_of_ble_eq_true rfl) (by decide) (by decide) (q := 4) rfl ?_
  intro T1 l1 X1
  refine o_istoreN X1 d_jdk_42_method_92_4 rfl (L' := #[.val (.ref a), .val (.int (0 : Int32)), .val (.int (197 : Int32)), .val (.int (Int32.ofNat cs.length)), .unset]) rfl (q := 5) rfl ?_
  refine o_iloadN X1 d_jdk_42_method_92_5 rfl (q := 6) rfl ?_
  refine o_iloadN X1 d_jdk_42_method_92_6 rfl (q := 7) rfl ?_
  refine o_iloadN X1 d_jdk_42_method_92_7 rfl (q := 8) rfl ?_
  refine o_stat X1 [(.int (0 : Int32)), (.int (197 : Int32)), (.int (Int32.ofNat cs.length))] (y' := (⟨"java/lang/String", "checkBoundsBeginEnd", "(III)V"⟩ : MethodName)) (c_cbe hw cs.length _ O4 rfm (by omega) (by omega)) all0 (w188 hw) (w189 hw) (w4 hw) (w190 hw) (by decide) d_jdk_42_method_92_8 (rest := []) rfl rfl (lenOf pd20 rfl) rfl (by decide) (Nat.le_of_ble_eq_true rfl) (by decide) (by decide) (q := 11) rfl ?_
  intro v2 vm2 T2 h2 l2 X2 R2 q2
  obtain ⟨rfl, e2⟩ := q2
  have e2 := e2.symm
  subst e2
  show Goes p e below _ T2 (mkF m 11 #[.val (.ref a), .val (.int (0 : Int32)), .val (.int (197 : Int32)), .val (.int (Int32.ofNat cs.length)), .unset] [])
  refine o_iloadN X2 d_jdk_42_method_92_11 rfl (q := 12) rfl ?_
  refine o_ifN X2 d_jdk_42_method_92_12 (by decide) (q := 15) rfl ?_
  refine o_iloadN X2 d_jdk_42_method_92_15 rfl (q := 16) rfl ?_
  refine o_iloadN X2 d_jdk_42_method_92_16 rfl (q := 17) rfl ?_
  refine o_icmpY X2 d_jdk_42_method_92_17 (feq (fun q => absurd ((n_eq (a := 197) (b := cs.length) (by omega) (by omega)).mp q) (by omega))).2 (by decide) (q := 22) (by decide) ?_
  refine o_iloadN X2 d_jdk_42_method_92_22 rfl (q := 23) rfl ?_
  refine o_iloadN X2 d_jdk_42_method_92_23 rfl (q := 24) rfl ?_
  refine o_isub X2 d_jdk_42_method_92_24 (w := (197 : Int32)) (by decide) (q := 25) rfl ?_
  refine o_istore X2 d_jdk_42_method_92_25 rfl (L' := #[.val (.ref a), .val (.int (0 : Int32)), .val (.int (197 : Int32)), .val (.int (Int32.ofNat cs.length)), .val (.int (197 : Int32))]) rfl (q := 27) rfl ?_
  refine o_aloadN X2 d_jdk_42_method_92_27 rfl rfl (q := 28) rfl ?_
  have f3 := H.2.1
  have f5 := U
  refine o_virt X2 [] (y' := (⟨"java/lang/String", "isLatin1", "()Z"⟩ : MethodName)) f5.exa (c_isLatin11 hw a _ O2 P5 f3) all0 (w151 hw) (w152 hw) (w154 hw) (w153 hw) (w155 hw) (w4 hw) (by decide) d_jdk_42_method_92_28 (rest := []) rfl rfl (lenOf pd14 rfl) rfl (by decide) (Nat.le_of_ble_eq_true rfl) (by decide) (by decide) (q := 31) rfl ?_
  intro v4 vm4 T4 h4 l4 X4 R4 q4
  obtain ⟨rfl, e4⟩ := q4
  have e4 := e4.symm
  subst e4
  show Goes p e below _ T4 (mkF m 31 #[.val (.ref a), .val (.int (0 : Int32)), .val (.int (197 : Int32)), .val (.int (Int32.ofNat cs.length)), .val (.int (197 : Int32))] [(.int (0 : Int32))])
  refine o_ifY X4 d_jdk_42_method_92_31 (by decide) (by decide) (q := 47) (by decide) ?_
  refine o_aloadN X4 d_jdk_42_method_92_47 rfl rfl (q := 48) rfl ?_
  have f6 := H.2.2.1
  refine o_getF X4 f6 (host := "") (Or.inl (w21 hw)) Via.refl d_jdk_42_method_92_48 (q := 51) rfl ?_
  intro T7 X7
  refine o_iloadN X7 d_jdk_42_method_92_51 rfl (q := 52) rfl ?_
  refine o_iload X7 d_jdk_42_method_92_52 rfl (q := 54) rfl ?_
  have f8 := H.2.2.2.1
  refine o_stat X7 [(.ref b), (.int (0 : Int32)), (.int (197 : Int32))] (y' := (⟨"java/lang/StringUTF16", "newString", "([BII)Ljava/lang/String;"⟩ : MethodName)) (c_nsU hw b cs _ O2 P5 O4 rfm SA SH SL f8 hr h2 hN) all0 (w239 hw) (w240 hw) (w174 hw) (w241 hw) (by decide) d_jdk_42_method_92_54 (rest := []) rfl rfl (lenOf pd21 rfl) rfl (by decide) (Nat.le_of_ble_eq_true rfl) (by decide) (by decide) (q := 57) rfl ?_
  intro v9 vm9 T9 h9 l9 X9 R9 q9
  obtain ⟨r9, b9, kb9, rfl, K9, g9, gg9, U9⟩ := q9
  show Goes p e below _ T9 (mkF m 57 #[.val (.ref a), .val (.int (0 : Int32)), .val (.int (197 : Int32)), .val (.int (Int32.ofNat cs.length)), .val (.int (197 : Int32))] [(.ref r9)])
  have k10 := Keep.trans (Keep.refl h0 []) K9 all0
  exact o_retR X9 d_jdk_42_method_92_57 rfl rfl rfl (fun Sf hSf => ⟨r9, b9, kb9, rfl, k10, g9, gg9, U9⟩) (by decide) (by decide)
theorem c_sub {l : Launch} {Z : State} {a0 : Array Value} (hw : W a0 Z) (a b : Addr) (kb : ClassId) (cs : List Int32) (h0 : Heap) {zc : Int32} (O2 : Sta Z Z.heap "java/lang/String" "COMPACT_STRINGS" "Z" (.int zc)) (P5 : ¬ zc = 0) {fm : Value} (O4 : Sta Z Z.heap "jdk/internal/util/Preconditions" "SIOOBE_FORMATTER" "Ljava/util/function/BiFunction;" fm) (rfm : fm.isRef = true) (SA : Sta Z Z.heap "java/lang/StringUTF16" "$assertionsDisabled" "Z" (.int (1 : Int32))) (SH : Sta Z Z.heap "java/lang/StringUTF16" "HI_BYTE_SHIFT" "I" (.int (0 : Int32))) (SL : Sta Z Z.heap "java/lang/StringUTF16" "LO_BYTE_SHIFT" "I" (.int (8 : Int32))) (U : US Z h0 a b kb cs) (h2 : 200 < cs.length) (hN : cs.length ≤ 400) :
    Con l Z EL0 (⟨"java/lang/String", "substring", "(II)Ljava/lang/String;"⟩ : MethodName) jdk_42_method_92_code 5 (some (.object "java/lang/String")) ({ frames := 6, cells := 3, slots := 595, locals := 94 } : Room) #[(.ref a), (.int (0 : Int32)), (.int (197 : Int32))] h0 [] (fun v h' Sf => ∃ (r b : Addr) (kb : ClassId), v = some (.ref r) ∧ Keep h0 h' [] ∧ h0.size ≤ r ∧ h0.size ≤ b ∧ US Z h' r b kb (cs.take 197)) := by
  rcases U with L | H
  · exact c_subL hw a b kb cs h0 O2 P5 O4 rfm SA SH SL L h2 hN
  · exact c_subH hw a b kb cs h0 O2 P5 O4 rfm SA SH SL H h2 hN
set_option maxRecDepth 65536 in
set_option maxHeartbeats 40000000 in
theorem c_newL {l : Launch} {Z : State} {a0 : Array Value} (hw : W a0 Z) (x g z : Nat) (h0 : Heap) (hx : x ≤ 808) (hg : g ≤ 4000) (hz : z ≤ 4000) (h0g : 0 < g) :
    Con l Z EL0 (⟨"jdk/internal/util/ArraysSupport", "newLength", "(III)I"⟩ : MethodName) jdk_48_method_27_code 4 (some .int) ({ frames := 1, cells := 0, slots := 0, locals := 14 } : Room) #[(.int (Int32.ofNat x)), (.int (Int32.ofNat g)), (.int (Int32.ofNat z))] h0 [] (fun v h' Sf => v = some (.int (Int32.ofNat (x + max g z))) ∧ h' = h0) := by
  have hpn : plainName "jdk/internal/util/ArraysSupport" = true := by first | (simp [plainName, overriddenIn]; done) | decide +kernel
  refine Con.intro (plainFor_of_name hpn) ?_
  intro p e s m below meth c T X hss
  refine Goes.cast (g' := mkF m 0 #[.val (.int (Int32.ofNat x)), .val (.int (Int32.ofNat g)), .val (.int (Int32.ofNat z)), .unset] []) (by first | (simp [entryFrame, mkF, argsToLocals, Value.category]; done) | rfl) ?_
  refine o_iloadN X d_jdk_48_method_27_0 rfl (q := 1) rfl ?_
  refine o_iloadN X d_jdk_48_method_27_1 rfl (q := 2) rfl ?_
  refine o_iloadN X d_jdk_48_method_27_2 rfl (q := 3) rfl ?_
  refine o_stat X [(.int (Int32.ofNat g)), (.int (Int32.ofNat z))] (y' := (⟨"java/lang/Math", "max", "(II)I"⟩ : MethodName)) (c_max hw g z _ (by omega) (by omega)) all0 (w211 hw) (w212 hw) (w137 hw) (w213 hw) (by decide) d_jdk_48_method_27_3 (rest := [(.int (Int32.ofNat x))]) rfl rfl (lenOf pd15 rfl) rfl (by decide) (Nat.le_of_ble_eq_true rfl) (by decide) (by decide) (q := 6) rfl ?_
  intro v1 vm1 T1 h1 l1 X1 R1 q1
  obtain ⟨rfl, e1⟩ := q1
  have e1 := e1.symm
  subst e1
  show Goes p e below _ T1 (mkF m 6 #[.val (.int (Int32.ofNat x)), .val (.int (Int32.ofNat g)), .val (.int (Int32.ofNat z)), .unset] [(.int (Int32.ofNat (max g z))), (.int (Int32.ofNat x))])
  refine o_iadd X1 d_jdk_48_method_27_6 (w := (Int32.ofNat (x + (max g z)))) (n_add _ _) (q := 7) rfl ?_
  refine o_istoreN X1 d_jdk_48_method_27_7 rfl (L' := #[.val (.int (Int32.ofNat x)), .val (.int (Int32.ofNat g)), .val (.int (Int32.ofNat z)), .val (.int (Int32.ofNat (x + (max g z))))]) rfl (q := 8) rfl ?_
  refine o_iconst X1 d_jdk_48_method_27_8 (w := 0) rfl (q := 9) rfl ?_
  refine o_iloadN X1 d_jdk_48_method_27_9 rfl (q := 10) rfl ?_
  refine o_icmpN X1 d_jdk_48_method_27_10 (tlt ((n_lt (a := 0) (by omega) (by omega)).mpr (by omega))).2.1 (q := 13) rfl ?_
  refine o_iloadN X1 d_jdk_48_method_27_13 rfl (q := 14) rfl ?_
  refine o_ldcI X1 (w214 hw) d_jdk_48_method_27_14 (q := 16) rfl ?_
  refine o_icmpN X1 d_jdk_48_method_27_16 (flt (own_big2 (by omega))).2.2.1 (q := 19) rfl ?_
  refine o_iloadN X1 d_jdk_48_method_27_19 rfl (q := 20) rfl ?_
  exact o_retI X1 d_jdk_48_method_27_20 (fun Sf hSf => ⟨rfl, rfl⟩) (by decide) (by decide)
set_option maxRecDepth 65536 in
set_option maxHeartbeats 40000000 in
theorem c_ncap0 {l : Launch} {Z : State} {a0 : Array Value} (hw : W a0 Z) (sb va : Addr) (cap nd : Nat) (ys : List Int32) (h0 : Heap) (E : Exa Z h0 sb "java/lang/StringBuilder") (gs : Z.heap.size ≤ sb) (F_value : Fld Z h0 sb "java/lang/AbstractStringBuilder" "value" "[B" (.ref va)) (F_coder : Fld Z h0 sb "java/lang/AbstractStringBuilder" "coder" "B" (.int (0 : Int32))) (F_count : Fld Z h0 sb "java/lang/AbstractStringBuilder" "count" "I" (.int (Int32.ofNat ys.length))) (F_maybeLatin1 : Fld Z h0 sb "java/lang/AbstractStringBuilder" "maybeLatin1" "Z" (.int (0 : Int32))) {kv : ClassId} (Vv : Arv Z h0 va kv .byte (Int32.ofNat cap) (LB ys) (.int (0 : Int32))) (gv : Z.heap.size ≤ va) (hsv : sb ≠ va) (hc : ys.length ≤ cap) (hcb : cap ≤ 404) (hgr : cap < nd) (hnd : max nd (2 * cap + 2) ≤ 404) :
    Con l Z EL0 (⟨"java/lang/AbstractStringBuilder", "newCapacity", "(I)I"⟩ : MethodName) jdk_68_method_10_code 6 (some .int) ({ frames := 2, cells := 0, slots := 0, locals := 29 } : Room) #[(.ref sb), (.int (Int32.ofNat nd))] h0 [] (fun v h' Sf => v = some (.int (Int32.ofNat (max nd (2 * cap + 2)))) ∧ h' = h0) := by
  have hpn : plainName "java/lang/AbstractStringBuilder" = true := by first | (simp [plainName, overriddenIn]; done) | decide +kernel
  refine Con.intro (plainFor_of_name hpn) ?_
  intro p e s m below meth c T X hss
  refine Goes.cast (g' := mkF m 0 #[.val (.ref sb), .val (.int (Int32.ofNat nd)), .unset, .unset, .unset, .unset] []) (by first | (simp [entryFrame, mkF, argsToLocals, Value.category]; done) | rfl) ?_
  refine o_aloadN X d_jdk_68_method_10_0 rfl rfl (q := 1) rfl ?_
  refine o_getF X F_value (host := "") (Or.inl (w52 hw)) Via.refl d_jdk_68_method_10_1 (q := 4) rfl ?_
  intro T1 X1
  refine o_len X1 Vv d_jdk_68_method_10_4 (q := 5) rfl ?_
  refine o_istoreN X1 d_jdk_68_method_10_5 rfl (L' := #[.val (.ref sb), .val (.int (Int32.ofNat nd)), .val (.int (Int32.ofNat cap)), .unset, .unset, .unset]) rfl (q := 6) rfl ?_
  refine o_iloadN X1 d_jdk_68_method_10_6 rfl (q := 7) rfl ?_
  refine o_aloadN X1 d_jdk_68_method_10_7 rfl rfl (q := 8) rfl ?_
  refine o_getF X1 F_coder (host := "") (Or.inl (w54 hw)) Via.refl d_jdk_68_method_10_8 (q := 11) rfl ?_
  intro T2 X2
  refine o_ishl X2 d_jdk_68_method_10_11 (w := (Int32.ofNat nd)) (own_shl0 _) (q := 12) rfl ?_
  refine o_istoreN X2 d_jdk_68_method_10_12 rfl (L' := #[.val (.ref sb), .val (.int (Int32.ofNat nd)), .val (.int (Int32.ofNat cap)), .val (.int (Int32.ofNat nd)), .unset, .unset]) rfl (q := 13) rfl ?_
  refine o_iloadN X2 d_jdk_68_method_10_13 rfl (q := 14) rfl ?_
  refine o_iloadN X2 d_jdk_68_method_10_14 rfl (q := 15) rfl ?_
  refine o_isub X2 d_jdk_68_method_10_15 (w := (Int32.ofNat (nd - cap))) (n_sub (by omega)) (q := 16) rfl ?_
  refine o_istore X2 d_jdk_68_method_10_16 rfl (L' := #[.val (.ref sb), .val (.int (Int32.ofNat nd)), .val (.int (Int32.ofNat cap)), .val (.int (Int32.ofNat nd)), .val (.int (Int32.ofNat (nd - cap))), .unset]) rfl (q := 18) rfl ?_
  refine o_iloadN X2 d_jdk_68_method_10_18 rfl (q := 19) rfl ?_
  refine o_iload X2 d_jdk_68_method_10_19 rfl (q := 21) rfl ?_
  refine o_iloadN X2 d_jdk_68_method_10_21 rfl (q := 22) rfl ?_
  refine o_iconst X2 d_jdk_68_method_10_22 (w := 2) rfl (q := 23) rfl ?_
  refine o_aloadN X2 d_jdk_68_method_10_23 rfl rfl (q := 24) rfl ?_
  refine o_getF X2 F_coder (host := "") (Or.inl (w54 hw)) Via.refl d_jdk_68_method_10_24 (q := 27) rfl ?_
  intro T3 X3
  refine o_ishl X3 d_jdk_68_method_10_27 (w := (2 : Int32)) (by decide) (q := 28) rfl ?_
  refine o_iadd X3 d_jdk_68_method_10_28 (w := (Int32.ofNat (cap + 2))) (n_add _ _) (q := 29) rfl ?_
  refine o_stat X3 [(.int (Int32.ofNat cap)), (.int (Int32.ofNat (nd - cap))), (.int (Int32.ofNat (cap + 2)))] (y' := (⟨"jdk/internal/util/ArraysSupport", "newLength", "(III)I"⟩ : MethodName)) (c_newL hw cap (nd - cap) (cap + 2) _ (by omega) (by omega) (by omega) (by omega)) all0 (w207 hw) (w208 hw) (w209 hw) (w210 hw) (by decide) d_jdk_68_method_10_29 (rest := []) rfl rfl (lenOf pd11 rfl) rfl (by decide) (Nat.le_of_ble_eq_true rfl) (by decide) (by decide) (q := 32) rfl ?_
  intro v4 vm4 T4 h4 l4 X4 R4 q4
  obtain ⟨rfl, e4⟩ := q4
  have e4 := e4.symm
  subst e4
  show Goes p e below _ T4 (mkF m 32 #[.val (.ref sb), .val (.int (Int32.ofNat nd)), .val (.int (Int32.ofNat cap)), .val (.int (Int32.ofNat nd)), .val (.int (Int32.ofNat (nd - cap))), .unset] [(.int (Int32.ofNat (cap + max (nd - cap) (cap + 2))))])
  refine o_istore X4 d_jdk_68_method_10_32 rfl (L' := #[.val (.ref sb), .val (.int (Int32.ofNat nd)), .val (.int (Int32.ofNat cap)), .val (.int (Int32.ofNat nd)), .val (.int (Int32.ofNat (nd - cap))), .val (.int (Int32.ofNat (cap + max (nd - cap) (cap + 2))))]) rfl (q := 34) rfl ?_
  refine o_iload X4 d_jdk_68_method_10_34 rfl (q := 36) rfl ?_
  refine o_ldcI X4 (w215 hw) d_jdk_68_method_10_36 (q := 38) rfl ?_
  refine o_icmpY X4 d_jdk_68_method_10_38 (feq (own_nmax (by omega))).2 (by decide) (q := 51) (by decide) ?_
  refine o_iload X4 d_jdk_68_method_10_51 rfl (q := 53) rfl ?_
  refine o_aloadN X4 d_jdk_68_method_10_53 rfl rfl (q := 54) rfl ?_
  have f5 := F_coder
  refine o_getF X4 f5 (host := "") (Or.inl (w54 hw)) Via.refl d_jdk_68_method_10_54 (q := 57) rfl ?_
  intro T6 X6
  refine o_ishr X6 d_jdk_68_method_10_57 (w := (Int32.ofNat (max nd (2 * cap + 2)))) (by rw [own_nc0 hgr]; exact n_shr0 _) (q := 58) rfl ?_
  exact o_retI X6 d_jdk_68_method_10_58 (fun Sf hSf => ⟨rfl, rfl⟩) (by decide) (by decide)
set_option maxRecDepth 65536 in
set_option maxHeartbeats 40000000 in
theorem c_ens0n {l : Launch} {Z : State} {a0 : Array Value} (hw : W a0 Z) (sb va : Addr) (cap nd : Nat) (ys : List Int32) (h0 : Heap) (E : Exa Z h0 sb "java/lang/StringBuilder") (gs : Z.heap.size ≤ sb) (F_value : Fld Z h0 sb "java/lang/AbstractStringBuilder" "value" "[B" (.ref va)) (F_coder : Fld Z h0 sb "java/lang/AbstractStringBuilder" "coder" "B" (.int (0 : Int32))) (F_count : Fld Z h0 sb "java/lang/AbstractStringBuilder" "count" "I" (.int (Int32.ofNat ys.length))) (F_maybeLatin1 : Fld Z h0 sb "java/lang/AbstractStringBuilder" "maybeLatin1" "Z" (.int (0 : Int32))) {kv : ClassId} (Vv : Arv Z h0 va kv .byte (Int32.ofNat cap) (LB ys) (.int (0 : Int32))) (gv : Z.heap.size ≤ va) (hsv : sb ≠ va) (hc : ys.length ≤ cap) (hcb : cap ≤ 404) (hgr : nd ≤ cap) :
    Con l Z EL0 (⟨"java/lang/AbstractStringBuilder", "ensureCapacityInternal", "(I)V"⟩ : MethodName) jdk_68_method_9_code 3 none ({ frames := 0, cells := 0, slots := 0, locals := 0 } : Room) #[(.ref sb), (.int (Int32.ofNat nd))] h0 [] (fun v h' Sf => v = none ∧ h' = h0) := by
  have hpn : plainName "java/lang/AbstractStringBuilder" = true := by first | (simp [plainName, overriddenIn]; done) | decide +kernel
  refine Con.intro (plainFor_of_name hpn) ?_
  intro p e s m below meth c T X hss
  refine Goes.cast (g' := mkF m 0 #[.val (.ref sb), .val (.int (Int32.ofNat nd)), .unset] []) (by first | (simp [entryFrame, mkF, argsToLocals, Value.category]; done) | rfl) ?_
  refine o_aloadN X d_jdk_68_method_9_0 rfl rfl (q := 1) rfl ?_
  refine o_getF X F_value (host := "") (Or.inl (w52 hw)) Via.refl d_jdk_68_method_9_1 (q := 4) rfl ?_
  intro T1 X1
  refine o_len X1 Vv d_jdk_68_method_9_4 (q := 5) rfl ?_
  refine o_aloadN X1 d_jdk_68_method_9_5 rfl rfl (q := 6) rfl ?_
  refine o_getF X1 F_coder (host := "") (Or.inl (w54 hw)) Via.refl d_jdk_68_method_9_6 (q := 9) rfl ?_
  intro T2 X2
  refine o_ishr X2 d_jdk_68_method_9_9 (w := (Int32.ofNat cap)) (n_shr0 _) (q := 10) rfl ?_
  refine o_istoreN X2 d_jdk_68_method_9_10 rfl (L' := #[.val (.ref sb), .val (.int (Int32.ofNat nd)), .val (.int (Int32.ofNat cap))]) rfl (q := 11) rfl ?_
  refine o_iloadN X2 d_jdk_68_method_9_11 rfl (q := 12) rfl ?_
  refine o_iloadN X2 d_jdk_68_method_9_12 rfl (q := 13) rfl ?_
  refine o_isub X2 d_jdk_68_method_9_13 (w := ((Int32.ofNat nd) - (Int32.ofNat cap))) rfl (q := 14) rfl ?_
  refine o_ifY X2 d_jdk_68_method_9_14 (flt (own_sle (by omega) (by omega))).2.2.2 (by decide) (q := 38) (by decide) ?_
  exact o_ret X2 d_jdk_68_method_9_38 (fun Sf hSf => ⟨rfl, rfl⟩) (by decide) (by decide)
set_option maxRecDepth 65536 in
set_option maxHeartbeats 40000000 in
theorem c_ens0g {l : Launch} {Z : State} {a0 : Array Value} (hw : W a0 Z) (sb va : Addr) (cap nd : Nat) (ys : List Int32) (h0 : Heap) (E : Exa Z h0 sb "java/lang/StringBuilder") (gs : Z.heap.size ≤ sb) (F_value : Fld Z h0 sb "java/lang/AbstractStringBuilder" "value" "[B" (.ref va)) (F_coder : Fld Z h0 sb "java/lang/AbstractStringBuilder" "coder" "B" (.int (0 : Int32))) (F_count : Fld Z h0 sb "java/lang/AbstractStringBuilder" "count" "I" (.int (Int32.ofNat ys.length))) (F_maybeLatin1 : Fld Z h0 sb "java/lang/AbstractStringBuilder" "maybeLatin1" "Z" (.int (0 : Int32))) {kv : ClassId} (Vv : Arv Z h0 va kv .byte (Int32.ofNat cap) (LB ys) (.int (0 : Int32))) (gv : Z.heap.size ≤ va) (hsv : sb ≠ va) (hc : ys.length ≤ cap) (hcb : cap ≤ 404) (hgr : cap < nd) (hnd : max nd (2 * cap + 2) ≤ 404) :
    Con l Z EL0 (⟨"java/lang/AbstractStringBuilder", "ensureCapacityInternal", "(I)V"⟩ : MethodName) jdk_68_method_9_code 3 none ({ frames := 3, cells := 1, slots := 808, locals := 48 } : Room) #[(.ref sb), (.int (Int32.ofNat nd))] h0 [] (fun v h' Sf => v = none ∧ Keep h0 h' [sb] ∧ ∃ (v2 : Addr) (k2 : ClassId), h0.size ≤ v2 ∧ Sf v2 ∧ Fld Z h' sb "java/lang/AbstractStringBuilder" "value" "[B" (.ref v2) ∧ Fld Z h' sb "java/lang/AbstractStringBuilder" "coder" "B" (.int (0 : Int32)) ∧ Fld Z h' sb "java/lang/AbstractStringBuilder" "count" "I" (.int (Int32.ofNat ys.length)) ∧ Fld Z h' sb "java/lang/AbstractStringBuilder" "maybeLatin1" "Z" (.int (0 : Int32)) ∧ Arv Z h' v2 k2 .byte (Int32.ofNat (max nd (2 * cap + 2))) (LB ys) (.int (0 : Int32))) := by
  have hpn : plainName "java/lang/AbstractStringBuilder" = true := by first | (simp [plainName, overriddenIn]; done) | decide +kernel
  refine Con.intro (plainFor_of_name hpn) ?_
  intro p e s m below meth c T X hss
  refine Goes.cast (g' := mkF m 0 #[.val (.ref sb), .val (.int (Int32.ofNat nd)), .unset] []) (by first | (simp [entryFrame, mkF, argsToLocals, Value.category]; done) | rfl) ?_
  refine o_aloadN X d_jdk_68_method_9_0 rfl rfl (q := 1) rfl ?_
  refine o_getF X F_value (host := "") (Or.inl (w52 hw)) Via.refl d_jdk_68_method_9_1 (q := 4) rfl ?_
  intro T1 X1
  refine o_len X1 Vv d_jdk_68_method_9_4 (q := 5) rfl ?_
  refine o_aloadN X1 d_jdk_68_method_9_5 rfl rfl (q := 6) rfl ?_
  refine o_getF X1 F_coder (host := "") (Or.inl (w54 hw)) Via.refl d_jdk_68_method_9_6 (q := 9) rfl ?_
  intro T2 X2
  refine o_ishr X2 d_jdk_68_method_9_9 (w := (Int32.ofNat cap)) (n_shr0 _) (q := 10) rfl ?_
  refine o_istoreN X2 d_jdk_68_method_9_10 rfl (L' := #[.val (.ref sb), .val (.int (Int32.ofNat nd)), .val (.int (Int32.ofNat cap))]) rfl (q := 11) rfl ?_
  refine o_iloadN X2 d_jdk_68_method_9_11 rfl (q := 12) rfl ?_
  refine o_iloadN X2 d_jdk_68_method_9_12 rfl (q := 13) rfl ?_
  refine o_isub X2 d_jdk_68_method_9_13 (w := (Int32.ofNat (nd - cap))) (n_sub (by omega)) (q := 14) rfl ?_
  refine o_ifN X2 d_jdk_68_method_9_14 (tlt ((n_lt (a := 0) (by omega) (by omega)).mpr (by omega))).2.2.2 (q := 17) rfl ?_
  refine o_aloadN X2 d_jdk_68_method_9_17 rfl rfl (q := 18) rfl ?_
  refine o_aloadN X2 d_jdk_68_method_9_18 rfl rfl (q := 19) rfl ?_
  refine o_getF X2 F_value (host := "") (Or.inl (w52 hw)) Via.refl d_jdk_68_method_9_19 (q := 22) rfl ?_
  intro T3 X3
  refine o_aloadN X3 d_jdk_68_method_9_22 rfl rfl (q := 23) rfl ?_
  refine o_iloadN X3 d_jdk_68_method_9_23 rfl (q := 24) rfl ?_
  refine o_priv X3 [(.int (Int32.ofNat nd))] (y' := (⟨"java/lang/AbstractStringBuilder", "newCapacity", "(I)I"⟩ : MethodName)) E (c_ncap0 hw sb va cap nd ys _ E gs F_value F_coder F_count F_maybeLatin1 Vv gv hsv hc hcb hgr hnd) all0 (w202 hw) (w203 hw) (sel_up (w205 hw) (w203 hw) (w204 hw) (by decide)) (w204 hw) (w206 hw) (w48 hw) (by decide) d_jdk_68_method_9_24 (rest := [(.ref va), (.ref sb)]) rfl rfl (lenOf pd1 rfl) rfl (by decide) (Nat.le_of_ble_eq_true rfl) (by decide) (by decide) (q := 27) rfl ?_
  intro v4 vm4 T4 h4 l4 X4 R4 q4
  obtain ⟨rfl, e4⟩ := q4
  have e4 := e4.symm
  subst e4
  show Goes p e below _ T4 (mkF m 27 #[.val (.ref sb), .val (.int (Int32.ofNat nd)), .val (.int (Int32.ofNat cap))] [(.int (Int32.ofNat (max nd (2 * cap + 2)))), (.ref va), (.ref sb)])
  refine o_aloadN X4 d_jdk_68_method_9_27 rfl rfl (q := 28) rfl ?_
  have f5 := F_coder
  refine o_getF X4 f5 (host := "") (Or.inl (w54 hw)) Via.refl d_jdk_68_method_9_28 (q := 31) rfl ?_
  intro T6 X6
  refine o_ishl X6 d_jdk_68_method_9_31 (w := (Int32.ofNat (max nd (2 * cap + 2)))) (own_shl0 _) (q := 32) rfl ?_
  have f7 := Vv
  refine o_stat X6 [(.ref va), (.int (Int32.ofNat (max nd (2 * cap + 2))))] (y' := (⟨"java/util/Arrays", "copyOf", "([BI)[B"⟩ : MethodName)) (c_cpo hw va (max nd (2 * cap + 2)) cap _ f7 (by omega) (by omega) (by simp; omega)) all0 (w216 hw) (w217 hw) (w127 hw) (w218 hw) (by decide) d_jdk_68_method_9_32 (rest := [(.ref sb)]) rfl rfl (lenOf pd22 rfl) rfl (by decide) (Nat.le_of_ble_eq_true rfl) (by decide) (by decide) (q := 35) rfl ?_
  intro v8 vm8 T8 h8 l8 X8 R8 q8
  obtain ⟨b8, kb8, rfl, K8, g8, s8, V8⟩ := q8
  show Goes p e below _ T8 (mkF m 35 #[.val (.ref sb), .val (.int (Int32.ofNat nd)), .val (.int (Int32.ofNat cap))] [(.ref b8), (.ref sb)])
  have f9 := (F_value.keep K8 nin0)
  have f10 := (E.keep K8)
  refine o_putF X8 f9 f10 gs (Safe.exa X8.alike f10 (by decide) (by decide)) (host := "") (Or.inl (w52 hw)) Via.refl (Or.inl (w53 hw)) (w39 hw) (ty := (.array .byte)) (by decide) rfl rfl d_jdk_68_method_9_35 (q := 38) rfl ?_
  intro T11 h11 l11 X11 W11 R11 F11
  have sz12 := Nat.le_trans (Keep.refl h0 [sb]).1 g8
  have k13 := Keep.trans (Keep.refl h0 [sb]) K8 all0
  have k14 := Keep.wr k13 W11 (Or.inl (by simp))
  have f15 := (CHr.safe R11 (V8.lt) s8)
  have f16 := ((f5.keep K8 nin0).other W11 (Or.inr (slot_ne (Or.inl (w55 hw)) (Or.inl (w53 hw)) (by decide) (t := .byte) (t' := (.array .byte)) (by decide) (by decide))))
  have f17 := ((F_count.keep K8 nin0).other W11 (Or.inr (slot_ne (Or.inl (w69 hw)) (Or.inl (w53 hw)) (by decide) (t := .int) (t' := (.array .byte)) (by decide) (by decide))))
  have f18 := ((F_maybeLatin1.keep K8 nin0).other W11 (Or.inr (slot_ne (Or.inl (w280 hw)) (Or.inl (w53 hw)) (by decide) (t := .boolean) (t' := (.array .byte)) (by decide) (by decide))))
  have f19 := (V8.other W11 (Ne.symm (Nat.ne_of_lt (Nat.lt_of_lt_of_le f5.lt g8))))
  exact o_ret X11 d_jdk_68_method_9_38 (fun Sf hSf => ⟨rfl, k14, b8, kb8, sz12, hSf _ (Nat.lt_of_lt_of_le V8.lt (Keep.of_wr W11).1) f15, F11, f16, f17, f18, f19⟩) (by decide) (by decide)
set_option maxRecDepth 65536 in
set_option maxHeartbeats 40000000 in
theorem c_ncap1 {l : Launch} {Z : State} {a0 : Array Value} (hw : W a0 Z) (sb va : Addr) (cap nd : Nat) (ys : List Int32) (h0 : Heap) (E : Exa Z h0 sb "java/lang/StringBuilder") (gs : Z.heap.size ≤ sb) (F_value : Fld Z h0 sb "java/lang/AbstractStringBuilder" "value" "[B" (.ref va)) (F_coder : Fld Z h0 sb "java/lang/AbstractStringBuilder" "coder" "B" (.int (1 : Int32))) (F_count : Fld Z h0 sb "java/lang/AbstractStringBuilder" "count" "I" (.int (Int32.ofNat ys.length))) (F_maybeLatin1 : Fld Z h0 sb "java/lang/AbstractStringBuilder" "maybeLatin1" "Z" (.int (0 : Int32))) {kv : ClassId} (Vv : Arv Z h0 va kv .byte (Int32.ofNat (2 * cap)) (StrChars.Road.wideBytes ys) (.int (0 : Int32))) (gv : Z.heap.size ≤ va) (hsv : sb ≠ va) (hc : ys.length ≤ cap) (hcb : cap ≤ 404) (hgr : cap < nd) (hnd : max nd (2 * cap + 2) ≤ 404) :
    Con l Z EL0 (⟨"java/lang/AbstractStringBuilder", "newCapacity", "(I)I"⟩ : MethodName) jdk_68_method_10_code 6 (some .int) ({ frames := 2, cells := 0, slots := 0, locals := 29 } : Room) #[(.ref sb), (.int (Int32.ofNat nd))] h0 [] (fun v h' Sf => v = some (.int (Int32.ofNat (max nd (2 * cap + 2)))) ∧ h' = h0) := by
  have hpn : plainName "java/lang/AbstractStringBuilder" = true := by first | (simp [plainName, overriddenIn]; done) | decide +kernel
  refine Con.intro (plainFor_of_name hpn) ?_
  intro p e s m below meth c T X hss
  refine Goes.cast (g' := mkF m 0 #[.val (.ref sb), .val (.int (Int32.ofNat nd)), .unset, .unset, .unset, .unset] []) (by first | (simp [entryFrame, mkF, argsToLocals, Value.category]; done) | rfl) ?_
  refine o_aloadN X d_jdk_68_method_10_0 rfl rfl (q := 1) rfl ?_
  refine o_getF X F_value (host := "") (Or.inl (w52 hw)) Via.refl d_jdk_68_method_10_1 (q := 4) rfl ?_
  intro T1 X1
  refine o_len X1 Vv d_jdk_68_method_10_4 (q := 5) rfl ?_
  refine o_istoreN X1 d_jdk_68_method_10_5 rfl (L' := #[.val (.ref sb), .val (.int (Int32.ofNat nd)), .val (.int (Int32.ofNat (2 * cap))), .unset, .unset, .unset]) rfl (q := 6) rfl ?_
  refine o_iloadN X1 d_jdk_68_method_10_6 rfl (q := 7) rfl ?_
  refine o_aloadN X1 d_jdk_68_method_10_7 rfl rfl (q := 8) rfl ?_
  refine o_getF X1 F_coder (host := "") (Or.inl (w54 hw)) Via.refl d_jdk_68_method_10_8 (q := 11) rfl ?_
  intro T2 X2
  refine o_ishl X2 d_jdk_68_method_10_11 (w := (Int32.ofNat (2 * nd))) (own_shl1 (by omega)) (q := 12) rfl ?_
  refine o_istoreN X2 d_jdk_68_method_10_12 rfl (L' := #[.val (.ref sb), .val (.int (Int32.ofNat nd)), .val (.int (Int32.ofNat (2 * cap))), .val (.int (Int32.ofNat (2 * nd))), .unset, .unset]) rfl (q := 13) rfl ?_
  refine o_iloadN X2 d_jdk_68_method_10_13 rfl (q := 14) rfl ?_
  refine o_iloadN X2 d_jdk_68_method_10_14 rfl (q := 15) rfl ?_
  refine o_isub X2 d_jdk_68_method_10_15 (w := (Int32.ofNat ((2 * nd) - (2 * cap)))) (n_sub (by omega)) (q := 16) rfl ?_
  refine o_istore X2 d_jdk_68_method_10_16 rfl (L' := #[.val (.ref sb), .val (.int (Int32.ofNat nd)), .val (.int (Int32.ofNat (2 * cap))), .val (.int (Int32.ofNat (2 * nd))), .val (.int (Int32.ofNat ((2 * nd) - (2 * cap)))), .unset]) rfl (q := 18) rfl ?_
  refine o_iloadN X2 d_jdk_68_method_10_18 rfl (q := 19) rfl ?_
  refine o_iload X2 d_jdk_68_method_10_19 rfl (q := 21) rfl ?_
  refine o_iloadN X2 d_jdk_68_method_10_21 rfl (q := 22) rfl ?_
  refine o_iconst X2 d_jdk_68_method_10_22 (w := 2) rfl (q := 23) rfl ?_
  refine o_aloadN X2 d_jdk_68_method_10_23 rfl rfl (q := 24) rfl ?_
  refine o_getF X2 F_coder (host := "") (Or.inl (w54 hw)) Via.refl d_jdk_68_method_10_24 (q := 27) rfl ?_
  intro T3 X3
  refine o_ishl X3 d_jdk_68_method_10_27 (w := (4 : Int32)) (by decide) (q := 28) rfl ?_
  refine o_iadd X3 d_jdk_68_method_10_28 (w := (Int32.ofNat ((2 * cap) + 4))) (n_add _ _) (q := 29) rfl ?_
  refine o_stat X3 [(.int (Int32.ofNat (2 * cap))), (.int (Int32.ofNat ((2 * nd) - (2 * cap)))), (.int (Int32.ofNat ((2 * cap) + 4)))] (y' := (⟨"jdk/internal/util/ArraysSupport", "newLength", "(III)I"⟩ : MethodName)) (c_newL hw (2 * cap) ((2 * nd) - (2 * cap)) ((2 * cap) + 4) _ (by omega) (by omega) (by omega) (by omega)) all0 (w207 hw) (w208 hw) (w209 hw) (w210 hw) (by decide) d_jdk_68_method_10_29 (rest := []) rfl rfl (lenOf pd11 rfl) rfl (by decide) (Nat.le_of_ble_eq_true rfl) (by decide) (by decide) (q := 32) rfl ?_
  intro v4 vm4 T4 h4 l4 X4 R4 q4
  obtain ⟨rfl, e4⟩ := q4
  have e4 := e4.symm
  subst e4
  show Goes p e below _ T4 (mkF m 32 #[.val (.ref sb), .val (.int (Int32.ofNat nd)), .val (.int (Int32.ofNat (2 * cap))), .val (.int (Int32.ofNat (2 * nd))), .val (.int (Int32.ofNat ((2 * nd) - (2 * cap)))), .unset] [(.int (Int32.ofNat ((2 * cap) + max ((2 * nd) - (2 * cap)) ((2 * cap) + 4))))])
  refine o_istore X4 d_jdk_68_method_10_32 rfl (L' := #[.val (.ref sb), .val (.int (Int32.ofNat nd)), .val (.int (Int32.ofNat (2 * cap))), .val (.int (Int32.ofNat (2 * nd))), .val (.int (Int32.ofNat ((2 * nd) - (2 * cap)))), .val (.int (Int32.ofNat ((2 * cap) + max ((2 * nd) - (2 * cap)) ((2 * cap) + 4))))]) rfl (q := 34) rfl ?_
  refine o_iload X4 d_jdk_68_method_10_34 rfl (q := 36) rfl ?_
  refine o_ldcI X4 (w215 hw) d_jdk_68_method_10_36 (q := 38) rfl ?_
  refine o_icmpY X4 d_jdk_68_method_10_38 (feq (own_nmax (by omega))).2 (by decide) (q := 51) (by decide) ?_
  refine o_iload X4 d_jdk_68_method_10_51 rfl (q := 53) rfl ?_
  refine o_aloadN X4 d_jdk_68_method_10_53 rfl rfl (q := 54) rfl ?_
  have f5 := F_coder
  refine o_getF X4 f5 (host := "") (Or.inl (w54 hw)) Via.refl d_jdk_68_method_10_54 (q := 57) rfl ?_
  intro T6 X6
  refine o_ishr X6 d_jdk_68_method_10_57 (w := (Int32.ofNat (max nd (2 * cap + 2)))) (by rw [own_nc1 hgr]; exact own_shr1 (by omega)) (q := 58) rfl ?_
  exact o_retI X6 d_jdk_68_method_10_58 (fun Sf hSf => ⟨rfl, rfl⟩) (by decide) (by decide)
set_option maxRecDepth 65536 in
set_option maxHeartbeats 40000000 in
theorem c_ens1n {l : Launch} {Z : State} {a0 : Array Value} (hw : W a0 Z) (sb va : Addr) (cap nd : Nat) (ys : List Int32) (h0 : Heap) (E : Exa Z h0 sb "java/lang/StringBuilder") (gs : Z.heap.size ≤ sb) (F_value : Fld Z h0 sb "java/lang/AbstractStringBuilder" "value" "[B" (.ref va)) (F_coder : Fld Z h0 sb "java/lang/AbstractStringBuilder" "coder" "B" (.int (1 : Int32))) (F_count : Fld Z h0 sb "java/lang/AbstractStringBuilder" "count" "I" (.int (Int32.ofNat ys.length))) (F_maybeLatin1 : Fld Z h0 sb "java/lang/AbstractStringBuilder" "maybeLatin1" "Z" (.int (0 : Int32))) {kv : ClassId} (Vv : Arv Z h0 va kv .byte (Int32.ofNat (2 * cap)) (StrChars.Road.wideBytes ys) (.int (0 : Int32))) (gv : Z.heap.size ≤ va) (hsv : sb ≠ va) (hc : ys.length ≤ cap) (hcb : cap ≤ 404) (hgr : nd ≤ cap) :
    Con l Z EL0 (⟨"java/lang/AbstractStringBuilder", "ensureCapacityInternal", "(I)V"⟩ : MethodName) jdk_68_method_9_code 3 none ({ frames := 0, cells := 0, slots := 0, locals := 0 } : Room) #[(.ref sb), (.int (Int32.ofNat nd))] h0 [] (fun v h' Sf => v = none ∧ h' = h0) := by
  have hpn : plainName "java/lang/AbstractStringBuilder" = true := by first | (simp [plainName, overriddenIn]; done) | decide +kernel
  refine Con.intro (plainFor_of_name hpn) ?_
  intro p e s m below meth c T X hss
  refine Goes.cast (g' := mkF m 0 #[.val (.ref sb), .val (.int (Int32.ofNat nd)), .unset] []) (by first | (simp [entryFrame, mkF, argsToLocals, Value.category]; done) | rfl) ?_
  refine o_aloadN X d_jdk_68_method_9_0 rfl rfl (q := 1) rfl ?_
  refine o_getF X F_value (host := "") (Or.inl (w52 hw)) Via.refl d_jdk_68_method_9_1 (q := 4) rfl ?_
  intro T1 X1
  refine o_len X1 Vv d_jdk_68_method_9_4 (q := 5) rfl ?_
  refine o_aloadN X1 d_jdk_68_method_9_5 rfl rfl (q := 6) rfl ?_
  refine o_getF X1 F_coder (host := "") (Or.inl (w54 hw)) Via.refl d_jdk_68_method_9_6 (q := 9) rfl ?_
  intro T2 X2
  refine o_ishr X2 d_jdk_68_method_9_9 (w := (Int32.ofNat cap)) (own_shr1 (by omega)) (q := 10) rfl ?_
  refine o_istoreN X2 d_jdk_68_method_9_10 rfl (L' := #[.val (.ref sb), .val (.int (Int32.ofNat nd)), .val (.int (Int32.ofNat cap))]) rfl (q := 11) rfl ?_
  refine o_iloadN X2 d_jdk_68_method_9_11 rfl (q := 12) rfl ?_
  refine o_iloadN X2 d_jdk_68_method_9_12 rfl (q := 13) rfl ?_
  refine o_isub X2 d_jdk_68_method_9_13 (w := ((Int32.ofNat nd) - (Int32.ofNat cap))) rfl (q := 14) rfl ?_
  refine o_ifY X2 d_jdk_68_method_9_14 (flt (own_sle (by omega) (by omega))).2.2.2 (by decide) (q := 38) (by decide) ?_
  exact o_ret X2 d_jdk_68_method_9_38 (fun Sf hSf => ⟨rfl, rfl⟩) (by decide) (by decide)
set_option maxRecDepth 65536 in
set_option maxHeartbeats 40000000 in
theorem c_ens1g {l : Launch} {Z : State} {a0 : Array Value} (hw : W a0 Z) (sb va : Addr) (cap nd : Nat) (ys : List Int32) (h0 : Heap) (E : Exa Z h0 sb "java/lang/StringBuilder") (gs : Z.heap.size ≤ sb) (F_value : Fld Z h0 sb "java/lang/AbstractStringBuilder" "value" "[B" (.ref va)) (F_coder : Fld Z h0 sb "java/lang/AbstractStringBuilder" "coder" "B" (.int (1 : Int32))) (F_count : Fld Z h0 sb "java/lang/AbstractStringBuilder" "count" "I" (.int (Int32.ofNat ys.length))) (F_maybeLatin1 : Fld Z h0 sb "java/lang/AbstractStringBuilder" "maybeLatin1" "Z" (.int (0 : Int32))) {kv : ClassId} (Vv : Arv Z h0 va kv .byte (Int32.ofNat (2 * cap)) (StrChars.Road.wideBytes ys) (.int (0 : Int32))) (gv : Z.heap.size ≤ va) (hsv : sb ≠ va) (hc : ys.length ≤ cap) (hcb : cap ≤ 404) (hgr : cap < nd) (hnd : max nd (2 * cap + 2) ≤ 404) :
    Con l Z EL0 (⟨"java/lang/AbstractStringBuilder", "ensureCapacityInternal", "(I)V"⟩ : MethodName) jdk_68_method_9_code 3 none ({ frames := 3, cells := 1, slots := 808, locals := 48 } : Room) #[(.ref sb), (.int (Int32.ofNat nd))] h0 [] (fun v h' Sf => v = none ∧ Keep h0 h' [sb] ∧ ∃ (v2 : Addr) (k2 : ClassId), h0.size ≤ v2 ∧ Sf v2 ∧ Fld Z h' sb "java/lang/AbstractStringBuilder" "value" "[B" (.ref v2) ∧ Fld Z h' sb "java/lang/AbstractStringBuilder" "coder" "B" (.int (1 : Int32)) ∧ Fld Z h' sb "java/lang/AbstractStringBuilder" "count" "I" (.int (Int32.ofNat ys.length)) ∧ Fld Z h' sb "java/lang/AbstractStringBuilder" "maybeLatin1" "Z" (.int (0 : Int32)) ∧ Arv Z h' v2 k2 .byte (Int32.ofNat (2 * (max nd (2 * cap + 2)))) (StrChars.Road.wideBytes ys) (.int (0 : Int32))) := by
  have hpn : plainName "java/lang/AbstractStringBuilder" = true := by first | (simp [plainName, overriddenIn]; done) | decide +kernel
  refine Con.intro (plainFor_of_name hpn) ?_
  intro p e s m below meth c T X hss
  refine Goes.cast (g' := mkF m 0 #[.val (.ref sb), .val (.int (Int32.ofNat nd)), .unset] []) (by first | (simp [entryFrame, mkF, argsToLocals, Value.category]; done) | rfl) ?_
  refine o_aloadN X d_jdk_68_method_9_0 rfl rfl (q := 1) rfl ?_
  refine o_getF X F_value (host := "") (Or.inl (w52 hw)) Via.refl d_jdk_68_method_9_1 (q := 4) rfl ?_
  intro T1 X1
  refine o_len X1 Vv d_jdk_68_method_9_4 (q := 5) rfl ?_
  refine o_aloadN X1 d_jdk_68_method_9_5 rfl rfl (q := 6) rfl ?_
  refine o_getF X1 F_coder (host := "") (Or.inl (w54 hw)) Via.refl d_jdk_68_method_9_6 (q := 9) rfl ?_
  intro T2 X2
  refine o_ishr X2 d_jdk_68_method_9_9 (w := (Int32.ofNat cap)) (own_shr1 (by omega)) (q := 10) rfl ?_
  refine o_istoreN X2 d_jdk_68_method_9_10 rfl (L' := #[.val (.ref sb), .val (.int (Int32.ofNat nd)), .val (.int (Int32.ofNat cap))]) rfl (q := 11) rfl ?_
  refine o_iloadN X2 d_jdk_68_method_9_11 rfl (q := 12) rfl ?_
  refine o_iloadN X2 d_jdk_68_method_9_12 rfl (q := 13) rfl ?_
  refine o_isub X2 d_jdk_68_method_9_13 (w := (Int32.ofNat (nd - cap))) (n_sub (by omega)) (q := 14) rfl ?_
  refine o_ifN X2 d_jdk_68_method_9_14 (tlt ((n_lt (a := 0) (by omega) (by omega)).mpr (by omega))).2.2.2 (q := 17) rfl ?_
  refine o_aloadN X2 d_jdk_68_method_9_17 rfl rfl (q := 18) rfl ?_
  refine o_aloadN X2 d_jdk_68_method_9_18 rfl rfl (q := 19) rfl ?_
  refine o_getF X2 F_value (host := "") (Or.inl (w52 hw)) Via.refl d_jdk_68_method_9_19 (q := 22) rfl ?_
  intro T3 X3
  refine o_aloadN X3 d_jdk_68_method_9_22 rfl rfl (q := 23) rfl ?_
  refine o_iloadN X3 d_jdk_68_method_9_23 rfl (q := 24) rfl ?_
  refine o_priv X3 [(.int (Int32.ofNat nd))] (y' := (⟨"java/lang/AbstractStringBuilder", "newCapacity", "(I)I"⟩ : MethodName)) E (c_ncap1 hw sb va cap nd ys _ E gs F_value F_coder F_count F_maybeLatin1 Vv gv hsv hc hcb hgr hnd) all0 (w202 hw) (w203 hw) (sel_up (w205 hw) (w203 hw) (w204 hw) (by decide)) (w204 hw) (w206 hw) (w48 hw) (by decide) d_jdk_68_method_9_24 (rest := [(.ref va), (.ref sb)]) rfl rfl (lenOf pd1 rfl) rfl (by decide) (Nat.le_of_ble_eq_true rfl) (by decide) (by decide) (q := 27) rfl ?_
  intro v4 vm4 T4 h4 l4 X4 R4 q4
  obtain ⟨rfl, e4⟩ := q4
  have e4 := e4.symm
  subst e4
  show Goes p e below _ T4 (mkF m 27 #[.val (.ref sb), .val (.int (Int32.ofNat nd)), .val (.int (Int32.ofNat cap))] [(.int (Int32.ofNat (max nd (2 * cap + 2)))), (.ref va), (.ref sb)])
  refine o_aloadN X4 d_jdk_68_method_9_27 rfl rfl (q := 28) rfl ?_
  have f5 := F_coder
  refine o_getF X4 f5 (host := "") (Or.inl (w54 hw)) Via.refl d_jdk_68_method_9_28 (q := 31) rfl ?_
  intro T6 X6
  refine o_ishl X6 d_jdk_68_method_9_31 (w := (Int32.ofNat (2 * (max nd (2 * cap + 2))))) (own_shl1 (by omega)) (q := 32) rfl ?_
  have f7 := Vv
  refine o_stat X6 [(.ref va), (.int (Int32.ofNat (2 * (max nd (2 * cap + 2)))))] (y' := (⟨"java/util/Arrays", "copyOf", "([BI)[B"⟩ : MethodName)) (c_cpo hw va (2 * max nd (2 * cap + 2)) (2 * cap) _ f7 (by omega) (by omega) (by rw [own_wlen]; omega)) all0 (w216 hw) (w217 hw) (w127 hw) (w218 hw) (by decide) d_jdk_68_method_9_32 (rest := [(.ref sb)]) rfl rfl (lenOf pd22 rfl) rfl (by decide) (Nat.le_of_ble_eq_true rfl) (by decide) (by decide) (q := 35) rfl ?_
  intro v8 vm8 T8 h8 l8 X8 R8 q8
  obtain ⟨b8, kb8, rfl, K8, g8, s8, V8⟩ := q8
  show Goes p e below _ T8 (mkF m 35 #[.val (.ref sb), .val (.int (Int32.ofNat nd)), .val (.int (Int32.ofNat cap))] [(.ref b8), (.ref sb)])
  have f9 := (F_value.keep K8 nin0)
  have f10 := (E.keep K8)
  refine o_putF X8 f9 f10 gs (Safe.exa X8.alike f10 (by decide) (by decide)) (host := "") (Or.inl (w52 hw)) Via.refl (Or.inl (w53 hw)) (w39 hw) (ty := (.array .byte)) (by decide) rfl rfl d_jdk_68_method_9_35 (q := 38) rfl ?_
  intro T11 h11 l11 X11 W11 R11 F11
  have sz12 := Nat.le_trans (Keep.refl h0 [sb]).1 g8
  have k13 := Keep.trans (Keep.refl h0 [sb]) K8 all0
  have k14 := Keep.wr k13 W11 (Or.inl (by simp))
  have f15 := (CHr.safe R11 (V8.lt) s8)
  have f16 := ((f5.keep K8 nin0).other W11 (Or.inr (slot_ne (Or.inl (w55 hw)) (Or.inl (w53 hw)) (by decide) (t := .byte) (t' := (.array .byte)) (by decide) (by decide))))
  have f17 := ((F_count.keep K8 nin0).other W11 (Or.inr (slot_ne (Or.inl (w69 hw)) (Or.inl (w53 hw)) (by decide) (t := .int) (t' := (.array .byte)) (by decide) (by decide))))
  have f18 := ((F_maybeLatin1.keep K8 nin0).other W11 (Or.inr (slot_ne (Or.inl (w280 hw)) (Or.inl (w53 hw)) (by decide) (t := .boolean) (t' := (.array .byte)) (by decide) (by decide))))
  have f19 := (V8.other W11 (Ne.symm (Nat.ne_of_lt (Nat.lt_of_lt_of_le f5.lt g8))))
  exact o_ret X11 d_jdk_68_method_9_38 (fun Sf hSf => ⟨rfl, k14, b8, kb8, sz12, hSf _ (Nat.lt_of_lt_of_le V8.lt (Keep.of_wr W11).1) f15, F11, f16, f17, f18, f19⟩) (by decide) (by decide)
set_option maxRecDepth 65536 in
set_option maxHeartbeats 40000000 in
theorem c_uinf {l : Launch} {Z : State} {a0 : Array Value} (hw : W a0 Z) (sa b : Addr) (ds xs : List Int32) (mm N : Nat) (h0 : Heap) {fm : Value} (O4 : Sta Z Z.heap "jdk/internal/util/Preconditions" "SIOOBE_FORMATTER" "Ljava/util/function/BiFunction;" fm) (rfm : fm.isRef = true) (SA : Sta Z Z.heap "java/lang/StringUTF16" "$assertionsDisabled" "Z" (.int (1 : Int32))) (SH : Sta Z Z.heap "java/lang/StringUTF16" "HI_BYTE_SHIFT" "I" (.int (0 : Int32))) (SL : Sta Z Z.heap "java/lang/StringUTF16" "LO_BYTE_SHIFT" "I" (.int (8 : Int32))) {ks kb : ClassId} (Vs : Arv Z h0 sa ks .byte (Int32.ofNat N) (LB xs) (.int (0 : Int32))) (Vb : Arv Z h0 b kb .byte (Int32.ofNat (2 * mm)) (StrChars.Road.wideBytes ds) (.int (0 : Int32))) (gb : Z.heap.size ≤ b) (hne : sa ≠ b) (hl : ∀ c ∈ xs, ¬ c < 0 ∧ ¬ (255 : Int32) < c) (hm : ds.length + xs.length ≤ mm) (hm2 : mm ≤ 404) (hx : xs.length ≤ N) (hx2 : N ≤ 808) :
    Con l Z EL0 (⟨"java/lang/StringUTF16", "inflate", "([BI[BII)V"⟩ : MethodName) jdk_52_method_86_code 6 none ({ frames := 3, cells := 0, slots := 0, locals := 43 } : Room) #[(.ref sa), (.int (0 : Int32)), (.ref b), (.int (Int32.ofNat ds.length)), (.int (Int32.ofNat xs.length))] h0 [b] (fun v h' Sf => v = none ∧ Keep h0 h' [b] ∧ Arv Z h' b kb .byte (Int32.ofNat (2 * mm)) (StrChars.Road.wideBytes (ds ++ xs)) (.int (0 : Int32))) := by
  have hpn : plainName "java/lang/StringUTF16" = true := by first | (simp [plainName, overriddenIn]; done) | decide +kernel
  refine Con.intro (plainFor_of_name hpn) ?_
  intro p e s m below meth c T X hss
  have S_b := hss b (by simp)
  refine Goes.cast (g' := mkF m 0 #[.val (.ref sa), .val (.int (0 : Int32)), .val (.ref b), .val (.int (Int32.ofNat ds.length)), .val (.int (Int32.ofNat xs.length)), .unset] []) (by first | (simp [entryFrame, mkF, argsToLocals, Value.category]; done) | rfl) ?_
  refine o_iloadN X d_jdk_52_method_86_0 rfl (q := 1) rfl ?_
  refine o_iload X d_jdk_52_method_86_1 rfl (q := 3) rfl ?_
  refine o_aloadN X d_jdk_52_method_86_3 rfl rfl (q := 4) rfl ?_
  refine o_stat X [(.int (Int32.ofNat ds.length)), (.int (Int32.ofNat xs.length)), (.ref b)] (y' := (⟨"java/lang/StringUTF16", "checkBoundsOffCount", "(II[B)V"⟩ : MethodName)) (c_ucbo hw b ds.length xs.length mm _ O4 rfm Vb (by omega) (by omega)) all0 (w249 hw) (w250 hw) (w174 hw) (w251 hw) (by decide) d_jdk_52_method_86_4 (rest := []) rfl rfl (lenOf pd18 rfl) rfl (by decide) (Nat.le_of_ble_eq_true rfl) (by decide) (by decide) (q := 7) rfl ?_
  intro v1 vm1 T1 h1 l1 X1 R1 q1
  obtain ⟨rfl, e1⟩ := q1
  have e1 := e1.symm
  subst e1
  show Goes p e below _ T1 (mkF m 7 #[.val (.ref sa), .val (.int (0 : Int32)), .val (.ref b), .val (.int (Int32.ofNat ds.length)), .val (.int (Int32.ofNat xs.length)), .unset] [])
  refine o_iconst X1 d_jdk_52_method_86_7 (w := 0) rfl (q := 8) rfl ?_
  refine o_istore X1 d_jdk_52_method_86_8 rfl (L' := #[.val (.ref sa), .val (.int (0 : Int32)), .val (.ref b), .val (.int (Int32.ofNat ds.length)), .val (.int (Int32.ofNat xs.length)), .val (.int (0 : Int32))]) rfl (q := 10) rfl ?_
  have f2 := Vs
  have f3 := Vb
  have f4 := (CHr.safe R1 (Vb.lt) S_b)
  have loop : ∀ (k i : Nat) {vm : Vm} {T : State} {h : Heap} {locs : List Loc}, i + k = xs.length → Keep h0 h [b] → Arv Z h sa ks .byte (Int32.ofNat N) (LB xs) (.int (0 : Int32)) → Arv Z h b kb .byte (Int32.ofNat (2 * mm)) (StrChars.Road.wideBytes (ds ++ xs.take i)) (.int (0 : Int32)) → Safe Z EL0 vm h b → On l Z EL0 p e ({ frames := 3, cells := 0, slots := 0, locals := 43 } : Room) s m #[(.ref sa), (.int (0 : Int32)), (.ref b), (.int (Int32.ofNat ds.length)), (.int (Int32.ofNat xs.length))] below meth c (⟨"java/lang/StringUTF16", "inflate", "([BI[BII)V"⟩ : MethodName) jdk_52_method_86_code 6 none vm T h locs 0 0 → Goes p e below (FinQ Z EL0 s (fun v h' Sf => v = none ∧ Keep h0 h' [b] ∧ Arv Z h' b kb .byte (Int32.ofNat (2 * mm)) (StrChars.Road.wideBytes (ds ++ xs)) (.int (0 : Int32))) (({ frames := 3, cells := 0, slots := 0, locals := 43 } : Room)).cells (({ frames := 3, cells := 0, slots := 0, locals := 43 } : Room)).slots) T (mkF m 10 #[.val (.ref sa), .val (.int (Int32.ofNat i)), .val (.ref b), .val (.int (Int32.ofNat (ds.length + i))), .val (.int (Int32.ofNat xs.length)), .val (.int (Int32.ofNat i))] []) := by
    intro k
    induction k with
    | zero =>
      intro i vm T h locs hi Kp Vs Vb Sb X
      obtain rfl : i = xs.length := by omega
      rw [List.take_length] at Vb
      refine o_iload X d_jdk_52_method_86_10 rfl (q := 12) rfl ?_
      refine o_iload X d_jdk_52_method_86_12 rfl (q := 14) rfl ?_
      refine o_icmpY X d_jdk_52_method_86_14 (flt (fun q => absurd ((n_lt (by omega) (by omega)).mp q) (by omega))).2.1 (by decide) (q := 41) (by decide) ?_
      exact o_ret X d_jdk_52_method_86_41 (fun Sf hSf => ⟨rfl, Kp, Vb⟩) (by decide) (by decide)
    | succ k ih =>
      intro i vm T h locs hi Kp Vs Vb Sb X
      refine o_iload X d_jdk_52_method_86_10 rfl (q := 12) rfl ?_
      refine o_iload X d_jdk_52_method_86_12 rfl (q := 14) rfl ?_
      refine o_icmpN X d_jdk_52_method_86_14 (tlt ((n_lt (by omega) (by omega)).mpr (by omega))).2.1 (q := 17) rfl ?_
      refine o_aloadN X d_jdk_52_method_86_17 rfl rfl (q := 18) rfl ?_
      refine o_iloadN X d_jdk_52_method_86_18 rfl (q := 19) rfl ?_
      refine o_iinc X d_jdk_52_method_86_19 rfl (z := (Int32.ofNat ((ds.length + i) + 1))) (n_add _ _) (L' := #[.val (.ref sa), .val (.int (Int32.ofNat i)), .val (.ref b), .val (.int (Int32.ofNat ((ds.length + i) + 1))), .val (.int (Int32.ofNat xs.length)), .val (.int (Int32.ofNat i))]) rfl (q := 22) rfl ?_
      refine o_aloadN X d_jdk_52_method_86_22 rfl rfl (q := 23) rfl ?_
      refine o_iloadN X d_jdk_52_method_86_23 rfl (q := 24) rfl ?_
      refine o_iinc X d_jdk_52_method_86_24 rfl (z := (Int32.ofNat (i + 1))) (n_add _ _) (L' := #[.val (.ref sa), .val (.int (Int32.ofNat (i + 1))), .val (.ref b), .val (.int (Int32.ofNat ((ds.length + i) + 1))), .val (.int (Int32.ofNat xs.length)), .val (.int (Int32.ofNat i))]) rfl (q := 27) rfl ?_
      refine o_baload X Vs (n_in (by omega) (by omega)) (v := .int (xs.getD i 0).toInt8.toInt32) (n_get (by omega) (by omega)) d_jdk_52_method_86_27 (q := 28) rfl ?_
      refine o_sipush X d_jdk_52_method_86_28 (w := 255) rfl (q := 31) rfl ?_
      refine o_iand X d_jdk_52_method_86_31 (w := (xs.getD i 0)) (own_m8 (hl _ (own_mem (by omega)))) (q := 32) rfl ?_
      have ei : (ds ++ xs.take i).length = ds.length + i := by rw [List.length_append, List.length_take]; omega
      refine o_stat X [(.ref b), (.int (Int32.ofNat (ds.length + i))), (.int (xs.getD i 0))] (y' := (⟨"java/lang/StringUTF16", "putChar", "([BII)V"⟩ : MethodName)) (by have q := c_put hw b (xs.getD i 0) (ds ++ xs.take i) mm _ SA SH SL Vb gb (by omega) (by omega) (l := l); rw [ei] at q; exact q) (allS ⟨Vb.lt, Sb⟩ all0) (w230 hw) (w231 hw) (w174 hw) (w232 hw) (by decide) d_jdk_52_method_86_32 (rest := []) rfl rfl (lenOf pd3 rfl) rfl (by decide) (Nat.le_of_ble_eq_true rfl) (by decide) (by decide) (q := 35) rfl ?_
      intro v5 vm5 T5 h5 l5 X5 R5 q5
      obtain ⟨rfl, K5, V5⟩ := q5
      show Goes p e below _ T5 (mkF m 35 #[.val (.ref sa), .val (.int (Int32.ofNat (i + 1))), .val (.ref b), .val (.int (Int32.ofNat ((ds.length + i) + 1))), .val (.int (Int32.ofNat xs.length)), .val (.int (Int32.ofNat i))] [])
      rw [List.append_assoc, own_take1 (by omega)] at V5
      refine o_iinc X5 d_jdk_52_method_86_35 rfl (z := (Int32.ofNat (i + 1))) (n_add _ _) (L' := #[.val (.ref sa), .val (.int (Int32.ofNat (i + 1))), .val (.ref b), .val (.int (Int32.ofNat ((ds.length + i) + 1))), .val (.int (Int32.ofNat xs.length)), .val (.int (Int32.ofNat (i + 1)))]) rfl (q := 38) rfl ?_
      refine o_goto X5 d_jdk_52_method_86_38 (by decide) (q := 10) (by decide) ?_
      have k6 := Keep.trans (Keep.refl h [b]) K5 (allS (Or.inl (by simp)) all0)
      have f7 := (Vs.keep K5 (ninS hne nin0))
      have f8 := (CHr.safe R5 (Vb.lt) Sb)
      exact ih (i + 1) (by omega) (Keep.trans Kp k6 (allS (Or.inl (by simp)) all0)) f7 V5 f8 X5
  exact loop xs.length 0 (by omega) (Keep.refl _ _) f2 (by rw [List.take_zero, List.append_nil]; exact f3) f4 X1
set_option maxRecDepth 65536 in
set_option maxHeartbeats 40000000 in
theorem c_linf {l : Launch} {Z : State} {a0 : Array Value} (hw : W a0 Z) (sa b : Addr) (ds xs : List Int32) (mm N : Nat) (h0 : Heap) {fm : Value} (O4 : Sta Z Z.heap "jdk/internal/util/Preconditions" "SIOOBE_FORMATTER" "Ljava/util/function/BiFunction;" fm) (rfm : fm.isRef = true) (SA : Sta Z Z.heap "java/lang/StringUTF16" "$assertionsDisabled" "Z" (.int (1 : Int32))) (SH : Sta Z Z.heap "java/lang/StringUTF16" "HI_BYTE_SHIFT" "I" (.int (0 : Int32))) (SL : Sta Z Z.heap "java/lang/StringUTF16" "LO_BYTE_SHIFT" "I" (.int (8 : Int32))) {ks kb : ClassId} (Vs : Arv Z h0 sa ks .byte (Int32.ofNat N) (LB xs) (.int (0 : Int32))) (Vb : Arv Z h0 b kb .byte (Int32.ofNat (2 * mm)) (StrChars.Road.wideBytes ds) (.int (0 : Int32))) (gb : Z.heap.size ≤ b) (hne : sa ≠ b) (hl : ∀ c ∈ xs, ¬ c < 0 ∧ ¬ (255 : Int32) < c) (hm : ds.length + xs.length ≤ mm) (hm2 : mm ≤ 404) (hx : xs.length ≤ N) (hx2 : N ≤ 808) :
    Con l Z EL0 (⟨"java/lang/StringLatin1", "inflate", "([BI[BII)V"⟩ : MethodName) jdk_43_method_50_code 5 none ({ frames := 4, cells := 0, slots := 0, locals := 60 } : Room) #[(.ref sa), (.int (0 : Int32)), (.ref b), (.int (Int32.ofNat ds.length)), (.int (Int32.ofNat xs.length))] h0 [b] (fun v h' Sf => v = none ∧ Keep h0 h' [b] ∧ Arv Z h' b kb .byte (Int32.ofNat (2 * mm)) (StrChars.Road.wideBytes (ds ++ xs)) (.int (0 : Int32))) := by
  have hpn : plainName "java/lang/StringLatin1" = true := by first | (simp [plainName, overriddenIn]; done) | decide +kernel
  refine Con.intro (plainFor_of_name hpn) ?_
  intro p e s m below meth c T X hss
  have S_b := hss b (by simp)
  refine Goes.cast (g' := mkF m 0 #[.val (.ref sa), .val (.int (0 : Int32)), .val (.ref b), .val (.int (Int32.ofNat ds.length)), .val (.int (Int32.ofNat xs.length))] []) (by first | (simp [entryFrame, mkF, argsToLocals, Value.category]; done) | rfl) ?_
  refine o_aloadN X d_jdk_43_method_50_0 rfl rfl (q := 1) rfl ?_
  refine o_iloadN X d_jdk_43_method_50_1 rfl (q := 2) rfl ?_
  refine o_aloadN X d_jdk_43_method_50_2 rfl rfl (q := 3) rfl ?_
  refine o_iloadN X d_jdk_43_method_50_3 rfl (q := 4) rfl ?_
  refine o_iload X d_jdk_43_method_50_4 rfl (q := 6) rfl ?_
  refine o_stat X [(.ref sa), (.int (0 : Int32)), (.ref b), (.int (Int32.ofNat ds.length)), (.int (Int32.ofNat xs.length))] (y' := (⟨"java/lang/StringUTF16", "inflate", "([BI[BII)V"⟩ : MethodName)) (c_uinf hw sa b ds xs mm N _ O4 rfm SA SH SL Vs Vb gb hne hl hm hm2 hx hx2) (allS ⟨Vb.lt, S_b⟩ all0) (w275 hw) (w276 hw) (w174 hw) (w277 hw) (by decide) d_jdk_43_method_50_6 (rest := []) rfl rfl (lenOf pd23 rfl) rfl (by decide) (Nat.le_of_ble_eq_true rfl) (by decide) (by decide) (q := 9) rfl ?_
  intro v1 vm1 T1 h1 l1 X1 R1 q1
  obtain ⟨rfl, K1, V1⟩ := q1
  show Goes p e below _ T1 (mkF m 9 #[.val (.ref sa), .val (.int (0 : Int32)), .val (.ref b), .val (.int (Int32.ofNat ds.length)), .val (.int (Int32.ofNat xs.length))] [])
  have k2 := Keep.trans (Keep.refl h0 [b]) K1 (allS (Or.inl (by simp)) all0)
  exact o_ret X1 d_jdk_43_method_50_9 (fun Sf hSf => ⟨rfl, k2, V1⟩) (by decide) (by decide)
set_option maxRecDepth 65536 in
set_option maxHeartbeats 40000000 in
theorem c_aLat0 {l : Launch} {Z : State} {a0 : Array Value} (hw : W a0 Z) (sb : Addr) (h0 : Heap) {zc : Int32} (O2 : Sta Z Z.heap "java/lang/String" "COMPACT_STRINGS" "Z" (.int zc)) (P5 : ¬ zc = 0) (Fc : Fld Z h0 sb "java/lang/AbstractStringBuilder" "coder" "B" (.int (0 : Int32))) :
    Con l Z EL0 (⟨"java/lang/AbstractStringBuilder", "isLatin1", "()Z"⟩ : MethodName) jdk_68_method_68_code 1 (some .boolean) ({ frames := 0, cells := 0, slots := 0, locals := 0 } : Room) #[(.ref sb)] h0 [] (fun v h' Sf => v = some (.int (1 : Int32)) ∧ h' = h0) := by
  have hpn : plainName "java/lang/AbstractStringBuilder" = true := by first | (simp [plainName, overriddenIn]; done) | decide +kernel
  refine Con.intro (plainFor_of_name hpn) ?_
  intro p e s m below meth c T X hss
  refine Goes.cast (g' := mkF m 0 #[.val (.ref sb)] []) (by first | (simp [entryFrame, mkF, argsToLocals, Value.category]; done) | rfl) ?_
  refine o_getS X O2 (host := "") (Or.inl (w51 hw)) Via.refl d_jdk_68_method_68_0 (q := 3) rfl ?_
  intro T1 X1
  refine o_ifN X1 d_jdk_68_method_68_3 (feq P5).1 (q := 6) rfl ?_
  refine o_aloadN X1 d_jdk_68_method_68_6 rfl rfl (q := 7) rfl ?_
  refine o_getF X1 Fc (host := "") (Or.inl (w54 hw)) Via.refl d_jdk_68_method_68_7 (q := 10) rfl ?_
  intro T2 X2
  refine o_ifN X2 d_jdk_68_method_68_10 (by decide) (q := 13) rfl ?_
  refine o_iconst X2 d_jdk_68_method_68_13 (w := 1) rfl (q := 14) rfl ?_
  refine o_goto X2 d_jdk_68_method_68_14 (by decide) (q := 18) (by decide) ?_
  exact o_retN X2 d_jdk_68_method_68_18 (by simp) (fun Sf hSf => ⟨rfl, rfl⟩) (by decide) (by decide)
set_option maxRecDepth 65536 in
set_option maxHeartbeats 40000000 in
theorem c_aLat1 {l : Launch} {Z : State} {a0 : Array Value} (hw : W a0 Z) (sb : Addr) (h0 : Heap) {zc : Int32} (O2 : Sta Z Z.heap "java/lang/String" "COMPACT_STRINGS" "Z" (.int zc)) (P5 : ¬ zc = 0) (Fc : Fld Z h0 sb "java/lang/AbstractStringBuilder" "coder" "B" (.int (1 : Int32))) :
    Con l Z EL0 (⟨"java/lang/AbstractStringBuilder", "isLatin1", "()Z"⟩ : MethodName) jdk_68_method_68_code 1 (some .boolean) ({ frames := 0, cells := 0, slots := 0, locals := 0 } : Room) #[(.ref sb)] h0 [] (fun v h' Sf => v = some (.int (0 : Int32)) ∧ h' = h0) := by
  have hpn : plainName "java/lang/AbstractStringBuilder" = true := by first | (simp [plainName, overriddenIn]; done) | decide +kernel
  refine Con.intro (plainFor_of_name hpn) ?_
  intro p e s m below meth c T X hss
  refine Goes.cast (g' := mkF m 0 #[.val (.ref sb)] []) (by first | (simp [entryFrame, mkF, argsToLocals, Value.category]; done) | rfl) ?_
  refine o_getS X O2 (host := "") (Or.inl (w51 hw)) Via.refl d_jdk_68_method_68_0 (q := 3) rfl ?_
  intro T1 X1
  refine o_ifN X1 d_jdk_68_method_68_3 (feq P5).1 (q := 6) rfl ?_
  refine o_aloadN X1 d_jdk_68_method_68_6 rfl rfl (q := 7) rfl ?_
  refine o_getF X1 Fc (host := "") (Or.inl (w54 hw)) Via.refl d_jdk_68_method_68_7 (q := 10) rfl ?_
  intro T2 X2
  refine o_ifY X2 d_jdk_68_method_68_10 (by decide) (by decide) (q := 17) (by decide) ?_
  refine o_iconst X2 d_jdk_68_method_68_17 (w := 0) rfl (q := 18) rfl ?_
  exact o_retN X2 d_jdk_68_method_68_18 (by simp) (fun Sf hSf => ⟨rfl, rfl⟩) (by decide) (by decide)
set_option maxRecDepth 65536 in
set_option maxHeartbeats 40000000 in
theorem c_infl {l : Launch} {Z : State} {a0 : Array Value} (hw : W a0 Z) (sb va : Addr) (cap : Nat) (ys : List Int32) (h0 : Heap) {zc : Int32} (O2 : Sta Z Z.heap "java/lang/String" "COMPACT_STRINGS" "Z" (.int zc)) (P5 : ¬ zc = 0) {fm : Value} (O4 : Sta Z Z.heap "jdk/internal/util/Preconditions" "SIOOBE_FORMATTER" "Ljava/util/function/BiFunction;" fm) (rfm : fm.isRef = true) (SA : Sta Z Z.heap "java/lang/StringUTF16" "$assertionsDisabled" "Z" (.int (1 : Int32))) (SH : Sta Z Z.heap "java/lang/StringUTF16" "HI_BYTE_SHIFT" "I" (.int (0 : Int32))) (SL : Sta Z Z.heap "java/lang/StringUTF16" "LO_BYTE_SHIFT" "I" (.int (8 : Int32))) (E : Exa Z h0 sb "java/lang/StringBuilder") (gs : Z.heap.size ≤ sb) (F_value : Fld Z h0 sb "java/lang/AbstractStringBuilder" "value" "[B" (.ref va)) (F_coder : Fld Z h0 sb "java/lang/AbstractStringBuilder" "coder" "B" (.int (0 : Int32))) (F_count : Fld Z h0 sb "java/lang/AbstractStringBuilder" "count" "I" (.int (Int32.ofNat ys.length))) (F_maybeLatin1 : Fld Z h0 sb "java/lang/AbstractStringBuilder" "maybeLatin1" "Z" (.int (0 : Int32))) {kv : ClassId} (Vv : Arv Z h0 va kv .byte (Int32.ofNat cap) (LB ys) (.int (0 : Int32))) (gv : Z.heap.size ≤ va) (hsv : sb ≠ va) (hc : ys.length ≤ cap) (hcb : cap ≤ 404) (hyl : ∀ c ∈ ys, ¬ c < 0 ∧ ¬ (255 : Int32) < c) :
    Con l Z EL0 (⟨"java/lang/AbstractStringBuilder", "inflate", "()V"⟩ : MethodName) jdk_68_method_11_code 2 none ({ frames := 5, cells := 1, slots := 808, locals := 76 } : Room) #[(.ref sb)] h0 [] (fun v h' Sf => v = none ∧ Keep h0 h' [sb] ∧ ∃ (v2 : Addr) (k2 : ClassId), h0.size ≤ v2 ∧ Sf v2 ∧ Fld Z h' sb "java/lang/AbstractStringBuilder" "value" "[B" (.ref v2) ∧ Fld Z h' sb "java/lang/AbstractStringBuilder" "coder" "B" (.int (1 : Int32)) ∧ Fld Z h' sb "java/lang/AbstractStringBuilder" "count" "I" (.int (Int32.ofNat ys.length)) ∧ Fld Z h' sb "java/lang/AbstractStringBuilder" "maybeLatin1" "Z" (.int (0 : Int32)) ∧ Arv Z h' v2 k2 .byte (Int32.ofNat (2 * cap)) (StrChars.Road.wideBytes ys) (.int (0 : Int32))) := by
  have hpn : plainName "java/lang/AbstractStringBuilder" = true := by first | (simp [plainName, overriddenIn]; done) | decide +kernel
  refine Con.intro (plainFor_of_name hpn) ?_
  intro p e s m below meth c T X hss
  refine Goes.cast (g' := mkF m 0 #[.val (.ref sb), .unset] []) (by first | (simp [entryFrame, mkF, argsToLocals, Value.category]; done) | rfl) ?_
  refine o_aloadN X d_jdk_68_method_11_0 rfl rfl (q := 1) rfl ?_
  refine o_virt X [] (y' := (⟨"java/lang/AbstractStringBuilder", "isLatin1", "()Z"⟩ : MethodName)) E (c_aLat0 hw sb _ O2 P5 F_coder) all0 (w270 hw) (w121 hw) (w123 hw) (w122 hw) (w124 hw) (w48 hw) (by decide) d_jdk_68_method_11_1 (rest := []) rfl rfl (lenOf pd14 rfl) rfl (by decide) (Nat.le_of_ble_eq_true rfl) (by decide) (by decide) (q := 4) rfl ?_
  intro v1 vm1 T1 h1 l1 X1 R1 q1
  obtain ⟨rfl, e1⟩ := q1
  have e1 := e1.symm
  subst e1
  show Goes p e below _ T1 (mkF m 4 #[.val (.ref sb), .unset] [(.int (1 : Int32))])
  refine o_ifY X1 d_jdk_68_method_11_4 (by decide) (by decide) (q := 8) (by decide) ?_
  refine o_aloadN X1 d_jdk_68_method_11_8 rfl rfl (q := 9) rfl ?_
  have f2 := F_value
  refine o_getF X1 f2 (host := "") (Or.inl (w52 hw)) Via.refl d_jdk_68_method_11_9 (q := 12) rfl ?_
  intro T3 X3
  have f4 := Vv
  refine o_len X3 f4 d_jdk_68_method_11_12 (q := 13) rfl ?_
  refine o_stat X3 [(.int (Int32.ofNat cap))] (y' := (⟨"java/lang/StringUTF16", "newBytesFor", "(I)[B"⟩ : MethodName)) (c_nbf8 hw cap _ (by omega) (by omega)) all0 (w271 hw) (w224 hw) (w174 hw) (w225 hw) (by decide) d_jdk_68_method_11_13 (rest := []) rfl rfl (lenOf pd2 rfl) rfl (by decide) (Nat.le_of_ble_eq_true rfl) (by decide) (by decide) (q := 16) rfl ?_
  intro v5 vm5 T5 h5 l5 X5 R5 q5
  obtain ⟨b5, kb5, rfl, K5, g5, s5, V5⟩ := q5
  show Goes p e below _ T5 (mkF m 16 #[.val (.ref sb), .unset] [(.ref b5)])
  refine o_astoreN X5 d_jdk_68_method_11_16 rfl (L' := #[.val (.ref sb), .val (.ref b5)]) rfl (q := 17) rfl ?_
  refine o_aloadN X5 d_jdk_68_method_11_17 rfl rfl (q := 18) rfl ?_
  have f6 := (f2.keep K5 nin0)
  refine o_getF X5 f6 (host := "") (Or.inl (w52 hw)) Via.refl d_jdk_68_method_11_18 (q := 21) rfl ?_
  intro T7 X7
  refine o_iconst X7 d_jdk_68_method_11_21 (w := 0) rfl (q := 22) rfl ?_
  refine o_aloadN X7 d_jdk_68_method_11_22 rfl rfl (q := 23) rfl ?_
  refine o_iconst X7 d_jdk_68_method_11_23 (w := 0) rfl (q := 24) rfl ?_
  refine o_aloadN X7 d_jdk_68_method_11_24 rfl rfl (q := 25) rfl ?_
  have f8 := (F_count.keep K5 nin0)
  refine o_getF X7 f8 (host := "") (Or.inl (w68 hw)) Via.refl d_jdk_68_method_11_25 (q := 28) rfl ?_
  intro T9 X9
  have f10 := (f4.keep K5 nin0)
  refine o_stat X9 [(.ref va), (.int (0 : Int32)), (.ref b5), (.int (0 : Int32)), (.int (Int32.ofNat ys.length))] (y' := (⟨"java/lang/StringLatin1", "inflate", "([BI[BII)V"⟩ : MethodName)) (c_linf hw va b5 [] ys cap cap _ O4 rfm SA SH SL f10 V5 (Nat.le_trans X3.size g5) (Nat.ne_of_lt (Nat.lt_of_lt_of_le f4.lt g5)) hyl (by simp; omega) hcb hc (by omega)) (allS ⟨V5.lt, s5⟩ all0) (w272 hw) (w273 hw) (w158 hw) (w274 hw) (by decide) d_jdk_68_method_11_28 (rest := []) rfl rfl (lenOf pd23 rfl) rfl (by decide) (Nat.le_of_ble_eq_true rfl) (by decide) (by decide) (q := 31) rfl ?_
  intro v11 vm11 T11 h11 l11 X11 R11 q11
  obtain ⟨rfl, K11, V11⟩ := q11
  show Goes p e below _ T11 (mkF m 31 #[.val (.ref sb), .val (.ref b5)] [])
  refine o_aloadN X11 d_jdk_68_method_11_31 rfl rfl (q := 32) rfl ?_
  refine o_aloadN X11 d_jdk_68_method_11_32 rfl rfl (q := 33) rfl ?_
  have f12 := (f6.keep K11 (ninS (Nat.ne_of_lt (Nat.lt_of_lt_of_le f2.lt g5)) nin0))
  have f13 := ((E.keep K5).keep K11)
  refine o_putF X11 f12 f13 gs (Safe.exa X11.alike f13 (by decide) (by decide)) (host := "") (Or.inl (w52 hw)) Via.refl (Or.inl (w53 hw)) (w39 hw) (ty := (.array .byte)) (by decide) rfl rfl d_jdk_68_method_11_33 (q := 36) rfl ?_
  intro T14 h14 l14 X14 W14 R14 F14
  refine o_aloadN X14 d_jdk_68_method_11_36 rfl rfl (q := 37) rfl ?_
  refine o_iconst X14 d_jdk_68_method_11_37 (w := 1) rfl (q := 38) rfl ?_
  have f15 := (((F_coder.keep K5 nin0).keep K11 (ninS (Nat.ne_of_lt (Nat.lt_of_lt_of_le f2.lt g5)) nin0)).other W14 (Or.inr (slot_ne (Or.inl (w55 hw)) (Or.inl (w53 hw)) (by decide) (t := .byte) (t' := (.array .byte)) (by decide) (by decide))))
  have f16 := (f13.wr W14)
  refine o_putF X14 f15 f16 gs (Safe.exa X14.alike f16 (by decide) (by decide)) (host := "") (Or.inl (w54 hw)) Via.refl (Or.inl (w55 hw)) (w39 hw) (ty := .byte) (by decide) (by decide) (by decide) d_jdk_68_method_11_38 (q := 41) rfl ?_
  intro T17 h17 l17 X17 W17 R17 F17
  have sz18 := Nat.le_trans (Keep.refl h0 [sb]).1 g5
  have k19 := Keep.trans (Keep.refl h0 [sb]) K5 all0
  have k20 := Keep.trans k19 K11 (allS (Or.inr sz18) all0)
  have k21 := Keep.wr k20 W14 (Or.inl (by simp))
  have k22 := Keep.wr k21 W17 (Or.inl (by simp))
  have f23 := (CHr.safe R17 ((Nat.lt_of_lt_of_le V11.lt (Keep.of_wr W14).1)) (CHr.safe R14 (V11.lt) (CHr.safe R11 (V5.lt) s5)))
  have f24 := (F14.other W17 (Or.inr (slot_ne (Or.inl (w53 hw)) (Or.inl (w55 hw)) (by decide) (t := (.array .byte)) (t' := .byte) (by decide) (by decide))))
  have f25 := (((f8.keep K11 (ninS (Nat.ne_of_lt (Nat.lt_of_lt_of_le f2.lt g5)) nin0)).other W14 (Or.inr (slot_ne (Or.inl (w69 hw)) (Or.inl (w53 hw)) (by decide) (t := .int) (t' := (.array .byte)) (by decide) (by decide)))).other W17 (Or.inr (slot_ne (Or.inl (w69 hw)) (Or.inl (w55 hw)) (by decide) (t := .int) (t' := .byte) (by decide) (by decide))))
  have f26 := ((((F_maybeLatin1.keep K5 nin0).keep K11 (ninS (Nat.ne_of_lt (Nat.lt_of_lt_of_le f2.lt g5)) nin0)).other W14 (Or.inr (slot_ne (Or.inl (w280 hw)) (Or.inl (w53 hw)) (by decide) (t := .boolean) (t' := (.array .byte)) (by decide) (by decide)))).other W17 (Or.inr (slot_ne (Or.inl (w280 hw)) (Or.inl (w55 hw)) (by decide) (t := .boolean) (t' := .byte) (by decide) (by decide))))
  have f27 := ((V11.other W14 (Ne.symm (Nat.ne_of_lt (Nat.lt_of_lt_of_le f2.lt g5)))).other W17 (Ne.symm (Nat.ne_of_lt (Nat.lt_of_lt_of_le f2.lt g5))))
  exact o_ret X17 d_jdk_68_method_11_41 (fun Sf hSf => ⟨rfl, k22, b5, kb5, sz18, hSf _ (Nat.lt_of_lt_of_le (Nat.lt_of_lt_of_le V11.lt (Keep.of_wr W14).1) (Keep.of_wr W17).1) f23, f24, F17, f25, f26, f27⟩) (by decide) (by decide)
set_option maxRecDepth 65536 in
set_option maxHeartbeats 40000000 in
theorem c_inflU {l : Launch} {Z : State} {a0 : Array Value} (hw : W a0 Z) (sb va : Addr) (ys : List Int32) (h0 : Heap) {zc : Int32} (O2 : Sta Z Z.heap "java/lang/String" "COMPACT_STRINGS" "Z" (.int zc)) (P5 : ¬ zc = 0) (E : Exa Z h0 sb "java/lang/StringBuilder") (gs : Z.heap.size ≤ sb) (F_value : Fld Z h0 sb "java/lang/AbstractStringBuilder" "value" "[B" (.ref va)) (F_coder : Fld Z h0 sb "java/lang/AbstractStringBuilder" "coder" "B" (.int (1 : Int32))) (F_count : Fld Z h0 sb "java/lang/AbstractStringBuilder" "count" "I" (.int (Int32.ofNat ys.length))) (F_maybeLatin1 : Fld Z h0 sb "java/lang/AbstractStringBuilder" "maybeLatin1" "Z" (.int (0 : Int32))) :
    Con l Z EL0 (⟨"java/lang/AbstractStringBuilder", "inflate", "()V"⟩ : MethodName) jdk_68_method_11_code 2 none ({ frames := 1, cells := 0, slots := 0, locals := 12 } : Room) #[(.ref sb)] h0 [] (fun v h' Sf => v = none ∧ h' = h0) := by
  have hpn : plainName "java/lang/AbstractStringBuilder" = true := by first | (simp [plainName, overriddenIn]; done) | decide +kernel
  refine Con.intro (plainFor_of_name hpn) ?_
  intro p e s m below meth c T X hss
  refine Goes.cast (g' := mkF m 0 #[.val (.ref sb), .unset] []) (by first | (simp [entryFrame, mkF, argsToLocals, Value.category]; done) | rfl) ?_
  refine o_aloadN X d_jdk_68_method_11_0 rfl rfl (q := 1) rfl ?_
  refine o_virt X [] (y' := (⟨"java/lang/AbstractStringBuilder", "isLatin1", "()Z"⟩ : MethodName)) E (c_aLat1 hw sb _ O2 P5 F_coder) all0 (w270 hw) (w121 hw) (w123 hw) (w122 hw) (w124 hw) (w48 hw) (by decide) d_jdk_68_method_11_1 (rest := []) rfl rfl (lenOf pd14 rfl) rfl (by decide) (Nat.le_of_ble_eq_true rfl) (by decide) (by decide) (q := 4) rfl ?_
  intro v1 vm1 T1 h1 l1 X1 R1 q1
  obtain ⟨rfl, e1⟩ := q1
  have e1 := e1.symm
  subst e1
  show Goes p e below _ T1 (mkF m 4 #[.val (.ref sb), .unset] [(.int (0 : Int32))])
  refine o_ifN X1 d_jdk_68_method_11_4 (by decide) (q := 7) rfl ?_
  exact o_ret X1 d_jdk_68_method_11_7 (fun Sf hSf => ⟨rfl, rfl⟩) (by decide) (by decide)
set_option maxRecDepth 65536 in
set_option maxHeartbeats 40000000 in
theorem c_ifn00 {l : Launch} {Z : State} {a0 : Array Value} (hw : W a0 Z) (sb va st tb : Addr) (cap : Nat) (ys xs : List Int32) (h0 : Heap) {zc : Int32} (O2 : Sta Z Z.heap "java/lang/String" "COMPACT_STRINGS" "Z" (.int zc)) (P5 : ¬ zc = 0) (E : Exa Z h0 sb "java/lang/StringBuilder") (gs : Z.heap.size ≤ sb) (F_value : Fld Z h0 sb "java/lang/AbstractStringBuilder" "value" "[B" (.ref va)) (F_coder : Fld Z h0 sb "java/lang/AbstractStringBuilder" "coder" "B" (.int (0 : Int32))) (F_count : Fld Z h0 sb "java/lang/AbstractStringBuilder" "count" "I" (.int (Int32.ofNat ys.length))) (F_maybeLatin1 : Fld Z h0 sb "java/lang/AbstractStringBuilder" "maybeLatin1" "Z" (.int (0 : Int32))) {kv : ClassId} (Vv : Arv Z h0 va kv .byte (Int32.ofNat cap) (LB ys) (.int (0 : Int32))) (gv : Z.heap.size ≤ va) (hsv : sb ≠ va) {kt : ClassId} (L : LS Z h0 st tb kt xs) :
    Con l Z EL0 (⟨"java/lang/AbstractStringBuilder", "inflateIfNeededFor", "(Ljava/lang/String;)V"⟩ : MethodName) jdk_68_method_71_code 2 none ({ frames := 1, cells := 0, slots := 0, locals := 13 } : Room) #[(.ref sb), (.ref st)] h0 [] (fun v h' Sf => v = none ∧ h' = h0) := by
  have hpn : plainName "java/lang/AbstractStringBuilder" = true := by first | (simp [plainName, overriddenIn]; done) | decide +kernel
  refine Con.intro (plainFor_of_name hpn) ?_
  intro p e s m below meth c T X hss
  refine Goes.cast (g' := mkF m 0 #[.val (.ref sb), .val (.ref st)] []) (by first | (simp [entryFrame, mkF, argsToLocals, Value.category]; done) | rfl) ?_
  refine o_getS X O2 (host := "") (Or.inl (w51 hw)) Via.refl d_jdk_68_method_71_0 (q := 3) rfl ?_
  intro T1 X1
  refine o_ifN X1 d_jdk_68_method_71_3 (feq P5).1 (q := 6) rfl ?_
  refine o_aloadN X1 d_jdk_68_method_71_6 rfl rfl (q := 7) rfl ?_
  refine o_getF X1 F_coder (host := "") (Or.inl (w54 hw)) Via.refl d_jdk_68_method_71_7 (q := 10) rfl ?_
  intro T2 X2
  refine o_aloadN X2 d_jdk_68_method_71_10 rfl rfl (q := 11) rfl ?_
  refine o_virt X2 [] (y' := (⟨"java/lang/String", "coder", "()B"⟩ : MethodName)) L.1 (c_coder0 hw st _ O2 P5 L.2.1) all0 (w85 hw) (w33 hw) (w35 hw) (w34 hw) (w36 hw) (w4 hw) (by decide) d_jdk_68_method_71_11 (rest := [(.int (0 : Int32))]) rfl rfl (lenOf pd24 rfl) rfl (by decide) (Nat.le_of_ble_eq_true rfl) (by decide) (by decide) (q := 14) rfl ?_
  intro v3 vm3 T3 h3 l3 X3 R3 q3
  obtain ⟨rfl, e3⟩ := q3
  have e3 := e3.symm
  subst e3
  show Goes p e below _ T3 (mkF m 14 #[.val (.ref sb), .val (.ref st)] [(.int (0 : Int32)), (.int (0 : Int32))])
  refine o_icmpY X3 d_jdk_68_method_71_14 (by decide) (by decide) (q := 21) (by decide) ?_
  exact o_ret X3 d_jdk_68_method_71_21 (fun Sf hSf => ⟨rfl, rfl⟩) (by decide) (by decide)
set_option maxRecDepth 65536 in
set_option maxHeartbeats 40000000 in
theorem c_ifn01 {l : Launch} {Z : State} {a0 : Array Value} (hw : W a0 Z) (sb va st tb : Addr) (cap : Nat) (ys xs : List Int32) (h0 : Heap) {zc : Int32} (O2 : Sta Z Z.heap "java/lang/String" "COMPACT_STRINGS" "Z" (.int zc)) (P5 : ¬ zc = 0) {fm : Value} (O4 : Sta Z Z.heap "jdk/internal/util/Preconditions" "SIOOBE_FORMATTER" "Ljava/util/function/BiFunction;" fm) (rfm : fm.isRef = true) (SA : Sta Z Z.heap "java/lang/StringUTF16" "$assertionsDisabled" "Z" (.int (1 : Int32))) (SH : Sta Z Z.heap "java/lang/StringUTF16" "HI_BYTE_SHIFT" "I" (.int (0 : Int32))) (SL : Sta Z Z.heap "java/lang/StringUTF16" "LO_BYTE_SHIFT" "I" (.int (8 : Int32))) (E : Exa Z h0 sb "java/lang/StringBuilder") (gs : Z.heap.size ≤ sb) (F_value : Fld Z h0 sb "java/lang/AbstractStringBuilder" "value" "[B" (.ref va)) (F_coder : Fld Z h0 sb "java/lang/AbstractStringBuilder" "coder" "B" (.int (0 : Int32))) (F_count : Fld Z h0 sb "java/lang/AbstractStringBuilder" "count" "I" (.int (Int32.ofNat ys.length))) (F_maybeLatin1 : Fld Z h0 sb "java/lang/AbstractStringBuilder" "maybeLatin1" "Z" (.int (0 : Int32))) {kv : ClassId} (Vv : Arv Z h0 va kv .byte (Int32.ofNat cap) (LB ys) (.int (0 : Int32))) (gv : Z.heap.size ≤ va) (hsv : sb ≠ va) {kt : ClassId} (H : HS Z h0 st tb kt xs) (hc : ys.length ≤ cap) (hcb : cap ≤ 404) (hyl : ∀ c ∈ ys, ¬ c < 0 ∧ ¬ (255 : Int32) < c) :
    Con l Z EL0 (⟨"java/lang/AbstractStringBuilder", "inflateIfNeededFor", "(Ljava/lang/String;)V"⟩ : MethodName) jdk_68_method_71_code 2 none ({ frames := 6, cells := 1, slots := 808, locals := 89 } : Room) #[(.ref sb), (.ref st)] h0 [] (fun v h' Sf => v = none ∧ Keep h0 h' [sb] ∧ ∃ (v2 : Addr) (k2 : ClassId), h0.size ≤ v2 ∧ Sf v2 ∧ Fld Z h' sb "java/lang/AbstractStringBuilder" "value" "[B" (.ref v2) ∧ Fld Z h' sb "java/lang/AbstractStringBuilder" "coder" "B" (.int (1 : Int32)) ∧ Fld Z h' sb "java/lang/AbstractStringBuilder" "count" "I" (.int (Int32.ofNat ys.length)) ∧ Fld Z h' sb "java/lang/AbstractStringBuilder" "maybeLatin1" "Z" (.int (0 : Int32)) ∧ Arv Z h' v2 k2 .byte (Int32.ofNat (2 * cap)) (StrChars.Road.wideBytes ys) (.int (0 : Int32))) := by
  have hpn : plainName "java/lang/AbstractStringBuilder" = true := by first | (simp [plainName, overriddenIn]; done) | decide +kernel
  refine Con.intro (plainFor_of_name hpn) ?_
  intro p e s m below meth c T X hss
  refine Goes.cast (g' := mkF m 0 #[.val (.ref sb), .val (.ref st)] []) (by first | (simp [entryFrame, mkF, argsToLocals, Value.category]; done) | rfl) ?_
  refine o_getS X O2 (host := "") (Or.inl (w51 hw)) Via.refl d_jdk_68_method_71_0 (q := 3) rfl ?_
  intro T1 X1
  refine o_ifN X1 d_jdk_68_method_71_3 (feq P5).1 (q := 6) rfl ?_
  refine o_aloadN X1 d_jdk_68_method_71_6 rfl rfl (q := 7) rfl ?_
  refine o_getF X1 F_coder (host := "") (Or.inl (w54 hw)) Via.refl d_jdk_68_method_71_7 (q := 10) rfl ?_
  intro T2 X2
  refine o_aloadN X2 d_jdk_68_method_71_10 rfl rfl (q := 11) rfl ?_
  refine o_virt X2 [] (y' := (⟨"java/lang/String", "coder", "()B"⟩ : MethodName)) H.1 (c_coder1 hw st _ O2 P5 H.2.1) all0 (w85 hw) (w33 hw) (w35 hw) (w34 hw) (w36 hw) (w4 hw) (by decide) d_jdk_68_method_71_11 (rest := [(.int (0 : Int32))]) rfl rfl (lenOf pd24 rfl) rfl (by decide) (Nat.le_of_ble_eq_true rfl) (by decide) (by decide) (q := 14) rfl ?_
  intro v3 vm3 T3 h3 l3 X3 R3 q3
  obtain ⟨rfl, e3⟩ := q3
  have e3 := e3.symm
  subst e3
  show Goes p e below _ T3 (mkF m 14 #[.val (.ref sb), .val (.ref st)] [(.int (1 : Int32)), (.int (0 : Int32))])
  refine o_icmpN X3 d_jdk_68_method_71_14 (by decide) (q := 17) rfl ?_
  refine o_aloadN X3 d_jdk_68_method_71_17 rfl rfl (q := 18) rfl ?_
  have f4 := E
  have f5 := F_value
  have f6 := F_coder
  have f7 := F_count
  have f8 := F_maybeLatin1
  have f9 := Vv
  refine o_priv X3 [] (y' := (⟨"java/lang/AbstractStringBuilder", "inflate", "()V"⟩ : MethodName)) f4 (c_infl hw sb va cap ys _ O2 P5 O4 rfm SA SH SL f4 gs f5 f6 f7 f8 f9 gv hsv hc hcb hyl) all0 (w265 hw) (w266 hw) (sel_up (w268 hw) (w266 hw) (w267 hw) (by decide)) (w267 hw) (w269 hw) (w48 hw) (by decide) d_jdk_68_method_71_18 (rest := []) rfl rfl (lenOf pd25 rfl) rfl (by decide) (Nat.le_of_ble_eq_true rfl) (by decide) (by decide) (q := 21) rfl ?_
  intro v10 vm10 T10 h10 l10 X10 R10 q10
  obtain ⟨rfl, K10, b10, kb10, g10, s10, Fvalue10, Fcoder10, Fcount10, FmaybeLatin110, V10⟩ := q10
  show Goes p e below _ T10 (mkF m 21 #[.val (.ref sb), .val (.ref st)] [])
  have sz11 := Nat.le_trans (Keep.refl h0 [sb]).1 g10
  have k12 := Keep.trans (Keep.refl h0 [sb]) K10 (allS (Or.inl (by simp)) all0)
  exact o_ret X10 d_jdk_68_method_71_21 (fun Sf hSf => ⟨rfl, k12, b10, kb10, sz11, hSf _ V10.lt s10, Fvalue10, Fcoder10, Fcount10, FmaybeLatin110, V10⟩) (by decide) (by decide)
set_option maxRecDepth 65536 in
set_option maxHeartbeats 40000000 in
theorem c_ifn10 {l : Launch} {Z : State} {a0 : Array Value} (hw : W a0 Z) (sb va st tb : Addr) (cap : Nat) (ys xs : List Int32) (h0 : Heap) {zc : Int32} (O2 : Sta Z Z.heap "java/lang/String" "COMPACT_STRINGS" "Z" (.int zc)) (P5 : ¬ zc = 0) (E : Exa Z h0 sb "java/lang/StringBuilder") (gs : Z.heap.size ≤ sb) (F_value : Fld Z h0 sb "java/lang/AbstractStringBuilder" "value" "[B" (.ref va)) (F_coder : Fld Z h0 sb "java/lang/AbstractStringBuilder" "coder" "B" (.int (1 : Int32))) (F_count : Fld Z h0 sb "java/lang/AbstractStringBuilder" "count" "I" (.int (Int32.ofNat ys.length))) (F_maybeLatin1 : Fld Z h0 sb "java/lang/AbstractStringBuilder" "maybeLatin1" "Z" (.int (0 : Int32))) {kv : ClassId} (Vv : Arv Z h0 va kv .byte (Int32.ofNat (2 * cap)) (StrChars.Road.wideBytes ys) (.int (0 : Int32))) (gv : Z.heap.size ≤ va) (hsv : sb ≠ va) {kt : ClassId} (L : LS Z h0 st tb kt xs) :
    Con l Z EL0 (⟨"java/lang/AbstractStringBuilder", "inflateIfNeededFor", "(Ljava/lang/String;)V"⟩ : MethodName) jdk_68_method_71_code 2 none ({ frames := 2, cells := 0, slots := 0, locals := 25 } : Room) #[(.ref sb), (.ref st)] h0 [] (fun v h' Sf => v = none ∧ h' = h0) := by
  have hpn : plainName "java/lang/AbstractStringBuilder" = true := by first | (simp [plainName, overriddenIn]; done) | decide +kernel
  refine Con.intro (plainFor_of_name hpn) ?_
  intro p e s m below meth c T X hss
  refine Goes.cast (g' := mkF m 0 #[.val (.ref sb), .val (.ref st)] []) (by first | (simp [entryFrame, mkF, argsToLocals, Value.category]; done) | rfl) ?_
  refine o_getS X O2 (host := "") (Or.inl (w51 hw)) Via.refl d_jdk_68_method_71_0 (q := 3) rfl ?_
  intro T1 X1
  refine o_ifN X1 d_jdk_68_method_71_3 (feq P5).1 (q := 6) rfl ?_
  refine o_aloadN X1 d_jdk_68_method_71_6 rfl rfl (q := 7) rfl ?_
  refine o_getF X1 F_coder (host := "") (Or.inl (w54 hw)) Via.refl d_jdk_68_method_71_7 (q := 10) rfl ?_
  intro T2 X2
  refine o_aloadN X2 d_jdk_68_method_71_10 rfl rfl (q := 11) rfl ?_
  refine o_virt X2 [] (y' := (⟨"java/lang/String", "coder", "()B"⟩ : MethodName)) L.1 (c_coder0 hw st _ O2 P5 L.2.1) all0 (w85 hw) (w33 hw) (w35 hw) (w34 hw) (w36 hw) (w4 hw) (by decide) d_jdk_68_method_71_11 (rest := [(.int (1 : Int32))]) rfl rfl (lenOf pd24 rfl) rfl (by decide) (Nat.le_of_ble_eq_true rfl) (by decide) (by decide) (q := 14) rfl ?_
  intro v3 vm3 T3 h3 l3 X3 R3 q3
  obtain ⟨rfl, e3⟩ := q3
  have e3 := e3.symm
  subst e3
  show Goes p e below _ T3 (mkF m 14 #[.val (.ref sb), .val (.ref st)] [(.int (0 : Int32)), (.int (1 : Int32))])
  refine o_icmpN X3 d_jdk_68_method_71_14 (by decide) (q := 17) rfl ?_
  refine o_aloadN X3 d_jdk_68_method_71_17 rfl rfl (q := 18) rfl ?_
  have f4 := E
  have f5 := F_value
  have f6 := F_coder
  have f7 := F_count
  have f8 := F_maybeLatin1
  refine o_priv X3 [] (y' := (⟨"java/lang/AbstractStringBuilder", "inflate", "()V"⟩ : MethodName)) f4 (c_inflU hw sb va ys _ O2 P5 f4 gs f5 f6 f7 f8) all0 (w265 hw) (w266 hw) (sel_up (w268 hw) (w266 hw) (w267 hw) (by decide)) (w267 hw) (w269 hw) (w48 hw) (by decide) d_jdk_68_method_71_18 (rest := []) rfl rfl (lenOf pd25 rfl) rfl (by decide) (Nat.le_of_ble_eq_true rfl) (by decide) (by decide) (q := 21) rfl ?_
  intro v9 vm9 T9 h9 l9 X9 R9 q9
  obtain ⟨rfl, e9⟩ := q9
  have e9 := e9.symm
  subst e9
  show Goes p e below _ T9 (mkF m 21 #[.val (.ref sb), .val (.ref st)] [])
  exact o_ret X9 d_jdk_68_method_71_21 (fun Sf hSf => ⟨rfl, rfl⟩) (by decide) (by decide)
set_option maxRecDepth 65536 in
set_option maxHeartbeats 40000000 in
theorem c_ifn11 {l : Launch} {Z : State} {a0 : Array Value} (hw : W a0 Z) (sb va st tb : Addr) (cap : Nat) (ys xs : List Int32) (h0 : Heap) {zc : Int32} (O2 : Sta Z Z.heap "java/lang/String" "COMPACT_STRINGS" "Z" (.int zc)) (P5 : ¬ zc = 0) (E : Exa Z h0 sb "java/lang/StringBuilder") (gs : Z.heap.size ≤ sb) (F_value : Fld Z h0 sb "java/lang/AbstractStringBuilder" "value" "[B" (.ref va)) (F_coder : Fld Z h0 sb "java/lang/AbstractStringBuilder" "coder" "B" (.int (1 : Int32))) (F_count : Fld Z h0 sb "java/lang/AbstractStringBuilder" "count" "I" (.int (Int32.ofNat ys.length))) (F_maybeLatin1 : Fld Z h0 sb "java/lang/AbstractStringBuilder" "maybeLatin1" "Z" (.int (0 : Int32))) {kv : ClassId} (Vv : Arv Z h0 va kv .byte (Int32.ofNat (2 * cap)) (StrChars.Road.wideBytes ys) (.int (0 : Int32))) (gv : Z.heap.size ≤ va) (hsv : sb ≠ va) {kt : ClassId} (H : HS Z h0 st tb kt xs) :
    Con l Z EL0 (⟨"java/lang/AbstractStringBuilder", "inflateIfNeededFor", "(Ljava/lang/String;)V"⟩ : MethodName) jdk_68_method_71_code 2 none ({ frames := 1, cells := 0, slots := 0, locals := 13 } : Room) #[(.ref sb), (.ref st)] h0 [] (fun v h' Sf => v = none ∧ h' = h0) := by
  have hpn : plainName "java/lang/AbstractStringBuilder" = true := by first | (simp [plainName, overriddenIn]; done) | decide +kernel
  refine Con.intro (plainFor_of_name hpn) ?_
  intro p e s m below meth c T X hss
  refine Goes.cast (g' := mkF m 0 #[.val (.ref sb), .val (.ref st)] []) (by first | (simp [entryFrame, mkF, argsToLocals, Value.category]; done) | rfl) ?_
  refine o_getS X O2 (host := "") (Or.inl (w51 hw)) Via.refl d_jdk_68_method_71_0 (q := 3) rfl ?_
  intro T1 X1
  refine o_ifN X1 d_jdk_68_method_71_3 (feq P5).1 (q := 6) rfl ?_
  refine o_aloadN X1 d_jdk_68_method_71_6 rfl rfl (q := 7) rfl ?_
  refine o_getF X1 F_coder (host := "") (Or.inl (w54 hw)) Via.refl d_jdk_68_method_71_7 (q := 10) rfl ?_
  intro T2 X2
  refine o_aloadN X2 d_jdk_68_method_71_10 rfl rfl (q := 11) rfl ?_
  refine o_virt X2 [] (y' := (⟨"java/lang/String", "coder", "()B"⟩ : MethodName)) H.1 (c_coder1 hw st _ O2 P5 H.2.1) all0 (w85 hw) (w33 hw) (w35 hw) (w34 hw) (w36 hw) (w4 hw) (by decide) d_jdk_68_method_71_11 (rest := [(.int (1 : Int32))]) rfl rfl (lenOf pd24 rfl) rfl (by decide) (Nat.le_of_ble_eq_true rfl) (by decide) (by decide) (q := 14) rfl ?_
  intro v3 vm3 T3 h3 l3 X3 R3 q3
  obtain ⟨rfl, e3⟩ := q3
  have e3 := e3.symm
  subst e3
  show Goes p e below _ T3 (mkF m 14 #[.val (.ref sb), .val (.ref st)] [(.int (1 : Int32)), (.int (1 : Int32))])
  refine o_icmpY X3 d_jdk_68_method_71_14 (by decide) (by decide) (q := 21) (by decide) ?_
  exact o_ret X3 d_jdk_68_method_71_21 (fun Sf hSf => ⟨rfl, rfl⟩) (by decide) (by decide)
set_option maxRecDepth 65536 in
set_option maxHeartbeats 40000000 in
theorem c_gb00 {l : Launch} {Z : State} {a0 : Array Value} (hw : W a0 Z) (va st tb : Addr) (cap : Nat) (ys xs : List Int32) (h0 : Heap) {zc : Int32} (O2 : Sta Z Z.heap "java/lang/String" "COMPACT_STRINGS" "Z" (.int zc)) (P5 : ¬ zc = 0) {fm : Value} (O4 : Sta Z Z.heap "jdk/internal/util/Preconditions" "SIOOBE_FORMATTER" "Ljava/util/function/BiFunction;" fm) (rfm : fm.isRef = true) (SA : Sta Z Z.heap "java/lang/StringUTF16" "$assertionsDisabled" "Z" (.int (1 : Int32))) (SH : Sta Z Z.heap "java/lang/StringUTF16" "HI_BYTE_SHIFT" "I" (.int (0 : Int32))) (SL : Sta Z Z.heap "java/lang/StringUTF16" "LO_BYTE_SHIFT" "I" (.int (8 : Int32))) {kv : ClassId} (Vv : Arv Z h0 va kv .byte (Int32.ofNat cap) (LB ys) (.int (0 : Int32))) (gv : Z.heap.size ≤ va) {kt : ClassId} (L : LS Z h0 st tb kt xs) (n2 : st ≠ va) (n4 : tb ≠ va) (hsum : ys.length + xs.length ≤ cap) (hcb : cap ≤ 404) :
    Con l Z EL0 (⟨"java/lang/String", "getBytes", "([BIB)V"⟩ : MethodName) jdk_42_method_147_code 4 none ({ frames := 1, cells := 0, slots := 0, locals := 18 } : Room) #[(.ref st), (.ref va), (.int (Int32.ofNat ys.length)), (.int (0 : Int32))] h0 [va] (fun v h' Sf => v = none ∧ Keep h0 h' [va] ∧ Arv Z h' va kv .byte (Int32.ofNat cap) (LB (ys ++ xs)) (.int (0 : Int32))) := by
  have hpn : plainName "java/lang/String" = true := by first | (simp [plainName, overriddenIn]; done) | decide +kernel
  refine Con.intro (plainFor_of_name hpn) ?_
  intro p e s m below meth c T X hss
  have S_va := hss va (by simp)
  refine Goes.cast (g' := mkF m 0 #[.val (.ref st), .val (.ref va), .val (.int (Int32.ofNat ys.length)), .val (.int (0 : Int32))] []) (by first | (simp [entryFrame, mkF, argsToLocals, Value.category]; done) | rfl) ?_
  refine o_aloadN X d_jdk_42_method_147_0 rfl rfl (q := 1) rfl ?_
  refine o_virt X [] (y' := (⟨"java/lang/String", "coder", "()B"⟩ : MethodName)) L.1 (c_coder0 hw st _ O2 P5 L.2.1) all0 (w32 hw) (w33 hw) (w35 hw) (w34 hw) (w36 hw) (w4 hw) (by decide) d_jdk_42_method_147_1 (rest := []) rfl rfl (lenOf pd24 rfl) rfl (by decide) (Nat.le_of_ble_eq_true rfl) (by decide) (by decide) (q := 4) rfl ?_
  intro v1 vm1 T1 h1 l1 X1 R1 q1
  obtain ⟨rfl, e1⟩ := q1
  have e1 := e1.symm
  subst e1
  show Goes p e below _ T1 (mkF m 4 #[.val (.ref st), .val (.ref va), .val (.int (Int32.ofNat ys.length)), .val (.int (0 : Int32))] [(.int (0 : Int32))])
  refine o_iloadN X1 d_jdk_42_method_147_4 rfl (q := 5) rfl ?_
  refine o_icmpN X1 d_jdk_42_method_147_5 (by decide) (q := 8) rfl ?_
  refine o_aloadN X1 d_jdk_42_method_147_8 rfl rfl (q := 9) rfl ?_
  have f2 := L.2.2.1
  refine o_getF X1 f2 (host := "") (Or.inl (w21 hw)) Via.refl d_jdk_42_method_147_9 (q := 12) rfl ?_
  intro T3 X3
  refine o_iconst X3 d_jdk_42_method_147_12 (w := 0) rfl (q := 13) rfl ?_
  refine o_aloadN X3 d_jdk_42_method_147_13 rfl rfl (q := 14) rfl ?_
  refine o_iloadN X3 d_jdk_42_method_147_14 rfl (q := 15) rfl ?_
  refine o_iloadN X3 d_jdk_42_method_147_15 rfl (q := 16) rfl ?_
  refine o_ishl X3 d_jdk_42_method_147_16 (w := (Int32.ofNat ys.length)) (own_shl0 _) (q := 17) rfl ?_
  refine o_aloadN X3 d_jdk_42_method_147_17 rfl rfl (q := 18) rfl ?_
  refine o_getF X3 f2 (host := "") (Or.inl (w21 hw)) Via.refl d_jdk_42_method_147_18 (q := 21) rfl ?_
  intro T4 X4
  have f5 := L.2.2.2.1
  refine o_len X4 f5 d_jdk_42_method_147_21 (q := 22) rfl ?_
  have f6 := Vv
  have vp7 := f6.pad (pad_rep _ _ xs.length)
  have f9 := (CHr.safe R1 (Vv.lt) S_va)
  refine o_copy X4 (us := (LB xs)) (vs' := (LB (ys ++ xs))) f5 vp7 (Or.inl ⟨rfl, rfl⟩) gv f9 (by decide) (n_neg (by omega)) (n_neg (by omega)) (own_le0 (by omega) (by omega)) (own_leA (by omega) (by omega) (by omega)) (own_usL (by omega)) (own_hlL (by omega) (by omega)) (own_catL (by omega) (by omega)) (w91 hw) (w94 hw) (w92 hw) (w93 hw) d_jdk_42_method_147_22 rfl (by decide) (Nat.le_of_ble_eq_true rfl) (q := 25) rfl ?_
  intro T8 h8 l8 X8 K8 R8 V8
  refine o_goto X8 d_jdk_42_method_147_25 (by decide) (q := 43) (by decide) ?_
  have k10 := Keep.trans (Keep.refl h0 [va]) K8 (allS (Or.inl (by simp)) all0)
  exact o_ret X8 d_jdk_42_method_147_43 (fun Sf hSf => ⟨rfl, k10, V8⟩) (by decide) (by decide)
set_option maxRecDepth 65536 in
set_option maxHeartbeats 40000000 in
theorem c_gb11 {l : Launch} {Z : State} {a0 : Array Value} (hw : W a0 Z) (va st tb : Addr) (cap : Nat) (ys xs : List Int32) (h0 : Heap) {zc : Int32} (O2 : Sta Z Z.heap "java/lang/String" "COMPACT_STRINGS" "Z" (.int zc)) (P5 : ¬ zc = 0) {fm : Value} (O4 : Sta Z Z.heap "jdk/internal/util/Preconditions" "SIOOBE_FORMATTER" "Ljava/util/function/BiFunction;" fm) (rfm : fm.isRef = true) (SA : Sta Z Z.heap "java/lang/StringUTF16" "$assertionsDisabled" "Z" (.int (1 : Int32))) (SH : Sta Z Z.heap "java/lang/StringUTF16" "HI_BYTE_SHIFT" "I" (.int (0 : Int32))) (SL : Sta Z Z.heap "java/lang/StringUTF16" "LO_BYTE_SHIFT" "I" (.int (8 : Int32))) {kv : ClassId} (Vv : Arv Z h0 va kv .byte (Int32.ofNat (2 * cap)) (StrChars.Road.wideBytes ys) (.int (0 : Int32))) (gv : Z.heap.size ≤ va) {kt : ClassId} (H : HS Z h0 st tb kt xs) (n2 : st ≠ va) (n4 : tb ≠ va) (hsum : ys.length + xs.length ≤ cap) (hcb : cap ≤ 404) :
    Con l Z EL0 (⟨"java/lang/String", "getBytes", "([BIB)V"⟩ : MethodName) jdk_42_method_147_code 4 none ({ frames := 1, cells := 0, slots := 0, locals := 18 } : Room) #[(.ref st), (.ref va), (.int (Int32.ofNat ys.length)), (.int (1 : Int32))] h0 [va] (fun v h' Sf => v = none ∧ Keep h0 h' [va] ∧ Arv Z h' va kv .byte (Int32.ofNat (2 * cap)) (StrChars.Road.wideBytes (ys ++ xs)) (.int (0 : Int32))) := by
  have hpn : plainName "java/lang/String" = true := by first | (simp [plainName, overriddenIn]; done) | decide +kernel
  refine Con.intro (plainFor_of_name hpn) ?_
  intro p e s m below meth c T X hss
  have S_va := hss va (by simp)
  refine Goes.cast (g' := mkF m 0 #[.val (.ref st), .val (.ref va), .val (.int (Int32.ofNat ys.length)), .val (.int (1 : Int32))] []) (by first | (simp [entryFrame, mkF, argsToLocals, Value.category]; done) | rfl) ?_
  refine o_aloadN X d_jdk_42_method_147_0 rfl rfl (q := 1) rfl ?_
  refine o_virt X [] (y' := (⟨"java/lang/String", "coder", "()B"⟩ : MethodName)) H.1 (c_coder1 hw st _ O2 P5 H.2.1) all0 (w32 hw) (w33 hw) (w35 hw) (w34 hw) (w36 hw) (w4 hw) (by decide) d_jdk_42_method_147_1 (rest := []) rfl rfl (lenOf pd24 rfl) rfl (by decide) (Nat.le_of_ble_eq_true rfl) (by decide) (by decide) (q := 4) rfl ?_
  intro v1 vm1 T1 h1 l1 X1 R1 q1
  obtain ⟨rfl, e1⟩ := q1
  have e1 := e1.symm
  subst e1
  show Goes p e below _ T1 (mkF m 4 #[.val (.ref st), .val (.ref va), .val (.int (Int32.ofNat ys.length)), .val (.int (1 : Int32))] [(.int (1 : Int32))])
  refine o_iloadN X1 d_jdk_42_method_147_4 rfl (q := 5) rfl ?_
  refine o_icmpN X1 d_jdk_42_method_147_5 (by decide) (q := 8) rfl ?_
  refine o_aloadN X1 d_jdk_42_method_147_8 rfl rfl (q := 9) rfl ?_
  have f2 := H.2.2.1
  refine o_getF X1 f2 (host := "") (Or.inl (w21 hw)) Via.refl d_jdk_42_method_147_9 (q := 12) rfl ?_
  intro T3 X3
  refine o_iconst X3 d_jdk_42_method_147_12 (w := 0) rfl (q := 13) rfl ?_
  refine o_aloadN X3 d_jdk_42_method_147_13 rfl rfl (q := 14) rfl ?_
  refine o_iloadN X3 d_jdk_42_method_147_14 rfl (q := 15) rfl ?_
  refine o_iloadN X3 d_jdk_42_method_147_15 rfl (q := 16) rfl ?_
  refine o_ishl X3 d_jdk_42_method_147_16 (w := (Int32.ofNat (2 * ys.length))) (own_shl1 (by omega)) (q := 17) rfl ?_
  refine o_aloadN X3 d_jdk_42_method_147_17 rfl rfl (q := 18) rfl ?_
  refine o_getF X3 f2 (host := "") (Or.inl (w21 hw)) Via.refl d_jdk_42_method_147_18 (q := 21) rfl ?_
  intro T4 X4
  have f5 := H.2.2.2.1
  refine o_len X4 f5 d_jdk_42_method_147_21 (q := 22) rfl ?_
  have f6 := Vv
  have vp7 := f6.pad (pad_rep _ _ (2 * xs.length))
  have f9 := (CHr.safe R1 (Vv.lt) S_va)
  refine o_copy X4 (us := (StrChars.Road.wideBytes xs)) (vs' := (StrChars.Road.wideBytes (ys ++ xs))) f5 vp7 (Or.inl ⟨rfl, rfl⟩) gv f9 (by decide) (n_neg (by omega)) (n_neg (by omega)) (own_le0 (by omega) (by omega)) (own_leA (by omega) (by omega) (by omega)) (own_usW (by omega)) (own_hlW (by omega) (by omega)) (own_catW (by omega) (by omega)) (w91 hw) (w94 hw) (w92 hw) (w93 hw) d_jdk_42_method_147_22 rfl (by decide) (Nat.le_of_ble_eq_true rfl) (q := 25) rfl ?_
  intro T8 h8 l8 X8 K8 R8 V8
  refine o_goto X8 d_jdk_42_method_147_25 (by decide) (q := 43) (by decide) ?_
  have k10 := Keep.trans (Keep.refl h0 [va]) K8 (allS (Or.inl (by simp)) all0)
  exact o_ret X8 d_jdk_42_method_147_43 (fun Sf hSf => ⟨rfl, k10, V8⟩) (by decide) (by decide)
set_option maxRecDepth 65536 in
set_option maxHeartbeats 40000000 in
theorem c_gb10 {l : Launch} {Z : State} {a0 : Array Value} (hw : W a0 Z) (va st tb : Addr) (cap : Nat) (ys xs : List Int32) (h0 : Heap) {zc : Int32} (O2 : Sta Z Z.heap "java/lang/String" "COMPACT_STRINGS" "Z" (.int zc)) (P5 : ¬ zc = 0) {fm : Value} (O4 : Sta Z Z.heap "jdk/internal/util/Preconditions" "SIOOBE_FORMATTER" "Ljava/util/function/BiFunction;" fm) (rfm : fm.isRef = true) (SA : Sta Z Z.heap "java/lang/StringUTF16" "$assertionsDisabled" "Z" (.int (1 : Int32))) (SH : Sta Z Z.heap "java/lang/StringUTF16" "HI_BYTE_SHIFT" "I" (.int (0 : Int32))) (SL : Sta Z Z.heap "java/lang/StringUTF16" "LO_BYTE_SHIFT" "I" (.int (8 : Int32))) {kv : ClassId} (Vv : Arv Z h0 va kv .byte (Int32.ofNat (2 * cap)) (StrChars.Road.wideBytes ys) (.int (0 : Int32))) (gv : Z.heap.size ≤ va) {kt : ClassId} (L : LS Z h0 st tb kt xs) (n2 : st ≠ va) (n4 : tb ≠ va) (hsum : ys.length + xs.length ≤ cap) (hcb : cap ≤ 404) :
    Con l Z EL0 (⟨"java/lang/String", "getBytes", "([BIB)V"⟩ : MethodName) jdk_42_method_147_code 4 none ({ frames := 5, cells := 0, slots := 0, locals := 76 } : Room) #[(.ref st), (.ref va), (.int (Int32.ofNat ys.length)), (.int (1 : Int32))] h0 [va] (fun v h' Sf => v = none ∧ Keep h0 h' [va] ∧ Arv Z h' va kv .byte (Int32.ofNat (2 * cap)) (StrChars.Road.wideBytes (ys ++ xs)) (.int (0 : Int32))) := by
  have hpn : plainName "java/lang/String" = true := by first | (simp [plainName, overriddenIn]; done) | decide +kernel
  refine Con.intro (plainFor_of_name hpn) ?_
  intro p e s m below meth c T X hss
  have S_va := hss va (by simp)
  refine Goes.cast (g' := mkF m 0 #[.val (.ref st), .val (.ref va), .val (.int (Int32.ofNat ys.length)), .val (.int (1 : Int32))] []) (by first | (simp [entryFrame, mkF, argsToLocals, Value.category]; done) | rfl) ?_
  refine o_aloadN X d_jdk_42_method_147_0 rfl rfl (q := 1) rfl ?_
  refine o_virt X [] (y' := (⟨"java/lang/String", "coder", "()B"⟩ : MethodName)) L.1 (c_coder0 hw st _ O2 P5 L.2.1) all0 (w32 hw) (w33 hw) (w35 hw) (w34 hw) (w36 hw) (w4 hw) (by decide) d_jdk_42_method_147_1 (rest := []) rfl rfl (lenOf pd24 rfl) rfl (by decide) (Nat.le_of_ble_eq_true rfl) (by decide) (by decide) (q := 4) rfl ?_
  intro v1 vm1 T1 h1 l1 X1 R1 q1
  obtain ⟨rfl, e1⟩ := q1
  have e1 := e1.symm
  subst e1
  show Goes p e below _ T1 (mkF m 4 #[.val (.ref st), .val (.ref va), .val (.int (Int32.ofNat ys.length)), .val (.int (1 : Int32))] [(.int (0 : Int32))])
  refine o_iloadN X1 d_jdk_42_method_147_4 rfl (q := 5) rfl ?_
  refine o_icmpY X1 d_jdk_42_method_147_5 (by decide) (by decide) (q := 28) (by decide) ?_
  refine o_aloadN X1 d_jdk_42_method_147_28 rfl rfl (q := 29) rfl ?_
  have f2 := L.2.2.1
  refine o_getF X1 f2 (host := "") (Or.inl (w21 hw)) Via.refl d_jdk_42_method_147_29 (q := 32) rfl ?_
  intro T3 X3
  refine o_iconst X3 d_jdk_42_method_147_32 (w := 0) rfl (q := 33) rfl ?_
  refine o_aloadN X3 d_jdk_42_method_147_33 rfl rfl (q := 34) rfl ?_
  refine o_iloadN X3 d_jdk_42_method_147_34 rfl (q := 35) rfl ?_
  refine o_aloadN X3 d_jdk_42_method_147_35 rfl rfl (q := 36) rfl ?_
  refine o_getF X3 f2 (host := "") (Or.inl (w21 hw)) Via.refl d_jdk_42_method_147_36 (q := 39) rfl ?_
  intro T4 X4
  have f5 := L.2.2.2.1
  refine o_len X4 f5 d_jdk_42_method_147_39 (q := 40) rfl ?_
  have f6 := Vv
  have f8 := (CHr.safe R1 (Vv.lt) S_va)
  refine o_stat X4 [(.ref tb), (.int (0 : Int32)), (.ref va), (.int (Int32.ofNat ys.length)), (.int (Int32.ofNat xs.length))] (y' := (⟨"java/lang/StringLatin1", "inflate", "([BI[BII)V"⟩ : MethodName)) (c_linf hw tb va ys xs cap xs.length _ O4 rfm SA SH SL f5 f6 gv n4 L.2.2.2.2.1 hsum hcb (Nat.le_refl _) (by omega)) (allS ⟨f6.lt, f8⟩ all0) (w278 hw) (w273 hw) (w158 hw) (w274 hw) (by decide) d_jdk_42_method_147_40 (rest := []) rfl rfl (lenOf pd23 rfl) rfl (by decide) (Nat.le_of_ble_eq_true rfl) (by decide) (by decide) (q := 43) rfl ?_
  intro v7 vm7 T7 h7 l7 X7 R7 q7
  obtain ⟨rfl, K7, V7⟩ := q7
  show Goes p e below _ T7 (mkF m 43 #[.val (.ref st), .val (.ref va), .val (.int (Int32.ofNat ys.length)), .val (.int (1 : Int32))] [])
  have k9 := Keep.trans (Keep.refl h0 [va]) K7 (allS (Or.inl (by simp)) all0)
  exact o_ret X7 d_jdk_42_method_147_43 (fun Sf hSf => ⟨rfl, k9, V7⟩) (by decide) (by decide)
set_option maxRecDepth 65536 in
set_option maxHeartbeats 40000000 in
theorem c_psa00 {l : Launch} {Z : State} {a0 : Array Value} (hw : W a0 Z) (sb va st tb : Addr) (cap : Nat) (ys xs : List Int32) (h0 : Heap) {zc : Int32} (O2 : Sta Z Z.heap "java/lang/String" "COMPACT_STRINGS" "Z" (.int zc)) (P5 : ¬ zc = 0) {fm : Value} (O4 : Sta Z Z.heap "jdk/internal/util/Preconditions" "SIOOBE_FORMATTER" "Ljava/util/function/BiFunction;" fm) (rfm : fm.isRef = true) (SA : Sta Z Z.heap "java/lang/StringUTF16" "$assertionsDisabled" "Z" (.int (1 : Int32))) (SH : Sta Z Z.heap "java/lang/StringUTF16" "HI_BYTE_SHIFT" "I" (.int (0 : Int32))) (SL : Sta Z Z.heap "java/lang/StringUTF16" "LO_BYTE_SHIFT" "I" (.int (8 : Int32))) (E : Exa Z h0 sb "java/lang/StringBuilder") (gs : Z.heap.size ≤ sb) (F_value : Fld Z h0 sb "java/lang/AbstractStringBuilder" "value" "[B" (.ref va)) (F_coder : Fld Z h0 sb "java/lang/AbstractStringBuilder" "coder" "B" (.int (0 : Int32))) (F_count : Fld Z h0 sb "java/lang/AbstractStringBuilder" "count" "I" (.int (Int32.ofNat ys.length))) (F_maybeLatin1 : Fld Z h0 sb "java/lang/AbstractStringBuilder" "maybeLatin1" "Z" (.int (0 : Int32))) {kv : ClassId} (Vv : Arv Z h0 va kv .byte (Int32.ofNat cap) (LB ys) (.int (0 : Int32))) (gv : Z.heap.size ≤ va) (hsv : sb ≠ va) {kt : ClassId} (L : LS Z h0 st tb kt xs) (n1 : st ≠ sb) (n2 : st ≠ va) (n3 : tb ≠ sb) (n4 : tb ≠ va) (hc : ys.length ≤ cap) (hcb : cap ≤ 404) (hsum : ys.length + xs.length ≤ cap) (hyl : ∀ c ∈ ys, ¬ c < 0 ∧ ¬ (255 : Int32) < c) :
    Con l Z EL0 (⟨"java/lang/AbstractStringBuilder", "putStringAt", "(ILjava/lang/String;)V"⟩ : MethodName) jdk_68_method_73_code 3 none ({ frames := 2, cells := 0, slots := 0, locals := 33 } : Room) #[(.ref sb), (.int (Int32.ofNat ys.length)), (.ref st)] h0 [va] (fun v h' Sf => v = none ∧ Keep h0 h' [sb, va] ∧ ∃ (v2 : Addr) (k2 : ClassId), (v2 = va ∨ h0.size ≤ v2) ∧ Sf v2 ∧ Fld Z h' sb "java/lang/AbstractStringBuilder" "value" "[B" (.ref v2) ∧ Fld Z h' sb "java/lang/AbstractStringBuilder" "coder" "B" (.int (0 : Int32)) ∧ Fld Z h' sb "java/lang/AbstractStringBuilder" "count" "I" (.int (Int32.ofNat ys.length)) ∧ Fld Z h' sb "java/lang/AbstractStringBuilder" "maybeLatin1" "Z" (.int (0 : Int32)) ∧ Arv Z h' v2 k2 .byte (Int32.ofNat cap) (LB (ys ++ xs)) (.int (0 : Int32))) := by
  have hpn : plainName "java/lang/AbstractStringBuilder" = true := by first | (simp [plainName, overriddenIn]; done) | decide +kernel
  refine Con.intro (plainFor_of_name hpn) ?_
  intro p e s m below meth c T X hss
  have S_va := hss va (by simp)
  refine Goes.cast (g' := mkF m 0 #[.val (.ref sb), .val (.int (Int32.ofNat ys.length)), .val (.ref st)] []) (by first | (simp [entryFrame, mkF, argsToLocals, Value.category]; done) | rfl) ?_
  refine o_aloadN X d_jdk_68_method_73_0 rfl rfl (q := 1) rfl ?_
  refine o_aloadN X d_jdk_68_method_73_1 rfl rfl (q := 2) rfl ?_
  refine o_priv X [(.ref st)] (y' := (⟨"java/lang/AbstractStringBuilder", "inflateIfNeededFor", "(Ljava/lang/String;)V"⟩ : MethodName)) E (c_ifn00 hw sb va st tb cap ys xs _ O2 P5 E gs F_value F_coder F_count F_maybeLatin1 Vv gv hsv ⟨L.1, L.2.1, L.2.2.1, L.2.2.2.1, L.2.2.2.2⟩) all0 (w80 hw) (w81 hw) (sel_up (w83 hw) (w81 hw) (w82 hw) (by decide)) (w82 hw) (w84 hw) (w48 hw) (by decide) d_jdk_68_method_73_2 (rest := []) rfl rfl (lenOf pd26 rfl) rfl (by decide) (Nat.le_of_ble_eq_true rfl) (by decide) (by decide) (q := 5) rfl ?_
  intro v1 vm1 T1 h1 l1 X1 R1 q1
  obtain ⟨rfl, e1⟩ := q1
  have e1 := e1.symm
  subst e1
  show Goes p e below _ T1 (mkF m 5 #[.val (.ref sb), .val (.int (Int32.ofNat ys.length)), .val (.ref st)] [])
  refine o_aloadN X1 d_jdk_68_method_73_5 rfl rfl (q := 6) rfl ?_
  refine o_aloadN X1 d_jdk_68_method_73_6 rfl rfl (q := 7) rfl ?_
  have f2 := F_value
  refine o_getF X1 f2 (host := "") (Or.inl (w52 hw)) Via.refl d_jdk_68_method_73_7 (q := 10) rfl ?_
  intro T3 X3
  refine o_iloadN X3 d_jdk_68_method_73_10 rfl (q := 11) rfl ?_
  refine o_aloadN X3 d_jdk_68_method_73_11 rfl rfl (q := 12) rfl ?_
  have f4 := F_coder
  refine o_getF X3 f4 (host := "") (Or.inl (w54 hw)) Via.refl d_jdk_68_method_73_12 (q := 15) rfl ?_
  intro T5 X5
  have f6 := Vv
  have f7 := L.1
  have f8 := L.2.1
  have f9 := L.2.2.1
  have f10 := L.2.2.2.1
  have f12 := (CHr.safe R1 (Vv.lt) S_va)
  refine o_virt X5 [(.ref va), (.int (Int32.ofNat ys.length)), (.int (0 : Int32))] (y' := (⟨"java/lang/String", "getBytes", "([BIB)V"⟩ : MethodName)) f7 (c_gb00 hw va st tb cap ys xs _ O2 P5 O4 rfm SA SH SL f6 gv ⟨f7, f8, f9, f10, L.2.2.2.2⟩ n2 n4 hsum hcb) (allS ⟨f6.lt, f12⟩ all0) (w86 hw) (w87 hw) (w89 hw) (w88 hw) (w90 hw) (w4 hw) (by decide) d_jdk_68_method_73_15 (rest := []) rfl rfl (lenOf pd27 rfl) rfl (by decide) (Nat.le_of_ble_eq_true rfl) (by decide) (by decide) (q := 18) rfl ?_
  intro v11 vm11 T11 h11 l11 X11 R11 q11
  obtain ⟨rfl, K11, V11⟩ := q11
  show Goes p e below _ T11 (mkF m 18 #[.val (.ref sb), .val (.int (Int32.ofNat ys.length)), .val (.ref st)] [])
  have k13 := Keep.trans (Keep.refl h0 [sb, va]) K11 (allS (Or.inl (by simp)) all0)
  have f14 := (CHr.safe R11 (f6.lt) f12)
  have f15 := (f2.keep K11 (ninS hsv nin0))
  have f16 := (f4.keep K11 (ninS hsv nin0))
  have f17 := (F_count.keep K11 (ninS hsv nin0))
  have f18 := (F_maybeLatin1.keep K11 (ninS hsv nin0))
  exact o_ret X11 d_jdk_68_method_73_18 (fun Sf hSf => ⟨rfl, k13, va, kv, Or.inl rfl, hSf _ V11.lt f14, f15, f16, f17, f18, V11⟩) (by decide) (by decide)
set_option maxRecDepth 65536 in
set_option maxHeartbeats 40000000 in
theorem c_psa01 {l : Launch} {Z : State} {a0 : Array Value} (hw : W a0 Z) (sb va st tb : Addr) (cap : Nat) (ys xs : List Int32) (h0 : Heap) {zc : Int32} (O2 : Sta Z Z.heap "java/lang/String" "COMPACT_STRINGS" "Z" (.int zc)) (P5 : ¬ zc = 0) {fm : Value} (O4 : Sta Z Z.heap "jdk/internal/util/Preconditions" "SIOOBE_FORMATTER" "Ljava/util/function/BiFunction;" fm) (rfm : fm.isRef = true) (SA : Sta Z Z.heap "java/lang/StringUTF16" "$assertionsDisabled" "Z" (.int (1 : Int32))) (SH : Sta Z Z.heap "java/lang/StringUTF16" "HI_BYTE_SHIFT" "I" (.int (0 : Int32))) (SL : Sta Z Z.heap "java/lang/StringUTF16" "LO_BYTE_SHIFT" "I" (.int (8 : Int32))) (E : Exa Z h0 sb "java/lang/StringBuilder") (gs : Z.heap.size ≤ sb) (F_value : Fld Z h0 sb "java/lang/AbstractStringBuilder" "value" "[B" (.ref va)) (F_coder : Fld Z h0 sb "java/lang/AbstractStringBuilder" "coder" "B" (.int (0 : Int32))) (F_count : Fld Z h0 sb "java/lang/AbstractStringBuilder" "count" "I" (.int (Int32.ofNat ys.length))) (F_maybeLatin1 : Fld Z h0 sb "java/lang/AbstractStringBuilder" "maybeLatin1" "Z" (.int (0 : Int32))) {kv : ClassId} (Vv : Arv Z h0 va kv .byte (Int32.ofNat cap) (LB ys) (.int (0 : Int32))) (gv : Z.heap.size ≤ va) (hsv : sb ≠ va) {kt : ClassId} (H : HS Z h0 st tb kt xs) (n1 : st ≠ sb) (n2 : st ≠ va) (n3 : tb ≠ sb) (n4 : tb ≠ va) (hc : ys.length ≤ cap) (hcb : cap ≤ 404) (hsum : ys.length + xs.length ≤ cap) (hyl : ∀ c ∈ ys, ¬ c < 0 ∧ ¬ (255 : Int32) < c) :
    Con l Z EL0 (⟨"java/lang/AbstractStringBuilder", "putStringAt", "(ILjava/lang/String;)V"⟩ : MethodName) jdk_68_method_73_code 3 none ({ frames := 7, cells := 1, slots := 808, locals := 102 } : Room) #[(.ref sb), (.int (Int32.ofNat ys.length)), (.ref st)] h0 [va] (fun v h' Sf => v = none ∧ Keep h0 h' [sb, va] ∧ ∃ (v2 : Addr) (k2 : ClassId), (v2 = va ∨ h0.size ≤ v2) ∧ Sf v2 ∧ Fld Z h' sb "java/lang/AbstractStringBuilder" "value" "[B" (.ref v2) ∧ Fld Z h' sb "java/lang/AbstractStringBuilder" "coder" "B" (.int (1 : Int32)) ∧ Fld Z h' sb "java/lang/AbstractStringBuilder" "count" "I" (.int (Int32.ofNat ys.length)) ∧ Fld Z h' sb "java/lang/AbstractStringBuilder" "maybeLatin1" "Z" (.int (0 : Int32)) ∧ Arv Z h' v2 k2 .byte (Int32.ofNat (2 * cap)) (StrChars.Road.wideBytes (ys ++ xs)) (.int (0 : Int32))) := by
  have hpn : plainName "java/lang/AbstractStringBuilder" = true := by first | (simp [plainName, overriddenIn]; done) | decide +kernel
  refine Con.intro (plainFor_of_name hpn) ?_
  intro p e s m below meth c T X hss
  have S_va := hss va (by simp)
  refine Goes.cast (g' := mkF m 0 #[.val (.ref sb), .val (.int (Int32.ofNat ys.length)), .val (.ref st)] []) (by first | (simp [entryFrame, mkF, argsToLocals, Value.category]; done) | rfl) ?_
  refine o_aloadN X d_jdk_68_method_73_0 rfl rfl (q := 1) rfl ?_
  refine o_aloadN X d_jdk_68_method_73_1 rfl rfl (q := 2) rfl ?_
  refine o_priv X [(.ref st)] (y' := (⟨"java/lang/AbstractStringBuilder", "inflateIfNeededFor", "(Ljava/lang/String;)V"⟩ : MethodName)) E (c_ifn01 hw sb va st tb cap ys xs _ O2 P5 O4 rfm SA SH SL E gs F_value F_coder F_count F_maybeLatin1 Vv gv hsv ⟨H.1, H.2.1, H.2.2.1, H.2.2.2.1, H.2.2.2.2⟩ hc hcb hyl) all0 (w80 hw) (w81 hw) (sel_up (w83 hw) (w81 hw) (w82 hw) (by decide)) (w82 hw) (w84 hw) (w48 hw) (by decide) d_jdk_68_method_73_2 (rest := []) rfl rfl (lenOf pd26 rfl) rfl (by decide) (Nat.le_of_ble_eq_true rfl) (by decide) (by decide) (q := 5) rfl ?_
  intro v1 vm1 T1 h1 l1 X1 R1 q1
  obtain ⟨rfl, K1, b1, kb1, g1, s1, Fvalue1, Fcoder1, Fcount1, FmaybeLatin11, V1⟩ := q1
  show Goes p e below _ T1 (mkF m 5 #[.val (.ref sb), .val (.int (Int32.ofNat ys.length)), .val (.ref st)] [])
  refine o_aloadN X1 d_jdk_68_method_73_5 rfl rfl (q := 6) rfl ?_
  refine o_aloadN X1 d_jdk_68_method_73_6 rfl rfl (q := 7) rfl ?_
  refine o_getF X1 Fvalue1 (host := "") (Or.inl (w52 hw)) Via.refl d_jdk_68_method_73_7 (q := 10) rfl ?_
  intro T2 X2
  refine o_iloadN X2 d_jdk_68_method_73_10 rfl (q := 11) rfl ?_
  refine o_aloadN X2 d_jdk_68_method_73_11 rfl rfl (q := 12) rfl ?_
  refine o_getF X2 Fcoder1 (host := "") (Or.inl (w54 hw)) Via.refl d_jdk_68_method_73_12 (q := 15) rfl ?_
  intro T3 X3
  have f4 := (H.1.keep K1)
  have f5 := (H.2.1.keep K1 (ninS n1 nin0))
  have f6 := (H.2.2.1.keep K1 (ninS n1 nin0))
  have f7 := (H.2.2.2.1.keep K1 (ninS n3 nin0))
  refine o_virt X3 [(.ref b1), (.int (Int32.ofNat ys.length)), (.int (1 : Int32))] (y' := (⟨"java/lang/String", "getBytes", "([BIB)V"⟩ : MethodName)) f4 (c_gb11 hw b1 st tb cap ys xs _ O2 P5 O4 rfm SA SH SL V1 (Nat.le_trans X.size g1) ⟨f4, f5, f6, f7, H.2.2.2.2⟩ (Nat.ne_of_lt (Nat.lt_of_lt_of_le H.1.lt g1)) (Nat.ne_of_lt (Nat.lt_of_lt_of_le H.2.2.2.1.lt g1)) hsum hcb) (allS ⟨V1.lt, s1⟩ all0) (w86 hw) (w87 hw) (w89 hw) (w88 hw) (w90 hw) (w4 hw) (by decide) d_jdk_68_method_73_15 (rest := []) rfl rfl (lenOf pd27 rfl) rfl (by decide) (Nat.le_of_ble_eq_true rfl) (by decide) (by decide) (q := 18) rfl ?_
  intro v8 vm8 T8 h8 l8 X8 R8 q8
  obtain ⟨rfl, K8, V8⟩ := q8
  show Goes p e below _ T8 (mkF m 18 #[.val (.ref sb), .val (.int (Int32.ofNat ys.length)), .val (.ref st)] [])
  have sz9 := Nat.le_trans (Keep.refl h0 [sb, va]).1 g1
  have k10 := Keep.trans (Keep.refl h0 [sb, va]) K1 (allS (Or.inl (by simp)) all0)
  have k11 := Keep.trans k10 K8 (allS (Or.inr sz9) all0)
  have f12 := (CHr.safe R8 (V1.lt) s1)
  have f13 := (Fvalue1.keep K8 (ninS (Nat.ne_of_lt (Nat.lt_of_lt_of_le E.lt g1)) nin0))
  have f14 := (Fcoder1.keep K8 (ninS (Nat.ne_of_lt (Nat.lt_of_lt_of_le E.lt g1)) nin0))
  have f15 := (Fcount1.keep K8 (ninS (Nat.ne_of_lt (Nat.lt_of_lt_of_le E.lt g1)) nin0))
  have f16 := (FmaybeLatin11.keep K8 (ninS (Nat.ne_of_lt (Nat.lt_of_lt_of_le E.lt g1)) nin0))
  exact o_ret X8 d_jdk_68_method_73_18 (fun Sf hSf => ⟨rfl, k11, b1, kb1, Or.inr sz9, hSf _ V8.lt f12, f13, f14, f15, f16, V8⟩) (by decide) (by decide)
set_option maxRecDepth 65536 in
set_option maxHeartbeats 40000000 in
theorem c_psa10 {l : Launch} {Z : State} {a0 : Array Value} (hw : W a0 Z) (sb va st tb : Addr) (cap : Nat) (ys xs : List Int32) (h0 : Heap) {zc : Int32} (O2 : Sta Z Z.heap "java/lang/String" "COMPACT_STRINGS" "Z" (.int zc)) (P5 : ¬ zc = 0) {fm : Value} (O4 : Sta Z Z.heap "jdk/internal/util/Preconditions" "SIOOBE_FORMATTER" "Ljava/util/function/BiFunction;" fm) (rfm : fm.isRef = true) (SA : Sta Z Z.heap "java/lang/StringUTF16" "$assertionsDisabled" "Z" (.int (1 : Int32))) (SH : Sta Z Z.heap "java/lang/StringUTF16" "HI_BYTE_SHIFT" "I" (.int (0 : Int32))) (SL : Sta Z Z.heap "java/lang/StringUTF16" "LO_BYTE_SHIFT" "I" (.int (8 : Int32))) (E : Exa Z h0 sb "java/lang/StringBuilder") (gs : Z.heap.size ≤ sb) (F_value : Fld Z h0 sb "java/lang/AbstractStringBuilder" "value" "[B" (.ref va)) (F_coder : Fld Z h0 sb "java/lang/AbstractStringBuilder" "coder" "B" (.int (1 : Int32))) (F_count : Fld Z h0 sb "java/lang/AbstractStringBuilder" "count" "I" (.int (Int32.ofNat ys.length))) (F_maybeLatin1 : Fld Z h0 sb "java/lang/AbstractStringBuilder" "maybeLatin1" "Z" (.int (0 : Int32))) {kv : ClassId} (Vv : Arv Z h0 va kv .byte (Int32.ofNat (2 * cap)) (StrChars.Road.wideBytes ys) (.int (0 : Int32))) (gv : Z.heap.size ≤ va) (hsv : sb ≠ va) {kt : ClassId} (L : LS Z h0 st tb kt xs) (n1 : st ≠ sb) (n2 : st ≠ va) (n3 : tb ≠ sb) (n4 : tb ≠ va) (hc : ys.length ≤ cap) (hcb : cap ≤ 404) (hsum : ys.length + xs.length ≤ cap) :
    Con l Z EL0 (⟨"java/lang/AbstractStringBuilder", "putStringAt", "(ILjava/lang/String;)V"⟩ : MethodName) jdk_68_method_73_code 3 none ({ frames := 6, cells := 0, slots := 0, locals := 91 } : Room) #[(.ref sb), (.int (Int32.ofNat ys.length)), (.ref st)] h0 [va] (fun v h' Sf => v = none ∧ Keep h0 h' [sb, va] ∧ ∃ (v2 : Addr) (k2 : ClassId), (v2 = va ∨ h0.size ≤ v2) ∧ Sf v2 ∧ Fld Z h' sb "java/lang/AbstractStringBuilder" "value" "[B" (.ref v2) ∧ Fld Z h' sb "java/lang/AbstractStringBuilder" "coder" "B" (.int (1 : Int32)) ∧ Fld Z h' sb "java/lang/AbstractStringBuilder" "count" "I" (.int (Int32.ofNat ys.length)) ∧ Fld Z h' sb "java/lang/AbstractStringBuilder" "maybeLatin1" "Z" (.int (0 : Int32)) ∧ Arv Z h' v2 k2 .byte (Int32.ofNat (2 * cap)) (StrChars.Road.wideBytes (ys ++ xs)) (.int (0 : Int32))) := by
  have hpn : plainName "java/lang/AbstractStringBuilder" = true := by first | (simp [plainName, overriddenIn]; done) | decide +kernel
  refine Con.intro (plainFor_of_name hpn) ?_
  intro p e s m below meth c T X hss
  have S_va := hss va (by simp)
  refine Goes.cast (g' := mkF m 0 #[.val (.ref sb), .val (.int (Int32.ofNat ys.length)), .val (.ref st)] []) (by first | (simp [entryFrame, mkF, argsToLocals, Value.category]; done) | rfl) ?_
  refine o_aloadN X d_jdk_68_method_73_0 rfl rfl (q := 1) rfl ?_
  refine o_aloadN X d_jdk_68_method_73_1 rfl rfl (q := 2) rfl ?_
  refine o_priv X [(.ref st)] (y' := (⟨"java/lang/AbstractStringBuilder", "inflateIfNeededFor", "(Ljava/lang/String;)V"⟩ : MethodName)) E (c_ifn10 hw sb va st tb cap ys xs _ O2 P5 E gs F_value F_coder F_count F_maybeLatin1 Vv gv hsv ⟨L.1, L.2.1, L.2.2.1, L.2.2.2.1, L.2.2.2.2⟩) all0 (w80 hw) (w81 hw) (sel_up (w83 hw) (w81 hw) (w82 hw) (by decide)) (w82 hw) (w84 hw) (w48 hw) (by decide) d_jdk_68_method_73_2 (rest := []) rfl rfl (lenOf pd26 rfl) rfl (by decide) (Nat.le_of_ble_eq_true rfl) (by decide) (by decide) (q := 5) rfl ?_
  intro v1 vm1 T1 h1 l1 X1 R1 q1
  obtain ⟨rfl, e1⟩ := q1
  have e1 := e1.symm
  subst e1
  show Goes p e below _ T1 (mkF m 5 #[.val (.ref sb), .val (.int (Int32.ofNat ys.length)), .val (.ref st)] [])
  refine o_aloadN X1 d_jdk_68_method_73_5 rfl rfl (q := 6) rfl ?_
  refine o_aloadN X1 d_jdk_68_method_73_6 rfl rfl (q := 7) rfl ?_
  have f2 := F_value
  refine o_getF X1 f2 (host := "") (Or.inl (w52 hw)) Via.refl d_jdk_68_method_73_7 (q := 10) rfl ?_
  intro T3 X3
  refine o_iloadN X3 d_jdk_68_method_73_10 rfl (q := 11) rfl ?_
  refine o_aloadN X3 d_jdk_68_method_73_11 rfl rfl (q := 12) rfl ?_
  have f4 := F_coder
  refine o_getF X3 f4 (host := "") (Or.inl (w54 hw)) Via.refl d_jdk_68_method_73_12 (q := 15) rfl ?_
  intro T5 X5
  have f6 := Vv
  have f7 := L.1
  have f8 := L.2.1
  have f9 := L.2.2.1
  have f10 := L.2.2.2.1
  have f12 := (CHr.safe R1 (Vv.lt) S_va)
  refine o_virt X5 [(.ref va), (.int (Int32.ofNat ys.length)), (.int (1 : Int32))] (y' := (⟨"java/lang/String", "getBytes", "([BIB)V"⟩ : MethodName)) f7 (c_gb10 hw va st tb cap ys xs _ O2 P5 O4 rfm SA SH SL f6 gv ⟨f7, f8, f9, f10, L.2.2.2.2⟩ n2 n4 hsum hcb) (allS ⟨f6.lt, f12⟩ all0) (w86 hw) (w87 hw) (w89 hw) (w88 hw) (w90 hw) (w4 hw) (by decide) d_jdk_68_method_73_15 (rest := []) rfl rfl (lenOf pd27 rfl) rfl (by decide) (Nat.le_of_ble_eq_true rfl) (by decide) (by decide) (q := 18) rfl ?_
  intro v11 vm11 T11 h11 l11 X11 R11 q11
  obtain ⟨rfl, K11, V11⟩ := q11
  show Goes p e below _ T11 (mkF m 18 #[.val (.ref sb), .val (.int (Int32.ofNat ys.length)), .val (.ref st)] [])
  have k13 := Keep.trans (Keep.refl h0 [sb, va]) K11 (allS (Or.inl (by simp)) all0)
  have f14 := (CHr.safe R11 (f6.lt) f12)
  have f15 := (f2.keep K11 (ninS hsv nin0))
  have f16 := (f4.keep K11 (ninS hsv nin0))
  have f17 := (F_count.keep K11 (ninS hsv nin0))
  have f18 := (F_maybeLatin1.keep K11 (ninS hsv nin0))
  exact o_ret X11 d_jdk_68_method_73_18 (fun Sf hSf => ⟨rfl, k13, va, kv, Or.inl rfl, hSf _ V11.lt f14, f15, f16, f17, f18, V11⟩) (by decide) (by decide)
set_option maxRecDepth 65536 in
set_option maxHeartbeats 40000000 in
theorem c_psa11 {l : Launch} {Z : State} {a0 : Array Value} (hw : W a0 Z) (sb va st tb : Addr) (cap : Nat) (ys xs : List Int32) (h0 : Heap) {zc : Int32} (O2 : Sta Z Z.heap "java/lang/String" "COMPACT_STRINGS" "Z" (.int zc)) (P5 : ¬ zc = 0) {fm : Value} (O4 : Sta Z Z.heap "jdk/internal/util/Preconditions" "SIOOBE_FORMATTER" "Ljava/util/function/BiFunction;" fm) (rfm : fm.isRef = true) (SA : Sta Z Z.heap "java/lang/StringUTF16" "$assertionsDisabled" "Z" (.int (1 : Int32))) (SH : Sta Z Z.heap "java/lang/StringUTF16" "HI_BYTE_SHIFT" "I" (.int (0 : Int32))) (SL : Sta Z Z.heap "java/lang/StringUTF16" "LO_BYTE_SHIFT" "I" (.int (8 : Int32))) (E : Exa Z h0 sb "java/lang/StringBuilder") (gs : Z.heap.size ≤ sb) (F_value : Fld Z h0 sb "java/lang/AbstractStringBuilder" "value" "[B" (.ref va)) (F_coder : Fld Z h0 sb "java/lang/AbstractStringBuilder" "coder" "B" (.int (1 : Int32))) (F_count : Fld Z h0 sb "java/lang/AbstractStringBuilder" "count" "I" (.int (Int32.ofNat ys.length))) (F_maybeLatin1 : Fld Z h0 sb "java/lang/AbstractStringBuilder" "maybeLatin1" "Z" (.int (0 : Int32))) {kv : ClassId} (Vv : Arv Z h0 va kv .byte (Int32.ofNat (2 * cap)) (StrChars.Road.wideBytes ys) (.int (0 : Int32))) (gv : Z.heap.size ≤ va) (hsv : sb ≠ va) {kt : ClassId} (H : HS Z h0 st tb kt xs) (n1 : st ≠ sb) (n2 : st ≠ va) (n3 : tb ≠ sb) (n4 : tb ≠ va) (hc : ys.length ≤ cap) (hcb : cap ≤ 404) (hsum : ys.length + xs.length ≤ cap) :
    Con l Z EL0 (⟨"java/lang/AbstractStringBuilder", "putStringAt", "(ILjava/lang/String;)V"⟩ : MethodName) jdk_68_method_73_code 3 none ({ frames := 2, cells := 0, slots := 0, locals := 33 } : Room) #[(.ref sb), (.int (Int32.ofNat ys.length)), (.ref st)] h0 [va] (fun v h' Sf => v = none ∧ Keep h0 h' [sb, va] ∧ ∃ (v2 : Addr) (k2 : ClassId), (v2 = va ∨ h0.size ≤ v2) ∧ Sf v2 ∧ Fld Z h' sb "java/lang/AbstractStringBuilder" "value" "[B" (.ref v2) ∧ Fld Z h' sb "java/lang/AbstractStringBuilder" "coder" "B" (.int (1 : Int32)) ∧ Fld Z h' sb "java/lang/AbstractStringBuilder" "count" "I" (.int (Int32.ofNat ys.length)) ∧ Fld Z h' sb "java/lang/AbstractStringBuilder" "maybeLatin1" "Z" (.int (0 : Int32)) ∧ Arv Z h' v2 k2 .byte (Int32.ofNat (2 * cap)) (StrChars.Road.wideBytes (ys ++ xs)) (.int (0 : Int32))) := by
  have hpn : plainName "java/lang/AbstractStringBuilder" = true := by first | (simp [plainName, overriddenIn]; done) | decide +kernel
  refine Con.intro (plainFor_of_name hpn) ?_
  intro p e s m below meth c T X hss
  have S_va := hss va (by simp)
  refine Goes.cast (g' := mkF m 0 #[.val (.ref sb), .val (.int (Int32.ofNat ys.length)), .val (.ref st)] []) (by first | (simp [entryFrame, mkF, argsToLocals, Value.category]; done) | rfl) ?_
  refine o_aloadN X d_jdk_68_method_73_0 rfl rfl (q := 1) rfl ?_
  refine o_aloadN X d_jdk_68_method_73_1 rfl rfl (q := 2) rfl ?_
  refine o_priv X [(.ref st)] (y' := (⟨"java/lang/AbstractStringBuilder", "inflateIfNeededFor", "(Ljava/lang/String;)V"⟩ : MethodName)) E (c_ifn11 hw sb va st tb cap ys xs _ O2 P5 E gs F_value F_coder F_count F_maybeLatin1 Vv gv hsv ⟨H.1, H.2.1, H.2.2.1, H.2.2.2.1, H.2.2.2.2⟩) all0 (w80 hw) (w81 hw) (sel_up (w83 hw) (w81 hw) (w82 hw) (by decide)) (w82 hw) (w84 hw) (w48 hw) (by decide) d_jdk_68_method_73_2 (rest := []) rfl rfl (lenOf pd26 rfl) rfl (by decide) (Nat.le_of_ble_eq_true rfl) (by decide) (by decide) (q := 5) rfl ?_
  intro v1 vm1 T1 h1 l1 X1 R1 q1
  obtain ⟨rfl, e1⟩ := q1
  have e1 := e1.symm
  subst e1
  show Goes p e below _ T1 (mkF m 5 #[.val (.ref sb), .val (.int (Int32.ofNat ys.length)), .val (.ref st)] [])
  refine o_aloadN X1 d_jdk_68_method_73_5 rfl rfl (q := 6) rfl ?_
  refine o_aloadN X1 d_jdk_68_method_73_6 rfl rfl (q := 7) rfl ?_
  have f2 := F_value
  refine o_getF X1 f2 (host := "") (Or.inl (w52 hw)) Via.refl d_jdk_68_method_73_7 (q := 10) rfl ?_
  intro T3 X3
  refine o_iloadN X3 d_jdk_68_method_73_10 rfl (q := 11) rfl ?_
  refine o_aloadN X3 d_jdk_68_method_73_11 rfl rfl (q := 12) rfl ?_
  have f4 := F_coder
  refine o_getF X3 f4 (host := "") (Or.inl (w54 hw)) Via.refl d_jdk_68_method_73_12 (q := 15) rfl ?_
  intro T5 X5
  have f6 := Vv
  have f7 := H.1
  have f8 := H.2.1
  have f9 := H.2.2.1
  have f10 := H.2.2.2.1
  have f12 := (CHr.safe R1 (Vv.lt) S_va)
  refine o_virt X5 [(.ref va), (.int (Int32.ofNat ys.length)), (.int (1 : Int32))] (y' := (⟨"java/lang/String", "getBytes", "([BIB)V"⟩ : MethodName)) f7 (c_gb11 hw va st tb cap ys xs _ O2 P5 O4 rfm SA SH SL f6 gv ⟨f7, f8, f9, f10, H.2.2.2.2⟩ n2 n4 hsum hcb) (allS ⟨f6.lt, f12⟩ all0) (w86 hw) (w87 hw) (w89 hw) (w88 hw) (w90 hw) (w4 hw) (by decide) d_jdk_68_method_73_15 (rest := []) rfl rfl (lenOf pd27 rfl) rfl (by decide) (Nat.le_of_ble_eq_true rfl) (by decide) (by decide) (q := 18) rfl ?_
  intro v11 vm11 T11 h11 l11 X11 R11 q11
  obtain ⟨rfl, K11, V11⟩ := q11
  show Goes p e below _ T11 (mkF m 18 #[.val (.ref sb), .val (.int (Int32.ofNat ys.length)), .val (.ref st)] [])
  have k13 := Keep.trans (Keep.refl h0 [sb, va]) K11 (allS (Or.inl (by simp)) all0)
  have f14 := (CHr.safe R11 (f6.lt) f12)
  have f15 := (f2.keep K11 (ninS hsv nin0))
  have f16 := (f4.keep K11 (ninS hsv nin0))
  have f17 := (F_count.keep K11 (ninS hsv nin0))
  have f18 := (F_maybeLatin1.keep K11 (ninS hsv nin0))
  exact o_ret X11 d_jdk_68_method_73_18 (fun Sf hSf => ⟨rfl, k13, va, kv, Or.inl rfl, hSf _ V11.lt f14, f15, f16, f17, f18, V11⟩) (by decide) (by decide)
set_option maxRecDepth 65536 in
set_option maxHeartbeats 40000000 in
theorem c_app00n {l : Launch} {Z : State} {a0 : Array Value} (hw : W a0 Z) (sb va st tb : Addr) (cap : Nat) (ys xs : List Int32) (h0 : Heap) {zc : Int32} (O2 : Sta Z Z.heap "java/lang/String" "COMPACT_STRINGS" "Z" (.int zc)) (P5 : ¬ zc = 0) {fm : Value} (O4 : Sta Z Z.heap "jdk/internal/util/Preconditions" "SIOOBE_FORMATTER" "Ljava/util/function/BiFunction;" fm) (rfm : fm.isRef = true) (SA : Sta Z Z.heap "java/lang/StringUTF16" "$assertionsDisabled" "Z" (.int (1 : Int32))) (SH : Sta Z Z.heap "java/lang/StringUTF16" "HI_BYTE_SHIFT" "I" (.int (0 : Int32))) (SL : Sta Z Z.heap "java/lang/StringUTF16" "LO_BYTE_SHIFT" "I" (.int (8 : Int32))) (E : Exa Z h0 sb "java/lang/StringBuilder") (gs : Z.heap.size ≤ sb) (F_value : Fld Z h0 sb "java/lang/AbstractStringBuilder" "value" "[B" (.ref va)) (F_coder : Fld Z h0 sb "java/lang/AbstractStringBuilder" "coder" "B" (.int (0 : Int32))) (F_count : Fld Z h0 sb "java/lang/AbstractStringBuilder" "count" "I" (.int (Int32.ofNat ys.length))) (F_maybeLatin1 : Fld Z h0 sb "java/lang/AbstractStringBuilder" "maybeLatin1" "Z" (.int (0 : Int32))) {kv : ClassId} (Vv : Arv Z h0 va kv .byte (Int32.ofNat cap) (LB ys) (.int (0 : Int32))) (gv : Z.heap.size ≤ va) (hsv : sb ≠ va) {kt : ClassId} (L : LS Z h0 st tb kt xs) (n1 : st ≠ sb) (n2 : st ≠ va) (n3 : tb ≠ sb) (n4 : tb ≠ va) (hc : ys.length ≤ cap) (hcb : cap ≤ 404) (hry : ∀ c ∈ ys, Rg c) (hyl : ∀ c ∈ ys, ¬ c < 0 ∧ ¬ (255 : Int32) < c) (hgr : ys.length + xs.length ≤ cap) :
    Con l Z EL0 (⟨"java/lang/AbstractStringBuilder", "append", "(Ljava/lang/String;)Ljava/lang/AbstractStringBuilder;"⟩ : MethodName) jdk_68_method_22_code 3 (some (.object "java/lang/AbstractStringBuilder")) ({ frames := 8, cells := 2, slots := 1616, locals := 116 } : Room) #[(.ref sb), (.ref st)] h0 [va] (fun v h' Sf => v = some (.ref sb) ∧ Keep h0 h' [sb, va] ∧ ∃ (v2 : Addr) (k2 : ClassId), (v2 = va ∨ h0.size ≤ v2) ∧ Sf v2 ∧ BS Z h' sb v2 k2 (nc cap (ys.length + xs.length)) (ys ++ xs)) := by
  have hpn : plainName "java/lang/AbstractStringBuilder" = true := by first | (simp [plainName, overriddenIn]; done) | decide +kernel
  refine Con.intro (plainFor_of_name hpn) ?_
  intro p e s m below meth c T X hss
  have S_va := hss va (by simp)
  refine Goes.cast (g' := mkF m 0 #[.val (.ref sb), .val (.ref st), .unset] []) (by first | (simp [entryFrame, mkF, argsToLocals, Value.category]; done) | rfl) ?_
  have U : US Z h0 st tb kt xs := Or.inl L
  refine o_aloadN X d_jdk_68_method_22_0 rfl rfl (q := 1) rfl ?_
  refine o_ifnonnullY X d_jdk_68_method_22_1 (by decide) (q := 9) (by decide) ?_
  refine o_aloadN X d_jdk_68_method_22_9 rfl rfl (q := 10) rfl ?_
  refine o_strlenU X U O2 P5 (hwln hw) (w3 hw) (w67 hw) (w28 hw) (w30 hw) (w29 hw) d_jdk_68_method_22_10 rfl (by decide) (Nat.le_of_ble_eq_true rfl) (by decide) (by decide) (q := 13) rfl ?_
  intro T1 l1 X1
  refine o_istoreN X1 d_jdk_68_method_22_13 rfl (L' := #[.val (.ref sb), .val (.ref st), .val (.int (Int32.ofNat xs.length))]) rfl (q := 14) rfl ?_
  refine o_aloadN X1 d_jdk_68_method_22_14 rfl rfl (q := 15) rfl ?_
  refine o_aloadN X1 d_jdk_68_method_22_15 rfl rfl (q := 16) rfl ?_
  refine o_getF X1 F_count (host := "") (Or.inl (w68 hw)) Via.refl d_jdk_68_method_22_16 (q := 19) rfl ?_
  intro T2 X2
  refine o_iloadN X2 d_jdk_68_method_22_19 rfl (q := 20) rfl ?_
  refine o_iadd X2 d_jdk_68_method_22_20 (w := (Int32.ofNat (ys.length + xs.length))) (n_add _ _) (q := 21) rfl ?_
  refine o_priv X2 [(.int (Int32.ofNat (ys.length + xs.length)))] (y' := (⟨"java/lang/AbstractStringBuilder", "ensureCapacityInternal", "(I)V"⟩ : MethodName)) E (c_ens0n hw sb va cap (ys.length + xs.length) ys _ E gs F_value F_coder F_count F_maybeLatin1 Vv gv hsv hc hcb hgr) all0 (w70 hw) (w71 hw) (sel_up (w73 hw) (w71 hw) (w72 hw) (by decide)) (w72 hw) (w74 hw) (w48 hw) (by decide) d_jdk_68_method_22_21 (rest := []) rfl rfl (lenOf pd28 rfl) rfl (by decide) (Nat.le_of_ble_eq_true rfl) (by decide) (by decide) (q := 24) rfl ?_
  intro v3 vm3 T3 h3 l3 X3 R3 q3
  obtain ⟨rfl, e3⟩ := q3
  have e3 := e3.symm
  subst e3
  show Goes p e below _ T3 (mkF m 24 #[.val (.ref sb), .val (.ref st), .val (.int (Int32.ofNat xs.length))] [])
  refine o_aloadN X3 d_jdk_68_method_22_24 rfl rfl (q := 25) rfl ?_
  refine o_aloadN X3 d_jdk_68_method_22_25 rfl rfl (q := 26) rfl ?_
  have f4 := F_count
  refine o_getF X3 f4 (host := "") (Or.inl (w68 hw)) Via.refl d_jdk_68_method_22_26 (q := 29) rfl ?_
  intro T5 X5
  refine o_aloadN X5 d_jdk_68_method_22_29 rfl rfl (q := 30) rfl ?_
  have f6 := E
  have f7 := F_value
  have f8 := F_coder
  have f9 := F_maybeLatin1
  have f10 := Vv
  have f11 := L.1
  have f12 := L.2.1
  have f13 := L.2.2.1
  have f14 := L.2.2.2.1
  have f16 := (CHr.safe R3 (Vv.lt) S_va)
  refine o_priv X5 [(.int (Int32.ofNat ys.length)), (.ref st)] (y' := (⟨"java/lang/AbstractStringBuilder", "putStringAt", "(ILjava/lang/String;)V"⟩ : MethodName)) f6 (c_psa00 hw sb va st tb cap ys xs _ O2 P5 O4 rfm SA SH SL f6 gs f7 f8 f4 f9 f10 gv hsv ⟨f11, f12, f13, f14, L.2.2.2.2⟩ n1 n2 n3 n4 (by omega) (by omega) (by omega) hyl) (allS ⟨f10.lt, f16⟩ all0) (w75 hw) (w76 hw) (sel_up (w78 hw) (w76 hw) (w77 hw) (by decide)) (w77 hw) (w79 hw) (w48 hw) (by decide) d_jdk_68_method_22_30 (rest := []) rfl rfl (lenOf pd29 rfl) rfl (by decide) (Nat.le_of_ble_eq_true rfl) (by decide) (by decide) (q := 33) rfl ?_
  intro v15 vm15 T15 h15 l15 X15 R15 q15
  obtain ⟨rfl, K15, b15, kb15, g15, s15, Fvalue15, Fcoder15, Fcount15, FmaybeLatin115, V15⟩ := q15
  show Goes p e below _ T15 (mkF m 33 #[.val (.ref sb), .val (.ref st), .val (.int (Int32.ofNat xs.length))] [])
  have ge15 : Z.heap.size ≤ b15 := own_ge2 X5.size gv g15
  have nb15 : sb ≠ b15 := own_ne2 hsv f4.lt g15
  refine o_aloadN X15 d_jdk_68_method_22_33 rfl rfl (q := 34) rfl ?_
  refine o_dup X15 d_jdk_68_method_22_34 rfl (q := 35) rfl ?_
  refine o_getF X15 Fcount15 (host := "") (Or.inl (w68 hw)) Via.refl d_jdk_68_method_22_35 (q := 38) rfl ?_
  intro T17 X17
  refine o_iloadN X17 d_jdk_68_method_22_38 rfl (q := 39) rfl ?_
  refine o_iadd X17 d_jdk_68_method_22_39 (w := (Int32.ofNat (ys.length + xs.length))) (n_add _ _) (q := 40) rfl ?_
  have f18 := (f6.keep K15)
  refine o_putF X17 Fcount15 f18 gs (Safe.exa X17.alike f18 (by decide) (by decide)) (host := "") (Or.inl (w68 hw)) Via.refl (Or.inl (w69 hw)) (w39 hw) (ty := .int) (by decide) rfl rfl d_jdk_68_method_22_40 (q := 43) rfl ?_
  intro T19 h19 l19 X19 W19 R19 F19
  refine o_aloadN X19 d_jdk_68_method_22_43 rfl rfl (q := 44) rfl ?_
  have k20 := Keep.trans (Keep.refl h0 [sb, va]) K15 (allS (Or.inl (by simp)) (allS (Or.inl (by simp)) all0))
  have k21 := Keep.wr k20 W19 (Or.inl (by simp))
  have f22 := (Fvalue15.other W19 (Or.inr (slot_ne (Or.inl (w53 hw)) (Or.inl (w69 hw)) (by decide) (t := (.array .byte)) (t' := .int) (by decide) (by decide))))
  have f23 := (Fcoder15.other W19 (Or.inr (slot_ne (Or.inl (w55 hw)) (Or.inl (w69 hw)) (by decide) (t := .byte) (t' := .int) (by decide) (by decide))))
  have f24 := (FmaybeLatin115.other W19 (Or.inr (slot_ne (Or.inl (w280 hw)) (Or.inl (w69 hw)) (by decide) (t := .boolean) (t' := .int) (by decide) (by decide))))
  have f25 := (V15.other W19 (Ne.symm nb15))
  have f26 := (CHr.safe R19 (V15.lt) s15)
  have f27 := (f18.wr W19)
  exact o_retR X19 d_jdk_68_method_22_44 rfl rfl rfl (fun Sf hSf => ⟨rfl, k21, b15, kb15, (own_org0 g15 (Nat.le_refl _)), hSf _ f25.lt f26, (by rw [nc_sm hgr]; exact ⟨f27, f22, (by rw [List.length_append]; exact F19), f24, Or.inl ⟨f23, f25, (own_allA hyl L.2.2.2.2.1)⟩, own_allR hry U.rg, by rw [List.length_append]; omega⟩)⟩) (by decide) (by decide)
set_option maxRecDepth 65536 in
set_option maxHeartbeats 40000000 in
theorem c_app00g {l : Launch} {Z : State} {a0 : Array Value} (hw : W a0 Z) (sb va st tb : Addr) (cap : Nat) (ys xs : List Int32) (h0 : Heap) {zc : Int32} (O2 : Sta Z Z.heap "java/lang/String" "COMPACT_STRINGS" "Z" (.int zc)) (P5 : ¬ zc = 0) {fm : Value} (O4 : Sta Z Z.heap "jdk/internal/util/Preconditions" "SIOOBE_FORMATTER" "Ljava/util/function/BiFunction;" fm) (rfm : fm.isRef = true) (SA : Sta Z Z.heap "java/lang/StringUTF16" "$assertionsDisabled" "Z" (.int (1 : Int32))) (SH : Sta Z Z.heap "java/lang/StringUTF16" "HI_BYTE_SHIFT" "I" (.int (0 : Int32))) (SL : Sta Z Z.heap "java/lang/StringUTF16" "LO_BYTE_SHIFT" "I" (.int (8 : Int32))) (E : Exa Z h0 sb "java/lang/StringBuilder") (gs : Z.heap.size ≤ sb) (F_value : Fld Z h0 sb "java/lang/AbstractStringBuilder" "value" "[B" (.ref va)) (F_coder : Fld Z h0 sb "java/lang/AbstractStringBuilder" "coder" "B" (.int (0 : Int32))) (F_count : Fld Z h0 sb "java/lang/AbstractStringBuilder" "count" "I" (.int (Int32.ofNat ys.length))) (F_maybeLatin1 : Fld Z h0 sb "java/lang/AbstractStringBuilder" "maybeLatin1" "Z" (.int (0 : Int32))) {kv : ClassId} (Vv : Arv Z h0 va kv .byte (Int32.ofNat cap) (LB ys) (.int (0 : Int32))) (gv : Z.heap.size ≤ va) (hsv : sb ≠ va) {kt : ClassId} (L : LS Z h0 st tb kt xs) (n1 : st ≠ sb) (n2 : st ≠ va) (n3 : tb ≠ sb) (n4 : tb ≠ va) (hc : ys.length ≤ cap) (hcb : cap ≤ 404) (hry : ∀ c ∈ ys, Rg c) (hyl : ∀ c ∈ ys, ¬ c < 0 ∧ ¬ (255 : Int32) < c) (hgr : cap < ys.length + xs.length) (hnd : max (ys.length + xs.length) (2 * cap + 2) ≤ 404) :
    Con l Z EL0 (⟨"java/lang/AbstractStringBuilder", "append", "(Ljava/lang/String;)Ljava/lang/AbstractStringBuilder;"⟩ : MethodName) jdk_68_method_22_code 3 (some (.object "java/lang/AbstractStringBuilder")) ({ frames := 8, cells := 2, slots := 1616, locals := 116 } : Room) #[(.ref sb), (.ref st)] h0 [va] (fun v h' Sf => v = some (.ref sb) ∧ Keep h0 h' [sb, va] ∧ ∃ (v2 : Addr) (k2 : ClassId), (v2 = va ∨ h0.size ≤ v2) ∧ Sf v2 ∧ BS Z h' sb v2 k2 (nc cap (ys.length + xs.length)) (ys ++ xs)) := by
  have hpn : plainName "java/lang/AbstractStringBuilder" = true := by first | (simp [plainName, overriddenIn]; done) | decide +kernel
  refine Con.intro (plainFor_of_name hpn) ?_
  intro p e s m below meth c T X hss
  have S_va := hss va (by simp)
  refine Goes.cast (g' := mkF m 0 #[.val (.ref sb), .val (.ref st), .unset] []) (by first | (simp [entryFrame, mkF, argsToLocals, Value.category]; done) | rfl) ?_
  have U : US Z h0 st tb kt xs := Or.inl L
  refine o_aloadN X d_jdk_68_method_22_0 rfl rfl (q := 1) rfl ?_
  refine o_ifnonnullY X d_jdk_68_method_22_1 (by decide) (q := 9) (by decide) ?_
  refine o_aloadN X d_jdk_68_method_22_9 rfl rfl (q := 10) rfl ?_
  refine o_strlenU X U O2 P5 (hwln hw) (w3 hw) (w67 hw) (w28 hw) (w30 hw) (w29 hw) d_jdk_68_method_22_10 rfl (by decide) (Nat.le_of_ble_eq_true rfl) (by decide) (by decide) (q := 13) rfl ?_
  intro T1 l1 X1
  refine o_istoreN X1 d_jdk_68_method_22_13 rfl (L' := #[.val (.ref sb), .val (.ref st), .val (.int (Int32.ofNat xs.length))]) rfl (q := 14) rfl ?_
  refine o_aloadN X1 d_jdk_68_method_22_14 rfl rfl (q := 15) rfl ?_
  refine o_aloadN X1 d_jdk_68_method_22_15 rfl rfl (q := 16) rfl ?_
  refine o_getF X1 F_count (host := "") (Or.inl (w68 hw)) Via.refl d_jdk_68_method_22_16 (q := 19) rfl ?_
  intro T2 X2
  refine o_iloadN X2 d_jdk_68_method_22_19 rfl (q := 20) rfl ?_
  refine o_iadd X2 d_jdk_68_method_22_20 (w := (Int32.ofNat (ys.length + xs.length))) (n_add _ _) (q := 21) rfl ?_
  refine o_priv X2 [(.int (Int32.ofNat (ys.length + xs.length)))] (y' := (⟨"java/lang/AbstractStringBuilder", "ensureCapacityInternal", "(I)V"⟩ : MethodName)) E (c_ens0g hw sb va cap (ys.length + xs.length) ys _ E gs F_value F_coder F_count F_maybeLatin1 Vv gv hsv hc hcb hgr hnd) all0 (w70 hw) (w71 hw) (sel_up (w73 hw) (w71 hw) (w72 hw) (by decide)) (w72 hw) (w74 hw) (w48 hw) (by decide) d_jdk_68_method_22_21 (rest := []) rfl rfl (lenOf pd28 rfl) rfl (by decide) (Nat.le_of_ble_eq_true rfl) (by decide) (by decide) (q := 24) rfl ?_
  intro v3 vm3 T3 h3 l3 X3 R3 q3
  obtain ⟨rfl, K3, b3, kb3, g3, s3, Fvalue3, Fcoder3, Fcount3, FmaybeLatin13, V3⟩ := q3
  show Goes p e below _ T3 (mkF m 24 #[.val (.ref sb), .val (.ref st), .val (.int (Int32.ofNat xs.length))] [])
  refine o_aloadN X3 d_jdk_68_method_22_24 rfl rfl (q := 25) rfl ?_
  refine o_aloadN X3 d_jdk_68_method_22_25 rfl rfl (q := 26) rfl ?_
  refine o_getF X3 Fcount3 (host := "") (Or.inl (w68 hw)) Via.refl d_jdk_68_method_22_26 (q := 29) rfl ?_
  intro T4 X4
  refine o_aloadN X4 d_jdk_68_method_22_29 rfl rfl (q := 30) rfl ?_
  have f5 := (E.keep K3)
  have f6 := (L.1.keep K3)
  have f7 := (L.2.1.keep K3 (ninS n1 nin0))
  have f8 := (L.2.2.1.keep K3 (ninS n1 nin0))
  have f9 := (L.2.2.2.1.keep K3 (ninS n3 nin0))
  refine o_priv X4 [(.int (Int32.ofNat ys.length)), (.ref st)] (y' := (⟨"java/lang/AbstractStringBuilder", "putStringAt", "(ILjava/lang/String;)V"⟩ : MethodName)) f5 (c_psa00 hw sb b3 st tb (max (ys.length + xs.length) (2 * cap + 2)) ys xs _ O2 P5 O4 rfm SA SH SL f5 gs Fvalue3 Fcoder3 Fcount3 FmaybeLatin13 V3 (Nat.le_trans X2.size g3) (Nat.ne_of_lt (Nat.lt_of_lt_of_le E.lt g3)) ⟨f6, f7, f8, f9, L.2.2.2.2⟩ n1 (Nat.ne_of_lt (Nat.lt_of_lt_of_le L.1.lt g3)) n3 (Nat.ne_of_lt (Nat.lt_of_lt_of_le L.2.2.2.1.lt g3)) (by omega) (by omega) (by omega) hyl) (allS ⟨V3.lt, s3⟩ all0) (w75 hw) (w76 hw) (sel_up (w78 hw) (w76 hw) (w77 hw) (by decide)) (w77 hw) (w79 hw) (w48 hw) (by decide) d_jdk_68_method_22_30 (rest := []) rfl rfl (lenOf pd29 rfl) rfl (by decide) (Nat.le_of_ble_eq_true rfl) (by decide) (by decide) (q := 33) rfl ?_
  intro v10 vm10 T10 h10 l10 X10 R10 q10
  obtain ⟨rfl, K10, b10, kb10, g10, s10, Fvalue10, Fcoder10, Fcount10, FmaybeLatin110, V10⟩ := q10
  show Goes p e below _ T10 (mkF m 33 #[.val (.ref sb), .val (.ref st), .val (.int (Int32.ofNat xs.length))] [])
  have ge10 : Z.heap.size ≤ b10 := own_ge2 X4.size (Nat.le_trans X2.size g3) g10
  have nb10 : sb ≠ b10 := own_ne2 (Nat.ne_of_lt (Nat.lt_of_lt_of_le E.lt g3)) Fvalue3.lt g10
  refine o_aloadN X10 d_jdk_68_method_22_33 rfl rfl (q := 34) rfl ?_
  refine o_dup X10 d_jdk_68_method_22_34 rfl (q := 35) rfl ?_
  refine o_getF X10 Fcount10 (host := "") (Or.inl (w68 hw)) Via.refl d_jdk_68_method_22_35 (q := 38) rfl ?_
  intro T11 X11
  refine o_iloadN X11 d_jdk_68_method_22_38 rfl (q := 39) rfl ?_
  refine o_iadd X11 d_jdk_68_method_22_39 (w := (Int32.ofNat (ys.length + xs.length))) (n_add _ _) (q := 40) rfl ?_
  have f12 := (f5.keep K10)
  refine o_putF X11 Fcount10 f12 gs (Safe.exa X11.alike f12 (by decide) (by decide)) (host := "") (Or.inl (w68 hw)) Via.refl (Or.inl (w69 hw)) (w39 hw) (ty := .int) (by decide) rfl rfl d_jdk_68_method_22_40 (q := 43) rfl ?_
  intro T13 h13 l13 X13 W13 R13 F13
  refine o_aloadN X13 d_jdk_68_method_22_43 rfl rfl (q := 44) rfl ?_
  have sz14 := Nat.le_trans (Keep.refl h0 [sb, va]).1 g3
  have k15 := Keep.trans (Keep.refl h0 [sb, va]) K3 (allS (Or.inl (by simp)) all0)
  have k16 := Keep.trans k15 K10 (allS (Or.inl (by simp)) (allS (Or.inr sz14) all0))
  have k17 := Keep.wr k16 W13 (Or.inl (by simp))
  have f18 := (Fvalue10.other W13 (Or.inr (slot_ne (Or.inl (w53 hw)) (Or.inl (w69 hw)) (by decide) (t := (.array .byte)) (t' := .int) (by decide) (by decide))))
  have f19 := (Fcoder10.other W13 (Or.inr (slot_ne (Or.inl (w55 hw)) (Or.inl (w69 hw)) (by decide) (t := .byte) (t' := .int) (by decide) (by decide))))
  have f20 := (FmaybeLatin110.other W13 (Or.inr (slot_ne (Or.inl (w280 hw)) (Or.inl (w69 hw)) (by decide) (t := .boolean) (t' := .int) (by decide) (by decide))))
  have f21 := (V10.other W13 (Ne.symm nb10))
  have f22 := (CHr.safe R13 (V10.lt) s10)
  have f23 := (f12.wr W13)
  exact o_retR X13 d_jdk_68_method_22_44 rfl rfl rfl (fun Sf hSf => ⟨rfl, k17, b10, kb10, (own_org g10 sz14 K3.1), hSf _ f21.lt f22, (by rw [nc_big hgr]; exact ⟨f23, f18, (by rw [List.length_append]; exact F13), f20, Or.inl ⟨f19, f21, (own_allA hyl L.2.2.2.2.1)⟩, own_allR hry U.rg, by rw [List.length_append]; omega⟩)⟩) (by decide) (by decide)
set_option maxRecDepth 65536 in
set_option maxHeartbeats 40000000 in
theorem c_app01n {l : Launch} {Z : State} {a0 : Array Value} (hw : W a0 Z) (sb va st tb : Addr) (cap : Nat) (ys xs : List Int32) (h0 : Heap) {zc : Int32} (O2 : Sta Z Z.heap "java/lang/String" "COMPACT_STRINGS" "Z" (.int zc)) (P5 : ¬ zc = 0) {fm : Value} (O4 : Sta Z Z.heap "jdk/internal/util/Preconditions" "SIOOBE_FORMATTER" "Ljava/util/function/BiFunction;" fm) (rfm : fm.isRef = true) (SA : Sta Z Z.heap "java/lang/StringUTF16" "$assertionsDisabled" "Z" (.int (1 : Int32))) (SH : Sta Z Z.heap "java/lang/StringUTF16" "HI_BYTE_SHIFT" "I" (.int (0 : Int32))) (SL : Sta Z Z.heap "java/lang/StringUTF16" "LO_BYTE_SHIFT" "I" (.int (8 : Int32))) (E : Exa Z h0 sb "java/lang/StringBuilder") (gs : Z.heap.size ≤ sb) (F_value : Fld Z h0 sb "java/lang/AbstractStringBuilder" "value" "[B" (.ref va)) (F_coder : Fld Z h0 sb "java/lang/AbstractStringBuilder" "coder" "B" (.int (0 : Int32))) (F_count : Fld Z h0 sb "java/lang/AbstractStringBuilder" "count" "I" (.int (Int32.ofNat ys.length))) (F_maybeLatin1 : Fld Z h0 sb "java/lang/AbstractStringBuilder" "maybeLatin1" "Z" (.int (0 : Int32))) {kv : ClassId} (Vv : Arv Z h0 va kv .byte (Int32.ofNat cap) (LB ys) (.int (0 : Int32))) (gv : Z.heap.size ≤ va) (hsv : sb ≠ va) {kt : ClassId} (H : HS Z h0 st tb kt xs) (n1 : st ≠ sb) (n2 : st ≠ va) (n3 : tb ≠ sb) (n4 : tb ≠ va) (hc : ys.length ≤ cap) (hcb : cap ≤ 404) (hry : ∀ c ∈ ys, Rg c) (hyl : ∀ c ∈ ys, ¬ c < 0 ∧ ¬ (255 : Int32) < c) (hgr : ys.length + xs.length ≤ cap) :
    Con l Z EL0 (⟨"java/lang/AbstractStringBuilder", "append", "(Ljava/lang/String;)Ljava/lang/AbstractStringBuilder;"⟩ : MethodName) jdk_68_method_22_code 3 (some (.object "java/lang/AbstractStringBuilder")) ({ frames := 8, cells := 2, slots := 1616, locals := 116 } : Room) #[(.ref sb), (.ref st)] h0 [va] (fun v h' Sf => v = some (.ref sb) ∧ Keep h0 h' [sb, va] ∧ ∃ (v2 : Addr) (k2 : ClassId), (v2 = va ∨ h0.size ≤ v2) ∧ Sf v2 ∧ BS Z h' sb v2 k2 (nc cap (ys.length + xs.length)) (ys ++ xs)) := by
  have hpn : plainName "java/lang/AbstractStringBuilder" = true := by first | (simp [plainName, overriddenIn]; done) | decide +kernel
  refine Con.intro (plainFor_of_name hpn) ?_
  intro p e s m below meth c T X hss
  have S_va := hss va (by simp)
  refine Goes.cast (g' := mkF m 0 #[.val (.ref sb), .val (.ref st), .unset] []) (by first | (simp [entryFrame, mkF, argsToLocals, Value.category]; done) | rfl) ?_
  have U : US Z h0 st tb kt xs := Or.inr H
  refine o_aloadN X d_jdk_68_method_22_0 rfl rfl (q := 1) rfl ?_
  refine o_ifnonnullY X d_jdk_68_method_22_1 (by decide) (q := 9) (by decide) ?_
  refine o_aloadN X d_jdk_68_method_22_9 rfl rfl (q := 10) rfl ?_
  refine o_strlenU X U O2 P5 (hwln hw) (w3 hw) (w67 hw) (w28 hw) (w30 hw) (w29 hw) d_jdk_68_method_22_10 rfl (by decide) (Nat.le_of_ble_eq_true rfl) (by decide) (by decide) (q := 13) rfl ?_
  intro T1 l1 X1
  refine o_istoreN X1 d_jdk_68_method_22_13 rfl (L' := #[.val (.ref sb), .val (.ref st), .val (.int (Int32.ofNat xs.length))]) rfl (q := 14) rfl ?_
  refine o_aloadN X1 d_jdk_68_method_22_14 rfl rfl (q := 15) rfl ?_
  refine o_aloadN X1 d_jdk_68_method_22_15 rfl rfl (q := 16) rfl ?_
  refine o_getF X1 F_count (host := "") (Or.inl (w68 hw)) Via.refl d_jdk_68_method_22_16 (q := 19) rfl ?_
  intro T2 X2
  refine o_iloadN X2 d_jdk_68_method_22_19 rfl (q := 20) rfl ?_
  refine o_iadd X2 d_jdk_68_method_22_20 (w := (Int32.ofNat (ys.length + xs.length))) (n_add _ _) (q := 21) rfl ?_
  refine o_priv X2 [(.int (Int32.ofNat (ys.length + xs.length)))] (y' := (⟨"java/lang/AbstractStringBuilder", "ensureCapacityInternal", "(I)V"⟩ : MethodName)) E (c_ens0n hw sb va cap (ys.length + xs.length) ys _ E gs F_value F_coder F_count F_maybeLatin1 Vv gv hsv hc hcb hgr) all0 (w70 hw) (w71 hw) (sel_up (w73 hw) (w71 hw) (w72 hw) (by decide)) (w72 hw) (w74 hw) (w48 hw) (by decide) d_jdk_68_method_22_21 (rest := []) rfl rfl (lenOf pd28 rfl) rfl (by decide) (Nat.le_of_ble_eq_true rfl) (by decide) (by decide) (q := 24) rfl ?_
  intro v3 vm3 T3 h3 l3 X3 R3 q3
  obtain ⟨rfl, e3⟩ := q3
  have e3 := e3.symm
  subst e3
  show Goes p e below _ T3 (mkF m 24 #[.val (.ref sb), .val (.ref st), .val (.int (Int32.ofNat xs.length))] [])
  refine o_aloadN X3 d_jdk_68_method_22_24 rfl rfl (q := 25) rfl ?_
  refine o_aloadN X3 d_jdk_68_method_22_25 rfl rfl (q := 26) rfl ?_
  have f4 := F_count
  refine o_getF X3 f4 (host := "") (Or.inl (w68 hw)) Via.refl d_jdk_68_method_22_26 (q := 29) rfl ?_
  intro T5 X5
  refine o_aloadN X5 d_jdk_68_method_22_29 rfl rfl (q := 30) rfl ?_
  have f6 := E
  have f7 := F_value
  have f8 := F_coder
  have f9 := F_maybeLatin1
  have f10 := Vv
  have f11 := H.1
  have f12 := H.2.1
  have f13 := H.2.2.1
  have f14 := H.2.2.2.1
  have f16 := (CHr.safe R3 (Vv.lt) S_va)
  refine o_priv X5 [(.int (Int32.ofNat ys.length)), (.ref st)] (y' := (⟨"java/lang/AbstractStringBuilder", "putStringAt", "(ILjava/lang/String;)V"⟩ : MethodName)) f6 (c_psa01 hw sb va st tb cap ys xs _ O2 P5 O4 rfm SA SH SL f6 gs f7 f8 f4 f9 f10 gv hsv ⟨f11, f12, f13, f14, H.2.2.2.2⟩ n1 n2 n3 n4 (by omega) (by omega) (by omega) hyl) (allS ⟨f10.lt, f16⟩ all0) (w75 hw) (w76 hw) (sel_up (w78 hw) (w76 hw) (w77 hw) (by decide)) (w77 hw) (w79 hw) (w48 hw) (by decide) d_jdk_68_method_22_30 (rest := []) rfl rfl (lenOf pd29 rfl) rfl (by decide) (Nat.le_of_ble_eq_true rfl) (by decide) (by decide) (q := 33) rfl ?_
  intro v15 vm15 T15 h15 l15 X15 R15 q15
  obtain ⟨rfl, K15, b15, kb15, g15, s15, Fvalue15, Fcoder15, Fcount15, FmaybeLatin115, V15⟩ := q15
  show Goes p e below _ T15 (mkF m 33 #[.val (.ref sb), .val (.ref st), .val (.int (Int32.ofNat xs.length))] [])
  have ge15 : Z.heap.size ≤ b15 := own_ge2 X5.size gv g15
  have nb15 : sb ≠ b15 := own_ne2 hsv f4.lt g15
  refine o_aloadN X15 d_jdk_68_method_22_33 rfl rfl (q := 34) rfl ?_
  refine o_dup X15 d_jdk_68_method_22_34 rfl (q := 35) rfl ?_
  refine o_getF X15 Fcount15 (host := "") (Or.inl (w68 hw)) Via.refl d_jdk_68_method_22_35 (q := 38) rfl ?_
  intro T17 X17
  refine o_iloadN X17 d_jdk_68_method_22_38 rfl (q := 39) rfl ?_
  refine o_iadd X17 d_jdk_68_method_22_39 (w := (Int32.ofNat (ys.length + xs.length))) (n_add _ _) (q := 40) rfl ?_
  have f18 := (f6.keep K15)
  refine o_putF X17 Fcount15 f18 gs (Safe.exa X17.alike f18 (by decide) (by decide)) (host := "") (Or.inl (w68 hw)) Via.refl (Or.inl (w69 hw)) (w39 hw) (ty := .int) (by decide) rfl rfl d_jdk_68_method_22_40 (q := 43) rfl ?_
  intro T19 h19 l19 X19 W19 R19 F19
  refine o_aloadN X19 d_jdk_68_method_22_43 rfl rfl (q := 44) rfl ?_
  have k20 := Keep.trans (Keep.refl h0 [sb, va]) K15 (allS (Or.inl (by simp)) (allS (Or.inl (by simp)) all0))
  have k21 := Keep.wr k20 W19 (Or.inl (by simp))
  have f22 := (Fvalue15.other W19 (Or.inr (slot_ne (Or.inl (w53 hw)) (Or.inl (w69 hw)) (by decide) (t := (.array .byte)) (t' := .int) (by decide) (by decide))))
  have f23 := (Fcoder15.other W19 (Or.inr (slot_ne (Or.inl (w55 hw)) (Or.inl (w69 hw)) (by decide) (t := .byte) (t' := .int) (by decide) (by decide))))
  have f24 := (FmaybeLatin115.other W19 (Or.inr (slot_ne (Or.inl (w280 hw)) (Or.inl (w69 hw)) (by decide) (t := .boolean) (t' := .int) (by decide) (by decide))))
  have f25 := (V15.other W19 (Ne.symm nb15))
  have f26 := (CHr.safe R19 (V15.lt) s15)
  have f27 := (f18.wr W19)
  exact o_retR X19 d_jdk_68_method_22_44 rfl rfl rfl (fun Sf hSf => ⟨rfl, k21, b15, kb15, (own_org0 g15 (Nat.le_refl _)), hSf _ f25.lt f26, (by rw [nc_sm hgr]; exact ⟨f27, f22, (by rw [List.length_append]; exact F19), f24, Or.inr ⟨f23, f25, (own_exR H.2.2.2.2.1)⟩, own_allR hry U.rg, by rw [List.length_append]; omega⟩)⟩) (by decide) (by decide)
set_option maxRecDepth 65536 in
set_option maxHeartbeats 40000000 in
theorem c_app01g {l : Launch} {Z : State} {a0 : Array Value} (hw : W a0 Z) (sb va st tb : Addr) (cap : Nat) (ys xs : List Int32) (h0 : Heap) {zc : Int32} (O2 : Sta Z Z.heap "java/lang/String" "COMPACT_STRINGS" "Z" (.int zc)) (P5 : ¬ zc = 0) {fm : Value} (O4 : Sta Z Z.heap "jdk/internal/util/Preconditions" "SIOOBE_FORMATTER" "Ljava/util/function/BiFunction;" fm) (rfm : fm.isRef = true) (SA : Sta Z Z.heap "java/lang/StringUTF16" "$assertionsDisabled" "Z" (.int (1 : Int32))) (SH : Sta Z Z.heap "java/lang/StringUTF16" "HI_BYTE_SHIFT" "I" (.int (0 : Int32))) (SL : Sta Z Z.heap "java/lang/StringUTF16" "LO_BYTE_SHIFT" "I" (.int (8 : Int32))) (E : Exa Z h0 sb "java/lang/StringBuilder") (gs : Z.heap.size ≤ sb) (F_value : Fld Z h0 sb "java/lang/AbstractStringBuilder" "value" "[B" (.ref va)) (F_coder : Fld Z h0 sb "java/lang/AbstractStringBuilder" "coder" "B" (.int (0 : Int32))) (F_count : Fld Z h0 sb "java/lang/AbstractStringBuilder" "count" "I" (.int (Int32.ofNat ys.length))) (F_maybeLatin1 : Fld Z h0 sb "java/lang/AbstractStringBuilder" "maybeLatin1" "Z" (.int (0 : Int32))) {kv : ClassId} (Vv : Arv Z h0 va kv .byte (Int32.ofNat cap) (LB ys) (.int (0 : Int32))) (gv : Z.heap.size ≤ va) (hsv : sb ≠ va) {kt : ClassId} (H : HS Z h0 st tb kt xs) (n1 : st ≠ sb) (n2 : st ≠ va) (n3 : tb ≠ sb) (n4 : tb ≠ va) (hc : ys.length ≤ cap) (hcb : cap ≤ 404) (hry : ∀ c ∈ ys, Rg c) (hyl : ∀ c ∈ ys, ¬ c < 0 ∧ ¬ (255 : Int32) < c) (hgr : cap < ys.length + xs.length) (hnd : max (ys.length + xs.length) (2 * cap + 2) ≤ 404) :
    Con l Z EL0 (⟨"java/lang/AbstractStringBuilder", "append", "(Ljava/lang/String;)Ljava/lang/AbstractStringBuilder;"⟩ : MethodName) jdk_68_method_22_code 3 (some (.object "java/lang/AbstractStringBuilder")) ({ frames := 8, cells := 2, slots := 1616, locals := 116 } : Room) #[(.ref sb), (.ref st)] h0 [va] (fun v h' Sf => v = some (.ref sb) ∧ Keep h0 h' [sb, va] ∧ ∃ (v2 : Addr) (k2 : ClassId), (v2 = va ∨ h0.size ≤ v2) ∧ Sf v2 ∧ BS Z h' sb v2 k2 (nc cap (ys.length + xs.length)) (ys ++ xs)) := by
  have hpn : plainName "java/lang/AbstractStringBuilder" = true := by first | (simp [plainName, overriddenIn]; done) | decide +kernel
  refine Con.intro (plainFor_of_name hpn) ?_
  intro p e s m below meth c T X hss
  have S_va := hss va (by simp)
  refine Goes.cast (g' := mkF m 0 #[.val (.ref sb), .val (.ref st), .unset] []) (by first | (simp [entryFrame, mkF, argsToLocals, Value.category]; done) | rfl) ?_
  have U : US Z h0 st tb kt xs := Or.inr H
  refine o_aloadN X d_jdk_68_method_22_0 rfl rfl (q := 1) rfl ?_
  refine o_ifnonnullY X d_jdk_68_method_22_1 (by decide) (q := 9) (by decide) ?_
  refine o_aloadN X d_jdk_68_method_22_9 rfl rfl (q := 10) rfl ?_
  refine o_strlenU X U O2 P5 (hwln hw) (w3 hw) (w67 hw) (w28 hw) (w30 hw) (w29 hw) d_jdk_68_method_22_10 rfl (by decide) (Nat.le_of_ble_eq_true rfl) (by decide) (by decide) (q := 13) rfl ?_
  intro T1 l1 X1
  refine o_istoreN X1 d_jdk_68_method_22_13 rfl (L' := #[.val (.ref sb), .val (.ref st), .val (.int (Int32.ofNat xs.length))]) rfl (q := 14) rfl ?_
  refine o_aloadN X1 d_jdk_68_method_22_14 rfl rfl (q := 15) rfl ?_
  refine o_aloadN X1 d_jdk_68_method_22_15 rfl rfl (q := 16) rfl ?_
  refine o_getF X1 F_count (host := "") (Or.inl (w68 hw)) Via.refl d_jdk_68_method_22_16 (q := 19) rfl ?_
  intro T2 X2
  refine o_iloadN X2 d_jdk_68_method_22_19 rfl (q := 20) rfl ?_
  refine o_iadd X2 d_jdk_68_method_22_20 (w := (Int32.ofNat (ys.length + xs.length))) (n_add _ _) (q := 21) rfl ?_
  refine o_priv X2 [(.int (Int32.ofNat (ys.length + xs.length)))] (y' := (⟨"java/lang/AbstractStringBuilder", "ensureCapacityInternal", "(I)V"⟩ : MethodName)) E (c_ens0g hw sb va cap (ys.length + xs.length) ys _ E gs F_value F_coder F_count F_maybeLatin1 Vv gv hsv hc hcb hgr hnd) all0 (w70 hw) (w71 hw) (sel_up (w73 hw) (w71 hw) (w72 hw) (by decide)) (w72 hw) (w74 hw) (w48 hw) (by decide) d_jdk_68_method_22_21 (rest := []) rfl rfl (lenOf pd28 rfl) rfl (by decide) (Nat.le_of_ble_eq_true rfl) (by decide) (by decide) (q := 24) rfl ?_
  intro v3 vm3 T3 h3 l3 X3 R3 q3
  obtain ⟨rfl, K3, b3, kb3, g3, s3, Fvalue3, Fcoder3, Fcount3, FmaybeLatin13, V3⟩ := q3
  show Goes p e below _ T3 (mkF m 24 #[.val (.ref sb), .val (.ref st), .val (.int (Int32.ofNat xs.length))] [])
  refine o_aloadN X3 d_jdk_68_method_22_24 rfl rfl (q := 25) rfl ?_
  refine o_aloadN X3 d_jdk_68_method_22_25 rfl rfl (q := 26) rfl ?_
  refine o_getF X3 Fcount3 (host := "") (Or.inl (w68 hw)) Via.refl d_jdk_68_method_22_26 (q := 29) rfl ?_
  intro T4 X4
  refine o_aloadN X4 d_jdk_68_method_22_29 rfl rfl (q := 30) rfl ?_
  have f5 := (E.keep K3)
  have f6 := (H.1.keep K3)
  have f7 := (H.2.1.keep K3 (ninS n1 nin0))
  have f8 := (H.2.2.1.keep K3 (ninS n1 nin0))
  have f9 := (H.2.2.2.1.keep K3 (ninS n3 nin0))
  refine o_priv X4 [(.int (Int32.ofNat ys.length)), (.ref st)] (y' := (⟨"java/lang/AbstractStringBuilder", "putStringAt", "(ILjava/lang/String;)V"⟩ : MethodName)) f5 (c_psa01 hw sb b3 st tb (max (ys.length + xs.length) (2 * cap + 2)) ys xs _ O2 P5 O4 rfm SA SH SL f5 gs Fvalue3 Fcoder3 Fcount3 FmaybeLatin13 V3 (Nat.le_trans X2.size g3) (Nat.ne_of_lt (Nat.lt_of_lt_of_le E.lt g3)) ⟨f6, f7, f8, f9, H.2.2.2.2⟩ n1 (Nat.ne_of_lt (Nat.lt_of_lt_of_le H.1.lt g3)) n3 (Nat.ne_of_lt (Nat.lt_of_lt_of_le H.2.2.2.1.lt g3)) (by omega) (by omega) (by omega) hyl) (allS ⟨V3.lt, s3⟩ all0) (w75 hw) (w76 hw) (sel_up (w78 hw) (w76 hw) (w77 hw) (by decide)) (w77 hw) (w79 hw) (w48 hw) (by decide) d_jdk_68_method_22_30 (rest := []) rfl rfl (lenOf pd29 rfl) rfl (by decide) (Nat.le_of_ble_eq_true rfl) (by decide) (by decide) (q := 33) rfl ?_
  intro v10 vm10 T10 h10 l10 X10 R10 q10
  obtain ⟨rfl, K10, b10, kb10, g10, s10, Fvalue10, Fcoder10, Fcount10, FmaybeLatin110, V10⟩ := q10
  show Goes p e below _ T10 (mkF m 33 #[.val (.ref sb), .val (.ref st), .val (.int (Int32.ofNat xs.length))] [])
  have ge10 : Z.heap.size ≤ b10 := own_ge2 X4.size (Nat.le_trans X2.size g3) g10
  have nb10 : sb ≠ b10 := own_ne2 (Nat.ne_of_lt (Nat.lt_of_lt_of_le E.lt g3)) Fvalue3.lt g10
  refine o_aloadN X10 d_jdk_68_method_22_33 rfl rfl (q := 34) rfl ?_
  refine o_dup X10 d_jdk_68_method_22_34 rfl (q := 35) rfl ?_
  refine o_getF X10 Fcount10 (host := "") (Or.inl (w68 hw)) Via.refl d_jdk_68_method_22_35 (q := 38) rfl ?_
  intro T11 X11
  refine o_iloadN X11 d_jdk_68_method_22_38 rfl (q := 39) rfl ?_
  refine o_iadd X11 d_jdk_68_method_22_39 (w := (Int32.ofNat (ys.length + xs.length))) (n_add _ _) (q := 40) rfl ?_
  have f12 := (f5.keep K10)
  refine o_putF X11 Fcount10 f12 gs (Safe.exa X11.alike f12 (by decide) (by decide)) (host := "") (Or.inl (w68 hw)) Via.refl (Or.inl (w69 hw)) (w39 hw) (ty := .int) (by decide) rfl rfl d_jdk_68_method_22_40 (q := 43) rfl ?_
  intro T13 h13 l13 X13 W13 R13 F13
  refine o_aloadN X13 d_jdk_68_method_22_43 rfl rfl (q := 44) rfl ?_
  have sz14 := Nat.le_trans (Keep.refl h0 [sb, va]).1 g3
  have k15 := Keep.trans (Keep.refl h0 [sb, va]) K3 (allS (Or.inl (by simp)) all0)
  have k16 := Keep.trans k15 K10 (allS (Or.inl (by simp)) (allS (Or.inr sz14) all0))
  have k17 := Keep.wr k16 W13 (Or.inl (by simp))
  have f18 := (Fvalue10.other W13 (Or.inr (slot_ne (Or.inl (w53 hw)) (Or.inl (w69 hw)) (by decide) (t := (.array .byte)) (t' := .int) (by decide) (by decide))))
  have f19 := (Fcoder10.other W13 (Or.inr (slot_ne (Or.inl (w55 hw)) (Or.inl (w69 hw)) (by decide) (t := .byte) (t' := .int) (by decide) (by decide))))
  have f20 := (FmaybeLatin110.other W13 (Or.inr (slot_ne (Or.inl (w280 hw)) (Or.inl (w69 hw)) (by decide) (t := .boolean) (t' := .int) (by decide) (by decide))))
  have f21 := (V10.other W13 (Ne.symm nb10))
  have f22 := (CHr.safe R13 (V10.lt) s10)
  have f23 := (f12.wr W13)
  exact o_retR X13 d_jdk_68_method_22_44 rfl rfl rfl (fun Sf hSf => ⟨rfl, k17, b10, kb10, (own_org g10 sz14 K3.1), hSf _ f21.lt f22, (by rw [nc_big hgr]; exact ⟨f23, f18, (by rw [List.length_append]; exact F13), f20, Or.inr ⟨f19, f21, (own_exR H.2.2.2.2.1)⟩, own_allR hry U.rg, by rw [List.length_append]; omega⟩)⟩) (by decide) (by decide)
set_option maxRecDepth 65536 in
set_option maxHeartbeats 40000000 in
theorem c_app10n {l : Launch} {Z : State} {a0 : Array Value} (hw : W a0 Z) (sb va st tb : Addr) (cap : Nat) (ys xs : List Int32) (h0 : Heap) {zc : Int32} (O2 : Sta Z Z.heap "java/lang/String" "COMPACT_STRINGS" "Z" (.int zc)) (P5 : ¬ zc = 0) {fm : Value} (O4 : Sta Z Z.heap "jdk/internal/util/Preconditions" "SIOOBE_FORMATTER" "Ljava/util/function/BiFunction;" fm) (rfm : fm.isRef = true) (SA : Sta Z Z.heap "java/lang/StringUTF16" "$assertionsDisabled" "Z" (.int (1 : Int32))) (SH : Sta Z Z.heap "java/lang/StringUTF16" "HI_BYTE_SHIFT" "I" (.int (0 : Int32))) (SL : Sta Z Z.heap "java/lang/StringUTF16" "LO_BYTE_SHIFT" "I" (.int (8 : Int32))) (E : Exa Z h0 sb "java/lang/StringBuilder") (gs : Z.heap.size ≤ sb) (F_value : Fld Z h0 sb "java/lang/AbstractStringBuilder" "value" "[B" (.ref va)) (F_coder : Fld Z h0 sb "java/lang/AbstractStringBuilder" "coder" "B" (.int (1 : Int32))) (F_count : Fld Z h0 sb "java/lang/AbstractStringBuilder" "count" "I" (.int (Int32.ofNat ys.length))) (F_maybeLatin1 : Fld Z h0 sb "java/lang/AbstractStringBuilder" "maybeLatin1" "Z" (.int (0 : Int32))) {kv : ClassId} (Vv : Arv Z h0 va kv .byte (Int32.ofNat (2 * cap)) (StrChars.Road.wideBytes ys) (.int (0 : Int32))) (gv : Z.heap.size ≤ va) (hsv : sb ≠ va) {kt : ClassId} (L : LS Z h0 st tb kt xs) (n1 : st ≠ sb) (n2 : st ≠ va) (n3 : tb ≠ sb) (n4 : tb ≠ va) (hc : ys.length ≤ cap) (hcb : cap ≤ 404) (hry : ∀ c ∈ ys, Rg c) (hyh : ∃ c ∈ ys, (255 : Int32) < c) (hgr : ys.length + xs.length ≤ cap) :
    Con l Z EL0 (⟨"java/lang/AbstractStringBuilder", "append", "(Ljava/lang/String;)Ljava/lang/AbstractStringBuilder;"⟩ : MethodName) jdk_68_method_22_code 3 (some (.object "java/lang/AbstractStringBuilder")) ({ frames := 8, cells := 2, slots := 1616, locals := 116 } : Room) #[(.ref sb), (.ref st)] h0 [va] (fun v h' Sf => v = some (.ref sb) ∧ Keep h0 h' [sb, va] ∧ ∃ (v2 : Addr) (k2 : ClassId), (v2 = va ∨ h0.size ≤ v2) ∧ Sf v2 ∧ BS Z h' sb v2 k2 (nc cap (ys.length + xs.length)) (ys ++ xs)) := by
  have hpn : plainName "java/lang/AbstractStringBuilder" = true := by first | (simp [plainName, overriddenIn]; done) | decide +kernel
  refine Con.intro (plainFor_of_name hpn) ?_
  intro p e s m below meth c T X hss
  have S_va := hss va (by simp)
  refine Goes.cast (g' := mkF m 0 #[.val (.ref sb), .val (.ref st), .unset] []) (by first | (simp [entryFrame, mkF, argsToLocals, Value.category]; done) | rfl) ?_
  have U : US Z h0 st tb kt xs := Or.inl L
  refine o_aloadN X d_jdk_68_method_22_0 rfl rfl (q := 1) rfl ?_
  refine o_ifnonnullY X d_jdk_68_method_22_1 (by decide) (q := 9) (by decide) ?_
  refine o_aloadN X d_jdk_68_method_22_9 rfl rfl (q := 10) rfl ?_
  refine o_strlenU X U O2 P5 (hwln hw) (w3 hw) (w67 hw) (w28 hw) (w30 hw) (w29 hw) d_jdk_68_method_22_10 rfl (by decide) (Nat.le_of_ble_eq_true rfl) (by decide) (by decide) (q := 13) rfl ?_
  intro T1 l1 X1
  refine o_istoreN X1 d_jdk_68_method_22_13 rfl (L' := #[.val (.ref sb), .val (.ref st), .val (.int (Int32.ofNat xs.length))]) rfl (q := 14) rfl ?_
  refine o_aloadN X1 d_jdk_68_method_22_14 rfl rfl (q := 15) rfl ?_
  refine o_aloadN X1 d_jdk_68_method_22_15 rfl rfl (q := 16) rfl ?_
  refine o_getF X1 F_count (host := "") (Or.inl (w68 hw)) Via.refl d_jdk_68_method_22_16 (q := 19) rfl ?_
  intro T2 X2
  refine o_iloadN X2 d_jdk_68_method_22_19 rfl (q := 20) rfl ?_
  refine o_iadd X2 d_jdk_68_method_22_20 (w := (Int32.ofNat (ys.length + xs.length))) (n_add _ _) (q := 21) rfl ?_
  refine o_priv X2 [(.int (Int32.ofNat (ys.length + xs.length)))] (y' := (⟨"java/lang/AbstractStringBuilder", "ensureCapacityInternal", "(I)V"⟩ : MethodName)) E (c_ens1n hw sb va cap (ys.length + xs.length) ys _ E gs F_value F_coder F_count F_maybeLatin1 Vv gv hsv hc hcb hgr) all0 (w70 hw) (w71 hw) (sel_up (w73 hw) (w71 hw) (w72 hw) (by decide)) (w72 hw) (w74 hw) (w48 hw) (by decide) d_jdk_68_method_22_21 (rest := []) rfl rfl (lenOf pd28 rfl) rfl (by decide) (Nat.le_of_ble_eq_true rfl) (by decide) (by decide) (q := 24) rfl ?_
  intro v3 vm3 T3 h3 l3 X3 R3 q3
  obtain ⟨rfl, e3⟩ := q3
  have e3 := e3.symm
  subst e3
  show Goes p e below _ T3 (mkF m 24 #[.val (.ref sb), .val (.ref st), .val (.int (Int32.ofNat xs.length))] [])
  refine o_aloadN X3 d_jdk_68_method_22_24 rfl rfl (q := 25) rfl ?_
  refine o_aloadN X3 d_jdk_68_method_22_25 rfl rfl (q := 26) rfl ?_
  have f4 := F_count
  refine o_getF X3 f4 (host := "") (Or.inl (w68 hw)) Via.refl d_jdk_68_method_22_26 (q := 29) rfl ?_
  intro T5 X5
  refine o_aloadN X5 d_jdk_68_method_22_29 rfl rfl (q := 30) rfl ?_
  have f6 := E
  have f7 := F_value
  have f8 := F_coder
  have f9 := F_maybeLatin1
  have f10 := Vv
  have f11 := L.1
  have f12 := L.2.1
  have f13 := L.2.2.1
  have f14 := L.2.2.2.1
  have f16 := (CHr.safe R3 (Vv.lt) S_va)
  refine o_priv X5 [(.int (Int32.ofNat ys.length)), (.ref st)] (y' := (⟨"java/lang/AbstractStringBuilder", "putStringAt", "(ILjava/lang/String;)V"⟩ : MethodName)) f6 (c_psa10 hw sb va st tb cap ys xs _ O2 P5 O4 rfm SA SH SL f6 gs f7 f8 f4 f9 f10 gv hsv ⟨f11, f12, f13, f14, L.2.2.2.2⟩ n1 n2 n3 n4 (by omega) (by omega) (by omega)) (allS ⟨f10.lt, f16⟩ all0) (w75 hw) (w76 hw) (sel_up (w78 hw) (w76 hw) (w77 hw) (by decide)) (w77 hw) (w79 hw) (w48 hw) (by decide) d_jdk_68_method_22_30 (rest := []) rfl rfl (lenOf pd29 rfl) rfl (by decide) (Nat.le_of_ble_eq_true rfl) (by decide) (by decide) (q := 33) rfl ?_
  intro v15 vm15 T15 h15 l15 X15 R15 q15
  obtain ⟨rfl, K15, b15, kb15, g15, s15, Fvalue15, Fcoder15, Fcount15, FmaybeLatin115, V15⟩ := q15
  show Goes p e below _ T15 (mkF m 33 #[.val (.ref sb), .val (.ref st), .val (.int (Int32.ofNat xs.length))] [])
  have ge15 : Z.heap.size ≤ b15 := own_ge2 X5.size gv g15
  have nb15 : sb ≠ b15 := own_ne2 hsv f4.lt g15
  refine o_aloadN X15 d_jdk_68_method_22_33 rfl rfl (q := 34) rfl ?_
  refine o_dup X15 d_jdk_68_method_22_34 rfl (q := 35) rfl ?_
  refine o_getF X15 Fcount15 (host := "") (Or.inl (w68 hw)) Via.refl d_jdk_68_method_22_35 (q := 38) rfl ?_
  intro T17 X17
  refine o_iloadN X17 d_jdk_68_method_22_38 rfl (q := 39) rfl ?_
  refine o_iadd X17 d_jdk_68_method_22_39 (w := (Int32.ofNat (ys.length + xs.length))) (n_add _ _) (q := 40) rfl ?_
  have f18 := (f6.keep K15)
  refine o_putF X17 Fcount15 f18 gs (Safe.exa X17.alike f18 (by decide) (by decide)) (host := "") (Or.inl (w68 hw)) Via.refl (Or.inl (w69 hw)) (w39 hw) (ty := .int) (by decide) rfl rfl d_jdk_68_method_22_40 (q := 43) rfl ?_
  intro T19 h19 l19 X19 W19 R19 F19
  refine o_aloadN X19 d_jdk_68_method_22_43 rfl rfl (q := 44) rfl ?_
  have k20 := Keep.trans (Keep.refl h0 [sb, va]) K15 (allS (Or.inl (by simp)) (allS (Or.inl (by simp)) all0))
  have k21 := Keep.wr k20 W19 (Or.inl (by simp))
  have f22 := (Fvalue15.other W19 (Or.inr (slot_ne (Or.inl (w53 hw)) (Or.inl (w69 hw)) (by decide) (t := (.array .byte)) (t' := .int) (by decide) (by decide))))
  have f23 := (Fcoder15.other W19 (Or.inr (slot_ne (Or.inl (w55 hw)) (Or.inl (w69 hw)) (by decide) (t := .byte) (t' := .int) (by decide) (by decide))))
  have f24 := (FmaybeLatin115.other W19 (Or.inr (slot_ne (Or.inl (w280 hw)) (Or.inl (w69 hw)) (by decide) (t := .boolean) (t' := .int) (by decide) (by decide))))
  have f25 := (V15.other W19 (Ne.symm nb15))
  have f26 := (CHr.safe R19 (V15.lt) s15)
  have f27 := (f18.wr W19)
  exact o_retR X19 d_jdk_68_method_22_44 rfl rfl rfl (fun Sf hSf => ⟨rfl, k21, b15, kb15, (own_org0 g15 (Nat.le_refl _)), hSf _ f25.lt f26, (by rw [nc_sm hgr]; exact ⟨f27, f22, (by rw [List.length_append]; exact F19), f24, Or.inr ⟨f23, f25, (own_exL hyh)⟩, own_allR hry U.rg, by rw [List.length_append]; omega⟩)⟩) (by decide) (by decide)
set_option maxRecDepth 65536 in
set_option maxHeartbeats 40000000 in
theorem c_app10g {l : Launch} {Z : State} {a0 : Array Value} (hw : W a0 Z) (sb va st tb : Addr) (cap : Nat) (ys xs : List Int32) (h0 : Heap) {zc : Int32} (O2 : Sta Z Z.heap "java/lang/String" "COMPACT_STRINGS" "Z" (.int zc)) (P5 : ¬ zc = 0) {fm : Value} (O4 : Sta Z Z.heap "jdk/internal/util/Preconditions" "SIOOBE_FORMATTER" "Ljava/util/function/BiFunction;" fm) (rfm : fm.isRef = true) (SA : Sta Z Z.heap "java/lang/StringUTF16" "$assertionsDisabled" "Z" (.int (1 : Int32))) (SH : Sta Z Z.heap "java/lang/StringUTF16" "HI_BYTE_SHIFT" "I" (.int (0 : Int32))) (SL : Sta Z Z.heap "java/lang/StringUTF16" "LO_BYTE_SHIFT" "I" (.int (8 : Int32))) (E : Exa Z h0 sb "java/lang/StringBuilder") (gs : Z.heap.size ≤ sb) (F_value : Fld Z h0 sb "java/lang/AbstractStringBuilder" "value" "[B" (.ref va)) (F_coder : Fld Z h0 sb "java/lang/AbstractStringBuilder" "coder" "B" (.int (1 : Int32))) (F_count : Fld Z h0 sb "java/lang/AbstractStringBuilder" "count" "I" (.int (Int32.ofNat ys.length))) (F_maybeLatin1 : Fld Z h0 sb "java/lang/AbstractStringBuilder" "maybeLatin1" "Z" (.int (0 : Int32))) {kv : ClassId} (Vv : Arv Z h0 va kv .byte (Int32.ofNat (2 * cap)) (StrChars.Road.wideBytes ys) (.int (0 : Int32))) (gv : Z.heap.size ≤ va) (hsv : sb ≠ va) {kt : ClassId} (L : LS Z h0 st tb kt xs) (n1 : st ≠ sb) (n2 : st ≠ va) (n3 : tb ≠ sb) (n4 : tb ≠ va) (hc : ys.length ≤ cap) (hcb : cap ≤ 404) (hry : ∀ c ∈ ys, Rg c) (hyh : ∃ c ∈ ys, (255 : Int32) < c) (hgr : cap < ys.length + xs.length) (hnd : max (ys.length + xs.length) (2 * cap + 2) ≤ 404) :
    Con l Z EL0 (⟨"java/lang/AbstractStringBuilder", "append", "(Ljava/lang/String;)Ljava/lang/AbstractStringBuilder;"⟩ : MethodName) jdk_68_method_22_code 3 (some (.object "java/lang/AbstractStringBuilder")) ({ frames := 8, cells := 2, slots := 1616, locals := 116 } : Room) #[(.ref sb), (.ref st)] h0 [va] (fun v h' Sf => v = some (.ref sb) ∧ Keep h0 h' [sb, va] ∧ ∃ (v2 : Addr) (k2 : ClassId), (v2 = va ∨ h0.size ≤ v2) ∧ Sf v2 ∧ BS Z h' sb v2 k2 (nc cap (ys.length + xs.length)) (ys ++ xs)) := by
  have hpn : plainName "java/lang/AbstractStringBuilder" = true := by first | (simp [plainName, overriddenIn]; done) | decide +kernel
  refine Con.intro (plainFor_of_name hpn) ?_
  intro p e s m below meth c T X hss
  have S_va := hss va (by simp)
  refine Goes.cast (g' := mkF m 0 #[.val (.ref sb), .val (.ref st), .unset] []) (by first | (simp [entryFrame, mkF, argsToLocals, Value.category]; done) | rfl) ?_
  have U : US Z h0 st tb kt xs := Or.inl L
  refine o_aloadN X d_jdk_68_method_22_0 rfl rfl (q := 1) rfl ?_
  refine o_ifnonnullY X d_jdk_68_method_22_1 (by decide) (q := 9) (by decide) ?_
  refine o_aloadN X d_jdk_68_method_22_9 rfl rfl (q := 10) rfl ?_
  refine o_strlenU X U O2 P5 (hwln hw) (w3 hw) (w67 hw) (w28 hw) (w30 hw) (w29 hw) d_jdk_68_method_22_10 rfl (by decide) (Nat.le_of_ble_eq_true rfl) (by decide) (by decide) (q := 13) rfl ?_
  intro T1 l1 X1
  refine o_istoreN X1 d_jdk_68_method_22_13 rfl (L' := #[.val (.ref sb), .val (.ref st), .val (.int (Int32.ofNat xs.length))]) rfl (q := 14) rfl ?_
  refine o_aloadN X1 d_jdk_68_method_22_14 rfl rfl (q := 15) rfl ?_
  refine o_aloadN X1 d_jdk_68_method_22_15 rfl rfl (q := 16) rfl ?_
  refine o_getF X1 F_count (host := "") (Or.inl (w68 hw)) Via.refl d_jdk_68_method_22_16 (q := 19) rfl ?_
  intro T2 X2
  refine o_iloadN X2 d_jdk_68_method_22_19 rfl (q := 20) rfl ?_
  refine o_iadd X2 d_jdk_68_method_22_20 (w := (Int32.ofNat (ys.length + xs.length))) (n_add _ _) (q := 21) rfl ?_
  refine o_priv X2 [(.int (Int32.ofNat (ys.length + xs.length)))] (y' := (⟨"java/lang/AbstractStringBuilder", "ensureCapacityInternal", "(I)V"⟩ : MethodName)) E (c_ens1g hw sb va cap (ys.length + xs.length) ys _ E gs F_value F_coder F_count F_maybeLatin1 Vv gv hsv hc hcb hgr hnd) all0 (w70 hw) (w71 hw) (sel_up (w73 hw) (w71 hw) (w72 hw) (by decide)) (w72 hw) (w74 hw) (w48 hw) (by decide) d_jdk_68_method_22_21 (rest := []) rfl rfl (lenOf pd28 rfl) rfl (by decide) (Nat.le_of_ble_eq_true rfl) (by decide) (by decide) (q := 24) rfl ?_
  intro v3 vm3 T3 h3 l3 X3 R3 q3
  obtain ⟨rfl, K3, b3, kb3, g3, s3, Fvalue3, Fcoder3, Fcount3, FmaybeLatin13, V3⟩ := q3
  show Goes p e below _ T3 (mkF m 24 #[.val (.ref sb), .val (.ref st), .val (.int (Int32.ofNat xs.length))] [])
  refine o_aloadN X3 d_jdk_68_method_22_24 rfl rfl (q := 25) rfl ?_
  refine o_aloadN X3 d_jdk_68_method_22_25 rfl rfl (q := 26) rfl ?_
  refine o_getF X3 Fcount3 (host := "") (Or.inl (w68 hw)) Via.refl d_jdk_68_method_22_26 (q := 29) rfl ?_
  intro T4 X4
  refine o_aloadN X4 d_jdk_68_method_22_29 rfl rfl (q := 30) rfl ?_
  have f5 := (E.keep K3)
  have f6 := (L.1.keep K3)
  have f7 := (L.2.1.keep K3 (ninS n1 nin0))
  have f8 := (L.2.2.1.keep K3 (ninS n1 nin0))
  have f9 := (L.2.2.2.1.keep K3 (ninS n3 nin0))
  refine o_priv X4 [(.int (Int32.ofNat ys.length)), (.ref st)] (y' := (⟨"java/lang/AbstractStringBuilder", "putStringAt", "(ILjava/lang/String;)V"⟩ : MethodName)) f5 (c_psa10 hw sb b3 st tb (max (ys.length + xs.length) (2 * cap + 2)) ys xs _ O2 P5 O4 rfm SA SH SL f5 gs Fvalue3 Fcoder3 Fcount3 FmaybeLatin13 V3 (Nat.le_trans X2.size g3) (Nat.ne_of_lt (Nat.lt_of_lt_of_le E.lt g3)) ⟨f6, f7, f8, f9, L.2.2.2.2⟩ n1 (Nat.ne_of_lt (Nat.lt_of_lt_of_le L.1.lt g3)) n3 (Nat.ne_of_lt (Nat.lt_of_lt_of_le L.2.2.2.1.lt g3)) (by omega) (by omega) (by omega)) (allS ⟨V3.lt, s3⟩ all0) (w75 hw) (w76 hw) (sel_up (w78 hw) (w76 hw) (w77 hw) (by decide)) (w77 hw) (w79 hw) (w48 hw) (by decide) d_jdk_68_method_22_30 (rest := []) rfl rfl (lenOf pd29 rfl) rfl (by decide) (Nat.le_of_ble_eq_true rfl) (by decide) (by decide) (q := 33) rfl ?_
  intro v10 vm10 T10 h10 l10 X10 R10 q10
  obtain ⟨rfl, K10, b10, kb10, g10, s10, Fvalue10, Fcoder10, Fcount10, FmaybeLatin110, V10⟩ := q10
  show Goes p e below _ T10 (mkF m 33 #[.val (.ref sb), .val (.ref st), .val (.int (Int32.ofNat xs.length))] [])
  have ge10 : Z.heap.size ≤ b10 := own_ge2 X4.size (Nat.le_trans X2.size g3) g10
  have nb10 : sb ≠ b10 := own_ne2 (Nat.ne_of_lt (Nat.lt_of_lt_of_le E.lt g3)) Fvalue3.lt g10
  refine o_aloadN X10 d_jdk_68_method_22_33 rfl rfl (q := 34) rfl ?_
  refine o_dup X10 d_jdk_68_method_22_34 rfl (q := 35) rfl ?_
  refine o_getF X10 Fcount10 (host := "") (Or.inl (w68 hw)) Via.refl d_jdk_68_method_22_35 (q := 38) rfl ?_
  intro T11 X11
  refine o_iloadN X11 d_jdk_68_method_22_38 rfl (q := 39) rfl ?_
  refine o_iadd X11 d_jdk_68_method_22_39 (w := (Int32.ofNat (ys.length + xs.length))) (n_add _ _) (q := 40) rfl ?_
  have f12 := (f5.keep K10)
  refine o_putF X11 Fcount10 f12 gs (Safe.exa X11.alike f12 (by decide) (by decide)) (host := "") (Or.inl (w68 hw)) Via.refl (Or.inl (w69 hw)) (w39 hw) (ty := .int) (by decide) rfl rfl d_jdk_68_method_22_40 (q := 43) rfl ?_
  intro T13 h13 l13 X13 W13 R13 F13
  refine o_aloadN X13 d_jdk_68_method_22_43 rfl rfl (q := 44) rfl ?_
  have sz14 := Nat.le_trans (Keep.refl h0 [sb, va]).1 g3
  have k15 := Keep.trans (Keep.refl h0 [sb, va]) K3 (allS (Or.inl (by simp)) all0)
  have k16 := Keep.trans k15 K10 (allS (Or.inl (by simp)) (allS (Or.inr sz14) all0))
  have k17 := Keep.wr k16 W13 (Or.inl (by simp))
  have f18 := (Fvalue10.other W13 (Or.inr (slot_ne (Or.inl (w53 hw)) (Or.inl (w69 hw)) (by decide) (t := (.array .byte)) (t' := .int) (by decide) (by decide))))
  have f19 := (Fcoder10.other W13 (Or.inr (slot_ne (Or.inl (w55 hw)) (Or.inl (w69 hw)) (by decide) (t := .byte) (t' := .int) (by decide) (by decide))))
  have f20 := (FmaybeLatin110.other W13 (Or.inr (slot_ne (Or.inl (w280 hw)) (Or.inl (w69 hw)) (by decide) (t := .boolean) (t' := .int) (by decide) (by decide))))
  have f21 := (V10.other W13 (Ne.symm nb10))
  have f22 := (CHr.safe R13 (V10.lt) s10)
  have f23 := (f12.wr W13)
  exact o_retR X13 d_jdk_68_method_22_44 rfl rfl rfl (fun Sf hSf => ⟨rfl, k17, b10, kb10, (own_org g10 sz14 K3.1), hSf _ f21.lt f22, (by rw [nc_big hgr]; exact ⟨f23, f18, (by rw [List.length_append]; exact F13), f20, Or.inr ⟨f19, f21, (own_exL hyh)⟩, own_allR hry U.rg, by rw [List.length_append]; omega⟩)⟩) (by decide) (by decide)
set_option maxRecDepth 65536 in
set_option maxHeartbeats 40000000 in
theorem c_app11n {l : Launch} {Z : State} {a0 : Array Value} (hw : W a0 Z) (sb va st tb : Addr) (cap : Nat) (ys xs : List Int32) (h0 : Heap) {zc : Int32} (O2 : Sta Z Z.heap "java/lang/String" "COMPACT_STRINGS" "Z" (.int zc)) (P5 : ¬ zc = 0) {fm : Value} (O4 : Sta Z Z.heap "jdk/internal/util/Preconditions" "SIOOBE_FORMATTER" "Ljava/util/function/BiFunction;" fm) (rfm : fm.isRef = true) (SA : Sta Z Z.heap "java/lang/StringUTF16" "$assertionsDisabled" "Z" (.int (1 : Int32))) (SH : Sta Z Z.heap "java/lang/StringUTF16" "HI_BYTE_SHIFT" "I" (.int (0 : Int32))) (SL : Sta Z Z.heap "java/lang/StringUTF16" "LO_BYTE_SHIFT" "I" (.int (8 : Int32))) (E : Exa Z h0 sb "java/lang/StringBuilder") (gs : Z.heap.size ≤ sb) (F_value : Fld Z h0 sb "java/lang/AbstractStringBuilder" "value" "[B" (.ref va)) (F_coder : Fld Z h0 sb "java/lang/AbstractStringBuilder" "coder" "B" (.int (1 : Int32))) (F_count : Fld Z h0 sb "java/lang/AbstractStringBuilder" "count" "I" (.int (Int32.ofNat ys.length))) (F_maybeLatin1 : Fld Z h0 sb "java/lang/AbstractStringBuilder" "maybeLatin1" "Z" (.int (0 : Int32))) {kv : ClassId} (Vv : Arv Z h0 va kv .byte (Int32.ofNat (2 * cap)) (StrChars.Road.wideBytes ys) (.int (0 : Int32))) (gv : Z.heap.size ≤ va) (hsv : sb ≠ va) {kt : ClassId} (H : HS Z h0 st tb kt xs) (n1 : st ≠ sb) (n2 : st ≠ va) (n3 : tb ≠ sb) (n4 : tb ≠ va) (hc : ys.length ≤ cap) (hcb : cap ≤ 404) (hry : ∀ c ∈ ys, Rg c) (hyh : ∃ c ∈ ys, (255 : Int32) < c) (hgr : ys.length + xs.length ≤ cap) :
    Con l Z EL0 (⟨"java/lang/AbstractStringBuilder", "append", "(Ljava/lang/String;)Ljava/lang/AbstractStringBuilder;"⟩ : MethodName) jdk_68_method_22_code 3 (some (.object "java/lang/AbstractStringBuilder")) ({ frames := 8, cells := 2, slots := 1616, locals := 116 } : Room) #[(.ref sb), (.ref st)] h0 [va] (fun v h' Sf => v = some (.ref sb) ∧ Keep h0 h' [sb, va] ∧ ∃ (v2 : Addr) (k2 : ClassId), (v2 = va ∨ h0.size ≤ v2) ∧ Sf v2 ∧ BS Z h' sb v2 k2 (nc cap (ys.length + xs.length)) (ys ++ xs)) := by
  have hpn : plainName "java/lang/AbstractStringBuilder" = true := by first | (simp [plainName, overriddenIn]; done) | decide +kernel
  refine Con.intro (plainFor_of_name hpn) ?_
  intro p e s m below meth c T X hss
  have S_va := hss va (by simp)
  refine Goes.cast (g' := mkF m 0 #[.val (.ref sb), .val (.ref st), .unset] []) (by first | (simp [entryFrame, mkF, argsToLocals, Value.category]; done) | rfl) ?_
  have U : US Z h0 st tb kt xs := Or.inr H
  refine o_aloadN X d_jdk_68_method_22_0 rfl rfl (q := 1) rfl ?_
  refine o_ifnonnullY X d_jdk_68_method_22_1 (by decide) (q := 9) (by decide) ?_
  refine o_aloadN X d_jdk_68_method_22_9 rfl rfl (q := 10) rfl ?_
  refine o_strlenU X U O2 P5 (hwln hw) (w3 hw) (w67 hw) (w28 hw) (w30 hw) (w29 hw) d_jdk_68_method_22_10 rfl (by decide) (Nat.le_of_ble_eq_true rfl) (by decide) (by decide) (q := 13) rfl ?_
  intro T1 l1 X1
  refine o_istoreN X1 d_jdk_68_method_22_13 rfl (L' := #[.val (.ref sb), .val (.ref st), .val (.int (Int32.ofNat xs.length))]) rfl (q := 14) rfl ?_
  refine o_aloadN X1 d_jdk_68_method_22_14 rfl rfl (q := 15) rfl ?_
  refine o_aloadN X1 d_jdk_68_method_22_15 rfl rfl (q := 16) rfl ?_
  refine o_getF X1 F_count (host := "") (Or.inl (w68 hw)) Via.refl d_jdk_68_method_22_16 (q := 19) rfl ?_
  intro T2 X2
  refine o_iloadN X2 d_jdk_68_method_22_19 rfl (q := 20) rfl ?_
  refine o_iadd X2 d_jdk_68_method_22_20 (w := (Int32.ofNat (ys.length + xs.length))) (n_add _ _) (q := 21) rfl ?_
  refine o_priv X2 [(.int (Int32.ofNat (ys.length + xs.length)))] (y' := (⟨"java/lang/AbstractStringBuilder", "ensureCapacityInternal", "(I)V"⟩ : MethodName)) E (c_ens1n hw sb va cap (ys.length + xs.length) ys _ E gs F_value F_coder F_count F_maybeLatin1 Vv gv hsv hc hcb hgr) all0 (w70 hw) (w71 hw) (sel_up (w73 hw) (w71 hw) (w72 hw) (by decide)) (w72 hw) (w74 hw) (w48 hw) (by decide) d_jdk_68_method_22_21 (rest := []) rfl rfl (lenOf pd28 rfl) rfl (by decide) (Nat.le_of_ble_eq_true rfl) (by decide) (by decide) (q := 24) rfl ?_
  intro v3 vm3 T3 h3 l3 X3 R3 q3
  obtain ⟨rfl, e3⟩ := q3
  have e3 := e3.symm
  subst e3
  show Goes p e below _ T3 (mkF m 24 #[.val (.ref sb), .val (.ref st), .val (.int (Int32.ofNat xs.length))] [])
  refine o_aloadN X3 d_jdk_68_method_22_24 rfl rfl (q := 25) rfl ?_
  refine o_aloadN X3 d_jdk_68_method_22_25 rfl rfl (q := 26) rfl ?_
  have f4 := F_count
  refine o_getF X3 f4 (host := "") (Or.inl (w68 hw)) Via.refl d_jdk_68_method_22_26 (q := 29) rfl ?_
  intro T5 X5
  refine o_aloadN X5 d_jdk_68_method_22_29 rfl rfl (q := 30) rfl ?_
  have f6 := E
  have f7 := F_value
  have f8 := F_coder
  have f9 := F_maybeLatin1
  have f10 := Vv
  have f11 := H.1
  have f12 := H.2.1
  have f13 := H.2.2.1
  have f14 := H.2.2.2.1
  have f16 := (CHr.safe R3 (Vv.lt) S_va)
  refine o_priv X5 [(.int (Int32.ofNat ys.length)), (.ref st)] (y' := (⟨"java/lang/AbstractStringBuilder", "putStringAt", "(ILjava/lang/String;)V"⟩ : MethodName)) f6 (c_psa11 hw sb va st tb cap ys xs _ O2 P5 O4 rfm SA SH SL f6 gs f7 f8 f4 f9 f10 gv hsv ⟨f11, f12, f13, f14, H.2.2.2.2⟩ n1 n2 n3 n4 (by omega) (by omega) (by omega)) (allS ⟨f10.lt, f16⟩ all0) (w75 hw) (w76 hw) (sel_up (w78 hw) (w76 hw) (w77 hw) (by decide)) (w77 hw) (w79 hw) (w48 hw) (by decide) d_jdk_68_method_22_30 (rest := []) rfl rfl (lenOf pd29 rfl) rfl (by decide) (Nat.le_of_ble_eq_true rfl) (by decide) (by decide) (q := 33) rfl ?_
  intro v15 vm15 T15 h15 l15 X15 R15 q15
  obtain ⟨rfl, K15, b15, kb15, g15, s15, Fvalue15, Fcoder15, Fcount15, FmaybeLatin115, V15⟩ := q15
  show Goes p e below _ T15 (mkF m 33 #[.val (.ref sb), .val (.ref st), .val (.int (Int32.ofNat xs.length))] [])
  have ge15 : Z.heap.size ≤ b15 := own_ge2 X5.size gv g15
  have nb15 : sb ≠ b15 := own_ne2 hsv f4.lt g15
  refine o_aloadN X15 d_jdk_68_method_22_33 rfl rfl (q := 34) rfl ?_
  refine o_dup X15 d_jdk_68_method_22_34 rfl (q := 35) rfl ?_
  refine o_getF X15 Fcount15 (host := "") (Or.inl (w68 hw)) Via.refl d_jdk_68_method_22_35 (q := 38) rfl ?_
  intro T17 X17
  refine o_iloadN X17 d_jdk_68_method_22_38 rfl (q := 39) rfl ?_
  refine o_iadd X17 d_jdk_68_method_22_39 (w := (Int32.ofNat (ys.length + xs.length))) (n_add _ _) (q := 40) rfl ?_
  have f18 := (f6.keep K15)
  refine o_putF X17 Fcount15 f18 gs (Safe.exa X17.alike f18 (by decide) (by decide)) (host := "") (Or.inl (w68 hw)) Via.refl (Or.inl (w69 hw)) (w39 hw) (ty := .int) (by decide) rfl rfl d_jdk_68_method_22_40 (q := 43) rfl ?_
  intro T19 h19 l19 X19 W19 R19 F19
  refine o_aloadN X19 d_jdk_68_method_22_43 rfl rfl (q := 44) rfl ?_
  have k20 := Keep.trans (Keep.refl h0 [sb, va]) K15 (allS (Or.inl (by simp)) (allS (Or.inl (by simp)) all0))
  have k21 := Keep.wr k20 W19 (Or.inl (by simp))
  have f22 := (Fvalue15.other W19 (Or.inr (slot_ne (Or.inl (w53 hw)) (Or.inl (w69 hw)) (by decide) (t := (.array .byte)) (t' := .int) (by decide) (by decide))))
  have f23 := (Fcoder15.other W19 (Or.inr (slot_ne (Or.inl (w55 hw)) (Or.inl (w69 hw)) (by decide) (t := .byte) (t' := .int) (by decide) (by decide))))
  have f24 := (FmaybeLatin115.other W19 (Or.inr (slot_ne (Or.inl (w280 hw)) (Or.inl (w69 hw)) (by decide) (t := .boolean) (t' := .int) (by decide) (by decide))))
  have f25 := (V15.other W19 (Ne.symm nb15))
  have f26 := (CHr.safe R19 (V15.lt) s15)
  have f27 := (f18.wr W19)
  exact o_retR X19 d_jdk_68_method_22_44 rfl rfl rfl (fun Sf hSf => ⟨rfl, k21, b15, kb15, (own_org0 g15 (Nat.le_refl _)), hSf _ f25.lt f26, (by rw [nc_sm hgr]; exact ⟨f27, f22, (by rw [List.length_append]; exact F19), f24, Or.inr ⟨f23, f25, (own_exR H.2.2.2.2.1)⟩, own_allR hry U.rg, by rw [List.length_append]; omega⟩)⟩) (by decide) (by decide)
set_option maxRecDepth 65536 in
set_option maxHeartbeats 40000000 in
theorem c_app11g {l : Launch} {Z : State} {a0 : Array Value} (hw : W a0 Z) (sb va st tb : Addr) (cap : Nat) (ys xs : List Int32) (h0 : Heap) {zc : Int32} (O2 : Sta Z Z.heap "java/lang/String" "COMPACT_STRINGS" "Z" (.int zc)) (P5 : ¬ zc = 0) {fm : Value} (O4 : Sta Z Z.heap "jdk/internal/util/Preconditions" "SIOOBE_FORMATTER" "Ljava/util/function/BiFunction;" fm) (rfm : fm.isRef = true) (SA : Sta Z Z.heap "java/lang/StringUTF16" "$assertionsDisabled" "Z" (.int (1 : Int32))) (SH : Sta Z Z.heap "java/lang/StringUTF16" "HI_BYTE_SHIFT" "I" (.int (0 : Int32))) (SL : Sta Z Z.heap "java/lang/StringUTF16" "LO_BYTE_SHIFT" "I" (.int (8 : Int32))) (E : Exa Z h0 sb "java/lang/StringBuilder") (gs : Z.heap.size ≤ sb) (F_value : Fld Z h0 sb "java/lang/AbstractStringBuilder" "value" "[B" (.ref va)) (F_coder : Fld Z h0 sb "java/lang/AbstractStringBuilder" "coder" "B" (.int (1 : Int32))) (F_count : Fld Z h0 sb "java/lang/AbstractStringBuilder" "count" "I" (.int (Int32.ofNat ys.length))) (F_maybeLatin1 : Fld Z h0 sb "java/lang/AbstractStringBuilder" "maybeLatin1" "Z" (.int (0 : Int32))) {kv : ClassId} (Vv : Arv Z h0 va kv .byte (Int32.ofNat (2 * cap)) (StrChars.Road.wideBytes ys) (.int (0 : Int32))) (gv : Z.heap.size ≤ va) (hsv : sb ≠ va) {kt : ClassId} (H : HS Z h0 st tb kt xs) (n1 : st ≠ sb) (n2 : st ≠ va) (n3 : tb ≠ sb) (n4 : tb ≠ va) (hc : ys.length ≤ cap) (hcb : cap ≤ 404) (hry : ∀ c ∈ ys, Rg c) (hyh : ∃ c ∈ ys, (255 : Int32) < c) (hgr : cap < ys.length + xs.length) (hnd : max (ys.length + xs.length) (2 * cap + 2) ≤ 404) :
    Con l Z EL0 (⟨"java/lang/AbstractStringBuilder", "append", "(Ljava/lang/String;)Ljava/lang/AbstractStringBuilder;"⟩ : MethodName) jdk_68_method_22_code 3 (some (.object "java/lang/AbstractStringBuilder")) ({ frames := 8, cells := 2, slots := 1616, locals := 116 } : Room) #[(.ref sb), (.ref st)] h0 [va] (fun v h' Sf => v = some (.ref sb) ∧ Keep h0 h' [sb, va] ∧ ∃ (v2 : Addr) (k2 : ClassId), (v2 = va ∨ h0.size ≤ v2) ∧ Sf v2 ∧ BS Z h' sb v2 k2 (nc cap (ys.length + xs.length)) (ys ++ xs)) := by
  have hpn : plainName "java/lang/AbstractStringBuilder" = true := by first | (simp [plainName, overriddenIn]; done) | decide +kernel
  refine Con.intro (plainFor_of_name hpn) ?_
  intro p e s m below meth c T X hss
  have S_va := hss va (by simp)
  refine Goes.cast (g' := mkF m 0 #[.val (.ref sb), .val (.ref st), .unset] []) (by first | (simp [entryFrame, mkF, argsToLocals, Value.category]; done) | rfl) ?_
  have U : US Z h0 st tb kt xs := Or.inr H
  refine o_aloadN X d_jdk_68_method_22_0 rfl rfl (q := 1) rfl ?_
  refine o_ifnonnullY X d_jdk_68_method_22_1 (by decide) (q := 9) (by decide) ?_
  refine o_aloadN X d_jdk_68_method_22_9 rfl rfl (q := 10) rfl ?_
  refine o_strlenU X U O2 P5 (hwln hw) (w3 hw) (w67 hw) (w28 hw) (w30 hw) (w29 hw) d_jdk_68_method_22_10 rfl (by decide) (Nat.le_of_ble_eq_true rfl) (by decide) (by decide) (q := 13) rfl ?_
  intro T1 l1 X1
  refine o_istoreN X1 d_jdk_68_method_22_13 rfl (L' := #[.val (.ref sb), .val (.ref st), .val (.int (Int32.ofNat xs.length))]) rfl (q := 14) rfl ?_
  refine o_aloadN X1 d_jdk_68_method_22_14 rfl rfl (q := 15) rfl ?_
  refine o_aloadN X1 d_jdk_68_method_22_15 rfl rfl (q := 16) rfl ?_
  refine o_getF X1 F_count (host := "") (Or.inl (w68 hw)) Via.refl d_jdk_68_method_22_16 (q := 19) rfl ?_
  intro T2 X2
  refine o_iloadN X2 d_jdk_68_method_22_19 rfl (q := 20) rfl ?_
  refine o_iadd X2 d_jdk_68_method_22_20 (w := (Int32.ofNat (ys.length + xs.length))) (n_add _ _) (q := 21) rfl ?_
  refine o_priv X2 [(.int (Int32.ofNat (ys.length + xs.length)))] (y' := (⟨"java/lang/AbstractStringBuilder", "ensureCapacityInternal", "(I)V"⟩ : MethodName)) E (c_ens1g hw sb va cap (ys.length + xs.length) ys _ E gs F_value F_coder F_count F_maybeLatin1 Vv gv hsv hc hcb hgr hnd) all0 (w70 hw) (w71 hw) (sel_up (w73 hw) (w71 hw) (w72 hw) (by decide)) (w72 hw) (w74 hw) (w48 hw) (by decide) d_jdk_68_method_22_21 (rest := []) rfl rfl (lenOf pd28 rfl) rfl (by decide) (Nat.le_of_ble_eq_true rfl) (by decide) (by decide) (q := 24) rfl ?_
  intro v3 vm3 T3 h3 l3 X3 R3 q3
  obtain ⟨rfl, K3, b3, kb3, g3, s3, Fvalue3, Fcoder3, Fcount3, FmaybeLatin13, V3⟩ := q3
  show Goes p e below _ T3 (mkF m 24 #[.val (.ref sb), .val (.ref st), .val (.int (Int32.ofNat xs.length))] [])
  refine o_aloadN X3 d_jdk_68_method_22_24 rfl rfl (q := 25) rfl ?_
  refine o_aloadN X3 d_jdk_68_method_22_25 rfl rfl (q := 26) rfl ?_
  refine o_getF X3 Fcount3 (host := "") (Or.inl (w68 hw)) Via.refl d_jdk_68_method_22_26 (q := 29) rfl ?_
  intro T4 X4
  refine o_aloadN X4 d_jdk_68_method_22_29 rfl rfl (q := 30) rfl ?_
  have f5 := (E.keep K3)
  have f6 := (H.1.keep K3)
  have f7 := (H.2.1.keep K3 (ninS n1 nin0))
  have f8 := (H.2.2.1.keep K3 (ninS n1 nin0))
  have f9 := (H.2.2.2.1.keep K3 (ninS n3 nin0))
  refine o_priv X4 [(.int (Int32.ofNat ys.length)), (.ref st)] (y' := (⟨"java/lang/AbstractStringBuilder", "putStringAt", "(ILjava/lang/String;)V"⟩ : MethodName)) f5 (c_psa11 hw sb b3 st tb (max (ys.length + xs.length) (2 * cap + 2)) ys xs _ O2 P5 O4 rfm SA SH SL f5 gs Fvalue3 Fcoder3 Fcount3 FmaybeLatin13 V3 (Nat.le_trans X2.size g3) (Nat.ne_of_lt (Nat.lt_of_lt_of_le E.lt g3)) ⟨f6, f7, f8, f9, H.2.2.2.2⟩ n1 (Nat.ne_of_lt (Nat.lt_of_lt_of_le H.1.lt g3)) n3 (Nat.ne_of_lt (Nat.lt_of_lt_of_le H.2.2.2.1.lt g3)) (by omega) (by omega) (by omega)) (allS ⟨V3.lt, s3⟩ all0) (w75 hw) (w76 hw) (sel_up (w78 hw) (w76 hw) (w77 hw) (by decide)) (w77 hw) (w79 hw) (w48 hw) (by decide) d_jdk_68_method_22_30 (rest := []) rfl rfl (lenOf pd29 rfl) rfl (by decide) (Nat.le_of_ble_eq_true rfl) (by decide) (by decide) (q := 33) rfl ?_
  intro v10 vm10 T10 h10 l10 X10 R10 q10
  obtain ⟨rfl, K10, b10, kb10, g10, s10, Fvalue10, Fcoder10, Fcount10, FmaybeLatin110, V10⟩ := q10
  show Goes p e below _ T10 (mkF m 33 #[.val (.ref sb), .val (.ref st), .val (.int (Int32.ofNat xs.length))] [])
  have ge10 : Z.heap.size ≤ b10 := own_ge2 X4.size (Nat.le_trans X2.size g3) g10
  have nb10 : sb ≠ b10 := own_ne2 (Nat.ne_of_lt (Nat.lt_of_lt_of_le E.lt g3)) Fvalue3.lt g10
  refine o_aloadN X10 d_jdk_68_method_22_33 rfl rfl (q := 34) rfl ?_
  refine o_dup X10 d_jdk_68_method_22_34 rfl (q := 35) rfl ?_
  refine o_getF X10 Fcount10 (host := "") (Or.inl (w68 hw)) Via.refl d_jdk_68_method_22_35 (q := 38) rfl ?_
  intro T11 X11
  refine o_iloadN X11 d_jdk_68_method_22_38 rfl (q := 39) rfl ?_
  refine o_iadd X11 d_jdk_68_method_22_39 (w := (Int32.ofNat (ys.length + xs.length))) (n_add _ _) (q := 40) rfl ?_
  have f12 := (f5.keep K10)
  refine o_putF X11 Fcount10 f12 gs (Safe.exa X11.alike f12 (by decide) (by decide)) (host := "") (Or.inl (w68 hw)) Via.refl (Or.inl (w69 hw)) (w39 hw) (ty := .int) (by decide) rfl rfl d_jdk_68_method_22_40 (q := 43) rfl ?_
  intro T13 h13 l13 X13 W13 R13 F13
  refine o_aloadN X13 d_jdk_68_method_22_43 rfl rfl (q := 44) rfl ?_
  have sz14 := Nat.le_trans (Keep.refl h0 [sb, va]).1 g3
  have k15 := Keep.trans (Keep.refl h0 [sb, va]) K3 (allS (Or.inl (by simp)) all0)
  have k16 := Keep.trans k15 K10 (allS (Or.inl (by simp)) (allS (Or.inr sz14) all0))
  have k17 := Keep.wr k16 W13 (Or.inl (by simp))
  have f18 := (Fvalue10.other W13 (Or.inr (slot_ne (Or.inl (w53 hw)) (Or.inl (w69 hw)) (by decide) (t := (.array .byte)) (t' := .int) (by decide) (by decide))))
  have f19 := (Fcoder10.other W13 (Or.inr (slot_ne (Or.inl (w55 hw)) (Or.inl (w69 hw)) (by decide) (t := .byte) (t' := .int) (by decide) (by decide))))
  have f20 := (FmaybeLatin110.other W13 (Or.inr (slot_ne (Or.inl (w280 hw)) (Or.inl (w69 hw)) (by decide) (t := .boolean) (t' := .int) (by decide) (by decide))))
  have f21 := (V10.other W13 (Ne.symm nb10))
  have f22 := (CHr.safe R13 (V10.lt) s10)
  have f23 := (f12.wr W13)
  exact o_retR X13 d_jdk_68_method_22_44 rfl rfl rfl (fun Sf hSf => ⟨rfl, k17, b10, kb10, (own_org g10 sz14 K3.1), hSf _ f21.lt f22, (by rw [nc_big hgr]; exact ⟨f23, f18, (by rw [List.length_append]; exact F13), f20, Or.inr ⟨f19, f21, (own_exR H.2.2.2.2.1)⟩, own_allR hry U.rg, by rw [List.length_append]; omega⟩)⟩) (by decide) (by decide)
theorem c_app {l : Launch} {Z : State} {a0 : Array Value} (hw : W a0 Z) (sb va st tb : Addr) (cap : Nat) (ys xs : List Int32) (h0 : Heap) {zc : Int32} (O2 : Sta Z Z.heap "java/lang/String" "COMPACT_STRINGS" "Z" (.int zc)) (P5 : ¬ zc = 0) {fm : Value} (O4 : Sta Z Z.heap "jdk/internal/util/Preconditions" "SIOOBE_FORMATTER" "Ljava/util/function/BiFunction;" fm) (rfm : fm.isRef = true) (SA : Sta Z Z.heap "java/lang/StringUTF16" "$assertionsDisabled" "Z" (.int (1 : Int32))) (SH : Sta Z Z.heap "java/lang/StringUTF16" "HI_BYTE_SHIFT" "I" (.int (0 : Int32))) (SL : Sta Z Z.heap "java/lang/StringUTF16" "LO_BYTE_SHIFT" "I" (.int (8 : Int32))) {kv kt : ClassId} (B : BS Z h0 sb va kv cap ys) (gs : Z.heap.size ≤ sb) (gv : Z.heap.size ≤ va) (hsv : sb ≠ va) (U : US Z h0 st tb kt xs) (n1 : st ≠ sb) (n2 : st ≠ va) (n3 : tb ≠ sb) (n4 : tb ≠ va) (hcb : cap ≤ 404) (hnd : (nc cap (ys.length + xs.length)) ≤ 404) :
    Con l Z EL0 (⟨"java/lang/AbstractStringBuilder", "append", "(Ljava/lang/String;)Ljava/lang/AbstractStringBuilder;"⟩ : MethodName) jdk_68_method_22_code 3 (some (.object "java/lang/AbstractStringBuilder")) ({ frames := 8, cells := 2, slots := 1616, locals := 116 } : Room) #[(.ref sb), (.ref st)] h0 [va] (fun v h' Sf => v = some (.ref sb) ∧ Keep h0 h' [sb, va] ∧ ∃ (v2 : Addr) (k2 : ClassId), (v2 = va ∨ h0.size ≤ v2) ∧ Sf v2 ∧ BS Z h' sb v2 k2 (nc cap (ys.length + xs.length)) (ys ++ xs)) := by
  obtain ⟨E, F_value, F_count, F_maybeLatin1, B2, hry, hc⟩ := B
  by_cases hgr : ys.length + xs.length ≤ cap
  · rcases B2 with ⟨F_coder, Vv, hyl⟩ | ⟨F_coder, Vv, hyh⟩
    · rcases U with L | H
      · exact c_app00n hw sb va st tb cap ys xs h0 O2 P5 O4 rfm SA SH SL E gs F_value F_coder F_count F_maybeLatin1 Vv gv hsv L n1 n2 n3 n4 hc hcb hry (own_lat hry hyl) hgr
      · exact c_app01n hw sb va st tb cap ys xs h0 O2 P5 O4 rfm SA SH SL E gs F_value F_coder F_count F_maybeLatin1 Vv gv hsv H n1 n2 n3 n4 hc hcb hry (own_lat hry hyl) hgr
    · rcases U with L | H
      · exact c_app10n hw sb va st tb cap ys xs h0 O2 P5 O4 rfm SA SH SL E gs F_value F_coder F_count F_maybeLatin1 Vv gv hsv L n1 n2 n3 n4 hc hcb hry hyh hgr
      · exact c_app11n hw sb va st tb cap ys xs h0 O2 P5 O4 rfm SA SH SL E gs F_value F_coder F_count F_maybeLatin1 Vv gv hsv H n1 n2 n3 n4 hc hcb hry hyh hgr
  · rcases B2 with ⟨F_coder, Vv, hyl⟩ | ⟨F_coder, Vv, hyh⟩
    · rcases U with L | H
      · exact c_app00g hw sb va st tb cap ys xs h0 O2 P5 O4 rfm SA SH SL E gs F_value F_coder F_count F_maybeLatin1 Vv gv hsv L n1 n2 n3 n4 hc hcb hry (own_lat hry hyl) (by omega) (by rw [nc_big (by omega)] at hnd; omega)
      · exact c_app01g hw sb va st tb cap ys xs h0 O2 P5 O4 rfm SA SH SL E gs F_value F_coder F_count F_maybeLatin1 Vv gv hsv H n1 n2 n3 n4 hc hcb hry (own_lat hry hyl) (by omega) (by rw [nc_big (by omega)] at hnd; omega)
    · rcases U with L | H
      · exact c_app10g hw sb va st tb cap ys xs h0 O2 P5 O4 rfm SA SH SL E gs F_value F_coder F_count F_maybeLatin1 Vv gv hsv L n1 n2 n3 n4 hc hcb hry hyh (by omega) (by rw [nc_big (by omega)] at hnd; omega)
      · exact c_app11g hw sb va st tb cap ys xs h0 O2 P5 O4 rfm SA SH SL E gs F_value F_coder F_count F_maybeLatin1 Vv gv hsv H n1 n2 n3 n4 hc hcb hry hyh (by omega) (by rw [nc_big (by omega)] at hnd; omega)
set_option maxRecDepth 65536 in
set_option maxHeartbeats 40000000 in
theorem c_sba {l : Launch} {Z : State} {a0 : Array Value} (hw : W a0 Z) (sb va st tb : Addr) (cap : Nat) (ys xs : List Int32) (h0 : Heap) {zc : Int32} (O2 : Sta Z Z.heap "java/lang/String" "COMPACT_STRINGS" "Z" (.int zc)) (P5 : ¬ zc = 0) {fm : Value} (O4 : Sta Z Z.heap "jdk/internal/util/Preconditions" "SIOOBE_FORMATTER" "Ljava/util/function/BiFunction;" fm) (rfm : fm.isRef = true) (SA : Sta Z Z.heap "java/lang/StringUTF16" "$assertionsDisabled" "Z" (.int (1 : Int32))) (SH : Sta Z Z.heap "java/lang/StringUTF16" "HI_BYTE_SHIFT" "I" (.int (0 : Int32))) (SL : Sta Z Z.heap "java/lang/StringUTF16" "LO_BYTE_SHIFT" "I" (.int (8 : Int32))) {kv kt : ClassId} (B : BS Z h0 sb va kv cap ys) (gs : Z.heap.size ≤ sb) (gv : Z.heap.size ≤ va) (hsv : sb ≠ va) (U : US Z h0 st tb kt xs) (n1 : st ≠ sb) (n2 : st ≠ va) (n3 : tb ≠ sb) (n4 : tb ≠ va) (hcb : cap ≤ 404) (hnd : (nc cap (ys.length + xs.length)) ≤ 404) :
    Con l Z EL0 (⟨"java/lang/StringBuilder", "append", "(Ljava/lang/String;)Ljava/lang/StringBuilder;"⟩ : MethodName) jdk_67_method_7_code 2 (some (.object "java/lang/StringBuilder")) ({ frames := 9, cells := 2, slots := 1616, locals := 130 } : Room) #[(.ref sb), (.ref st)] h0 [va] (fun v h' Sf => v = some (.ref sb) ∧ Keep h0 h' [sb, va] ∧ ∃ (v2 : Addr) (k2 : ClassId), (v2 = va ∨ h0.size ≤ v2) ∧ Sf v2 ∧ BS Z h' sb v2 k2 (nc cap (ys.length + xs.length)) (ys ++ xs)) := by
  have hpn : plainName "java/lang/StringBuilder" = true := by first | (simp [plainName, overriddenIn]; done) | decide +kernel
  refine Con.intro (plainFor_of_name hpn) ?_
  intro p e s m below meth c T X hss
  have S_va := hss va (by simp)
  refine Goes.cast (g' := mkF m 0 #[.val (.ref sb), .val (.ref st)] []) (by first | (simp [entryFrame, mkF, argsToLocals, Value.category]; done) | rfl) ?_
  refine o_aloadN X d_jdk_67_method_7_0 rfl rfl (q := 1) rfl ?_
  refine o_aloadN X d_jdk_67_method_7_1 rfl rfl (q := 2) rfl ?_
  refine o_super X [(.ref st)] (y' := (⟨"java/lang/AbstractStringBuilder", "append", "(Ljava/lang/String;)Ljava/lang/AbstractStringBuilder;"⟩ : MethodName)) B.1 (c_app hw sb va st tb cap ys xs _ O2 P5 O4 rfm SA SH SL B gs gv hsv U n1 n2 n3 n4 hcb hnd) (allS ⟨B.vx.lt, S_va⟩ all0) (w62 hw) (same_up (w73 hw) (w63 hw) rfl (by decide)) (w63 hw) (w64 hw) (by decide) (w66 hw) (w48 hw) d_jdk_67_method_7_2 (rest := []) rfl rfl (lenOf pd30 rfl) rfl (by decide) (Nat.le_of_ble_eq_true rfl) (by decide) (by decide) (q := 5) rfl ?_
  intro v1 vm1 T1 h1 l1 X1 R1 q1
  obtain ⟨rfl, K1, v21, k21, g1, s1, B1⟩ := q1
  show Goes p e below _ T1 (mkF m 5 #[.val (.ref sb), .val (.ref st)] [(.ref sb)])
  refine o_pop X1 d_jdk_67_method_7_5 rfl (q := 6) rfl ?_
  refine o_aloadN X1 d_jdk_67_method_7_6 rfl rfl (q := 7) rfl ?_
  exact o_retR X1 d_jdk_67_method_7_7 rfl rfl rfl (fun Sf hSf => ⟨rfl, K1, v21, k21, g1, hSf _ B1.blt s1, B1⟩) (by decide) (by decide)
set_option maxRecDepth 65536 in
set_option maxHeartbeats 40000000 in
theorem c_asb {l : Launch} {Z : State} {a0 : Array Value} (hw : W a0 Z) (sb : Addr) (h0 : Heap) {zc : Int32} (O2 : Sta Z Z.heap "java/lang/String" "COMPACT_STRINGS" "Z" (.int zc)) (P5 : ¬ zc = 0) (E : Exa Z h0 sb "java/lang/StringBuilder") (gs : Z.heap.size ≤ sb) (F_value : Fld Z h0 sb "java/lang/AbstractStringBuilder" "value" "[B" .null) (F_coder : Fld Z h0 sb "java/lang/AbstractStringBuilder" "coder" "B" (.int (0 : Int32))) (F_count : Fld Z h0 sb "java/lang/AbstractStringBuilder" "count" "I" (.int (0 : Int32))) (F_maybeLatin1 : Fld Z h0 sb "java/lang/AbstractStringBuilder" "maybeLatin1" "Z" (.int (0 : Int32))) :
    Con l Z EL0 (⟨"java/lang/AbstractStringBuilder", "<init>", "(I)V"⟩ : MethodName) jdk_68_method_2_code 2 none ({ frames := 1, cells := 1, slots := 16, locals := 12 } : Room) #[(.ref sb), (.int (16 : Int32))] h0 [] (fun v h' Sf => v = none ∧ Keep h0 h' [sb] ∧ ∃ (va : Addr) (kv : ClassId), h0.size ≤ va ∧ Sf va ∧ BS Z h' sb va kv 16 []) := by
  have hpn : plainName "java/lang/AbstractStringBuilder" = true := by first | (simp [plainName, overriddenIn]; done) | decide +kernel
  refine Con.intro (plainFor_of_name hpn) ?_
  intro p e s m below meth c T X hss
  refine Goes.cast (g' := mkF m 0 #[.val (.ref sb), .val (.int (16 : Int32))] []) (by first | (simp [entryFrame, mkF, argsToLocals, Value.category]; done) | rfl) ?_
  refine o_aloadN X d_jdk_68_method_2_0 rfl rfl (q := 1) rfl ?_
  refine o_initO X (w50 hw) (w13 hw) (w14 hw) d_jdk_68_method_2_1 rfl (by decide) (Nat.le_of_ble_eq_true rfl) (q := 4) rfl ?_
  intro T1 X1
  refine o_getS X1 O2 (host := "") (Or.inl (w51 hw)) Via.refl d_jdk_68_method_2_4 (q := 7) rfl ?_
  intro T2 X2
  refine o_ifN X2 d_jdk_68_method_2_7 (feq P5).1 (q := 10) rfl ?_
  refine o_aloadN X2 d_jdk_68_method_2_10 rfl rfl (q := 11) rfl ?_
  refine o_iloadN X2 d_jdk_68_method_2_11 rfl (q := 12) rfl ?_
  refine o_newarr X2 (aty := .byte) (cap := 16) 16 (w16 hw) d_jdk_68_method_2_12 (by decide) (by decide) (by decide) (by decide) (by decide) (q := 14) rfl ?_
  intro T3 h3 b3 k3 gb3 X3 E3 R3 S3 V3 g0_b3
  have V3 : Arv Z h3 b3 k3 .byte (16 : Int32) [(.int (0 : Int32)), (.int (0 : Int32)), (.int (0 : Int32)), (.int (0 : Int32)), (.int (0 : Int32)), (.int (0 : Int32)), (.int (0 : Int32)), (.int (0 : Int32)), (.int (0 : Int32)), (.int (0 : Int32)), (.int (0 : Int32)), (.int (0 : Int32)), (.int (0 : Int32)), (.int (0 : Int32)), (.int (0 : Int32)), (.int (0 : Int32))] (.int (0 : Int32)) := V3
  have f4 := (F_value.ext E3)
  have f5 := (E.ext E3)
  refine o_putF X3 f4 f5 gs (Safe.exa X3.alike f5 (by decide) (by decide)) (host := "") (Or.inl (w52 hw)) Via.refl (Or.inl (w53 hw)) (w39 hw) (ty := (.array .byte)) (by decide) rfl rfl d_jdk_68_method_2_14 (q := 17) rfl ?_
  intro T6 h6 l6 X6 W6 R6 F6
  refine o_aloadN X6 d_jdk_68_method_2_17 rfl rfl (q := 18) rfl ?_
  refine o_iconst X6 d_jdk_68_method_2_18 (w := 0) rfl (q := 19) rfl ?_
  have f7 := ((F_coder.ext E3).other W6 (Or.inr (slot_ne (Or.inl (w55 hw)) (Or.inl (w53 hw)) (by decide) (t := .byte) (t' := (.array .byte)) (by decide) (by decide))))
  have f8 := (f5.wr W6)
  refine o_putF X6 f7 f8 gs (Safe.exa X6.alike f8 (by decide) (by decide)) (host := "") (Or.inl (w54 hw)) Via.refl (Or.inl (w55 hw)) (w39 hw) (ty := .byte) (by decide) (by decide) (by decide) d_jdk_68_method_2_19 (q := 22) rfl ?_
  intro T9 h9 l9 X9 W9 R9 F9
  refine o_goto X9 d_jdk_68_method_2_22 (by decide) (q := 38) (by decide) ?_
  have sz10 := Nat.le_trans (Keep.refl h0 [sb]).1 (Nat.le_of_eq gb3.symm)
  have k11 := Keep.ext (Keep.refl h0 [sb]) E3
  have k12 := Keep.wr k11 W6 (Or.inl (by simp))
  have k13 := Keep.wr k12 W9 (Or.inl (by simp))
  have f14 := (F6.other W9 (Or.inr (slot_ne (Or.inl (w53 hw)) (Or.inl (w55 hw)) (by decide) (t := (.array .byte)) (t' := .byte) (by decide) (by decide))))
  have f15 := (((F_count.ext E3).other W6 (Or.inr (slot_ne (Or.inl (w69 hw)) (Or.inl (w53 hw)) (by decide) (t := .int) (t' := (.array .byte)) (by decide) (by decide)))).other W9 (Or.inr (slot_ne (Or.inl (w69 hw)) (Or.inl (w55 hw)) (by decide) (t := .int) (t' := .byte) (by decide) (by decide))))
  have f16 := (((F_maybeLatin1.ext E3).other W6 (Or.inr (slot_ne (Or.inl (w280 hw)) (Or.inl (w53 hw)) (by decide) (t := .boolean) (t' := (.array .byte)) (by decide) (by decide)))).other W9 (Or.inr (slot_ne (Or.inl (w280 hw)) (Or.inl (w55 hw)) (by decide) (t := .boolean) (t' := .byte) (by decide) (by decide))))
  have f17 := (CHr.safe R9 ((Nat.lt_of_lt_of_le V3.lt (Keep.of_wr W6).1)) (CHr.safe R6 (V3.lt) S3))
  have f18 := (f8.wr W9)
  have f19 := ((V3.other W6 (Ne.symm (Nat.ne_of_lt (Nat.lt_of_lt_of_le E.lt (Nat.le_of_eq gb3.symm))))).other W9 (Ne.symm (Nat.ne_of_lt (Nat.lt_of_lt_of_le E.lt (Nat.le_of_eq gb3.symm)))))
  exact o_ret X9 d_jdk_68_method_2_38 (fun Sf hSf => ⟨rfl, k13, b3, k3, sz10, hSf _ (Nat.lt_of_lt_of_le (Nat.lt_of_lt_of_le V3.lt (Keep.of_wr W6).1) (Keep.of_wr W9).1) f17, f18, f14, f15, f16, Or.inl ⟨F9, f19.pad (fun i => (pad_rep [] _ 16 i).symm), (fun c hc => nomatch hc)⟩, (fun c hc => nomatch hc), by decide⟩) (by decide) (by decide)
set_option maxRecDepth 65536 in
set_option maxHeartbeats 40000000 in
theorem c_sb {l : Launch} {Z : State} {a0 : Array Value} (hw : W a0 Z) (sb : Addr) (h0 : Heap) {zc : Int32} (O2 : Sta Z Z.heap "java/lang/String" "COMPACT_STRINGS" "Z" (.int zc)) (P5 : ¬ zc = 0) (E : Exa Z h0 sb "java/lang/StringBuilder") (gs : Z.heap.size ≤ sb) (F_value : Fld Z h0 sb "java/lang/AbstractStringBuilder" "value" "[B" .null) (F_coder : Fld Z h0 sb "java/lang/AbstractStringBuilder" "coder" "B" (.int (0 : Int32))) (F_count : Fld Z h0 sb "java/lang/AbstractStringBuilder" "count" "I" (.int (0 : Int32))) (F_maybeLatin1 : Fld Z h0 sb "java/lang/AbstractStringBuilder" "maybeLatin1" "Z" (.int (0 : Int32))) :
    Con l Z EL0 (⟨"java/lang/StringBuilder", "<init>", "()V"⟩ : MethodName) jdk_67_method_1_code 1 none ({ frames := 2, cells := 1, slots := 16, locals := 25 } : Room) #[(.ref sb)] h0 [] (fun v h' Sf => v = none ∧ Keep h0 h' [sb] ∧ ∃ (va : Addr) (kv : ClassId), h0.size ≤ va ∧ Sf va ∧ BS Z h' sb va kv 16 []) := by
  have hpn : plainName "java/lang/StringBuilder" = true := by first | (simp [plainName, overriddenIn]; done) | decide +kernel
  refine Con.intro (plainFor_of_name hpn) ?_
  intro p e s m below meth c T X hss
  refine Goes.cast (g' := mkF m 0 #[.val (.ref sb)] []) (by first | (simp [entryFrame, mkF, argsToLocals, Value.category]; done) | rfl) ?_
  refine o_aloadN X d_jdk_67_method_1_0 rfl rfl (q := 1) rfl ?_
  refine o_bipush X d_jdk_67_method_1_1 (w := 16) rfl (q := 3) rfl ?_
  refine o_spec X [(.int (16 : Int32))] (y' := (⟨"java/lang/AbstractStringBuilder", "<init>", "(I)V"⟩ : MethodName)) (c_asb hw sb _ O2 P5 E gs F_value F_coder F_count F_maybeLatin1) all0 rfl (w44 hw) (w45 hw) (w49 hw) (w48 hw) (by decide) d_jdk_67_method_1_3 (rest := []) rfl rfl (lenOf pd28 rfl) rfl (by decide) (Nat.le_of_ble_eq_true rfl) (by decide) (by decide) (q := 6) rfl ?_
  intro v1 vm1 T1 h1 l1 X1 R1 q1
  obtain ⟨rfl, K1, va1, kv1, g1, s1, B1⟩ := q1
  show Goes p e below _ T1 (mkF m 6 #[.val (.ref sb)] [])
  exact o_ret X1 d_jdk_67_method_1_6 (fun Sf hSf => ⟨rfl, K1, va1, kv1, g1, hSf _ B1.blt s1, B1⟩) (by decide) (by decide)
set_option maxRecDepth 65536 in
set_option maxHeartbeats 40000000 in
theorem c_getV {l : Launch} {Z : State} {a0 : Array Value} (hw : W a0 Z) (sb va : Addr) (h0 : Heap) (F : Fld Z h0 sb "java/lang/AbstractStringBuilder" "value" "[B" (.ref va)) :
    Con l Z EL0 (⟨"java/lang/AbstractStringBuilder", "getValue", "()[B"⟩ : MethodName) jdk_68_method_64_code 1 (some (.array .byte)) ({ frames := 0, cells := 0, slots := 0, locals := 0 } : Room) #[(.ref sb)] h0 [] (fun v h' Sf => v = some (.ref va) ∧ h' = h0) := by
  have hpn : plainName "java/lang/AbstractStringBuilder" = true := by first | (simp [plainName, overriddenIn]; done) | decide +kernel
  refine Con.intro (plainFor_of_name hpn) ?_
  intro p e s m below meth c T X hss
  refine Goes.cast (g' := mkF m 0 #[.val (.ref sb)] []) (by first | (simp [entryFrame, mkF, argsToLocals, Value.category]; done) | rfl) ?_
  refine o_aloadN X d_jdk_68_method_64_0 rfl rfl (q := 1) rfl ?_
  refine o_getF X F (host := "") (Or.inl (w52 hw)) Via.refl d_jdk_68_method_64_1 (q := 4) rfl ?_
  intro T1 X1
  exact o_retR X1 d_jdk_68_method_64_4 rfl rfl rfl (fun Sf hSf => ⟨rfl, rfl⟩) (by decide) (by decide)
set_option maxRecDepth 65536 in
set_option maxHeartbeats 40000000 in
theorem c_alen {l : Launch} {Z : State} {a0 : Array Value} (hw : W a0 Z) (sb : Addr) (n : Int32) (h0 : Heap) (F : Fld Z h0 sb "java/lang/AbstractStringBuilder" "count" "I" (.int n)) :
    Con l Z EL0 (⟨"java/lang/AbstractStringBuilder", "length", "()I"⟩ : MethodName) jdk_68_method_6_code 1 (some .int) ({ frames := 0, cells := 0, slots := 0, locals := 0 } : Room) #[(.ref sb)] h0 [] (fun v h' Sf => v = some (.int n) ∧ h' = h0) := by
  have hpn : plainName "java/lang/AbstractStringBuilder" = true := by first | (simp [plainName, overriddenIn]; done) | decide +kernel
  refine Con.intro (plainFor_of_name hpn) ?_
  intro p e s m below meth c T X hss
  refine Goes.cast (g' := mkF m 0 #[.val (.ref sb)] []) (by first | (simp [entryFrame, mkF, argsToLocals, Value.category]; done) | rfl) ?_
  refine o_aloadN X d_jdk_68_method_6_0 rfl rfl (q := 1) rfl ?_
  refine o_getF X F (host := "") (Or.inl (w68 hw)) Via.refl d_jdk_68_method_6_1 (q := 4) rfl ?_
  intro T1 X1
  exact o_retI X1 d_jdk_68_method_6_4 (fun Sf hSf => ⟨rfl, rfl⟩) (by decide) (by decide)
set_option maxRecDepth 65536 in
set_option maxHeartbeats 40000000 in
theorem c_slen {l : Launch} {Z : State} {a0 : Array Value} (hw : W a0 Z) (sb : Addr) (n : Int32) (h0 : Heap) (E : Exa Z h0 sb "java/lang/StringBuilder") (F : Fld Z h0 sb "java/lang/AbstractStringBuilder" "count" "I" (.int n)) :
    Con l Z EL0 (⟨"java/lang/StringBuilder", "length", "()I"⟩ : MethodName) jdk_67_method_93_code 1 (some .int) ({ frames := 1, cells := 0, slots := 0, locals := 12 } : Room) #[(.ref sb)] h0 [] (fun v h' Sf => v = some (.int n) ∧ h' = h0) := by
  have hpn : plainName "java/lang/StringBuilder" = true := by first | (simp [plainName, overriddenIn]; done) | decide +kernel
  refine Con.intro (plainFor_of_name hpn) ?_
  intro p e s m below meth c T X hss
  refine Goes.cast (g' := mkF m 0 #[.val (.ref sb)] []) (by first | (simp [entryFrame, mkF, argsToLocals, Value.category]; done) | rfl) ?_
  refine o_aloadN X d_jdk_67_method_93_0 rfl rfl (q := 1) rfl ?_
  refine o_super X [] (y' := (⟨"java/lang/AbstractStringBuilder", "length", "()I"⟩ : MethodName)) E (c_alen hw sb n _ F) all0 (w118 hw) (same_up (w73 hw) (w114 hw) rfl (by decide)) (w114 hw) (w64 hw) (by decide) (w119 hw) (w48 hw) d_jdk_67_method_93_1 (rest := []) rfl rfl (lenOf pd31 rfl) rfl (by decide) (Nat.le_of_ble_eq_true rfl) (by decide) (by decide) (q := 4) rfl ?_
  intro v1 vm1 T1 h1 l1 X1 R1 q1
  obtain ⟨rfl, e1⟩ := q1
  have e1 := e1.symm
  subst e1
  show Goes p e below _ T1 (mkF m 4 #[.val (.ref sb)] [(.int n)])
  exact o_retI X1 d_jdk_67_method_93_4 (fun Sf hSf => ⟨rfl, rfl⟩) (by decide) (by decide)
set_option maxRecDepth 65536 in
set_option maxHeartbeats 40000000 in
theorem c_tos0 {l : Launch} {Z : State} {a0 : Array Value} (hw : W a0 Z) (a sb va : Addr) (cap : Nat) (ys : List Int32) (h0 : Heap) {zc : Int32} (O2 : Sta Z Z.heap "java/lang/String" "COMPACT_STRINGS" "Z" (.int zc)) (P5 : ¬ zc = 0) (E : Exa Z h0 a "java/lang/String") (ga : Z.heap.size ≤ a) (Fv : Fld Z h0 a "java/lang/String" "value" "[B" .null) (Fc : Fld Z h0 a "java/lang/String" "coder" "B" (.int (0 : Int32))) (E_sb : Exa Z h0 sb "java/lang/StringBuilder") (gs : Z.heap.size ≤ sb) (F_value : Fld Z h0 sb "java/lang/AbstractStringBuilder" "value" "[B" (.ref va)) (F_coder : Fld Z h0 sb "java/lang/AbstractStringBuilder" "coder" "B" (.int (0 : Int32))) (F_count : Fld Z h0 sb "java/lang/AbstractStringBuilder" "count" "I" (.int (Int32.ofNat ys.length))) (F_maybeLatin1 : Fld Z h0 sb "java/lang/AbstractStringBuilder" "maybeLatin1" "Z" (.int (0 : Int32))) {kv : ClassId} (Vv : Arv Z h0 va kv .byte (Int32.ofNat cap) (LB ys) (.int (0 : Int32))) (n1 : sb ≠ a) (n2 : va ≠ a) (hlt : ys.length < cap) (hcb : cap ≤ 404) (hy2 : ys.length ≤ 202) (hr : ∀ c ∈ ys, Rg c) (hq : ∀ c ∈ ys, ¬ (255 : Int32) < c) :
    Con l Z EL0 (⟨"java/lang/String", "<init>", "(Ljava/lang/AbstractStringBuilder;Ljava/lang/Void;)V"⟩ : MethodName) jdk_42_method_150_code 5 none ({ frames := 3, cells := 1, slots := 404, locals := 49 } : Room) #[(.ref a), (.ref sb), .null] h0 [a] (fun v h' Sf => v = none ∧ Keep h0 h' [a] ∧ ∃ (b : Addr) (kb : ClassId), h0.size ≤ b ∧ US Z h' a b kb ys) := by
  have hpn : plainName "java/lang/String" = true := by first | (simp [plainName, overriddenIn]; done) | decide +kernel
  refine Con.intro (plainFor_of_name hpn) ?_
  intro p e s m below meth c T X hss
  have S_a := hss a (by simp)
  refine Goes.cast (g' := mkF m 0 #[.val (.ref a), .val (.ref sb), .val .null, .unset, .unset] []) (by first | (simp [entryFrame, mkF, argsToLocals, Value.category]; done) | rfl) ?_
  refine o_aloadN X d_jdk_42_method_150_0 rfl rfl (q := 1) rfl ?_
  refine o_initO X (w12 hw) (w13 hw) (w14 hw) d_jdk_42_method_150_1 rfl (by decide) (Nat.le_of_ble_eq_true rfl) (q := 4) rfl ?_
  intro T1 X1
  refine o_aloadN X1 d_jdk_42_method_150_4 rfl rfl (q := 5) rfl ?_
  refine o_virt X1 [] (y' := (⟨"java/lang/AbstractStringBuilder", "getValue", "()[B"⟩ : MethodName)) E_sb (c_getV hw sb va _ F_value) all0 (w107 hw) (w108 hw) (w110 hw) (w109 hw) (w111 hw) (w48 hw) (by decide) d_jdk_42_method_150_5 (rest := []) rfl rfl (lenOf pd32 rfl) rfl (by decide) (Nat.le_of_ble_eq_true rfl) (by decide) (by decide) (q := 8) rfl ?_
  intro v2 vm2 T2 h2 l2 X2 R2 q2
  obtain ⟨rfl, e2⟩ := q2
  have e2 := e2.symm
  subst e2
  show Goes p e below _ T2 (mkF m 8 #[.val (.ref a), .val (.ref sb), .val .null, .unset, .unset] [(.ref va)])
  refine o_astoreN X2 d_jdk_42_method_150_8 rfl (L' := #[.val (.ref a), .val (.ref sb), .val .null, .val (.ref va), .unset]) rfl (q := 9) rfl ?_
  refine o_aloadN X2 d_jdk_42_method_150_9 rfl rfl (q := 10) rfl ?_
  have f3 := E_sb
  have f4 := F_count
  refine o_virt2 X2 [] (z' := (⟨"java/lang/AbstractStringBuilder", "length", "()I"⟩ : MethodName)) (y' := (⟨"java/lang/StringBuilder", "length", "()I"⟩ : MethodName)) f3 (c_slen hw sb _ _ f3 f4) all0 (w112 hw) (w113 hw) (w115 hw) (w73 hw) rfl (w116 hw) (w117 hw) (w40 hw) (by decide) d_jdk_42_method_150_10 (rest := []) rfl rfl (lenOf pd31 rfl) rfl (by decide) (Nat.le_of_ble_eq_true rfl) (by decide) (by decide) (q := 13) rfl ?_
  intro v5 vm5 T5 h5 l5 X5 R5 q5
  obtain ⟨rfl, e5⟩ := q5
  have e5 := e5.symm
  subst e5
  show Goes p e below _ T5 (mkF m 13 #[.val (.ref a), .val (.ref sb), .val .null, .val (.ref va), .unset] [(.int (Int32.ofNat ys.length))])
  refine o_istore X5 d_jdk_42_method_150_13 rfl (L' := #[.val (.ref a), .val (.ref sb), .val .null, .val (.ref va), .val (.int (Int32.ofNat ys.length))]) rfl (q := 15) rfl ?_
  refine o_aloadN X5 d_jdk_42_method_150_15 rfl rfl (q := 16) rfl ?_
  have f6 := F_coder
  have f8 := f3
  refine o_virt X5 [] (y' := (⟨"java/lang/AbstractStringBuilder", "isLatin1", "()Z"⟩ : MethodName)) f8 (c_aLat0 hw sb _ O2 P5 f6) all0 (w120 hw) (w121 hw) (w123 hw) (w122 hw) (w124 hw) (w48 hw) (by decide) d_jdk_42_method_150_16 (rest := []) rfl rfl (lenOf pd14 rfl) rfl (by decide) (Nat.le_of_ble_eq_true rfl) (by decide) (by decide) (q := 19) rfl ?_
  intro v7 vm7 T7 h7 l7 X7 R7 q7
  obtain ⟨rfl, e7⟩ := q7
  have e7 := e7.symm
  subst e7
  show Goes p e below _ T7 (mkF m 19 #[.val (.ref a), .val (.ref sb), .val .null, .val (.ref va), .val (.int (Int32.ofNat ys.length))] [(.int (1 : Int32))])
  refine o_ifN X7 d_jdk_42_method_150_19 (by decide) (q := 22) rfl ?_
  refine o_aloadN X7 d_jdk_42_method_150_22 rfl rfl (q := 23) rfl ?_
  refine o_iconst X7 d_jdk_42_method_150_23 (w := 0) rfl (q := 24) rfl ?_
  have f9 := Fc
  have f10 := E
  have f12 := (CHr.safe R7 (E.lt) (CHr.safe R5 (E.lt) (CHr.safe R2 (E.lt) S_a)))
  refine o_putF X7 f9 f10 ga f12 (host := "") (Or.inl (w22 hw)) Via.refl (Or.inr ⟨(w18 hw), rfl, rfl⟩) (w3 hw) (ty := .byte) (by decide) (by decide) (by decide) d_jdk_42_method_150_24 (q := 27) rfl ?_
  intro T11 h11 l11 X11 W11 R11 F11
  refine o_aloadN X11 d_jdk_42_method_150_27 rfl rfl (q := 28) rfl ?_
  refine o_aloadN X11 d_jdk_42_method_150_28 rfl rfl (q := 29) rfl ?_
  refine o_iconst X11 d_jdk_42_method_150_29 (w := 0) rfl (q := 30) rfl ?_
  refine o_iload X11 d_jdk_42_method_150_30 rfl (q := 32) rfl ?_
  have f13 := (Vv.other W11 n2)
  refine o_stat X11 [(.ref va), (.int (0 : Int32)), (.int (Int32.ofNat ys.length))] (y' := (⟨"java/util/Arrays", "copyOfRange", "([BII)[B"⟩ : MethodName)) (c_cor404 hw va ys.length cap _ f13 hlt (by omega) (by simp) (by omega)) all0 (w125 hw) (w126 hw) (w127 hw) (w128 hw) (by decide) d_jdk_42_method_150_32 (rest := [(.ref a)]) rfl rfl (lenOf pd16 rfl) rfl (by decide) (Nat.le_of_ble_eq_true rfl) (by decide) (by decide) (q := 35) rfl ?_
  intro v14 vm14 T14 h14 l14 X14 R14 q14
  obtain ⟨b14, kb14, rfl, K14, g14, s14, V14⟩ := q14
  show Goes p e below _ T14 (mkF m 35 #[.val (.ref a), .val (.ref sb), .val .null, .val (.ref va), .val (.int (Int32.ofNat ys.length))] [(.ref b14), (.ref a)])
  have f15 := ((Fv.other W11 (Or.inr (slot_ne (Or.inr (w17 hw)) (Or.inr (w18 hw)) (by decide) (t := (.array .byte)) (t' := .byte) (by decide) (by decide)))).keep K14 nin0)
  have f16 := ((f10.wr W11).keep K14)
  have f18 := (CHr.safe R14 (F11.lt) (CHr.safe R11 (f10.lt) f12))
  refine o_putF X14 f15 f16 ga f18 (host := "") (Or.inl (w21 hw)) Via.refl (Or.inr ⟨(w17 hw), rfl, rfl⟩) (w3 hw) (ty := (.array .byte)) (by decide) rfl rfl d_jdk_42_method_150_35 (q := 38) rfl ?_
  intro T17 h17 l17 X17 W17 R17 F17
  refine o_goto X17 d_jdk_42_method_150_38 (by decide) (q := 97) (by decide) ?_
  have k19 := Keep.wr (Keep.refl h0 [a]) W11 (Or.inl (by simp))
  have sz20 := Nat.le_trans k19.1 g14
  have k21 := Keep.trans k19 K14 all0
  have k22 := Keep.wr k21 W17 (Or.inl (by simp))
  have f23 := (f16.wr W17)
  have f24 := ((F11.keep K14 nin0).other W17 (Or.inr (slot_ne (Or.inr (w18 hw)) (Or.inr (w17 hw)) (by decide) (t := .byte) (t' := (.array .byte)) (by decide) (by decide))))
  have f25 := (V14.other W17 (Ne.symm (Nat.ne_of_lt (Nat.lt_of_lt_of_le F11.lt g14))))
  exact o_ret X17 d_jdk_42_method_150_97 (fun Sf hSf => ⟨rfl, k22, b14, kb14, sz20, Or.inl ⟨f23, f24, F17, (by have q := f25; rwa [List.take_of_length_le (by simp)] at q), own_lat hr hq, by omega⟩⟩) (by decide) (by decide)
set_option maxRecDepth 65536 in
set_option maxHeartbeats 40000000 in
theorem c_tos1 {l : Launch} {Z : State} {a0 : Array Value} (hw : W a0 Z) (a sb va : Addr) (cap : Nat) (ys : List Int32) (h0 : Heap) {zc : Int32} (O2 : Sta Z Z.heap "java/lang/String" "COMPACT_STRINGS" "Z" (.int zc)) (P5 : ¬ zc = 0) (E : Exa Z h0 a "java/lang/String") (ga : Z.heap.size ≤ a) (Fv : Fld Z h0 a "java/lang/String" "value" "[B" .null) (Fc : Fld Z h0 a "java/lang/String" "coder" "B" (.int (0 : Int32))) (E_sb : Exa Z h0 sb "java/lang/StringBuilder") (gs : Z.heap.size ≤ sb) (F_value : Fld Z h0 sb "java/lang/AbstractStringBuilder" "value" "[B" (.ref va)) (F_coder : Fld Z h0 sb "java/lang/AbstractStringBuilder" "coder" "B" (.int (1 : Int32))) (F_count : Fld Z h0 sb "java/lang/AbstractStringBuilder" "count" "I" (.int (Int32.ofNat ys.length))) (F_maybeLatin1 : Fld Z h0 sb "java/lang/AbstractStringBuilder" "maybeLatin1" "Z" (.int (0 : Int32))) {kv : ClassId} (Vv : Arv Z h0 va kv .byte (Int32.ofNat (2 * cap)) (StrChars.Road.wideBytes ys) (.int (0 : Int32))) (n1 : sb ≠ a) (n2 : va ≠ a) (hlt : ys.length < cap) (hcb : cap ≤ 404) (hy2 : ys.length ≤ 202) (hr : ∀ c ∈ ys, Rg c) (hq : ∃ c ∈ ys, (255 : Int32) < c) :
    Con l Z EL0 (⟨"java/lang/String", "<init>", "(Ljava/lang/AbstractStringBuilder;Ljava/lang/Void;)V"⟩ : MethodName) jdk_42_method_150_code 5 none ({ frames := 3, cells := 1, slots := 404, locals := 49 } : Room) #[(.ref a), (.ref sb), .null] h0 [a] (fun v h' Sf => v = none ∧ Keep h0 h' [a] ∧ ∃ (b : Addr) (kb : ClassId), h0.size ≤ b ∧ US Z h' a b kb ys) := by
  have hpn : plainName "java/lang/String" = true := by first | (simp [plainName, overriddenIn]; done) | decide +kernel
  refine Con.intro (plainFor_of_name hpn) ?_
  intro p e s m below meth c T X hss
  have S_a := hss a (by simp)
  refine Goes.cast (g' := mkF m 0 #[.val (.ref a), .val (.ref sb), .val .null, .unset, .unset] []) (by first | (simp [entryFrame, mkF, argsToLocals, Value.category]; done) | rfl) ?_
  refine o_aloadN X d_jdk_42_method_150_0 rfl rfl (q := 1) rfl ?_
  refine o_initO X (w12 hw) (w13 hw) (w14 hw) d_jdk_42_method_150_1 rfl (by decide) (Nat.le_of_ble_eq_true rfl) (q := 4) rfl ?_
  intro T1 X1
  refine o_aloadN X1 d_jdk_42_method_150_4 rfl rfl (q := 5) rfl ?_
  refine o_virt X1 [] (y' := (⟨"java/lang/AbstractStringBuilder", "getValue", "()[B"⟩ : MethodName)) E_sb (c_getV hw sb va _ F_value) all0 (w107 hw) (w108 hw) (w110 hw) (w109 hw) (w111 hw) (w48 hw) (by decide) d_jdk_42_method_150_5 (rest := []) rfl rfl (lenOf pd32 rfl) rfl (by decide) (Nat.le_of_ble_eq_true rfl) (by decide) (by decide) (q := 8) rfl ?_
  intro v2 vm2 T2 h2 l2 X2 R2 q2
  obtain ⟨rfl, e2⟩ := q2
  have e2 := e2.symm
  subst e2
  show Goes p e below _ T2 (mkF m 8 #[.val (.ref a), .val (.ref sb), .val .null, .unset, .unset] [(.ref va)])
  refine o_astoreN X2 d_jdk_42_method_150_8 rfl (L' := #[.val (.ref a), .val (.ref sb), .val .null, .val (.ref va), .unset]) rfl (q := 9) rfl ?_
  refine o_aloadN X2 d_jdk_42_method_150_9 rfl rfl (q := 10) rfl ?_
  have f3 := E_sb
  have f4 := F_count
  refine o_virt2 X2 [] (z' := (⟨"java/lang/AbstractStringBuilder", "length", "()I"⟩ : MethodName)) (y' := (⟨"java/lang/StringBuilder", "length", "()I"⟩ : MethodName)) f3 (c_slen hw sb _ _ f3 f4) all0 (w112 hw) (w113 hw) (w115 hw) (w73 hw) rfl (w116 hw) (w117 hw) (w40 hw) (by decide) d_jdk_42_method_150_10 (rest := []) rfl rfl (lenOf pd31 rfl) rfl (by decide) (Nat.le_of_ble_eq_true rfl) (by decide) (by decide) (q := 13) rfl ?_
  intro v5 vm5 T5 h5 l5 X5 R5 q5
  obtain ⟨rfl, e5⟩ := q5
  have e5 := e5.symm
  subst e5
  show Goes p e below _ T5 (mkF m 13 #[.val (.ref a), .val (.ref sb), .val .null, .val (.ref va), .unset] [(.int (Int32.ofNat ys.length))])
  refine o_istore X5 d_jdk_42_method_150_13 rfl (L' := #[.val (.ref a), .val (.ref sb), .val .null, .val (.ref va), .val (.int (Int32.ofNat ys.length))]) rfl (q := 15) rfl ?_
  refine o_aloadN X5 d_jdk_42_method_150_15 rfl rfl (q := 16) rfl ?_
  have f6 := F_coder
  have f8 := f3
  refine o_virt X5 [] (y' := (⟨"java/lang/AbstractStringBuilder", "isLatin1", "()Z"⟩ : MethodName)) f8 (c_aLat1 hw sb _ O2 P5 f6) all0 (w120 hw) (w121 hw) (w123 hw) (w122 hw) (w124 hw) (w48 hw) (by decide) d_jdk_42_method_150_16 (rest := []) rfl rfl (lenOf pd14 rfl) rfl (by decide) (Nat.le_of_ble_eq_true rfl) (by decide) (by decide) (q := 19) rfl ?_
  intro v7 vm7 T7 h7 l7 X7 R7 q7
  obtain ⟨rfl, e7⟩ := q7
  have e7 := e7.symm
  subst e7
  show Goes p e below _ T7 (mkF m 19 #[.val (.ref a), .val (.ref sb), .val .null, .val (.ref va), .val (.int (Int32.ofNat ys.length))] [(.int (0 : Int32))])
  refine o_ifY X7 d_jdk_42_method_150_19 (by decide) (by decide) (q := 41) (by decide) ?_
  refine o_getS X7 O2 (host := "") (Or.inl (w37 hw)) Via.refl d_jdk_42_method_150_41 (q := 44) rfl ?_
  intro T9 X9
  refine o_ifN X9 d_jdk_42_method_150_44 (feq P5).1 (q := 47) rfl ?_
  refine o_aloadN X9 d_jdk_42_method_150_47 rfl rfl (q := 48) rfl ?_
  have f10 := F_maybeLatin1
  refine o_getF X9 f10 (host := "") (Or.inl (w279 hw)) Via.refl d_jdk_42_method_150_48 (q := 51) rfl ?_
  intro T11 X11
  refine o_ifY X11 d_jdk_42_method_150_51 (by decide) (by decide) (q := 79) (by decide) ?_
  refine o_aloadN X11 d_jdk_42_method_150_79 rfl rfl (q := 80) rfl ?_
  refine o_iconst X11 d_jdk_42_method_150_80 (w := 1) rfl (q := 81) rfl ?_
  have f12 := Fc
  have f13 := E
  have f15 := (CHr.safe R7 (E.lt) (CHr.safe R5 (E.lt) (CHr.safe R2 (E.lt) S_a)))
  refine o_putF X11 f12 f13 ga f15 (host := "") (Or.inl (w22 hw)) Via.refl (Or.inr ⟨(w18 hw), rfl, rfl⟩) (w3 hw) (ty := .byte) (by decide) (by decide) (by decide) d_jdk_42_method_150_81 (q := 84) rfl ?_
  intro T14 h14 l14 X14 W14 R14 F14
  refine o_aloadN X14 d_jdk_42_method_150_84 rfl rfl (q := 85) rfl ?_
  refine o_aloadN X14 d_jdk_42_method_150_85 rfl rfl (q := 86) rfl ?_
  refine o_iconst X14 d_jdk_42_method_150_86 (w := 0) rfl (q := 87) rfl ?_
  refine o_iload X14 d_jdk_42_method_150_87 rfl (q := 89) rfl ?_
  refine o_iconst X14 d_jdk_42_method_150_89 (w := 1) rfl (q := 90) rfl ?_
  refine o_ishl X14 d_jdk_42_method_150_90 (w := (Int32.ofNat (2 * ys.length))) (own_shl1 (by omega)) (q := 91) rfl ?_
  have f16 := (Vv.other W14 n2)
  refine o_stat X14 [(.ref va), (.int (0 : Int32)), (.int (Int32.ofNat (2 * ys.length)))] (y' := (⟨"java/util/Arrays", "copyOfRange", "([BII)[B"⟩ : MethodName)) (c_cor404 hw va (2 * ys.length) (2 * cap) _ f16 (by omega) (by omega) (by rw [own_wlen]; omega) (by omega)) all0 (w125 hw) (w126 hw) (w127 hw) (w128 hw) (by decide) d_jdk_42_method_150_91 (rest := [(.ref a)]) rfl rfl (lenOf pd16 rfl) rfl (by decide) (Nat.le_of_ble_eq_true rfl) (by decide) (by decide) (q := 94) rfl ?_
  intro v17 vm17 T17 h17 l17 X17 R17 q17
  obtain ⟨b17, kb17, rfl, K17, g17, s17, V17⟩ := q17
  show Goes p e below _ T17 (mkF m 94 #[.val (.ref a), .val (.ref sb), .val .null, .val (.ref va), .val (.int (Int32.ofNat ys.length))] [(.ref b17), (.ref a)])
  have f18 := ((Fv.other W14 (Or.inr (slot_ne (Or.inr (w17 hw)) (Or.inr (w18 hw)) (by decide) (t := (.array .byte)) (t' := .byte) (by decide) (by decide)))).keep K17 nin0)
  have f19 := ((f13.wr W14).keep K17)
  have f21 := (CHr.safe R17 (F14.lt) (CHr.safe R14 (f13.lt) f15))
  refine o_putF X17 f18 f19 ga f21 (host := "") (Or.inl (w21 hw)) Via.refl (Or.inr ⟨(w17 hw), rfl, rfl⟩) (w3 hw) (ty := (.array .byte)) (by decide) rfl rfl d_jdk_42_method_150_94 (q := 97) rfl ?_
  intro T20 h20 l20 X20 W20 R20 F20
  have k22 := Keep.wr (Keep.refl h0 [a]) W14 (Or.inl (by simp))
  have sz23 := Nat.le_trans k22.1 g17
  have k24 := Keep.trans k22 K17 all0
  have k25 := Keep.wr k24 W20 (Or.inl (by simp))
  have f26 := (f19.wr W20)
  have f27 := ((F14.keep K17 nin0).other W20 (Or.inr (slot_ne (Or.inr (w18 hw)) (Or.inr (w17 hw)) (by decide) (t := .byte) (t' := (.array .byte)) (by decide) (by decide))))
  have f28 := (V17.other W20 (Ne.symm (Nat.ne_of_lt (Nat.lt_of_lt_of_le F14.lt g17))))
  exact o_ret X20 d_jdk_42_method_150_97 (fun Sf hSf => ⟨rfl, k25, b17, kb17, sz23, Or.inr ⟨f26, f27, F20, (by have q := f28; rwa [List.take_of_length_le (by rw [own_wlen]; omega)] at q), hq, hr, by omega⟩⟩) (by decide) (by decide)
theorem c_tos {l : Launch} {Z : State} {a0 : Array Value} (hw : W a0 Z) (a sb va : Addr) (cap : Nat) (ys : List Int32) (h0 : Heap) {zc : Int32} (O2 : Sta Z Z.heap "java/lang/String" "COMPACT_STRINGS" "Z" (.int zc)) (P5 : ¬ zc = 0) (E : Exa Z h0 a "java/lang/String") (ga : Z.heap.size ≤ a) (Fv : Fld Z h0 a "java/lang/String" "value" "[B" .null) (Fc : Fld Z h0 a "java/lang/String" "coder" "B" (.int (0 : Int32))) {kv : ClassId} (B : BS Z h0 sb va kv cap ys) (gs : Z.heap.size ≤ sb) (n1 : sb ≠ a) (n2 : va ≠ a) (hlt : ys.length < cap) (hcb : cap ≤ 404) (hy2 : ys.length ≤ 202) :
    Con l Z EL0 (⟨"java/lang/String", "<init>", "(Ljava/lang/AbstractStringBuilder;Ljava/lang/Void;)V"⟩ : MethodName) jdk_42_method_150_code 5 none ({ frames := 3, cells := 1, slots := 404, locals := 49 } : Room) #[(.ref a), (.ref sb), .null] h0 [a] (fun v h' Sf => v = none ∧ Keep h0 h' [a] ∧ ∃ (b : Addr) (kb : ClassId), h0.size ≤ b ∧ US Z h' a b kb ys) := by
  obtain ⟨E_sb, F_value, F_count, F_maybeLatin1, B2, hry, hc⟩ := B
  rcases B2 with ⟨F_coder, Vv, hq⟩ | ⟨F_coder, Vv, hq⟩
  · exact c_tos0 hw a sb va cap ys h0 O2 P5 E ga Fv Fc E_sb gs F_value F_coder F_count F_maybeLatin1 Vv n1 n2 hlt hcb hy2 hry hq
  · exact c_tos1 hw a sb va cap ys h0 O2 P5 E ga Fv Fc E_sb gs F_value F_coder F_count F_maybeLatin1 Vv n1 n2 hlt hcb hy2 hry hq
set_option maxRecDepth 65536 in
set_option maxHeartbeats 40000000 in
theorem c_tosB {l : Launch} {Z : State} {a0 : Array Value} (hw : W a0 Z) (a sb va : Addr) (cap : Nat) (ys : List Int32) (h0 : Heap) {zc : Int32} (O2 : Sta Z Z.heap "java/lang/String" "COMPACT_STRINGS" "Z" (.int zc)) (P5 : ¬ zc = 0) (E : Exa Z h0 a "java/lang/String") (ga : Z.heap.size ≤ a) (Fv : Fld Z h0 a "java/lang/String" "value" "[B" .null) (Fc : Fld Z h0 a "java/lang/String" "coder" "B" (.int (0 : Int32))) {kv : ClassId} (B : BS Z h0 sb va kv cap ys) (gs : Z.heap.size ≤ sb) (n1 : sb ≠ a) (n2 : va ≠ a) (hlt : ys.length < cap) (hcb : cap ≤ 404) (hy2 : ys.length ≤ 202) :
    Con l Z EL0 (⟨"java/lang/String", "<init>", "(Ljava/lang/StringBuilder;)V"⟩ : MethodName) jdk_42_method_53_code 2 none ({ frames := 4, cells := 1, slots := 404, locals := 65 } : Room) #[(.ref a), (.ref sb)] h0 [a] (fun v h' Sf => v = none ∧ Keep h0 h' [a] ∧ ∃ (b : Addr) (kb : ClassId), h0.size ≤ b ∧ US Z h' a b kb ys) := by
  have hpn : plainName "java/lang/String" = true := by first | (simp [plainName, overriddenIn]; done) | decide +kernel
  refine Con.intro (plainFor_of_name hpn) ?_
  intro p e s m below meth c T X hss
  have S_a := hss a (by simp)
  refine Goes.cast (g' := mkF m 0 #[.val (.ref a), .val (.ref sb)] []) (by first | (simp [entryFrame, mkF, argsToLocals, Value.category]; done) | rfl) ?_
  refine o_aloadN X d_jdk_42_method_53_0 rfl rfl (q := 1) rfl ?_
  refine o_aloadN X d_jdk_42_method_53_1 rfl rfl (q := 2) rfl ?_
  refine o_null X d_jdk_42_method_53_2 (q := 3) rfl ?_
  refine o_spec X [(.ref sb), .null] (y' := (⟨"java/lang/String", "<init>", "(Ljava/lang/AbstractStringBuilder;Ljava/lang/Void;)V"⟩ : MethodName)) (c_tos hw a sb va cap ys _ O2 P5 E ga Fv Fc B gs n1 n2 hlt hcb hy2) (allS ⟨E.lt, S_a⟩ all0) rfl (w104 hw) (w105 hw) (w106 hw) (w4 hw) (by decide) d_jdk_42_method_53_3 (rest := []) rfl rfl (lenOf pd33 rfl) rfl (by decide) (Nat.le_of_ble_eq_true rfl) (by decide) (by decide) (q := 6) rfl ?_
  intro v1 vm1 T1 h1 l1 X1 R1 q1
  obtain ⟨rfl, K1, b1, kb1, g1, U1⟩ := q1
  show Goes p e below _ T1 (mkF m 6 #[.val (.ref a), .val (.ref sb)] [])
  exact o_ret X1 d_jdk_42_method_53_6 (fun Sf hSf => ⟨rfl, K1, b1, kb1, g1, U1⟩) (by decide) (by decide)
set_option maxRecDepth 65536 in
set_option maxHeartbeats 40000000 in
theorem c_toS {l : Launch} {Z : State} {a0 : Array Value} (hw : W a0 Z) (sb va : Addr) (cap : Nat) (ys : List Int32) (h0 : Heap) {zc : Int32} (O2 : Sta Z Z.heap "java/lang/String" "COMPACT_STRINGS" "Z" (.int zc)) (P5 : ¬ zc = 0) {kv : ClassId} (B : BS Z h0 sb va kv cap ys) (gs : Z.heap.size ≤ sb) (hlt : ys.length < cap) (hcb : cap ≤ 404) (hy2 : ys.length ≤ 202) :
    Con l Z EL0 (⟨"java/lang/StringBuilder", "toString", "()Ljava/lang/String;"⟩ : MethodName) jdk_67_method_42_code 1 (some (.object "java/lang/String")) ({ frames := 5, cells := 2, slots := 408, locals := 79 } : Room) #[(.ref sb)] h0 [] (fun v h' Sf => ∃ (r b : Addr) (kb : ClassId), v = some (.ref r) ∧ Keep h0 h' [] ∧ US Z h' r b kb ys) := by
  have hpn : plainName "java/lang/StringBuilder" = true := by first | (simp [plainName, overriddenIn]; done) | decide +kernel
  refine Con.intro (plainFor_of_name hpn) ?_
  intro p e s m below meth c T X hss
  refine Goes.cast (g' := mkF m 0 #[.val (.ref sb)] []) (by first | (simp [entryFrame, mkF, argsToLocals, Value.category]; done) | rfl) ?_
  refine o_new X (w100 hw) (w3 hw) (w4 hw) d_jdk_67_method_42_0 (by decide) (by decide) (q := 3) rfl ?_
  intro T1 h1 b1 gb1 X1 E1 R1 S1 A1 D1 g0_b1
  have f2 : Fld Z h1 b1 "java/lang/String" "value" "[B" .null := D1 (Or.inr (w17 hw)) (ty := (.array .byte)) (by decide)
  have f3 : Fld Z h1 b1 "java/lang/String" "coder" "B" (.int (0 : Int32)) := D1 (Or.inr (w18 hw)) (ty := .byte) (by decide)
  refine o_dup X1 d_jdk_67_method_42_3 rfl (q := 4) rfl ?_
  refine o_aloadN X1 d_jdk_67_method_42_4 rfl rfl (q := 5) rfl ?_
  have f4 := (B.ext E1)
  refine o_spec X1 [(.ref sb)] (y' := (⟨"java/lang/String", "<init>", "(Ljava/lang/StringBuilder;)V"⟩ : MethodName)) (c_tosB hw b1 sb va cap ys _ O2 P5 A1 g0_b1 f2 f3 f4 gs (Nat.ne_of_lt (Nat.lt_of_lt_of_le B.lt (Nat.le_of_eq gb1.symm))) (Nat.ne_of_lt (Nat.lt_of_lt_of_le B.blt (Nat.le_of_eq gb1.symm))) hlt hcb hy2) (allS ⟨A1.lt, S1⟩ all0) rfl (w101 hw) (w102 hw) (w103 hw) (w4 hw) (by decide) d_jdk_67_method_42_5 (rest := [(.ref b1)]) rfl rfl (lenOf pd34 rfl) rfl (by decide) (Nat.le_of_ble_eq_true rfl) (by decide) (by decide) (q := 8) rfl ?_
  intro v5 vm5 T5 h5 l5 X5 R5 q5
  obtain ⟨rfl, K5, b5, kb5, g5, U5⟩ := q5
  show Goes p e below _ T5 (mkF m 8 #[.val (.ref sb)] [(.ref b1)])
  have sz6 := Nat.le_trans (Keep.refl h0 []).1 (Nat.le_of_eq gb1.symm)
  have k7 := Keep.ext (Keep.refl h0 []) E1
  have k8 := Keep.trans k7 K5 (allS (Or.inr sz6) all0)
  exact o_retR X5 d_jdk_67_method_42_8 rfl rfl rfl (fun Sf hSf => ⟨b1, b5, kb5, rfl, k8, U5⟩) (by decide) (by decide)
set_option maxRecDepth 65536 in
set_option maxHeartbeats 40000000 in
theorem c_qs {l : Launch} {Z : State} {a0 : Array Value} (hw : W a0 Z) (a b : Addr) (kb : ClassId) (cs : List Int32) (h0 : Heap) {zc : Int32} (O2 : Sta Z Z.heap "java/lang/String" "COMPACT_STRINGS" "Z" (.int zc)) (P5 : ¬ zc = 0) {fm : Value} (O4 : Sta Z Z.heap "jdk/internal/util/Preconditions" "SIOOBE_FORMATTER" "Ljava/util/function/BiFunction;" fm) (rfm : fm.isRef = true) (SA : Sta Z Z.heap "java/lang/StringUTF16" "$assertionsDisabled" "Z" (.int (1 : Int32))) (SH : Sta Z Z.heap "java/lang/StringUTF16" "HI_BYTE_SHIFT" "I" (.int (0 : Int32))) (SL : Sta Z Z.heap "java/lang/StringUTF16" "LO_BYTE_SHIFT" "I" (.int (8 : Int32))) (U : US Z h0 a b kb cs) (hN : cs.length ≤ 400) (hs : cs.length ≤ 200) (h14 : cs.length ≠ 14) (h32 : cs.length < 5 ∨ 100 < cs.length) :
    Con l Z EL0 (⟨"com/example/unibrace/unibrace/ErrorText", "quote", "(Ljava/lang/String;)Ljava/lang/String;"⟩ : MethodName) prog_1_method_2_code 2 (some (.object "java/lang/String")) ({ frames := 10, cells := 27, slots := 9563, locals := 143 } : Room) #[(.ref a)] h0 [] (fun v h' Sf => ∃ (r b : Addr) (kb : ClassId), v = some (.ref r) ∧ Keep h0 h' [] ∧ US Z h' r b kb (quoteF cs)) := by
  have hpn : plainName "com/example/unibrace/unibrace/ErrorText" = true := by first | (simp [plainName, overriddenIn]; done) | decide +kernel
  refine Con.intro (plainFor_of_name hpn) ?_
  intro p e s m below meth c T X hss
  refine Goes.cast (g' := mkF m 0 #[.val (.ref a), .unset] []) (by first | (simp [entryFrame, mkF, argsToLocals, Value.category]; done) | rfl) ?_
  have e7 := hs
  refine o_aloadN X d_prog_1_method_2_0 rfl rfl (q := 1) rfl ?_
  refine o_strlenU X U O2 P5 (hwln hw) (w3 hw) (w27 hw) (w28 hw) (w30 hw) (w29 hw) d_prog_1_method_2_1 rfl (by decide) (Nat.le_of_ble_eq_true rfl) (by decide) (by decide) (q := 4) rfl ?_
  intro T1 l1 X1
  refine o_sipush X1 d_prog_1_method_2_4 (w := 200) rfl (q := 7) rfl ?_
  refine o_icmpN X1 d_prog_1_method_2_7 (flt (fun q => absurd ((n_lt (a := 200) (b := cs.length) (by omega) (by omega)).mp q) (by omega))).2.2.1 (q := 10) rfl ?_
  refine o_aloadN X1 d_prog_1_method_2_10 rfl rfl (q := 11) rfl ?_
  refine o_goto X1 d_prog_1_method_2_11 (by decide) (q := 40) (by decide) ?_
  refine o_astoreN X1 d_prog_1_method_2_40 rfl (L' := #[.val (.ref a), .val (.ref a)]) rfl (q := 41) rfl ?_
  refine o_new X1 (w38 hw) (w39 hw) (w40 hw) d_prog_1_method_2_41 (by decide) (by decide) (q := 44) rfl ?_
  intro T2 h2 b2 gb2 X2 E2 R2 S2 A2 D2 g0_b2
  have f3 : Fld Z h2 b2 "java/lang/AbstractStringBuilder" "value" "[B" .null := D2 (Or.inl (w53 hw)) (ty := (.array .byte)) (by decide)
  have f4 : Fld Z h2 b2 "java/lang/AbstractStringBuilder" "coder" "B" (.int (0 : Int32)) := D2 (Or.inl (w55 hw)) (ty := .byte) (by decide)
  have f5 : Fld Z h2 b2 "java/lang/AbstractStringBuilder" "count" "I" (.int (0 : Int32)) := D2 (Or.inl (w69 hw)) (ty := .int) (by decide)
  have f6 : Fld Z h2 b2 "java/lang/AbstractStringBuilder" "maybeLatin1" "Z" (.int (0 : Int32)) := D2 (Or.inl (w280 hw)) (ty := .boolean) (by decide)
  refine o_dup X2 d_prog_1_method_2_44 rfl (q := 45) rfl ?_
  refine o_spec X2 [] (y' := (⟨"java/lang/StringBuilder", "<init>", "()V"⟩ : MethodName)) (c_sb hw b2 _ O2 P5 A2 g0_b2 f3 f4 f5 f6) all0 rfl (w41 hw) (w42 hw) (w43 hw) (w40 hw) (by decide) d_prog_1_method_2_45 (rest := [(.ref b2)]) rfl rfl (lenOf pd25 rfl) rfl (by decide) (Nat.le_of_ble_eq_true rfl) (by decide) (by decide) (q := 48) rfl ?_
  intro v7 vm7 T7 h7 l7 X7 R7 q7
  obtain ⟨rfl, K7, va7, kv7, g7, s7, B7⟩ := q7
  show Goes p e below _ T7 (mkF m 48 #[.val (.ref a), .val (.ref a)] [(.ref b2)])
  refine o_ldcS X7 (n := 4) (vs := [(.int (34 : Int32))]) (z := 1) (w56 hw) (wS0 hw) (List.mem_of_getElem? (i := 1) rfl) ⟨by decide, by decide⟩ (by decide) (by decide) d_prog_1_method_2_48 (by decide) (by decide) (by decide) (by decide) (q := 50) rfl ?_
  intro vm8 T8 h8 a8 b8 k8 X8 E8 R8 A8 Fc8 Fv8 V8 ne8
  have lc9 : LS Z _ a8 b8 k8 [(34 : Int32)] := ⟨A8, Fc8, Fv8, (by rw [show (([(34 : Int32)] : List Int32).map (fun c => c.toInt8.toInt32)).map Value.int = [(.int (34 : Int32))] from by decide]; exact V8), by decide, by decide⟩
  have f10 := (B7.ext E8)
  have f12 := (CHr.safe R8 (B7.vx.lt) s7)
  have f13 := ((A2.keep K7).ext E8)
  refine o_virt X8 [(.ref a8)] (y' := (⟨"java/lang/StringBuilder", "append", "(Ljava/lang/String;)Ljava/lang/StringBuilder;"⟩ : MethodName)) f13 (c_sba hw b2 va7 a8 b8 16 ([] : List Int32) [(34 : Int32)] _ O2 P5 O4 rfm SA SH SL f10 g0_b2 (Nat.le_trans X2.size g7) (Nat.ne_of_lt (Nat.lt_of_lt_of_le A2.lt g7)) (Or.inl lc9) (Ne.symm (ne8 _ (CHr.safe R8 (B7.lt) (CHr.safe R7 (A2.lt) S2))).1) (Ne.symm (ne8 _ (CHr.safe R8 (B7.vx.lt) s7)).1) (Ne.symm (ne8 _ (CHr.safe R8 (B7.lt) (CHr.safe R7 (A2.lt) S2))).2) (Ne.symm (ne8 _ (CHr.safe R8 (B7.vx.lt) s7)).2) (by decide) (by simp only [nc, List.length_append, List.length_cons, List.length_nil, List.length_take, e7]; (repeat' split) <;> omega)) (allS ⟨(B7.vx.ext E8).lt, f12⟩ all0) (w57 hw) (w58 hw) (w60 hw) (w59 hw) (w61 hw) (w40 hw) (by decide) d_prog_1_method_2_50 (rest := []) rfl rfl (lenOf pd35 rfl) rfl (by decide) (Nat.le_of_ble_eq_true rfl) (by decide) (by decide) (q := 53) rfl ?_
  intro v11 vm11 T11 h11 l11 X11 R11 q11
  obtain ⟨rfl, K11, v211, k211, g11, s11, B11⟩ := q11
  show Goes p e below _ T11 (mkF m 53 #[.val (.ref a), .val (.ref a)] [(.ref b2)])
  have ge11 : Z.heap.size ≤ v211 := own_ge2 X8.size (Nat.le_trans X2.size g7) g11
  have nb11 : b2 ≠ v211 := own_ne2 (Nat.ne_of_lt (Nat.lt_of_lt_of_le A2.lt g7)) f10.lt g11
  refine o_aloadN X11 d_prog_1_method_2_53 rfl rfl (q := 54) rfl ?_
  have f14 := ((((U.ext E2).keep K7 (ninS (Nat.ne_of_lt (Nat.lt_of_lt_of_le U.lt (Nat.le_of_eq gb2.symm))) nin0) (ninS (Nat.ne_of_lt (Nat.lt_of_lt_of_le U.blt (Nat.le_of_eq gb2.symm))) nin0)).ext E8).keep K11 (ninS (Nat.ne_of_lt (Nat.lt_of_lt_of_le U.lt (Nat.le_of_eq gb2.symm))) (ninS (Nat.ne_of_lt (Nat.lt_of_lt_of_le (U.ext E2).lt g7)) nin0)) (ninS (Nat.ne_of_lt (Nat.lt_of_lt_of_le U.blt (Nat.le_of_eq gb2.symm))) (ninS (Nat.ne_of_lt (Nat.lt_of_lt_of_le (Nat.lt_of_lt_of_le U.blt E2.1) g7)) nin0)))
  have f16 := (f13.keep K11)
  refine o_virt X11 [(.ref a)] (y' := (⟨"java/lang/StringBuilder", "append", "(Ljava/lang/String;)Ljava/lang/StringBuilder;"⟩ : MethodName)) f16 (c_sba hw b2 v211 a b (nc 16 (List.length ([] : List Int32) + List.length [(34 : Int32)])) (([] : List Int32) ++ [(34 : Int32)]) cs _ O2 P5 O4 rfm SA SH SL B11 g0_b2 ge11 nb11 f14 (Nat.ne_of_lt (Nat.lt_of_lt_of_le U.lt (Nat.le_of_eq gb2.symm))) (own_ne2 (Nat.ne_of_lt (Nat.lt_of_lt_of_le (U.ext E2).lt g7)) (Nat.lt_of_lt_of_le (Nat.lt_of_lt_of_le (Nat.lt_of_lt_of_le U.lt E2.1) K7.1) E8.1) g11) (Nat.ne_of_lt (Nat.lt_of_lt_of_le U.blt (Nat.le_of_eq gb2.symm))) (own_ne2 (Nat.ne_of_lt (Nat.lt_of_lt_of_le (Nat.lt_of_lt_of_le U.blt E2.1) g7)) (Nat.lt_of_lt_of_le (Nat.lt_of_lt_of_le (Nat.lt_of_lt_of_le U.blt E2.1) K7.1) E8.1) g11) (by simp only [nc, List.length_append, List.length_cons, List.length_nil, List.length_take, e7]; (repeat' split) <;> omega) (by simp only [nc, List.length_append, List.length_cons, List.length_nil, List.length_take, e7]; (repeat' split) <;> omega)) (allS ⟨B11.vx.lt, s11⟩ all0) (w57 hw) (w58 hw) (w60 hw) (w59 hw) (w61 hw) (w40 hw) (by decide) d_prog_1_method_2_54 (rest := []) rfl rfl (lenOf pd35 rfl) rfl (by decide) (Nat.le_of_ble_eq_true rfl) (by decide) (by decide) (q := 57) rfl ?_
  intro v15 vm15 T15 h15 l15 X15 R15 q15
  obtain ⟨rfl, K15, v215, k215, g15, s15, B15⟩ := q15
  show Goes p e below _ T15 (mkF m 57 #[.val (.ref a), .val (.ref a)] [(.ref b2)])
  have ge15 : Z.heap.size ≤ v215 := own_ge2 X11.size ge11 g15
  have nb15 : b2 ≠ v215 := own_ne2 nb11 B11.lt g15
  refine o_ldcS X15 (n := 4) (vs := [(.int (34 : Int32))]) (z := 1) (w56 hw) (wS0 hw) (List.mem_of_getElem? (i := 1) rfl) ⟨by decide, by decide⟩ (by decide) (by decide) d_prog_1_method_2_57 (by decide) (by decide) (by decide) (by decide) (q := 59) rfl ?_
  intro vm17 T17 h17 a17 b17 k17 X17 E17 R17 A17 Fc17 Fv17 V17 ne17
  have lc18 : LS Z _ a17 b17 k17 [(34 : Int32)] := ⟨A17, Fc17, Fv17, (by rw [show (([(34 : Int32)] : List Int32).map (fun c => c.toInt8.toInt32)).map Value.int = [(.int (34 : Int32))] from by decide]; exact V17), by decide, by decide⟩
  have f19 := (B15.ext E17)
  have f21 := (CHr.safe R17 (B15.vx.lt) s15)
  have f22 := ((f16.keep K15).ext E17)
  refine o_virt X17 [(.ref a17)] (y' := (⟨"java/lang/StringBuilder", "append", "(Ljava/lang/String;)Ljava/lang/StringBuilder;"⟩ : MethodName)) f22 (c_sba hw b2 v215 a17 b17 (nc (nc 16 (List.length ([] : List Int32) + List.length [(34 : Int32)])) (List.length (([] : List Int32) ++ [(34 : Int32)]) + List.length cs)) ((([] : List Int32) ++ [(34 : Int32)]) ++ cs) [(34 : Int32)] _ O2 P5 O4 rfm SA SH SL f19 g0_b2 ge15 nb15 (Or.inl lc18) (Ne.symm (ne17 _ (CHr.safe R17 (B15.lt) (CHr.safe R15 (f16.lt) (CHr.safe R11 (f13.lt) (CHr.safe R8 (B7.lt) (CHr.safe R7 (A2.lt) S2)))))).1) (Ne.symm (ne17 _ (CHr.safe R17 (B15.vx.lt) s15)).1) (Ne.symm (ne17 _ (CHr.safe R17 (B15.lt) (CHr.safe R15 (f16.lt) (CHr.safe R11 (f13.lt) (CHr.safe R8 (B7.lt) (CHr.safe R7 (A2.lt) S2)))))).2) (Ne.symm (ne17 _ (CHr.safe R17 (B15.vx.lt) s15)).2) (by simp only [nc, List.length_append, List.length_cons, List.length_nil, List.length_take, e7]; (repeat' split) <;> omega) (by simp only [nc, List.length_append, List.length_cons, List.length_nil, List.length_take, e7]; (repeat' split) <;> omega)) (allS ⟨(B15.vx.ext E17).lt, f21⟩ all0) (w57 hw) (w58 hw) (w60 hw) (w59 hw) (w61 hw) (w40 hw) (by decide) d_prog_1_method_2_59 (rest := []) rfl rfl (lenOf pd35 rfl) rfl (by decide) (Nat.le_of_ble_eq_true rfl) (by decide) (by decide) (q := 62) rfl ?_
  intro v20 vm20 T20 h20 l20 X20 R20 q20
  obtain ⟨rfl, K20, v220, k220, g20, s20, B20⟩ := q20
  show Goes p e below _ T20 (mkF m 62 #[.val (.ref a), .val (.ref a)] [(.ref b2)])
  have ge20 : Z.heap.size ≤ v220 := own_ge2 X17.size ge15 g20
  have nb20 : b2 ≠ v220 := own_ne2 nb15 f19.lt g20
  have f24 := (f22.keep K20)
  refine o_virt X20 [] (y' := (⟨"java/lang/StringBuilder", "toString", "()Ljava/lang/String;"⟩ : MethodName)) f24 (c_toS hw b2 v220 (nc (nc (nc 16 (List.length ([] : List Int32) + List.length [(34 : Int32)])) (List.length (([] : List Int32) ++ [(34 : Int32)]) + List.length cs)) (List.length ((([] : List Int32) ++ [(34 : Int32)]) ++ cs) + List.length [(34 : Int32)])) (((([] : List Int32) ++ [(34 : Int32)]) ++ cs) ++ [(34 : Int32)]) _ O2 P5 B20 g0_b2 (by simp only [nc, List.length_append, List.length_cons, List.length_nil, List.length_take, e7]; (repeat' split) <;> omega) (by simp only [nc, List.length_append, List.length_cons, List.length_nil, List.length_take, e7]; (repeat' split) <;> omega) (by simp only [nc, List.length_append, List.length_cons, List.length_nil, List.length_take, e7]; (repeat' split) <;> omega)) all0 (w95 hw) (w96 hw) (w98 hw) (w97 hw) (w99 hw) (w40 hw) (by decide) d_prog_1_method_2_62 (rest := []) rfl rfl (lenOf pd36 rfl) rfl (by decide) (Nat.le_of_ble_eq_true rfl) (by decide) (by decide) (q := 65) rfl ?_
  intro v23 vm23 T23 h23 l23 X23 R23 q23
  obtain ⟨r23, b23, kb23, rfl, K23, U23⟩ := q23
  show Goes p e below _ T23 (mkF m 65 #[.val (.ref a), .val (.ref a)] [(.ref r23)])
  have sz25 := Nat.le_trans (Keep.refl h0 []).1 (Nat.le_of_eq gb2.symm)
  have k26 := Keep.ext (Keep.refl h0 []) E2
  have sz27 := Nat.le_trans k26.1 g7
  have k28 := Keep.trans k26 K7 (allS (Or.inr sz25) all0)
  have k29 := Keep.ext k28 E8
  have sz30 := own_ge2 k29.1 sz27 g11
  have k31 := Keep.trans k29 K11 (allS (Or.inr sz25) (allS (Or.inr sz27) all0))
  have sz32 := own_ge2 k31.1 sz30 g15
  have k33 := Keep.trans k31 K15 (allS (Or.inr sz25) (allS (Or.inr sz30) all0))
  have k34 := Keep.ext k33 E17
  have sz35 := own_ge2 k34.1 sz32 g20
  have k36 := Keep.trans k34 K20 (allS (Or.inr sz25) (allS (Or.inr sz32) all0))
  have k37 := Keep.trans k36 K23 all0
  exact o_retR X23 d_prog_1_method_2_65 rfl rfl rfl (fun Sf hSf => ⟨r23, b23, kb23, rfl, k37, (by have q := U23; simpa [quoteF, show cs.length ≤ 200 from by omega] using q)⟩) (by decide) (by decide)
set_option maxRecDepth 65536 in
set_option maxHeartbeats 40000000 in
theorem c_qb {l : Launch} {Z : State} {a0 : Array Value} (hw : W a0 Z) (a b : Addr) (kb : ClassId) (cs : List Int32) (h0 : Heap) {zc : Int32} (O2 : Sta Z Z.heap "java/lang/String" "COMPACT_STRINGS" "Z" (.int zc)) (P5 : ¬ zc = 0) {fm : Value} (O4 : Sta Z Z.heap "jdk/internal/util/Preconditions" "SIOOBE_FORMATTER" "Ljava/util/function/BiFunction;" fm) (rfm : fm.isRef = true) (SA : Sta Z Z.heap "java/lang/StringUTF16" "$assertionsDisabled" "Z" (.int (1 : Int32))) (SH : Sta Z Z.heap "java/lang/StringUTF16" "HI_BYTE_SHIFT" "I" (.int (0 : Int32))) (SL : Sta Z Z.heap "java/lang/StringUTF16" "LO_BYTE_SHIFT" "I" (.int (8 : Int32))) (U : US Z h0 a b kb cs) (hN : cs.length ≤ 400) (hs : 200 < cs.length) :
    Con l Z EL0 (⟨"com/example/unibrace/unibrace/ErrorText", "quote", "(Ljava/lang/String;)Ljava/lang/String;"⟩ : MethodName) prog_1_method_2_code 2 (some (.object "java/lang/String")) ({ frames := 10, cells := 27, slots := 9563, locals := 143 } : Room) #[(.ref a)] h0 [] (fun v h' Sf => ∃ (r b : Addr) (kb : ClassId), v = some (.ref r) ∧ Keep h0 h' [] ∧ US Z h' r b kb (quoteF cs)) := by
  have hpn : plainName "com/example/unibrace/unibrace/ErrorText" = true := by first | (simp [plainName, overriddenIn]; done) | decide +kernel
  refine Con.intro (plainFor_of_name hpn) ?_
  intro p e s m below meth c T X hss
  refine Goes.cast (g' := mkF m 0 #[.val (.ref a), .unset] []) (by first | (simp [entryFrame, mkF, argsToLocals, Value.category]; done) | rfl) ?_
  have e7 : min 197 cs.length = 197 := by omega
  refine o_aloadN X d_prog_1_method_2_0 rfl rfl (q := 1) rfl ?_
  refine o_strlenU X U O2 P5 (hwln hw) (w3 hw) (w27 hw) (w28 hw) (w30 hw) (w29 hw) d_prog_1_method_2_1 rfl (by decide) (Nat.le_of_ble_eq_true rfl) (by decide) (by decide) (q := 4) rfl ?_
  intro T1 l1 X1
  refine o_sipush X1 d_prog_1_method_2_4 (w := 200) rfl (q := 7) rfl ?_
  refine o_icmpY X1 d_prog_1_method_2_7 (tlt ((n_lt (a := 200) (b := cs.length) (by omega) (by omega)).mpr (by omega))).2.2.1 (by decide) (q := 14) (by decide) ?_
  refine o_new X1 (w38 hw) (w39 hw) (w40 hw) d_prog_1_method_2_14 (by decide) (by decide) (q := 17) rfl ?_
  intro T2 h2 b2 gb2 X2 E2 R2 S2 A2 D2 g0_b2
  have f3 : Fld Z h2 b2 "java/lang/AbstractStringBuilder" "value" "[B" .null := D2 (Or.inl (w53 hw)) (ty := (.array .byte)) (by decide)
  have f4 : Fld Z h2 b2 "java/lang/AbstractStringBuilder" "coder" "B" (.int (0 : Int32)) := D2 (Or.inl (w55 hw)) (ty := .byte) (by decide)
  have f5 : Fld Z h2 b2 "java/lang/AbstractStringBuilder" "count" "I" (.int (0 : Int32)) := D2 (Or.inl (w69 hw)) (ty := .int) (by decide)
  have f6 : Fld Z h2 b2 "java/lang/AbstractStringBuilder" "maybeLatin1" "Z" (.int (0 : Int32)) := D2 (Or.inl (w280 hw)) (ty := .boolean) (by decide)
  refine o_dup X2 d_prog_1_method_2_17 rfl (q := 18) rfl ?_
  refine o_spec X2 [] (y' := (⟨"java/lang/StringBuilder", "<init>", "()V"⟩ : MethodName)) (c_sb hw b2 _ O2 P5 A2 g0_b2 f3 f4 f5 f6) all0 rfl (w41 hw) (w42 hw) (w43 hw) (w40 hw) (by decide) d_prog_1_method_2_18 (rest := [(.ref b2)]) rfl rfl (lenOf pd25 rfl) rfl (by decide) (Nat.le_of_ble_eq_true rfl) (by decide) (by decide) (q := 21) rfl ?_
  intro v7 vm7 T7 h7 l7 X7 R7 q7
  obtain ⟨rfl, K7, va7, kv7, g7, s7, B7⟩ := q7
  show Goes p e below _ T7 (mkF m 21 #[.val (.ref a), .unset] [(.ref b2)])
  refine o_aloadN X7 d_prog_1_method_2_21 rfl rfl (q := 22) rfl ?_
  refine o_iconst X7 d_prog_1_method_2_22 (w := 0) rfl (q := 23) rfl ?_
  refine o_sipush X7 d_prog_1_method_2_23 (w := 197) rfl (q := 26) rfl ?_
  have f8 := ((U.ext E2).keep K7 (ninS (Nat.ne_of_lt (Nat.lt_of_lt_of_le U.lt (Nat.le_of_eq gb2.symm))) nin0) (ninS (Nat.ne_of_lt (Nat.lt_of_lt_of_le U.blt (Nat.le_of_eq gb2.symm))) nin0))
  refine o_virt X7 [(.int (0 : Int32)), (.int (197 : Int32))] (y' := (⟨"java/lang/String", "substring", "(II)Ljava/lang/String;"⟩ : MethodName)) f8.exa (c_sub hw a b kb cs _ O2 P5 O4 rfm SA SH SL f8 (by omega) hN) all0 (w182 hw) (w183 hw) (w185 hw) (w184 hw) (w186 hw) (w4 hw) (by decide) d_prog_1_method_2_26 (rest := [(.ref b2)]) rfl rfl (lenOf pd37 rfl) rfl (by decide) (Nat.le_of_ble_eq_true rfl) (by decide) (by decide) (q := 29) rfl ?_
  intro v9 vm9 T9 h9 l9 X9 R9 q9
  obtain ⟨r9, b9, kb9, rfl, K9, g9, gg9, U9⟩ := q9
  show Goes p e below _ T9 (mkF m 29 #[.val (.ref a), .unset] [(.ref r9), (.ref b2)])
  have f10 := (B7.keep K9 nin0 nin0)
  have f12 := (CHr.safe R9 (B7.vx.lt) s7)
  have f13 := ((A2.keep K7).keep K9)
  refine o_virt X9 [(.ref r9)] (y' := (⟨"java/lang/StringBuilder", "append", "(Ljava/lang/String;)Ljava/lang/StringBuilder;"⟩ : MethodName)) f13 (c_sba hw b2 va7 r9 b9 16 ([] : List Int32) (cs.take 197) _ O2 P5 O4 rfm SA SH SL f10 g0_b2 (Nat.le_trans X2.size g7) (Nat.ne_of_lt (Nat.lt_of_lt_of_le A2.lt g7)) U9 (Ne.symm (Nat.ne_of_lt (Nat.lt_of_lt_of_le B7.lt g9))) (Ne.symm (Nat.ne_of_lt (Nat.lt_of_lt_of_le B7.vx.lt g9))) (Ne.symm (Nat.ne_of_lt (Nat.lt_of_lt_of_le B7.lt gg9))) (Ne.symm (Nat.ne_of_lt (Nat.lt_of_lt_of_le B7.vx.lt gg9))) (by decide) (by simp only [nc, List.length_append, List.length_cons, List.length_nil, List.length_take, e7]; (repeat' split) <;> omega)) (allS ⟨(Nat.lt_of_lt_of_le B7.vx.lt K9.1), f12⟩ all0) (w57 hw) (w58 hw) (w60 hw) (w59 hw) (w61 hw) (w40 hw) (by decide) d_prog_1_method_2_29 (rest := []) rfl rfl (lenOf pd35 rfl) rfl (by decide) (Nat.le_of_ble_eq_true rfl) (by decide) (by decide) (q := 32) rfl ?_
  intro v11 vm11 T11 h11 l11 X11 R11 q11
  obtain ⟨rfl, K11, v211, k211, g11, s11, B11⟩ := q11
  show Goes p e below _ T11 (mkF m 32 #[.val (.ref a), .unset] [(.ref b2)])
  have ge11 : Z.heap.size ≤ v211 := own_ge2 X9.size (Nat.le_trans X2.size g7) g11
  have nb11 : b2 ≠ v211 := own_ne2 (Nat.ne_of_lt (Nat.lt_of_lt_of_le A2.lt g7)) f10.lt g11
  refine o_ldcS X11 (n := 12) (vs := [(.int (46 : Int32)), (.int (46 : Int32)), (.int (46 : Int32))]) (z := 3) (w219 hw) (wS0 hw) (List.mem_of_getElem? (i := 0) rfl) ⟨by decide, by decide⟩ (by decide) (by decide) d_prog_1_method_2_32 (by decide) (by decide) (by decide) (by decide) (q := 34) rfl ?_
  intro vm14 T14 h14 a14 b14 k14 X14 E14 R14 A14 Fc14 Fv14 V14 ne14
  have lc15 : LS Z _ a14 b14 k14 [(46 : Int32), (46 : Int32), (46 : Int32)] := ⟨A14, Fc14, Fv14, (by rw [show (([(46 : Int32), (46 : Int32), (46 : Int32)] : List Int32).map (fun c => c.toInt8.toInt32)).map Value.int = [(.int (46 : Int32)), (.int (46 : Int32)), (.int (46 : Int32))] from by decide]; exact V14), by decide, by decide⟩
  have f16 := (B11.ext E14)
  have f18 := (CHr.safe R14 (B11.vx.lt) s11)
  have f19 := ((f13.keep K11).ext E14)
  refine o_virt X14 [(.ref a14)] (y' := (⟨"java/lang/StringBuilder", "append", "(Ljava/lang/String;)Ljava/lang/StringBuilder;"⟩ : MethodName)) f19 (c_sba hw b2 v211 a14 b14 (nc 16 (List.length ([] : List Int32) + List.length (cs.take 197))) (([] : List Int32) ++ (cs.take 197)) [(46 : Int32), (46 : Int32), (46 : Int32)] _ O2 P5 O4 rfm SA SH SL f16 g0_b2 ge11 nb11 (Or.inl lc15) (Ne.symm (ne14 _ (CHr.safe R14 (B11.lt) (CHr.safe R11 (f13.lt) (CHr.safe R9 (B7.lt) (CHr.safe R7 (A2.lt) S2))))).1) (Ne.symm (ne14 _ (CHr.safe R14 (B11.vx.lt) s11)).1) (Ne.symm (ne14 _ (CHr.safe R14 (B11.lt) (CHr.safe R11 (f13.lt) (CHr.safe R9 (B7.lt) (CHr.safe R7 (A2.lt) S2))))).2) (Ne.symm (ne14 _ (CHr.safe R14 (B11.vx.lt) s11)).2) (by simp only [nc, List.length_append, List.length_cons, List.length_nil, List.length_take, e7]; (repeat' split) <;> omega) (by simp only [nc, List.length_append, List.length_cons, List.length_nil, List.length_take, e7]; (repeat' split) <;> omega)) (allS ⟨(B11.vx.ext E14).lt, f18⟩ all0) (w57 hw) (w58 hw) (w60 hw) (w59 hw) (w61 hw) (w40 hw) (by decide) d_prog_1_method_2_34 (rest := []) rfl rfl (lenOf pd35 rfl) rfl (by decide) (Nat.le_of_ble_eq_true rfl) (by decide) (by decide) (q := 37) rfl ?_
  intro v17 vm17 T17 h17 l17 X17 R17 q17
  obtain ⟨rfl, K17, v217, k217, g17, s17, B17⟩ := q17
  show Goes p e below _ T17 (mkF m 37 #[.val (.ref a), .unset] [(.ref b2)])
  have ge17 : Z.heap.size ≤ v217 := own_ge2 X14.size ge11 g17
  have nb17 : b2 ≠ v217 := own_ne2 nb11 f16.lt g17
  have f21 := (f19.keep K17)
  refine o_virt X17 [] (y' := (⟨"java/lang/StringBuilder", "toString", "()Ljava/lang/String;"⟩ : MethodName)) f21 (c_toS hw b2 v217 (nc (nc 16 (List.length ([] : List Int32) + List.length (cs.take 197))) (List.length (([] : List Int32) ++ (cs.take 197)) + List.length [(46 : Int32), (46 : Int32), (46 : Int32)])) ((([] : List Int32) ++ (cs.take 197)) ++ [(46 : Int32), (46 : Int32), (46 : Int32)]) _ O2 P5 B17 g0_b2 (by simp only [nc, List.length_append, List.length_cons, List.length_nil, List.length_take, e7]; (repeat' split) <;> omega) (by simp only [nc, List.length_append, List.length_cons, List.length_nil, List.length_take, e7]; (repeat' split) <;> omega) (by simp only [nc, List.length_append, List.length_cons, List.length_nil, List.length_take, e7]; (repeat' split) <;> omega)) all0 (w95 hw) (w96 hw) (w98 hw) (w97 hw) (w99 hw) (w40 hw) (by decide) d_prog_1_method_2_37 (rest := []) rfl rfl (lenOf pd36 rfl) rfl (by decide) (Nat.le_of_ble_eq_true rfl) (by decide) (by decide) (q := 40) rfl ?_
  intro v20 vm20 T20 h20 l20 X20 R20 q20
  obtain ⟨r20, b20, kb20, rfl, K20, U20⟩ := q20
  show Goes p e below _ T20 (mkF m 40 #[.val (.ref a), .unset] [(.ref r20)])
  refine o_astoreN X20 d_prog_1_method_2_40 rfl (L' := #[.val (.ref a), .val (.ref r20)]) rfl (q := 41) rfl ?_
  refine o_new X20 (w38 hw) (w39 hw) (w40 hw) d_prog_1_method_2_41 (by decide) (by decide) (q := 44) rfl ?_
  intro T22 h22 b22 gb22 X22 E22 R22 S22 A22 D22 g0_b22
  have f23 : Fld Z h22 b22 "java/lang/AbstractStringBuilder" "value" "[B" .null := D22 (Or.inl (w53 hw)) (ty := (.array .byte)) (by decide)
  have f24 : Fld Z h22 b22 "java/lang/AbstractStringBuilder" "coder" "B" (.int (0 : Int32)) := D22 (Or.inl (w55 hw)) (ty := .byte) (by decide)
  have f25 : Fld Z h22 b22 "java/lang/AbstractStringBuilder" "count" "I" (.int (0 : Int32)) := D22 (Or.inl (w69 hw)) (ty := .int) (by decide)
  have f26 : Fld Z h22 b22 "java/lang/AbstractStringBuilder" "maybeLatin1" "Z" (.int (0 : Int32)) := D22 (Or.inl (w280 hw)) (ty := .boolean) (by decide)
  refine o_dup X22 d_prog_1_method_2_44 rfl (q := 45) rfl ?_
  refine o_spec X22 [] (y' := (⟨"java/lang/StringBuilder", "<init>", "()V"⟩ : MethodName)) (c_sb hw b22 _ O2 P5 A22 g0_b22 f23 f24 f25 f26) all0 rfl (w41 hw) (w42 hw) (w43 hw) (w40 hw) (by decide) d_prog_1_method_2_45 (rest := [(.ref b22)]) rfl rfl (lenOf pd25 rfl) rfl (by decide) (Nat.le_of_ble_eq_true rfl) (by decide) (by decide) (q := 48) rfl ?_
  intro v27 vm27 T27 h27 l27 X27 R27 q27
  obtain ⟨rfl, K27, va27, kv27, g27, s27, B27⟩ := q27
  show Goes p e below _ T27 (mkF m 48 #[.val (.ref a), .val (.ref r20)] [(.ref b22)])
  refine o_ldcS X27 (n := 4) (vs := [(.int (34 : Int32))]) (z := 1) (w56 hw) (wS0 hw) (List.mem_of_getElem? (i := 1) rfl) ⟨by decide, by decide⟩ (by decide) (by decide) d_prog_1_method_2_48 (by decide) (by decide) (by decide) (by decide) (q := 50) rfl ?_
  intro vm28 T28 h28 a28 b28 k28 X28 E28 R28 A28 Fc28 Fv28 V28 ne28
  have lc29 : LS Z _ a28 b28 k28 [(34 : Int32)] := ⟨A28, Fc28, Fv28, (by rw [show (([(34 : Int32)] : List Int32).map (fun c => c.toInt8.toInt32)).map Value.int = [(.int (34 : Int32))] from by decide]; exact V28), by decide, by decide⟩
  have f30 := (B27.ext E28)
  have f32 := (CHr.safe R28 (B27.vx.lt) s27)
  have f33 := ((A22.keep K27).ext E28)
  refine o_virt X28 [(.ref a28)] (y' := (⟨"java/lang/StringBuilder", "append", "(Ljava/lang/String;)Ljava/lang/StringBuilder;"⟩ : MethodName)) f33 (c_sba hw b22 va27 a28 b28 16 ([] : List Int32) [(34 : Int32)] _ O2 P5 O4 rfm SA SH SL f30 g0_b22 (Nat.le_trans X22.size g27) (Nat.ne_of_lt (Nat.lt_of_lt_of_le A22.lt g27)) (Or.inl lc29) (Ne.symm (ne28 _ (CHr.safe R28 (B27.lt) (CHr.safe R27 (A22.lt) S22))).1) (Ne.symm (ne28 _ (CHr.safe R28 (B27.vx.lt) s27)).1) (Ne.symm (ne28 _ (CHr.safe R28 (B27.lt) (CHr.safe R27 (A22.lt) S22))).2) (Ne.symm (ne28 _ (CHr.safe R28 (B27.vx.lt) s27)).2) (by decide) (by simp only [nc, List.length_append, List.length_cons, List.length_nil, List.length_take, e7]; (repeat' split) <;> omega)) (allS ⟨(B27.vx.ext E28).lt, f32⟩ all0) (w57 hw) (w58 hw) (w60 hw) (w59 hw) (w61 hw) (w40 hw) (by decide) d_prog_1_method_2_50 (rest := []) rfl rfl (lenOf pd35 rfl) rfl (by decide) (Nat.le_of_ble_eq_true rfl) (by decide) (by decide) (q := 53) rfl ?_
  intro v31 vm31 T31 h31 l31 X31 R31 q31
  obtain ⟨rfl, K31, v231, k231, g31, s31, B31⟩ := q31
  show Goes p e below _ T31 (mkF m 53 #[.val (.ref a), .val (.ref r20)] [(.ref b22)])
  have ge31 : Z.heap.size ≤ v231 := own_ge2 X28.size (Nat.le_trans X22.size g27) g31
  have nb31 : b22 ≠ v231 := own_ne2 (Nat.ne_of_lt (Nat.lt_of_lt_of_le A22.lt g27)) f30.lt g31
  refine o_aloadN X31 d_prog_1_method_2_53 rfl rfl (q := 54) rfl ?_
  have f34 := ((((U20.ext E22).keep K27 (ninS (Nat.ne_of_lt (Nat.lt_of_lt_of_le U20.lt (Nat.le_of_eq gb22.symm))) nin0) (ninS (Nat.ne_of_lt (Nat.lt_of_lt_of_le U20.blt (Nat.le_of_eq gb22.symm))) nin0)).ext E28).keep K31 (ninS (Nat.ne_of_lt (Nat.lt_of_lt_of_le U20.lt (Nat.le_of_eq gb22.symm))) (ninS (Nat.ne_of_lt (Nat.lt_of_lt_of_le (U20.ext E22).lt g27)) nin0)) (ninS (Nat.ne_of_lt (Nat.lt_of_lt_of_le U20.blt (Nat.le_of_eq gb22.symm))) (ninS (Nat.ne_of_lt (Nat.lt_of_lt_of_le (Nat.lt_of_lt_of_le U20.blt E22.1) g27)) nin0)))
  have f36 := (f33.keep K31)
  refine o_virt X31 [(.ref r20)] (y' := (⟨"java/lang/StringBuilder", "append", "(Ljava/lang/String;)Ljava/lang/StringBuilder;"⟩ : MethodName)) f36 (c_sba hw b22 v231 r20 b20 (nc 16 (List.length ([] : List Int32) + List.length [(34 : Int32)])) (([] : List Int32) ++ [(34 : Int32)]) ((([] : List Int32) ++ (cs.take 197)) ++ [(46 : Int32), (46 : Int32), (46 : Int32)]) _ O2 P5 O4 rfm SA SH SL B31 g0_b22 ge31 nb31 f34 (Nat.ne_of_lt (Nat.lt_of_lt_of_le U20.lt (Nat.le_of_eq gb22.symm))) (own_ne2 (Nat.ne_of_lt (Nat.lt_of_lt_of_le (U20.ext E22).lt g27)) (Nat.lt_of_lt_of_le (Nat.lt_of_lt_of_le (Nat.lt_of_lt_of_le U20.lt E22.1) K27.1) E28.1) g31) (Nat.ne_of_lt (Nat.lt_of_lt_of_le U20.blt (Nat.le_of_eq gb22.symm))) (own_ne2 (Nat.ne_of_lt (Nat.lt_of_lt_of_le (Nat.lt_of_lt_of_le U20.blt E22.1) g27)) (Nat.lt_of_lt_of_le (Nat.lt_of_lt_of_le (Nat.lt_of_lt_of_le U20.blt E22.1) K27.1) E28.1) g31) (by simp only [nc, List.length_append, List.length_cons, List.length_nil, List.length_take, e7]; (repeat' split) <;> omega) (by simp only [nc, List.length_append, List.length_cons, List.length_nil, List.length_take, e7]; (repeat' split) <;> omega)) (allS ⟨B31.vx.lt, s31⟩ all0) (w57 hw) (w58 hw) (w60 hw) (w59 hw) (w61 hw) (w40 hw) (by decide) d_prog_1_method_2_54 (rest := []) rfl rfl (lenOf pd35 rfl) rfl (by decide) (Nat.le_of_ble_eq_true rfl) (by decide) (by decide) (q := 57) rfl ?_
  intro v35 vm35 T35 h35 l35 X35 R35 q35
  obtain ⟨rfl, K35, v235, k235, g35, s35, B35⟩ := q35
  show Goes p e below _ T35 (mkF m 57 #[.val (.ref a), .val (.ref r20)] [(.ref b22)])
  have ge35 : Z.heap.size ≤ v235 := own_ge2 X31.size ge31 g35
  have nb35 : b22 ≠ v235 := own_ne2 nb31 B31.lt g35
  refine o_ldcS X35 (n := 4) (vs := [(.int (34 : Int32))]) (z := 1) (w56 hw) (wS0 hw) (List.mem_of_getElem? (i := 1) rfl) ⟨by decide, by decide⟩ (by decide) (by decide) d_prog_1_method_2_57 (by decide) (by decide) (by decide) (by decide) (q := 59) rfl ?_
  intro vm37 T37 h37 a37 b37 k37 X37 E37 R37 A37 Fc37 Fv37 V37 ne37
  have lc38 : LS Z _ a37 b37 k37 [(34 : Int32)] := ⟨A37, Fc37, Fv37, (by rw [show (([(34 : Int32)] : List Int32).map (fun c => c.toInt8.toInt32)).map Value.int = [(.int (34 : Int32))] from by decide]; exact V37), by decide, by decide⟩
  have f39 := (B35.ext E37)
  have f41 := (CHr.safe R37 (B35.vx.lt) s35)
  have f42 := ((f36.keep K35).ext E37)
  refine o_virt X37 [(.ref a37)] (y' := (⟨"java/lang/StringBuilder", "append", "(Ljava/lang/String;)Ljava/lang/StringBuilder;"⟩ : MethodName)) f42 (c_sba hw b22 v235 a37 b37 (nc (nc 16 (List.length ([] : List Int32) + List.length [(34 : Int32)])) (List.length (([] : List Int32) ++ [(34 : Int32)]) + List.length ((([] : List Int32) ++ (cs.take 197)) ++ [(46 : Int32), (46 : Int32), (46 : Int32)]))) ((([] : List Int32) ++ [(34 : Int32)]) ++ ((([] : List Int32) ++ (cs.take 197)) ++ [(46 : Int32), (46 : Int32), (46 : Int32)])) [(34 : Int32)] _ O2 P5 O4 rfm SA SH SL f39 g0_b22 ge35 nb35 (Or.inl lc38) (Ne.symm (ne37 _ (CHr.safe R37 (B35.lt) (CHr.safe R35 (f36.lt) (CHr.safe R31 (f33.lt) (CHr.safe R28 (B27.lt) (CHr.safe R27 (A22.lt) S22)))))).1) (Ne.symm (ne37 _ (CHr.safe R37 (B35.vx.lt) s35)).1) (Ne.symm (ne37 _ (CHr.safe R37 (B35.lt) (CHr.safe R35 (f36.lt) (CHr.safe R31 (f33.lt) (CHr.safe R28 (B27.lt) (CHr.safe R27 (A22.lt) S22)))))).2) (Ne.symm (ne37 _ (CHr.safe R37 (B35.vx.lt) s35)).2) (by simp only [nc, List.length_append, List.length_cons, List.length_nil, List.length_take, e7]; (repeat' split) <;> omega) (by simp only [nc, List.length_append, List.length_cons, List.length_nil, List.length_take, e7]; (repeat' split) <;> omega)) (allS ⟨(B35.vx.ext E37).lt, f41⟩ all0) (w57 hw) (w58 hw) (w60 hw) (w59 hw) (w61 hw) (w40 hw) (by decide) d_prog_1_method_2_59 (rest := []) rfl rfl (lenOf pd35 rfl) rfl (by decide) (Nat.le_of_ble_eq_true rfl) (by decide) (by decide) (q := 62) rfl ?_
  intro v40 vm40 T40 h40 l40 X40 R40 q40
  obtain ⟨rfl, K40, v240, k240, g40, s40, B40⟩ := q40
  show Goes p e below _ T40 (mkF m 62 #[.val (.ref a), .val (.ref r20)] [(.ref b22)])
  have ge40 : Z.heap.size ≤ v240 := own_ge2 X37.size ge35 g40
  have nb40 : b22 ≠ v240 := own_ne2 nb35 f39.lt g40
  have f44 := (f42.keep K40)
  refine o_virt X40 [] (y' := (⟨"java/lang/StringBuilder", "toString", "()Ljava/lang/String;"⟩ : MethodName)) f44 (c_toS hw b22 v240 (nc (nc (nc 16 (List.length ([] : List Int32) + List.length [(34 : Int32)])) (List.length (([] : List Int32) ++ [(34 : Int32)]) + List.length ((([] : List Int32) ++ (cs.take 197)) ++ [(46 : Int32), (46 : Int32), (46 : Int32)]))) (List.length ((([] : List Int32) ++ [(34 : Int32)]) ++ ((([] : List Int32) ++ (cs.take 197)) ++ [(46 : Int32), (46 : Int32), (46 : Int32)])) + List.length [(34 : Int32)])) (((([] : List Int32) ++ [(34 : Int32)]) ++ ((([] : List Int32) ++ (cs.take 197)) ++ [(46 : Int32), (46 : Int32), (46 : Int32)])) ++ [(34 : Int32)]) _ O2 P5 B40 g0_b22 (by simp only [nc, List.length_append, List.length_cons, List.length_nil, List.length_take, e7]; (repeat' split) <;> omega) (by simp only [nc, List.length_append, List.length_cons, List.length_nil, List.length_take, e7]; (repeat' split) <;> omega) (by simp only [nc, List.length_append, List.length_cons, List.length_nil, List.length_take, e7]; (repeat' split) <;> omega)) all0 (w95 hw) (w96 hw) (w98 hw) (w97 hw) (w99 hw) (w40 hw) (by decide) d_prog_1_method_2_62 (rest := []) rfl rfl (lenOf pd36 rfl) rfl (by decide) (Nat.le_of_ble_eq_true rfl) (by decide) (by decide) (q := 65) rfl ?_
  intro v43 vm43 T43 h43 l43 X43 R43 q43
  obtain ⟨r43, b43, kb43, rfl, K43, U43⟩ := q43
  show Goes p e below _ T43 (mkF m 65 #[.val (.ref a), .val (.ref r20)] [(.ref r43)])
  have sz45 := Nat.le_trans (Keep.refl h0 []).1 (Nat.le_of_eq gb2.symm)
  have k46 := Keep.ext (Keep.refl h0 []) E2
  have sz47 := Nat.le_trans k46.1 g7
  have k48 := Keep.trans k46 K7 (allS (Or.inr sz45) all0)
  have sz49 := Nat.le_trans k48.1 g9
  have sz50 := Nat.le_trans k48.1 gg9
  have k51 := Keep.trans k48 K9 all0
  have sz52 := own_ge2 k51.1 sz47 g11
  have k53 := Keep.trans k51 K11 (allS (Or.inr sz45) (allS (Or.inr sz47) all0))
  have k54 := Keep.ext k53 E14
  have sz55 := own_ge2 k54.1 sz52 g17
  have k56 := Keep.trans k54 K17 (allS (Or.inr sz45) (allS (Or.inr sz52) all0))
  have k57 := Keep.trans k56 K20 all0
  have sz58 := Nat.le_trans k57.1 (Nat.le_of_eq gb22.symm)
  have k59 := Keep.ext k57 E22
  have sz60 := Nat.le_trans k59.1 g27
  have k61 := Keep.trans k59 K27 (allS (Or.inr sz58) all0)
  have k62 := Keep.ext k61 E28
  have sz63 := own_ge2 k62.1 sz60 g31
  have k64 := Keep.trans k62 K31 (allS (Or.inr sz58) (allS (Or.inr sz60) all0))
  have sz65 := own_ge2 k64.1 sz63 g35
  have k66 := Keep.trans k64 K35 (allS (Or.inr sz58) (allS (Or.inr sz63) all0))
  have k67 := Keep.ext k66 E37
  have sz68 := own_ge2 k67.1 sz65 g40
  have k69 := Keep.trans k67 K40 (allS (Or.inr sz58) (allS (Or.inr sz65) all0))
  have k70 := Keep.trans k69 K43 all0
  exact o_retR X43 d_prog_1_method_2_65 rfl rfl rfl (fun Sf hSf => ⟨r43, b43, kb43, rfl, k70, (by have q := U43; simpa [quoteF, show ¬ cs.length ≤ 200 from by omega] using q)⟩) (by decide) (by decide)
theorem c_quote {l : Launch} {Z : State} {a0 : Array Value} (hw : W a0 Z) (a b : Addr) (kb : ClassId) (cs : List Int32) (h0 : Heap) {zc : Int32} (O2 : Sta Z Z.heap "java/lang/String" "COMPACT_STRINGS" "Z" (.int zc)) (P5 : ¬ zc = 0) {fm : Value} (O4 : Sta Z Z.heap "jdk/internal/util/Preconditions" "SIOOBE_FORMATTER" "Ljava/util/function/BiFunction;" fm) (rfm : fm.isRef = true) (SA : Sta Z Z.heap "java/lang/StringUTF16" "$assertionsDisabled" "Z" (.int (1 : Int32))) (SH : Sta Z Z.heap "java/lang/StringUTF16" "HI_BYTE_SHIFT" "I" (.int (0 : Int32))) (SL : Sta Z Z.heap "java/lang/StringUTF16" "LO_BYTE_SHIFT" "I" (.int (8 : Int32))) (U : US Z h0 a b kb cs) (hN : cs.length ≤ 400) (hsz : cs.length < 5 ∨ 100 < cs.length) :
    Con l Z EL0 (⟨"com/example/unibrace/unibrace/ErrorText", "quote", "(Ljava/lang/String;)Ljava/lang/String;"⟩ : MethodName) prog_1_method_2_code 2 (some (.object "java/lang/String")) ({ frames := 10, cells := 27, slots := 9563, locals := 143 } : Room) #[(.ref a)] h0 [] (fun v h' Sf => ∃ (r b : Addr) (kb : ClassId), v = some (.ref r) ∧ Keep h0 h' [] ∧ US Z h' r b kb (quoteF cs)) := by
  by_cases hs : cs.length ≤ 200
  · exact c_qs hw a b kb cs h0 O2 P5 O4 rfm SA SH SL U hN hs (by omega) hsz
  · exact c_qb hw a b kb cs h0 O2 P5 O4 rfm SA SH SL U hN (by omega)
set_option maxRecDepth 65536 in
set_option maxHeartbeats 40000000 in
theorem c_exp {l : Launch} {Z : State} {a0 : Array Value} (hw : W a0 Z) (a b : Addr) (kb : ClassId) (cs : List Int32) (r len : Nat) (h0 : Heap) {zc : Int32} (O2 : Sta Z Z.heap "java/lang/String" "COMPACT_STRINGS" "Z" (.int zc)) (P5 : ¬ zc = 0) {fm : Value} (O4 : Sta Z Z.heap "jdk/internal/util/Preconditions" "SIOOBE_FORMATTER" "Ljava/util/function/BiFunction;" fm) (rfm : fm.isRef = true) (SA : Sta Z Z.heap "java/lang/StringUTF16" "$assertionsDisabled" "Z" (.int (1 : Int32))) (SH : Sta Z Z.heap "java/lang/StringUTF16" "HI_BYTE_SHIFT" "I" (.int (0 : Int32))) (SL : Sta Z Z.heap "java/lang/StringUTF16" "LO_BYTE_SHIFT" "I" (.int (8 : Int32))) (U : US Z h0 a b kb cs) (hlen : (quoteF cs).length = len) (hrl : r < len) (hN : cs.length ≤ 400) :
    Con l Z EL0 (⟨"com/example/unibrace/unibrace/ErrorTextQuotePinLaw", "expected", "(Ljava/lang/String;II)C"⟩ : MethodName) method_2_code 4 (some .char) ({ frames := 5, cells := 0, slots := 0, locals := 66 } : Room) #[(.ref a), (.int (Int32.ofNat r)), (.int (Int32.ofNat len))] h0 [] (fun v h' Sf => v = some (.int ((quoteF cs).getD r 0)) ∧ h' = h0) := by
  have hpn : plainName "com/example/unibrace/unibrace/ErrorTextQuotePinLaw" = true := by first | (simp [plainName, overriddenIn]; done) | decide +kernel
  refine Con.intro (plainFor_of_name hpn) ?_
  intro p e s m below meth c T X hss
  refine Goes.cast (g' := mkF m 0 #[.val (.ref a), .val (.int (Int32.ofNat r)), .val (.int (Int32.ofNat len)), .unset] []) (by first | (simp [entryFrame, mkF, argsToLocals, Value.category]; done) | rfl) ?_
  have hls : cs.length ≤ 200 → len = cs.length + 2 := fun q => by rw [← hlen, own_qlS q]
  have hlb : 200 < cs.length → len = 202 := fun q => by rw [← hlen, own_qlB q]
  refine o_aloadN X d_method_2_0 rfl rfl (q := 1) rfl ?_
  refine o_strlenU X U O2 P5 (hwln hw) (w3 hw) (w140 hw) (w28 hw) (w30 hw) (w29 hw) d_method_2_1 rfl (by decide) (Nat.le_of_ble_eq_true rfl) (by decide) (by decide) (q := 4) rfl ?_
  intro T1 l1 X1
  refine o_istoreN X1 d_method_2_4 rfl (L' := #[.val (.ref a), .val (.int (Int32.ofNat r)), .val (.int (Int32.ofNat len)), .val (.int (Int32.ofNat cs.length))]) rfl (q := 5) rfl ?_
  refine o_iloadN X1 d_method_2_5 rfl (q := 6) rfl ?_
  by_cases hc6 : (Int32.ofNat r) = (0 : Int32)
  · refine o_ifY X1 d_method_2_6 (teq hc6).1 (by decide) (q := 16) (by decide) ?_
    refine o_bipush X1 d_method_2_16 (w := 34) rfl (q := 18) rfl ?_
    have r0 : r = 0 := (n_eq (a := r) (b := 0) (by omega) (by omega)).mp hc6
    exact o_retN X1 d_method_2_18 (by simp) (fun Sf hSf => ⟨by rw [r0, own_q0]; rfl, rfl⟩) (by decide) (by decide)
  · refine o_ifN X1 d_method_2_6 (feq hc6).1 (q := 9) rfl ?_
    refine o_iloadN X1 d_method_2_9 rfl (q := 10) rfl ?_
    refine o_iloadN X1 d_method_2_10 rfl (q := 11) rfl ?_
    refine o_iconst X1 d_method_2_11 (w := 1) rfl (q := 12) rfl ?_
    refine o_isub X1 d_method_2_12 (w := (Int32.ofNat (len - 1))) (n_sub (b := 1) (by omega)) (q := 13) rfl ?_
    by_cases hc13 : (Int32.ofNat r) = (Int32.ofNat (len - 1))
    · refine o_icmpN X1 d_method_2_13 (teq hc13).2 (q := 16) rfl ?_
      refine o_bipush X1 d_method_2_16 (w := 34) rfl (q := 18) rfl ?_
      have r0 : r ≠ 0 := fun q => hc6 ((n_eq (a := r) (b := 0) (by omega) (by omega)).mpr q)
      have r1 : r = len - 1 := (n_eq (by omega) (by omega)).mp hc13
      exact o_retN X1 d_method_2_18 (by simp) (fun Sf hSf => ⟨by rw [own_qe (by omega)]; rfl, rfl⟩) (by decide) (by decide)
    · refine o_icmpY X1 d_method_2_13 (feq hc13).2 (by decide) (q := 19) (by decide) ?_
      refine o_iloadN X1 d_method_2_19 rfl (q := 20) rfl ?_
      refine o_sipush X1 d_method_2_20 (w := 200) rfl (q := 23) rfl ?_
      by_cases hc23 : (200 : Int32) < (Int32.ofNat cs.length)
      · refine o_icmpY X1 d_method_2_23 (tlt hc23).2.2.1 (by decide) (q := 34) (by decide) ?_
        refine o_iloadN X1 d_method_2_34 rfl (q := 35) rfl ?_
        refine o_sipush X1 d_method_2_35 (w := 197) rfl (q := 38) rfl ?_
        by_cases hc38 : (197 : Int32) < (Int32.ofNat r)
        · refine o_icmpY X1 d_method_2_38 (tlt hc38).2.2.1 (by decide) (q := 49) (by decide) ?_
          refine o_bipush X1 d_method_2_49 (w := 46) rfl (q := 51) rfl ?_
          have r0 : r ≠ 0 := fun q => hc6 ((n_eq (a := r) (b := 0) (by omega) (by omega)).mpr q)
          have r1 : r ≠ len - 1 := fun q => hc13 ((n_eq (by omega) (by omega)).mpr q)
          have n2 : 200 < cs.length := (n_lt (a := 200) (b := cs.length) (by omega) (by omega)).mp hc23
          have n3 : 197 < r := (n_lt (a := 197) (b := r) (by omega) (by omega)).mp hc38
          exact o_retN X1 d_method_2_51 (by simp) (fun Sf hSf => ⟨by rw [own_qd (by omega) (by omega) (by omega)]; rfl, rfl⟩) (by decide) (by decide)
        · refine o_icmpN X1 d_method_2_38 (flt hc38).2.2.1 (q := 41) rfl ?_
          refine o_aloadN X1 d_method_2_41 rfl rfl (q := 42) rfl ?_
          refine o_iloadN X1 d_method_2_42 rfl (q := 43) rfl ?_
          refine o_iconst X1 d_method_2_43 (w := 1) rfl (q := 44) rfl ?_
          have r0 : r ≠ 0 := fun q => hc6 ((n_eq (a := r) (b := 0) (by omega) (by omega)).mpr q)
          have r1 : r ≠ len - 1 := fun q => hc13 ((n_eq (by omega) (by omega)).mpr q)
          have n2 : 200 < cs.length := (n_lt (a := 200) (b := cs.length) (by omega) (by omega)).mp hc23
          have n3 : ¬ 197 < r := fun q => hc38 ((n_lt (a := 197) (b := r) (by omega) (by omega)).mpr q)
          refine o_isub X1 d_method_2_44 (w := (Int32.ofNat (r - 1))) (n_sub (b := 1) (by omega)) (q := 45) rfl ?_
          refine o_virt X1 [(.int (Int32.ofNat (r - 1)))] (y' := (⟨"java/lang/String", "charAt", "(I)C"⟩ : MethodName)) U.exa (c_charAt hw a b kb cs (r - 1) _ O2 P5 O4 rfm SA SH SL U (by omega) hN) all0 (w146 hw) (w147 hw) (w149 hw) (w148 hw) (w150 hw) (w4 hw) (by decide) d_method_2_45 (rest := []) rfl rfl (lenOf pd38 rfl) rfl (by decide) (Nat.le_of_ble_eq_true rfl) (by decide) (by decide) (q := 48) rfl ?_
          intro v2 vm2 T2 h2 l2 X2 R2 q2
          obtain ⟨rfl, e2⟩ := q2
          have e2 := e2.symm
          subst e2
          show Goes p e below _ T2 (mkF m 48 #[.val (.ref a), .val (.int (Int32.ofNat r)), .val (.int (Int32.ofNat len)), .val (.int (Int32.ofNat cs.length))] [(.int (cs.getD (r - 1) 0))])
          exact o_retN X2 d_method_2_48 (by simp) (fun Sf hSf => ⟨by rw [own_qb (by omega) (by omega) (by omega), own_narc (U.rg _ (own_mem (by omega)))], rfl⟩) (by decide) (by decide)
      · refine o_icmpN X1 d_method_2_23 (flt hc23).2.2.1 (q := 26) rfl ?_
        refine o_aloadN X1 d_method_2_26 rfl rfl (q := 27) rfl ?_
        refine o_iloadN X1 d_method_2_27 rfl (q := 28) rfl ?_
        refine o_iconst X1 d_method_2_28 (w := 1) rfl (q := 29) rfl ?_
        have r0 : r ≠ 0 := fun q => hc6 ((n_eq (a := r) (b := 0) (by omega) (by omega)).mpr q)
        have r1 : r ≠ len - 1 := fun q => hc13 ((n_eq (by omega) (by omega)).mpr q)
        have n2 : ¬ 200 < cs.length := fun q => hc23 ((n_lt (a := 200) (b := cs.length) (by omega) (by omega)).mpr q)
        refine o_isub X1 d_method_2_29 (w := (Int32.ofNat (r - 1))) (n_sub (b := 1) (by omega)) (q := 30) rfl ?_
        refine o_virt X1 [(.int (Int32.ofNat (r - 1)))] (y' := (⟨"java/lang/String", "charAt", "(I)C"⟩ : MethodName)) U.exa (c_charAt hw a b kb cs (r - 1) _ O2 P5 O4 rfm SA SH SL U (by omega) hN) all0 (w146 hw) (w147 hw) (w149 hw) (w148 hw) (w150 hw) (w4 hw) (by decide) d_method_2_30 (rest := []) rfl rfl (lenOf pd38 rfl) rfl (by decide) (Nat.le_of_ble_eq_true rfl) (by decide) (by decide) (q := 33) rfl ?_
        intro v3 vm3 T3 h3 l3 X3 R3 q3
        obtain ⟨rfl, e3⟩ := q3
        have e3 := e3.symm
        subst e3
        show Goes p e below _ T3 (mkF m 33 #[.val (.ref a), .val (.int (Int32.ofNat r)), .val (.int (Int32.ofNat len)), .val (.int (Int32.ofNat cs.length))] [(.int (cs.getD (r - 1) 0))])
        exact o_retN X3 d_method_2_33 (by simp) (fun Sf hSf => ⟨by rw [own_qs (by omega) (by omega) (by omega), own_narc (U.rg _ (own_mem (by omega)))], rfl⟩) (by decide) (by decide)
set_option maxRecDepth 65536 in
set_option maxHeartbeats 40000000 in
theorem c_check {l : Launch} {Z : State} {a0 : Array Value} (hw : W a0 Z) (q b2 : Addr) (kb2 : ClassId) (a b : Addr) (kb : ClassId) (cs : List Int32) (rr : Int32) (h0 : Heap) {zc : Int32} (O2 : Sta Z Z.heap "java/lang/String" "COMPACT_STRINGS" "Z" (.int zc)) (P5 : ¬ zc = 0) {fm : Value} (O4 : Sta Z Z.heap "jdk/internal/util/Preconditions" "SIOOBE_FORMATTER" "Ljava/util/function/BiFunction;" fm) (rfm : fm.isRef = true) (SA : Sta Z Z.heap "java/lang/StringUTF16" "$assertionsDisabled" "Z" (.int (1 : Int32))) (SH : Sta Z Z.heap "java/lang/StringUTF16" "HI_BYTE_SHIFT" "I" (.int (0 : Int32))) (SL : Sta Z Z.heap "java/lang/StringUTF16" "LO_BYTE_SHIFT" "I" (.int (8 : Int32))) (U2 : US Z h0 q b2 kb2 (quoteF cs)) (U : US Z h0 a b kb cs) (hN : cs.length ≤ 400) :
    Con l Z EL0 (⟨"com/example/unibrace/unibrace/ErrorTextQuotePinLaw", "check", "(Ljava/lang/String;Ljava/lang/String;I)Z"⟩ : MethodName) method_3_code 3 (some .boolean) ({ frames := 6, cells := 0, slots := 0, locals := 82 } : Room) #[(.ref q), (.ref a), (.int rr)] h0 [] (fun v h' Sf => v = some (.int (1 : Int32)) ∧ h' = h0) := by
  have hpn : plainName "com/example/unibrace/unibrace/ErrorTextQuotePinLaw" = true := by first | (simp [plainName, overriddenIn]; done) | decide +kernel
  refine Con.intro (plainFor_of_name hpn) ?_
  intro p e s m below meth c T X hss
  refine Goes.cast (g' := mkF m 0 #[.val (.ref q), .val (.ref a), .val (.int rr)] []) (by first | (simp [entryFrame, mkF, argsToLocals, Value.category]; done) | rfl) ?_
  have hql : (quoteF cs).length ≤ 400 := own_ql4 cs
  refine o_iloadN X d_method_3_0 rfl (q := 1) rfl ?_
  by_cases hc1 : rr < (0 : Int32)
  · refine o_ifY X d_method_3_1 (tlt hc1).1 (by decide) (q := 12) (by decide) ?_
    refine o_iconst X d_method_3_12 (w := 1) rfl (q := 13) rfl ?_
    exact o_retN X d_method_3_13 (by simp) (fun Sf hSf => ⟨rfl, rfl⟩) (by decide) (by decide)
  · refine o_ifN X d_method_3_1 (flt hc1).1 (q := 4) rfl ?_
    obtain ⟨r, hr0, rfl⟩ := n_of hc1
    refine o_iloadN X d_method_3_4 rfl (q := 5) rfl ?_
    refine o_aloadN X d_method_3_5 rfl rfl (q := 6) rfl ?_
    refine o_strlenU X U2 O2 P5 (hwln hw) (w3 hw) (w140 hw) (w28 hw) (w30 hw) (w29 hw) d_method_3_6 rfl (by decide) (Nat.le_of_ble_eq_true rfl) (by decide) (by decide) (q := 9) rfl ?_
    intro T1 l1 X1
    by_cases hc9 : (Int32.ofNat r) < (Int32.ofNat (quoteF cs).length)
    · refine o_icmpY X1 d_method_3_9 (tlt hc9).1 (by decide) (q := 14) (by decide) ?_
      refine o_aloadN X1 d_method_3_14 rfl rfl (q := 15) rfl ?_
      refine o_iloadN X1 d_method_3_15 rfl (q := 16) rfl ?_
      refine o_virt X1 [(.int (Int32.ofNat r))] (y' := (⟨"java/lang/String", "charAt", "(I)C"⟩ : MethodName)) U2.exa (c_charAt hw q b2 kb2 (quoteF cs) r _ O2 P5 O4 rfm SA SH SL U2 ((n_lt (by omega) (by omega)).mp hc9) (by omega)) all0 (w146 hw) (w147 hw) (w149 hw) (w148 hw) (w150 hw) (w4 hw) (by decide) d_method_3_16 (rest := []) rfl rfl (lenOf pd38 rfl) rfl (by decide) (Nat.le_of_ble_eq_true rfl) (by decide) (by decide) (q := 19) rfl ?_
      intro v2 vm2 T2 h2 l2 X2 R2 q2
      obtain ⟨rfl, e2⟩ := q2
      have e2 := e2.symm
      subst e2
      show Goes p e below _ T2 (mkF m 19 #[.val (.ref q), .val (.ref a), .val (.int (Int32.ofNat r))] [(.int ((quoteF cs).getD r 0))])
      refine o_aloadN X2 d_method_3_19 rfl rfl (q := 20) rfl ?_
      refine o_iloadN X2 d_method_3_20 rfl (q := 21) rfl ?_
      refine o_aloadN X2 d_method_3_21 rfl rfl (q := 22) rfl ?_
      have f3 := U2
      refine o_strlenU X2 f3 O2 P5 (hwln hw) (w3 hw) (w140 hw) (w28 hw) (w30 hw) (w29 hw) d_method_3_22 rfl (by decide) (Nat.le_of_ble_eq_true rfl) (by decide) (by decide) (q := 25) rfl ?_
      intro T4 l4 X4
      have f5 := U
      refine o_stat X4 [(.ref a), (.int (Int32.ofNat r)), (.int (Int32.ofNat (quoteF cs).length))] (y' := (⟨"com/example/unibrace/unibrace/ErrorTextQuotePinLaw", "expected", "(Ljava/lang/String;II)C"⟩ : MethodName)) (c_exp hw a b kb cs r (quoteF cs).length _ O2 P5 O4 rfm SA SH SL f5 rfl ((n_lt (by omega) (by omega)).mp hc9) hN) all0 (w168 hw) (w169 hw) (w144 hw) (w170 hw) (by decide) d_method_3_25 (rest := [(.int ((quoteF cs).getD r 0))]) rfl rfl (lenOf pd39 rfl) rfl (by decide) (Nat.le_of_ble_eq_true rfl) (by decide) (by decide) (q := 28) rfl ?_
      intro v6 vm6 T6 h6 l6 X6 R6 q6
      obtain ⟨rfl, e6⟩ := q6
      have e6 := e6.symm
      subst e6
      show Goes p e below _ T6 (mkF m 28 #[.val (.ref q), .val (.ref a), .val (.int (Int32.ofNat r))] [(.int ((quoteF cs).getD r 0)), (.int ((quoteF cs).getD r 0))])
      refine o_icmpN X6 d_method_3_28 (teq rfl).2 (q := 31) rfl ?_
      refine o_iconst X6 d_method_3_31 (w := 1) rfl (q := 32) rfl ?_
      refine o_goto X6 d_method_3_32 (by decide) (q := 36) (by decide) ?_
      exact o_retN X6 d_method_3_36 (by simp) (fun Sf hSf => ⟨rfl, rfl⟩) (by decide) (by decide)
    · refine o_icmpN X1 d_method_3_9 (flt hc9).1 (q := 12) rfl ?_
      refine o_iconst X1 d_method_3_12 (w := 1) rfl (q := 13) rfl ?_
      exact o_retN X1 d_method_3_13 (by simp) (fun Sf hSf => ⟨rfl, rfl⟩) (by decide) (by decide)
set_option maxRecDepth 65536 in
set_option maxHeartbeats 40000000 in
theorem c_newS0 {l : Launch} {Z : State} {a0 : Array Value} (hw : W a0 Z) (a ar : Addr) (h0 : Heap) (E : Exa Z h0 a "java/lang/String") (ga : Z.heap.size ≤ a) (Fv : Fld Z h0 a "java/lang/String" "value" "[B" .null) (Fc : Fld Z h0 a "java/lang/String" "coder" "B" (.int (0 : Int32))) {ka : ClassId} (Va : Arv Z h0 ar ka .char (0 : Int32) [] (.int (0 : Int32))) :
    Con l Z EL0 (⟨"java/lang/String", "<init>", "([C)V"⟩ : MethodName) jdk_42_method_3_code 2 none ({ frames := 5, cells := 4, slots := 1208, locals := 74 } : Room) #[(.ref a), (.ref ar)] h0 [a] (fun v h' Sf => v = none ∧ Keep h0 h' [a] ∧ ∃ (b : Addr) (kb : ClassId), US Z h' a b kb []) := by
  have hpn : plainName "java/lang/String" = true := by first | (simp [plainName, overriddenIn]; done) | decide +kernel
  refine Con.intro (plainFor_of_name hpn) ?_
  intro p e s m below meth c T X hss
  have S_a := hss a (by simp)
  refine Goes.cast (g' := mkF m 0 #[.val (.ref a), .val (.ref ar)] []) (by first | (simp [entryFrame, mkF, argsToLocals, Value.category]; done) | rfl) ?_
  refine o_aloadN X d_jdk_42_method_3_0 rfl rfl (q := 1) rfl ?_
  refine o_aloadN X d_jdk_42_method_3_1 rfl rfl (q := 2) rfl ?_
  refine o_iconst X d_jdk_42_method_3_2 (w := 0) rfl (q := 3) rfl ?_
  refine o_aloadN X d_jdk_42_method_3_3 rfl rfl (q := 4) rfl ?_
  refine o_len X Va d_jdk_42_method_3_4 (q := 5) rfl ?_
  refine o_null X d_jdk_42_method_3_5 (q := 6) rfl ?_
  refine o_spec X [(.ref ar), (.int (0 : Int32)), (.int (0 : Int32)), .null] (y' := (⟨"java/lang/String", "<init>", "([CIILjava/lang/Void;)V"⟩ : MethodName)) (c_strE4 hw a ar _ E ga Fv Fc) (allS ⟨E.lt, S_a⟩ all0) rfl (w8 hw) (w9 hw) (w11 hw) (w4 hw) (by decide) d_jdk_42_method_3_6 (rest := []) rfl rfl (lenOf pd0 rfl) rfl (by decide) (Nat.le_of_ble_eq_true rfl) (by decide) (by decide) (q := 9) rfl ?_
  intro v1 vm1 T1 h1 l1 X1 R1 q1
  obtain ⟨rfl, K1, b1, kb1, L1⟩ := q1
  show Goes p e below _ T1 (mkF m 9 #[.val (.ref a), .val (.ref ar)] [])
  exact o_ret X1 d_jdk_42_method_3_9 (fun Sf hSf => ⟨rfl, K1, b1, kb1, Or.inl L1⟩) (by decide) (by decide)
theorem c_newS {l : Launch} {Z : State} {a0 : Array Value} (hw : W a0 Z) (a ar : Addr) (cs : List Int32) (h0 : Heap) {zc : Int32} (O2 : Sta Z Z.heap "java/lang/String" "COMPACT_STRINGS" "Z" (.int zc)) (P5 : ¬ zc = 0) (SA : Sta Z Z.heap "java/lang/StringUTF16" "$assertionsDisabled" "Z" (.int (1 : Int32))) (SH : Sta Z Z.heap "java/lang/StringUTF16" "HI_BYTE_SHIFT" "I" (.int (0 : Int32))) (SL : Sta Z Z.heap "java/lang/StringUTF16" "LO_BYTE_SHIFT" "I" (.int (8 : Int32))) (E : Exa Z h0 a "java/lang/String") (ga : Z.heap.size ≤ a) (Fv : Fld Z h0 a "java/lang/String" "value" "[B" .null) (Fc : Fld Z h0 a "java/lang/String" "coder" "B" (.int (0 : Int32))) {ka : ClassId} (Va : Arv Z h0 ar ka .char (Int32.ofNat cs.length) (cs.map Value.int) (.int (0 : Int32))) (hne : ar ≠ a) (hN : cs.length ≤ 400) (hr : ∀ c ∈ cs, Rg c) :
    Con l Z EL0 (⟨"java/lang/String", "<init>", "([C)V"⟩ : MethodName) jdk_42_method_3_code 2 none ({ frames := 5, cells := 4, slots := 1208, locals := 74 } : Room) #[(.ref a), (.ref ar)] h0 [a] (fun v h' Sf => v = none ∧ Keep h0 h' [a] ∧ ∃ (b : Addr) (kb : ClassId), US Z h' a b kb cs) := by
  cases cs with
  | nil => exact c_newS0 hw a ar h0 E ga Fv Fc Va
  | cons c r => exact (c_newS1 hw a ar (c :: r) h0 O2 P5 SA SH SL E ga Fv Fc Va hne hN hr (by simp)).mono (fun v h' S q => by obtain ⟨q1, q2, b, kb, -, q3⟩ := q; exact ⟨q1, q2, b, kb, q3⟩)
set_option maxRecDepth 65536 in
set_option maxHeartbeats 40000000 in
theorem c_law {l : Launch} {Z : State} {a0 : Array Value} (hw : W a0 Z) (p0 p1 p2 p3 p4 p5 : Int32) {zc : Int32} (O2 : Sta Z Z.heap "java/lang/String" "COMPACT_STRINGS" "Z" (.int zc)) (P5 : ¬ zc = 0) {fm : Value} (O4 : Sta Z Z.heap "jdk/internal/util/Preconditions" "SIOOBE_FORMATTER" "Ljava/util/function/BiFunction;" fm) (rfm : fm.isRef = true) (SA : Sta Z Z.heap "java/lang/StringUTF16" "$assertionsDisabled" "Z" (.int (1 : Int32))) (SH : Sta Z Z.heap "java/lang/StringUTF16" "HI_BYTE_SHIFT" "I" (.int (0 : Int32))) (SL : Sta Z Z.heap "java/lang/StringUTF16" "LO_BYTE_SHIFT" "I" (.int (8 : Int32))) :
    Con l Z EL0 x code maxLocals ret room_1 #[(.int p0), (.int p1), (.int p2), (.int p3), (.int p4), (.int p5)] Z.heap [] (fun v h' Sf => v = some (.int 1)) := by
  have hpn : plainName "com/example/unibrace/unibrace/ErrorTextQuotePinLaw" = true := by first | (simp [plainName, overriddenIn]; done) | decide +kernel
  refine Con.intro (plainFor_of_name hpn) ?_
  intro p e s m below meth c T X hss
  refine Goes.cast (g' := mkF m 0 #[.val (.int p0), .val (.int p1), .val (.int p2), .val (.int p3), .val (.int p4), .val (.int p5), .unset, .unset, .unset, .unset, .unset, .unset, .unset, .unset, .unset] []) (by first | (simp [entryFrame, mkF, argsToLocals, Value.category, maxLocals]; done) | rfl) ?_
  refine o_bipush X at_0 (w := 16) rfl (q := 2) rfl ?_
  refine o_newarr X (aty := .int) (cap := 16) 16 (w0 hw) at_2 (by decide) (by decide) (by decide) (by decide) (by decide) (q := 4) rfl ?_
  intro T1 h1 b1 k1 gb1 X1 E1 R1 S1 V1 g0_b1
  have V1 : Arv Z h1 b1 k1 .int (16 : Int32) [(.int (0 : Int32)), (.int (0 : Int32)), (.int (0 : Int32)), (.int (0 : Int32)), (.int (0 : Int32)), (.int (0 : Int32)), (.int (0 : Int32)), (.int (0 : Int32)), (.int (0 : Int32)), (.int (0 : Int32)), (.int (0 : Int32)), (.int (0 : Int32)), (.int (0 : Int32)), (.int (0 : Int32)), (.int (0 : Int32)), (.int (0 : Int32))] (.int (0 : Int32)) := V1
  refine o_dup X1 at_4 rfl (q := 5) rfl ?_
  refine o_iconst X1 at_5 (w := 0) rfl (q := 6) rfl ?_
  refine o_iconst X1 at_6 (w := 0) rfl (q := 7) rfl ?_
  refine o_iastore X1 0 V1 g0_b1 (Safe.arv X1.alike V1 (by decide)) (by decide) rfl (Nat.le_of_ble_eq_true rfl) (v := (.int (0 : Int32))) rfl at_7 (q := 8) rfl ?_
  intro T2 h2 l2 X2 W2 R2 V2
  have V2 : Arv Z h2 b1 k1 .int (16 : Int32) [(.int (0 : Int32)), (.int (0 : Int32)), (.int (0 : Int32)), (.int (0 : Int32)), (.int (0 : Int32)), (.int (0 : Int32)), (.int (0 : Int32)), (.int (0 : Int32)), (.int (0 : Int32)), (.int (0 : Int32)), (.int (0 : Int32)), (.int (0 : Int32)), (.int (0 : Int32)), (.int (0 : Int32)), (.int (0 : Int32)), (.int (0 : Int32))] (.int (0 : Int32)) := V2
  refine o_dup X2 at_8 rfl (q := 9) rfl ?_
  refine o_iconst X2 at_9 (w := 1) rfl (q := 10) rfl ?_
  refine o_iconst X2 at_10 (w := 1) rfl (q := 11) rfl ?_
  refine o_iastore X2 1 V2 g0_b1 (Safe.arv X2.alike V2 (by decide)) (by decide) rfl (Nat.le_of_ble_eq_true rfl) (v := (.int (1 : Int32))) rfl at_11 (q := 12) rfl ?_
  intro T3 h3 l3 X3 W3 R3 V3
  have V3 : Arv Z h3 b1 k1 .int (16 : Int32) [(.int (0 : Int32)), (.int (1 : Int32)), (.int (0 : Int32)), (.int (0 : Int32)), (.int (0 : Int32)), (.int (0 : Int32)), (.int (0 : Int32)), (.int (0 : Int32)), (.int (0 : Int32)), (.int (0 : Int32)), (.int (0 : Int32)), (.int (0 : Int32)), (.int (0 : Int32)), (.int (0 : Int32)), (.int (0 : Int32)), (.int (0 : Int32))] (.int (0 : Int32)) := V3
  refine o_dup X3 at_12 rfl (q := 13) rfl ?_
  refine o_iconst X3 at_13 (w := 2) rfl (q := 14) rfl ?_
  refine o_iconst X3 at_14 (w := 2) rfl (q := 15) rfl ?_
  refine o_iastore X3 2 V3 g0_b1 (Safe.arv X3.alike V3 (by decide)) (by decide) rfl (Nat.le_of_ble_eq_true rfl) (v := (.int (2 : Int32))) rfl at_15 (q := 16) rfl ?_
  intro T4 h4 l4 X4 W4 R4 V4
  have V4 : Arv Z h4 b1 k1 .int (16 : Int32) [(.int (0 : Int32)), (.int (1 : Int32)), (.int (2 : Int32)), (.int (0 : Int32)), (.int (0 : Int32)), (.int (0 : Int32)), (.int (0 : Int32)), (.int (0 : Int32)), (.int (0 : Int32)), (.int (0 : Int32)), (.int (0 : Int32)), (.int (0 : Int32)), (.int (0 : Int32)), (.int (0 : Int32)), (.int (0 : Int32)), (.int (0 : Int32))] (.int (0 : Int32)) := V4
  refine o_dup X4 at_16 rfl (q := 17) rfl ?_
  refine o_iconst X4 at_17 (w := 3) rfl (q := 18) rfl ?_
  refine o_iconst X4 at_18 (w := 3) rfl (q := 19) rfl ?_
  refine o_iastore X4 3 V4 g0_b1 (Safe.arv X4.alike V4 (by decide)) (by decide) rfl (Nat.le_of_ble_eq_true rfl) (v := (.int (3 : Int32))) rfl at_19 (q := 20) rfl ?_
  intro T5 h5 l5 X5 W5 R5 V5
  have V5 : Arv Z h5 b1 k1 .int (16 : Int32) [(.int (0 : Int32)), (.int (1 : Int32)), (.int (2 : Int32)), (.int (3 : Int32)), (.int (0 : Int32)), (.int (0 : Int32)), (.int (0 : Int32)), (.int (0 : Int32)), (.int (0 : Int32)), (.int (0 : Int32)), (.int (0 : Int32)), (.int (0 : Int32)), (.int (0 : Int32)), (.int (0 : Int32)), (.int (0 : Int32)), (.int (0 : Int32))] (.int (0 : Int32)) := V5
  refine o_dup X5 at_20 rfl (q := 21) rfl ?_
  refine o_iconst X5 at_21 (w := 4) rfl (q := 22) rfl ?_
  refine o_iconst X5 at_22 (w := 4) rfl (q := 23) rfl ?_
  refine o_iastore X5 4 V5 g0_b1 (Safe.arv X5.alike V5 (by decide)) (by decide) rfl (Nat.le_of_ble_eq_true rfl) (v := (.int (4 : Int32))) rfl at_23 (q := 24) rfl ?_
  intro T6 h6 l6 X6 W6 R6 V6
  have V6 : Arv Z h6 b1 k1 .int (16 : Int32) [(.int (0 : Int32)), (.int (1 : Int32)), (.int (2 : Int32)), (.int (3 : Int32)), (.int (4 : Int32)), (.int (0 : Int32)), (.int (0 : Int32)), (.int (0 : Int32)), (.int (0 : Int32)), (.int (0 : Int32)), (.int (0 : Int32)), (.int (0 : Int32)), (.int (0 : Int32)), (.int (0 : Int32)), (.int (0 : Int32)), (.int (0 : Int32))] (.int (0 : Int32)) := V6
  refine o_dup X6 at_24 rfl (q := 25) rfl ?_
  refine o_iconst X6 at_25 (w := 5) rfl (q := 26) rfl ?_
  refine o_sipush X6 at_26 (w := 196) rfl (q := 29) rfl ?_
  refine o_iastore X6 5 V6 g0_b1 (Safe.arv X6.alike V6 (by decide)) (by decide) rfl (Nat.le_of_ble_eq_true rfl) (v := (.int (196 : Int32))) rfl at_29 (q := 30) rfl ?_
  intro T7 h7 l7 X7 W7 R7 V7
  have V7 : Arv Z h7 b1 k1 .int (16 : Int32) [(.int (0 : Int32)), (.int (1 : Int32)), (.int (2 : Int32)), (.int (3 : Int32)), (.int (4 : Int32)), (.int (196 : Int32)), (.int (0 : Int32)), (.int (0 : Int32)), (.int (0 : Int32)), (.int (0 : Int32)), (.int (0 : Int32)), (.int (0 : Int32)), (.int (0 : Int32)), (.int (0 : Int32)), (.int (0 : Int32)), (.int (0 : Int32))] (.int (0 : Int32)) := V7
  refine o_dup X7 at_30 rfl (q := 31) rfl ?_
  refine o_bipush X7 at_31 (w := 6) rfl (q := 33) rfl ?_
  refine o_sipush X7 at_33 (w := 197) rfl (q := 36) rfl ?_
  refine o_iastore X7 6 V7 g0_b1 (Safe.arv X7.alike V7 (by decide)) (by decide) rfl (Nat.le_of_ble_eq_true rfl) (v := (.int (197 : Int32))) rfl at_36 (q := 37) rfl ?_
  intro T8 h8 l8 X8 W8 R8 V8
  have V8 : Arv Z h8 b1 k1 .int (16 : Int32) [(.int (0 : Int32)), (.int (1 : Int32)), (.int (2 : Int32)), (.int (3 : Int32)), (.int (4 : Int32)), (.int (196 : Int32)), (.int (197 : Int32)), (.int (0 : Int32)), (.int (0 : Int32)), (.int (0 : Int32)), (.int (0 : Int32)), (.int (0 : Int32)), (.int (0 : Int32)), (.int (0 : Int32)), (.int (0 : Int32)), (.int (0 : Int32))] (.int (0 : Int32)) := V8
  refine o_dup X8 at_37 rfl (q := 38) rfl ?_
  refine o_bipush X8 at_38 (w := 7) rfl (q := 40) rfl ?_
  refine o_sipush X8 at_40 (w := 198) rfl (q := 43) rfl ?_
  refine o_iastore X8 7 V8 g0_b1 (Safe.arv X8.alike V8 (by decide)) (by decide) rfl (Nat.le_of_ble_eq_true rfl) (v := (.int (198 : Int32))) rfl at_43 (q := 44) rfl ?_
  intro T9 h9 l9 X9 W9 R9 V9
  have V9 : Arv Z h9 b1 k1 .int (16 : Int32) [(.int (0 : Int32)), (.int (1 : Int32)), (.int (2 : Int32)), (.int (3 : Int32)), (.int (4 : Int32)), (.int (196 : Int32)), (.int (197 : Int32)), (.int (198 : Int32)), (.int (0 : Int32)), (.int (0 : Int32)), (.int (0 : Int32)), (.int (0 : Int32)), (.int (0 : Int32)), (.int (0 : Int32)), (.int (0 : Int32)), (.int (0 : Int32))] (.int (0 : Int32)) := V9
  refine o_dup X9 at_44 rfl (q := 45) rfl ?_
  refine o_bipush X9 at_45 (w := 8) rfl (q := 47) rfl ?_
  refine o_sipush X9 at_47 (w := 199) rfl (q := 50) rfl ?_
  refine o_iastore X9 8 V9 g0_b1 (Safe.arv X9.alike V9 (by decide)) (by decide) rfl (Nat.le_of_ble_eq_true rfl) (v := (.int (199 : Int32))) rfl at_50 (q := 51) rfl ?_
  intro T10 h10 l10 X10 W10 R10 V10
  have V10 : Arv Z h10 b1 k1 .int (16 : Int32) [(.int (0 : Int32)), (.int (1 : Int32)), (.int (2 : Int32)), (.int (3 : Int32)), (.int (4 : Int32)), (.int (196 : Int32)), (.int (197 : Int32)), (.int (198 : Int32)), (.int (199 : Int32)), (.int (0 : Int32)), (.int (0 : Int32)), (.int (0 : Int32)), (.int (0 : Int32)), (.int (0 : Int32)), (.int (0 : Int32)), (.int (0 : Int32))] (.int (0 : Int32)) := V10
  refine o_dup X10 at_51 rfl (q := 52) rfl ?_
  refine o_bipush X10 at_52 (w := 9) rfl (q := 54) rfl ?_
  refine o_sipush X10 at_54 (w := 200) rfl (q := 57) rfl ?_
  refine o_iastore X10 9 V10 g0_b1 (Safe.arv X10.alike V10 (by decide)) (by decide) rfl (Nat.le_of_ble_eq_true rfl) (v := (.int (200 : Int32))) rfl at_57 (q := 58) rfl ?_
  intro T11 h11 l11 X11 W11 R11 V11
  have V11 : Arv Z h11 b1 k1 .int (16 : Int32) [(.int (0 : Int32)), (.int (1 : Int32)), (.int (2 : Int32)), (.int (3 : Int32)), (.int (4 : Int32)), (.int (196 : Int32)), (.int (197 : Int32)), (.int (198 : Int32)), (.int (199 : Int32)), (.int (200 : Int32)), (.int (0 : Int32)), (.int (0 : Int32)), (.int (0 : Int32)), (.int (0 : Int32)), (.int (0 : Int32)), (.int (0 : Int32))] (.int (0 : Int32)) := V11
  refine o_dup X11 at_58 rfl (q := 59) rfl ?_
  refine o_bipush X11 at_59 (w := 10) rfl (q := 61) rfl ?_
  refine o_sipush X11 at_61 (w := 201) rfl (q := 64) rfl ?_
  refine o_iastore X11 10 V11 g0_b1 (Safe.arv X11.alike V11 (by decide)) (by decide) rfl (Nat.le_of_ble_eq_true rfl) (v := (.int (201 : Int32))) rfl at_64 (q := 65) rfl ?_
  intro T12 h12 l12 X12 W12 R12 V12
  have V12 : Arv Z h12 b1 k1 .int (16 : Int32) [(.int (0 : Int32)), (.int (1 : Int32)), (.int (2 : Int32)), (.int (3 : Int32)), (.int (4 : Int32)), (.int (196 : Int32)), (.int (197 : Int32)), (.int (198 : Int32)), (.int (199 : Int32)), (.int (200 : Int32)), (.int (201 : Int32)), (.int (0 : Int32)), (.int (0 : Int32)), (.int (0 : Int32)), (.int (0 : Int32)), (.int (0 : Int32))] (.int (0 : Int32)) := V12
  refine o_dup X12 at_65 rfl (q := 66) rfl ?_
  refine o_bipush X12 at_66 (w := 11) rfl (q := 68) rfl ?_
  refine o_sipush X12 at_68 (w := 202) rfl (q := 71) rfl ?_
  refine o_iastore X12 11 V12 g0_b1 (Safe.arv X12.alike V12 (by decide)) (by decide) rfl (Nat.le_of_ble_eq_true rfl) (v := (.int (202 : Int32))) rfl at_71 (q := 72) rfl ?_
  intro T13 h13 l13 X13 W13 R13 V13
  have V13 : Arv Z h13 b1 k1 .int (16 : Int32) [(.int (0 : Int32)), (.int (1 : Int32)), (.int (2 : Int32)), (.int (3 : Int32)), (.int (4 : Int32)), (.int (196 : Int32)), (.int (197 : Int32)), (.int (198 : Int32)), (.int (199 : Int32)), (.int (200 : Int32)), (.int (201 : Int32)), (.int (202 : Int32)), (.int (0 : Int32)), (.int (0 : Int32)), (.int (0 : Int32)), (.int (0 : Int32))] (.int (0 : Int32)) := V13
  refine o_dup X13 at_72 rfl (q := 73) rfl ?_
  refine o_bipush X13 at_73 (w := 12) rfl (q := 75) rfl ?_
  refine o_sipush X13 at_75 (w := 203) rfl (q := 78) rfl ?_
  refine o_iastore X13 12 V13 g0_b1 (Safe.arv X13.alike V13 (by decide)) (by decide) rfl (Nat.le_of_ble_eq_true rfl) (v := (.int (203 : Int32))) rfl at_78 (q := 79) rfl ?_
  intro T14 h14 l14 X14 W14 R14 V14
  have V14 : Arv Z h14 b1 k1 .int (16 : Int32) [(.int (0 : Int32)), (.int (1 : Int32)), (.int (2 : Int32)), (.int (3 : Int32)), (.int (4 : Int32)), (.int (196 : Int32)), (.int (197 : Int32)), (.int (198 : Int32)), (.int (199 : Int32)), (.int (200 : Int32)), (.int (201 : Int32)), (.int (202 : Int32)), (.int (203 : Int32)), (.int (0 : Int32)), (.int (0 : Int32)), (.int (0 : Int32))] (.int (0 : Int32)) := V14
  refine o_dup X14 at_79 rfl (q := 80) rfl ?_
  refine o_bipush X14 at_80 (w := 13) rfl (q := 82) rfl ?_
  refine o_sipush X14 at_82 (w := 204) rfl (q := 85) rfl ?_
  refine o_iastore X14 13 V14 g0_b1 (Safe.arv X14.alike V14 (by decide)) (by decide) rfl (Nat.le_of_ble_eq_true rfl) (v := (.int (204 : Int32))) rfl at_85 (q := 86) rfl ?_
  intro T15 h15 l15 X15 W15 R15 V15
  have V15 : Arv Z h15 b1 k1 .int (16 : Int32) [(.int (0 : Int32)), (.int (1 : Int32)), (.int (2 : Int32)), (.int (3 : Int32)), (.int (4 : Int32)), (.int (196 : Int32)), (.int (197 : Int32)), (.int (198 : Int32)), (.int (199 : Int32)), (.int (200 : Int32)), (.int (201 : Int32)), (.int (202 : Int32)), (.int (203 : Int32)), (.int (204 : Int32)), (.int (0 : Int32)), (.int (0 : Int32))] (.int (0 : Int32)) := V15
  refine o_dup X15 at_86 rfl (q := 87) rfl ?_
  refine o_bipush X15 at_87 (w := 14) rfl (q := 89) rfl ?_
  refine o_sipush X15 at_89 (w := 250) rfl (q := 92) rfl ?_
  refine o_iastore X15 14 V15 g0_b1 (Safe.arv X15.alike V15 (by decide)) (by decide) rfl (Nat.le_of_ble_eq_true rfl) (v := (.int (250 : Int32))) rfl at_92 (q := 93) rfl ?_
  intro T16 h16 l16 X16 W16 R16 V16
  have V16 : Arv Z h16 b1 k1 .int (16 : Int32) [(.int (0 : Int32)), (.int (1 : Int32)), (.int (2 : Int32)), (.int (3 : Int32)), (.int (4 : Int32)), (.int (196 : Int32)), (.int (197 : Int32)), (.int (198 : Int32)), (.int (199 : Int32)), (.int (200 : Int32)), (.int (201 : Int32)), (.int (202 : Int32)), (.int (203 : Int32)), (.int (204 : Int32)), (.int (250 : Int32)), (.int (0 : Int32))] (.int (0 : Int32)) := V16
  refine o_dup X16 at_93 rfl (q := 94) rfl ?_
  refine o_bipush X16 at_94 (w := 15) rfl (q := 96) rfl ?_
  refine o_sipush X16 at_96 (w := 400) rfl (q := 99) rfl ?_
  refine o_iastore X16 15 V16 g0_b1 (Safe.arv X16.alike V16 (by decide)) (by decide) rfl (Nat.le_of_ble_eq_true rfl) (v := (.int (400 : Int32))) rfl at_99 (q := 100) rfl ?_
  intro T17 h17 l17 X17 W17 R17 V17
  have V17 : Arv Z h17 b1 k1 .int (16 : Int32) [(.int (0 : Int32)), (.int (1 : Int32)), (.int (2 : Int32)), (.int (3 : Int32)), (.int (4 : Int32)), (.int (196 : Int32)), (.int (197 : Int32)), (.int (198 : Int32)), (.int (199 : Int32)), (.int (200 : Int32)), (.int (201 : Int32)), (.int (202 : Int32)), (.int (203 : Int32)), (.int (204 : Int32)), (.int (250 : Int32)), (.int (400 : Int32))] (.int (0 : Int32)) := V17
  refine o_astore X17 at_100 rfl (L' := #[.val (.int p0), .val (.int p1), .val (.int p2), .val (.int p3), .val (.int p4), .val (.int p5), .val (.ref b1), .unset, .unset, .unset, .unset, .unset, .unset, .unset, .unset]) rfl (q := 102) rfl ?_
  refine o_aload X17 at_102 rfl rfl (q := 104) rfl ?_
  refine o_iloadN X17 at_104 rfl (q := 105) rfl ?_
  refine o_bipush X17 at_105 (w := 15) rfl (q := 107) rfl ?_
  refine o_iand X17 at_107 (w := (p0 &&& (15 : Int32))) rfl (q := 108) rfl ?_
  obtain ⟨n, hn, hz⟩ := own_size p0
  refine o_iaload X17 V17 (own_ix p0) (v := .int (Int32.ofNat n)) hn at_108 (q := 109) rfl ?_
  refine o_istore X17 at_109 rfl (L' := #[.val (.int p0), .val (.int p1), .val (.int p2), .val (.int p3), .val (.int p4), .val (.int p5), .val (.ref b1), .val (.int (Int32.ofNat n)), .unset, .unset, .unset, .unset, .unset, .unset, .unset]) rfl (q := 111) rfl ?_
  refine o_iload X17 at_111 rfl (q := 113) rfl ?_
  refine o_newarr X17 (aty := .char) (cap := 400) n (w1 hw) at_113 (n_neg (by omega)) (own_cl (by omega) (by omega)) (by decide) (by decide) (by decide) (q := 115) rfl ?_
  intro T18 h18 b18 k18 gb18 X18 E18 R18 S18 V18 g0_b18
  refine o_astore X18 at_115 rfl (L' := #[.val (.int p0), .val (.int p1), .val (.int p2), .val (.int p3), .val (.int p4), .val (.int p5), .val (.ref b1), .val (.int (Int32.ofNat n)), .val (.ref b18), .unset, .unset, .unset, .unset, .unset, .unset]) rfl (q := 117) rfl ?_
  refine o_iconst X18 at_117 (w := 0) rfl (q := 118) rfl ?_
  refine o_istore X18 at_118 rfl (L' := #[.val (.int p0), .val (.int p1), .val (.int p2), .val (.int p3), .val (.int p4), .val (.int p5), .val (.ref b1), .val (.int (Int32.ofNat n)), .val (.ref b18), .val (.int (0 : Int32)), .unset, .unset, .unset, .unset, .unset]) rfl (q := 120) rfl ?_
  refine o_iconst X18 at_120 (w := 0) rfl (q := 121) rfl ?_
  refine o_istore X18 at_121 rfl (L' := #[.val (.int p0), .val (.int p1), .val (.int p2), .val (.int p3), .val (.int p4), .val (.int p5), .val (.ref b1), .val (.int (Int32.ofNat n)), .val (.ref b18), .val (.int (0 : Int32)), .val (.int (0 : Int32)), .unset, .unset, .unset, .unset]) rfl (q := 123) rfl ?_
  refine o_iload X18 at_123 rfl (q := 125) rfl ?_
  by_cases hc125 : (0 : Int32) < (Int32.ofNat n)
  · refine o_ifN X18 at_125 (tlt hc125).2.2.2 (q := 128) rfl ?_
    refine o_iloadN X18 at_128 rfl (q := 129) rfl ?_
    refine o_ldcI X18 (w141 hw) at_129 (q := 131) rfl ?_
    refine o_iand X18 at_131 (w := (p1 &&& (2147483647 : Int32))) rfl (q := 132) rfl ?_
    refine o_iload X18 at_132 rfl (q := 134) rfl ?_
    refine o_irem X18 at_134 (own_n0 hc125) (w := ((p1 &&& (2147483647 : Int32)) % (Int32.ofNat n))) rfl (q := 135) rfl ?_
    obtain ⟨ii, h_ii⟩ : ∃ z : Int32, ((p1 &&& (2147483647 : Int32)) % (Int32.ofNat n)) = z := ⟨_, rfl⟩
    refine o_istore X18 at_135 h_ii (L' := #[.val (.int p0), .val (.int p1), .val (.int p2), .val (.int p3), .val (.int p4), .val (.int p5), .val (.ref b1), .val (.int (Int32.ofNat n)), .val (.ref b18), .val (.int ii), .val (.int (0 : Int32)), .unset, .unset, .unset, .unset]) rfl (q := 137) rfl ?_
    obtain ⟨i, hi, rfl⟩ := own_idx h_ii hc125 (by omega)
    refine o_iloadN X18 at_137 rfl (q := 138) rfl ?_
    refine o_ldcI X18 (w141 hw) at_138 (q := 140) rfl ?_
    refine o_iand X18 at_140 (w := (p3 &&& (2147483647 : Int32))) rfl (q := 141) rfl ?_
    refine o_iload X18 at_141 rfl (q := 143) rfl ?_
    refine o_irem X18 at_143 (own_n0 hc125) (w := ((p3 &&& (2147483647 : Int32)) % (Int32.ofNat n))) rfl (q := 144) rfl ?_
    obtain ⟨jj, h_jj⟩ : ∃ z : Int32, ((p3 &&& (2147483647 : Int32)) % (Int32.ofNat n)) = z := ⟨_, rfl⟩
    refine o_istore X18 at_144 h_jj (L' := #[.val (.int p0), .val (.int p1), .val (.int p2), .val (.int p3), .val (.int p4), .val (.int p5), .val (.ref b1), .val (.int (Int32.ofNat n)), .val (.ref b18), .val (.int (Int32.ofNat i)), .val (.int jj), .unset, .unset, .unset, .unset]) rfl (q := 146) rfl ?_
    obtain ⟨j, hj, rfl⟩ := own_idx h_jj hc125 (by omega)
    refine o_aload X18 at_146 rfl rfl (q := 148) rfl ?_
    refine o_iload X18 at_148 rfl (q := 150) rfl ?_
    refine o_iloadN X18 at_150 rfl (q := 151) rfl ?_
    refine o_ldcI X18 (w171 hw) at_151 (q := 153) rfl ?_
    refine o_iand X18 at_153 (w := (p2 &&& (65535 : Int32))) rfl (q := 154) rfl ?_
    refine o_i2c X18 at_154 (w := ((p2 &&& (65535 : Int32)).toUInt32.toUInt16.toUInt32.toInt32)) rfl (q := 155) rfl ?_
    obtain ⟨x1, hx1, rx1⟩ : ∃ z : Int32, nar .char ((p2 &&& (65535 : Int32)).toUInt32.toUInt16.toUInt32.toInt32) = z ∧ Rg z := ⟨_, rfl, own_i2cr _⟩
    refine o_castore X18 i V18 g0_b18 (Safe.arv X18.alike V18 (by decide)) (n_in (by omega) (by omega)) (n_nat (by omega)) (by simp; omega) (v := (.int x1)) (by rw [hx1]) at_155 (q := 156) rfl ?_
    intro T19 h19 l19 X19 W19 R19 V19
    have V19 : Arv Z h19 b18 k18 .char (Int32.ofNat n) (((List.replicate n (0 : Int32)).set i x1).map Value.int) (.int (0 : Int32)) := by rw [← own_set0 n i x1]; exact V19
    refine o_aload X19 at_156 rfl rfl (q := 158) rfl ?_
    refine o_iload X19 at_158 rfl (q := 160) rfl ?_
    refine o_iload X19 at_160 rfl (q := 162) rfl ?_
    refine o_ldcI X19 (w171 hw) at_162 (q := 164) rfl ?_
    refine o_iand X19 at_164 (w := (p4 &&& (65535 : Int32))) rfl (q := 165) rfl ?_
    refine o_i2c X19 at_165 (w := ((p4 &&& (65535 : Int32)).toUInt32.toUInt16.toUInt32.toInt32)) rfl (q := 166) rfl ?_
    obtain ⟨x2, hx2, rx2⟩ : ∃ z : Int32, nar .char ((p4 &&& (65535 : Int32)).toUInt32.toUInt16.toUInt32.toInt32) = z ∧ Rg z := ⟨_, rfl, own_i2cr _⟩
    refine o_castore X19 j V19 g0_b18 (Safe.arv X19.alike V19 (by decide)) (n_in (by omega) (by omega)) (n_nat (by omega)) (by simp; omega) (v := (.int x2)) (by rw [hx2]) at_166 (q := 167) rfl ?_
    intro T20 h20 l20 X20 W20 R20 V20
    have V20 : Arv Z h20 b18 k18 .char (Int32.ofNat n) ((((List.replicate n (0 : Int32)).set i x1).set j x2).map Value.int) (.int (0 : Int32)) := by rw [← own_set1 ((List.replicate n (0 : Int32)).set i x1) j x2]; exact V20
    refine o_new X20 (w2 hw) (w3 hw) (w4 hw) at_167 (by decide) (by decide) (q := 170) rfl ?_
    intro T21 h21 b21 gb21 X21 E21 R21 S21 A21 D21 g0_b21
    have f22 : Fld Z h21 b21 "java/lang/String" "value" "[B" .null := D21 (Or.inr (w17 hw)) (ty := (.array .byte)) (by decide)
    have f23 : Fld Z h21 b21 "java/lang/String" "coder" "B" (.int (0 : Int32)) := D21 (Or.inr (w18 hw)) (ty := .byte) (by decide)
    refine o_dup X21 at_170 rfl (q := 171) rfl ?_
    refine o_aload X21 at_171 rfl rfl (q := 173) rfl ?_
    have hcl : List.length (((List.replicate n (0 : Int32)).set i x1).set j x2) = n := by simp
    have hcr : ∀ c ∈ (((List.replicate n (0 : Int32)).set i x1).set j x2), Rg c := own_setR (own_setR (own_rep n) rx1) rx2
    have f24 := (V20.ext E21)
    refine o_spec X21 [(.ref b18)] (y' := (⟨"java/lang/String", "<init>", "([C)V"⟩ : MethodName)) (c_newS hw b21 b18 (((List.replicate n (0 : Int32)).set i x1).set j x2) _ O2 P5 SA SH SL A21 g0_b21 f22 f23 (by rw [hcl]; exact f24) (Nat.ne_of_lt (Nat.lt_of_lt_of_le V20.lt (Nat.le_of_eq gb21.symm))) (by omega) hcr) (allS ⟨A21.lt, S21⟩ all0) rfl (w5 hw) (w6 hw) (w7 hw) (w4 hw) (by decide) at_173 (rest := [(.ref b21)]) rfl rfl (lenOf pd40 rfl) rfl (by decide) (Nat.le_of_ble_eq_true rfl) (by decide) (by decide) (q := 176) rfl ?_
    intro v25 vm25 T25 h25 l25 X25 R25 q25
    obtain ⟨rfl, K25, b25, kb25, U25⟩ := q25
    show Goes p e below _ T25 (mkF m 176 #[.val (.int p0), .val (.int p1), .val (.int p2), .val (.int p3), .val (.int p4), .val (.int p5), .val (.ref b1), .val (.int (Int32.ofNat n)), .val (.ref b18), .val (.int (Int32.ofNat i)), .val (.int (Int32.ofNat j)), .unset, .unset, .unset, .unset] [(.ref b21)])
    refine o_astore X25 at_176 rfl (L' := #[.val (.int p0), .val (.int p1), .val (.int p2), .val (.int p3), .val (.int p4), .val (.int p5), .val (.ref b1), .val (.int (Int32.ofNat n)), .val (.ref b18), .val (.int (Int32.ofNat i)), .val (.int (Int32.ofNat j)), .val (.ref b21), .unset, .unset, .unset]) rfl (q := 178) rfl ?_
    refine o_aload X25 at_178 rfl rfl (q := 180) rfl ?_
    refine o_stat X25 [(.ref b21)] (y' := (⟨"com/example/unibrace/unibrace/ErrorText", "quote", "(Ljava/lang/String;)Ljava/lang/String;"⟩ : MethodName)) (c_quote hw b21 b25 kb25 (((List.replicate n (0 : Int32)).set i x1).set j x2) _ O2 P5 O4 rfm SA SH SL U25 (by omega) (by omega)) all0 (w23 hw) (w24 hw) (w25 hw) (w26 hw) (by decide) at_180 (rest := []) rfl rfl (lenOf pd41 rfl) rfl (by decide) (Nat.le_of_ble_eq_true rfl) (by decide) (by decide) (q := 183) rfl ?_
    intro v26 vm26 T26 h26 l26 X26 R26 q26
    obtain ⟨r26, b26, kb26, rfl, K26, U26⟩ := q26
    show Goes p e below _ T26 (mkF m 183 #[.val (.int p0), .val (.int p1), .val (.int p2), .val (.int p3), .val (.int p4), .val (.int p5), .val (.ref b1), .val (.int (Int32.ofNat n)), .val (.ref b18), .val (.int (Int32.ofNat i)), .val (.int (Int32.ofNat j)), .val (.ref b21), .unset, .unset, .unset] [(.ref r26)])
    refine o_astore X26 at_183 rfl (L' := #[.val (.int p0), .val (.int p1), .val (.int p2), .val (.int p3), .val (.int p4), .val (.int p5), .val (.ref b1), .val (.int (Int32.ofNat n)), .val (.ref b18), .val (.int (Int32.ofNat i)), .val (.int (Int32.ofNat j)), .val (.ref b21), .val (.ref r26), .unset, .unset]) rfl (q := 185) rfl ?_
    refine o_iload X26 at_185 rfl (q := 187) rfl ?_
    refine o_sipush X26 at_187 (w := 200) rfl (q := 190) rfl ?_
    by_cases hc190 : (200 : Int32) < (Int32.ofNat n)
    · refine o_icmpY X26 at_190 (tlt hc190).2.2.1 (by decide) (q := 200) (by decide) ?_
      refine o_sipush X26 at_200 (w := 202) rfl (q := 203) rfl ?_
      refine o_istore X26 at_203 rfl (L' := #[.val (.int p0), .val (.int p1), .val (.int p2), .val (.int p3), .val (.int p4), .val (.int p5), .val (.ref b1), .val (.int (Int32.ofNat n)), .val (.ref b18), .val (.int (Int32.ofNat i)), .val (.int (Int32.ofNat j)), .val (.ref b21), .val (.ref r26), .val (.int (202 : Int32)), .unset]) rfl (q := 205) rfl ?_
      refine o_aload X26 at_205 rfl rfl (q := 207) rfl ?_
      refine o_strlenU X26 U26 O2 P5 (hwln hw) (w3 hw) (w140 hw) (w28 hw) (w30 hw) (w29 hw) at_207 rfl (by decide) (Nat.le_of_ble_eq_true rfl) (by decide) (by decide) (q := 210) rfl ?_
      intro T27 l27 X27
      refine o_iload X27 at_210 rfl (q := 212) rfl ?_
      refine o_icmpY X27 at_212 (teq (congrArg Int32.ofNat ((own_qlB (by have hq : 200 < n := (n_lt (a := 200) (b := n) (by omega) (by omega)).mp hc190; omega))))).1 (by decide) (q := 217) (by decide) ?_
      refine o_iload X27 at_217 rfl (q := 219) rfl ?_
      refine o_ldcI X27 (w141 hw) at_219 (q := 221) rfl ?_
      refine o_iand X27 at_221 (w := (p5 &&& (2147483647 : Int32))) rfl (q := 222) rfl ?_
      refine o_iload X27 at_222 rfl (q := 224) rfl ?_
      refine o_irem X27 at_224 (by decide) (w := ((p5 &&& (2147483647 : Int32)) % (202 : Int32))) rfl (q := 225) rfl ?_
      refine o_istore X27 at_225 rfl (L' := #[.val (.int p0), .val (.int p1), .val (.int p2), .val (.int p3), .val (.int p4), .val (.int p5), .val (.ref b1), .val (.int (Int32.ofNat n)), .val (.ref b18), .val (.int (Int32.ofNat i)), .val (.int (Int32.ofNat j)), .val (.ref b21), .val (.ref r26), .val (.int (202 : Int32)), .val (.int ((p5 &&& (2147483647 : Int32)) % (202 : Int32)))]) rfl (q := 227) rfl ?_
      refine o_aload X27 at_227 rfl rfl (q := 229) rfl ?_
      refine o_aload X27 at_229 rfl rfl (q := 231) rfl ?_
      refine o_iload X27 at_231 rfl (q := 233) rfl ?_
      have f28 := (U25.keep K26 nin0 nin0)
      refine o_stat X27 [(.ref r26), (.ref b21), (.int ((p5 &&& (2147483647 : Int32)) % (202 : Int32)))] (y' := (⟨"com/example/unibrace/unibrace/ErrorTextQuotePinLaw", "check", "(Ljava/lang/String;Ljava/lang/String;I)Z"⟩ : MethodName)) (c_check hw r26 b26 kb26 b21 b25 kb25 (((List.replicate n (0 : Int32)).set i x1).set j x2) ((p5 &&& (2147483647 : Int32)) % (202 : Int32)) _ O2 P5 O4 rfm SA SH SL U26 f28 (by omega)) all0 (w142 hw) (w143 hw) (w144 hw) (w145 hw) (by decide) at_233 (rest := []) rfl rfl (lenOf pd42 rfl) rfl (by decide) (Nat.le_of_ble_eq_true rfl) (by decide) (by decide) (q := 236) rfl ?_
      intro v29 vm29 T29 h29 l29 X29 R29 q29
      obtain ⟨rfl, e29⟩ := q29
      have e29 := e29.symm
      subst e29
      show Goes p e below _ T29 (mkF m 236 #[.val (.int p0), .val (.int p1), .val (.int p2), .val (.int p3), .val (.int p4), .val (.int p5), .val (.ref b1), .val (.int (Int32.ofNat n)), .val (.ref b18), .val (.int (Int32.ofNat i)), .val (.int (Int32.ofNat j)), .val (.ref b21), .val (.ref r26), .val (.int (202 : Int32)), .val (.int ((p5 &&& (2147483647 : Int32)) % (202 : Int32)))] [(.int (1 : Int32))])
      refine o_ifN X29 at_236 (by decide) (q := 239) rfl ?_
      refine o_aload X29 at_239 rfl rfl (q := 241) rfl ?_
      refine o_aload X29 at_241 rfl rfl (q := 243) rfl ?_
      refine o_iload X29 at_243 rfl (q := 245) rfl ?_
      refine o_iconst X29 at_245 (w := 1) rfl (q := 246) rfl ?_
      refine o_iadd X29 at_246 (w := (Int32.ofNat (i + 1))) (n_add _ _) (q := 247) rfl ?_
      have f30 := U26
      have f31 := f28
      refine o_stat X29 [(.ref r26), (.ref b21), (.int (Int32.ofNat (i + 1)))] (y' := (⟨"com/example/unibrace/unibrace/ErrorTextQuotePinLaw", "check", "(Ljava/lang/String;Ljava/lang/String;I)Z"⟩ : MethodName)) (c_check hw r26 b26 kb26 b21 b25 kb25 (((List.replicate n (0 : Int32)).set i x1).set j x2) (Int32.ofNat (i + 1)) _ O2 P5 O4 rfm SA SH SL f30 f31 (by omega)) all0 (w142 hw) (w143 hw) (w144 hw) (w145 hw) (by decide) at_247 (rest := []) rfl rfl (lenOf pd42 rfl) rfl (by decide) (Nat.le_of_ble_eq_true rfl) (by decide) (by decide) (q := 250) rfl ?_
      intro v32 vm32 T32 h32 l32 X32 R32 q32
      obtain ⟨rfl, e32⟩ := q32
      have e32 := e32.symm
      subst e32
      show Goes p e below _ T32 (mkF m 250 #[.val (.int p0), .val (.int p1), .val (.int p2), .val (.int p3), .val (.int p4), .val (.int p5), .val (.ref b1), .val (.int (Int32.ofNat n)), .val (.ref b18), .val (.int (Int32.ofNat i)), .val (.int (Int32.ofNat j)), .val (.ref b21), .val (.ref r26), .val (.int (202 : Int32)), .val (.int ((p5 &&& (2147483647 : Int32)) % (202 : Int32)))] [(.int (1 : Int32))])
      refine o_ifN X32 at_250 (by decide) (q := 253) rfl ?_
      refine o_aload X32 at_253 rfl rfl (q := 255) rfl ?_
      refine o_aload X32 at_255 rfl rfl (q := 257) rfl ?_
      refine o_iload X32 at_257 rfl (q := 259) rfl ?_
      refine o_iconst X32 at_259 (w := 1) rfl (q := 260) rfl ?_
      refine o_iadd X32 at_260 (w := (Int32.ofNat (j + 1))) (n_add _ _) (q := 261) rfl ?_
      have f33 := f30
      have f34 := f31
      refine o_stat X32 [(.ref r26), (.ref b21), (.int (Int32.ofNat (j + 1)))] (y' := (⟨"com/example/unibrace/unibrace/ErrorTextQuotePinLaw", "check", "(Ljava/lang/String;Ljava/lang/String;I)Z"⟩ : MethodName)) (c_check hw r26 b26 kb26 b21 b25 kb25 (((List.replicate n (0 : Int32)).set i x1).set j x2) (Int32.ofNat (j + 1)) _ O2 P5 O4 rfm SA SH SL f33 f34 (by omega)) all0 (w142 hw) (w143 hw) (w144 hw) (w145 hw) (by decide) at_261 (rest := []) rfl rfl (lenOf pd42 rfl) rfl (by decide) (Nat.le_of_ble_eq_true rfl) (by decide) (by decide) (q := 264) rfl ?_
      intro v35 vm35 T35 h35 l35 X35 R35 q35
      obtain ⟨rfl, e35⟩ := q35
      have e35 := e35.symm
      subst e35
      show Goes p e below _ T35 (mkF m 264 #[.val (.int p0), .val (.int p1), .val (.int p2), .val (.int p3), .val (.int p4), .val (.int p5), .val (.ref b1), .val (.int (Int32.ofNat n)), .val (.ref b18), .val (.int (Int32.ofNat i)), .val (.int (Int32.ofNat j)), .val (.ref b21), .val (.ref r26), .val (.int (202 : Int32)), .val (.int ((p5 &&& (2147483647 : Int32)) % (202 : Int32)))] [(.int (1 : Int32))])
      refine o_ifN X35 at_264 (by decide) (q := 267) rfl ?_
      refine o_aload X35 at_267 rfl rfl (q := 269) rfl ?_
      refine o_aload X35 at_269 rfl rfl (q := 271) rfl ?_
      refine o_sipush X35 at_271 (w := 197) rfl (q := 274) rfl ?_
      have f36 := f33
      have f37 := f34
      refine o_stat X35 [(.ref r26), (.ref b21), (.int (197 : Int32))] (y' := (⟨"com/example/unibrace/unibrace/ErrorTextQuotePinLaw", "check", "(Ljava/lang/String;Ljava/lang/String;I)Z"⟩ : MethodName)) (c_check hw r26 b26 kb26 b21 b25 kb25 (((List.replicate n (0 : Int32)).set i x1).set j x2) (197 : Int32) _ O2 P5 O4 rfm SA SH SL f36 f37 (by omega)) all0 (w142 hw) (w143 hw) (w144 hw) (w145 hw) (by decide) at_274 (rest := []) rfl rfl (lenOf pd42 rfl) rfl (by decide) (Nat.le_of_ble_eq_true rfl) (by decide) (by decide) (q := 277) rfl ?_
      intro v38 vm38 T38 h38 l38 X38 R38 q38
      obtain ⟨rfl, e38⟩ := q38
      have e38 := e38.symm
      subst e38
      show Goes p e below _ T38 (mkF m 277 #[.val (.int p0), .val (.int p1), .val (.int p2), .val (.int p3), .val (.int p4), .val (.int p5), .val (.ref b1), .val (.int (Int32.ofNat n)), .val (.ref b18), .val (.int (Int32.ofNat i)), .val (.int (Int32.ofNat j)), .val (.ref b21), .val (.ref r26), .val (.int (202 : Int32)), .val (.int ((p5 &&& (2147483647 : Int32)) % (202 : Int32)))] [(.int (1 : Int32))])
      refine o_ifN X38 at_277 (by decide) (q := 280) rfl ?_
      refine o_aload X38 at_280 rfl rfl (q := 282) rfl ?_
      refine o_aload X38 at_282 rfl rfl (q := 284) rfl ?_
      refine o_sipush X38 at_284 (w := 198) rfl (q := 287) rfl ?_
      have f39 := f36
      have f40 := f37
      refine o_stat X38 [(.ref r26), (.ref b21), (.int (198 : Int32))] (y' := (⟨"com/example/unibrace/unibrace/ErrorTextQuotePinLaw", "check", "(Ljava/lang/String;Ljava/lang/String;I)Z"⟩ : MethodName)) (c_check hw r26 b26 kb26 b21 b25 kb25 (((List.replicate n (0 : Int32)).set i x1).set j x2) (198 : Int32) _ O2 P5 O4 rfm SA SH SL f39 f40 (by omega)) all0 (w142 hw) (w143 hw) (w144 hw) (w145 hw) (by decide) at_287 (rest := []) rfl rfl (lenOf pd42 rfl) rfl (by decide) (Nat.le_of_ble_eq_true rfl) (by decide) (by decide) (q := 290) rfl ?_
      intro v41 vm41 T41 h41 l41 X41 R41 q41
      obtain ⟨rfl, e41⟩ := q41
      have e41 := e41.symm
      subst e41
      show Goes p e below _ T41 (mkF m 290 #[.val (.int p0), .val (.int p1), .val (.int p2), .val (.int p3), .val (.int p4), .val (.int p5), .val (.ref b1), .val (.int (Int32.ofNat n)), .val (.ref b18), .val (.int (Int32.ofNat i)), .val (.int (Int32.ofNat j)), .val (.ref b21), .val (.ref r26), .val (.int (202 : Int32)), .val (.int ((p5 &&& (2147483647 : Int32)) % (202 : Int32)))] [(.int (1 : Int32))])
      refine o_ifN X41 at_290 (by decide) (q := 293) rfl ?_
      refine o_aload X41 at_293 rfl rfl (q := 295) rfl ?_
      refine o_aload X41 at_295 rfl rfl (q := 297) rfl ?_
      refine o_iload X41 at_297 rfl (q := 299) rfl ?_
      refine o_iconst X41 at_299 (w := 1) rfl (q := 300) rfl ?_
      refine o_isub X41 at_300 (w := (201 : Int32)) (by decide) (q := 301) rfl ?_
      have f42 := f39
      have f43 := f40
      refine o_stat X41 [(.ref r26), (.ref b21), (.int (201 : Int32))] (y' := (⟨"com/example/unibrace/unibrace/ErrorTextQuotePinLaw", "check", "(Ljava/lang/String;Ljava/lang/String;I)Z"⟩ : MethodName)) (c_check hw r26 b26 kb26 b21 b25 kb25 (((List.replicate n (0 : Int32)).set i x1).set j x2) (201 : Int32) _ O2 P5 O4 rfm SA SH SL f42 f43 (by omega)) all0 (w142 hw) (w143 hw) (w144 hw) (w145 hw) (by decide) at_301 (rest := []) rfl rfl (lenOf pd42 rfl) rfl (by decide) (Nat.le_of_ble_eq_true rfl) (by decide) (by decide) (q := 304) rfl ?_
      intro v44 vm44 T44 h44 l44 X44 R44 q44
      obtain ⟨rfl, e44⟩ := q44
      have e44 := e44.symm
      subst e44
      show Goes p e below _ T44 (mkF m 304 #[.val (.int p0), .val (.int p1), .val (.int p2), .val (.int p3), .val (.int p4), .val (.int p5), .val (.ref b1), .val (.int (Int32.ofNat n)), .val (.ref b18), .val (.int (Int32.ofNat i)), .val (.int (Int32.ofNat j)), .val (.ref b21), .val (.ref r26), .val (.int (202 : Int32)), .val (.int ((p5 &&& (2147483647 : Int32)) % (202 : Int32)))] [(.int (1 : Int32))])
      refine o_ifN X44 at_304 (by decide) (q := 307) rfl ?_
      refine o_aload X44 at_307 rfl rfl (q := 309) rfl ?_
      refine o_aload X44 at_309 rfl rfl (q := 311) rfl ?_
      refine o_iconst X44 at_311 (w := 0) rfl (q := 312) rfl ?_
      have f45 := f42
      have f46 := f43
      refine o_stat X44 [(.ref r26), (.ref b21), (.int (0 : Int32))] (y' := (⟨"com/example/unibrace/unibrace/ErrorTextQuotePinLaw", "check", "(Ljava/lang/String;Ljava/lang/String;I)Z"⟩ : MethodName)) (c_check hw r26 b26 kb26 b21 b25 kb25 (((List.replicate n (0 : Int32)).set i x1).set j x2) (0 : Int32) _ O2 P5 O4 rfm SA SH SL f45 f46 (by omega)) all0 (w142 hw) (w143 hw) (w144 hw) (w145 hw) (by decide) at_312 (rest := []) rfl rfl (lenOf pd42 rfl) rfl (by decide) (Nat.le_of_ble_eq_true rfl) (by decide) (by decide) (q := 315) rfl ?_
      intro v47 vm47 T47 h47 l47 X47 R47 q47
      obtain ⟨rfl, e47⟩ := q47
      have e47 := e47.symm
      subst e47
      show Goes p e below _ T47 (mkF m 315 #[.val (.int p0), .val (.int p1), .val (.int p2), .val (.int p3), .val (.int p4), .val (.int p5), .val (.ref b1), .val (.int (Int32.ofNat n)), .val (.ref b18), .val (.int (Int32.ofNat i)), .val (.int (Int32.ofNat j)), .val (.ref b21), .val (.ref r26), .val (.int (202 : Int32)), .val (.int ((p5 &&& (2147483647 : Int32)) % (202 : Int32)))] [(.int (1 : Int32))])
      refine o_ifN X47 at_315 (by decide) (q := 318) rfl ?_
      refine o_iconst X47 at_318 (w := 1) rfl (q := 319) rfl ?_
      refine o_goto X47 at_319 (by decide) (q := 323) (by decide) ?_
      exact o_retN X47 at_323 (by simp) (fun Sf hSf => rfl) (by decide) (by decide)
    · refine o_icmpN X26 at_190 (flt hc190).2.2.1 (q := 193) rfl ?_
      refine o_iload X26 at_193 rfl (q := 195) rfl ?_
      refine o_iconst X26 at_195 (w := 2) rfl (q := 196) rfl ?_
      refine o_iadd X26 at_196 (w := (Int32.ofNat (n + 2))) (n_add _ _) (q := 197) rfl ?_
      refine o_goto X26 at_197 (by decide) (q := 203) (by decide) ?_
      refine o_istore X26 at_203 rfl (L' := #[.val (.int p0), .val (.int p1), .val (.int p2), .val (.int p3), .val (.int p4), .val (.int p5), .val (.ref b1), .val (.int (Int32.ofNat n)), .val (.ref b18), .val (.int (Int32.ofNat i)), .val (.int (Int32.ofNat j)), .val (.ref b21), .val (.ref r26), .val (.int (Int32.ofNat (n + 2))), .unset]) rfl (q := 205) rfl ?_
      refine o_aload X26 at_205 rfl rfl (q := 207) rfl ?_
      refine o_strlenU X26 U26 O2 P5 (hwln hw) (w3 hw) (w140 hw) (w28 hw) (w30 hw) (w29 hw) at_207 rfl (by decide) (Nat.le_of_ble_eq_true rfl) (by decide) (by decide) (q := 210) rfl ?_
      intro T48 l48 X48
      refine o_iload X48 at_210 rfl (q := 212) rfl ?_
      refine o_icmpY X48 at_212 (teq (congrArg Int32.ofNat ((own_qlS (by have hq : ¬ 200 < n := fun q => hc190 ((n_lt (a := 200) (b := n) (by omega) (by omega)).mpr q); omega)).trans (by omega)))).1 (by decide) (q := 217) (by decide) ?_
      refine o_iload X48 at_217 rfl (q := 219) rfl ?_
      refine o_ldcI X48 (w141 hw) at_219 (q := 221) rfl ?_
      refine o_iand X48 at_221 (w := (p5 &&& (2147483647 : Int32))) rfl (q := 222) rfl ?_
      refine o_iload X48 at_222 rfl (q := 224) rfl ?_
      refine o_irem X48 at_224 (own_nzq (by omega) (by omega)) (w := ((p5 &&& (2147483647 : Int32)) % (Int32.ofNat (n + 2)))) rfl (q := 225) rfl ?_
      refine o_istore X48 at_225 rfl (L' := #[.val (.int p0), .val (.int p1), .val (.int p2), .val (.int p3), .val (.int p4), .val (.int p5), .val (.ref b1), .val (.int (Int32.ofNat n)), .val (.ref b18), .val (.int (Int32.ofNat i)), .val (.int (Int32.ofNat j)), .val (.ref b21), .val (.ref r26), .val (.int (Int32.ofNat (n + 2))), .val (.int ((p5 &&& (2147483647 : Int32)) % (Int32.ofNat (n + 2))))]) rfl (q := 227) rfl ?_
      refine o_aload X48 at_227 rfl rfl (q := 229) rfl ?_
      refine o_aload X48 at_229 rfl rfl (q := 231) rfl ?_
      refine o_iload X48 at_231 rfl (q := 233) rfl ?_
      have f49 := (U25.keep K26 nin0 nin0)
      refine o_stat X48 [(.ref r26), (.ref b21), (.int ((p5 &&& (2147483647 : Int32)) % (Int32.ofNat (n + 2))))] (y' := (⟨"com/example/unibrace/unibrace/ErrorTextQuotePinLaw", "check", "(Ljava/lang/String;Ljava/lang/String;I)Z"⟩ : MethodName)) (c_check hw r26 b26 kb26 b21 b25 kb25 (((List.replicate n (0 : Int32)).set i x1).set j x2) ((p5 &&& (2147483647 : Int32)) % (Int32.ofNat (n + 2))) _ O2 P5 O4 rfm SA SH SL U26 f49 (by omega)) all0 (w142 hw) (w143 hw) (w144 hw) (w145 hw) (by decide) at_233 (rest := []) rfl rfl (lenOf pd42 rfl) rfl (by decide) (Nat.le_of_ble_eq_true rfl) (by decide) (by decide) (q := 236) rfl ?_
      intro v50 vm50 T50 h50 l50 X50 R50 q50
      obtain ⟨rfl, e50⟩ := q50
      have e50 := e50.symm
      subst e50
      show Goes p e below _ T50 (mkF m 236 #[.val (.int p0), .val (.int p1), .val (.int p2), .val (.int p3), .val (.int p4), .val (.int p5), .val (.ref b1), .val (.int (Int32.ofNat n)), .val (.ref b18), .val (.int (Int32.ofNat i)), .val (.int (Int32.ofNat j)), .val (.ref b21), .val (.ref r26), .val (.int (Int32.ofNat (n + 2))), .val (.int ((p5 &&& (2147483647 : Int32)) % (Int32.ofNat (n + 2))))] [(.int (1 : Int32))])
      refine o_ifN X50 at_236 (by decide) (q := 239) rfl ?_
      refine o_aload X50 at_239 rfl rfl (q := 241) rfl ?_
      refine o_aload X50 at_241 rfl rfl (q := 243) rfl ?_
      refine o_iload X50 at_243 rfl (q := 245) rfl ?_
      refine o_iconst X50 at_245 (w := 1) rfl (q := 246) rfl ?_
      refine o_iadd X50 at_246 (w := (Int32.ofNat (i + 1))) (n_add _ _) (q := 247) rfl ?_
      have f51 := U26
      have f52 := f49
      refine o_stat X50 [(.ref r26), (.ref b21), (.int (Int32.ofNat (i + 1)))] (y' := (⟨"com/example/unibrace/unibrace/ErrorTextQuotePinLaw", "check", "(Ljava/lang/String;Ljava/lang/String;I)Z"⟩ : MethodName)) (c_check hw r26 b26 kb26 b21 b25 kb25 (((List.replicate n (0 : Int32)).set i x1).set j x2) (Int32.ofNat (i + 1)) _ O2 P5 O4 rfm SA SH SL f51 f52 (by omega)) all0 (w142 hw) (w143 hw) (w144 hw) (w145 hw) (by decide) at_247 (rest := []) rfl rfl (lenOf pd42 rfl) rfl (by decide) (Nat.le_of_ble_eq_true rfl) (by decide) (by decide) (q := 250) rfl ?_
      intro v53 vm53 T53 h53 l53 X53 R53 q53
      obtain ⟨rfl, e53⟩ := q53
      have e53 := e53.symm
      subst e53
      show Goes p e below _ T53 (mkF m 250 #[.val (.int p0), .val (.int p1), .val (.int p2), .val (.int p3), .val (.int p4), .val (.int p5), .val (.ref b1), .val (.int (Int32.ofNat n)), .val (.ref b18), .val (.int (Int32.ofNat i)), .val (.int (Int32.ofNat j)), .val (.ref b21), .val (.ref r26), .val (.int (Int32.ofNat (n + 2))), .val (.int ((p5 &&& (2147483647 : Int32)) % (Int32.ofNat (n + 2))))] [(.int (1 : Int32))])
      refine o_ifN X53 at_250 (by decide) (q := 253) rfl ?_
      refine o_aload X53 at_253 rfl rfl (q := 255) rfl ?_
      refine o_aload X53 at_255 rfl rfl (q := 257) rfl ?_
      refine o_iload X53 at_257 rfl (q := 259) rfl ?_
      refine o_iconst X53 at_259 (w := 1) rfl (q := 260) rfl ?_
      refine o_iadd X53 at_260 (w := (Int32.ofNat (j + 1))) (n_add _ _) (q := 261) rfl ?_
      have f54 := f51
      have f55 := f52
      refine o_stat X53 [(.ref r26), (.ref b21), (.int (Int32.ofNat (j + 1)))] (y' := (⟨"com/example/unibrace/unibrace/ErrorTextQuotePinLaw", "check", "(Ljava/lang/String;Ljava/lang/String;I)Z"⟩ : MethodName)) (c_check hw r26 b26 kb26 b21 b25 kb25 (((List.replicate n (0 : Int32)).set i x1).set j x2) (Int32.ofNat (j + 1)) _ O2 P5 O4 rfm SA SH SL f54 f55 (by omega)) all0 (w142 hw) (w143 hw) (w144 hw) (w145 hw) (by decide) at_261 (rest := []) rfl rfl (lenOf pd42 rfl) rfl (by decide) (Nat.le_of_ble_eq_true rfl) (by decide) (by decide) (q := 264) rfl ?_
      intro v56 vm56 T56 h56 l56 X56 R56 q56
      obtain ⟨rfl, e56⟩ := q56
      have e56 := e56.symm
      subst e56
      show Goes p e below _ T56 (mkF m 264 #[.val (.int p0), .val (.int p1), .val (.int p2), .val (.int p3), .val (.int p4), .val (.int p5), .val (.ref b1), .val (.int (Int32.ofNat n)), .val (.ref b18), .val (.int (Int32.ofNat i)), .val (.int (Int32.ofNat j)), .val (.ref b21), .val (.ref r26), .val (.int (Int32.ofNat (n + 2))), .val (.int ((p5 &&& (2147483647 : Int32)) % (Int32.ofNat (n + 2))))] [(.int (1 : Int32))])
      refine o_ifN X56 at_264 (by decide) (q := 267) rfl ?_
      refine o_aload X56 at_267 rfl rfl (q := 269) rfl ?_
      refine o_aload X56 at_269 rfl rfl (q := 271) rfl ?_
      refine o_sipush X56 at_271 (w := 197) rfl (q := 274) rfl ?_
      have f57 := f54
      have f58 := f55
      refine o_stat X56 [(.ref r26), (.ref b21), (.int (197 : Int32))] (y' := (⟨"com/example/unibrace/unibrace/ErrorTextQuotePinLaw", "check", "(Ljava/lang/String;Ljava/lang/String;I)Z"⟩ : MethodName)) (c_check hw r26 b26 kb26 b21 b25 kb25 (((List.replicate n (0 : Int32)).set i x1).set j x2) (197 : Int32) _ O2 P5 O4 rfm SA SH SL f57 f58 (by omega)) all0 (w142 hw) (w143 hw) (w144 hw) (w145 hw) (by decide) at_274 (rest := []) rfl rfl (lenOf pd42 rfl) rfl (by decide) (Nat.le_of_ble_eq_true rfl) (by decide) (by decide) (q := 277) rfl ?_
      intro v59 vm59 T59 h59 l59 X59 R59 q59
      obtain ⟨rfl, e59⟩ := q59
      have e59 := e59.symm
      subst e59
      show Goes p e below _ T59 (mkF m 277 #[.val (.int p0), .val (.int p1), .val (.int p2), .val (.int p3), .val (.int p4), .val (.int p5), .val (.ref b1), .val (.int (Int32.ofNat n)), .val (.ref b18), .val (.int (Int32.ofNat i)), .val (.int (Int32.ofNat j)), .val (.ref b21), .val (.ref r26), .val (.int (Int32.ofNat (n + 2))), .val (.int ((p5 &&& (2147483647 : Int32)) % (Int32.ofNat (n + 2))))] [(.int (1 : Int32))])
      refine o_ifN X59 at_277 (by decide) (q := 280) rfl ?_
      refine o_aload X59 at_280 rfl rfl (q := 282) rfl ?_
      refine o_aload X59 at_282 rfl rfl (q := 284) rfl ?_
      refine o_sipush X59 at_284 (w := 198) rfl (q := 287) rfl ?_
      have f60 := f57
      have f61 := f58
      refine o_stat X59 [(.ref r26), (.ref b21), (.int (198 : Int32))] (y' := (⟨"com/example/unibrace/unibrace/ErrorTextQuotePinLaw", "check", "(Ljava/lang/String;Ljava/lang/String;I)Z"⟩ : MethodName)) (c_check hw r26 b26 kb26 b21 b25 kb25 (((List.replicate n (0 : Int32)).set i x1).set j x2) (198 : Int32) _ O2 P5 O4 rfm SA SH SL f60 f61 (by omega)) all0 (w142 hw) (w143 hw) (w144 hw) (w145 hw) (by decide) at_287 (rest := []) rfl rfl (lenOf pd42 rfl) rfl (by decide) (Nat.le_of_ble_eq_true rfl) (by decide) (by decide) (q := 290) rfl ?_
      intro v62 vm62 T62 h62 l62 X62 R62 q62
      obtain ⟨rfl, e62⟩ := q62
      have e62 := e62.symm
      subst e62
      show Goes p e below _ T62 (mkF m 290 #[.val (.int p0), .val (.int p1), .val (.int p2), .val (.int p3), .val (.int p4), .val (.int p5), .val (.ref b1), .val (.int (Int32.ofNat n)), .val (.ref b18), .val (.int (Int32.ofNat i)), .val (.int (Int32.ofNat j)), .val (.ref b21), .val (.ref r26), .val (.int (Int32.ofNat (n + 2))), .val (.int ((p5 &&& (2147483647 : Int32)) % (Int32.ofNat (n + 2))))] [(.int (1 : Int32))])
      refine o_ifN X62 at_290 (by decide) (q := 293) rfl ?_
      refine o_aload X62 at_293 rfl rfl (q := 295) rfl ?_
      refine o_aload X62 at_295 rfl rfl (q := 297) rfl ?_
      refine o_iload X62 at_297 rfl (q := 299) rfl ?_
      refine o_iconst X62 at_299 (w := 1) rfl (q := 300) rfl ?_
      refine o_isub X62 at_300 (w := ((Int32.ofNat (n + 2)) - (1 : Int32))) rfl (q := 301) rfl ?_
      have f63 := f60
      have f64 := f61
      refine o_stat X62 [(.ref r26), (.ref b21), (.int ((Int32.ofNat (n + 2)) - (1 : Int32)))] (y' := (⟨"com/example/unibrace/unibrace/ErrorTextQuotePinLaw", "check", "(Ljava/lang/String;Ljava/lang/String;I)Z"⟩ : MethodName)) (c_check hw r26 b26 kb26 b21 b25 kb25 (((List.replicate n (0 : Int32)).set i x1).set j x2) ((Int32.ofNat (n + 2)) - (1 : Int32)) _ O2 P5 O4 rfm SA SH SL f63 f64 (by omega)) all0 (w142 hw) (w143 hw) (w144 hw) (w145 hw) (by decide) at_301 (rest := []) rfl rfl (lenOf pd42 rfl) rfl (by decide) (Nat.le_of_ble_eq_true rfl) (by decide) (by decide) (q := 304) rfl ?_
      intro v65 vm65 T65 h65 l65 X65 R65 q65
      obtain ⟨rfl, e65⟩ := q65
      have e65 := e65.symm
      subst e65
      show Goes p e below _ T65 (mkF m 304 #[.val (.int p0), .val (.int p1), .val (.int p2), .val (.int p3), .val (.int p4), .val (.int p5), .val (.ref b1), .val (.int (Int32.ofNat n)), .val (.ref b18), .val (.int (Int32.ofNat i)), .val (.int (Int32.ofNat j)), .val (.ref b21), .val (.ref r26), .val (.int (Int32.ofNat (n + 2))), .val (.int ((p5 &&& (2147483647 : Int32)) % (Int32.ofNat (n + 2))))] [(.int (1 : Int32))])
      refine o_ifN X65 at_304 (by decide) (q := 307) rfl ?_
      refine o_aload X65 at_307 rfl rfl (q := 309) rfl ?_
      refine o_aload X65 at_309 rfl rfl (q := 311) rfl ?_
      refine o_iconst X65 at_311 (w := 0) rfl (q := 312) rfl ?_
      have f66 := f63
      have f67 := f64
      refine o_stat X65 [(.ref r26), (.ref b21), (.int (0 : Int32))] (y' := (⟨"com/example/unibrace/unibrace/ErrorTextQuotePinLaw", "check", "(Ljava/lang/String;Ljava/lang/String;I)Z"⟩ : MethodName)) (c_check hw r26 b26 kb26 b21 b25 kb25 (((List.replicate n (0 : Int32)).set i x1).set j x2) (0 : Int32) _ O2 P5 O4 rfm SA SH SL f66 f67 (by omega)) all0 (w142 hw) (w143 hw) (w144 hw) (w145 hw) (by decide) at_312 (rest := []) rfl rfl (lenOf pd42 rfl) rfl (by decide) (Nat.le_of_ble_eq_true rfl) (by decide) (by decide) (q := 315) rfl ?_
      intro v68 vm68 T68 h68 l68 X68 R68 q68
      obtain ⟨rfl, e68⟩ := q68
      have e68 := e68.symm
      subst e68
      show Goes p e below _ T68 (mkF m 315 #[.val (.int p0), .val (.int p1), .val (.int p2), .val (.int p3), .val (.int p4), .val (.int p5), .val (.ref b1), .val (.int (Int32.ofNat n)), .val (.ref b18), .val (.int (Int32.ofNat i)), .val (.int (Int32.ofNat j)), .val (.ref b21), .val (.ref r26), .val (.int (Int32.ofNat (n + 2))), .val (.int ((p5 &&& (2147483647 : Int32)) % (Int32.ofNat (n + 2))))] [(.int (1 : Int32))])
      refine o_ifN X68 at_315 (by decide) (q := 318) rfl ?_
      refine o_iconst X68 at_318 (w := 1) rfl (q := 319) rfl ?_
      refine o_goto X68 at_319 (by decide) (q := 323) (by decide) ?_
      exact o_retN X68 at_323 (by simp) (fun Sf hSf => rfl) (by decide) (by decide)
  · refine o_ifY X18 at_125 (flt hc125).2.2.2 (by decide) (q := 167) (by decide) ?_
    refine o_new X18 (w2 hw) (w3 hw) (w4 hw) at_167 (by decide) (by decide) (q := 170) rfl ?_
    intro T69 h69 b69 gb69 X69 E69 R69 S69 A69 D69 g0_b69
    have f70 : Fld Z h69 b69 "java/lang/String" "value" "[B" .null := D69 (Or.inr (w17 hw)) (ty := (.array .byte)) (by decide)
    have f71 : Fld Z h69 b69 "java/lang/String" "coder" "B" (.int (0 : Int32)) := D69 (Or.inr (w18 hw)) (ty := .byte) (by decide)
    refine o_dup X69 at_170 rfl (q := 171) rfl ?_
    refine o_aload X69 at_171 rfl rfl (q := 173) rfl ?_
    have hcl : List.length (List.replicate n (0 : Int32)) = n := by simp
    have hcr : ∀ c ∈ (List.replicate n (0 : Int32)), Rg c := own_rep n
    have f72 := (V18.ext E69)
    refine o_spec X69 [(.ref b18)] (y' := (⟨"java/lang/String", "<init>", "([C)V"⟩ : MethodName)) (c_newS hw b69 b18 (List.replicate n (0 : Int32)) _ O2 P5 SA SH SL A69 g0_b69 f70 f71 (by rw [hcl]; rw [own_repI]; exact f72) (Nat.ne_of_lt (Nat.lt_of_lt_of_le V18.lt (Nat.le_of_eq gb69.symm))) (by omega) hcr) (allS ⟨A69.lt, S69⟩ all0) rfl (w5 hw) (w6 hw) (w7 hw) (w4 hw) (by decide) at_173 (rest := [(.ref b69)]) rfl rfl (lenOf pd40 rfl) rfl (by decide) (Nat.le_of_ble_eq_true rfl) (by decide) (by decide) (q := 176) rfl ?_
    intro v73 vm73 T73 h73 l73 X73 R73 q73
    obtain ⟨rfl, K73, b73, kb73, U73⟩ := q73
    show Goes p e below _ T73 (mkF m 176 #[.val (.int p0), .val (.int p1), .val (.int p2), .val (.int p3), .val (.int p4), .val (.int p5), .val (.ref b1), .val (.int (Int32.ofNat n)), .val (.ref b18), .val (.int (0 : Int32)), .val (.int (0 : Int32)), .unset, .unset, .unset, .unset] [(.ref b69)])
    refine o_astore X73 at_176 rfl (L' := #[.val (.int p0), .val (.int p1), .val (.int p2), .val (.int p3), .val (.int p4), .val (.int p5), .val (.ref b1), .val (.int (Int32.ofNat n)), .val (.ref b18), .val (.int (0 : Int32)), .val (.int (0 : Int32)), .val (.ref b69), .unset, .unset, .unset]) rfl (q := 178) rfl ?_
    refine o_aload X73 at_178 rfl rfl (q := 180) rfl ?_
    refine o_stat X73 [(.ref b69)] (y' := (⟨"com/example/unibrace/unibrace/ErrorText", "quote", "(Ljava/lang/String;)Ljava/lang/String;"⟩ : MethodName)) (c_quote hw b69 b73 kb73 (List.replicate n (0 : Int32)) _ O2 P5 O4 rfm SA SH SL U73 (by omega) (by omega)) all0 (w23 hw) (w24 hw) (w25 hw) (w26 hw) (by decide) at_180 (rest := []) rfl rfl (lenOf pd41 rfl) rfl (by decide) (Nat.le_of_ble_eq_true rfl) (by decide) (by decide) (q := 183) rfl ?_
    intro v74 vm74 T74 h74 l74 X74 R74 q74
    obtain ⟨r74, b74, kb74, rfl, K74, U74⟩ := q74
    show Goes p e below _ T74 (mkF m 183 #[.val (.int p0), .val (.int p1), .val (.int p2), .val (.int p3), .val (.int p4), .val (.int p5), .val (.ref b1), .val (.int (Int32.ofNat n)), .val (.ref b18), .val (.int (0 : Int32)), .val (.int (0 : Int32)), .val (.ref b69), .unset, .unset, .unset] [(.ref r74)])
    refine o_astore X74 at_183 rfl (L' := #[.val (.int p0), .val (.int p1), .val (.int p2), .val (.int p3), .val (.int p4), .val (.int p5), .val (.ref b1), .val (.int (Int32.ofNat n)), .val (.ref b18), .val (.int (0 : Int32)), .val (.int (0 : Int32)), .val (.ref b69), .val (.ref r74), .unset, .unset]) rfl (q := 185) rfl ?_
    refine o_iload X74 at_185 rfl (q := 187) rfl ?_
    refine o_sipush X74 at_187 (w := 200) rfl (q := 190) rfl ?_
    by_cases hc190 : (200 : Int32) < (Int32.ofNat n)
    · refine o_icmpY X74 at_190 (tlt hc190).2.2.1 (by decide) (q := 200) (by decide) ?_
      refine o_sipush X74 at_200 (w := 202) rfl (q := 203) rfl ?_
      refine o_istore X74 at_203 rfl (L' := #[.val (.int p0), .val (.int p1), .val (.int p2), .val (.int p3), .val (.int p4), .val (.int p5), .val (.ref b1), .val (.int (Int32.ofNat n)), .val (.ref b18), .val (.int (0 : Int32)), .val (.int (0 : Int32)), .val (.ref b69), .val (.ref r74), .val (.int (202 : Int32)), .unset]) rfl (q := 205) rfl ?_
      refine o_aload X74 at_205 rfl rfl (q := 207) rfl ?_
      refine o_strlenU X74 U74 O2 P5 (hwln hw) (w3 hw) (w140 hw) (w28 hw) (w30 hw) (w29 hw) at_207 rfl (by decide) (Nat.le_of_ble_eq_true rfl) (by decide) (by decide) (q := 210) rfl ?_
      intro T75 l75 X75
      refine o_iload X75 at_210 rfl (q := 212) rfl ?_
      refine o_icmpY X75 at_212 (teq (congrArg Int32.ofNat ((own_qlB (by have hq : 200 < n := (n_lt (a := 200) (b := n) (by omega) (by omega)).mp hc190; omega))))).1 (by decide) (q := 217) (by decide) ?_
      refine o_iload X75 at_217 rfl (q := 219) rfl ?_
      refine o_ldcI X75 (w141 hw) at_219 (q := 221) rfl ?_
      refine o_iand X75 at_221 (w := (p5 &&& (2147483647 : Int32))) rfl (q := 222) rfl ?_
      refine o_iload X75 at_222 rfl (q := 224) rfl ?_
      refine o_irem X75 at_224 (by decide) (w := ((p5 &&& (2147483647 : Int32)) % (202 : Int32))) rfl (q := 225) rfl ?_
      refine o_istore X75 at_225 rfl (L' := #[.val (.int p0), .val (.int p1), .val (.int p2), .val (.int p3), .val (.int p4), .val (.int p5), .val (.ref b1), .val (.int (Int32.ofNat n)), .val (.ref b18), .val (.int (0 : Int32)), .val (.int (0 : Int32)), .val (.ref b69), .val (.ref r74), .val (.int (202 : Int32)), .val (.int ((p5 &&& (2147483647 : Int32)) % (202 : Int32)))]) rfl (q := 227) rfl ?_
      refine o_aload X75 at_227 rfl rfl (q := 229) rfl ?_
      refine o_aload X75 at_229 rfl rfl (q := 231) rfl ?_
      refine o_iload X75 at_231 rfl (q := 233) rfl ?_
      have f76 := (U73.keep K74 nin0 nin0)
      refine o_stat X75 [(.ref r74), (.ref b69), (.int ((p5 &&& (2147483647 : Int32)) % (202 : Int32)))] (y' := (⟨"com/example/unibrace/unibrace/ErrorTextQuotePinLaw", "check", "(Ljava/lang/String;Ljava/lang/String;I)Z"⟩ : MethodName)) (c_check hw r74 b74 kb74 b69 b73 kb73 (List.replicate n (0 : Int32)) ((p5 &&& (2147483647 : Int32)) % (202 : Int32)) _ O2 P5 O4 rfm SA SH SL U74 f76 (by omega)) all0 (w142 hw) (w143 hw) (w144 hw) (w145 hw) (by decide) at_233 (rest := []) rfl rfl (lenOf pd42 rfl) rfl (by decide) (Nat.le_of_ble_eq_true rfl) (by decide) (by decide) (q := 236) rfl ?_
      intro v77 vm77 T77 h77 l77 X77 R77 q77
      obtain ⟨rfl, e77⟩ := q77
      have e77 := e77.symm
      subst e77
      show Goes p e below _ T77 (mkF m 236 #[.val (.int p0), .val (.int p1), .val (.int p2), .val (.int p3), .val (.int p4), .val (.int p5), .val (.ref b1), .val (.int (Int32.ofNat n)), .val (.ref b18), .val (.int (0 : Int32)), .val (.int (0 : Int32)), .val (.ref b69), .val (.ref r74), .val (.int (202 : Int32)), .val (.int ((p5 &&& (2147483647 : Int32)) % (202 : Int32)))] [(.int (1 : Int32))])
      refine o_ifN X77 at_236 (by decide) (q := 239) rfl ?_
      refine o_aload X77 at_239 rfl rfl (q := 241) rfl ?_
      refine o_aload X77 at_241 rfl rfl (q := 243) rfl ?_
      refine o_iload X77 at_243 rfl (q := 245) rfl ?_
      refine o_iconst X77 at_245 (w := 1) rfl (q := 246) rfl ?_
      refine o_iadd X77 at_246 (w := (1 : Int32)) (by decide) (q := 247) rfl ?_
      have f78 := U74
      have f79 := f76
      refine o_stat X77 [(.ref r74), (.ref b69), (.int (1 : Int32))] (y' := (⟨"com/example/unibrace/unibrace/ErrorTextQuotePinLaw", "check", "(Ljava/lang/String;Ljava/lang/String;I)Z"⟩ : MethodName)) (c_check hw r74 b74 kb74 b69 b73 kb73 (List.replicate n (0 : Int32)) (1 : Int32) _ O2 P5 O4 rfm SA SH SL f78 f79 (by omega)) all0 (w142 hw) (w143 hw) (w144 hw) (w145 hw) (by decide) at_247 (rest := []) rfl rfl (lenOf pd42 rfl) rfl (by decide) (Nat.le_of_ble_eq_true rfl) (by decide) (by decide) (q := 250) rfl ?_
      intro v80 vm80 T80 h80 l80 X80 R80 q80
      obtain ⟨rfl, e80⟩ := q80
      have e80 := e80.symm
      subst e80
      show Goes p e below _ T80 (mkF m 250 #[.val (.int p0), .val (.int p1), .val (.int p2), .val (.int p3), .val (.int p4), .val (.int p5), .val (.ref b1), .val (.int (Int32.ofNat n)), .val (.ref b18), .val (.int (0 : Int32)), .val (.int (0 : Int32)), .val (.ref b69), .val (.ref r74), .val (.int (202 : Int32)), .val (.int ((p5 &&& (2147483647 : Int32)) % (202 : Int32)))] [(.int (1 : Int32))])
      refine o_ifN X80 at_250 (by decide) (q := 253) rfl ?_
      refine o_aload X80 at_253 rfl rfl (q := 255) rfl ?_
      refine o_aload X80 at_255 rfl rfl (q := 257) rfl ?_
      refine o_iload X80 at_257 rfl (q := 259) rfl ?_
      refine o_iconst X80 at_259 (w := 1) rfl (q := 260) rfl ?_
      refine o_iadd X80 at_260 (w := (1 : Int32)) (by decide) (q := 261) rfl ?_
      have f81 := f78
      have f82 := f79
      refine o_stat X80 [(.ref r74), (.ref b69), (.int (1 : Int32))] (y' := (⟨"com/example/unibrace/unibrace/ErrorTextQuotePinLaw", "check", "(Ljava/lang/String;Ljava/lang/String;I)Z"⟩ : MethodName)) (c_check hw r74 b74 kb74 b69 b73 kb73 (List.replicate n (0 : Int32)) (1 : Int32) _ O2 P5 O4 rfm SA SH SL f81 f82 (by omega)) all0 (w142 hw) (w143 hw) (w144 hw) (w145 hw) (by decide) at_261 (rest := []) rfl rfl (lenOf pd42 rfl) rfl (by decide) (Nat.le_of_ble_eq_true rfl) (by decide) (by decide) (q := 264) rfl ?_
      intro v83 vm83 T83 h83 l83 X83 R83 q83
      obtain ⟨rfl, e83⟩ := q83
      have e83 := e83.symm
      subst e83
      show Goes p e below _ T83 (mkF m 264 #[.val (.int p0), .val (.int p1), .val (.int p2), .val (.int p3), .val (.int p4), .val (.int p5), .val (.ref b1), .val (.int (Int32.ofNat n)), .val (.ref b18), .val (.int (0 : Int32)), .val (.int (0 : Int32)), .val (.ref b69), .val (.ref r74), .val (.int (202 : Int32)), .val (.int ((p5 &&& (2147483647 : Int32)) % (202 : Int32)))] [(.int (1 : Int32))])
      refine o_ifN X83 at_264 (by decide) (q := 267) rfl ?_
      refine o_aload X83 at_267 rfl rfl (q := 269) rfl ?_
      refine o_aload X83 at_269 rfl rfl (q := 271) rfl ?_
      refine o_sipush X83 at_271 (w := 197) rfl (q := 274) rfl ?_
      have f84 := f81
      have f85 := f82
      refine o_stat X83 [(.ref r74), (.ref b69), (.int (197 : Int32))] (y' := (⟨"com/example/unibrace/unibrace/ErrorTextQuotePinLaw", "check", "(Ljava/lang/String;Ljava/lang/String;I)Z"⟩ : MethodName)) (c_check hw r74 b74 kb74 b69 b73 kb73 (List.replicate n (0 : Int32)) (197 : Int32) _ O2 P5 O4 rfm SA SH SL f84 f85 (by omega)) all0 (w142 hw) (w143 hw) (w144 hw) (w145 hw) (by decide) at_274 (rest := []) rfl rfl (lenOf pd42 rfl) rfl (by decide) (Nat.le_of_ble_eq_true rfl) (by decide) (by decide) (q := 277) rfl ?_
      intro v86 vm86 T86 h86 l86 X86 R86 q86
      obtain ⟨rfl, e86⟩ := q86
      have e86 := e86.symm
      subst e86
      show Goes p e below _ T86 (mkF m 277 #[.val (.int p0), .val (.int p1), .val (.int p2), .val (.int p3), .val (.int p4), .val (.int p5), .val (.ref b1), .val (.int (Int32.ofNat n)), .val (.ref b18), .val (.int (0 : Int32)), .val (.int (0 : Int32)), .val (.ref b69), .val (.ref r74), .val (.int (202 : Int32)), .val (.int ((p5 &&& (2147483647 : Int32)) % (202 : Int32)))] [(.int (1 : Int32))])
      refine o_ifN X86 at_277 (by decide) (q := 280) rfl ?_
      refine o_aload X86 at_280 rfl rfl (q := 282) rfl ?_
      refine o_aload X86 at_282 rfl rfl (q := 284) rfl ?_
      refine o_sipush X86 at_284 (w := 198) rfl (q := 287) rfl ?_
      have f87 := f84
      have f88 := f85
      refine o_stat X86 [(.ref r74), (.ref b69), (.int (198 : Int32))] (y' := (⟨"com/example/unibrace/unibrace/ErrorTextQuotePinLaw", "check", "(Ljava/lang/String;Ljava/lang/String;I)Z"⟩ : MethodName)) (c_check hw r74 b74 kb74 b69 b73 kb73 (List.replicate n (0 : Int32)) (198 : Int32) _ O2 P5 O4 rfm SA SH SL f87 f88 (by omega)) all0 (w142 hw) (w143 hw) (w144 hw) (w145 hw) (by decide) at_287 (rest := []) rfl rfl (lenOf pd42 rfl) rfl (by decide) (Nat.le_of_ble_eq_true rfl) (by decide) (by decide) (q := 290) rfl ?_
      intro v89 vm89 T89 h89 l89 X89 R89 q89
      obtain ⟨rfl, e89⟩ := q89
      have e89 := e89.symm
      subst e89
      show Goes p e below _ T89 (mkF m 290 #[.val (.int p0), .val (.int p1), .val (.int p2), .val (.int p3), .val (.int p4), .val (.int p5), .val (.ref b1), .val (.int (Int32.ofNat n)), .val (.ref b18), .val (.int (0 : Int32)), .val (.int (0 : Int32)), .val (.ref b69), .val (.ref r74), .val (.int (202 : Int32)), .val (.int ((p5 &&& (2147483647 : Int32)) % (202 : Int32)))] [(.int (1 : Int32))])
      refine o_ifN X89 at_290 (by decide) (q := 293) rfl ?_
      refine o_aload X89 at_293 rfl rfl (q := 295) rfl ?_
      refine o_aload X89 at_295 rfl rfl (q := 297) rfl ?_
      refine o_iload X89 at_297 rfl (q := 299) rfl ?_
      refine o_iconst X89 at_299 (w := 1) rfl (q := 300) rfl ?_
      refine o_isub X89 at_300 (w := (201 : Int32)) (by decide) (q := 301) rfl ?_
      have f90 := f87
      have f91 := f88
      refine o_stat X89 [(.ref r74), (.ref b69), (.int (201 : Int32))] (y' := (⟨"com/example/unibrace/unibrace/ErrorTextQuotePinLaw", "check", "(Ljava/lang/String;Ljava/lang/String;I)Z"⟩ : MethodName)) (c_check hw r74 b74 kb74 b69 b73 kb73 (List.replicate n (0 : Int32)) (201 : Int32) _ O2 P5 O4 rfm SA SH SL f90 f91 (by omega)) all0 (w142 hw) (w143 hw) (w144 hw) (w145 hw) (by decide) at_301 (rest := []) rfl rfl (lenOf pd42 rfl) rfl (by decide) (Nat.le_of_ble_eq_true rfl) (by decide) (by decide) (q := 304) rfl ?_
      intro v92 vm92 T92 h92 l92 X92 R92 q92
      obtain ⟨rfl, e92⟩ := q92
      have e92 := e92.symm
      subst e92
      show Goes p e below _ T92 (mkF m 304 #[.val (.int p0), .val (.int p1), .val (.int p2), .val (.int p3), .val (.int p4), .val (.int p5), .val (.ref b1), .val (.int (Int32.ofNat n)), .val (.ref b18), .val (.int (0 : Int32)), .val (.int (0 : Int32)), .val (.ref b69), .val (.ref r74), .val (.int (202 : Int32)), .val (.int ((p5 &&& (2147483647 : Int32)) % (202 : Int32)))] [(.int (1 : Int32))])
      refine o_ifN X92 at_304 (by decide) (q := 307) rfl ?_
      refine o_aload X92 at_307 rfl rfl (q := 309) rfl ?_
      refine o_aload X92 at_309 rfl rfl (q := 311) rfl ?_
      refine o_iconst X92 at_311 (w := 0) rfl (q := 312) rfl ?_
      have f93 := f90
      have f94 := f91
      refine o_stat X92 [(.ref r74), (.ref b69), (.int (0 : Int32))] (y' := (⟨"com/example/unibrace/unibrace/ErrorTextQuotePinLaw", "check", "(Ljava/lang/String;Ljava/lang/String;I)Z"⟩ : MethodName)) (c_check hw r74 b74 kb74 b69 b73 kb73 (List.replicate n (0 : Int32)) (0 : Int32) _ O2 P5 O4 rfm SA SH SL f93 f94 (by omega)) all0 (w142 hw) (w143 hw) (w144 hw) (w145 hw) (by decide) at_312 (rest := []) rfl rfl (lenOf pd42 rfl) rfl (by decide) (Nat.le_of_ble_eq_true rfl) (by decide) (by decide) (q := 315) rfl ?_
      intro v95 vm95 T95 h95 l95 X95 R95 q95
      obtain ⟨rfl, e95⟩ := q95
      have e95 := e95.symm
      subst e95
      show Goes p e below _ T95 (mkF m 315 #[.val (.int p0), .val (.int p1), .val (.int p2), .val (.int p3), .val (.int p4), .val (.int p5), .val (.ref b1), .val (.int (Int32.ofNat n)), .val (.ref b18), .val (.int (0 : Int32)), .val (.int (0 : Int32)), .val (.ref b69), .val (.ref r74), .val (.int (202 : Int32)), .val (.int ((p5 &&& (2147483647 : Int32)) % (202 : Int32)))] [(.int (1 : Int32))])
      refine o_ifN X95 at_315 (by decide) (q := 318) rfl ?_
      refine o_iconst X95 at_318 (w := 1) rfl (q := 319) rfl ?_
      refine o_goto X95 at_319 (by decide) (q := 323) (by decide) ?_
      exact o_retN X95 at_323 (by simp) (fun Sf hSf => rfl) (by decide) (by decide)
    · refine o_icmpN X74 at_190 (flt hc190).2.2.1 (q := 193) rfl ?_
      refine o_iload X74 at_193 rfl (q := 195) rfl ?_
      refine o_iconst X74 at_195 (w := 2) rfl (q := 196) rfl ?_
      refine o_iadd X74 at_196 (w := (Int32.ofNat (n + 2))) (n_add _ _) (q := 197) rfl ?_
      refine o_goto X74 at_197 (by decide) (q := 203) (by decide) ?_
      refine o_istore X74 at_203 rfl (L' := #[.val (.int p0), .val (.int p1), .val (.int p2), .val (.int p3), .val (.int p4), .val (.int p5), .val (.ref b1), .val (.int (Int32.ofNat n)), .val (.ref b18), .val (.int (0 : Int32)), .val (.int (0 : Int32)), .val (.ref b69), .val (.ref r74), .val (.int (Int32.ofNat (n + 2))), .unset]) rfl (q := 205) rfl ?_
      refine o_aload X74 at_205 rfl rfl (q := 207) rfl ?_
      refine o_strlenU X74 U74 O2 P5 (hwln hw) (w3 hw) (w140 hw) (w28 hw) (w30 hw) (w29 hw) at_207 rfl (by decide) (Nat.le_of_ble_eq_true rfl) (by decide) (by decide) (q := 210) rfl ?_
      intro T96 l96 X96
      refine o_iload X96 at_210 rfl (q := 212) rfl ?_
      refine o_icmpY X96 at_212 (teq (congrArg Int32.ofNat ((own_qlS (by have hq : ¬ 200 < n := fun q => hc190 ((n_lt (a := 200) (b := n) (by omega) (by omega)).mpr q); omega)).trans (by omega)))).1 (by decide) (q := 217) (by decide) ?_
      refine o_iload X96 at_217 rfl (q := 219) rfl ?_
      refine o_ldcI X96 (w141 hw) at_219 (q := 221) rfl ?_
      refine o_iand X96 at_221 (w := (p5 &&& (2147483647 : Int32))) rfl (q := 222) rfl ?_
      refine o_iload X96 at_222 rfl (q := 224) rfl ?_
      refine o_irem X96 at_224 (own_nzq (by omega) (by omega)) (w := ((p5 &&& (2147483647 : Int32)) % (Int32.ofNat (n + 2)))) rfl (q := 225) rfl ?_
      refine o_istore X96 at_225 rfl (L' := #[.val (.int p0), .val (.int p1), .val (.int p2), .val (.int p3), .val (.int p4), .val (.int p5), .val (.ref b1), .val (.int (Int32.ofNat n)), .val (.ref b18), .val (.int (0 : Int32)), .val (.int (0 : Int32)), .val (.ref b69), .val (.ref r74), .val (.int (Int32.ofNat (n + 2))), .val (.int ((p5 &&& (2147483647 : Int32)) % (Int32.ofNat (n + 2))))]) rfl (q := 227) rfl ?_
      refine o_aload X96 at_227 rfl rfl (q := 229) rfl ?_
      refine o_aload X96 at_229 rfl rfl (q := 231) rfl ?_
      refine o_iload X96 at_231 rfl (q := 233) rfl ?_
      have f97 := (U73.keep K74 nin0 nin0)
      refine o_stat X96 [(.ref r74), (.ref b69), (.int ((p5 &&& (2147483647 : Int32)) % (Int32.ofNat (n + 2))))] (y' := (⟨"com/example/unibrace/unibrace/ErrorTextQuotePinLaw", "check", "(Ljava/lang/String;Ljava/lang/String;I)Z"⟩ : MethodName)) (c_check hw r74 b74 kb74 b69 b73 kb73 (List.replicate n (0 : Int32)) ((p5 &&& (2147483647 : Int32)) % (Int32.ofNat (n + 2))) _ O2 P5 O4 rfm SA SH SL U74 f97 (by omega)) all0 (w142 hw) (w143 hw) (w144 hw) (w145 hw) (by decide) at_233 (rest := []) rfl rfl (lenOf pd42 rfl) rfl (by decide) (Nat.le_of_ble_eq_true rfl) (by decide) (by decide) (q := 236) rfl ?_
      intro v98 vm98 T98 h98 l98 X98 R98 q98
      obtain ⟨rfl, e98⟩ := q98
      have e98 := e98.symm
      subst e98
      show Goes p e below _ T98 (mkF m 236 #[.val (.int p0), .val (.int p1), .val (.int p2), .val (.int p3), .val (.int p4), .val (.int p5), .val (.ref b1), .val (.int (Int32.ofNat n)), .val (.ref b18), .val (.int (0 : Int32)), .val (.int (0 : Int32)), .val (.ref b69), .val (.ref r74), .val (.int (Int32.ofNat (n + 2))), .val (.int ((p5 &&& (2147483647 : Int32)) % (Int32.ofNat (n + 2))))] [(.int (1 : Int32))])
      refine o_ifN X98 at_236 (by decide) (q := 239) rfl ?_
      refine o_aload X98 at_239 rfl rfl (q := 241) rfl ?_
      refine o_aload X98 at_241 rfl rfl (q := 243) rfl ?_
      refine o_iload X98 at_243 rfl (q := 245) rfl ?_
      refine o_iconst X98 at_245 (w := 1) rfl (q := 246) rfl ?_
      refine o_iadd X98 at_246 (w := (1 : Int32)) (by decide) (q := 247) rfl ?_
      have f99 := U74
      have f100 := f97
      refine o_stat X98 [(.ref r74), (.ref b69), (.int (1 : Int32))] (y' := (⟨"com/example/unibrace/unibrace/ErrorTextQuotePinLaw", "check", "(Ljava/lang/String;Ljava/lang/String;I)Z"⟩ : MethodName)) (c_check hw r74 b74 kb74 b69 b73 kb73 (List.replicate n (0 : Int32)) (1 : Int32) _ O2 P5 O4 rfm SA SH SL f99 f100 (by omega)) all0 (w142 hw) (w143 hw) (w144 hw) (w145 hw) (by decide) at_247 (rest := []) rfl rfl (lenOf pd42 rfl) rfl (by decide) (Nat.le_of_ble_eq_true rfl) (by decide) (by decide) (q := 250) rfl ?_
      intro v101 vm101 T101 h101 l101 X101 R101 q101
      obtain ⟨rfl, e101⟩ := q101
      have e101 := e101.symm
      subst e101
      show Goes p e below _ T101 (mkF m 250 #[.val (.int p0), .val (.int p1), .val (.int p2), .val (.int p3), .val (.int p4), .val (.int p5), .val (.ref b1), .val (.int (Int32.ofNat n)), .val (.ref b18), .val (.int (0 : Int32)), .val (.int (0 : Int32)), .val (.ref b69), .val (.ref r74), .val (.int (Int32.ofNat (n + 2))), .val (.int ((p5 &&& (2147483647 : Int32)) % (Int32.ofNat (n + 2))))] [(.int (1 : Int32))])
      refine o_ifN X101 at_250 (by decide) (q := 253) rfl ?_
      refine o_aload X101 at_253 rfl rfl (q := 255) rfl ?_
      refine o_aload X101 at_255 rfl rfl (q := 257) rfl ?_
      refine o_iload X101 at_257 rfl (q := 259) rfl ?_
      refine o_iconst X101 at_259 (w := 1) rfl (q := 260) rfl ?_
      refine o_iadd X101 at_260 (w := (1 : Int32)) (by decide) (q := 261) rfl ?_
      have f102 := f99
      have f103 := f100
      refine o_stat X101 [(.ref r74), (.ref b69), (.int (1 : Int32))] (y' := (⟨"com/example/unibrace/unibrace/ErrorTextQuotePinLaw", "check", "(Ljava/lang/String;Ljava/lang/String;I)Z"⟩ : MethodName)) (c_check hw r74 b74 kb74 b69 b73 kb73 (List.replicate n (0 : Int32)) (1 : Int32) _ O2 P5 O4 rfm SA SH SL f102 f103 (by omega)) all0 (w142 hw) (w143 hw) (w144 hw) (w145 hw) (by decide) at_261 (rest := []) rfl rfl (lenOf pd42 rfl) rfl (by decide) (Nat.le_of_ble_eq_true rfl) (by decide) (by decide) (q := 264) rfl ?_
      intro v104 vm104 T104 h104 l104 X104 R104 q104
      obtain ⟨rfl, e104⟩ := q104
      have e104 := e104.symm
      subst e104
      show Goes p e below _ T104 (mkF m 264 #[.val (.int p0), .val (.int p1), .val (.int p2), .val (.int p3), .val (.int p4), .val (.int p5), .val (.ref b1), .val (.int (Int32.ofNat n)), .val (.ref b18), .val (.int (0 : Int32)), .val (.int (0 : Int32)), .val (.ref b69), .val (.ref r74), .val (.int (Int32.ofNat (n + 2))), .val (.int ((p5 &&& (2147483647 : Int32)) % (Int32.ofNat (n + 2))))] [(.int (1 : Int32))])
      refine o_ifN X104 at_264 (by decide) (q := 267) rfl ?_
      refine o_aload X104 at_267 rfl rfl (q := 269) rfl ?_
      refine o_aload X104 at_269 rfl rfl (q := 271) rfl ?_
      refine o_sipush X104 at_271 (w := 197) rfl (q := 274) rfl ?_
      have f105 := f102
      have f106 := f103
      refine o_stat X104 [(.ref r74), (.ref b69), (.int (197 : Int32))] (y' := (⟨"com/example/unibrace/unibrace/ErrorTextQuotePinLaw", "check", "(Ljava/lang/String;Ljava/lang/String;I)Z"⟩ : MethodName)) (c_check hw r74 b74 kb74 b69 b73 kb73 (List.replicate n (0 : Int32)) (197 : Int32) _ O2 P5 O4 rfm SA SH SL f105 f106 (by omega)) all0 (w142 hw) (w143 hw) (w144 hw) (w145 hw) (by decide) at_274 (rest := []) rfl rfl (lenOf pd42 rfl) rfl (by decide) (Nat.le_of_ble_eq_true rfl) (by decide) (by decide) (q := 277) rfl ?_
      intro v107 vm107 T107 h107 l107 X107 R107 q107
      obtain ⟨rfl, e107⟩ := q107
      have e107 := e107.symm
      subst e107
      show Goes p e below _ T107 (mkF m 277 #[.val (.int p0), .val (.int p1), .val (.int p2), .val (.int p3), .val (.int p4), .val (.int p5), .val (.ref b1), .val (.int (Int32.ofNat n)), .val (.ref b18), .val (.int (0 : Int32)), .val (.int (0 : Int32)), .val (.ref b69), .val (.ref r74), .val (.int (Int32.ofNat (n + 2))), .val (.int ((p5 &&& (2147483647 : Int32)) % (Int32.ofNat (n + 2))))] [(.int (1 : Int32))])
      refine o_ifN X107 at_277 (by decide) (q := 280) rfl ?_
      refine o_aload X107 at_280 rfl rfl (q := 282) rfl ?_
      refine o_aload X107 at_282 rfl rfl (q := 284) rfl ?_
      refine o_sipush X107 at_284 (w := 198) rfl (q := 287) rfl ?_
      have f108 := f105
      have f109 := f106
      refine o_stat X107 [(.ref r74), (.ref b69), (.int (198 : Int32))] (y' := (⟨"com/example/unibrace/unibrace/ErrorTextQuotePinLaw", "check", "(Ljava/lang/String;Ljava/lang/String;I)Z"⟩ : MethodName)) (c_check hw r74 b74 kb74 b69 b73 kb73 (List.replicate n (0 : Int32)) (198 : Int32) _ O2 P5 O4 rfm SA SH SL f108 f109 (by omega)) all0 (w142 hw) (w143 hw) (w144 hw) (w145 hw) (by decide) at_287 (rest := []) rfl rfl (lenOf pd42 rfl) rfl (by decide) (Nat.le_of_ble_eq_true rfl) (by decide) (by decide) (q := 290) rfl ?_
      intro v110 vm110 T110 h110 l110 X110 R110 q110
      obtain ⟨rfl, e110⟩ := q110
      have e110 := e110.symm
      subst e110
      show Goes p e below _ T110 (mkF m 290 #[.val (.int p0), .val (.int p1), .val (.int p2), .val (.int p3), .val (.int p4), .val (.int p5), .val (.ref b1), .val (.int (Int32.ofNat n)), .val (.ref b18), .val (.int (0 : Int32)), .val (.int (0 : Int32)), .val (.ref b69), .val (.ref r74), .val (.int (Int32.ofNat (n + 2))), .val (.int ((p5 &&& (2147483647 : Int32)) % (Int32.ofNat (n + 2))))] [(.int (1 : Int32))])
      refine o_ifN X110 at_290 (by decide) (q := 293) rfl ?_
      refine o_aload X110 at_293 rfl rfl (q := 295) rfl ?_
      refine o_aload X110 at_295 rfl rfl (q := 297) rfl ?_
      refine o_iload X110 at_297 rfl (q := 299) rfl ?_
      refine o_iconst X110 at_299 (w := 1) rfl (q := 300) rfl ?_
      refine o_isub X110 at_300 (w := ((Int32.ofNat (n + 2)) - (1 : Int32))) rfl (q := 301) rfl ?_
      have f111 := f108
      have f112 := f109
      refine o_stat X110 [(.ref r74), (.ref b69), (.int ((Int32.ofNat (n + 2)) - (1 : Int32)))] (y' := (⟨"com/example/unibrace/unibrace/ErrorTextQuotePinLaw", "check", "(Ljava/lang/String;Ljava/lang/String;I)Z"⟩ : MethodName)) (c_check hw r74 b74 kb74 b69 b73 kb73 (List.replicate n (0 : Int32)) ((Int32.ofNat (n + 2)) - (1 : Int32)) _ O2 P5 O4 rfm SA SH SL f111 f112 (by omega)) all0 (w142 hw) (w143 hw) (w144 hw) (w145 hw) (by decide) at_301 (rest := []) rfl rfl (lenOf pd42 rfl) rfl (by decide) (Nat.le_of_ble_eq_true rfl) (by decide) (by decide) (q := 304) rfl ?_
      intro v113 vm113 T113 h113 l113 X113 R113 q113
      obtain ⟨rfl, e113⟩ := q113
      have e113 := e113.symm
      subst e113
      show Goes p e below _ T113 (mkF m 304 #[.val (.int p0), .val (.int p1), .val (.int p2), .val (.int p3), .val (.int p4), .val (.int p5), .val (.ref b1), .val (.int (Int32.ofNat n)), .val (.ref b18), .val (.int (0 : Int32)), .val (.int (0 : Int32)), .val (.ref b69), .val (.ref r74), .val (.int (Int32.ofNat (n + 2))), .val (.int ((p5 &&& (2147483647 : Int32)) % (Int32.ofNat (n + 2))))] [(.int (1 : Int32))])
      refine o_ifN X113 at_304 (by decide) (q := 307) rfl ?_
      refine o_aload X113 at_307 rfl rfl (q := 309) rfl ?_
      refine o_aload X113 at_309 rfl rfl (q := 311) rfl ?_
      refine o_iconst X113 at_311 (w := 0) rfl (q := 312) rfl ?_
      have f114 := f111
      have f115 := f112
      refine o_stat X113 [(.ref r74), (.ref b69), (.int (0 : Int32))] (y' := (⟨"com/example/unibrace/unibrace/ErrorTextQuotePinLaw", "check", "(Ljava/lang/String;Ljava/lang/String;I)Z"⟩ : MethodName)) (c_check hw r74 b74 kb74 b69 b73 kb73 (List.replicate n (0 : Int32)) (0 : Int32) _ O2 P5 O4 rfm SA SH SL f114 f115 (by omega)) all0 (w142 hw) (w143 hw) (w144 hw) (w145 hw) (by decide) at_312 (rest := []) rfl rfl (lenOf pd42 rfl) rfl (by decide) (Nat.le_of_ble_eq_true rfl) (by decide) (by decide) (q := 315) rfl ?_
      intro v116 vm116 T116 h116 l116 X116 R116 q116
      obtain ⟨rfl, e116⟩ := q116
      have e116 := e116.symm
      subst e116
      show Goes p e below _ T116 (mkF m 315 #[.val (.int p0), .val (.int p1), .val (.int p2), .val (.int p3), .val (.int p4), .val (.int p5), .val (.ref b1), .val (.int (Int32.ofNat n)), .val (.ref b18), .val (.int (0 : Int32)), .val (.int (0 : Int32)), .val (.ref b69), .val (.ref r74), .val (.int (Int32.ofNat (n + 2))), .val (.int ((p5 &&& (2147483647 : Int32)) % (Int32.ofNat (n + 2))))] [(.int (1 : Int32))])
      refine o_ifN X116 at_315 (by decide) (q := 318) rfl ?_
      refine o_iconst X116 at_318 (w := 1) rfl (q := 319) rfl ?_
      refine o_goto X116 at_319 (by decide) (q := 323) (by decide) ?_
      exact o_retN X116 at_323 (by simp) (fun Sf hSf => rfl) (by decide) (by decide)
set_option maxRecDepth 65536 in
set_option maxHeartbeats 40000000 in
theorem comes_1 {Post : Tables → Env → Array Value → State → Outcome → State → Prop} (hpost : ∀ tb e args s v u, (limb_1_1.after args s (.returned v) u = true ∧ limb_1_2.after args s (.returned v) u = true ∧ True) → ReturnedEndW s (.returned v) u (Jvm.fieldLocs frame_1_writes args s ++ Jvm.arrayLocs frame_1_arrays args s ++ Jvm.staticLocs frame_1_statics s) 64 14912 → Post tb e args s (.returned v) u) :
    ArmFor flags0 classFile x code maxLocals ret World_1 tables_1 room_1 Calls_1 rest_1 Pre_1 Post := by
  intro l hfl _ _ p e ha hc hk s m args below hf hA hF happ hP
  obtain ⟨hcalls, hrest, hpre⟩ := hP
  obtain ⟨-, -, -, hnamed, -, -, -, hat⟩ := (Spec.applies_iff hf).mp happ
  obtain ⟨hg, hn⟩ := and_e (Cond.before_iff.mp (show (Jvm.Cond.and given_1 narrow_1).before args s = true from hpre))
  obtain ⟨hcount, hg0⟩ := and_e hg
  obtain ⟨ga0, hg1⟩ := and_e hg0
  obtain ⟨ga1, hg2⟩ := and_e hg1
  obtain ⟨ga2, hg3⟩ := and_e hg2
  obtain ⟨ga3, hg4⟩ := and_e hg3
  obtain ⟨ga4, hg5⟩ := and_e hg4
  obtain ⟨w0, w1, w2, w3, w4, w5, rfl⟩ : ∃ w0 w1 w2 w3 w4 w5 : Value, args = #[w0, w1, w2, w3, w4, w5] := by
    have hs : args.size = 6 := by simpa [Cond.value, given_1] using hcount
    obtain ⟨L⟩ := args
    match L, hs with
    | [w0, w1, w2, w3, w4, w5], _ => exact ⟨w0, w1, w2, w3, w4, w5, rfl⟩
  have hw : W _ s := fun d (hd : d ∈ tables_1) => atoms_spec (ws := Jvm.Cond.code x code maxLocals ret :: tables_1) hat d (List.mem_cons_of_mem _ hd)
  obtain ⟨hsets, hown0⟩ := atoms_of _ (rest_1_c_eq ▸ (show rest_1_c.before _ s = true from hrest))
  obtain ⟨i0, ei0⟩ := is_v ga0
  obtain rfl : w0 = (.int i0) := Option.some.inj ei0
  obtain ⟨i1, ei1⟩ := is_v ga1
  obtain rfl : w1 = (.int i1) := Option.some.inj ei1
  obtain ⟨i2, ei2⟩ := is_v ga2
  obtain rfl : w2 = (.int i2) := Option.some.inj ei2
  obtain ⟨i3, ei3⟩ := is_v ga3
  obtain rfl : w3 = (.int i3) := Option.some.inj ei3
  obtain ⟨i4, ei4⟩ := is_v ga4
  obtain rfl : w4 = (.int i4) := Option.some.inj ei4
  obtain ⟨i5, ei5⟩ := is_v hg5
  obtain rfl : w5 = (.int i5) := Option.some.inj ei5
  obtain ⟨zc, ezc⟩ := is_v (Cond.before_iff.mp (hsets _ (List.mem_of_getElem? (i := 1) rfl)))
  have O2 : Sta s s.heap "java/lang/String" "COMPACT_STRINGS" "Z" (.int zc) := Sta.start ezc (Or.inl (hsets _ (List.mem_of_getElem? (i := 0) rfl)))
  have P5 : ¬ (zc = (0 : Int32)) := gotF (Cond.eq_ints ezc (Term.int_eval (0))) (not_v (Cond.before_iff.mp (hsets _ (List.mem_of_getElem? (i := 2) rfl))))
  obtain ⟨fm, efm, rfm⟩ := isR_v (Cond.before_iff.mp (hsets _ (List.mem_of_getElem? (i := 8) rfl)))
  have O4 : Sta s s.heap "jdk/internal/util/Preconditions" "SIOOBE_FORMATTER" "Ljava/util/function/BiFunction;" fm := Sta.start efm (Or.inl (hsets _ (List.mem_of_getElem? (i := 7) rfl)))
  have SA : Sta s s.heap "java/lang/StringUTF16" "$assertionsDisabled" "Z" (.int (1 : Int32)) := Sta.start (own_evI (Cond.before_iff.mp (hsets _ (List.mem_of_getElem? (i := 12) rfl)))) (Or.inl (hsets _ (List.mem_of_getElem? (i := 11) rfl)))
  have SH : Sta s s.heap "java/lang/StringUTF16" "HI_BYTE_SHIFT" "I" (.int (0 : Int32)) := Sta.start (own_evI (Cond.before_iff.mp (hsets _ (List.mem_of_getElem? (i := 15) rfl)))) (Or.inl (hsets _ (List.mem_of_getElem? (i := 14) rfl)))
  have SL : Sta s s.heap "java/lang/StringUTF16" "LO_BYTE_SHIFT" "I" (.int (8 : Int32)) := Sta.start (own_evI (Cond.before_iff.mp (hsets _ (List.mem_of_getElem? (i := 18) rfl)))) (Or.inl (hsets _ (List.mem_of_getElem? (i := 17) rfl)))
  have hEW : EW s _ EL0 := (EW.cons (w219 hw) (by decide) (EW.cons (w56 hw) (by decide) (EW.cons (w15 hw) (by decide) EW.nil)))
  have hhe : ∀ p ∈ EL0, Jvm.Lit.constHeld s p.1 p.2 := fun p hp => hcalls.1 p hp
  have hcw : Jvm.Lit.compactW.before _ s = true := (hsets _ (List.mem_of_getElem? (i := 2) rfl))
  have hCH : CHv s EL0 s.vm s.heap := CHv.start hEW hhe hcw (w16 hw) (w3 hw)
  obtain ⟨n, o, h1, h2, h3, v, L, rfl, ⟨hQ, hN, -⟩, -, hq⟩ := c_law (l := l) hw i0 i1 i2 i3 i4 i5 O2 P5 O4 rfm SA SH SL ⟨_, hEW⟩ ⟨Nat.le_refl _, fun _ _ q => q⟩ tables_1 p e ha hc hk s m _ below hf ((Spec.applies_iff_loose hf).mp happ).1 ⟨rfl, State.Warmed39.refl s, rfl, hCH, all0⟩ trivial
  subst hQ
  refine ⟨n, _, h1, h2, h3, hpost _ _ _ _ _ _ ⟨Cond.after_iff.mpr rfl, Cond.after_iff.mpr (eq_i res_at (Term.int_eval (1)) rfl), trivial⟩ ⟨hq.1, hq.2.1, hq.2.2.1, (hq.2.2.2.sift fun y hy => Or.inr (hN y hy)).mono (by decide) (by decide)⟩⟩
theorem main_1_1 : Claimed_1_1 := comes_1 fun _ _ _ _ _ _ h hF => ⟨h.1, hF⟩
theorem main_1_2 : Claimed_1_2 := comes_1 fun _ _ _ _ _ _ h hF => ⟨h.2.1, hF⟩
end Jvm.Pilot.@@N@@
namespace Jvm.Pilot.@@N@@
open Jvm Jvm.ClassFile Sem Op Lib Jvm.Free Jvm.Stand Jvm.Pilot.@@N@@.Jvm.D
/-! MADE BY PROGRAM (witnessworld.py) out of the Statement's table words and the real class files: 26 classes; the members and pool entries that the words name. The judged class is class 1, her method 3. -/
namespace start1
open Jvm.ClassFile
def u (s : String) : CpInfo := .utf8 (stringToUtf16 s)
/-- a pool by its gaps: so many unusable entries, then the entry; so many at the end -/
def gap : Nat → List CpInfo → List CpInfo
  | 0, r => r
  | n + 1, r => .unusable :: gap n r
def poolList (es : List (Nat × CpInfo)) (last : Nat) : List CpInfo := es.foldr (fun e r => gap e.1 (e.2 :: r)) (gap last [])
def pool (es : List (Nat × CpInfo)) (last : Nat) : Array CpInfo := ⟨poolList es last⟩
def fileOf (pool : Array CpInfo) (this : Nat) (attrs : Array Attribute := #[]) (ms : Array MethodInfo := #[]) (fl : Nat := 33) (sup : Nat := 0) (ifs : Array Nat := #[]) (fds : Array FieldInfo := #[]) : ClassFile where
  minorVersion := 0
  majorVersion := 65
  constantPool := pool
  accessFlags := fl
  thisClass := this
  superClass := sup
  interfaces := ifs
  fields := fds
  methods := ms
  attributes := attrs
def plain (name : String) (sup : Option ClassId) : Class where
  name := name
  kind := .ordinary
  loader := none
  accessFlags := 33
  super := sup
  interfaces := #[]
  cf := none
  fields := #[]
  methods := #[]
  instanceTypes := #[]
  staticTypes := #[]
  resolved := #[]
  callSites := []
  init := .initialized
  statics := none
  mirror := none

def pool0 : Array CpInfo := pool [(5, u "<init>"), (0, u "()V"), (1, .class_ 10), (1, u "java/lang/Object")] 113

def k0c0 : Code := { maxStack := 0, maxLocals := 1, code := object_method_1_code, exceptionTable := #[], attributes := #[] }
def k0m0 : Method := { name := "<init>", desc := "()V", sig := { parameters := [], returnType := none }, accessFlags := 1, code := some k0c0 }
/-- java/lang/Object -/
def k0 : Class := { plain "java/lang/Object" none with
  accessFlags := 33
  interfaces := #[]
  cf := some (fileOf pool0 8 #[] #[{ accessFlags := 1, nameIndex := 5, descriptorIndex := 6, attributes := #[] }] 33 0 #[] #[])
  fields := #[]
  methods := #[k0m0]
  instanceTypes := #[]
  staticTypes := #[]
  resolved := Array.replicate 124 none
  statics := none }

def pool1 : Array CpInfo := pool [(2, .class_ 4), (1, u "java/lang/Object"), (0, u "<init>"), (0, u "()V"), (0, .methodref 8 9), (0, .class_ 10), (0, .nameAndType 11 12), (0, u "java/lang/String"), (0, u "length"), (0, u "()I"), (0, .methodref 8 14), (0, .nameAndType 15 16), (0, u "charAt"), (0, u "(I)C"), (0, .methodref 18 19), (0, .class_ 20), (0, .nameAndType 21 22), (0, u "com/example/unibrace/unibrace/ErrorTextQuotePinLaw"), (0, u "expected"), (0, u "(Ljava/lang/String;II)C"), (0, .integer 2147483647), (0, .integer 65535), (0, .methodref 8 26), (0, .nameAndType 5 27), (0, u "([C)V"), (0, .methodref 29 30), (0, .class_ 31), (0, .nameAndType 32 33), (0, u "com/example/unibrace/unibrace/ErrorText"), (0, u "quote"), (0, u "(Ljava/lang/String;)Ljava/lang/String;"), (0, .methodref 18 35), (0, .nameAndType 36 37), (0, u "check"), (0, u "(Ljava/lang/String;Ljava/lang/String;I)Z"), (3, u "law"), (0, u "(IIIIII)Z")] 6

def k1m0 : Method := { name := "<init>", desc := "()V", sig := { parameters := [], returnType := none }, accessFlags := 1, code := none }
def k1c1 : Code := { maxStack := 3, maxLocals := 4, code := method_2_code, exceptionTable := #[], attributes := #[] }
def k1m1 : Method := { name := "expected", desc := "(Ljava/lang/String;II)C", sig := { parameters := [(.object "java/lang/String"), .int, .int], returnType := some .char }, accessFlags := 10, code := some k1c1 }
def k1c2 : Code := { maxStack := 4, maxLocals := 3, code := method_3_code, exceptionTable := #[], attributes := #[] }
def k1m2 : Method := { name := "check", desc := "(Ljava/lang/String;Ljava/lang/String;I)Z", sig := { parameters := [(.object "java/lang/String"), (.object "java/lang/String"), .int], returnType := some .boolean }, accessFlags := 10, code := some k1c2 }
def k1c3 : Code := { maxStack := 4, maxLocals := 15, code := code, exceptionTable := #[], attributes := #[] }
def k1m3 : Method := { name := "law", desc := "(IIIIII)Z", sig := { parameters := [.int, .int, .int, .int, .int, .int], returnType := some .boolean }, accessFlags := 9, code := some k1c3 }
/-- com/example/unibrace/unibrace/ErrorTextQuotePinLaw -/
def k1 : Class := { plain "com/example/unibrace/unibrace/ErrorTextQuotePinLaw" (some 0) with
  accessFlags := 49
  interfaces := #[]
  cf := some (fileOf pool1 18 #[] #[{ accessFlags := 1, nameIndex := 5, descriptorIndex := 6, attributes := #[] }, { accessFlags := 10, nameIndex := 21, descriptorIndex := 22, attributes := #[] }, { accessFlags := 10, nameIndex := 36, descriptorIndex := 37, attributes := #[] }, { accessFlags := 9, nameIndex := 41, descriptorIndex := 42, attributes := #[] }] 49 2 #[] #[])
  fields := #[]
  methods := #[k1m0, k1m1, k1m2, k1m3]
  instanceTypes := #[]
  staticTypes := #[]
  resolved := Array.replicate 49 none
  statics := none }

def pool2 : Array CpInfo := pool [(1, .class_ 2), (0, u "java/io/Serializable"), (0, .class_ 4), (0, u "java/lang/Object")] 2

/-- java/io/Serializable -/
def k2 : Class := { plain "java/io/Serializable" (some 0) with
  accessFlags := 1537
  interfaces := #[]
  cf := some (fileOf pool2 1 #[] #[] 1537 3 #[] #[])
  fields := #[]
  methods := #[]
  instanceTypes := #[]
  staticTypes := #[]
  resolved := Array.replicate 7 none
  statics := none }

def pool3 : Array CpInfo := pool [(1, .class_ 2), (0, u "java/lang/Comparable"), (0, .class_ 4), (0, u "java/lang/Object")] 7

/-- java/lang/Comparable -/
def k3 : Class := { plain "java/lang/Comparable" (some 0) with
  accessFlags := 1537
  interfaces := #[]
  cf := some (fileOf pool3 1 #[] #[] 1537 3 #[] #[])
  fields := #[]
  methods := #[]
  instanceTypes := #[]
  staticTypes := #[]
  resolved := Array.replicate 12 none
  statics := none }

def pool4 : Array CpInfo := pool [(2, .class_ 4), (1, u "java/lang/CharSequence"), (42, .class_ 48), (0, u "java/lang/CharSequence$1CodePointIterator"), (10, .class_ 60), (0, u "java/lang/CharSequence$1CharIterator"), (5, .class_ 67), (0, u "java/lang/Object")] 63

/-- java/lang/CharSequence -/
def k4 : Class := { plain "java/lang/CharSequence" (some 0) with
  accessFlags := 1537
  interfaces := #[]
  cf := some (fileOf pool4 2 #[.nestMembers #[47, 59]] #[] 1537 66 #[] #[])
  fields := #[]
  methods := #[]
  instanceTypes := #[]
  staticTypes := #[]
  resolved := Array.replicate 131 none
  statics := none }

def pool5 : Array CpInfo := pool [(1, .class_ 2), (0, u "java/lang/constant/Constable"), (0, .class_ 4), (0, u "java/lang/Object")] 6

/-- java/lang/constant/Constable -/
def k5 : Class := { plain "java/lang/constant/Constable" (some 0) with
  accessFlags := 1537
  interfaces := #[]
  cf := some (fileOf pool5 1 #[] #[] 1537 3 #[] #[])
  fields := #[]
  methods := #[]
  instanceTypes := #[]
  staticTypes := #[]
  resolved := Array.replicate 11 none
  statics := none }

def pool6 : Array CpInfo := pool [(1, .class_ 2), (0, u "java/lang/constant/ConstantDesc"), (0, .class_ 4), (0, u "java/lang/Object")] 32

/-- java/lang/constant/ConstantDesc -/
def k6 : Class := { plain "java/lang/constant/ConstantDesc" (some 0) with
  accessFlags := 1537
  interfaces := #[]
  cf := some (fileOf pool6 1 #[] #[] 1537 3 #[] #[])
  fields := #[]
  methods := #[]
  instanceTypes := #[]
  staticTypes := #[]
  resolved := Array.replicate 37 none
  statics := none }

def pool7 : Array CpInfo := pool [(1, .methodref 2 3), (0, .class_ 4), (0, .nameAndType 5 6), (0, u "java/lang/Object"), (0, u "<init>"), (0, u "()V"), (0, .string 8), (0, u ""), (0, .fieldref 10 11), (0, .class_ 12), (0, .nameAndType 13 14), (0, u "java/lang/String"), (0, u "value"), (0, u "[B"), (0, .fieldref 10 16), (0, .nameAndType 17 18), (0, u "coder"), (0, u "B"), (2, u "hash"), (0, u "I"), (2, u "hashIsZero"), (0, u "Z"), (0, .methodref 10 28), (0, .nameAndType 5 29), (0, u "([CIILjava/lang/Void;)V"), (6, u "checkBoundsOffCount"), (0, u "(III)I"), (0, .fieldref 10 39), (0, .nameAndType 40 26), (0, u "COMPACT_STRINGS"), (1, .class_ 44), (1, u "java/lang/StringUTF16"), (0, u "compress"), (1, .methodref 42 48), (0, .nameAndType 49 50), (0, u "coderFromArrayLen"), (0, u "([BI)B"), (3, .methodref 55 56), (0, .class_ 57), (0, .nameAndType 58 59), (0, u "java/util/Arrays"), (0, u "copyOfRange"), (0, u "([BII)[B"), (46, .methodref 107 108), (0, .class_ 109), (0, .nameAndType 110 111), (0, u "java/lang/StringLatin1"), (0, u "inflate"), (0, u "([BI[BII)V"), (30, u "()Z"), (34, .methodref 42 178), (0, .nameAndType 45 179), (0, u "([CII)[B"), (13, .class_ 195), (1, u "java/lang/System"), (15, u "([BB)V"), (0, .methodref 193 213), (0, .nameAndType 214 215), (0, u "arraycopy"), (0, u "(Ljava/lang/Object;ILjava/lang/Object;II)V"), (118, u "()I"), (0, .methodref 10 336), (0, .nameAndType 17 337), (0, u "()B"), (2, u "()[B"), (22, u "([BI)C"), (27, u "(II)V"), (35, u "(I)C"), (61, .methodref 10 490), (0, .nameAndType 5 491), (0, u "(Ljava/lang/AbstractStringBuilder;Ljava/lang/Void;)V"), (0, .methodref 10 493), (0, .nameAndType 494 142), (0, u "isLatin1"), (0, .methodref 107 496), (0, .nameAndType 497 363), (0, u "charAt"), (0, .methodref 42 496), (2, u "checkIndex"), (3, .methodref 10 506), (0, .nameAndType 507 334), (0, u "length"), (5, u "checkFromToIndex"), (7, .methodref 10 522), (0, .nameAndType 523 524), (0, u "checkBoundsBeginEnd"), (0, u "(III)V"), (7, u "getBytes"), (16, .methodref 550 506), (0, .class_ 551), (0, u "java/lang/AbstractStringBuilder"), (0, .methodref 550 553), (0, .nameAndType 554 340), (0, u "getValue"), (20, .class_ 576), (0, u "java/lang/CharSequence"), (22, u "CASE_INSENSITIVE_ORDER"), (0, u "Ljava/util/Comparator;"), (82, u "substring"), (0, u "(II)Ljava/lang/String;"), (0, .methodref 107 686), (0, .nameAndType 687 688), (0, u "newString"), (0, u "([BII)Ljava/lang/String;"), (0, .methodref 42 686), (131, u "([BIB)V"), (188, u "([C)V"), (36, .methodref 550 493), (0, .fieldref 550 1049), (0, .nameAndType 1050 26), (0, u "maybeLatin1"), (2, .fieldref 1054 1055), (0, .class_ 1056), (0, .nameAndType 1057 1058), (0, u "jdk/internal/util/Preconditions"), (0, u "SIOOBE_FORMATTER"), (0, u "Ljava/util/function/BiFunction;"), (0, .methodref 1054 1060), (0, .nameAndType 501 1061), (0, u "(IILjava/util/function/BiFunction;)I"), (0, .methodref 1054 1063), (0, .nameAndType 513 1064), (0, u "(IIILjava/util/function/BiFunction;)I"), (0, .methodref 1054 1066), (0, .nameAndType 1067 1064), (0, u "checkFromIndexSize"), (33, u "serialPersistentFields"), (0, u "[Ljava/io/ObjectStreamField;"), (0, .class_ 1104), (0, u "java/lang/String$CaseInsensitiveComparator"), (1, .class_ 1107), (0, u "java/io/Serializable"), (0, .class_ 1109), (0, u "java/lang/Comparable"), (0, .class_ 1111), (0, u "java/lang/constant/Constable"), (0, .class_ 1113), (0, u "java/lang/constant/ConstantDesc"), (2, u "serialVersionUID"), (0, u "J"), (3, u "REPL"), (0, u "C"), (2, u "LATIN1"), (1, u "UTF16"), (105, u "(Ljava/lang/StringBuilder;)V")] 217

def k7m0 : Method := { name := "<init>", desc := "()V", sig := { parameters := [], returnType := none }, accessFlags := 1, code := none }
def k7c1 : Code := { maxStack := 5, maxLocals := 2, code := jdk_42_method_3_code, exceptionTable := #[], attributes := #[] }
def k7m1 : Method := { name := "<init>", desc := "([C)V", sig := { parameters := [(.array .char)], returnType := none }, accessFlags := 1, code := some k7c1 }
def k7c2 : Code := { maxStack := 3, maxLocals := 2, code := jdk_42_method_53_code, exceptionTable := #[], attributes := #[] }
def k7m2 : Method := { name := "<init>", desc := "(Ljava/lang/StringBuilder;)V", sig := { parameters := [(.object "java/lang/StringBuilder")], returnType := none }, accessFlags := 1, code := some k7c2 }
def k7c3 : Code := { maxStack := 2, maxLocals := 1, code := jdk_42_method_54_code, exceptionTable := #[], attributes := #[] }
def k7m3 : Method := { name := "length", desc := "()I", sig := { parameters := [], returnType := some .int }, accessFlags := 1, code := some k7c3 }
def k7c4 : Code := { maxStack := 2, maxLocals := 2, code := jdk_42_method_56_code, exceptionTable := #[], attributes := #[] }
def k7m4 : Method := { name := "charAt", desc := "(I)C", sig := { parameters := [.int], returnType := some .char }, accessFlags := 1, code := some k7c4 }
def k7c5 : Code := { maxStack := 3, maxLocals := 5, code := jdk_42_method_92_code, exceptionTable := #[], attributes := #[] }
def k7m5 : Method := { name := "substring", desc := "(II)Ljava/lang/String;", sig := { parameters := [.int, .int], returnType := some (.object "java/lang/String") }, accessFlags := 1, code := some k7c5 }
def k7c6 : Code := { maxStack := 5, maxLocals := 4, code := jdk_42_method_147_code, exceptionTable := #[], attributes := #[] }
def k7m6 : Method := { name := "getBytes", desc := "([BIB)V", sig := { parameters := [(.array .byte), .int, .byte], returnType := none }, accessFlags := 0, code := some k7c6 }
def k7c7 : Code := { maxStack := 4, maxLocals := 6, code := jdk_42_method_149_code, exceptionTable := #[], attributes := #[] }
def k7m7 : Method := { name := "<init>", desc := "([CIILjava/lang/Void;)V", sig := { parameters := [(.array .char), .int, .int, (.object "java/lang/Void")], returnType := none }, accessFlags := 2, code := some k7c7 }
def k7c8 : Code := { maxStack := 5, maxLocals := 5, code := jdk_42_method_150_code, exceptionTable := #[], attributes := #[] }
def k7m8 : Method := { name := "<init>", desc := "(Ljava/lang/AbstractStringBuilder;Ljava/lang/Void;)V", sig := { parameters := [(.object "java/lang/AbstractStringBuilder"), (.object "java/lang/Void")], returnType := none }, accessFlags := 0, code := some k7c8 }
def k7c9 : Code := { maxStack := 2, maxLocals := 3, code := jdk_42_method_151_code, exceptionTable := #[], attributes := #[] }
def k7m9 : Method := { name := "<init>", desc := "([BB)V", sig := { parameters := [(.array .byte), .byte], returnType := none }, accessFlags := 0, code := some k7c9 }
def k7c10 : Code := { maxStack := 1, maxLocals := 1, code := jdk_42_method_152_code, exceptionTable := #[], attributes := #[] }
def k7m10 : Method := { name := "coder", desc := "()B", sig := { parameters := [], returnType := some .byte }, accessFlags := 0, code := some k7c10 }
def k7c11 : Code := { maxStack := 1, maxLocals := 1, code := jdk_42_method_154_code, exceptionTable := #[], attributes := #[] }
def k7m11 : Method := { name := "isLatin1", desc := "()Z", sig := { parameters := [], returnType := some .boolean }, accessFlags := 0, code := some k7c11 }
def k7c12 : Code := { maxStack := 3, maxLocals := 2, code := jdk_42_method_155_code, exceptionTable := #[], attributes := #[] }
def k7m12 : Method := { name := "checkIndex", desc := "(II)V", sig := { parameters := [.int, .int], returnType := none }, accessFlags := 8, code := some k7c12 }
def k7c13 : Code := { maxStack := 4, maxLocals := 3, code := jdk_42_method_157_code, exceptionTable := #[], attributes := #[] }
def k7m13 : Method := { name := "checkBoundsOffCount", desc := "(III)I", sig := { parameters := [.int, .int, .int], returnType := some .int }, accessFlags := 8, code := some k7c13 }
def k7c14 : Code := { maxStack := 4, maxLocals := 3, code := jdk_42_method_158_code, exceptionTable := #[], attributes := #[] }
def k7m14 : Method := { name := "checkBoundsBeginEnd", desc := "(III)V", sig := { parameters := [.int, .int, .int], returnType := none }, accessFlags := 8, code := some k7c14 }
/-- java/lang/String -/
def k7 : Class := { plain "java/lang/String" (some 0) with
  accessFlags := 49
  interfaces := #[2, 3, 4, 5, 6]
  cf := some (fileOf pool7 10 #[.nestMembers #[1103]] #[{ accessFlags := 1, nameIndex := 5, descriptorIndex := 6, attributes := #[] }, { accessFlags := 1, nameIndex := 5, descriptorIndex := 1010, attributes := #[] }, { accessFlags := 1, nameIndex := 5, descriptorIndex := 1233, attributes := #[] }, { accessFlags := 1, nameIndex := 507, descriptorIndex := 334, attributes := #[] }, { accessFlags := 1, nameIndex := 497, descriptorIndex := 427, attributes := #[] }, { accessFlags := 1, nameIndex := 683, descriptorIndex := 684, attributes := #[] }, { accessFlags := 0, nameIndex := 532, descriptorIndex := 821, attributes := #[] }, { accessFlags := 2, nameIndex := 5, descriptorIndex := 29, attributes := #[] }, { accessFlags := 0, nameIndex := 5, descriptorIndex := 491, attributes := #[] }, { accessFlags := 0, nameIndex := 5, descriptorIndex := 211, attributes := #[] }, { accessFlags := 0, nameIndex := 17, descriptorIndex := 337, attributes := #[] }, { accessFlags := 0, nameIndex := 494, descriptorIndex := 142, attributes := #[] }, { accessFlags := 8, nameIndex := 501, descriptorIndex := 391, attributes := #[] }, { accessFlags := 8, nameIndex := 36, descriptorIndex := 37, attributes := #[] }, { accessFlags := 8, nameIndex := 523, descriptorIndex := 524, attributes := #[] }] 49 2 #[1106, 1108, 575, 1110, 1112] #[{ accessFlags := 18, nameIndex := 13, descriptorIndex := 14, attributes := #[] }, { accessFlags := 18, nameIndex := 17, descriptorIndex := 18, attributes := #[] }, { accessFlags := 2, nameIndex := 21, descriptorIndex := 22, attributes := #[] }, { accessFlags := 2, nameIndex := 25, descriptorIndex := 26, attributes := #[] }, { accessFlags := 26, nameIndex := 1116, descriptorIndex := 1117, attributes := #[] }, { accessFlags := 24, nameIndex := 40, descriptorIndex := 26, attributes := #[] }, { accessFlags := 26, nameIndex := 1101, descriptorIndex := 1102, attributes := #[] }, { accessFlags := 26, nameIndex := 1121, descriptorIndex := 1122, attributes := #[] }, { accessFlags := 25, nameIndex := 599, descriptorIndex := 600, attributes := #[] }, { accessFlags := 24, nameIndex := 1125, descriptorIndex := 18, attributes := #[] }, { accessFlags := 24, nameIndex := 1127, descriptorIndex := 18, attributes := #[] }])
  fields := #[{ name := "value", type := (.array .byte), accessFlags := 18, slot := 0, constantValue := 0 }, { name := "coder", type := .byte, accessFlags := 18, slot := 1, constantValue := 0 }, { name := "hash", type := .int, accessFlags := 2, slot := 2, constantValue := 0 }, { name := "hashIsZero", type := .boolean, accessFlags := 2, slot := 3, constantValue := 0 }, { name := "serialVersionUID", type := .long, accessFlags := 26, slot := 0, constantValue := 0 }, { name := "COMPACT_STRINGS", type := .boolean, accessFlags := 24, slot := 1, constantValue := 0 }, { name := "serialPersistentFields", type := (.array (.object "java/io/ObjectStreamField")), accessFlags := 26, slot := 2, constantValue := 0 }, { name := "REPL", type := .char, accessFlags := 26, slot := 3, constantValue := 0 }, { name := "CASE_INSENSITIVE_ORDER", type := (.object "java/util/Comparator"), accessFlags := 25, slot := 4, constantValue := 0 }, { name := "LATIN1", type := .byte, accessFlags := 24, slot := 5, constantValue := 0 }, { name := "UTF16", type := .byte, accessFlags := 24, slot := 6, constantValue := 0 }]
  methods := #[k7m0, k7m1, k7m2, k7m3, k7m4, k7m5, k7m6, k7m7, k7m8, k7m9, k7m10, k7m11, k7m12, k7m13, k7m14]
  instanceTypes := #[(.array .byte), .byte, .int, .boolean]
  staticTypes := #[.long, .boolean, (.array (.object "java/io/ObjectStreamField")), .char, (.object "java/util/Comparator"), .byte, .byte]
  resolved := Array.replicate 1451 none
  statics := some 0 }

def pool8 : Array CpInfo := pool [(2, .class_ 4), (0, .nameAndType 5 6), (0, u "java/lang/Object"), (0, u "<init>"), (0, u "()V"), (0, .methodref 8 9), (0, .class_ 10), (0, .nameAndType 11 12), (0, u "java/lang/String"), (0, u "length"), (0, u "()I"), (0, .class_ 14), (0, u "com/example/unibrace/unibrace/ErrorText"), (0, .class_ 16), (0, u "java/lang/StringBuilder"), (0, .methodref 15 3), (0, .methodref 8 19), (0, .nameAndType 20 21), (0, u "substring"), (0, u "(II)Ljava/lang/String;"), (0, .methodref 15 23), (0, .nameAndType 24 25), (0, u "append"), (0, u "(Ljava/lang/String;)Ljava/lang/StringBuilder;"), (0, .string 27), (0, u "..."), (0, .methodref 15 29), (0, .nameAndType 30 31), (0, u "toString"), (0, u "()Ljava/lang/String;"), (0, .string 33), (0, u "\""), (4, u "quote"), (0, u "(Ljava/lang/String;)Ljava/lang/String;"), (27, u "LONGEST"), (0, u "I")] 9

def k8m0 : Method := { name := "<init>", desc := "()V", sig := { parameters := [], returnType := none }, accessFlags := 2, code := none }
def k8c1 : Code := { maxStack := 4, maxLocals := 2, code := prog_1_method_2_code, exceptionTable := #[], attributes := #[] }
def k8m1 : Method := { name := "quote", desc := "(Ljava/lang/String;)Ljava/lang/String;", sig := { parameters := [(.object "java/lang/String")], returnType := some (.object "java/lang/String") }, accessFlags := 8, code := some k8c1 }
/-- com/example/unibrace/unibrace/ErrorText -/
def k8 : Class := { plain "com/example/unibrace/unibrace/ErrorText" (some 0) with
  accessFlags := 48
  interfaces := #[]
  cf := some (fileOf pool8 13 #[] #[{ accessFlags := 2, nameIndex := 5, descriptorIndex := 6, attributes := #[] }, { accessFlags := 8, nameIndex := 38, descriptorIndex := 39, attributes := #[] }] 48 2 #[] #[{ accessFlags := 26, nameIndex := 67, descriptorIndex := 68, attributes := #[] }])
  fields := #[{ name := "LONGEST", type := .int, accessFlags := 26, slot := 0, constantValue := 0 }]
  methods := #[k8m0, k8m1]
  instanceTypes := #[]
  staticTypes := #[.int]
  resolved := Array.replicate 78 none
  statics := none }

def pool9 : Array CpInfo := pool [(1, .class_ 2), (0, u "java/lang/Appendable"), (0, .class_ 4), (0, u "java/lang/Object")] 9

/-- java/lang/Appendable -/
def k9 : Class := { plain "java/lang/Appendable" (some 0) with
  accessFlags := 1537
  interfaces := #[]
  cf := some (fileOf pool9 1 #[] #[] 1537 3 #[] #[])
  fields := #[]
  methods := #[]
  instanceTypes := #[]
  staticTypes := #[]
  resolved := Array.replicate 14 none
  statics := none }

def pool10 : Array CpInfo := pool [(1, .class_ 2), (0, u "java/lang/String"), (0, .methodref 4 5), (0, .class_ 6), (0, .nameAndType 7 8), (0, u "java/lang/Object"), (0, u "<init>"), (0, u "()V"), (1, .class_ 12), (1, u "java/lang/AbstractStringBuilder"), (0, u "EMPTYVALUE"), (0, u "[B"), (0, .fieldref 10 16), (0, .nameAndType 17 14), (0, u "value"), (0, .fieldref 1 19), (0, .nameAndType 20 21), (0, u "COMPACT_STRINGS"), (0, u "Z"), (0, .fieldref 10 23), (0, .nameAndType 24 25), (0, u "coder"), (0, u "B"), (0, .methodref 27 28), (0, .class_ 29), (0, .nameAndType 30 31), (0, u "java/lang/StringUTF16"), (0, u "newBytesFor"), (0, u "(I)[B"), (0, .methodref 1 33), (0, .nameAndType 34 35), (0, u "length"), (0, u "()I"), (3, .integer 2147483647), (0, .methodref 1 41), (0, .nameAndType 24 42), (0, u "()B"), (2, u "append"), (0, u "(Ljava/lang/String;)Ljava/lang/AbstractStringBuilder;"), (1, .class_ 49), (0, u "java/lang/CharSequence"), (19, u "(Ljava/lang/String;)V"), (5, u "maybeLatin1"), (3, .fieldref 10 80), (0, .nameAndType 81 82), (0, u "count"), (0, u "I"), (0, .methodref 10 84), (0, .nameAndType 85 86), (0, u "isLatin1"), (0, u "()Z"), (1, .class_ 90), (1, u "java/lang/StringLatin1"), (9, .methodref 10 101), (0, .nameAndType 102 103), (0, u "ensureCapacityInternal"), (0, u "(I)V"), (0, .methodref 10 105), (0, .nameAndType 106 107), (0, u "newCapacity"), (0, u "(I)I"), (0, .methodref 109 110), (0, .class_ 111), (0, .nameAndType 112 113), (0, u "java/util/Arrays"), (0, u "copyOf"), (0, u "([BI)[B"), (0, .methodref 115 116), (0, .class_ 117), (0, .nameAndType 118 119), (0, u "jdk/internal/util/ArraysSupport"), (0, u "newLength"), (0, u "(III)I"), (5, .methodref 88 126), (0, .nameAndType 127 128), (0, u "inflate"), (0, u "([BI[BII)V"), (66, .methodref 10 196), (0, .nameAndType 127 8), (11, .methodref 10 209), (0, .nameAndType 210 211), (0, u "putStringAt"), (0, u "(ILjava/lang/String;)V"), (5, u "inflateIfNeededFor"), (2, .nameAndType 221 222), (0, u "getBytes"), (0, u "([BIB)V"), (174, .methodref 10 398), (0, .nameAndType 217 69), (0, .methodref 1 220), (3, u "()[B"), (40, .class_ 445), (0, u "java/lang/Appendable"), (106, u "getValue")] 56

def k10m0 : Method := { name := "<init>", desc := "()V", sig := { parameters := [], returnType := none }, accessFlags := 0, code := none }
def k10c1 : Code := { maxStack := 2, maxLocals := 2, code := jdk_68_method_2_code, exceptionTable := #[], attributes := #[] }
def k10m1 : Method := { name := "<init>", desc := "(I)V", sig := { parameters := [.int], returnType := none }, accessFlags := 0, code := some k10c1 }
def k10c2 : Code := { maxStack := 1, maxLocals := 1, code := jdk_68_method_6_code, exceptionTable := #[], attributes := #[] }
def k10m2 : Method := { name := "length", desc := "()I", sig := { parameters := [], returnType := some .int }, accessFlags := 1, code := some k10c2 }
def k10c3 : Code := { maxStack := 4, maxLocals := 3, code := jdk_68_method_9_code, exceptionTable := #[], attributes := #[] }
def k10m3 : Method := { name := "ensureCapacityInternal", desc := "(I)V", sig := { parameters := [.int], returnType := none }, accessFlags := 2, code := some k10c3 }
def k10c4 : Code := { maxStack := 5, maxLocals := 6, code := jdk_68_method_10_code, exceptionTable := #[], attributes := #[] }
def k10m4 : Method := { name := "newCapacity", desc := "(I)I", sig := { parameters := [.int], returnType := some .int }, accessFlags := 2, code := some k10c4 }
def k10c5 : Code := { maxStack := 5, maxLocals := 2, code := jdk_68_method_11_code, exceptionTable := #[], attributes := #[] }
def k10m5 : Method := { name := "inflate", desc := "()V", sig := { parameters := [], returnType := none }, accessFlags := 2, code := some k10c5 }
def k10c6 : Code := { maxStack := 3, maxLocals := 3, code := jdk_68_method_22_code, exceptionTable := #[], attributes := #[] }
def k10m6 : Method := { name := "append", desc := "(Ljava/lang/String;)Ljava/lang/AbstractStringBuilder;", sig := { parameters := [(.object "java/lang/String")], returnType := some (.object "java/lang/AbstractStringBuilder") }, accessFlags := 1, code := some k10c6 }
def k10c7 : Code := { maxStack := 1, maxLocals := 1, code := jdk_68_method_64_code, exceptionTable := #[], attributes := #[] }
def k10m7 : Method := { name := "getValue", desc := "()[B", sig := { parameters := [], returnType := some (.array .byte) }, accessFlags := 16, code := some k10c7 }
def k10c8 : Code := { maxStack := 1, maxLocals := 1, code := jdk_68_method_68_code, exceptionTable := #[], attributes := #[] }
def k10m8 : Method := { name := "isLatin1", desc := "()Z", sig := { parameters := [], returnType := some .boolean }, accessFlags := 16, code := some k10c8 }
def k10c9 : Code := { maxStack := 2, maxLocals := 2, code := jdk_68_method_71_code, exceptionTable := #[], attributes := #[] }
def k10m9 : Method := { name := "inflateIfNeededFor", desc := "(Ljava/lang/String;)V", sig := { parameters := [(.object "java/lang/String")], returnType := none }, accessFlags := 2, code := some k10c9 }
def k10c10 : Code := { maxStack := 4, maxLocals := 3, code := jdk_68_method_73_code, exceptionTable := #[], attributes := #[] }
def k10m10 : Method := { name := "putStringAt", desc := "(ILjava/lang/String;)V", sig := { parameters := [.int, (.object "java/lang/String")], returnType := none }, accessFlags := 2, code := some k10c10 }
/-- java/lang/AbstractStringBuilder -/
def k10 : Class := { plain "java/lang/AbstractStringBuilder" (some 0) with
  accessFlags := 1056
  interfaces := #[9, 4]
  cf := some (fileOf pool10 10 #[] #[{ accessFlags := 0, nameIndex := 7, descriptorIndex := 8, attributes := #[] }, { accessFlags := 0, nameIndex := 7, descriptorIndex := 103, attributes := #[] }, { accessFlags := 1, nameIndex := 34, descriptorIndex := 35, attributes := #[] }, { accessFlags := 2, nameIndex := 102, descriptorIndex := 103, attributes := #[] }, { accessFlags := 2, nameIndex := 106, descriptorIndex := 107, attributes := #[] }, { accessFlags := 2, nameIndex := 127, descriptorIndex := 8, attributes := #[] }, { accessFlags := 1, nameIndex := 45, descriptorIndex := 46, attributes := #[] }, { accessFlags := 16, nameIndex := 552, descriptorIndex := 403, attributes := #[] }, { accessFlags := 16, nameIndex := 85, descriptorIndex := 86, attributes := #[] }, { accessFlags := 2, nameIndex := 217, descriptorIndex := 69, attributes := #[] }, { accessFlags := 2, nameIndex := 210, descriptorIndex := 211, attributes := #[] }] 1056 4 #[444, 48] #[{ accessFlags := 0, nameIndex := 17, descriptorIndex := 14, attributes := #[] }, { accessFlags := 0, nameIndex := 24, descriptorIndex := 25, attributes := #[] }, { accessFlags := 0, nameIndex := 75, descriptorIndex := 21, attributes := #[] }, { accessFlags := 0, nameIndex := 81, descriptorIndex := 82, attributes := #[] }, { accessFlags := 26, nameIndex := 13, descriptorIndex := 14, attributes := #[] }])
  fields := #[{ name := "value", type := (.array .byte), accessFlags := 0, slot := 0, constantValue := 0 }, { name := "coder", type := .byte, accessFlags := 0, slot := 1, constantValue := 0 }, { name := "maybeLatin1", type := .boolean, accessFlags := 0, slot := 2, constantValue := 0 }, { name := "count", type := .int, accessFlags := 0, slot := 3, constantValue := 0 }, { name := "EMPTYVALUE", type := (.array .byte), accessFlags := 26, slot := 0, constantValue := 0 }]
  methods := #[k10m0, k10m1, k10m2, k10m3, k10m4, k10m5, k10m6, k10m7, k10m8, k10m9, k10m10]
  instanceTypes := #[(.array .byte), .byte, .boolean, .int]
  staticTypes := #[(.array .byte)]
  resolved := Array.replicate 609 none
  statics := none }

def pool11 : Array CpInfo := pool [(1, .methodref 2 3), (0, .class_ 4), (0, .nameAndType 5 6), (0, u "java/lang/AbstractStringBuilder"), (0, u "<init>"), (0, u "(I)V"), (11, .class_ 20), (1, u "java/lang/String"), (3, .class_ 26), (1, u "java/lang/StringBuilder"), (0, u "append"), (0, u "(Ljava/lang/String;)Ljava/lang/StringBuilder;"), (0, .methodref 2 30), (0, .nameAndType 27 31), (0, u "(Ljava/lang/String;)Ljava/lang/AbstractStringBuilder;"), (105, .methodref 18 138), (0, .nameAndType 5 139), (0, u "(Ljava/lang/StringBuilder;)V"), (5, u "()V"), (10, u "()I"), (186, .methodref 2 344), (0, .nameAndType 345 156), (0, u "length"), (3, .class_ 350), (0, u "java/lang/Appendable"), (0, .class_ 352), (0, u "java/io/Serializable"), (0, .class_ 354), (0, u "java/lang/Comparable"), (0, .class_ 356), (0, u "java/lang/CharSequence"), (0, u "serialVersionUID"), (0, u "J"), (40, u "toString"), (0, u "()Ljava/lang/String;")] 21

def k11c0 : Code := { maxStack := 2, maxLocals := 1, code := jdk_67_method_1_code, exceptionTable := #[], attributes := #[] }
def k11m0 : Method := { name := "<init>", desc := "()V", sig := { parameters := [], returnType := none }, accessFlags := 1, code := some k11c0 }
def k11c1 : Code := { maxStack := 2, maxLocals := 2, code := jdk_67_method_7_code, exceptionTable := #[], attributes := #[] }
def k11m1 : Method := { name := "append", desc := "(Ljava/lang/String;)Ljava/lang/StringBuilder;", sig := { parameters := [(.object "java/lang/String")], returnType := some (.object "java/lang/StringBuilder") }, accessFlags := 1, code := some k11c1 }
def k11c2 : Code := { maxStack := 3, maxLocals := 1, code := jdk_67_method_42_code, exceptionTable := #[], attributes := #[] }
def k11m2 : Method := { name := "toString", desc := "()Ljava/lang/String;", sig := { parameters := [], returnType := some (.object "java/lang/String") }, accessFlags := 1, code := some k11c2 }
def k11c3 : Code := { maxStack := 1, maxLocals := 1, code := jdk_67_method_93_code, exceptionTable := #[], attributes := #[] }
def k11m3 : Method := { name := "length", desc := "()I", sig := { parameters := [], returnType := some .int }, accessFlags := 4161, code := some k11c3 }
/-- java/lang/StringBuilder -/
def k11 : Class := { plain "java/lang/StringBuilder" (some 10) with
  accessFlags := 49
  interfaces := #[9, 2, 3, 4]
  cf := some (fileOf pool11 24 #[] #[{ accessFlags := 1, nameIndex := 5, descriptorIndex := 145, attributes := #[] }, { accessFlags := 1, nameIndex := 27, descriptorIndex := 28, attributes := #[] }, { accessFlags := 1, nameIndex := 399, descriptorIndex := 400, attributes := #[] }, { accessFlags := 4161, nameIndex := 345, descriptorIndex := 156, attributes := #[] }] 49 2 #[349, 351, 353, 355] #[{ accessFlags := 24, nameIndex := 357, descriptorIndex := 358, attributes := #[] }])
  fields := #[{ name := "serialVersionUID", type := .long, accessFlags := 24, slot := 0, constantValue := 0 }]
  methods := #[k11m0, k11m1, k11m2, k11m3]
  instanceTypes := #[(.array .byte), .byte, .boolean, .int]
  staticTypes := #[.long]
  resolved := Array.replicate 422 none
  statics := none }

def pool12 : Array CpInfo := pool [(2, .class_ 4), (1, u "java/lang/Object"), (0, u "<init>"), (0, u "()V"), (1, .class_ 10), (1, u "java/lang/System"), (0, u "allowSecurityManager"), (0, u "I"), (16, u "cons"), (0, u "Ljava/io/Console;"), (77, .class_ 110), (1, u "java/lang/System$CallersHolder"), (43, u "initialErrStream"), (0, u "Ljava/io/PrintStream;"), (19, u "security"), (0, u "Ljava/lang/SecurityManager;"), (31, .class_ 209), (0, u "java/lang/System$1"), (7, u "props"), (0, u "Ljava/util/Properties;"), (2, u "lineSeparator"), (0, u "Ljava/lang/String;"), (96, .class_ 321), (1, u "java/lang/System$LoggerFinder"), (5, .class_ 328), (0, u "java/lang/System$Logger"), (67, u "err"), (2, u "out"), (91, u "notSupportedJnuEncoding"), (15, u "in"), (17, u "initialIn"), (0, u "Ljava/io/InputStream;"), (35, u "bootLayer"), (0, u "Ljava/lang/ModuleLayer;"), (99, .class_ 664), (0, u "java/lang/System$2"), (9, u "NEVER"), (2, u "MAYBE"), (49, u "arraycopy"), (0, u "(Ljava/lang/Object;ILjava/lang/Object;II)V"), (72, .class_ 802), (0, u "java/lang/System$Logger$Level")] 31

def k12m0 : Method := { name := "<init>", desc := "()V", sig := { parameters := [], returnType := none }, accessFlags := 2, code := none }
def k12m1 : Method := { name := "arraycopy", desc := "(Ljava/lang/Object;ILjava/lang/Object;II)V", sig := { parameters := [(.object "java/lang/Object"), .int, (.object "java/lang/Object"), .int, .int], returnType := none }, accessFlags := 265, code := none }
/-- java/lang/System -/
def k12 : Class := { plain "java/lang/System" (some 0) with
  accessFlags := 49
  interfaces := #[]
  cf := some (fileOf pool12 8 #[.nestMembers #[319, 327, 801, 108, 663, 208]] #[{ accessFlags := 2, nameIndex := 5, descriptorIndex := 6, attributes := #[] }, { accessFlags := 265, nameIndex := 727, descriptorIndex := 728, attributes := #[] }] 49 2 #[] #[{ accessFlags := 25, nameIndex := 507, descriptorIndex := 526, attributes := #[] }, { accessFlags := 25, nameIndex := 399, descriptorIndex := 155, attributes := #[] }, { accessFlags := 25, nameIndex := 396, descriptorIndex := 155, attributes := #[] }, { accessFlags := 10, nameIndex := 525, descriptorIndex := 526, attributes := #[] }, { accessFlags := 26, nameIndex := 674, descriptorIndex := 12, attributes := #[] }, { accessFlags := 26, nameIndex := 677, descriptorIndex := 12, attributes := #[] }, { accessFlags := 10, nameIndex := 11, descriptorIndex := 12, attributes := #[] }, { accessFlags := 74, nameIndex := 175, descriptorIndex := 176, attributes := #[] }, { accessFlags := 10, nameIndex := 491, descriptorIndex := 222, attributes := #[] }, { accessFlags := 74, nameIndex := 29, descriptorIndex := 30, attributes := #[] }, { accessFlags := 74, nameIndex := 154, descriptorIndex := 155, attributes := #[] }, { accessFlags := 10, nameIndex := 217, descriptorIndex := 218, attributes := #[] }, { accessFlags := 10, nameIndex := 221, descriptorIndex := 222, attributes := #[] }, { accessFlags := 8, nameIndex := 562, descriptorIndex := 563, attributes := #[] }])
  fields := #[{ name := "in", type := (.object "java/io/InputStream"), accessFlags := 25, slot := 0, constantValue := 0 }, { name := "out", type := (.object "java/io/PrintStream"), accessFlags := 25, slot := 1, constantValue := 0 }, { name := "err", type := (.object "java/io/PrintStream"), accessFlags := 25, slot := 2, constantValue := 0 }, { name := "initialIn", type := (.object "java/io/InputStream"), accessFlags := 10, slot := 3, constantValue := 0 }, { name := "NEVER", type := .int, accessFlags := 26, slot := 4, constantValue := 0 }, { name := "MAYBE", type := .int, accessFlags := 26, slot := 5, constantValue := 0 }, { name := "allowSecurityManager", type := .int, accessFlags := 10, slot := 6, constantValue := 0 }, { name := "security", type := (.object "java/lang/SecurityManager"), accessFlags := 74, slot := 7, constantValue := 0 }, { name := "notSupportedJnuEncoding", type := (.object "java/lang/String"), accessFlags := 10, slot := 8, constantValue := 0 }, { name := "cons", type := (.object "java/io/Console"), accessFlags := 74, slot := 9, constantValue := 0 }, { name := "initialErrStream", type := (.object "java/io/PrintStream"), accessFlags := 74, slot := 10, constantValue := 0 }, { name := "props", type := (.object "java/util/Properties"), accessFlags := 10, slot := 11, constantValue := 0 }, { name := "lineSeparator", type := (.object "java/lang/String"), accessFlags := 10, slot := 12, constantValue := 0 }, { name := "bootLayer", type := (.object "java/lang/ModuleLayer"), accessFlags := 8, slot := 13, constantValue := 0 }]
  methods := #[k12m0, k12m1]
  instanceTypes := #[]
  staticTypes := #[(.object "java/io/InputStream"), (.object "java/io/PrintStream"), (.object "java/io/PrintStream"), (.object "java/io/InputStream"), .int, .int, .int, (.object "java/lang/SecurityManager"), (.object "java/lang/String"), (.object "java/io/Console"), (.object "java/io/PrintStream"), (.object "java/util/Properties"), (.object "java/lang/String"), (.object "java/lang/ModuleLayer")]
  resolved := Array.replicate 834 none
  statics := none }

def pool13 : Array CpInfo := pool [(2, .class_ 4), (1, u "java/lang/Object"), (0, u "<init>"), (0, u "()V"), (7, .class_ 16), (1, u "java/util/Arrays"), (57, .class_ 76), (1, u "java/util/Arrays$NaturalOrder"), (36, .class_ 115), (1, u "java/util/Arrays$LegacyMergeSort"), (1, u "Z"), (21, u "copyOfRange"), (10, .methodref 151 152), (0, .class_ 153), (0, .nameAndType 154 155), (0, u "java/lang/System"), (0, u "arraycopy"), (0, u "(Ljava/lang/Object;ILjava/lang/Object;II)V"), (146, u "copyOf"), (1, .methodref 305 306), (0, .class_ 307), (0, .nameAndType 308 309), (0, u "java/lang/Math"), (0, u "min"), (0, u "(II)I"), (29, .methodref 14 340), (0, .nameAndType 341 342), (0, u "copyOfRangeByte"), (0, u "([BII)[B"), (0, .methodref 14 344), (0, .nameAndType 345 346), (0, u "checkLength"), (0, u "(II)V"), (28, .class_ 376), (0, u "java/util/Arrays$ArrayList"), (68, u "$assertionsDisabled"), (269, u "MIN_ARRAY_SORT_GRAN"), (0, u "I"), (2, u "INSERTIONSORT_THRESHOLD"), (149, u "([BI)[B"), (105, .class_ 976), (0, u "java/util/Arrays$ArrayItr")] 52

def k13m0 : Method := { name := "<init>", desc := "()V", sig := { parameters := [], returnType := none }, accessFlags := 2, code := none }
def k13c1 : Code := { maxStack := 6, maxLocals := 3, code := jdk_65_method_121_code, exceptionTable := #[], attributes := #[] }
def k13m1 : Method := { name := "copyOf", desc := "([BI)[B", sig := { parameters := [(.array .byte), .int], returnType := some (.array .byte) }, accessFlags := 9, code := some k13c1 }
def k13c2 : Code := { maxStack := 4, maxLocals := 2, code := jdk_65_method_131_code, exceptionTable := #[], attributes := #[] }
def k13m2 : Method := { name := "checkLength", desc := "(II)V", sig := { parameters := [.int, .int], returnType := none }, accessFlags := 10, code := some k13c2 }
def k13c3 : Code := { maxStack := 3, maxLocals := 3, code := jdk_65_method_132_code, exceptionTable := #[], attributes := #[] }
def k13m3 : Method := { name := "copyOfRange", desc := "([BII)[B", sig := { parameters := [(.array .byte), .int, .int], returnType := some (.array .byte) }, accessFlags := 9, code := some k13c3 }
def k13c4 : Code := { maxStack := 6, maxLocals := 5, code := jdk_65_method_133_code, exceptionTable := #[], attributes := #[] }
def k13m4 : Method := { name := "copyOfRangeByte", desc := "([BII)[B", sig := { parameters := [(.array .byte), .int, .int], returnType := some (.array .byte) }, accessFlags := 10, code := some k13c4 }
/-- java/util/Arrays -/
def k13 : Class := { plain "java/util/Arrays" (some 0) with
  accessFlags := 49
  interfaces := #[]
  cf := some (fileOf pool13 14 #[.nestMembers #[975, 375, 113, 74]] #[{ accessFlags := 2, nameIndex := 5, descriptorIndex := 6, attributes := #[] }, { accessFlags := 9, nameIndex := 302, descriptorIndex := 869, attributes := #[] }, { accessFlags := 10, nameIndex := 345, descriptorIndex := 346, attributes := #[] }, { accessFlags := 9, nameIndex := 139, descriptorIndex := 342, attributes := #[] }, { accessFlags := 10, nameIndex := 341, descriptorIndex := 342, attributes := #[] }] 49 2 #[] #[{ accessFlags := 26, nameIndex := 715, descriptorIndex := 716, attributes := #[] }, { accessFlags := 26, nameIndex := 719, descriptorIndex := 716, attributes := #[] }, { accessFlags := 4120, nameIndex := 445, descriptorIndex := 117, attributes := #[] }])
  fields := #[{ name := "MIN_ARRAY_SORT_GRAN", type := .int, accessFlags := 26, slot := 0, constantValue := 0 }, { name := "INSERTIONSORT_THRESHOLD", type := .int, accessFlags := 26, slot := 1, constantValue := 0 }, { name := "$assertionsDisabled", type := .boolean, accessFlags := 4120, slot := 2, constantValue := 0 }]
  methods := #[k13m0, k13m1, k13m2, k13m3, k13m4]
  instanceTypes := #[]
  staticTypes := #[.int, .int, .boolean]
  resolved := Array.replicate 1029 none
  statics := none }

def pool14 : Array CpInfo := pool [(1, .class_ 2), (0, u "java/lang/Math"), (1, .class_ 6), (1, u "java/lang/Object"), (0, u "<init>"), (0, u "()V"), (89, .class_ 100), (1, u "java/lang/Math$RandomNumberGeneratorHolder"), (71, u "negativeZeroFloatBits"), (0, u "J"), (2, u "negativeZeroDoubleBits"), (21, u "max"), (2, u "min"), (43, u "$assertionsDisabled"), (0, u "Z"), (88, u "(II)I"), (2, u "twoToTheDoubleScaleDown"), (0, u "D"), (4, u "twoToTheDoubleScaleUp"), (9, u "E"), (3, u "PI"), (2, u "TAU"), (2, u "DEGREES_TO_RADIANS"), (0, u "RADIANS_TO_DEGREES")] 94

def k14m0 : Method := { name := "<init>", desc := "()V", sig := { parameters := [], returnType := none }, accessFlags := 2, code := none }
def k14c1 : Code := { maxStack := 2, maxLocals := 2, code := jdk_29_method_65_code, exceptionTable := #[], attributes := #[] }
def k14m1 : Method := { name := "max", desc := "(II)I", sig := { parameters := [.int, .int], returnType := some .int }, accessFlags := 9, code := some k14c1 }
def k14c2 : Code := { maxStack := 2, maxLocals := 2, code := jdk_29_method_69_code, exceptionTable := #[], attributes := #[] }
def k14m2 : Method := { name := "min", desc := "(II)I", sig := { parameters := [.int, .int], returnType := some .int }, accessFlags := 9, code := some k14c2 }
/-- java/lang/Math -/
def k14 : Class := { plain "java/lang/Math" (some 0) with
  accessFlags := 49
  interfaces := #[]
  cf := some (fileOf pool14 1 #[.nestMembers #[98]] #[{ accessFlags := 2, nameIndex := 7, descriptorIndex := 8, attributes := #[] }, { accessFlags := 9, nameIndex := 198, descriptorIndex := 335, attributes := #[] }, { accessFlags := 9, nameIndex := 201, descriptorIndex := 335, attributes := #[] }] 49 4 #[] #[{ accessFlags := 25, nameIndex := 354, descriptorIndex := 339, attributes := #[] }, { accessFlags := 25, nameIndex := 358, descriptorIndex := 339, attributes := #[] }, { accessFlags := 25, nameIndex := 361, descriptorIndex := 339, attributes := #[] }, { accessFlags := 26, nameIndex := 364, descriptorIndex := 339, attributes := #[] }, { accessFlags := 26, nameIndex := 365, descriptorIndex := 339, attributes := #[] }, { accessFlags := 26, nameIndex := 172, descriptorIndex := 173, attributes := #[] }, { accessFlags := 26, nameIndex := 176, descriptorIndex := 173, attributes := #[] }, { accessFlags := 8, nameIndex := 344, descriptorIndex := 339, attributes := #[] }, { accessFlags := 8, nameIndex := 338, descriptorIndex := 339, attributes := #[] }, { accessFlags := 4120, nameIndex := 245, descriptorIndex := 246, attributes := #[] }])
  fields := #[{ name := "E", type := .double, accessFlags := 25, slot := 0, constantValue := 0 }, { name := "PI", type := .double, accessFlags := 25, slot := 1, constantValue := 0 }, { name := "TAU", type := .double, accessFlags := 25, slot := 2, constantValue := 0 }, { name := "DEGREES_TO_RADIANS", type := .double, accessFlags := 26, slot := 3, constantValue := 0 }, { name := "RADIANS_TO_DEGREES", type := .double, accessFlags := 26, slot := 4, constantValue := 0 }, { name := "negativeZeroFloatBits", type := .long, accessFlags := 26, slot := 5, constantValue := 0 }, { name := "negativeZeroDoubleBits", type := .long, accessFlags := 26, slot := 6, constantValue := 0 }, { name := "twoToTheDoubleScaleUp", type := .double, accessFlags := 8, slot := 7, constantValue := 0 }, { name := "twoToTheDoubleScaleDown", type := .double, accessFlags := 8, slot := 8, constantValue := 0 }, { name := "$assertionsDisabled", type := .boolean, accessFlags := 4120, slot := 9, constantValue := 0 }]
  methods := #[k14m0, k14m1, k14m2]
  instanceTypes := #[]
  staticTypes := #[.double, .double, .double, .double, .double, .long, .long, .double, .double, .boolean]
  resolved := Array.replicate 460 none
  statics := none }

def pool15 : Array CpInfo := pool [(1, .class_ 2), (0, u "java/lang/String"), (1, .class_ 6), (1, u "java/lang/Object"), (0, u "<init>"), (0, u "()V"), (0, .methodref 1 10), (0, .nameAndType 11 12), (0, u "checkIndex"), (0, u "(II)V"), (1, .class_ 16), (1, u "java/lang/StringLatin1"), (0, u "inflate"), (2, .class_ 22), (1, u "java/lang/StringUTF16"), (3, .nameAndType 17 27), (0, u "([BI[BII)V"), (25, u "([BI)C"), (58, .methodref 1 113), (0, .nameAndType 7 114), (0, u "([BB)V"), (6, u "$assertionsDisabled"), (0, u "Z"), (8, .class_ 133), (1, u "java/util/Arrays"), (62, u "newString"), (0, u "([BII)Ljava/lang/String;"), (23, .class_ 223), (1, u "java/lang/StringLatin1$LinesSpliterator"), (8, .methodref 131 233), (0, .nameAndType 234 235), (0, u "copyOfRange"), (0, u "([BII)[B"), (4, .methodref 20 26), (11, u "charAt"), (137, .class_ 391), (0, u "java/lang/StringLatin1$CharsSpliterator")] 3

def k15m0 : Method := { name := "<init>", desc := "()V", sig := { parameters := [], returnType := none }, accessFlags := 0, code := none }
def k15c1 : Code := { maxStack := 2, maxLocals := 2, code := jdk_43_method_2_code, exceptionTable := #[], attributes := #[] }
def k15m1 : Method := { name := "charAt", desc := "([BI)C", sig := { parameters := [(.array .byte), .int], returnType := some .char }, accessFlags := 9, code := some k15c1 }
def k15c2 : Code := { maxStack := 6, maxLocals := 3, code := jdk_43_method_47_code, exceptionTable := #[], attributes := #[] }
def k15m2 : Method := { name := "newString", desc := "([BII)Ljava/lang/String;", sig := { parameters := [(.array .byte), .int, .int], returnType := some (.object "java/lang/String") }, accessFlags := 9, code := some k15c2 }
def k15c3 : Code := { maxStack := 5, maxLocals := 5, code := jdk_43_method_50_code, exceptionTable := #[], attributes := #[] }
def k15m3 : Method := { name := "inflate", desc := "([BI[BII)V", sig := { parameters := [(.array .byte), .int, (.array .byte), .int, .int], returnType := none }, accessFlags := 9, code := some k15c3 }
/-- java/lang/StringLatin1 -/
def k15 : Class := { plain "java/lang/StringLatin1" (some 0) with
  accessFlags := 48
  interfaces := #[]
  cf := some (fileOf pool15 14 #[.nestMembers #[390, 221]] #[{ accessFlags := 0, nameIndex := 7, descriptorIndex := 8, attributes := #[] }, { accessFlags := 9, nameIndex := 252, descriptorIndex := 53, attributes := #[] }, { accessFlags := 9, nameIndex := 196, descriptorIndex := 197, attributes := #[] }, { accessFlags := 9, nameIndex := 17, descriptorIndex := 27, attributes := #[] }] 48 4 #[] #[{ accessFlags := 4120, nameIndex := 121, descriptorIndex := 122, attributes := #[] }])
  fields := #[{ name := "$assertionsDisabled", type := .boolean, accessFlags := 4120, slot := 0, constantValue := 0 }]
  methods := #[k15m0, k15m1, k15m2, k15m3]
  instanceTypes := #[]
  staticTypes := #[.boolean]
  resolved := Array.replicate 395 none
  statics := none }

def pool16 : Array CpInfo := pool [(2, .class_ 4), (1, u "java/lang/Object"), (0, u "<init>"), (0, u "()V"), (17, .class_ 26), (1, u "jdk/internal/util/Preconditions"), (6, u "checkIndex"), (13, u "checkFromToIndex"), (1, u "checkFromIndexSize"), (5, .class_ 56), (0, u "jdk/internal/util/Preconditions$4"), (57, .class_ 115), (0, u "jdk/internal/util/Preconditions$1"), (7, u "SIOOBE_FORMATTER"), (0, u "Ljava/util/function/BiFunction;"), (0, .class_ 126), (0, u "jdk/internal/util/Preconditions$2"), (3, u "AIOOBE_FORMATTER"), (0, .class_ 132), (0, u "jdk/internal/util/Preconditions$3"), (3, u "IOOBE_FORMATTER"), (41, u "(IILjava/util/function/BiFunction;)I"), (4, u "(IIILjava/util/function/BiFunction;)I")] 10

def k16m0 : Method := { name := "<init>", desc := "()V", sig := { parameters := [], returnType := none }, accessFlags := 1, code := none }
def k16c1 : Code := { maxStack := 3, maxLocals := 3, code := jdk_41_method_11_code, exceptionTable := #[], attributes := #[] }
def k16m1 : Method := { name := "checkIndex", desc := "(IILjava/util/function/BiFunction;)I", sig := { parameters := [.int, .int, (.object "java/util/function/BiFunction")], returnType := some .int }, accessFlags := 9, code := some k16c1 }
def k16c2 : Code := { maxStack := 4, maxLocals := 4, code := jdk_41_method_12_code, exceptionTable := #[], attributes := #[] }
def k16m2 : Method := { name := "checkFromToIndex", desc := "(IIILjava/util/function/BiFunction;)I", sig := { parameters := [.int, .int, .int, (.object "java/util/function/BiFunction")], returnType := some .int }, accessFlags := 9, code := some k16c2 }
def k16c3 : Code := { maxStack := 4, maxLocals := 4, code := jdk_41_method_13_code, exceptionTable := #[], attributes := #[] }
def k16m3 : Method := { name := "checkFromIndexSize", desc := "(IIILjava/util/function/BiFunction;)I", sig := { parameters := [.int, .int, .int, (.object "java/util/function/BiFunction")], returnType := some .int }, accessFlags := 9, code := some k16c3 }
/-- jdk/internal/util/Preconditions -/
def k16 : Class := { plain "jdk/internal/util/Preconditions" (some 0) with
  accessFlags := 33
  interfaces := #[]
  cf := some (fileOf pool16 24 #[.nestMembers #[55, 131, 125, 114]] #[{ accessFlags := 1, nameIndex := 5, descriptorIndex := 6, attributes := #[] }, { accessFlags := 9, nameIndex := 33, descriptorIndex := 178, attributes := #[] }, { accessFlags := 9, nameIndex := 47, descriptorIndex := 183, attributes := #[] }, { accessFlags := 9, nameIndex := 49, descriptorIndex := 183, attributes := #[] }] 33 2 #[] #[{ accessFlags := 25, nameIndex := 123, descriptorIndex := 124, attributes := #[] }, { accessFlags := 25, nameIndex := 130, descriptorIndex := 124, attributes := #[] }, { accessFlags := 25, nameIndex := 136, descriptorIndex := 124, attributes := #[] }])
  fields := #[{ name := "SIOOBE_FORMATTER", type := (.object "java/util/function/BiFunction"), accessFlags := 25, slot := 0, constantValue := 0 }, { name := "AIOOBE_FORMATTER", type := (.object "java/util/function/BiFunction"), accessFlags := 25, slot := 1, constantValue := 0 }, { name := "IOOBE_FORMATTER", type := (.object "java/util/function/BiFunction"), accessFlags := 25, slot := 2, constantValue := 0 }]
  methods := #[k16m0, k16m1, k16m2, k16m3]
  instanceTypes := #[]
  staticTypes := #[(.object "java/util/function/BiFunction"), (.object "java/util/function/BiFunction"), (.object "java/util/function/BiFunction")]
  resolved := Array.replicate 194 none
  statics := some 1 }

def pool17 : Array CpInfo := pool [(3, .class_ 4), (0, u "java/lang/String"), (1, .class_ 8), (1, u "java/lang/Object"), (0, u "<init>"), (0, u "()V"), (0, .methodref 12 13), (0, .class_ 14), (0, .nameAndType 15 16), (0, u "java/lang/StringUTF16"), (0, u "newBytesLength"), (0, u "(I)I"), (3, .integer 1073741823), (23, .fieldref 12 45), (0, .nameAndType 46 47), (0, u "$assertionsDisabled"), (0, u "Z"), (0, .methodref 12 49), (0, .nameAndType 50 51), (0, u "length"), (0, u "([B)I"), (7, .fieldref 12 60), (0, .nameAndType 61 62), (0, u "HI_BYTE_SHIFT"), (0, u "I"), (0, .fieldref 12 64), (0, .nameAndType 65 62), (0, u "LO_BYTE_SHIFT"), (1, .methodref 12 68), (0, .nameAndType 69 70), (0, u "checkIndex"), (0, u "(I[B)V"), (0, .methodref 12 72), (0, .nameAndType 73 74), (0, u "getChar"), (0, u "([BI)C"), (24, u "(II[B)V"), (7, .methodref 12 108), (0, .nameAndType 109 110), (0, u "newBytesFor"), (0, u "(I)[B"), (0, .methodref 12 112), (0, .nameAndType 113 114), (0, u "putChar"), (0, u "([BII)V"), (0, .methodref 12 116), (0, .nameAndType 117 118), (0, u "compress"), (0, u "([CI[BII)I"), (0, .methodref 12 120), (0, .nameAndType 121 122), (0, u "toBytes"), (0, u "([CII)[B"), (0, .methodref 12 124), (0, .nameAndType 117 125), (0, u "([BI[BII)I"), (0, .methodref 127 128), (0, .class_ 129), (0, .nameAndType 130 131), (0, u "java/util/Arrays"), (0, u "copyOfRange"), (0, u "([BII)[B"), (8, u "inflate"), (0, u "([BI[BII)V"), (31, .methodref 12 174), (0, .nameAndType 175 99), (0, u "checkBoundsOffCount"), (75, .fieldref 3 252), (0, .nameAndType 253 47), (0, u "COMPACT_STRINGS"), (3, .methodref 12 258), (0, .nameAndType 117 131), (0, .methodref 12 260), (0, .nameAndType 261 262), (0, u "coderFromArrayLen"), (0, u "([BI)B"), (0, .methodref 3 264), (0, .nameAndType 9 265), (0, u "([BB)V"), (15, u "(III)I"), (45, u "newString"), (0, u "([BII)Ljava/lang/String;"), (40, .class_ 371), (1, u "java/lang/StringUTF16$LinesSpliterator"), (20, u "charAt"), (21, .methodref 3 415), (0, .nameAndType 69 416), (0, u "(II)V"), (2, .methodref 3 420), (0, .nameAndType 175 281), (9, u "MAX_LENGTH"), (196, .class_ 628), (0, u "java/lang/StringUTF16$CodePointsSpliterator"), (0, .class_ 630), (0, u "java/lang/StringUTF16$CharsSpliterator")] 4

def k17m0 : Method := { name := "<init>", desc := "()V", sig := { parameters := [], returnType := none }, accessFlags := 0, code := none }
def k17c1 : Code := { maxStack := 1, maxLocals := 1, code := jdk_52_method_2_code, exceptionTable := #[], attributes := #[] }
def k17m1 : Method := { name := "newBytesFor", desc := "(I)[B", sig := { parameters := [.int], returnType := some (.array .byte) }, accessFlags := 9, code := some k17c1 }
def k17c2 : Code := { maxStack := 4, maxLocals := 1, code := jdk_52_method_3_code, exceptionTable := #[], attributes := #[] }
def k17m2 : Method := { name := "newBytesLength", desc := "(I)I", sig := { parameters := [.int], returnType := some .int }, accessFlags := 9, code := some k17c2 }
def k17c3 : Code := { maxStack := 4, maxLocals := 3, code := jdk_52_method_4_code, exceptionTable := #[], attributes := #[] }
def k17m3 : Method := { name := "putChar", desc := "([BII)V", sig := { parameters := [(.array .byte), .int, .int], returnType := none }, accessFlags := 8, code := some k17c3 }
def k17c4 : Code := { maxStack := 3, maxLocals := 2, code := jdk_52_method_5_code, exceptionTable := #[], attributes := #[] }
def k17m4 : Method := { name := "getChar", desc := "([BI)C", sig := { parameters := [(.array .byte), .int], returnType := some .char }, accessFlags := 8, code := some k17c4 }
def k17c5 : Code := { maxStack := 2, maxLocals := 1, code := jdk_52_method_6_code, exceptionTable := #[], attributes := #[] }
def k17m5 : Method := { name := "length", desc := "([B)I", sig := { parameters := [(.array .byte)], returnType := some .int }, accessFlags := 9, code := some k17c5 }
def k17c6 : Code := { maxStack := 4, maxLocals := 5, code := jdk_52_method_14_code, exceptionTable := #[], attributes := #[] }
def k17m6 : Method := { name := "toBytes", desc := "([CII)[B", sig := { parameters := [(.array .char), .int, .int], returnType := some (.array .byte) }, accessFlags := 9, code := some k17c6 }
def k17c7 : Code := { maxStack := 2, maxLocals := 2, code := jdk_52_method_15_code, exceptionTable := #[], attributes := #[] }
def k17m7 : Method := { name := "coderFromArrayLen", desc := "([BI)B", sig := { parameters := [(.array .byte), .int], returnType := some .byte }, accessFlags := 8, code := some k17c7 }
def k17c8 : Code := { maxStack := 5, maxLocals := 6, code := jdk_52_method_16_code, exceptionTable := #[], attributes := #[] }
def k17m8 : Method := { name := "compress", desc := "([CII)[B", sig := { parameters := [(.array .char), .int, .int], returnType := some (.array .byte) }, accessFlags := 9, code := some k17c8 }
def k17c9 : Code := { maxStack := 5, maxLocals := 6, code := jdk_52_method_17_code, exceptionTable := #[], attributes := #[] }
def k17m9 : Method := { name := "compress", desc := "([BII)[B", sig := { parameters := [(.array .byte), .int, .int], returnType := some (.array .byte) }, accessFlags := 9, code := some k17c9 }
def k17c10 : Code := { maxStack := 3, maxLocals := 7, code := jdk_52_method_21_code, exceptionTable := #[], attributes := #[] }
def k17m10 : Method := { name := "compress", desc := "([CI[BII)I", sig := { parameters := [(.array .char), .int, (.array .byte), .int, .int], returnType := some .int }, accessFlags := 9, code := some k17c10 }
def k17c11 : Code := { maxStack := 3, maxLocals := 7, code := jdk_52_method_22_code, exceptionTable := #[], attributes := #[] }
def k17m11 : Method := { name := "compress", desc := "([BI[BII)I", sig := { parameters := [(.array .byte), .int, (.array .byte), .int, .int], returnType := some .int }, accessFlags := 9, code := some k17c11 }
def k17c12 : Code := { maxStack := 6, maxLocals := 5, code := jdk_52_method_69_code, exceptionTable := #[], attributes := #[] }
def k17m12 : Method := { name := "newString", desc := "([BII)Ljava/lang/String;", sig := { parameters := [(.array .byte), .int, .int], returnType := some (.object "java/lang/String") }, accessFlags := 9, code := some k17c12 }
def k17c13 : Code := { maxStack := 2, maxLocals := 2, code := jdk_52_method_83_code, exceptionTable := #[], attributes := #[] }
def k17m13 : Method := { name := "charAt", desc := "([BI)C", sig := { parameters := [(.array .byte), .int], returnType := some .char }, accessFlags := 9, code := some k17c13 }
def k17c14 : Code := { maxStack := 4, maxLocals := 6, code := jdk_52_method_86_code, exceptionTable := #[], attributes := #[] }
def k17m14 : Method := { name := "inflate", desc := "([BI[BII)V", sig := { parameters := [(.array .byte), .int, (.array .byte), .int, .int], returnType := none }, accessFlags := 9, code := some k17c14 }
def k17c15 : Code := { maxStack := 2, maxLocals := 2, code := jdk_52_method_91_code, exceptionTable := #[], attributes := #[] }
def k17m15 : Method := { name := "checkIndex", desc := "(I[B)V", sig := { parameters := [.int, (.array .byte)], returnType := none }, accessFlags := 9, code := some k17c15 }
def k17c16 : Code := { maxStack := 3, maxLocals := 3, code := jdk_52_method_94_code, exceptionTable := #[], attributes := #[] }
def k17m16 : Method := { name := "checkBoundsOffCount", desc := "(II[B)V", sig := { parameters := [.int, .int, (.array .byte)], returnType := none }, accessFlags := 9, code := some k17c16 }
/-- java/lang/StringUTF16 -/
def k17 : Class := { plain "java/lang/StringUTF16" (some 0) with
  accessFlags := 48
  interfaces := #[]
  cf := some (fileOf pool17 12 #[.nestMembers #[627, 629, 369]] #[{ accessFlags := 0, nameIndex := 9, descriptorIndex := 10, attributes := #[] }, { accessFlags := 9, nameIndex := 109, descriptorIndex := 110, attributes := #[] }, { accessFlags := 9, nameIndex := 15, descriptorIndex := 16, attributes := #[] }, { accessFlags := 8, nameIndex := 113, descriptorIndex := 114, attributes := #[] }, { accessFlags := 8, nameIndex := 73, descriptorIndex := 74, attributes := #[] }, { accessFlags := 9, nameIndex := 50, descriptorIndex := 51, attributes := #[] }, { accessFlags := 9, nameIndex := 121, descriptorIndex := 122, attributes := #[] }, { accessFlags := 8, nameIndex := 261, descriptorIndex := 262, attributes := #[] }, { accessFlags := 9, nameIndex := 117, descriptorIndex := 122, attributes := #[] }, { accessFlags := 9, nameIndex := 117, descriptorIndex := 131, attributes := #[] }, { accessFlags := 9, nameIndex := 117, descriptorIndex := 118, attributes := #[] }, { accessFlags := 9, nameIndex := 117, descriptorIndex := 125, attributes := #[] }, { accessFlags := 9, nameIndex := 327, descriptorIndex := 328, attributes := #[] }, { accessFlags := 9, nameIndex := 392, descriptorIndex := 74, attributes := #[] }, { accessFlags := 9, nameIndex := 140, descriptorIndex := 141, attributes := #[] }, { accessFlags := 9, nameIndex := 69, descriptorIndex := 70, attributes := #[] }, { accessFlags := 9, nameIndex := 175, descriptorIndex := 99, attributes := #[] }] 48 6 #[] #[{ accessFlags := 26, nameIndex := 61, descriptorIndex := 62, attributes := #[] }, { accessFlags := 26, nameIndex := 65, descriptorIndex := 62, attributes := #[] }, { accessFlags := 24, nameIndex := 430, descriptorIndex := 62, attributes := #[] }, { accessFlags := 4120, nameIndex := 46, descriptorIndex := 47, attributes := #[] }])
  fields := #[{ name := "HI_BYTE_SHIFT", type := .int, accessFlags := 26, slot := 0, constantValue := 0 }, { name := "LO_BYTE_SHIFT", type := .int, accessFlags := 26, slot := 1, constantValue := 0 }, { name := "MAX_LENGTH", type := .int, accessFlags := 24, slot := 2, constantValue := 0 }, { name := "$assertionsDisabled", type := .boolean, accessFlags := 4120, slot := 3, constantValue := 0 }]
  methods := #[k17m0, k17m1, k17m2, k17m3, k17m4, k17m5, k17m6, k17m7, k17m8, k17m9, k17m10, k17m11, k17m12, k17m13, k17m14, k17m15, k17m16]
  instanceTypes := #[]
  staticTypes := #[.int, .int, .int, .boolean]
  resolved := Array.replicate 635 none
  statics := some 2 }

def pool18 : Array CpInfo := pool [(9, u "<init>"), (6, .class_ 18), (1, u "java/lang/Object"), (0, u "()V"), (1, .class_ 23), (1, u "jdk/internal/util/ArraysSupport"), (0, u "LOG2_ARRAY_LONG_INDEX_SCALE"), (0, u "I"), (2, u "U"), (0, u "Ljdk/internal/misc/Unsafe;"), (8, u "BIG_ENDIAN"), (0, u "Z"), (8, u "LOG2_BYTE_BIT_SIZE"), (4, u "LOG2_ARRAY_INT_INDEX_SCALE"), (54, u "JLA"), (0, u "Ljdk/internal/access/JavaLangAccess;"), (11, u "LOG2_ARRAY_BOOLEAN_INDEX_SCALE"), (9, u "LOG2_ARRAY_BYTE_INDEX_SCALE"), (5, u "LOG2_ARRAY_CHAR_INDEX_SCALE"), (5, u "LOG2_ARRAY_SHORT_INDEX_SCALE"), (18, u "LOG2_ARRAY_FLOAT_INDEX_SCALE"), (24, u "LOG2_ARRAY_DOUBLE_INDEX_SCALE"), (6, .methodref 195 196), (0, .class_ 197), (0, .nameAndType 198 199), (0, u "java/lang/Math"), (0, u "max"), (0, u "(II)I"), (0, .integer 2147483639), (76, u "T_BOOLEAN"), (2, u "T_CHAR"), (1, u "T_FLOAT"), (1, u "T_DOUBLE"), (1, u "T_BYTE"), (1, u "T_SHORT"), (1, u "T_INT"), (1, u "T_LONG"), (1, u "SOFT_MAX_ARRAY_LENGTH"), (56, u "newLength"), (0, u "(III)I")] 25

def k18m0 : Method := { name := "<init>", desc := "()V", sig := { parameters := [], returnType := none }, accessFlags := 2, code := none }
def k18c1 : Code := { maxStack := 3, maxLocals := 4, code := jdk_48_method_27_code, exceptionTable := #[], attributes := #[] }
def k18m1 : Method := { name := "newLength", desc := "(III)I", sig := { parameters := [.int, .int, .int], returnType := some .int }, accessFlags := 9, code := some k18c1 }
/-- jdk/internal/util/ArraysSupport -/
def k18 : Class := { plain "jdk/internal/util/ArraysSupport" (some 0) with
  accessFlags := 33
  interfaces := #[]
  cf := some (fileOf pool18 21 #[] #[{ accessFlags := 2, nameIndex := 9, descriptorIndex := 19, attributes := #[] }, { accessFlags := 9, nameIndex := 351, descriptorIndex := 352, attributes := #[] }] 33 16 #[] #[{ accessFlags := 24, nameIndex := 28, descriptorIndex := 29, attributes := #[] }, { accessFlags := 26, nameIndex := 38, descriptorIndex := 39, attributes := #[] }, { accessFlags := 25, nameIndex := 121, descriptorIndex := 25, attributes := #[] }, { accessFlags := 25, nameIndex := 131, descriptorIndex := 25, attributes := #[] }, { accessFlags := 25, nameIndex := 137, descriptorIndex := 25, attributes := #[] }, { accessFlags := 25, nameIndex := 143, descriptorIndex := 25, attributes := #[] }, { accessFlags := 25, nameIndex := 53, descriptorIndex := 25, attributes := #[] }, { accessFlags := 25, nameIndex := 24, descriptorIndex := 25, attributes := #[] }, { accessFlags := 25, nameIndex := 162, descriptorIndex := 25, attributes := #[] }, { accessFlags := 25, nameIndex := 187, descriptorIndex := 25, attributes := #[] }, { accessFlags := 26, nameIndex := 48, descriptorIndex := 25, attributes := #[] }, { accessFlags := 25, nameIndex := 277, descriptorIndex := 25, attributes := #[] }, { accessFlags := 25, nameIndex := 280, descriptorIndex := 25, attributes := #[] }, { accessFlags := 25, nameIndex := 282, descriptorIndex := 25, attributes := #[] }, { accessFlags := 25, nameIndex := 284, descriptorIndex := 25, attributes := #[] }, { accessFlags := 25, nameIndex := 286, descriptorIndex := 25, attributes := #[] }, { accessFlags := 25, nameIndex := 288, descriptorIndex := 25, attributes := #[] }, { accessFlags := 25, nameIndex := 290, descriptorIndex := 25, attributes := #[] }, { accessFlags := 25, nameIndex := 292, descriptorIndex := 25, attributes := #[] }, { accessFlags := 26, nameIndex := 108, descriptorIndex := 109, attributes := #[] }, { accessFlags := 25, nameIndex := 294, descriptorIndex := 25, attributes := #[] }])
  fields := #[{ name := "U", type := (.object "jdk/internal/misc/Unsafe"), accessFlags := 24, slot := 0, constantValue := 0 }, { name := "BIG_ENDIAN", type := .boolean, accessFlags := 26, slot := 1, constantValue := 0 }, { name := "LOG2_ARRAY_BOOLEAN_INDEX_SCALE", type := .int, accessFlags := 25, slot := 2, constantValue := 0 }, { name := "LOG2_ARRAY_BYTE_INDEX_SCALE", type := .int, accessFlags := 25, slot := 3, constantValue := 0 }, { name := "LOG2_ARRAY_CHAR_INDEX_SCALE", type := .int, accessFlags := 25, slot := 4, constantValue := 0 }, { name := "LOG2_ARRAY_SHORT_INDEX_SCALE", type := .int, accessFlags := 25, slot := 5, constantValue := 0 }, { name := "LOG2_ARRAY_INT_INDEX_SCALE", type := .int, accessFlags := 25, slot := 6, constantValue := 0 }, { name := "LOG2_ARRAY_LONG_INDEX_SCALE", type := .int, accessFlags := 25, slot := 7, constantValue := 0 }, { name := "LOG2_ARRAY_FLOAT_INDEX_SCALE", type := .int, accessFlags := 25, slot := 8, constantValue := 0 }, { name := "LOG2_ARRAY_DOUBLE_INDEX_SCALE", type := .int, accessFlags := 25, slot := 9, constantValue := 0 }, { name := "LOG2_BYTE_BIT_SIZE", type := .int, accessFlags := 26, slot := 10, constantValue := 0 }, { name := "T_BOOLEAN", type := .int, accessFlags := 25, slot := 11, constantValue := 0 }, { name := "T_CHAR", type := .int, accessFlags := 25, slot := 12, constantValue := 0 }, { name := "T_FLOAT", type := .int, accessFlags := 25, slot := 13, constantValue := 0 }, { name := "T_DOUBLE", type := .int, accessFlags := 25, slot := 14, constantValue := 0 }, { name := "T_BYTE", type := .int, accessFlags := 25, slot := 15, constantValue := 0 }, { name := "T_SHORT", type := .int, accessFlags := 25, slot := 16, constantValue := 0 }, { name := "T_INT", type := .int, accessFlags := 25, slot := 17, constantValue := 0 }, { name := "T_LONG", type := .int, accessFlags := 25, slot := 18, constantValue := 0 }, { name := "JLA", type := (.object "jdk/internal/access/JavaLangAccess"), accessFlags := 26, slot := 19, constantValue := 0 }, { name := "SOFT_MAX_ARRAY_LENGTH", type := .int, accessFlags := 25, slot := 20, constantValue := 0 }]
  methods := #[k18m0, k18m1]
  instanceTypes := #[]
  staticTypes := #[(.object "jdk/internal/misc/Unsafe"), .boolean, .int, .int, .int, .int, .int, .int, .int, .int, .int, .int, .int, .int, .int, .int, .int, .int, .int, (.object "jdk/internal/access/JavaLangAccess"), .int]
  resolved := Array.replicate 378 none
  statics := none }

def pool19 : Array CpInfo := pool [(1, u "java/lang/Cloneable"), (0, .class_ 1), (0, u "java/lang/Object"), (0, .class_ 3)] 3

/-- java/lang/Cloneable -/
def k19 : Class := { plain "java/lang/Cloneable" (some 0) with
  accessFlags := 1537
  interfaces := #[]
  cf := some (fileOf pool19 2 #[] #[] 1537 4 #[] #[])
  fields := #[]
  methods := #[]
  instanceTypes := #[]
  staticTypes := #[]
  resolved := Array.replicate 8 none
  statics := none }

/-- the primitive byte -/
def k20 : Class := { plain "byte" none with kind := .primitive 'B', accessFlags := 0x411 }
/-- [B -/
def k21 : Class := { plain "[B" (some 0) with kind := .array 20 .byte, interfaces := #[19, 2], accessFlags := 1041 }

/-- the primitive char -/
def k22 : Class := { plain "char" none with kind := .primitive 'C', accessFlags := 0x411 }
/-- [C -/
def k23 : Class := { plain "[C" (some 0) with kind := .array 22 .char, interfaces := #[19, 2], accessFlags := 1041 }

/-- the primitive int -/
def k24 : Class := { plain "int" none with kind := .primitive 'I', accessFlags := 0x411 }
/-- [I -/
def k25 : Class := { plain "[I" (some 0) with kind := .array 24 .int, interfaces := #[19, 2], accessFlags := 1041 }

def heap : Heap := #[{ cls := 7, slots := #[.long 0, .int 1, .null, .int 0, .null, .int 0, .int 0], vm := .statics 7 },
  { cls := 16, slots := #[.null, .null, .null], vm := .statics 16 },
  { cls := 17, slots := #[.int 0, .int 8, .int 0, .int 1], vm := .statics 17 }]
def classes : Array Class := #[k0, k1, k2, k3, k4, k5, k6, k7, k8, k9, k10, k11, k12, k13, k14, k15, k16, k17, k18, k19, k20, k21, k22, k23, k24, k25]
def interned : List (Array UInt16 × Addr) := []
def slotsUsed : Nat := 14
def theMethod : MethodId := ⟨1, 3⟩
def args0 : Array Value := #[.int 5, .int 3, .int 65, .int 4, .int 300, .int 7]
def aboutOver (below : List Frame) : State where
  vm := { classes := classes, interned := interned.toArray }
  heap := heap
  slotsUsed := slotsUsed
  threads := #[{ frames := .invoking theMethod args0 :: below }]
def below0 : List Frame := [.native { method := ⟨0, 0⟩, args := #[] }]
def about1 : State := aboutOver below0
def p0 : Program := .bare "" "" ""
def e0 : Env := launch0.env 0 0 0
theorem w_frames : about1.frames = Frame.invoking theMethod args0 :: below0 := rfl
set_option maxRecDepth 65536 in
theorem w_args : argsFit about1.vm theMethod args0 = true := by decide +kernel
set_option maxRecDepth 65536 in
theorem w_heap : heapFits about1 = true := by decide +kernel
set_option maxRecDepth 65536 in
theorem w_runnable : about1.curStatus? = some .runnable := by decide +kernel
set_option maxRecDepth 65536 in
theorem w_alone : about1.alone = true := by decide +kernel
set_option maxRecDepth 65536 in
theorem w_named : about1.methodNamed? x = some theMethod := by decide +kernel
set_option maxRecDepth 65536 in
theorem w_hears : about1.hears theMethod below0 = true := by decide +kernel
set_option maxRecDepth 65536 in
theorem w_ripe : about1.ripe theMethod args0 below0 = true := by decide +kernel
theorem w_running : about1.status = .running := rfl
set_option maxRecDepth 65536 in
theorem w_room : about1.hasRoom e0.platform room_1 = true :=
  launch0.hasRoom_least _ room_1 (by decide +kernel) (by decide +kernel) (by decide +kernel) (by decide +kernel) (by decide +kernel) (by decide +kernel)
theorem allAtoms_all (ts : List Jvm.Cond) (a : Array Jvm.Value) (st : Jvm.State) : (allAtoms ts).before a st = ts.all (fun c => c.before a st) := by
  induction ts with
  | nil => rfl
  | cons c t ih =>
    show (Jvm.Cond.and c (allAtoms t)).before a st = _
    rw [Jvm.Cond.before_and, ih, List.all_cons]
def words1 : List Jvm.Cond := Jvm.Cond.code x code maxLocals ret :: tables_1
/-- a 'code' word, met by the world's own term for the bytes: nothing is compared byte by byte -/
theorem code_word {y : MethodName} {bytes : ByteArray} {mx : Nat} {rt : Option FieldType} {a : Array Value} {s : State} {m : MethodId} {meth : Method} {c : Code} (h1 : s.methodNamed? y = some m) (h2 : s.vm.method? m = some meth) (h3 : meth.code = some c) (h4 : c.code = bytes)
    (h5 : (c.maxLocals == mx && c.exceptionTable.isEmpty && decide (c.maxStack ≤ mostOperands) && decide (meth.sig.returnType = rt) && !meth.locks && decide (parseMethodDescriptor y.desc = some meth.sig)) = true) : (Jvm.Cond.code y bytes mx rt).before a s = true := by
  simp only [Bool.and_eq_true, beq_iff_eq, Bool.not_eq_true', decide_eq_true_eq] at h5
  obtain ⟨⟨⟨⟨⟨g1, g2⟩, g3⟩, g4⟩, g5⟩, g6⟩ := h5
  simp [Cond.before, Cond.holds, Cond.value, h1, h2, h3, h4, g1, g2, g3, g4, g5, g6]
def isCode : Jvm.Cond → Bool
  | .code _ _ _ _ => true
  | _ => false
theorem all_split {L : List Jvm.Cond} {P : Jvm.Cond → Bool} (h1 : L.all (fun c => isCode c || P c) = true) (h2 : ∀ c ∈ L.filter isCode, P c = true) : L.all P = true := by
  refine List.all_eq_true.mpr fun c hc => ?_
  have h := List.all_eq_true.mp h1 c hc
  rcases Bool.eq_false_or_eq_true (isCode c) with hi | hi
  · exact h2 c (List.mem_filter.mpr ⟨hc, hi⟩)
  · simpa [hi] using h
set_option maxRecDepth 65536 in
theorem w_c0 : (Jvm.Cond.code x code maxLocals ret).before args0 about1 = true := code_word (m := ⟨1, 3⟩) (meth := k1m3) (c := k1c3) (by decide +kernel) rfl rfl rfl (by decide +kernel)
set_option maxRecDepth 65536 in
theorem w_c1 : (Jvm.Cond.code ({ cls := "java/lang/String", name := "<init>", desc := "([C)V" } : Jvm.MethodName) jdk_42_method_3_code (2 : Nat) (Option.none : Option Jvm.ClassFile.FieldType)).before args0 about1 = true := code_word (m := ⟨7, 1⟩) (meth := k7m1) (c := k7c1) (by decide +kernel) rfl rfl rfl (by decide +kernel)
set_option maxRecDepth 65536 in
theorem w_c2 : (Jvm.Cond.code ({ cls := "java/lang/String", name := "<init>", desc := "([CIILjava/lang/Void;)V" } : Jvm.MethodName) jdk_42_method_149_code (6 : Nat) (Option.none : Option Jvm.ClassFile.FieldType)).before args0 about1 = true := code_word (m := ⟨7, 7⟩) (meth := k7m7) (c := k7c7) (by decide +kernel) rfl rfl rfl (by decide +kernel)
set_option maxRecDepth 65536 in
theorem w_c3 : (Jvm.Cond.code ({ cls := "java/lang/Object", name := "<init>", desc := "()V" } : Jvm.MethodName) object_method_1_code (1 : Nat) (Option.none : Option Jvm.ClassFile.FieldType)).before args0 about1 = true := code_word (m := ⟨0, 0⟩) (meth := k0m0) (c := k0c0) (by decide +kernel) rfl rfl rfl (by decide +kernel)
set_option maxRecDepth 65536 in
theorem w_c4 : (Jvm.Cond.code ({ cls := "com/example/unibrace/unibrace/ErrorText", name := "quote", desc := "(Ljava/lang/String;)Ljava/lang/String;" } : Jvm.MethodName) prog_1_method_2_code (2 : Nat) (Option.some (Jvm.ClassFile.FieldType.object "java/lang/String"))).before args0 about1 = true := code_word (m := ⟨8, 1⟩) (meth := k8m1) (c := k8c1) (by decide +kernel) rfl rfl rfl (by decide +kernel)
set_option maxRecDepth 65536 in
theorem w_c5 : (Jvm.Cond.code ({ cls := "java/lang/String", name := "length", desc := "()I" } : Jvm.MethodName) jdk_42_method_54_code (1 : Nat) (Option.some Jvm.ClassFile.FieldType.int)).before args0 about1 = true := code_word (m := ⟨7, 3⟩) (meth := k7m3) (c := k7c3) (by decide +kernel) rfl rfl rfl (by decide +kernel)
set_option maxRecDepth 65536 in
theorem w_c6 : (Jvm.Cond.code ({ cls := "java/lang/String", name := "coder", desc := "()B" } : Jvm.MethodName) jdk_42_method_152_code (1 : Nat) (Option.some Jvm.ClassFile.FieldType.byte)).before args0 about1 = true := code_word (m := ⟨7, 10⟩) (meth := k7m10) (c := k7c10) (by decide +kernel) rfl rfl rfl (by decide +kernel)
set_option maxRecDepth 65536 in
theorem w_c7 : (Jvm.Cond.code ({ cls := "java/lang/StringBuilder", name := "<init>", desc := "()V" } : Jvm.MethodName) jdk_67_method_1_code (1 : Nat) (Option.none : Option Jvm.ClassFile.FieldType)).before args0 about1 = true := code_word (m := ⟨11, 0⟩) (meth := k11m0) (c := k11c0) (by decide +kernel) rfl rfl rfl (by decide +kernel)
set_option maxRecDepth 65536 in
theorem w_c8 : (Jvm.Cond.code ({ cls := "java/lang/AbstractStringBuilder", name := "<init>", desc := "(I)V" } : Jvm.MethodName) jdk_68_method_2_code (2 : Nat) (Option.none : Option Jvm.ClassFile.FieldType)).before args0 about1 = true := code_word (m := ⟨10, 1⟩) (meth := k10m1) (c := k10c1) (by decide +kernel) rfl rfl rfl (by decide +kernel)
set_option maxRecDepth 65536 in
theorem w_c9 : (Jvm.Cond.code ({ cls := "java/lang/StringBuilder", name := "append", desc := "(Ljava/lang/String;)Ljava/lang/StringBuilder;" } : Jvm.MethodName) jdk_67_method_7_code (2 : Nat) (Option.some (Jvm.ClassFile.FieldType.object "java/lang/StringBuilder"))).before args0 about1 = true := code_word (m := ⟨11, 1⟩) (meth := k11m1) (c := k11c1) (by decide +kernel) rfl rfl rfl (by decide +kernel)
set_option maxRecDepth 65536 in
theorem w_c10 : (Jvm.Cond.code ({ cls := "java/lang/AbstractStringBuilder", name := "append", desc := "(Ljava/lang/String;)Ljava/lang/AbstractStringBuilder;" } : Jvm.MethodName) jdk_68_method_22_code (3 : Nat) (Option.some (Jvm.ClassFile.FieldType.object "java/lang/AbstractStringBuilder"))).before args0 about1 = true := code_word (m := ⟨10, 6⟩) (meth := k10m6) (c := k10c6) (by decide +kernel) rfl rfl rfl (by decide +kernel)
set_option maxRecDepth 65536 in
theorem w_c11 : (Jvm.Cond.code ({ cls := "java/lang/AbstractStringBuilder", name := "ensureCapacityInternal", desc := "(I)V" } : Jvm.MethodName) jdk_68_method_9_code (3 : Nat) (Option.none : Option Jvm.ClassFile.FieldType)).before args0 about1 = true := code_word (m := ⟨10, 3⟩) (meth := k10m3) (c := k10c3) (by decide +kernel) rfl rfl rfl (by decide +kernel)
set_option maxRecDepth 65536 in
theorem w_c12 : (Jvm.Cond.code ({ cls := "java/lang/AbstractStringBuilder", name := "putStringAt", desc := "(ILjava/lang/String;)V" } : Jvm.MethodName) jdk_68_method_73_code (3 : Nat) (Option.none : Option Jvm.ClassFile.FieldType)).before args0 about1 = true := code_word (m := ⟨10, 10⟩) (meth := k10m10) (c := k10c10) (by decide +kernel) rfl rfl rfl (by decide +kernel)
set_option maxRecDepth 65536 in
theorem w_c13 : (Jvm.Cond.code ({ cls := "java/lang/AbstractStringBuilder", name := "inflateIfNeededFor", desc := "(Ljava/lang/String;)V" } : Jvm.MethodName) jdk_68_method_71_code (2 : Nat) (Option.none : Option Jvm.ClassFile.FieldType)).before args0 about1 = true := code_word (m := ⟨10, 9⟩) (meth := k10m9) (c := k10c9) (by decide +kernel) rfl rfl rfl (by decide +kernel)
set_option maxRecDepth 65536 in
theorem w_c14 : (Jvm.Cond.code ({ cls := "java/lang/String", name := "getBytes", desc := "([BIB)V" } : Jvm.MethodName) jdk_42_method_147_code (4 : Nat) (Option.none : Option Jvm.ClassFile.FieldType)).before args0 about1 = true := code_word (m := ⟨7, 6⟩) (meth := k7m6) (c := k7c6) (by decide +kernel) rfl rfl rfl (by decide +kernel)
set_option maxRecDepth 65536 in
theorem w_c15 : (Jvm.Cond.code ({ cls := "java/lang/StringBuilder", name := "toString", desc := "()Ljava/lang/String;" } : Jvm.MethodName) jdk_67_method_42_code (1 : Nat) (Option.some (Jvm.ClassFile.FieldType.object "java/lang/String"))).before args0 about1 = true := code_word (m := ⟨11, 2⟩) (meth := k11m2) (c := k11c2) (by decide +kernel) rfl rfl rfl (by decide +kernel)
set_option maxRecDepth 65536 in
theorem w_c16 : (Jvm.Cond.code ({ cls := "java/lang/String", name := "<init>", desc := "(Ljava/lang/StringBuilder;)V" } : Jvm.MethodName) jdk_42_method_53_code (2 : Nat) (Option.none : Option Jvm.ClassFile.FieldType)).before args0 about1 = true := code_word (m := ⟨7, 2⟩) (meth := k7m2) (c := k7c2) (by decide +kernel) rfl rfl rfl (by decide +kernel)
set_option maxRecDepth 65536 in
theorem w_c17 : (Jvm.Cond.code ({ cls := "java/lang/String", name := "<init>", desc := "(Ljava/lang/AbstractStringBuilder;Ljava/lang/Void;)V" } : Jvm.MethodName) jdk_42_method_150_code (5 : Nat) (Option.none : Option Jvm.ClassFile.FieldType)).before args0 about1 = true := code_word (m := ⟨7, 8⟩) (meth := k7m8) (c := k7c8) (by decide +kernel) rfl rfl rfl (by decide +kernel)
set_option maxRecDepth 65536 in
theorem w_c18 : (Jvm.Cond.code ({ cls := "java/lang/AbstractStringBuilder", name := "getValue", desc := "()[B" } : Jvm.MethodName) jdk_68_method_64_code (1 : Nat) (Option.some (Jvm.ClassFile.FieldType.array Jvm.ClassFile.FieldType.byte))).before args0 about1 = true := code_word (m := ⟨10, 7⟩) (meth := k10m7) (c := k10c7) (by decide +kernel) rfl rfl rfl (by decide +kernel)
set_option maxRecDepth 65536 in
theorem w_c19 : (Jvm.Cond.code ({ cls := "java/lang/StringBuilder", name := "length", desc := "()I" } : Jvm.MethodName) jdk_67_method_93_code (1 : Nat) (Option.some Jvm.ClassFile.FieldType.int)).before args0 about1 = true := code_word (m := ⟨11, 3⟩) (meth := k11m3) (c := k11c3) (by decide +kernel) rfl rfl rfl (by decide +kernel)
set_option maxRecDepth 65536 in
theorem w_c20 : (Jvm.Cond.code ({ cls := "java/lang/AbstractStringBuilder", name := "length", desc := "()I" } : Jvm.MethodName) jdk_68_method_6_code (1 : Nat) (Option.some Jvm.ClassFile.FieldType.int)).before args0 about1 = true := code_word (m := ⟨10, 2⟩) (meth := k10m2) (c := k10c2) (by decide +kernel) rfl rfl rfl (by decide +kernel)
set_option maxRecDepth 65536 in
theorem w_c21 : (Jvm.Cond.code ({ cls := "java/lang/AbstractStringBuilder", name := "isLatin1", desc := "()Z" } : Jvm.MethodName) jdk_68_method_68_code (1 : Nat) (Option.some Jvm.ClassFile.FieldType.boolean)).before args0 about1 = true := code_word (m := ⟨10, 8⟩) (meth := k10m8) (c := k10c8) (by decide +kernel) rfl rfl rfl (by decide +kernel)
set_option maxRecDepth 65536 in
theorem w_c22 : (Jvm.Cond.code ({ cls := "java/util/Arrays", name := "copyOfRange", desc := "([BII)[B" } : Jvm.MethodName) jdk_65_method_132_code (3 : Nat) (Option.some (Jvm.ClassFile.FieldType.array Jvm.ClassFile.FieldType.byte))).before args0 about1 = true := code_word (m := ⟨13, 3⟩) (meth := k13m3) (c := k13c3) (by decide +kernel) rfl rfl rfl (by decide +kernel)
set_option maxRecDepth 65536 in
theorem w_c23 : (Jvm.Cond.code ({ cls := "java/util/Arrays", name := "copyOfRangeByte", desc := "([BII)[B" } : Jvm.MethodName) jdk_65_method_133_code (5 : Nat) (Option.some (Jvm.ClassFile.FieldType.array Jvm.ClassFile.FieldType.byte))).before args0 about1 = true := code_word (m := ⟨13, 4⟩) (meth := k13m4) (c := k13c4) (by decide +kernel) rfl rfl rfl (by decide +kernel)
set_option maxRecDepth 65536 in
theorem w_c24 : (Jvm.Cond.code ({ cls := "java/util/Arrays", name := "checkLength", desc := "(II)V" } : Jvm.MethodName) jdk_65_method_131_code (2 : Nat) (Option.none : Option Jvm.ClassFile.FieldType)).before args0 about1 = true := code_word (m := ⟨13, 2⟩) (meth := k13m2) (c := k13c2) (by decide +kernel) rfl rfl rfl (by decide +kernel)
set_option maxRecDepth 65536 in
theorem w_c25 : (Jvm.Cond.code ({ cls := "java/lang/Math", name := "min", desc := "(II)I" } : Jvm.MethodName) jdk_29_method_69_code (2 : Nat) (Option.some Jvm.ClassFile.FieldType.int)).before args0 about1 = true := code_word (m := ⟨14, 2⟩) (meth := k14m2) (c := k14c2) (by decide +kernel) rfl rfl rfl (by decide +kernel)
set_option maxRecDepth 65536 in
theorem w_c26 : (Jvm.Cond.code ({ cls := "com/example/unibrace/unibrace/ErrorTextQuotePinLaw", name := "check", desc := "(Ljava/lang/String;Ljava/lang/String;I)Z" } : Jvm.MethodName) method_3_code (3 : Nat) (Option.some Jvm.ClassFile.FieldType.boolean)).before args0 about1 = true := code_word (m := ⟨1, 2⟩) (meth := k1m2) (c := k1c2) (by decide +kernel) rfl rfl rfl (by decide +kernel)
set_option maxRecDepth 65536 in
theorem w_c27 : (Jvm.Cond.code ({ cls := "java/lang/String", name := "charAt", desc := "(I)C" } : Jvm.MethodName) jdk_42_method_56_code (2 : Nat) (Option.some Jvm.ClassFile.FieldType.char)).before args0 about1 = true := code_word (m := ⟨7, 4⟩) (meth := k7m4) (c := k7c4) (by decide +kernel) rfl rfl rfl (by decide +kernel)
set_option maxRecDepth 65536 in
theorem w_c28 : (Jvm.Cond.code ({ cls := "java/lang/String", name := "isLatin1", desc := "()Z" } : Jvm.MethodName) jdk_42_method_154_code (1 : Nat) (Option.some Jvm.ClassFile.FieldType.boolean)).before args0 about1 = true := code_word (m := ⟨7, 11⟩) (meth := k7m11) (c := k7c11) (by decide +kernel) rfl rfl rfl (by decide +kernel)
set_option maxRecDepth 65536 in
theorem w_c29 : (Jvm.Cond.code ({ cls := "java/lang/StringLatin1", name := "charAt", desc := "([BI)C" } : Jvm.MethodName) jdk_43_method_2_code (2 : Nat) (Option.some Jvm.ClassFile.FieldType.char)).before args0 about1 = true := code_word (m := ⟨15, 1⟩) (meth := k15m1) (c := k15c1) (by decide +kernel) rfl rfl rfl (by decide +kernel)
set_option maxRecDepth 65536 in
theorem w_c30 : (Jvm.Cond.code ({ cls := "java/lang/String", name := "checkIndex", desc := "(II)V" } : Jvm.MethodName) jdk_42_method_155_code (2 : Nat) (Option.none : Option Jvm.ClassFile.FieldType)).before args0 about1 = true := code_word (m := ⟨7, 12⟩) (meth := k7m12) (c := k7c12) (by decide +kernel) rfl rfl rfl (by decide +kernel)
set_option maxRecDepth 65536 in
theorem w_c31 : (Jvm.Cond.code ({ cls := "jdk/internal/util/Preconditions", name := "checkIndex", desc := "(IILjava/util/function/BiFunction;)I" } : Jvm.MethodName) jdk_41_method_11_code (3 : Nat) (Option.some Jvm.ClassFile.FieldType.int)).before args0 about1 = true := code_word (m := ⟨16, 1⟩) (meth := k16m1) (c := k16c1) (by decide +kernel) rfl rfl rfl (by decide +kernel)
set_option maxRecDepth 65536 in
theorem w_c32 : (Jvm.Cond.code ({ cls := "com/example/unibrace/unibrace/ErrorTextQuotePinLaw", name := "expected", desc := "(Ljava/lang/String;II)C" } : Jvm.MethodName) method_2_code (4 : Nat) (Option.some Jvm.ClassFile.FieldType.char)).before args0 about1 = true := code_word (m := ⟨1, 1⟩) (meth := k1m1) (c := k1c1) (by decide +kernel) rfl rfl rfl (by decide +kernel)
set_option maxRecDepth 65536 in
theorem w_c33 : (Jvm.Cond.code ({ cls := "java/lang/StringUTF16", name := "compress", desc := "([CII)[B" } : Jvm.MethodName) jdk_52_method_16_code (6 : Nat) (Option.some (Jvm.ClassFile.FieldType.array Jvm.ClassFile.FieldType.byte))).before args0 about1 = true := code_word (m := ⟨17, 8⟩) (meth := k17m8) (c := k17c8) (by decide +kernel) rfl rfl rfl (by decide +kernel)
set_option maxRecDepth 65536 in
theorem w_c34 : (Jvm.Cond.code ({ cls := "java/lang/StringUTF16", name := "compress", desc := "([CI[BII)I" } : Jvm.MethodName) jdk_52_method_21_code (7 : Nat) (Option.some Jvm.ClassFile.FieldType.int)).before args0 about1 = true := code_word (m := ⟨17, 10⟩) (meth := k17m10) (c := k17c10) (by decide +kernel) rfl rfl rfl (by decide +kernel)
set_option maxRecDepth 65536 in
theorem w_c35 : (Jvm.Cond.code ({ cls := "java/lang/StringUTF16", name := "coderFromArrayLen", desc := "([BI)B" } : Jvm.MethodName) jdk_52_method_15_code (2 : Nat) (Option.some Jvm.ClassFile.FieldType.byte)).before args0 about1 = true := code_word (m := ⟨17, 7⟩) (meth := k17m7) (c := k17c7) (by decide +kernel) rfl rfl rfl (by decide +kernel)
set_option maxRecDepth 65536 in
theorem w_c36 : (Jvm.Cond.code ({ cls := "java/lang/String", name := "substring", desc := "(II)Ljava/lang/String;" } : Jvm.MethodName) jdk_42_method_92_code (5 : Nat) (Option.some (Jvm.ClassFile.FieldType.object "java/lang/String"))).before args0 about1 = true := code_word (m := ⟨7, 5⟩) (meth := k7m5) (c := k7c5) (by decide +kernel) rfl rfl rfl (by decide +kernel)
set_option maxRecDepth 65536 in
theorem w_c37 : (Jvm.Cond.code ({ cls := "java/lang/String", name := "checkBoundsBeginEnd", desc := "(III)V" } : Jvm.MethodName) jdk_42_method_158_code (3 : Nat) (Option.none : Option Jvm.ClassFile.FieldType)).before args0 about1 = true := code_word (m := ⟨7, 14⟩) (meth := k7m14) (c := k7c14) (by decide +kernel) rfl rfl rfl (by decide +kernel)
set_option maxRecDepth 65536 in
theorem w_c38 : (Jvm.Cond.code ({ cls := "jdk/internal/util/Preconditions", name := "checkFromToIndex", desc := "(IIILjava/util/function/BiFunction;)I" } : Jvm.MethodName) jdk_41_method_12_code (4 : Nat) (Option.some Jvm.ClassFile.FieldType.int)).before args0 about1 = true := code_word (m := ⟨16, 2⟩) (meth := k16m2) (c := k16c2) (by decide +kernel) rfl rfl rfl (by decide +kernel)
set_option maxRecDepth 65536 in
theorem w_c39 : (Jvm.Cond.code ({ cls := "java/lang/StringLatin1", name := "newString", desc := "([BII)Ljava/lang/String;" } : Jvm.MethodName) jdk_43_method_47_code (3 : Nat) (Option.some (Jvm.ClassFile.FieldType.object "java/lang/String"))).before args0 about1 = true := code_word (m := ⟨15, 2⟩) (meth := k15m2) (c := k15c2) (by decide +kernel) rfl rfl rfl (by decide +kernel)
set_option maxRecDepth 65536 in
theorem w_c40 : (Jvm.Cond.code ({ cls := "java/lang/String", name := "<init>", desc := "([BB)V" } : Jvm.MethodName) jdk_42_method_151_code (3 : Nat) (Option.none : Option Jvm.ClassFile.FieldType)).before args0 about1 = true := code_word (m := ⟨7, 9⟩) (meth := k7m9) (c := k7c9) (by decide +kernel) rfl rfl rfl (by decide +kernel)
set_option maxRecDepth 65536 in
theorem w_c41 : (Jvm.Cond.code ({ cls := "java/lang/AbstractStringBuilder", name := "newCapacity", desc := "(I)I" } : Jvm.MethodName) jdk_68_method_10_code (6 : Nat) (Option.some Jvm.ClassFile.FieldType.int)).before args0 about1 = true := code_word (m := ⟨10, 4⟩) (meth := k10m4) (c := k10c4) (by decide +kernel) rfl rfl rfl (by decide +kernel)
set_option maxRecDepth 65536 in
theorem w_c42 : (Jvm.Cond.code ({ cls := "jdk/internal/util/ArraysSupport", name := "newLength", desc := "(III)I" } : Jvm.MethodName) jdk_48_method_27_code (4 : Nat) (Option.some Jvm.ClassFile.FieldType.int)).before args0 about1 = true := code_word (m := ⟨18, 1⟩) (meth := k18m1) (c := k18c1) (by decide +kernel) rfl rfl rfl (by decide +kernel)
set_option maxRecDepth 65536 in
theorem w_c43 : (Jvm.Cond.code ({ cls := "java/lang/Math", name := "max", desc := "(II)I" } : Jvm.MethodName) jdk_29_method_65_code (2 : Nat) (Option.some Jvm.ClassFile.FieldType.int)).before args0 about1 = true := code_word (m := ⟨14, 1⟩) (meth := k14m1) (c := k14c1) (by decide +kernel) rfl rfl rfl (by decide +kernel)
set_option maxRecDepth 65536 in
theorem w_c44 : (Jvm.Cond.code ({ cls := "java/util/Arrays", name := "copyOf", desc := "([BI)[B" } : Jvm.MethodName) jdk_65_method_121_code (3 : Nat) (Option.some (Jvm.ClassFile.FieldType.array Jvm.ClassFile.FieldType.byte))).before args0 about1 = true := code_word (m := ⟨13, 1⟩) (meth := k13m1) (c := k13c1) (by decide +kernel) rfl rfl rfl (by decide +kernel)
set_option maxRecDepth 65536 in
theorem w_c45 : (Jvm.Cond.code ({ cls := "java/lang/StringUTF16", name := "toBytes", desc := "([CII)[B" } : Jvm.MethodName) jdk_52_method_14_code (5 : Nat) (Option.some (Jvm.ClassFile.FieldType.array Jvm.ClassFile.FieldType.byte))).before args0 about1 = true := code_word (m := ⟨17, 6⟩) (meth := k17m6) (c := k17c6) (by decide +kernel) rfl rfl rfl (by decide +kernel)
set_option maxRecDepth 65536 in
theorem w_c46 : (Jvm.Cond.code ({ cls := "java/lang/StringUTF16", name := "newBytesFor", desc := "(I)[B" } : Jvm.MethodName) jdk_52_method_2_code (1 : Nat) (Option.some (Jvm.ClassFile.FieldType.array Jvm.ClassFile.FieldType.byte))).before args0 about1 = true := code_word (m := ⟨17, 1⟩) (meth := k17m1) (c := k17c1) (by decide +kernel) rfl rfl rfl (by decide +kernel)
set_option maxRecDepth 65536 in
theorem w_c47 : (Jvm.Cond.code ({ cls := "java/lang/StringUTF16", name := "newBytesLength", desc := "(I)I" } : Jvm.MethodName) jdk_52_method_3_code (1 : Nat) (Option.some Jvm.ClassFile.FieldType.int)).before args0 about1 = true := code_word (m := ⟨17, 2⟩) (meth := k17m2) (c := k17c2) (by decide +kernel) rfl rfl rfl (by decide +kernel)
set_option maxRecDepth 65536 in
theorem w_c48 : (Jvm.Cond.code ({ cls := "java/lang/StringUTF16", name := "putChar", desc := "([BII)V" } : Jvm.MethodName) jdk_52_method_4_code (3 : Nat) (Option.none : Option Jvm.ClassFile.FieldType)).before args0 about1 = true := code_word (m := ⟨17, 3⟩) (meth := k17m3) (c := k17c3) (by decide +kernel) rfl rfl rfl (by decide +kernel)
set_option maxRecDepth 65536 in
theorem w_c49 : (Jvm.Cond.code ({ cls := "java/lang/StringUTF16", name := "getChar", desc := "([BI)C" } : Jvm.MethodName) jdk_52_method_5_code (2 : Nat) (Option.some Jvm.ClassFile.FieldType.char)).before args0 about1 = true := code_word (m := ⟨17, 4⟩) (meth := k17m4) (c := k17c4) (by decide +kernel) rfl rfl rfl (by decide +kernel)
set_option maxRecDepth 65536 in
theorem w_c50 : (Jvm.Cond.code ({ cls := "java/lang/StringUTF16", name := "newString", desc := "([BII)Ljava/lang/String;" } : Jvm.MethodName) jdk_52_method_69_code (5 : Nat) (Option.some (Jvm.ClassFile.FieldType.object "java/lang/String"))).before args0 about1 = true := code_word (m := ⟨17, 12⟩) (meth := k17m12) (c := k17c12) (by decide +kernel) rfl rfl rfl (by decide +kernel)
set_option maxRecDepth 65536 in
theorem w_c51 : (Jvm.Cond.code ({ cls := "java/lang/StringUTF16", name := "compress", desc := "([BII)[B" } : Jvm.MethodName) jdk_52_method_17_code (6 : Nat) (Option.some (Jvm.ClassFile.FieldType.array Jvm.ClassFile.FieldType.byte))).before args0 about1 = true := code_word (m := ⟨17, 9⟩) (meth := k17m9) (c := k17c9) (by decide +kernel) rfl rfl rfl (by decide +kernel)
set_option maxRecDepth 65536 in
theorem w_c52 : (Jvm.Cond.code ({ cls := "java/lang/StringUTF16", name := "compress", desc := "([BI[BII)I" } : Jvm.MethodName) jdk_52_method_22_code (7 : Nat) (Option.some Jvm.ClassFile.FieldType.int)).before args0 about1 = true := code_word (m := ⟨17, 11⟩) (meth := k17m11) (c := k17c11) (by decide +kernel) rfl rfl rfl (by decide +kernel)
set_option maxRecDepth 65536 in
theorem w_c53 : (Jvm.Cond.code ({ cls := "java/lang/StringUTF16", name := "checkBoundsOffCount", desc := "(II[B)V" } : Jvm.MethodName) jdk_52_method_94_code (3 : Nat) (Option.none : Option Jvm.ClassFile.FieldType)).before args0 about1 = true := code_word (m := ⟨17, 16⟩) (meth := k17m16) (c := k17c16) (by decide +kernel) rfl rfl rfl (by decide +kernel)
set_option maxRecDepth 65536 in
theorem w_c54 : (Jvm.Cond.code ({ cls := "java/lang/StringUTF16", name := "length", desc := "([B)I" } : Jvm.MethodName) jdk_52_method_6_code (1 : Nat) (Option.some Jvm.ClassFile.FieldType.int)).before args0 about1 = true := code_word (m := ⟨17, 5⟩) (meth := k17m5) (c := k17c5) (by decide +kernel) rfl rfl rfl (by decide +kernel)
set_option maxRecDepth 65536 in
theorem w_c55 : (Jvm.Cond.code ({ cls := "java/lang/String", name := "checkBoundsOffCount", desc := "(III)I" } : Jvm.MethodName) jdk_42_method_157_code (3 : Nat) (Option.some Jvm.ClassFile.FieldType.int)).before args0 about1 = true := code_word (m := ⟨7, 13⟩) (meth := k7m13) (c := k7c13) (by decide +kernel) rfl rfl rfl (by decide +kernel)
set_option maxRecDepth 65536 in
theorem w_c56 : (Jvm.Cond.code ({ cls := "jdk/internal/util/Preconditions", name := "checkFromIndexSize", desc := "(IIILjava/util/function/BiFunction;)I" } : Jvm.MethodName) jdk_41_method_13_code (4 : Nat) (Option.some Jvm.ClassFile.FieldType.int)).before args0 about1 = true := code_word (m := ⟨16, 3⟩) (meth := k16m3) (c := k16c3) (by decide +kernel) rfl rfl rfl (by decide +kernel)
set_option maxRecDepth 65536 in
theorem w_c57 : (Jvm.Cond.code ({ cls := "java/lang/AbstractStringBuilder", name := "inflate", desc := "()V" } : Jvm.MethodName) jdk_68_method_11_code (2 : Nat) (Option.none : Option Jvm.ClassFile.FieldType)).before args0 about1 = true := code_word (m := ⟨10, 5⟩) (meth := k10m5) (c := k10c5) (by decide +kernel) rfl rfl rfl (by decide +kernel)
set_option maxRecDepth 65536 in
theorem w_c58 : (Jvm.Cond.code ({ cls := "java/lang/StringLatin1", name := "inflate", desc := "([BI[BII)V" } : Jvm.MethodName) jdk_43_method_50_code (5 : Nat) (Option.none : Option Jvm.ClassFile.FieldType)).before args0 about1 = true := code_word (m := ⟨15, 3⟩) (meth := k15m3) (c := k15c3) (by decide +kernel) rfl rfl rfl (by decide +kernel)
set_option maxRecDepth 65536 in
theorem w_c59 : (Jvm.Cond.code ({ cls := "java/lang/StringUTF16", name := "inflate", desc := "([BI[BII)V" } : Jvm.MethodName) jdk_52_method_86_code (6 : Nat) (Option.none : Option Jvm.ClassFile.FieldType)).before args0 about1 = true := code_word (m := ⟨17, 14⟩) (meth := k17m14) (c := k17c14) (by decide +kernel) rfl rfl rfl (by decide +kernel)
set_option maxRecDepth 65536 in
theorem w_c60 : (Jvm.Cond.code ({ cls := "java/lang/StringUTF16", name := "charAt", desc := "([BI)C" } : Jvm.MethodName) jdk_52_method_83_code (2 : Nat) (Option.some Jvm.ClassFile.FieldType.char)).before args0 about1 = true := code_word (m := ⟨17, 13⟩) (meth := k17m13) (c := k17c13) (by decide +kernel) rfl rfl rfl (by decide +kernel)
set_option maxRecDepth 65536 in
theorem w_c61 : (Jvm.Cond.code ({ cls := "java/lang/StringUTF16", name := "checkIndex", desc := "(I[B)V" } : Jvm.MethodName) jdk_52_method_91_code (2 : Nat) (Option.none : Option Jvm.ClassFile.FieldType)).before args0 about1 = true := code_word (m := ⟨17, 15⟩) (meth := k17m15) (c := k17c15) (by decide +kernel) rfl rfl rfl (by decide +kernel)
def codes1 : List Jvm.Cond := [Jvm.Cond.code x code maxLocals ret, Jvm.Cond.code ({ cls := "java/lang/String", name := "<init>", desc := "([C)V" } : Jvm.MethodName) jdk_42_method_3_code (2 : Nat) (Option.none : Option Jvm.ClassFile.FieldType), Jvm.Cond.code ({ cls := "java/lang/String", name := "<init>", desc := "([CIILjava/lang/Void;)V" } : Jvm.MethodName) jdk_42_method_149_code (6 : Nat) (Option.none : Option Jvm.ClassFile.FieldType), Jvm.Cond.code ({ cls := "java/lang/Object", name := "<init>", desc := "()V" } : Jvm.MethodName) object_method_1_code (1 : Nat) (Option.none : Option Jvm.ClassFile.FieldType), Jvm.Cond.code ({ cls := "com/example/unibrace/unibrace/ErrorText", name := "quote", desc := "(Ljava/lang/String;)Ljava/lang/String;" } : Jvm.MethodName) prog_1_method_2_code (2 : Nat) (Option.some (Jvm.ClassFile.FieldType.object "java/lang/String")), Jvm.Cond.code ({ cls := "java/lang/String", name := "length", desc := "()I" } : Jvm.MethodName) jdk_42_method_54_code (1 : Nat) (Option.some Jvm.ClassFile.FieldType.int), Jvm.Cond.code ({ cls := "java/lang/String", name := "coder", desc := "()B" } : Jvm.MethodName) jdk_42_method_152_code (1 : Nat) (Option.some Jvm.ClassFile.FieldType.byte), Jvm.Cond.code ({ cls := "java/lang/StringBuilder", name := "<init>", desc := "()V" } : Jvm.MethodName) jdk_67_method_1_code (1 : Nat) (Option.none : Option Jvm.ClassFile.FieldType), Jvm.Cond.code ({ cls := "java/lang/AbstractStringBuilder", name := "<init>", desc := "(I)V" } : Jvm.MethodName) jdk_68_method_2_code (2 : Nat) (Option.none : Option Jvm.ClassFile.FieldType), Jvm.Cond.code ({ cls := "java/lang/StringBuilder", name := "append", desc := "(Ljava/lang/String;)Ljava/lang/StringBuilder;" } : Jvm.MethodName) jdk_67_method_7_code (2 : Nat) (Option.some (Jvm.ClassFile.FieldType.object "java/lang/StringBuilder")), Jvm.Cond.code ({ cls := "java/lang/AbstractStringBuilder", name := "append", desc := "(Ljava/lang/String;)Ljava/lang/AbstractStringBuilder;" } : Jvm.MethodName) jdk_68_method_22_code (3 : Nat) (Option.some (Jvm.ClassFile.FieldType.object "java/lang/AbstractStringBuilder")), Jvm.Cond.code ({ cls := "java/lang/AbstractStringBuilder", name := "ensureCapacityInternal", desc := "(I)V" } : Jvm.MethodName) jdk_68_method_9_code (3 : Nat) (Option.none : Option Jvm.ClassFile.FieldType), Jvm.Cond.code ({ cls := "java/lang/AbstractStringBuilder", name := "putStringAt", desc := "(ILjava/lang/String;)V" } : Jvm.MethodName) jdk_68_method_73_code (3 : Nat) (Option.none : Option Jvm.ClassFile.FieldType), Jvm.Cond.code ({ cls := "java/lang/AbstractStringBuilder", name := "inflateIfNeededFor", desc := "(Ljava/lang/String;)V" } : Jvm.MethodName) jdk_68_method_71_code (2 : Nat) (Option.none : Option Jvm.ClassFile.FieldType), Jvm.Cond.code ({ cls := "java/lang/String", name := "getBytes", desc := "([BIB)V" } : Jvm.MethodName) jdk_42_method_147_code (4 : Nat) (Option.none : Option Jvm.ClassFile.FieldType), Jvm.Cond.code ({ cls := "java/lang/StringBuilder", name := "toString", desc := "()Ljava/lang/String;" } : Jvm.MethodName) jdk_67_method_42_code (1 : Nat) (Option.some (Jvm.ClassFile.FieldType.object "java/lang/String")), Jvm.Cond.code ({ cls := "java/lang/String", name := "<init>", desc := "(Ljava/lang/StringBuilder;)V" } : Jvm.MethodName) jdk_42_method_53_code (2 : Nat) (Option.none : Option Jvm.ClassFile.FieldType), Jvm.Cond.code ({ cls := "java/lang/String", name := "<init>", desc := "(Ljava/lang/AbstractStringBuilder;Ljava/lang/Void;)V" } : Jvm.MethodName) jdk_42_method_150_code (5 : Nat) (Option.none : Option Jvm.ClassFile.FieldType), Jvm.Cond.code ({ cls := "java/lang/AbstractStringBuilder", name := "getValue", desc := "()[B" } : Jvm.MethodName) jdk_68_method_64_code (1 : Nat) (Option.some (Jvm.ClassFile.FieldType.array Jvm.ClassFile.FieldType.byte)), Jvm.Cond.code ({ cls := "java/lang/StringBuilder", name := "length", desc := "()I" } : Jvm.MethodName) jdk_67_method_93_code (1 : Nat) (Option.some Jvm.ClassFile.FieldType.int), Jvm.Cond.code ({ cls := "java/lang/AbstractStringBuilder", name := "length", desc := "()I" } : Jvm.MethodName) jdk_68_method_6_code (1 : Nat) (Option.some Jvm.ClassFile.FieldType.int), Jvm.Cond.code ({ cls := "java/lang/AbstractStringBuilder", name := "isLatin1", desc := "()Z" } : Jvm.MethodName) jdk_68_method_68_code (1 : Nat) (Option.some Jvm.ClassFile.FieldType.boolean), Jvm.Cond.code ({ cls := "java/util/Arrays", name := "copyOfRange", desc := "([BII)[B" } : Jvm.MethodName) jdk_65_method_132_code (3 : Nat) (Option.some (Jvm.ClassFile.FieldType.array Jvm.ClassFile.FieldType.byte)), Jvm.Cond.code ({ cls := "java/util/Arrays", name := "copyOfRangeByte", desc := "([BII)[B" } : Jvm.MethodName) jdk_65_method_133_code (5 : Nat) (Option.some (Jvm.ClassFile.FieldType.array Jvm.ClassFile.FieldType.byte)), Jvm.Cond.code ({ cls := "java/util/Arrays", name := "checkLength", desc := "(II)V" } : Jvm.MethodName) jdk_65_method_131_code (2 : Nat) (Option.none : Option Jvm.ClassFile.FieldType), Jvm.Cond.code ({ cls := "java/lang/Math", name := "min", desc := "(II)I" } : Jvm.MethodName) jdk_29_method_69_code (2 : Nat) (Option.some Jvm.ClassFile.FieldType.int), Jvm.Cond.code ({ cls := "com/example/unibrace/unibrace/ErrorTextQuotePinLaw", name := "check", desc := "(Ljava/lang/String;Ljava/lang/String;I)Z" } : Jvm.MethodName) method_3_code (3 : Nat) (Option.some Jvm.ClassFile.FieldType.boolean), Jvm.Cond.code ({ cls := "java/lang/String", name := "charAt", desc := "(I)C" } : Jvm.MethodName) jdk_42_method_56_code (2 : Nat) (Option.some Jvm.ClassFile.FieldType.char), Jvm.Cond.code ({ cls := "java/lang/String", name := "isLatin1", desc := "()Z" } : Jvm.MethodName) jdk_42_method_154_code (1 : Nat) (Option.some Jvm.ClassFile.FieldType.boolean), Jvm.Cond.code ({ cls := "java/lang/StringLatin1", name := "charAt", desc := "([BI)C" } : Jvm.MethodName) jdk_43_method_2_code (2 : Nat) (Option.some Jvm.ClassFile.FieldType.char), Jvm.Cond.code ({ cls := "java/lang/String", name := "checkIndex", desc := "(II)V" } : Jvm.MethodName) jdk_42_method_155_code (2 : Nat) (Option.none : Option Jvm.ClassFile.FieldType), Jvm.Cond.code ({ cls := "jdk/internal/util/Preconditions", name := "checkIndex", desc := "(IILjava/util/function/BiFunction;)I" } : Jvm.MethodName) jdk_41_method_11_code (3 : Nat) (Option.some Jvm.ClassFile.FieldType.int), Jvm.Cond.code ({ cls := "com/example/unibrace/unibrace/ErrorTextQuotePinLaw", name := "expected", desc := "(Ljava/lang/String;II)C" } : Jvm.MethodName) method_2_code (4 : Nat) (Option.some Jvm.ClassFile.FieldType.char), Jvm.Cond.code ({ cls := "java/lang/StringUTF16", name := "compress", desc := "([CII)[B" } : Jvm.MethodName) jdk_52_method_16_code (6 : Nat) (Option.some (Jvm.ClassFile.FieldType.array Jvm.ClassFile.FieldType.byte)), Jvm.Cond.code ({ cls := "java/lang/StringUTF16", name := "compress", desc := "([CI[BII)I" } : Jvm.MethodName) jdk_52_method_21_code (7 : Nat) (Option.some Jvm.ClassFile.FieldType.int), Jvm.Cond.code ({ cls := "java/lang/StringUTF16", name := "coderFromArrayLen", desc := "([BI)B" } : Jvm.MethodName) jdk_52_method_15_code (2 : Nat) (Option.some Jvm.ClassFile.FieldType.byte), Jvm.Cond.code ({ cls := "java/lang/String", name := "substring", desc := "(II)Ljava/lang/String;" } : Jvm.MethodName) jdk_42_method_92_code (5 : Nat) (Option.some (Jvm.ClassFile.FieldType.object "java/lang/String")), Jvm.Cond.code ({ cls := "java/lang/String", name := "checkBoundsBeginEnd", desc := "(III)V" } : Jvm.MethodName) jdk_42_method_158_code (3 : Nat) (Option.none : Option Jvm.ClassFile.FieldType), Jvm.Cond.code ({ cls := "jdk/internal/util/Preconditions", name := "checkFromToIndex", desc := "(IIILjava/util/function/BiFunction;)I" } : Jvm.MethodName) jdk_41_method_12_code (4 : Nat) (Option.some Jvm.ClassFile.FieldType.int), Jvm.Cond.code ({ cls := "java/lang/StringLatin1", name := "newString", desc := "([BII)Ljava/lang/String;" } : Jvm.MethodName) jdk_43_method_47_code (3 : Nat) (Option.some (Jvm.ClassFile.FieldType.object "java/lang/String")), Jvm.Cond.code ({ cls := "java/lang/String", name := "<init>", desc := "([BB)V" } : Jvm.MethodName) jdk_42_method_151_code (3 : Nat) (Option.none : Option Jvm.ClassFile.FieldType), Jvm.Cond.code ({ cls := "java/lang/AbstractStringBuilder", name := "newCapacity", desc := "(I)I" } : Jvm.MethodName) jdk_68_method_10_code (6 : Nat) (Option.some Jvm.ClassFile.FieldType.int), Jvm.Cond.code ({ cls := "jdk/internal/util/ArraysSupport", name := "newLength", desc := "(III)I" } : Jvm.MethodName) jdk_48_method_27_code (4 : Nat) (Option.some Jvm.ClassFile.FieldType.int), Jvm.Cond.code ({ cls := "java/lang/Math", name := "max", desc := "(II)I" } : Jvm.MethodName) jdk_29_method_65_code (2 : Nat) (Option.some Jvm.ClassFile.FieldType.int), Jvm.Cond.code ({ cls := "java/util/Arrays", name := "copyOf", desc := "([BI)[B" } : Jvm.MethodName) jdk_65_method_121_code (3 : Nat) (Option.some (Jvm.ClassFile.FieldType.array Jvm.ClassFile.FieldType.byte)), Jvm.Cond.code ({ cls := "java/lang/StringUTF16", name := "toBytes", desc := "([CII)[B" } : Jvm.MethodName) jdk_52_method_14_code (5 : Nat) (Option.some (Jvm.ClassFile.FieldType.array Jvm.ClassFile.FieldType.byte)), Jvm.Cond.code ({ cls := "java/lang/StringUTF16", name := "newBytesFor", desc := "(I)[B" } : Jvm.MethodName) jdk_52_method_2_code (1 : Nat) (Option.some (Jvm.ClassFile.FieldType.array Jvm.ClassFile.FieldType.byte)), Jvm.Cond.code ({ cls := "java/lang/StringUTF16", name := "newBytesLength", desc := "(I)I" } : Jvm.MethodName) jdk_52_method_3_code (1 : Nat) (Option.some Jvm.ClassFile.FieldType.int), Jvm.Cond.code ({ cls := "java/lang/StringUTF16", name := "putChar", desc := "([BII)V" } : Jvm.MethodName) jdk_52_method_4_code (3 : Nat) (Option.none : Option Jvm.ClassFile.FieldType), Jvm.Cond.code ({ cls := "java/lang/StringUTF16", name := "getChar", desc := "([BI)C" } : Jvm.MethodName) jdk_52_method_5_code (2 : Nat) (Option.some Jvm.ClassFile.FieldType.char), Jvm.Cond.code ({ cls := "java/lang/StringUTF16", name := "newString", desc := "([BII)Ljava/lang/String;" } : Jvm.MethodName) jdk_52_method_69_code (5 : Nat) (Option.some (Jvm.ClassFile.FieldType.object "java/lang/String")), Jvm.Cond.code ({ cls := "java/lang/StringUTF16", name := "compress", desc := "([BII)[B" } : Jvm.MethodName) jdk_52_method_17_code (6 : Nat) (Option.some (Jvm.ClassFile.FieldType.array Jvm.ClassFile.FieldType.byte)), Jvm.Cond.code ({ cls := "java/lang/StringUTF16", name := "compress", desc := "([BI[BII)I" } : Jvm.MethodName) jdk_52_method_22_code (7 : Nat) (Option.some Jvm.ClassFile.FieldType.int), Jvm.Cond.code ({ cls := "java/lang/StringUTF16", name := "checkBoundsOffCount", desc := "(II[B)V" } : Jvm.MethodName) jdk_52_method_94_code (3 : Nat) (Option.none : Option Jvm.ClassFile.FieldType), Jvm.Cond.code ({ cls := "java/lang/StringUTF16", name := "length", desc := "([B)I" } : Jvm.MethodName) jdk_52_method_6_code (1 : Nat) (Option.some Jvm.ClassFile.FieldType.int), Jvm.Cond.code ({ cls := "java/lang/String", name := "checkBoundsOffCount", desc := "(III)I" } : Jvm.MethodName) jdk_42_method_157_code (3 : Nat) (Option.some Jvm.ClassFile.FieldType.int), Jvm.Cond.code ({ cls := "jdk/internal/util/Preconditions", name := "checkFromIndexSize", desc := "(IIILjava/util/function/BiFunction;)I" } : Jvm.MethodName) jdk_41_method_13_code (4 : Nat) (Option.some Jvm.ClassFile.FieldType.int), Jvm.Cond.code ({ cls := "java/lang/AbstractStringBuilder", name := "inflate", desc := "()V" } : Jvm.MethodName) jdk_68_method_11_code (2 : Nat) (Option.none : Option Jvm.ClassFile.FieldType), Jvm.Cond.code ({ cls := "java/lang/StringLatin1", name := "inflate", desc := "([BI[BII)V" } : Jvm.MethodName) jdk_43_method_50_code (5 : Nat) (Option.none : Option Jvm.ClassFile.FieldType), Jvm.Cond.code ({ cls := "java/lang/StringUTF16", name := "inflate", desc := "([BI[BII)V" } : Jvm.MethodName) jdk_52_method_86_code (6 : Nat) (Option.none : Option Jvm.ClassFile.FieldType), Jvm.Cond.code ({ cls := "java/lang/StringUTF16", name := "charAt", desc := "([BI)C" } : Jvm.MethodName) jdk_52_method_83_code (2 : Nat) (Option.some Jvm.ClassFile.FieldType.char), Jvm.Cond.code ({ cls := "java/lang/StringUTF16", name := "checkIndex", desc := "(I[B)V" } : Jvm.MethodName) jdk_52_method_91_code (2 : Nat) (Option.none : Option Jvm.ClassFile.FieldType)]
set_option maxRecDepth 65536 in
theorem codes_eq : words1.filter isCode = codes1 := rfl
theorem w_codes : ∀ c ∈ words1.filter isCode, c.before args0 about1 = true := by
  rw [codes_eq]
  intro c hc
  simp only [codes1, List.mem_cons, List.not_mem_nil, or_false] at hc
  rcases hc with rfl | rfl | rfl | rfl | rfl | rfl | rfl | rfl | rfl | rfl | rfl | rfl | rfl | rfl | rfl | rfl | rfl | rfl | rfl | rfl | rfl | rfl | rfl | rfl | rfl | rfl | rfl | rfl | rfl | rfl | rfl | rfl | rfl | rfl | rfl | rfl | rfl | rfl | rfl | rfl | rfl | rfl | rfl | rfl | rfl | rfl | rfl | rfl | rfl | rfl | rfl | rfl | rfl | rfl | rfl | rfl | rfl | rfl | rfl | rfl | rfl | rfl
  · exact w_c0
  · exact w_c1
  · exact w_c2
  · exact w_c3
  · exact w_c4
  · exact w_c5
  · exact w_c6
  · exact w_c7
  · exact w_c8
  · exact w_c9
  · exact w_c10
  · exact w_c11
  · exact w_c12
  · exact w_c13
  · exact w_c14
  · exact w_c15
  · exact w_c16
  · exact w_c17
  · exact w_c18
  · exact w_c19
  · exact w_c20
  · exact w_c21
  · exact w_c22
  · exact w_c23
  · exact w_c24
  · exact w_c25
  · exact w_c26
  · exact w_c27
  · exact w_c28
  · exact w_c29
  · exact w_c30
  · exact w_c31
  · exact w_c32
  · exact w_c33
  · exact w_c34
  · exact w_c35
  · exact w_c36
  · exact w_c37
  · exact w_c38
  · exact w_c39
  · exact w_c40
  · exact w_c41
  · exact w_c42
  · exact w_c43
  · exact w_c44
  · exact w_c45
  · exact w_c46
  · exact w_c47
  · exact w_c48
  · exact w_c49
  · exact w_c50
  · exact w_c51
  · exact w_c52
  · exact w_c53
  · exact w_c54
  · exact w_c55
  · exact w_c56
  · exact w_c57
  · exact w_c58
  · exact w_c59
  · exact w_c60
  · exact w_c61
set_option maxRecDepth 65536 in
theorem w_t1 : (words1.take 24).all (fun c => isCode c || c.before args0 about1) = true := by decide +kernel
set_option maxRecDepth 65536 in
theorem w_t2 : ((words1.drop 24).take 24).all (fun c => isCode c || c.before args0 about1) = true := by decide +kernel
set_option maxRecDepth 65536 in
theorem w_t3 : (((words1.drop 24).drop 24).take 24).all (fun c => isCode c || c.before args0 about1) = true := by decide +kernel
set_option maxRecDepth 65536 in
theorem w_t4 : ((((words1.drop 24).drop 24).drop 24).take 24).all (fun c => isCode c || c.before args0 about1) = true := by decide +kernel
set_option maxRecDepth 65536 in
theorem w_t5 : (((((words1.drop 24).drop 24).drop 24).drop 24).take 24).all (fun c => isCode c || c.before args0 about1) = true := by decide +kernel
set_option maxRecDepth 65536 in
theorem w_t6 : ((((((words1.drop 24).drop 24).drop 24).drop 24).drop 24).take 24).all (fun c => isCode c || c.before args0 about1) = true := by decide +kernel
set_option maxRecDepth 65536 in
theorem w_t7 : (((((((words1.drop 24).drop 24).drop 24).drop 24).drop 24).drop 24).take 24).all (fun c => isCode c || c.before args0 about1) = true := by decide +kernel
set_option maxRecDepth 65536 in
theorem w_t8 : ((((((((words1.drop 24).drop 24).drop 24).drop 24).drop 24).drop 24).drop 24).take 24).all (fun c => isCode c || c.before args0 about1) = true := by decide +kernel
set_option maxRecDepth 65536 in
theorem w_t9 : (((((((((words1.drop 24).drop 24).drop 24).drop 24).drop 24).drop 24).drop 24).drop 24).take 24).all (fun c => isCode c || c.before args0 about1) = true := by decide +kernel
set_option maxRecDepth 65536 in
theorem w_t10 : ((((((((((words1.drop 24).drop 24).drop 24).drop 24).drop 24).drop 24).drop 24).drop 24).drop 24).take 24).all (fun c => isCode c || c.before args0 about1) = true := by decide +kernel
set_option maxRecDepth 65536 in
theorem w_t11 : (((((((((((words1.drop 24).drop 24).drop 24).drop 24).drop 24).drop 24).drop 24).drop 24).drop 24).drop 24).take 24).all (fun c => isCode c || c.before args0 about1) = true := by decide +kernel
set_option maxRecDepth 65536 in
theorem w_t12 : ((((((((((((words1.drop 24).drop 24).drop 24).drop 24).drop 24).drop 24).drop 24).drop 24).drop 24).drop 24).drop 24).take 24).all (fun c => isCode c || c.before args0 about1) = true := by decide +kernel
set_option maxRecDepth 65536 in
theorem w_t13 : ((((((((((((words1.drop 24).drop 24).drop 24).drop 24).drop 24).drop 24).drop 24).drop 24).drop 24).drop 24).drop 24).drop 24).all (fun c => isCode c || c.before args0 about1) = true := by decide +kernel
theorem w_tables : (allAtoms (Jvm.Cond.code x code maxLocals ret :: tables_1)).before args0 about1 = true := by
  rw [allAtoms_all]
  show words1.all (fun c => c.before args0 about1) = true
  refine all_split ?_ w_codes
  rw [← List.take_append_drop 24 words1, List.all_append, w_t1, ← List.take_append_drop 24 (words1.drop 24), List.all_append, w_t2, ← List.take_append_drop 24 ((words1.drop 24).drop 24), List.all_append, w_t3, ← List.take_append_drop 24 (((words1.drop 24).drop 24).drop 24), List.all_append, w_t4, ← List.take_append_drop 24 ((((words1.drop 24).drop 24).drop 24).drop 24), List.all_append, w_t5, ← List.take_append_drop 24 (((((words1.drop 24).drop 24).drop 24).drop 24).drop 24), List.all_append, w_t6, ← List.take_append_drop 24 ((((((words1.drop 24).drop 24).drop 24).drop 24).drop 24).drop 24), List.all_append, w_t7, ← List.take_append_drop 24 (((((((words1.drop 24).drop 24).drop 24).drop 24).drop 24).drop 24).drop 24), List.all_append, w_t8, ← List.take_append_drop 24 ((((((((words1.drop 24).drop 24).drop 24).drop 24).drop 24).drop 24).drop 24).drop 24), List.all_append, w_t9, ← List.take_append_drop 24 (((((((((words1.drop 24).drop 24).drop 24).drop 24).drop 24).drop 24).drop 24).drop 24).drop 24), List.all_append, w_t10, ← List.take_append_drop 24 ((((((((((words1.drop 24).drop 24).drop 24).drop 24).drop 24).drop 24).drop 24).drop 24).drop 24).drop 24), List.all_append, w_t11, ← List.take_append_drop 24 (((((((((((words1.drop 24).drop 24).drop 24).drop 24).drop 24).drop 24).drop 24).drop 24).drop 24).drop 24).drop 24), List.all_append, w_t12, w_t13]
  rfl
set_option maxRecDepth 65536 in
theorem w_rest : rest_1_c.before args0 about1 = true := by decide +kernel
set_option maxRecDepth 65536 in
theorem w_case : (Jvm.Cond.and given_1 narrow_1).before args0 about1 = true := by decide +kernel
set_option maxRecDepth 65536 in
theorem w_consts : constsHeld consts_1 about1 := Jvm.Lit.constsHeldB_iff.mp (by decide +kernel)
theorem w_applies : (headSpec (Jvm.Cond.code x code maxLocals ret :: tables_1) room_1).applies x e0.platform about1 = true :=
  (Spec.applies_iff w_frames).mpr ⟨w_running, w_runnable, w_alone, w_named, w_hears, w_ripe, w_room, w_tables⟩
theorem atStart : AtStart classFile x code maxLocals ret World_1 tables_1 room_1 Calls_1 rest_1 Pre_1 launch0 p0 e0 about1 theMethod args0 below0 :=
  ⟨lists_1, trivial, launch0.admits_env _ _ _, launch0.least_env, fairChoices_fair.cas, fairChoices_fair.clock, w_frames, w_args, w_heap, w_applies, ⟨w_consts, trivial⟩, w_rest, w_case⟩
end start1
theorem witness_1 : WitnessClaimed_1 := ⟨start1.p0, start1.e0, start1.about1, start1.theMethod, start1.args0, start1.below0, start1.atStart⟩
end Jvm.Pilot.@@N@@
