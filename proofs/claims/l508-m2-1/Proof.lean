import JvmDerived
import JvmDerived.Pilot.@@N@@Statement
import JvmDerived.Pilot.@@N@@Code
set_option linter.unusedVariables false
set_option linter.unusedSimpArgs false

namespace Jvm.Pilot.@@N@@
open Jvm Jvm.ClassFile Sem Op Lib Jvm.Free Jvm.Stand Jvm.LawKit Jvm.RoadKit Bundle Jvm.Pilot.@@N@@.Jvm.D
section OwnKit
/-- where a walk stands: the library's Stand, and what stays the same throughout -/
def On (l : Launch) (Z : State) (p : Program) (e : Env) (R : Room) (s : State) (m : MethodId) (args : Array Value) (below : List Frame) (meth : Method) (c : Code) (y : MethodName) (code : ByteArray) (maxL : Nat) (ret : Option FieldType) (T : State) (h : Heap) (locs : List Loc) (cells slots : Nat) : Prop :=
  Stand p l e R s m args below meth c T locs cells slots ∧ (p.tables.exec = Jvm.exec ∧ c.code = code ∧ Z.Warmed39 s.vm ∧ s.vm.findClass y.cls = some m.cls ∧ meth.sig.returnType = ret ∧ meth.locks = false ∧ meth.name = y.name ∧ c.maxLocals = maxL) ∧ T.heap = h ∧ Fr Z.heap.size locs ∧ Ext Z.heap h
/-- the run from here ends as F says -/
def Goes (p : Program) (e : Env) (below : List Frame) (F : State → Outcome → Prop) (T : State) (g : JFrame) : Prop :=
  ∃ s₂ o, Steps p.tables e below (T.setTop g) s₂ ∧ s₂.status = .running ∧ Ended s₂ below o ∧ F s₂ o
def FinQ (Z s : State) (Q : Option Value → Heap → Prop) (rc rs : Nat) (s₂ : State) (o : Outcome) : Prop :=
  ∃ v L, o = .returned v ∧ (Q v s₂.heap ∧ Fr Z.heap.size L ∧ Ext Z.heap s₂.heap) ∧ FrameEnd s o s₂ L rc rs
/-- a method's contract: called with these arguments on this heap it returns, and Q holds -/
def Con (l : Launch) (Z : State) (y : MethodName) (code : ByteArray) (maxL : Nat) (ret : Option FieldType) (rm : Room) (as : Array Value) (h : Heap) (Q : Option Value → Heap → Prop) : Prop :=
  Ext Z.heap h → ∀ ws : List Jvm.Cond, MetFree l y (head1 (Jvm.Cond.code y code maxL ret :: ws) rm) (fun a U => a = as ∧ Z.Warmed39 U.vm ∧ U.heap = h) (fun _ _ _ _ _ => True) (fun _ U o U' => ∃ v L, o = .returned v ∧ (Q v U'.heap ∧ Fr Z.heap.size L ∧ Ext Z.heap U'.heap) ∧ FrameEnd U o U' L rm.cells rm.slots)
theorem Goes.step {p : Program} {e : Env} {below : List Frame} {F : State → Outcome → Prop} {T T' : State} {g g' : JFrame} (st : ∀ t, Steps p.tables e below (T'.setTop g') t → Steps p.tables e below (T.setTop g) t) (k : Goes p e below F T' g') : Goes p e below F T g := by
  obtain ⟨s₂, o, h1, h2⟩ := k
  exact ⟨s₂, o, st _ h1, h2⟩
theorem Goes.cast {p : Program} {e : Env} {below : List Frame} {F : State → Outcome → Prop} {T : State} {g g' : JFrame} (q : g = g') (k : Goes p e below F T g') : Goes p e below F T g := q ▸ k
theorem Goes.mono {p : Program} {e : Env} {below : List Frame} {F F' : State → Outcome → Prop} {T : State} {g : JFrame} (q : ∀ s o, F s o → F' s o) (k : Goes p e below F T g) : Goes p e below F' T g := by
  obtain ⟨s₂, o, h1, h2, h3, h4⟩ := k
  exact ⟨s₂, o, h1, h2, h3, q _ _ h4⟩
variable {l : Launch} {Z : State} {p : Program} {e : Env} {R : Room} {s : State} {m : MethodId} {args : Array Value} {below : List Frame} {meth : Method} {c : Code} {y : MethodName} {code : ByteArray} {maxL : Nat} {ret : Option FieldType} {T : State} {h : Heap} {locs : List Loc} {cells slots : Nat} {F : State → Outcome → Prop} {pc : Nat} {L L' : Array Slot} {S : List Value} {a0 : Array Value}
theorem Con.intro {rm : Room} {as : Array Value} {Q : Option Value → Heap → Prop} (hp : plainFor y = true)
    (body : ∀ (p : Program) (e : Env) (s : State) (m : MethodId) (below : List Frame) (meth : Method) (c : Code) (T : State), On l Z p e rm s m as below meth c y code maxL ret T h [] 0 0 → Goes p e below (FinQ Z s Q rm.cells rm.slots) T (entryFrame m as maxL)) : Con l Z y code maxL ret rm as h Q := by
  intro hE ws
  refine MetFree.of_bodySF hp hisR ?_
  intro p e s m args below meth c s₁ Bd hml0 hP hK
  obtain ⟨rfl, hZ, hh⟩ := hP
  have hnm := (name_of_methodNamed Bd.named Bd.method).1
  obtain ⟨s₂, o, k1, k2, k3, k4⟩ := body p e s m below meth c s₁ ⟨Stand.of_body Bd, ⟨Bd.exec, Bd.bytes, hZ, findClass_of_methodNamed Bd.named, Bd.returns, Bd.notSynchronized, hnm, hml0⟩, by rw [← hh, Bd.state]; rfl, Fr.nil _, hE⟩
  exact ⟨s₂, o, k1, k2, k3, k4⟩
theorem Con.mono {rm : Room} {as : Array Value} {Q Q' : Option Value → Heap → Prop} (hC : Con l Z y code maxL ret rm as h Q) (hq : ∀ v h', Q v h' → Q' v h') : Con l Z y code maxL ret rm as h Q' := by
  intro hE ws p e ha hc hk s m args below hf happ hP hK
  obtain ⟨n, o, h1, h2, h3, v, L, h4, ⟨h5, h6⟩, h7⟩ := hC hE ws p e ha hc hk s m args below hf happ hP hK
  exact ⟨n, o, h1, h2, h3, v, L, h4, ⟨hq _ _ h5, h6⟩, h7⟩
theorem On.size (X : On l Z p e R s m args below meth c y code maxL ret T h locs cells slots) : Z.heap.size ≤ h.size := X.2.2.2.2.1
theorem On.ext (X : On l Z p e R s m args below meth c y code maxL ret T h locs cells slots) : Ext Z.heap h := X.2.2.2.2
theorem On.sta (X : On l Z p e R s m args below meth c y code maxL ret T h locs cells slots) {C n d : String} {v : Value} (S : Sta Z Z.heap C n d v) : Sta Z h C n d v := S.ext X.ext
theorem ext_wr {Z : State} {h h' : Heap} {a : Addr} {sl : Nat} {v : Value} (E : Ext Z.heap h) (W : Wr h h' a sl v) (q : Z.heap.size ≤ a) : Ext Z.heap h' := (Old.wr (Z := Z) (n0 := Z.heap.size) ⟨rfl, E⟩ W q).2
theorem ext_keep {Z : State} {h h' : Heap} {ws : List Addr} (E : Ext Z.heap h) (K : Keep h h' ws) (q : ∀ x ∈ ws, Z.heap.size ≤ x) : Ext Z.heap h' := (Old.keep (Z := Z) (n0 := Z.heap.size) ⟨rfl, E⟩ K q).2
theorem ext_trans {h h' h'' : Heap} (E : Ext h h') (E' : Ext h' h'') : Ext h h'' := ⟨Nat.le_trans E.1 E'.1, fun a c q => E'.2 a c (E.2 a c q)⟩
theorem keep_ext {h h' : Heap} (E : Ext h h') : Keep h h' [] := (Keep.refl h []).ext E
theorem ext_of_keep {h h' : Heap} (K : Keep h h' []) : Ext h h' := ⟨K.1, fun a c q => K.2.1 a c q nin0⟩
theorem On.later (X : On l Z p e R s m args below meth c y code maxL ret T h locs cells slots) {T' : State} {h' : Heap} {locs' : List Loc} {cells' slots' : Nat} (X' : Stand p l e R s m args below meth c T' locs' cells' slots') (e' : T'.heap = h') (N' : Fr Z.heap.size locs') (E' : Ext Z.heap h') : On l Z p e R s m args below meth c y code maxL ret T' h' locs' cells' slots' := ⟨X', X.2.1, e', N', E'⟩
theorem On.alike (X : On l Z p e R s m args below meth c y code maxL ret T h locs cells slots) : Z.vm.Alike s.vm := X.2.1.2.2.1.alike
theorem o_iload (X : On l Z p e R s m args below meth c y code maxL ret T h locs cells slots) {k : Nat} {v : Int32} {q : Nat} (hd : decode code pc = .ok (.iload k, 2)) (hl : L[k]? = some (.val (.int v))) (hp : pc + 2 = q) (K : Goes p e below F T (mkF m q L (.int v :: S))) : Goes p e below F T (mkF m pc L S) := by
  subst hp
  exact Goes.step (fun _ k => XS.iload X.1.here X.2.1.1 (g := mkF m pc L S) rfl (hb X.2.1.2.1 hd) hl k) K
theorem o_iloadN (X : On l Z p e R s m args below meth c y code maxL ret T h locs cells slots) {k : Fin 4} {v : Int32} {q : Nat} (hd : decode code pc = .ok (.iload_n k, 1)) (hl : L[k.val]? = some (.val (.int v))) (hp : pc + 1 = q) (K : Goes p e below F T (mkF m q L (.int v :: S))) : Goes p e below F T (mkF m pc L S) := by
  subst hp
  exact Goes.step (fun _ k => XS.iloadN X.1.here X.2.1.1 (g := mkF m pc L S) rfl (hb X.2.1.2.1 hd) hl k) K
theorem o_lload (X : On l Z p e R s m args below meth c y code maxL ret T h locs cells slots) {k : Nat} {v : Int64} {q : Nat} (hd : decode code pc = .ok (.lload k, 2)) (hl : L[k]? = some (.val (.long v))) (hp : pc + 2 = q) (K : Goes p e below F T (mkF m q L (.long v :: S))) : Goes p e below F T (mkF m pc L S) := by
  subst hp
  exact Goes.step (fun _ k => XS.lload X.1.here X.2.1.1 (g := mkF m pc L S) rfl (hb X.2.1.2.1 hd) hl k) K
theorem o_lloadN (X : On l Z p e R s m args below meth c y code maxL ret T h locs cells slots) {k : Fin 4} {v : Int64} {q : Nat} (hd : decode code pc = .ok (.lload_n k, 1)) (hl : L[k.val]? = some (.val (.long v))) (hp : pc + 1 = q) (K : Goes p e below F T (mkF m q L (.long v :: S))) : Goes p e below F T (mkF m pc L S) := by
  subst hp
  exact Goes.step (fun _ k => XS.lloadN X.1.here X.2.1.1 (g := mkF m pc L S) rfl (hb X.2.1.2.1 hd) hl k) K
theorem o_aload (X : On l Z p e R s m args below meth c y code maxL ret T h locs cells slots) {k : Nat} {v : Value} {q : Nat} (hd : decode code pc = .ok (.aload k, 2)) (hl : L[k]? = some (.val v)) (hv : v.isRef = true) (hp : pc + 2 = q) (K : Goes p e below F T (mkF m q L (v :: S))) : Goes p e below F T (mkF m pc L S) := by
  subst hp
  exact Goes.step (fun _ k => XS.aload X.1.here X.2.1.1 (g := mkF m pc L S) rfl (hb X.2.1.2.1 hd) hl hv k) K
theorem o_aloadN (X : On l Z p e R s m args below meth c y code maxL ret T h locs cells slots) {k : Fin 4} {v : Value} {q : Nat} (hd : decode code pc = .ok (.aload_n k, 1)) (hl : L[k.val]? = some (.val v)) (hv : v.isRef = true) (hp : pc + 1 = q) (K : Goes p e below F T (mkF m q L (v :: S))) : Goes p e below F T (mkF m pc L S) := by
  subst hp
  exact Goes.step (fun _ k => XS.aloadN X.1.here X.2.1.1 (g := mkF m pc L S) rfl (hb X.2.1.2.1 hd) hl hv k) K
theorem o_istore (X : On l Z p e R s m args below meth c y code maxL ret T h locs cells slots) {k : Nat} {x z : Int32} {q : Nat} (hd : decode code pc = .ok (.istore k, 2)) (hz : x = z) (hl : storeLocals L k (.int z) = some L') (hp : pc + 2 = q) (K : Goes p e below F T (mkF m q L' S)) : Goes p e below F T (mkF m pc L (.int x :: S)) := by
  subst hz hp
  exact Goes.step (fun _ k => XS.istore X.1.here X.2.1.1 (g := mkF m pc L (.int x :: S)) rfl (hb X.2.1.2.1 hd) rfl hl k) K
theorem o_istoreN (X : On l Z p e R s m args below meth c y code maxL ret T h locs cells slots) {k : Fin 4} {x z : Int32} {q : Nat} (hd : decode code pc = .ok (.istore_n k, 1)) (hz : x = z) (hl : storeLocals L k.val (.int z) = some L') (hp : pc + 1 = q) (K : Goes p e below F T (mkF m q L' S)) : Goes p e below F T (mkF m pc L (.int x :: S)) := by
  subst hz hp
  exact Goes.step (fun _ k => XS.istoreN X.1.here X.2.1.1 (g := mkF m pc L (.int x :: S)) rfl (hb X.2.1.2.1 hd) rfl hl k) K
theorem o_lstore (X : On l Z p e R s m args below meth c y code maxL ret T h locs cells slots) {k : Nat} {x z : Int64} {q : Nat} (hd : decode code pc = .ok (.lstore k, 2)) (hz : x = z) (hl : storeLocals L k (.long z) = some L') (hp : pc + 2 = q) (K : Goes p e below F T (mkF m q L' S)) : Goes p e below F T (mkF m pc L (.long x :: S)) := by
  subst hz hp
  exact Goes.step (fun _ k => XS.lstore X.1.here X.2.1.1 (g := mkF m pc L (.long x :: S)) rfl (hb X.2.1.2.1 hd) rfl hl k) K
theorem o_lstoreN (X : On l Z p e R s m args below meth c y code maxL ret T h locs cells slots) {k : Fin 4} {x z : Int64} {q : Nat} (hd : decode code pc = .ok (.lstore_n k, 1)) (hz : x = z) (hl : storeLocals L k.val (.long z) = some L') (hp : pc + 1 = q) (K : Goes p e below F T (mkF m q L' S)) : Goes p e below F T (mkF m pc L (.long x :: S)) := by
  subst hz hp
  exact Goes.step (fun _ k => XS.lstoreN X.1.here X.2.1.1 (g := mkF m pc L (.long x :: S)) rfl (hb X.2.1.2.1 hd) rfl hl k) K
theorem o_astore (X : On l Z p e R s m args below meth c y code maxL ret T h locs cells slots) {k : Nat} {x : Value} {q : Nat} (hd : decode code pc = .ok (.astore k, 2)) (hv : x.isRef = true) (hl : storeLocals L k x = some L') (hp : pc + 2 = q) (K : Goes p e below F T (mkF m q L' S)) : Goes p e below F T (mkF m pc L (x :: S)) := by
  subst hp
  exact Goes.step (fun _ k => XS.astore X.1.here X.2.1.1 (g := mkF m pc L (x :: S)) rfl (hb X.2.1.2.1 hd) rfl hv hl k) K
theorem o_astoreN (X : On l Z p e R s m args below meth c y code maxL ret T h locs cells slots) {k : Fin 4} {x : Value} {q : Nat} (hd : decode code pc = .ok (.astore_n k, 1)) (hv : x.isRef = true) (hl : storeLocals L k.val x = some L') (hp : pc + 1 = q) (K : Goes p e below F T (mkF m q L' S)) : Goes p e below F T (mkF m pc L (x :: S)) := by
  subst hp
  exact Goes.step (fun _ k => XS.astoreN X.1.here X.2.1.1 (g := mkF m pc L (x :: S)) rfl (hb X.2.1.2.1 hd) rfl hv hl k) K
theorem o_iconst (X : On l Z p e R s m args below meth c y code maxL ret T h locs cells slots) {i : Int} {w : Int32} {q : Nat} (hd : decode code pc = .ok (.iconst i, 1)) (hw : Int32.ofInt i = w) (hp : pc + 1 = q) (K : Goes p e below F T (mkF m q L (.int w :: S))) : Goes p e below F T (mkF m pc L S) := by
  subst hw hp
  exact Goes.step (fun _ k => XS.iconst X.1.here X.2.1.1 (g := mkF m pc L S) rfl (hb X.2.1.2.1 hd) k) K
theorem o_bipush (X : On l Z p e R s m args below meth c y code maxL ret T h locs cells slots) {i : Int} {w : Int32} {q : Nat} (hd : decode code pc = .ok (.bipush i, 2)) (hw : (Int8.ofInt i).toInt32 = w) (hp : pc + 2 = q) (K : Goes p e below F T (mkF m q L (.int w :: S))) : Goes p e below F T (mkF m pc L S) := by
  subst hw hp
  exact Goes.step (fun _ k => XS.bipush X.1.here X.2.1.1 (g := mkF m pc L S) rfl (hb X.2.1.2.1 hd) k) K
theorem o_sipush (X : On l Z p e R s m args below meth c y code maxL ret T h locs cells slots) {i : Int} {w : Int32} {q : Nat} (hd : decode code pc = .ok (.sipush i, 3)) (hw : (Int16.ofInt i).toInt32 = w) (hp : pc + 3 = q) (K : Goes p e below F T (mkF m q L (.int w :: S))) : Goes p e below F T (mkF m pc L S) := by
  subst hw hp
  exact Goes.step (fun _ k => XS.sipush X.1.here X.2.1.1 (g := mkF m pc L S) rfl (hb X.2.1.2.1 hd) k) K
theorem o_lconst (X : On l Z p e R s m args below meth c y code maxL ret T h locs cells slots) {i : Fin 2} {w : Int64} {q : Nat} (hd : decode code pc = .ok (.lconst i, 1)) (hw : Int64.ofNat i = w) (hp : pc + 1 = q) (K : Goes p e below F T (mkF m q L (.long w :: S))) : Goes p e below F T (mkF m pc L S) := by
  subst hw hp
  exact Goes.step (fun _ k => XS.lconst X.1.here X.2.1.1 (g := mkF m pc L S) rfl (hb X.2.1.2.1 hd) k) K
theorem o_null (X : On l Z p e R s m args below meth c y code maxL ret T h locs cells slots)  {q : Nat} (hd : decode code pc = .ok (.aconst_null, 1)) (hp : pc + 1 = q) (K : Goes p e below F T (mkF m q L (.null :: S))) : Goes p e below F T (mkF m pc L S) := by
  subst hp
  exact Goes.step (fun _ k => XS.aconstNull X.1.here X.2.1.1 (g := mkF m pc L S) rfl (hb X.2.1.2.1 hd)  k) K
theorem o_iadd (X : On l Z p e R s m args below meth c y code maxL ret T h locs cells slots) {x : Int32} {z : Int32} {w : Int32} {q : Nat} (hd : decode code pc = .ok (.iadd, 1)) (hw : x + z = w) (hp : pc + 1 = q) (K : Goes p e below F T (mkF m q L (.int w :: S))) : Goes p e below F T (mkF m pc L (.int z :: .int x :: S)) := by
  subst hw hp
  exact Goes.step (fun _ k => XS.iadd X.1.here X.2.1.1 (g := mkF m pc L (.int z :: .int x :: S)) rfl (hb X.2.1.2.1 hd) rfl  k) K
theorem o_isub (X : On l Z p e R s m args below meth c y code maxL ret T h locs cells slots) {x : Int32} {z : Int32} {w : Int32} {q : Nat} (hd : decode code pc = .ok (.isub, 1)) (hw : x - z = w) (hp : pc + 1 = q) (K : Goes p e below F T (mkF m q L (.int w :: S))) : Goes p e below F T (mkF m pc L (.int z :: .int x :: S)) := by
  subst hw hp
  exact Goes.step (fun _ k => XS.isub X.1.here X.2.1.1 (g := mkF m pc L (.int z :: .int x :: S)) rfl (hb X.2.1.2.1 hd) rfl  k) K
theorem o_imul (X : On l Z p e R s m args below meth c y code maxL ret T h locs cells slots) {x : Int32} {z : Int32} {w : Int32} {q : Nat} (hd : decode code pc = .ok (.imul, 1)) (hw : x * z = w) (hp : pc + 1 = q) (K : Goes p e below F T (mkF m q L (.int w :: S))) : Goes p e below F T (mkF m pc L (.int z :: .int x :: S)) := by
  subst hw hp
  exact Goes.step (fun _ k => XS.imul X.1.here X.2.1.1 (g := mkF m pc L (.int z :: .int x :: S)) rfl (hb X.2.1.2.1 hd) rfl  k) K
theorem o_iand (X : On l Z p e R s m args below meth c y code maxL ret T h locs cells slots) {x : Int32} {z : Int32} {w : Int32} {q : Nat} (hd : decode code pc = .ok (.iand, 1)) (hw : x &&& z = w) (hp : pc + 1 = q) (K : Goes p e below F T (mkF m q L (.int w :: S))) : Goes p e below F T (mkF m pc L (.int z :: .int x :: S)) := by
  subst hw hp
  exact Goes.step (fun _ k => XS.iand X.1.here X.2.1.1 (g := mkF m pc L (.int z :: .int x :: S)) rfl (hb X.2.1.2.1 hd) rfl  k) K
theorem o_ior (X : On l Z p e R s m args below meth c y code maxL ret T h locs cells slots) {x : Int32} {z : Int32} {w : Int32} {q : Nat} (hd : decode code pc = .ok (.ior, 1)) (hw : x ||| z = w) (hp : pc + 1 = q) (K : Goes p e below F T (mkF m q L (.int w :: S))) : Goes p e below F T (mkF m pc L (.int z :: .int x :: S)) := by
  subst hw hp
  exact Goes.step (fun _ k => XS.ior X.1.here X.2.1.1 (g := mkF m pc L (.int z :: .int x :: S)) rfl (hb X.2.1.2.1 hd) rfl  k) K
theorem o_ixor (X : On l Z p e R s m args below meth c y code maxL ret T h locs cells slots) {x : Int32} {z : Int32} {w : Int32} {q : Nat} (hd : decode code pc = .ok (.ixor, 1)) (hw : x ^^^ z = w) (hp : pc + 1 = q) (K : Goes p e below F T (mkF m q L (.int w :: S))) : Goes p e below F T (mkF m pc L (.int z :: .int x :: S)) := by
  subst hw hp
  exact Goes.step (fun _ k => XS.ixor X.1.here X.2.1.1 (g := mkF m pc L (.int z :: .int x :: S)) rfl (hb X.2.1.2.1 hd) rfl  k) K
theorem o_ishl (X : On l Z p e R s m args below meth c y code maxL ret T h locs cells slots) {x : Int32} {z : Int32} {w : Int32} {q : Nat} (hd : decode code pc = .ok (.ishl, 1)) (hw : x <<< (z &&& 31) = w) (hp : pc + 1 = q) (K : Goes p e below F T (mkF m q L (.int w :: S))) : Goes p e below F T (mkF m pc L (.int z :: .int x :: S)) := by
  subst hw hp
  exact Goes.step (fun _ k => XS.ishl X.1.here X.2.1.1 (g := mkF m pc L (.int z :: .int x :: S)) rfl (hb X.2.1.2.1 hd) rfl  k) K
theorem o_ishr (X : On l Z p e R s m args below meth c y code maxL ret T h locs cells slots) {x : Int32} {z : Int32} {w : Int32} {q : Nat} (hd : decode code pc = .ok (.ishr, 1)) (hw : x >>> (z &&& 31) = w) (hp : pc + 1 = q) (K : Goes p e below F T (mkF m q L (.int w :: S))) : Goes p e below F T (mkF m pc L (.int z :: .int x :: S)) := by
  subst hw hp
  exact Goes.step (fun _ k => XS.ishr X.1.here X.2.1.1 (g := mkF m pc L (.int z :: .int x :: S)) rfl (hb X.2.1.2.1 hd) rfl  k) K
theorem o_iushr (X : On l Z p e R s m args below meth c y code maxL ret T h locs cells slots) {x : Int32} {z : Int32} {w : Int32} {q : Nat} (hd : decode code pc = .ok (.iushr, 1)) (hw : (x.toUInt32 >>> (z &&& 31).toUInt32).toInt32 = w) (hp : pc + 1 = q) (K : Goes p e below F T (mkF m q L (.int w :: S))) : Goes p e below F T (mkF m pc L (.int z :: .int x :: S)) := by
  subst hw hp
  exact Goes.step (fun _ k => XS.iushr X.1.here X.2.1.1 (g := mkF m pc L (.int z :: .int x :: S)) rfl (hb X.2.1.2.1 hd) rfl  k) K
theorem o_ladd (X : On l Z p e R s m args below meth c y code maxL ret T h locs cells slots) {x : Int64} {z : Int64} {w : Int64} {q : Nat} (hd : decode code pc = .ok (.ladd, 1)) (hw : x + z = w) (hp : pc + 1 = q) (K : Goes p e below F T (mkF m q L (.long w :: S))) : Goes p e below F T (mkF m pc L (.long z :: .long x :: S)) := by
  subst hw hp
  exact Goes.step (fun _ k => XS.ladd X.1.here X.2.1.1 (g := mkF m pc L (.long z :: .long x :: S)) rfl (hb X.2.1.2.1 hd) rfl  k) K
theorem o_lsub (X : On l Z p e R s m args below meth c y code maxL ret T h locs cells slots) {x : Int64} {z : Int64} {w : Int64} {q : Nat} (hd : decode code pc = .ok (.lsub, 1)) (hw : x - z = w) (hp : pc + 1 = q) (K : Goes p e below F T (mkF m q L (.long w :: S))) : Goes p e below F T (mkF m pc L (.long z :: .long x :: S)) := by
  subst hw hp
  exact Goes.step (fun _ k => XS.lsub X.1.here X.2.1.1 (g := mkF m pc L (.long z :: .long x :: S)) rfl (hb X.2.1.2.1 hd) rfl  k) K
theorem o_lmul (X : On l Z p e R s m args below meth c y code maxL ret T h locs cells slots) {x : Int64} {z : Int64} {w : Int64} {q : Nat} (hd : decode code pc = .ok (.lmul, 1)) (hw : x * z = w) (hp : pc + 1 = q) (K : Goes p e below F T (mkF m q L (.long w :: S))) : Goes p e below F T (mkF m pc L (.long z :: .long x :: S)) := by
  subst hw hp
  exact Goes.step (fun _ k => XS.lmul X.1.here X.2.1.1 (g := mkF m pc L (.long z :: .long x :: S)) rfl (hb X.2.1.2.1 hd) rfl  k) K
theorem o_land (X : On l Z p e R s m args below meth c y code maxL ret T h locs cells slots) {x : Int64} {z : Int64} {w : Int64} {q : Nat} (hd : decode code pc = .ok (.land, 1)) (hw : x &&& z = w) (hp : pc + 1 = q) (K : Goes p e below F T (mkF m q L (.long w :: S))) : Goes p e below F T (mkF m pc L (.long z :: .long x :: S)) := by
  subst hw hp
  exact Goes.step (fun _ k => XS.land X.1.here X.2.1.1 (g := mkF m pc L (.long z :: .long x :: S)) rfl (hb X.2.1.2.1 hd) rfl  k) K
theorem o_lor (X : On l Z p e R s m args below meth c y code maxL ret T h locs cells slots) {x : Int64} {z : Int64} {w : Int64} {q : Nat} (hd : decode code pc = .ok (.lor, 1)) (hw : x ||| z = w) (hp : pc + 1 = q) (K : Goes p e below F T (mkF m q L (.long w :: S))) : Goes p e below F T (mkF m pc L (.long z :: .long x :: S)) := by
  subst hw hp
  exact Goes.step (fun _ k => XS.lor X.1.here X.2.1.1 (g := mkF m pc L (.long z :: .long x :: S)) rfl (hb X.2.1.2.1 hd) rfl  k) K
theorem o_lxor (X : On l Z p e R s m args below meth c y code maxL ret T h locs cells slots) {x : Int64} {z : Int64} {w : Int64} {q : Nat} (hd : decode code pc = .ok (.lxor, 1)) (hw : x ^^^ z = w) (hp : pc + 1 = q) (K : Goes p e below F T (mkF m q L (.long w :: S))) : Goes p e below F T (mkF m pc L (.long z :: .long x :: S)) := by
  subst hw hp
  exact Goes.step (fun _ k => XS.lxor X.1.here X.2.1.1 (g := mkF m pc L (.long z :: .long x :: S)) rfl (hb X.2.1.2.1 hd) rfl  k) K
theorem o_lshl (X : On l Z p e R s m args below meth c y code maxL ret T h locs cells slots) {x : Int64} {z : Int32} {w : Int64} {q : Nat} (hd : decode code pc = .ok (.lshl, 1)) (hw : x <<< (z &&& 0x3f).toInt64 = w) (hp : pc + 1 = q) (K : Goes p e below F T (mkF m q L (.long w :: S))) : Goes p e below F T (mkF m pc L (.int z :: .long x :: S)) := by
  subst hw hp
  exact Goes.step (fun _ k => XS.lshl X.1.here X.2.1.1 (g := mkF m pc L (.int z :: .long x :: S)) rfl (hb X.2.1.2.1 hd) rfl  k) K
theorem o_lshr (X : On l Z p e R s m args below meth c y code maxL ret T h locs cells slots) {x : Int64} {z : Int32} {w : Int64} {q : Nat} (hd : decode code pc = .ok (.lshr, 1)) (hw : x >>> (z &&& 0x3f).toInt64 = w) (hp : pc + 1 = q) (K : Goes p e below F T (mkF m q L (.long w :: S))) : Goes p e below F T (mkF m pc L (.int z :: .long x :: S)) := by
  subst hw hp
  exact Goes.step (fun _ k => XS.lshr X.1.here X.2.1.1 (g := mkF m pc L (.int z :: .long x :: S)) rfl (hb X.2.1.2.1 hd) rfl  k) K
theorem o_lushr (X : On l Z p e R s m args below meth c y code maxL ret T h locs cells slots) {x : Int64} {z : Int32} {w : Int64} {q : Nat} (hd : decode code pc = .ok (.lushr, 1)) (hw : (x.toUInt64 >>> (z &&& 0x3f).toInt64.toUInt64).toInt64 = w) (hp : pc + 1 = q) (K : Goes p e below F T (mkF m q L (.long w :: S))) : Goes p e below F T (mkF m pc L (.int z :: .long x :: S)) := by
  subst hw hp
  exact Goes.step (fun _ k => XS.lushr X.1.here X.2.1.1 (g := mkF m pc L (.int z :: .long x :: S)) rfl (hb X.2.1.2.1 hd) rfl  k) K
theorem o_idiv (X : On l Z p e R s m args below meth c y code maxL ret T h locs cells slots) {x : Int32} {z : Int32} {w : Int32} {q : Nat} (hd : decode code pc = .ok (.idiv, 1)) (hn : z ≠ 0) (hw : x / z = w) (hp : pc + 1 = q) (K : Goes p e below F T (mkF m q L (.int w :: S))) : Goes p e below F T (mkF m pc L (.int z :: .int x :: S)) := by
  subst hw hp
  exact Goes.step (fun _ k => XS.idiv X.1.here X.2.1.1 (g := mkF m pc L (.int z :: .int x :: S)) rfl (hb X.2.1.2.1 hd) rfl hn k) K
theorem o_irem (X : On l Z p e R s m args below meth c y code maxL ret T h locs cells slots) {x : Int32} {z : Int32} {w : Int32} {q : Nat} (hd : decode code pc = .ok (.irem, 1)) (hn : z ≠ 0) (hw : x % z = w) (hp : pc + 1 = q) (K : Goes p e below F T (mkF m q L (.int w :: S))) : Goes p e below F T (mkF m pc L (.int z :: .int x :: S)) := by
  subst hw hp
  exact Goes.step (fun _ k => iremM (g := mkF m pc L (.int z :: .int x :: S)) X.1 X.2.1.1 rfl (hb X.2.1.2.1 hd) rfl hn k) K
theorem o_lcmp (X : On l Z p e R s m args below meth c y code maxL ret T h locs cells slots) {x : Int64} {z : Int64} {w : Int32} {q : Nat} (hd : decode code pc = .ok (.lcmp, 1)) (hw : lcmpW x z = w) (hp : pc + 1 = q) (K : Goes p e below F T (mkF m q L (.int w :: S))) : Goes p e below F T (mkF m pc L (.long z :: .long x :: S)) := by
  subst hw hp
  exact Goes.step (fun _ k => XS.lcmp X.1.here X.2.1.1 (g := mkF m pc L (.long z :: .long x :: S)) rfl (hb X.2.1.2.1 hd) rfl  k) K
theorem o_ineg (X : On l Z p e R s m args below meth c y code maxL ret T h locs cells slots) {x : Int32} {w : Int32} {q : Nat} (hd : decode code pc = .ok (.ineg, 1)) (hw : -x = w) (hp : pc + 1 = q) (K : Goes p e below F T (mkF m q L (.int w :: S))) : Goes p e below F T (mkF m pc L (.int x :: S)) := by
  subst hw hp
  exact Goes.step (fun _ k => XS.ineg X.1.here X.2.1.1 (g := mkF m pc L (.int x :: S)) rfl (hb X.2.1.2.1 hd) rfl k) K
theorem o_lneg (X : On l Z p e R s m args below meth c y code maxL ret T h locs cells slots) {x : Int64} {w : Int64} {q : Nat} (hd : decode code pc = .ok (.lneg, 1)) (hw : -x = w) (hp : pc + 1 = q) (K : Goes p e below F T (mkF m q L (.long w :: S))) : Goes p e below F T (mkF m pc L (.long x :: S)) := by
  subst hw hp
  exact Goes.step (fun _ k => XS.lneg X.1.here X.2.1.1 (g := mkF m pc L (.long x :: S)) rfl (hb X.2.1.2.1 hd) rfl k) K
theorem o_i2l (X : On l Z p e R s m args below meth c y code maxL ret T h locs cells slots) {x : Int32} {w : Int64} {q : Nat} (hd : decode code pc = .ok (.i2l, 1)) (hw : x.toInt64 = w) (hp : pc + 1 = q) (K : Goes p e below F T (mkF m q L (.long w :: S))) : Goes p e below F T (mkF m pc L (.int x :: S)) := by
  subst hw hp
  exact Goes.step (fun _ k => XS.i2l X.1.here X.2.1.1 (g := mkF m pc L (.int x :: S)) rfl (hb X.2.1.2.1 hd) rfl k) K
theorem o_l2i (X : On l Z p e R s m args below meth c y code maxL ret T h locs cells slots) {x : Int64} {w : Int32} {q : Nat} (hd : decode code pc = .ok (.l2i, 1)) (hw : x.toInt32 = w) (hp : pc + 1 = q) (K : Goes p e below F T (mkF m q L (.int w :: S))) : Goes p e below F T (mkF m pc L (.long x :: S)) := by
  subst hw hp
  exact Goes.step (fun _ k => XS.l2i X.1.here X.2.1.1 (g := mkF m pc L (.long x :: S)) rfl (hb X.2.1.2.1 hd) rfl k) K
theorem o_i2b (X : On l Z p e R s m args below meth c y code maxL ret T h locs cells slots) {x : Int32} {w : Int32} {q : Nat} (hd : decode code pc = .ok (.i2b, 1)) (hw : x.toInt8.toInt32 = w) (hp : pc + 1 = q) (K : Goes p e below F T (mkF m q L (.int w :: S))) : Goes p e below F T (mkF m pc L (.int x :: S)) := by
  subst hw hp
  exact Goes.step (fun _ k => XS.i2b X.1.here X.2.1.1 (g := mkF m pc L (.int x :: S)) rfl (hb X.2.1.2.1 hd) rfl k) K
theorem o_i2c (X : On l Z p e R s m args below meth c y code maxL ret T h locs cells slots) {x : Int32} {w : Int32} {q : Nat} (hd : decode code pc = .ok (.i2c, 1)) (hw : x.toUInt32.toUInt16.toUInt32.toInt32 = w) (hp : pc + 1 = q) (K : Goes p e below F T (mkF m q L (.int w :: S))) : Goes p e below F T (mkF m pc L (.int x :: S)) := by
  subst hw hp
  exact Goes.step (fun _ k => XS.i2c X.1.here X.2.1.1 (g := mkF m pc L (.int x :: S)) rfl (hb X.2.1.2.1 hd) rfl k) K
theorem o_i2s (X : On l Z p e R s m args below meth c y code maxL ret T h locs cells slots) {x : Int32} {w : Int32} {q : Nat} (hd : decode code pc = .ok (.i2s, 1)) (hw : x.toInt16.toInt32 = w) (hp : pc + 1 = q) (K : Goes p e below F T (mkF m q L (.int w :: S))) : Goes p e below F T (mkF m pc L (.int x :: S)) := by
  subst hw hp
  exact Goes.step (fun _ k => XS.i2s X.1.here X.2.1.1 (g := mkF m pc L (.int x :: S)) rfl (hb X.2.1.2.1 hd) rfl k) K
theorem o_dup (X : On l Z p e R s m args below meth c y code maxL ret T h locs cells slots) {x : Value} {q : Nat} (hd : decode code pc = .ok (.dup, 1)) (hc : x.category = 1) (hp : pc + 1 = q) (K : Goes p e below F T (mkF m q L (x :: x :: S))) : Goes p e below F T (mkF m pc L (x :: S)) := by
  subst hp
  exact Goes.step (fun _ k => XS.dup X.1.here X.2.1.1 (g := mkF m pc L (x :: S)) rfl (hb X.2.1.2.1 hd) rfl hc k) K
theorem o_pop (X : On l Z p e R s m args below meth c y code maxL ret T h locs cells slots) {x : Value} {q : Nat} (hd : decode code pc = .ok (.pop, 1)) (hc : x.category = 1) (hp : pc + 1 = q) (K : Goes p e below F T (mkF m q L S)) : Goes p e below F T (mkF m pc L (x :: S)) := by
  subst hp
  exact Goes.step (fun _ k => XS.pop X.1.here X.2.1.1 (g := mkF m pc L (x :: S)) rfl (hb X.2.1.2.1 hd) rfl hc k) K
theorem o_dupX1 (X : On l Z p e R s m args below meth c y code maxL ret T h locs cells slots) {x z : Value} {q : Nat} (hd : decode code pc = .ok (.dup_x1, 1)) (hc : x.category = 1) (hc' : z.category = 1) (hp : pc + 1 = q) (K : Goes p e below F T (mkF m q L (x :: z :: x :: S))) : Goes p e below F T (mkF m pc L (x :: z :: S)) := by
  subst hp
  exact Goes.step (fun _ k => XS.dupX1 X.1.here X.2.1.1 (g := mkF m pc L (x :: z :: S)) rfl (hb X.2.1.2.1 hd) rfl hc hc' k) K
theorem o_dup2 (X : On l Z p e R s m args below meth c y code maxL ret T h locs cells slots) {x z : Value} {q : Nat} (hd : decode code pc = .ok (.dup2, 1)) (hc : x.category = 1) (hc' : z.category = 1) (hp : pc + 1 = q) (K : Goes p e below F T (mkF m q L (x :: z :: x :: z :: S))) : Goes p e below F T (mkF m pc L (x :: z :: S)) := by
  subst hp
  exact Goes.step (fun _ k => Jvm.Free.XT.dup2 X.1.here X.2.1.1 (g := mkF m pc L (x :: z :: S)) rfl (hb X.2.1.2.1 hd) rfl hc hc' k) K
theorem o_iinc (X : On l Z p e R s m args below meth c y code maxL ret T h locs cells slots) {k : Nat} {i : Int} {x z : Int32} {q : Nat} (hd : decode code pc = .ok (.iinc k i, 3)) (hl : L[k]? = some (.val (.int x))) (hz : x + Int32.ofInt i = z) (hl' : storeLocals L k (.int z) = some L') (hp : pc + 3 = q) (K : Goes p e below F T (mkF m q L' S)) : Goes p e below F T (mkF m pc L S) := by
  subst hz hp
  exact Goes.step (fun _ k => XS.iinc X.1.here X.2.1.1 (g := mkF m pc L S) rfl (hb X.2.1.2.1 hd) hl hl' k) K
theorem o_goto (X : On l Z p e R s m args below meth c y code maxL ret T h locs cells slots) {i : Int} {q : Nat} (hd : decode code pc = .ok (.goto i, 3)) (ho : 0 ≤ (pc : Int) + i) (hp : ((pc : Int) + i).toNat = q) (K : Goes p e below F T (mkF m q L S)) : Goes p e below F T (mkF m pc L S) := Goes.step (fun _ k => XS.goto X.1.here X.2.1.1 (g := mkF m pc L S) (pc0 := pc) rfl rfl (hb X.2.1.2.1 hd) ho hp k) K
theorem o_ifY (X : On l Z p e R s m args below meth c y code maxL ret T h locs cells slots) {cd : ClassFile.Cond} {i : Int} {x : Int32} {q : Nat} (hd : decode code pc = .ok (.ifCond cd i, 3)) (hc : if_icmp.holds cd x 0 = true) (ho : 0 ≤ (pc : Int) + i) (hp : ((pc : Int) + i).toNat = q) (K : Goes p e below F T (mkF m q L S)) : Goes p e below F T (mkF m pc L (.int x :: S)) := Goes.step (fun _ k => XS.ifYes X.1.here X.2.1.1 (g := mkF m pc L (.int x :: S)) rfl (pc0 := pc) rfl (hb X.2.1.2.1 hd) rfl ((if0 _ _).trans hc) ho hp k) K
theorem o_ifN (X : On l Z p e R s m args below meth c y code maxL ret T h locs cells slots) {cd : ClassFile.Cond} {i : Int} {x : Int32} {q : Nat} (hd : decode code pc = .ok (.ifCond cd i, 3)) (hc : if_icmp.holds cd x 0 = false) (hp : pc + 3 = q) (K : Goes p e below F T (mkF m q L S)) : Goes p e below F T (mkF m pc L (.int x :: S)) := by
  subst hp
  exact Goes.step (fun _ k => XS.ifNo X.1.here X.2.1.1 (g := mkF m pc L (.int x :: S)) rfl (hb X.2.1.2.1 hd) rfl ((if0 _ _).trans hc) k) K
theorem o_icmpY (X : On l Z p e R s m args below meth c y code maxL ret T h locs cells slots) {cd : ClassFile.Cond} {i : Int} {x z : Int32} {q : Nat} (hd : decode code pc = .ok (.if_icmp cd i, 3)) (hc : if_icmp.holds cd x z = true) (ho : 0 ≤ (pc : Int) + i) (hp : ((pc : Int) + i).toNat = q) (K : Goes p e below F T (mkF m q L S)) : Goes p e below F T (mkF m pc L (.int z :: .int x :: S)) := Goes.step (fun _ k => XS.icmpYes X.1.here X.2.1.1 (g := mkF m pc L (.int z :: .int x :: S)) rfl (pc0 := pc) rfl (hb X.2.1.2.1 hd) rfl hc ho hp k) K
theorem o_icmpN (X : On l Z p e R s m args below meth c y code maxL ret T h locs cells slots) {cd : ClassFile.Cond} {i : Int} {x z : Int32} {q : Nat} (hd : decode code pc = .ok (.if_icmp cd i, 3)) (hc : if_icmp.holds cd x z = false) (hp : pc + 3 = q) (K : Goes p e below F T (mkF m q L S)) : Goes p e below F T (mkF m pc L (.int z :: .int x :: S)) := by
  subst hp
  exact Goes.step (fun _ k => XS.icmpNo X.1.here X.2.1.1 (g := mkF m pc L (.int z :: .int x :: S)) rfl (hb X.2.1.2.1 hd) rfl hc k) K
theorem o_ifnullY (X : On l Z p e R s m args below meth c y code maxL ret T h locs cells slots) {i : Int} {q : Nat} (hd : decode code pc = .ok (.ifnull i, 3)) (ho : 0 ≤ (pc : Int) + i) (hp : ((pc : Int) + i).toNat = q) (K : Goes p e below F T (mkF m q L S)) : Goes p e below F T (mkF m pc L (.null :: S)) := Goes.step (fun _ k => XS.ifnullYes X.1.here X.2.1.1 (g := mkF m pc L (.null :: S)) rfl (pc0 := pc) rfl (hb X.2.1.2.1 hd) rfl ho hp k) K
theorem o_ifnullN (X : On l Z p e R s m args below meth c y code maxL ret T h locs cells slots) {i : Int} {q : Nat} {b : Addr} (hd : decode code pc = .ok (.ifnull i, 3)) (hp : pc + 3 = q) (K : Goes p e below F T (mkF m q L S)) : Goes p e below F T (mkF m pc L ((.ref b) :: S)) := by
  subst hp
  exact Goes.step (fun _ k => XS.ifnullNo X.1.here X.2.1.1 (g := mkF m pc L ((.ref b) :: S)) rfl (hb X.2.1.2.1 hd) rfl k) K
theorem o_ifnonnullY (X : On l Z p e R s m args below meth c y code maxL ret T h locs cells slots) {i : Int} {q : Nat} {b : Addr} (hd : decode code pc = .ok (.ifnonnull i, 3)) (ho : 0 ≤ (pc : Int) + i) (hp : ((pc : Int) + i).toNat = q) (K : Goes p e below F T (mkF m q L S)) : Goes p e below F T (mkF m pc L ((.ref b) :: S)) := Goes.step (fun _ k => XS.ifnonnullYes X.1.here X.2.1.1 (g := mkF m pc L ((.ref b) :: S)) rfl (pc0 := pc) rfl (hb X.2.1.2.1 hd) rfl ho hp k) K
theorem o_ifnonnullN (X : On l Z p e R s m args below meth c y code maxL ret T h locs cells slots) {i : Int} {q : Nat} (hd : decode code pc = .ok (.ifnonnull i, 3)) (hp : pc + 3 = q) (K : Goes p e below F T (mkF m q L S)) : Goes p e below F T (mkF m pc L (.null :: S)) := by
  subst hp
  exact Goes.step (fun _ k => XS.ifnonnullNo X.1.here X.2.1.1 (g := mkF m pc L (.null :: S)) rfl (hb X.2.1.2.1 hd) rfl k) K
theorem o_acmp (X : On l Z p e R s m args below meth c y code maxL ret T h locs cells slots) {cd : ACond} {i : Int} {x z : Value} {q : Nat} {same : Bool} (hd : decode code pc = .ok (.if_acmp cd i, 3)) (h1 : x.isRef = true) (h2 : z.isRef = true) (hq : decide (x = z) = same) (ho : 0 ≤ (pc : Int) + i) (hp : q = if acV cd same = true then ((pc : Int) + i).toNat else pc + 3) (K : Goes p e below F T (mkF m q L S)) : Goes p e below F T (mkF m pc L (z :: x :: S)) := Goes.step (fun _ k => Jvm.RoadKit.acmp (g := mkF m pc L (z :: x :: S)) X.1 X.2.1.1 rfl h1 h2 (pc0 := pc) rfl (hb X.2.1.2.1 hd) rfl hq ho hp k) K
theorem o_ldcI (X : On l Z p e R s m args below meth c y code maxL ret T h locs cells slots) {index : Nat} {v : Int32} {q : Nat} (w : (Jvm.Cond.constant y.cls index v).before a0 Z = true) (hd : decode code pc = .ok (.ldc index, 2)) (hp : pc + 2 = q) (K : Goes p e below F T (mkF m q L (.int v :: S))) : Goes p e below F T (mkF m pc L S) := by
  subst hp
  exact Goes.step (X.1.ldcInt X.2.1.1 X.2.1.2.2.2.1 (mvT X.2.1.2.2.1 w) (g := mkF m pc L S) rfl (hb X.2.1.2.1 hd)) K
theorem o_ldcJ (X : On l Z p e R s m args below meth c y code maxL ret T h locs cells slots) {index : Nat} {v : Int64} {q : Nat} (w : (Jvm.Cond.constantLong y.cls index v).before a0 Z = true) (hd : decode code pc = .ok (.ldc2_w index, 3)) (hp : pc + 3 = q) (K : Goes p e below F T (mkF m q L (.long v :: S))) : Goes p e below F T (mkF m pc L S) := by
  subst hp
  exact Goes.step (X.1.ldc2Long X.2.1.1 X.2.1.2.2.2.1 (mvT X.2.1.2.2.1 w) (g := mkF m pc L S) rfl (hb X.2.1.2.1 hd)) K
theorem o_new (X : On l Z p e R s m args below meth c y code maxL ret T h locs cells slots) {C : String} {index n q : Nat} (w : (Jvm.Cond.classLink y.cls index C).before a0 Z = true) (wi : (Jvm.Cond.instantiable C n).before a0 Z = true) (wz : (Jvm.Cond.initialized C).before a0 Z = true) (hd : decode code pc = .ok (.new index, 3)) (hc : cells + 1 ≤ R.cells) (hl : slots + n ≤ R.slots) (hp : pc + 3 = q)
    (K : ∀ (T' : State) (h' : Heap) (a : Addr), a = h.size → On l Z p e R s m args below meth c y code maxL ret T' h' locs (cells + 1) (slots + n) → Ext h h' → Exa Z h' a C → (∀ {O nm d : String} {ty : FieldType}, Laid Z a0 C O nm d → parseFieldDescriptor d = some ty → Fld Z h' a O nm d (defaultValue ty)) → Z.heap.size ≤ a → Goes p e below F T' (mkF m q L (.ref a :: S))) : Goes p e below F T (mkF m pc L S) := by
  subst hp
  obtain ⟨X1, C1, e1, N1, E1⟩ := X
  obtain ⟨T', h', X', e', E', A', D', -, st⟩ := newO X1 C1.1 C1.2.2.1 C1.2.2.2.1 w wi wz e1 (g := mkF m pc L S) rfl (hb C1.2.1 hd) hc hl
  exact Goes.step st (K T' h' h.size rfl ⟨X', C1, e', N1, ext_trans E1 E'⟩ E' A' D' E1.1)
theorem o_newarr (X : On l Z p e R s m args below meth c y code maxL ret T h locs cells slots) {aty : ArrayType} {n : Int32} {cap q : Nat} (N : Nat) (w : (Jvm.Cond.arrayClass (newarray.typeOf aty)).before a0 Z = true) (hd : decode code pc = .ok (.newarray aty, 2)) (hn : ¬ n < 0) (hcap : n.toNatClampNeg ≤ cap) (hb8 : cap * 8 ≤ 536870912) (hc : cells + 1 ≤ R.cells) (hl : slots + cap ≤ R.slots) (hp : pc + 2 = q)
    (K : ∀ (T' : State) (h' : Heap) (a : Addr) (k : ClassId), a = h.size → On l Z p e R s m args below meth c y code maxL ret T' h' locs (cells + 1) (slots + cap) → Ext h h' → Arv Z h' a k (newarray.typeOf aty) n (List.replicate N (defaultValue (newarray.typeOf aty))) (defaultValue (newarray.typeOf aty)) → Z.heap.size ≤ a → Goes p e below F T' (mkF m q L (.ref a :: S))) : Goes p e below F T (mkF m pc L (.int n :: S)) := by
  subst hp
  obtain ⟨X1, C1, e1, N1, E1⟩ := X
  obtain ⟨T', h', k, X', e', E', A', st⟩ := newP X1 C1.1 C1.2.2.1 w e1 (g := mkF m pc L (.int n :: S)) rfl (hb C1.2.1 hd) rfl hn hcap hb8 hc hl
  exact Goes.step st (K T' h' h.size k rfl ⟨X', C1, e', N1, ext_trans E1 E'⟩ E' ((Arv.new A' hn).pad (pad_rep [] _ N)) E1.1)
theorem o_getF (X : On l Z p e R s m args below meth c y code maxL ret T h locs cells slots) {R0 O n d host : String} {index q : Nat} {a : Addr} {v : Value} (Fx : Fld Z h a O n d v) (w : (Jvm.Cond.fieldLink y.cls index R0 n d).before a0 Z = true ∨ (Jvm.Cond.fieldLinkNest y.cls index R0 n d host).before a0 Z = true) (via : Via Z R0 O n d) (hd : decode code pc = .ok (.getfield index, 3)) (hp : pc + 3 = q)
    (K : ∀ T' : State, On l Z p e R s m args below meth c y code maxL ret T' h locs cells slots → Goes p e below F T' (mkF m q L (v :: S))) : Goes p e below F T (mkF m pc L (.ref a :: S)) := by
  subst hp
  obtain ⟨X1, C1, e1, N1, E1⟩ := X
  obtain ⟨T', X', e', st⟩ := getF X1 C1.1 C1.2.2.1 C1.2.2.2.1 w via e1 Fx (g := mkF m pc L (.ref a :: S)) rfl rfl (hb C1.2.1 hd)
  exact Goes.step st (K T' ⟨X', C1, e', N1, E1⟩)
theorem o_getS (X : On l Z p e R s m args below meth c y code maxL ret T h locs cells slots) {R0 O n d host : String} {index q : Nat} {v : Value} (Fx : Sta Z Z.heap O n d v) (w : (Jvm.Cond.fieldLink y.cls index R0 n d).before a0 Z = true ∨ (Jvm.Cond.fieldLinkNest y.cls index R0 n d host).before a0 Z = true) (via : Via Z R0 O n d) (hd : decode code pc = .ok (.getstatic index, 3)) (hp : pc + 3 = q)
    (K : ∀ T' : State, On l Z p e R s m args below meth c y code maxL ret T' h locs cells slots → Goes p e below F T' (mkF m q L (v :: S))) : Goes p e below F T (mkF m pc L S) := by
  subst hp
  obtain ⟨X1, C1, e1, N1, E1⟩ := X
  obtain ⟨T', X', e', st⟩ := getS2 X1 C1.1 C1.2.2.1 C1.2.2.2.1 w via e1 (Fx.ext E1) (g := mkF m pc L S) rfl (hb C1.2.1 hd)
  exact Goes.step st (K T' ⟨X', C1, e', N1, E1⟩)
theorem o_putF (X : On l Z p e R s m args below meth c y code maxL ret T h locs cells slots) {R0 O n d host C : String} {index kk q : Nat} {ty : FieldType} {a : Addr} {v old : Value} (Fx : Fld Z h a O n d old) (E : Exa Z h a C) (ha : Z.heap.size ≤ a) (w : (Jvm.Cond.fieldLink y.cls index R0 n d).before a0 Z = true ∨ (Jvm.Cond.fieldLinkNest y.cls index R0 n d host).before a0 Z = true) (via : Via Z R0 O n d)
    (Lw : (Jvm.Cond.lays C O n d).before a0 Z = true ∨ ((Jvm.Cond.laysFinal C O n d).before a0 Z = true ∧ y.cls = O ∧ y.name = "<init>")) (wi : (Jvm.Cond.instantiable C kk).before a0 Z = true) (hty : parseFieldDescriptor d = some ty) (hn : narrow ty v = v) (hf : fits ty v = true) (hd : decode code pc = .ok (.putfield index, 3)) (hp : pc + 3 = q)
    (K : ∀ (T' : State) (h' : Heap) (locs' : List Loc), On l Z p e R s m args below meth c y code maxL ret T' h' locs' cells slots → Wr h h' a (Jvm.RoadKit.slotOf Z O n d) v → Fld Z h' a O n d v → Goes p e below F T' (mkF m q L S)) : Goes p e below F T (mkF m pc L (v :: .ref a :: S)) := by
  subst hp
  obtain ⟨X1, C1, e1, N1, E1⟩ := X
  obtain ⟨T', h', X', e', W', st⟩ := putF X1 C1.1 C1.2.2.1 C1.2.2.2.1 w via e1 Fx E (Lw.imp_right fun q => ⟨q.1, q.2.1, C1.2.2.2.2.2.2.1.trans q.2.2⟩) wi hty hn hf (g := mkF m pc L (v :: .ref a :: S)) rfl rfl (hb C1.2.1 hd)
  exact Goes.step st (K T' h' _ ⟨X', C1, e', Fr.snoc X' N1 ha, ext_wr E1 W' ha⟩ W' (Fx.same W'))
theorem o_len (X : On l Z p e R s m args below meth c y code maxL ret T h locs cells slots) {a : Addr} {k : ClassId} {ty : FieldType} {n : Int32} {vs : List Value} {dv : Value} {q : Nat} (A : Arv Z h a k ty n vs dv) (hd : decode code pc = .ok (.arraylength, 1)) (hp : pc + 1 = q) (K : Goes p e below F T (mkF m q L (.int n :: S))) : Goes p e below F T (mkF m pc L (.ref a :: S)) := by
  subst hp
  obtain ⟨X1, C1, e1, N1, E1⟩ := X
  obtain ⟨cl, Ar, -, Sz, Nn, -⟩ := A
  refine Goes.step (X1.arraylength C1.1 (by rw [e1]; exact Ar.1) (State.isArrayOf_alike C1.2.2.1.alike Ar.2.1) (g := mkF m pc L (.ref a :: S)) rfl rfl (hb C1.2.1 hd)) ?_
  rw [len_of Sz Nn]
  exact K
theorem o_iaload (X : On l Z p e R s m args below meth c y code maxL ret T h locs cells slots) {a : Addr} {k : ClassId} {n j : Int32} {vs : List Value} {dv v : Value} {q : Nat} (A : Arv Z h a k .int n vs dv) (hj : ¬ j < 0 ∧ j < n) (hv : vs.getD j.toNatClampNeg dv = v) (hd : decode code pc = .ok (.iaload, 1)) (hp : pc + 1 = q) (K : Goes p e below F T (mkF m q L (v :: S))) : Goes p e below F T (mkF m pc L (.int j :: .ref a :: S)) := by
  subst hp
  obtain ⟨X1, C1, e1, N1, E1⟩ := X
  obtain ⟨cl, Ar, -, Sz, Nn, H, -⟩ := A
  have hin := inb_of Sz hj
  exact Goes.step (X1.iaload C1.1 (j := j) (v := v) (by rw [e1]; exact Ar.1) (State.isArrayOf_alike C1.2.2.1.alike Ar.2.1) Ar.2.2 hin (H.at hin hv) (g := mkF m pc L (.int j :: .ref a :: S)) rfl rfl (hb C1.2.1 hd)) K
theorem o_laload (X : On l Z p e R s m args below meth c y code maxL ret T h locs cells slots) {a : Addr} {k : ClassId} {n j : Int32} {vs : List Value} {dv v : Value} {q : Nat} (A : Arv Z h a k .long n vs dv) (hj : ¬ j < 0 ∧ j < n) (hv : vs.getD j.toNatClampNeg dv = v) (hd : decode code pc = .ok (.laload, 1)) (hp : pc + 1 = q) (K : Goes p e below F T (mkF m q L (v :: S))) : Goes p e below F T (mkF m pc L (.int j :: .ref a :: S)) := by
  subst hp
  obtain ⟨X1, C1, e1, N1, E1⟩ := X
  obtain ⟨cl, Ar, -, Sz, Nn, H, -⟩ := A
  have hin := inb_of Sz hj
  exact Goes.step (X1.laload C1.1 (j := j) (v := v) (by rw [e1]; exact Ar.1) (State.isArrayOf_alike C1.2.2.1.alike Ar.2.1) Ar.2.2 hin (H.at hin hv) (g := mkF m pc L (.int j :: .ref a :: S)) rfl rfl (hb C1.2.1 hd)) K
theorem o_caload (X : On l Z p e R s m args below meth c y code maxL ret T h locs cells slots) {a : Addr} {k : ClassId} {n j : Int32} {vs : List Value} {dv v : Value} {q : Nat} (A : Arv Z h a k .char n vs dv) (hj : ¬ j < 0 ∧ j < n) (hv : vs.getD j.toNatClampNeg dv = v) (hd : decode code pc = .ok (.caload, 1)) (hp : pc + 1 = q) (K : Goes p e below F T (mkF m q L (v :: S))) : Goes p e below F T (mkF m pc L (.int j :: .ref a :: S)) := by
  subst hp
  obtain ⟨X1, C1, e1, N1, E1⟩ := X
  obtain ⟨cl, Ar, -, Sz, Nn, H, -⟩ := A
  have hin := inb_of Sz hj
  exact Goes.step (X1.caload C1.1 (j := j) (v := v) (by rw [e1]; exact Ar.1) (State.isArrayOf_alike C1.2.2.1.alike Ar.2.1) Ar.2.2 hin (H.at hin hv) (g := mkF m pc L (.int j :: .ref a :: S)) rfl rfl (hb C1.2.1 hd)) K
theorem o_baload (X : On l Z p e R s m args below meth c y code maxL ret T h locs cells slots) {a : Addr} {k : ClassId} {n j : Int32} {vs : List Value} {dv v : Value} {q : Nat} (A : Arv Z h a k .byte n vs dv) (hj : ¬ j < 0 ∧ j < n) (hv : vs.getD j.toNatClampNeg dv = v) (hd : decode code pc = .ok (.baload, 1)) (hp : pc + 1 = q) (K : Goes p e below F T (mkF m q L (v :: S))) : Goes p e below F T (mkF m pc L (.int j :: .ref a :: S)) := by
  subst hp
  obtain ⟨X1, C1, e1, N1, E1⟩ := X
  obtain ⟨cl, Ar, -, Sz, Nn, H, -⟩ := A
  have hin := inb_of Sz hj
  exact Goes.step (X1.baloadBytes C1.1 (j := j) (v := v) (by rw [e1]; exact Ar.1) (State.isArrayOf_alike C1.2.2.1.alike Ar.2.1) Ar.2.2 hin (H.at hin hv) (g := mkF m pc L (.int j :: .ref a :: S)) rfl rfl (hb C1.2.1 hd)) K
theorem o_aaload (X : On l Z p e R s m args below meth c y code maxL ret T h locs cells slots) {a : Addr} {k : ClassId} {ty : FieldType} {n j : Int32} {vs : List Value} {dv v : Value} {q : Nat} (A : Arv Z h a k ty n vs dv) (hty : ty.isReference = true) (hj : ¬ j < 0 ∧ j < n) (hv : vs.getD j.toNatClampNeg dv = v) (hd : decode code pc = .ok (.aaload, 1)) (hp : pc + 1 = q) (K : Goes p e below F T (mkF m q L (v :: S))) : Goes p e below F T (mkF m pc L (.int j :: .ref a :: S)) := by
  subst hp
  obtain ⟨X1, C1, e1, N1, E1⟩ := X
  obtain ⟨cl, Ar, -, Sz, Nn, H, -⟩ := A
  have hin := inb_of Sz hj
  exact Goes.step (X1.aaload C1.1 (j := j) (v := v) (by rw [e1]; exact Ar.1) (State.isArrayOf_alike C1.2.2.1.alike Ar.2.1) hty Ar.2.2 hin (H.at hin hv) (g := mkF m pc L (.int j :: .ref a :: S)) rfl rfl (hb C1.2.1 hd)) K
theorem o_iastore (X : On l Z p e R s m args below meth c y code maxL ret T h locs cells slots) {a : Addr} {k : ClassId} {n j : Int32} {x : Int32} {v : Value} {vs : List Value} {dv : Value} {q : Nat} (i : Nat) (A : Arv Z h a k .int n vs dv) (ha : Z.heap.size ≤ a) (hj : ¬ j < 0 ∧ j < n) (hi : j.toNatClampNeg = i) (hlt : i < vs.length) (hv : (.int x : Value) = v) (hd : decode code pc = .ok (.iastore, 1)) (hp : pc + 1 = q)
    (K : ∀ (T' : State) (h' : Heap) (locs' : List Loc), On l Z p e R s m args below meth c y code maxL ret T' h' locs' cells slots → Wr h h' a i v → Arv Z h' a k .int n (vs.set i v) dv → Goes p e below F T' (mkF m q L S)) : Goes p e below F T (mkF m pc L (.int x :: .int j :: .ref a :: S)) := by
  subst hp hv
  obtain ⟨X1, C1, e1, N1, E1⟩ := X
  obtain ⟨cl, Ar, q1, Sz, Nn, H, G⟩ := A
  obtain ⟨T', h', X', e', W', st⟩ := stI X1 C1.1 C1.2.2.1 e1 Ar (j := j) (inb_of Sz hj) (g := mkF m pc L (.int x :: .int j :: .ref a :: S)) rfl rfl (hb C1.2.1 hd)
  exact Goes.step st (K T' h' _ ⟨X', C1, e', Fr.snoc X' N1 ha, ext_wr E1 W' ha⟩ (hi ▸ W') (Arv.set Ar q1 Sz Nn H G rfl W' i hi hlt))
theorem o_lastore (X : On l Z p e R s m args below meth c y code maxL ret T h locs cells slots) {a : Addr} {k : ClassId} {n j : Int32} {x : Int64} {v : Value} {vs : List Value} {dv : Value} {q : Nat} (i : Nat) (A : Arv Z h a k .long n vs dv) (ha : Z.heap.size ≤ a) (hj : ¬ j < 0 ∧ j < n) (hi : j.toNatClampNeg = i) (hlt : i < vs.length) (hv : (.long x : Value) = v) (hd : decode code pc = .ok (.lastore, 1)) (hp : pc + 1 = q)
    (K : ∀ (T' : State) (h' : Heap) (locs' : List Loc), On l Z p e R s m args below meth c y code maxL ret T' h' locs' cells slots → Wr h h' a i v → Arv Z h' a k .long n (vs.set i v) dv → Goes p e below F T' (mkF m q L S)) : Goes p e below F T (mkF m pc L (.long x :: .int j :: .ref a :: S)) := by
  subst hp hv
  obtain ⟨X1, C1, e1, N1, E1⟩ := X
  obtain ⟨cl, Ar, q1, Sz, Nn, H, G⟩ := A
  obtain ⟨T', h', X', e', W', st⟩ := stJ X1 C1.1 C1.2.2.1 e1 Ar (j := j) (inb_of Sz hj) (g := mkF m pc L (.long x :: .int j :: .ref a :: S)) rfl rfl (hb C1.2.1 hd)
  exact Goes.step st (K T' h' _ ⟨X', C1, e', Fr.snoc X' N1 ha, ext_wr E1 W' ha⟩ (hi ▸ W') (Arv.set Ar q1 Sz Nn H G rfl W' i hi hlt))
theorem o_castore (X : On l Z p e R s m args below meth c y code maxL ret T h locs cells slots) {a : Addr} {k : ClassId} {n j : Int32} {x : Int32} {v : Value} {vs : List Value} {dv : Value} {q : Nat} (i : Nat) (A : Arv Z h a k .char n vs dv) (ha : Z.heap.size ≤ a) (hj : ¬ j < 0 ∧ j < n) (hi : j.toNatClampNeg = i) (hlt : i < vs.length) (hv : (.int (nar .char x) : Value) = v) (hd : decode code pc = .ok (.castore, 1)) (hp : pc + 1 = q)
    (K : ∀ (T' : State) (h' : Heap) (locs' : List Loc), On l Z p e R s m args below meth c y code maxL ret T' h' locs' cells slots → Wr h h' a i v → Arv Z h' a k .char n (vs.set i v) dv → Goes p e below F T' (mkF m q L S)) : Goes p e below F T (mkF m pc L (.int x :: .int j :: .ref a :: S)) := by
  subst hp hv
  obtain ⟨X1, C1, e1, N1, E1⟩ := X
  obtain ⟨cl, Ar, q1, Sz, Nn, H, G⟩ := A
  obtain ⟨T', h', X', e', W', st⟩ := stC X1 C1.1 C1.2.2.1 e1 Ar (j := j) (inb_of Sz hj) (g := mkF m pc L (.int x :: .int j :: .ref a :: S)) rfl rfl (hb C1.2.1 hd)
  exact Goes.step st (K T' h' _ ⟨X', C1, e', Fr.snoc X' N1 ha, ext_wr E1 W' ha⟩ (hi ▸ W') (Arv.set Ar q1 Sz Nn H G (fits_nar_char x) W' i hi hlt))
theorem o_bastore (X : On l Z p e R s m args below meth c y code maxL ret T h locs cells slots) {a : Addr} {k : ClassId} {n j : Int32} {x : Int32} {v : Value} {vs : List Value} {dv : Value} {q : Nat} (i : Nat) (A : Arv Z h a k .byte n vs dv) (ha : Z.heap.size ≤ a) (hj : ¬ j < 0 ∧ j < n) (hi : j.toNatClampNeg = i) (hlt : i < vs.length) (hv : (.int (nar .byte x) : Value) = v) (hd : decode code pc = .ok (.bastore, 1)) (hp : pc + 1 = q)
    (K : ∀ (T' : State) (h' : Heap) (locs' : List Loc), On l Z p e R s m args below meth c y code maxL ret T' h' locs' cells slots → Wr h h' a i v → Arv Z h' a k .byte n (vs.set i v) dv → Goes p e below F T' (mkF m q L S)) : Goes p e below F T (mkF m pc L (.int x :: .int j :: .ref a :: S)) := by
  subst hp hv
  obtain ⟨X1, C1, e1, N1, E1⟩ := X
  obtain ⟨cl, Ar, q1, Sz, Nn, H, G⟩ := A
  obtain ⟨T', h', X', e', W', st⟩ := stB X1 C1.1 C1.2.2.1 e1 Ar (j := j) (inb_of Sz hj) (g := mkF m pc L (.int x :: .int j :: .ref a :: S)) rfl rfl (hb C1.2.1 hd)
  exact Goes.step st (K T' h' _ ⟨X', C1, e', Fr.snoc X' N1 ha, ext_wr E1 W' ha⟩ (hi ▸ W') (Arv.set Ar q1 Sz Nn H G (fits_nar_byte x) W' i hi hlt))
theorem o_ret (X : On l Z p e R s m args below meth c y code maxL none T h locs cells slots) {Q : Option Value → Heap → Prop} {rc rs : Nat} (hd : decode code pc = .ok (.return_, 1)) (hQ : Q none h) (hc : cells ≤ rc) (hs : slots ≤ rs) : Goes p e below (FinQ Z s Q rc rs) T (mkF m pc L []) := by
  obtain ⟨X1, C1, e1, N1, E1⟩ := X
  obtain ⟨fs, hr, hrun, hended, hW, hsame⟩ := X1.leave (v := none) (fun _ => rfl) C1.2.2.2.2.2.1
  refine ⟨_, _, X1.returnOut C1.1 C1.2.2.2.2.1 (hb C1.2.1 hd) hr, hrun, hended, _, _, rfl, ⟨?_, N1, ?_⟩, ⟨_, rfl⟩, hW, hsame.mono hc hs⟩
  · show Q none T.heap
    rw [e1]; exact hQ
  · show Ext Z.heap T.heap
    rw [e1]; exact E1
theorem o_retI (X : On l Z p e R s m args below meth c y code maxL (some .int) T h locs cells slots) {Q : Option Value → Heap → Prop} {rc rs : Nat} {z : Int32} (hd : decode code pc = .ok (.ireturn, 1)) (hQ : Q (some (.int z)) h) (hc : cells ≤ rc) (hs : slots ≤ rs) : Goes p e below (FinQ Z s Q rc rs) T (mkF m pc L (.int z :: S)) := by
  obtain ⟨X1, C1, e1, N1, E1⟩ := X
  obtain ⟨fs, hr, hrun, hended, hW, hsame⟩ := X1.leave (v := some (.int z)) (fun h => by rw [C1.2.2.2.2.1] at h; cases h) C1.2.2.2.2.2.1
  refine ⟨_, _, retOut X1 C1.1 C1.2.2.2.2.1 rfl (Or.inl ⟨rfl, Or.inl rfl, z, rfl⟩) (hb C1.2.1 hd) hr, hrun, hended, _, _, rfl, ⟨?_, N1, ?_⟩, ⟨_, rfl⟩, hW, hsame.mono hc hs⟩
  · show Q _ T.heap
    rw [e1]; exact hQ
  · show Ext Z.heap T.heap
    rw [e1]; exact E1
theorem o_retN {t : FieldType} (X : On l Z p e R s m args below meth c y code maxL (some t) T h locs cells slots) {Q : Option Value → Heap → Prop} {rc rs : Nat} {z : Int32} (hd : decode code pc = .ok (.ireturn, 1)) (ht : t = .boolean ∨ t = .byte ∨ t = .char ∨ t = .short) (hQ : Q (some (.int (nar t z))) h) (hc : cells ≤ rc) (hs : slots ≤ rs) : Goes p e below (FinQ Z s Q rc rs) T (mkF m pc L (.int z :: S)) := by
  obtain ⟨X1, C1, e1, N1, E1⟩ := X
  obtain ⟨fs, hr, hrun, hended, hW, hsame⟩ := X1.leave (v := some (.int (nar t z))) (fun h => by rw [C1.2.2.2.2.1] at h; cases h) C1.2.2.2.2.2.1
  refine ⟨_, _, retN X1 C1.1 C1.2.2.2.2.1 ht (hb C1.2.1 hd) hr, hrun, hended, _, _, rfl, ⟨?_, N1, ?_⟩, ⟨_, rfl⟩, hW, hsame.mono hc hs⟩
  · show Q _ T.heap
    rw [e1]; exact hQ
  · show Ext Z.heap T.heap
    rw [e1]; exact E1
theorem o_retR {t : FieldType} (X : On l Z p e R s m args below meth c y code maxL (some t) T h locs cells slots) {Q : Option Value → Heap → Prop} {rc rs : Nat} {v : Value} (hd : decode code pc = .ok (.areturn, 1)) (ht : t.isReference = true) (hv : v.isRef = true) (hn : narrow t v = v) (hQ : Q (some v) h) (hc : cells ≤ rc) (hs : slots ≤ rs) : Goes p e below (FinQ Z s Q rc rs) T (mkF m pc L (v :: S)) := by
  obtain ⟨X1, C1, e1, N1, E1⟩ := X
  obtain ⟨fs, hr, hrun, hended, hW, hsame⟩ := X1.leave (v := some v) (fun h => by rw [C1.2.2.2.2.1] at h; cases h) C1.2.2.2.2.2.1
  refine ⟨_, _, retOut X1 C1.1 C1.2.2.2.2.1 hn (Or.inr (Or.inr (Or.inr (Or.inr ⟨rfl, ht, hv⟩)))) (hb C1.2.1 hd) hr, hrun, hended, _, _, rfl, ⟨?_, N1, ?_⟩, ⟨_, rfl⟩, hW, hsame.mono hc hs⟩
  · show Q _ T.heap
    rw [e1]; exact hQ
  · show Ext Z.heap T.heap
    rw [e1]; exact E1
theorem o_retJ (X : On l Z p e R s m args below meth c y code maxL (some .long) T h locs cells slots) {Q : Option Value → Heap → Prop} {rc rs : Nat} {z : Int64} (hd : decode code pc = .ok (.lreturn, 1)) (hQ : Q (some (.long z)) h) (hc : cells ≤ rc) (hs : slots ≤ rs) : Goes p e below (FinQ Z s Q rc rs) T (mkF m pc L (.long z :: S)) := by
  obtain ⟨X1, C1, e1, N1, E1⟩ := X
  obtain ⟨fs, hr, hrun, hended, hW, hsame⟩ := X1.leave (v := some (.long z)) (fun h => by rw [C1.2.2.2.2.1] at h; cases h) C1.2.2.2.2.2.1
  refine ⟨_, _, retOut X1 C1.1 C1.2.2.2.2.1 rfl (Or.inr (Or.inl ⟨rfl, rfl, z, rfl⟩)) (hb C1.2.1 hd) hr, hrun, hended, _, _, rfl, ⟨?_, N1, ?_⟩, ⟨_, rfl⟩, hW, hsame.mono hc hs⟩
  · show Q _ T.heap
    rw [e1]; exact hQ
  · show Ext Z.heap T.heap
    rw [e1]; exact E1
theorem o_initO (X : On l Z p e R s m args below meth c y code maxL ret T h locs cells slots) {idx q : Nat} {a : Addr} (w1 : (Jvm.Cond.methodLink y.cls idx Lib.objectInit).before a0 Z = true) (w2 : (Jvm.Cond.instanceMethod Lib.objectInit).before a0 Z = true) (w3 : (Jvm.Cond.code Lib.objectInit ⟨#[0xb1]⟩ 1 none).before a0 Z = true) (hd : decode code pc = .ok (.invokespecial idx, 3)) (hL : L.size = maxL) (hf : 1 ≤ R.frames) (hl : (S.map fun v => v.category).sum + 12 ≤ R.locals) (hp : pc + 3 = q)
    (K : ∀ T' : State, On l Z p e R s m args below meth c y code maxL ret T' h locs cells slots → Goes p e below F T' (mkF m q L S)) : Goes p e below F T (mkF m pc L (.ref a :: S)) := by
  subst hp
  obtain ⟨X1, C1, e1, N1, E1⟩ := X
  obtain ⟨T', X', e', st⟩ := initO X1 C1.1 C1.2.2.1 C1.2.2.2.1 w1 w2 w3 e1 (g := mkF m pc L (.ref a :: S)) rfl (hL.trans C1.2.2.2.2.2.2.2.symm) rfl (hb C1.2.1 hd) hf (W := (S.map fun v => v.category).sum) (by show 2 * 0 + _ ≤ _; omega) hl
  exact Goes.step st (K T' ⟨X', C1, e', N1, E1⟩)
/-- a call that some Back pays: what its Post says of the heap behind -/
theorem o_specB (X : On l Z p e R s m args below meth c y code maxL ret T h locs cells slots) {y' : MethodName} {index W q : Nat} {bytes : ByteArray} {maxL' : Nat} {Q : Option Value → Heap → List Loc → Prop} {rc rs : Nat} {as : Array Value} (argsL : List Value) {a : Addr} {rest : List Value}
    (hK : Back l R p e below s args y' 3 W (fun A b => b = as ∧ A.U.heap = h ∧ A.cells + rc ≤ R.cells ∧ A.slots + rs ≤ R.slots) (fun A _ v B => ∃ L, Q v B.U.heap L ∧ B.locs = A.locs ++ L ∧ B.cells = A.cells + rc ∧ B.slots = A.slots + rs))
    (hq : ∀ v h' L, Q v h' L → Fr Z.heap.size L ∧ Ext Z.heap h')
    (hy1 : y'.name = "<init>") (w1 : (Jvm.Cond.methodLink y.cls index y').before a0 Z = true) (w2 : (Jvm.Cond.instanceMethod y').before a0 Z = true) (w3 : (Jvm.Cond.code y' bytes maxL' none).before a0 Z = true) (hy : y'.cls ≠ "java/lang/invoke/MethodHandle" ∧ y'.cls ≠ "java/lang/invoke/VarHandle")
    (hd : decode code pc = .ok (.invokespecial index, 3)) (has : (.ref a :: argsL).toArray = as) (hL : L.size = maxL) (hlen : ∀ sig, parseMethodDescriptor y'.desc = some sig → argsL.length = sig.parameters.length) (hS : S = argsL.reverse ++ .ref a :: rest) (hW : (rest.map fun v => v.category).sum ≤ W) (hc : cells + rc ≤ R.cells) (hs : slots + rs ≤ R.slots) (hp : pc + 3 = q)
    (K : ∀ (v : Option Value) (T' : State) (h' : Heap) (L' locs' : List Loc), On l Z p e R s m args below meth c y code maxL ret T' h' locs' (cells + rc) (slots + rs) → Q v h' L' → Goes p e below F T' (mkF m q L (v.toList ++ rest))) : Goes p e below F T (mkF m pc L S) := by
  subst hp hS has
  obtain ⟨X1, C1, e1, N1, E1⟩ := X
  obtain ⟨v, vm1, ⟨T', L1, k1, n1⟩, -, X', ⟨Lc, hQ, e2, e3, e4⟩, st⟩ := X1.specialBack C1.1 hy1 C1.2.2.2.1 (mvT C1.2.2.1 w1) (mvT C1.2.2.1 w2) (mvT C1.2.2.1 w3) hy hK (g := mkF m pc L (argsL.reverse ++ .ref a :: rest)) rfl (hL.trans C1.2.2.2.2.2.2.2.symm) (Steps.refl _) hlen rfl (by show 2 * 0 + _ ≤ _; omega) (hb C1.2.1 hd) (fun _ _ => ⟨rfl, e1, hc, hs⟩)
  dsimp only [Pt.U, Pt.locs, Pt.cells, Pt.slots] at X' hQ e2 e3 e4 st
  subst e2 e3 e4
  obtain ⟨f1, f2⟩ := hq _ _ _ hQ
  exact Goes.step (fun _ k => st.trans k) (K v T' T'.heap Lc _ ⟨X', C1, rfl, Fr.app N1 f1, f2⟩ hQ)
theorem o_virtB (X : On l Z p e R s m args below meth c y code maxL ret T h locs cells slots) {C : String} {y' : MethodName} {index W q : Nat} {Q : Option Value → Heap → List Loc → Prop} {rc rs : Nat} {as : Array Value} (argsL : List Value) {a : Addr} {rest : List Value} (E : Exa Z h a C)
    (hK : Back l R p e below s args y' 3 W (fun A b => b = as ∧ A.U.heap = h ∧ A.cells + rc ≤ R.cells ∧ A.slots + rs ≤ R.slots) (fun A _ v B => ∃ L, Q v B.U.heap L ∧ B.locs = A.locs ++ L ∧ B.cells = A.cells + rc ∧ B.slots = A.slots + rs))
    (hq : ∀ v h' L, Q v h' L → Fr Z.heap.size L ∧ Ext Z.heap h')
    (w1 : (Jvm.Cond.methodLink y.cls index y').before a0 Z = true) (w2 : (Jvm.Cond.declares y').before a0 Z = true) (w3 : (Jvm.Cond.selects C y' y').before a0 Z = true) (w4 : (Jvm.Cond.instanceMethod y').before a0 Z = true) (hy : y'.cls ≠ "java/lang/invoke/MethodHandle" ∧ y'.cls ≠ "java/lang/invoke/VarHandle")
    (hd : decode code pc = .ok (.invokevirtual index, 3)) (has : (.ref a :: argsL).toArray = as) (hL : L.size = maxL) (hlen : ∀ sig, parseMethodDescriptor y'.desc = some sig → argsL.length = sig.parameters.length) (hS : S = argsL.reverse ++ .ref a :: rest) (hW : (rest.map fun v => v.category).sum ≤ W) (hc : cells + rc ≤ R.cells) (hs : slots + rs ≤ R.slots) (hp : pc + 3 = q)
    (K : ∀ (v : Option Value) (T' : State) (h' : Heap) (L' locs' : List Loc), On l Z p e R s m args below meth c y code maxL ret T' h' locs' (cells + rc) (slots + rs) → Q v h' L' → Goes p e below F T' (mkF m q L (v.toList ++ rest))) : Goes p e below F T (mkF m pc L S) := by
  subst hp hS has
  obtain ⟨X1, C1, e1, N1, E1⟩ := X
  obtain ⟨cB, kB, q1, q2, q3⟩ := isOf C1.2.2.1 e1 E
  obtain ⟨v, vm1, ⟨T', L1, k1, n1⟩, -, X', ⟨Lc, hQ, e2, e3, e4⟩, st⟩ := X1.virtualBack C1.1 (y := y') (z := y') C1.2.2.2.1 (mvT C1.2.2.1 w1) (mvT C1.2.2.1 w2) (notFace_of_selects (args := #[]) (mvT C1.2.2.1 w3)) (mvT C1.2.2.1 w3) (mvT C1.2.2.1 w4) hy hK q1 q3 (g := mkF m pc L (argsL.reverse ++ .ref a :: rest)) rfl (hL.trans C1.2.2.2.2.2.2.2.symm) (Steps.refl _) hlen rfl (by show 2 * 0 + _ ≤ _; omega) (hb C1.2.1 hd) (fun _ _ => ⟨rfl, e1, hc, hs⟩)
  dsimp only [Pt.U, Pt.locs, Pt.cells, Pt.slots] at X' hQ e2 e3 e4 st
  subst e2 e3 e4
  obtain ⟨f1, f2⟩ := hq _ _ _ hQ
  exact Goes.step (fun _ k => st.trans k) (K v T' T'.heap Lc _ ⟨X', C1, rfl, Fr.app N1 f1, f2⟩ hQ)
theorem o_statB (X : On l Z p e R s m args below meth c y code maxL ret T h locs cells slots) {y' : MethodName} {index W q : Nat} {bytes : ByteArray} {maxL' : Nat} {ret' : Option FieldType} {Q : Option Value → Heap → List Loc → Prop} {rc rs : Nat} {as : Array Value} (argsL : List Value) {rest : List Value}
    (hK : Back l R p e below s args y' 3 W (fun A b => b = as ∧ A.U.heap = h ∧ A.cells + rc ≤ R.cells ∧ A.slots + rs ≤ R.slots) (fun A _ v B => ∃ L, Q v B.U.heap L ∧ B.locs = A.locs ++ L ∧ B.cells = A.cells + rc ∧ B.slots = A.slots + rs))
    (hq : ∀ v h' L, Q v h' L → Fr Z.heap.size L ∧ Ext Z.heap h')
    (w1 : (Jvm.Cond.methodLink y.cls index y').before a0 Z = true) (w2 : (Jvm.Cond.static y').before a0 Z = true) (w3 : (Jvm.Cond.initialized y'.cls).before a0 Z = true) (w4 : (Jvm.Cond.code y' bytes maxL' ret').before a0 Z = true) (hy : y'.cls ≠ "java/lang/invoke/MethodHandle" ∧ y'.cls ≠ "java/lang/invoke/VarHandle")
    (hd : decode code pc = .ok (.invokestatic index, 3)) (has : argsL.toArray = as) (hL : L.size = maxL) (hlen : ∀ sig, parseMethodDescriptor y'.desc = some sig → argsL.length = sig.parameters.length) (hS : S = argsL.reverse ++ rest) (hW : (rest.map fun v => v.category).sum ≤ W) (hc : cells + rc ≤ R.cells) (hs : slots + rs ≤ R.slots) (hp : pc + 3 = q)
    (K : ∀ (v : Option Value) (T' : State) (h' : Heap) (L' locs' : List Loc), On l Z p e R s m args below meth c y code maxL ret T' h' locs' (cells + rc) (slots + rs) → Q v h' L' → Goes p e below F T' (mkF m q L (v.toList ++ rest))) : Goes p e below F T (mkF m pc L S) := by
  subst hp hS has
  obtain ⟨X1, C1, e1, N1, E1⟩ := X
  obtain ⟨v, vm1, ⟨T', L1, k1, n1⟩, -, X', ⟨Lc, hQ, e2, e3, e4⟩, st⟩ := Jvm.LawKit.callS X1 C1.1 C1.2.2.2.1 (mvT C1.2.2.1 w1) (mvT C1.2.2.1 w2) (mvT C1.2.2.1 w3) (mvT C1.2.2.1 w4) hy hK (g := mkF m pc L (argsL.reverse ++ rest)) rfl (hL.trans C1.2.2.2.2.2.2.2.symm) hlen rfl (by show 2 * 0 + _ ≤ _; omega) (hb C1.2.1 hd) (fun _ _ => ⟨rfl, e1, hc, hs⟩)
  dsimp only [Pt.U, Pt.locs, Pt.cells, Pt.slots] at X' hQ e2 e3 e4 st
  subst e2 e3 e4
  obtain ⟨f1, f2⟩ := hq _ _ _ hQ
  exact Goes.step st (K v T' T'.heap Lc _ ⟨X', C1, rfl, Fr.app N1 f1, f2⟩ hQ)
/-- a contract as a Back -/
theorem Con.back {y' : MethodName} {bytes : ByteArray} {maxL' : Nat} {ret' : Option FieldType} {rm : Room} {as : Array Value} {Q : Option Value → Heap → Prop} {len W : Nat} (X : On l Z p e R s m args below meth c y code maxL ret T h locs cells slots) (hC : Con l Z y' bytes maxL' ret' rm as h Q) (w4 : (Jvm.Cond.code y' bytes maxL' ret').before a0 Z = true) (w3 : (Jvm.Cond.initialized y'.cls).before a0 Z = true) (hf : rm.frames + 1 ≤ R.frames) (hl : W + (maxL' + 11) + rm.locals ≤ R.locals) :
    Back l R p e below s args y' len W (fun A b => b = as ∧ A.U.heap = h ∧ A.cells + rm.cells ≤ R.cells ∧ A.slots + rm.slots ≤ R.slots) (fun A _ v B => ∃ L, (Q v B.U.heap ∧ Fr Z.heap.size L ∧ Ext Z.heap B.U.heap) ∧ B.locs = A.locs ++ L ∧ B.cells = A.cells + rm.cells ∧ B.slots = A.slots + rm.slots) :=
  backOf (Q := fun v h' L => Q v h' ∧ Fr Z.heap.size L ∧ Ext Z.heap h') (hC X.ext []) X.2.1.2.2.1 w4 w3 hf hl
theorem o_spec (X : On l Z p e R s m args below meth c y code maxL ret T h locs cells slots) {y' : MethodName} {index q : Nat} {bytes : ByteArray} {maxL' : Nat} {rm : Room} {as : Array Value} {Q : Option Value → Heap → Prop} (argsL : List Value) {a : Addr} {rest : List Value} (hC : Con l Z y' bytes maxL' none rm as h Q)
    (hy1 : y'.name = "<init>") (w1 : (Jvm.Cond.methodLink y.cls index y').before a0 Z = true) (w2 : (Jvm.Cond.instanceMethod y').before a0 Z = true) (w3 : (Jvm.Cond.code y' bytes maxL' none).before a0 Z = true) (w4 : (Jvm.Cond.initialized y'.cls).before a0 Z = true) (hy : y'.cls ≠ "java/lang/invoke/MethodHandle" ∧ y'.cls ≠ "java/lang/invoke/VarHandle")
    (hd : decode code pc = .ok (.invokespecial index, 3)) (has : (.ref a :: argsL).toArray = as) (hL : L.size = maxL) (hlen : ∀ sig, parseMethodDescriptor y'.desc = some sig → argsL.length = sig.parameters.length) (hS : S = argsL.reverse ++ .ref a :: rest) (hf : rm.frames + 1 ≤ R.frames) (hl : (rest.map fun v => v.category).sum + (maxL' + 11) + rm.locals ≤ R.locals) (hc : cells + rm.cells ≤ R.cells) (hs : slots + rm.slots ≤ R.slots) (hp : pc + 3 = q)
    (K : ∀ (v : Option Value) (T' : State) (h' : Heap) (locs' : List Loc), On l Z p e R s m args below meth c y code maxL ret T' h' locs' (cells + rm.cells) (slots + rm.slots) → Q v h' → Goes p e below F T' (mkF m q L (v.toList ++ rest))) : Goes p e below F T (mkF m pc L S) :=
  o_specB X argsL (Q := fun v h' L => Q v h' ∧ Fr Z.heap.size L ∧ Ext Z.heap h') (Con.back X hC w3 w4 hf hl) (fun _ _ _ q => q.2) hy1 w1 w2 w3 hy hd has hL hlen hS (Nat.le_refl _) hc hs hp (fun v T' h' L' locs' X' hQ => K v T' h' locs' X' hQ.1)
theorem o_virt (X : On l Z p e R s m args below meth c y code maxL ret T h locs cells slots) {C : String} {y' : MethodName} {index q : Nat} {bytes : ByteArray} {maxL' : Nat} {ret' : Option FieldType} {rm : Room} {as : Array Value} {Q : Option Value → Heap → Prop} (argsL : List Value) {a : Addr} {rest : List Value} (E : Exa Z h a C) (hC : Con l Z y' bytes maxL' ret' rm as h Q)
    (w1 : (Jvm.Cond.methodLink y.cls index y').before a0 Z = true) (w2 : (Jvm.Cond.declares y').before a0 Z = true) (w3 : (Jvm.Cond.selects C y' y').before a0 Z = true) (w4 : (Jvm.Cond.instanceMethod y').before a0 Z = true) (w5 : (Jvm.Cond.code y' bytes maxL' ret').before a0 Z = true) (w6 : (Jvm.Cond.initialized y'.cls).before a0 Z = true) (hy : y'.cls ≠ "java/lang/invoke/MethodHandle" ∧ y'.cls ≠ "java/lang/invoke/VarHandle")
    (hd : decode code pc = .ok (.invokevirtual index, 3)) (has : (.ref a :: argsL).toArray = as) (hL : L.size = maxL) (hlen : ∀ sig, parseMethodDescriptor y'.desc = some sig → argsL.length = sig.parameters.length) (hS : S = argsL.reverse ++ .ref a :: rest) (hf : rm.frames + 1 ≤ R.frames) (hl : (rest.map fun v => v.category).sum + (maxL' + 11) + rm.locals ≤ R.locals) (hc : cells + rm.cells ≤ R.cells) (hs : slots + rm.slots ≤ R.slots) (hp : pc + 3 = q)
    (K : ∀ (v : Option Value) (T' : State) (h' : Heap) (locs' : List Loc), On l Z p e R s m args below meth c y code maxL ret T' h' locs' (cells + rm.cells) (slots + rm.slots) → Q v h' → Goes p e below F T' (mkF m q L (v.toList ++ rest))) : Goes p e below F T (mkF m pc L S) :=
  o_virtB X argsL (Q := fun v h' L => Q v h' ∧ Fr Z.heap.size L ∧ Ext Z.heap h') E (Con.back X hC w5 w6 hf hl) (fun _ _ _ q => q.2) w1 w2 w3 w4 hy hd has hL hlen hS (Nat.le_refl _) hc hs hp (fun v T' h' L' locs' X' hQ => K v T' h' locs' X' hQ.1)
theorem o_stat (X : On l Z p e R s m args below meth c y code maxL ret T h locs cells slots) {y' : MethodName} {index q : Nat} {bytes : ByteArray} {maxL' : Nat} {ret' : Option FieldType} {rm : Room} {as : Array Value} {Q : Option Value → Heap → Prop} (argsL : List Value) {rest : List Value} (hC : Con l Z y' bytes maxL' ret' rm as h Q)
    (w1 : (Jvm.Cond.methodLink y.cls index y').before a0 Z = true) (w2 : (Jvm.Cond.static y').before a0 Z = true) (w3 : (Jvm.Cond.initialized y'.cls).before a0 Z = true) (w4 : (Jvm.Cond.code y' bytes maxL' ret').before a0 Z = true) (hy : y'.cls ≠ "java/lang/invoke/MethodHandle" ∧ y'.cls ≠ "java/lang/invoke/VarHandle")
    (hd : decode code pc = .ok (.invokestatic index, 3)) (has : argsL.toArray = as) (hL : L.size = maxL) (hlen : ∀ sig, parseMethodDescriptor y'.desc = some sig → argsL.length = sig.parameters.length) (hS : S = argsL.reverse ++ rest) (hf : rm.frames + 1 ≤ R.frames) (hl : (rest.map fun v => v.category).sum + (maxL' + 11) + rm.locals ≤ R.locals) (hc : cells + rm.cells ≤ R.cells) (hs : slots + rm.slots ≤ R.slots) (hp : pc + 3 = q)
    (K : ∀ (v : Option Value) (T' : State) (h' : Heap) (locs' : List Loc), On l Z p e R s m args below meth c y code maxL ret T' h' locs' (cells + rm.cells) (slots + rm.slots) → Q v h' → Goes p e below F T' (mkF m q L (v.toList ++ rest))) : Goes p e below F T (mkF m pc L S) :=
  o_statB X argsL (Q := fun v h' L => Q v h' ∧ Fr Z.heap.size L ∧ Ext Z.heap h') (Con.back X hC w4 w3 hf hl) (fun _ _ _ q => q.2) w1 w2 w3 w4 hy hd has hL hlen hS (Nat.le_refl _) hc hs hp (fun v T' h' L' locs' X' hQ => K v T' h' locs' X' hQ.1)
end OwnKit
end Jvm.Pilot.@@N@@

namespace Jvm.Pilot.@@N@@
open Jvm Jvm.ClassFile Sem Op Lib Jvm.Free Jvm.Stand Jvm.LawKit Jvm.RoadKit Bundle Jvm.Pilot.@@N@@.Jvm.D
section OwnCol
variable {l : Launch} {Z : State} {p : Program} {e : Env} {R : Room} {s : State} {m : MethodId} {args : Array Value} {below : List Frame} {meth : Method} {c : Code} {y : MethodName} {code : ByteArray} {maxL : Nat} {ret : Option FieldType} {T : State} {h : Heap} {locs : List Loc} {cells slots : Nat} {F : State → Outcome → Prop} {pc : Nat} {L L' : Array Slot} {S : List Value} {a0 : Array Value}
theorem o_anew (X : On l Z p e R s m args below meth c y code maxL ret T h locs cells slots) {C ad : String} {index : Nat} {n : Int32} {cap q : Nat} (N : Nat) (w1 : (Jvm.Cond.classLink y.cls index C).before a0 Z = true) (w2 : (Jvm.Cond.arrayOver (.object C)).before a0 Z = true) (had : "[" ++ (FieldType.object C).toString = ad) (hd : decode code pc = .ok (.anewarray index, 3)) (hn : ¬ n < 0) (hcap : n.toNatClampNeg ≤ cap) (hb8 : cap * 8 ≤ 536870912) (hc : cells + 1 ≤ R.cells) (hl : slots + cap ≤ R.slots) (hp : pc + 3 = q)
    (K : ∀ (T' : State) (h' : Heap) (a : Addr) (k : ClassId), a = h.size → On l Z p e R s m args below meth c y code maxL ret T' h' locs (cells + 1) (slots + cap) → Ext h h' → Arv Z h' a k (.object C) n (List.replicate N .null) .null → Exa Z h' a ad → Ovr Z k C → Z.heap.size ≤ a → Goes p e below F T' (mkF m q L (.ref a :: S))) : Goes p e below F T (mkF m pc L (.int n :: S)) := by
  subst hp
  obtain ⟨T', h', k, X', e', E', A', Ex, O', st⟩ := newRE X.1 X.2.1.1 (show Z.Warmed39 s.vm from X.2.1.2.2.1) X.2.1.2.2.2.1 w1 w2 X.2.2.1 (g := mkF m pc L (.int n :: S)) rfl (hb X.2.1.2.1 hd) rfl hn hcap hb8 hc hl had
  exact Goes.step st (K T' h' h.size k rfl (X.later X' e' X.2.2.2.1 (ext_trans X.ext E')) E' ((Arv.new A' hn).pad (pad_rep [] _ N)) Ex O' X.size)
theorem o_aastore (X : On l Z p e R s m args below meth c y code maxL ret T h locs cells slots) {a : Addr} {k : ClassId} {ty : FieldType} {n j : Int32} {v : Value} {vs : List Value} {dv : Value} {q : Nat} (i : Nat) (A : Arv Z h a k ty n vs dv) (ha : Z.heap.size ≤ a) (hty : ty.isReference = true) (hfit : fits ty v = true) (Sx : Sto Z h a v) (hj : ¬ j < 0 ∧ j < n) (hi : j.toNatClampNeg = i) (hlt : i < vs.length) (hd : decode code pc = .ok (.aastore, 1)) (hp : pc + 1 = q)
    (K : ∀ (T' : State) (h' : Heap) (locs' : List Loc), On l Z p e R s m args below meth c y code maxL ret T' h' locs' cells slots → Wr h h' a i v → Arv Z h' a k ty n (vs.set i v) dv → Goes p e below F T' (mkF m q L S)) : Goes p e below F T (mkF m pc L (v :: .int j :: .ref a :: S)) := by
  subst hp
  obtain ⟨cl, Ar, q1, Sz, Nn, H, G⟩ := A
  obtain ⟨T', h', X', e', W', st⟩ := stR X.1 X.2.1.1 (show Z.Warmed39 s.vm from X.2.1.2.2.1) X.2.2.1 Ar (j := j) (inb_of Sz hj) hty Sx (g := mkF m pc L (v :: .int j :: .ref a :: S)) rfl rfl (hb X.2.1.2.1 hd)
  exact Goes.step st (K T' h' _ (X.later X' e' (Fr.snoc X' X.2.2.2.1 ha) (ext_wr X.ext W' ha)) (hi ▸ W') (Arv.set Ar q1 Sz Nn H G hfit W' i hi hlt))
theorem sto_of {Z : State} {h : Heap} {a x : Addr} {k : ClassId} {ty : FieldType} {C D : String} {n : Int32} {vs : List Value} {dv : Value} {a0 : Array Value} (A : Arv Z h a k ty n vs dv) (O : Ovr Z k C) (E : Exa Z h x D) (w : (Jvm.Cond.castable D C).before a0 Z = true) : Sto Z h a (.ref x) := by
  obtain ⟨cl, Ar, q1, -⟩ := A
  exact Sto.ofV Ar q1 O (Ins.of_exa E w)
theorem o_cast (X : On l Z p e R s m args below meth c y code maxL ret T h locs cells slots) {K' : String} {index q : Nat} {a : Addr} (I : Ins Z h a K' true) (w : (Jvm.Cond.classLink y.cls index K').before a0 Z = true) (hd : decode code pc = .ok (.checkcast index, 3)) (hp : pc + 3 = q)
    (K : ∀ T' : State, On l Z p e R s m args below meth c y code maxL ret T' h locs cells slots → Goes p e below F T' (mkF m q L (.ref a :: S))) : Goes p e below F T (mkF m pc L (.ref a :: S)) := by
  subst hp
  obtain ⟨T', X', e', st⟩ := castY X.1 X.2.1.1 (show Z.Warmed39 s.vm from X.2.1.2.2.1) X.2.1.2.2.2.1 w X.2.2.1 I (g := mkF m pc L (.ref a :: S)) rfl rfl (hb X.2.1.2.1 hd)
  exact Goes.step st (K T' (X.later X' e' X.2.2.2.1 X.ext))
theorem o_instY (X : On l Z p e R s m args below meth c y code maxL ret T h locs cells slots) {K' : String} {index q : Nat} {a : Addr} (I : Ins Z h a K' true) (w : (Jvm.Cond.classLink y.cls index K').before a0 Z = true) (hd : decode code pc = .ok (.instanceof index, 3)) (hp : pc + 3 = q)
    (K : ∀ T' : State, On l Z p e R s m args below meth c y code maxL ret T' h locs cells slots → Goes p e below F T' (mkF m q L (.int 1 :: S))) : Goes p e below F T (mkF m pc L (.ref a :: S)) := by
  subst hp
  obtain ⟨T', X', e', st⟩ := instY X.1 X.2.1.1 (show Z.Warmed39 s.vm from X.2.1.2.2.1) X.2.1.2.2.2.1 w X.2.2.1 I (g := mkF m pc L (.ref a :: S)) rfl rfl (hb X.2.1.2.1 hd)
  exact Goes.step st (K T' (X.later X' e' X.2.2.2.1 X.ext))
theorem o_instNo (X : On l Z p e R s m args below meth c y code maxL ret T h locs cells slots) {C K' : String} {index q : Nat} {a : Addr} (E : Exa Z h a C) (N : ∃ c t, Z.vm.findClass C = some c ∧ Z.vm.findClass K' = some t ∧ Z.vm.assignable c t = false) (w : (Jvm.Cond.classLink y.cls index K').before a0 Z = true) (hd : decode code pc = .ok (.instanceof index, 3)) (hp : pc + 3 = q)
    (K : ∀ T' : State, On l Z p e R s m args below meth c y code maxL ret T' h locs cells slots → Goes p e below F T' (mkF m q L (.int 0 :: S))) : Goes p e below F T (mkF m pc L (.ref a :: S)) := by
  subst hp
  obtain ⟨T', X', e', st⟩ := instNo X.1 X.2.1.1 (show Z.Warmed39 s.vm from X.2.1.2.2.1) X.2.1.2.2.2.1 w X.2.2.1 E N (g := mkF m pc L (.ref a :: S)) rfl rfl (hb X.2.1.2.1 hd)
  exact Goes.step st (K T' (X.later X' e' X.2.2.2.1 X.ext))
/-- C's chain of superclasses does not meet the class K, which can be made -/
theorem ns_root {Z : State} {a0 : Array Value} {O K : String} {n : Nat} (w : (Jvm.Cond.noSuperclass O).before a0 Z = true) (wk : (Jvm.Cond.instantiable K n).before a0 Z = true) (hn : O ≠ K) : NS Z O K := by
  obtain ⟨c, k, h1, h2, h3, -, -⟩ := Cond.noSuperclass_spec w
  obtain ⟨t, kt, g1, -⟩ := Cond.instantiable_spec wk
  have ne := ids_ne h1 g1 hn
  refine ⟨c, t, h1, g1, fun fuel => ?_⟩
  cases fuel with
  | zero => rfl
  | succ f => simp [Vm.isSubclassAux, ne, h2, h3]
theorem ns_no {Z : State} {a0 : Array Value} {C S K : String} {n : Nat} (w : (Jvm.Cond.superclass C S).before a0 Z = true) (wk : (Jvm.Cond.instantiable K n).before a0 Z = true) (N : NS Z C K) (hn : C ≠ K) : ∃ c t, Z.vm.findClass C = some c ∧ Z.vm.findClass K = some t ∧ Z.vm.assignable c t = false := by
  obtain ⟨c, t, h0, g0, n3⟩ := N
  obtain ⟨p, k, kp, h1, h2, h3, h4, h5, -, h7⟩ := Cond.superclass_spec h0 w
  obtain ⟨t', kt, g1, g2, g3, g4, -⟩ := Cond.instantiable_spec wk
  cases g0.symm.trans g1
  have ne := ids_ne h0 g0 hn
  have g5 : kt.isInterface = false := by
    cases q : kt.isInterface
    · rfl
    · rw [q] at g4; simp at g4
  refine ⟨c, t, h0, g0, ?_⟩
  show Z.vm.assignableAux (255 + 1) c t = false
  simp [Vm.assignableAux, ne, h2, g2, h5, g3, g5, Vm.isSubclass, n3]
theorem o_ldcM (X : On l Z p e R s m args below meth c y code maxL ret T h locs cells slots) {C : String} {index q : Nat} {mr : Addr} (M : Mir Z C mr) (w : (Jvm.Cond.classLink y.cls index C).before a0 Z = true) (hd : decode code pc = .ok (.ldc index, 2)) (hp : pc + 2 = q)
    (K : ∀ T' : State, On l Z p e R s m args below meth c y code maxL ret T' h locs cells slots → Goes p e below F T' (mkF m q L (.ref mr :: S))) : Goes p e below F T (mkF m pc L S) := by
  subst hp
  obtain ⟨c0, k0, m1, m2, m3, -⟩ := M
  obtain ⟨k', q1, ek⟩ := (show Z.Warmed39 s.vm from X.2.1.2.2.1).alike.2.2 _ _ m2
  have hm : k'.mirror = some mr := by rw [ek]; exact m3
  obtain ⟨vm', X', st⟩ := X.1.ldcMirror X.2.1.1 X.2.1.2.2.2.1 (mvT (s := s) X.2.1.2.2.1 w) (a := mr) (by
    have q2 : s.vm.findClass C = some c0 := by rw [(show Z.Warmed39 s.vm from X.2.1.2.2.1).alike.findClass]; exact m1
    simp only [Term.eval, q2, Option.bind_eq_bind, Option.bind_some, q1, hm, Option.pure_def]) (g := mkF m pc L S) rfl (hb X.2.1.2.1 hd)
  have e' : (T.setVm vm').heap = h := X.2.2.1
  exact Goes.step st (K _ (X.later X' e' X.2.2.2.1 X.ext))
theorem o_gcls (X : On l Z p e R s m args below meth c y code maxL ret T h locs cells slots) {C : String} {index q : Nat} {a mr : Addr} (E : Exa Z h a C) (M : Mir Z C mr) (w1 : (Jvm.Cond.methodLink y.cls index ⟨"java/lang/Object", "getClass", "()Ljava/lang/Class;"⟩).before a0 Z = true) (w2 : (Jvm.Cond.declares ⟨"java/lang/Object", "getClass", "()Ljava/lang/Class;"⟩).before a0 Z = true) (w3 : (Jvm.Cond.noSuperclass "java/lang/Object").before a0 Z = true) (w4 : (Jvm.Cond.selects C ⟨"java/lang/Object", "getClass", "()Ljava/lang/Class;"⟩ ⟨"java/lang/Object", "getClass", "()Ljava/lang/Class;"⟩).before a0 Z = true) (w5 : (Jvm.Cond.instanceMethod ⟨"java/lang/Object", "getClass", "()Ljava/lang/Class;"⟩).before a0 Z = true) (w6 : (Jvm.Cond.native ⟨"java/lang/Object", "getClass", "()Ljava/lang/Class;"⟩).before a0 Z = true)
    (hd : decode code pc = .ok (.invokevirtual index, 3)) (hL : L.size = maxL) (hf : 1 ≤ R.frames) (hl : (S.map fun v => v.category).sum + (nativeFrameWords "java/lang/Object" "getClass" 1 + 11) ≤ R.locals) (hp : pc + 3 = q)
    (K : ∀ T' : State, On l Z p e R s m args below meth c y code maxL ret T' h locs cells slots → Goes p e below F T' (mkF m q L (.ref mr :: S))) : Goes p e below F T (mkF m pc L (.ref a :: S)) := by
  subst hp
  obtain ⟨T', X', e', st⟩ := gcls X.1 X.2.1.1 (show Z.Warmed39 s.vm from X.2.1.2.2.1) X.2.1.2.2.2.1 w1 w2 w3 w4 w5 w6 X.2.2.1 E M (g := mkF m pc L (.ref a :: S)) rfl (hL.trans X.2.1.2.2.2.2.2.2.2.symm) rfl (hb X.2.1.2.1 hd) hf (W := (S.map fun v => v.category).sum) (by show 2 * 0 + _ ≤ _; omega) hl
  exact Goes.step st (K T' (X.later X' e' X.2.2.2.1 X.ext))
theorem o_copy (X : On l Z p e R s m args below meth c y code maxL ret T h locs cells slots) {index q : Nat} {a b : Addr} {k k' : ClassId} {ty ty' : FieldType} {z z' sp dp nn : Int32} {vs vd us vs' : List Value} {dv dd : Value} (A : Arv Z h a k ty z vs dv) (B : Arv Z h b k' ty' z' vd dd) (hty : (ty = ty' ∧ refKind ty = false) ∨ (refKind ty = true ∧ refKind ty' = true ∧ StoL Z h b us)) (hgb : Z.heap.size ≤ b)
    (h1 : ¬ sp < 0) (h2 : ¬ dp < 0) (h3 : ¬ nn < 0) (h4 : sp.toNatClampNeg + nn.toNatClampNeg ≤ z.toNatClampNeg) (h5 : dp.toNatClampNeg + nn.toNatClampNeg ≤ z'.toNatClampNeg) (hus : us = (List.range nn.toNatClampNeg).map fun i => vs.getD (sp.toNatClampNeg + i) dv) (hlv : dp.toNatClampNeg + nn.toNatClampNeg ≤ vd.length) (hvs : vd.take dp.toNatClampNeg ++ us ++ vd.drop (dp.toNatClampNeg + nn.toNatClampNeg) = vs')
    (w1 : (Jvm.Cond.methodLink y.cls index Jvm.Stand.acN).before a0 Z = true) (w2 : (Jvm.Cond.native Jvm.Stand.acN).before a0 Z = true) (w3 : (Jvm.Cond.static Jvm.Stand.acN).before a0 Z = true) (w4 : (Jvm.Cond.initialized "java/lang/System").before a0 Z = true)
    (hd : decode code pc = .ok (.invokestatic index, 3)) (hL : L.size = maxL) (hf : 1 ≤ R.frames) (hl : (S.map fun v => v.category).sum + (nativeFrameWords "java/lang/System" "arraycopy" 5 + 11) ≤ R.locals) (hp : pc + 3 = q)
    (K : ∀ (T' : State) (h' : Heap) (locs' : List Loc), On l Z p e R s m args below meth c y code maxL ret T' h' locs' cells slots → Keep h h' [b] → Arv Z h' b k' ty' z' vs' dd → Goes p e below F T' (mkF m q L S)) : Goes p e below F T (mkF m pc L (.int nn :: .int dp :: .ref b :: .int sp :: .ref a :: S)) := by
  subst hp hvs
  obtain ⟨T', h', Lc, X', e', N', K', A', st⟩ := cpA X.1 X.2.1.1 (show Z.Warmed39 s.vm from X.2.1.2.2.1) X.2.1.2.2.2.1 w1 w2 w3 w4 X.2.2.1 A B hty h1 h2 h3 h4 h5 hus hlv X.2.2.2.1 hgb (g := mkF m pc L (.int nn :: .int dp :: .ref b :: .int sp :: .ref a :: S)) rfl (hL.trans X.2.1.2.2.2.2.2.2.2.symm) rfl (hb X.2.1.2.1 hd) hf (W := (S.map fun v => v.category).sum) (by show 2 * 0 + _ ≤ _; omega) hl
  exact Goes.step st (K T' h' Lc (X.later X' e' N' (ext_keep X.ext K' (allS hgb all0))) K' A')
theorem o_tsw (X : On l Z p e R s m args below meth c y code maxL ret T h locs cells slots) {dflt low high : Int} {offs : Array Int} {len : Nat} {i : Int} {x : Int32} {q : Nat} (hd : decode code pc = .ok (.tableswitch dflt low high offs, len)) (h1 : low ≤ x.toInt) (h2 : x.toInt ≤ high) (hi : offs[(x.toInt - low).toNat]? = some i) (ho : 0 ≤ (pc : Int) + i) (hp : ((pc : Int) + i).toNat = q) (K : Goes p e below F T (mkF m q L S)) : Goes p e below F T (mkF m pc L (.int x :: S)) :=
  Goes.step (fun _ k => Jvm.Free.XS.tswIn X.1.here X.2.1.1 (g := mkF m pc L (.int x :: S)) rfl (pc0 := pc) rfl (hb X.2.1.2.1 hd) rfl (fun q => q.elim (fun r => by omega) (fun r => by omega)) hi ho hp k) K
theorem o_tswD (X : On l Z p e R s m args below meth c y code maxL ret T h locs cells slots) {dflt low high : Int} {offs : Array Int} {len : Nat} {x : Int32} {q : Nat} (hd : decode code pc = .ok (.tableswitch dflt low high offs, len)) (h1 : x.toInt < low ∨ high < x.toInt) (ho : 0 ≤ (pc : Int) + dflt) (hp : ((pc : Int) + dflt).toNat = q) (K : Goes p e below F T (mkF m q L S)) : Goes p e below F T (mkF m pc L (.int x :: S)) :=
  Goes.step (fun _ k => Jvm.Free.XS.tswOut X.1.here X.2.1.1 (g := mkF m pc L (.int x :: S)) rfl (pc0 := pc) rfl (hb X.2.1.2.1 hd) rfl h1 ho hp k) K
theorem o_iface (X : On l Z p e R s m args below meth c y code maxL ret T h locs cells slots) {C : String} {xi y' : MethodName} {index count q : Nat} {bytes : ByteArray} {maxL' : Nat} {ret' : Option FieldType} {rm : Room} {as : Array Value} {Q : Option Value → Heap → Prop} (argsL : List Value) {a : Addr} {rest : List Value} (E : Exa Z h a C) (hC : Con l Z y' bytes maxL' ret' rm as h Q)
    (w1 : (Jvm.Cond.methodLink y.cls index xi).before a0 Z = true) (w2 : (Jvm.Cond.declares xi).before a0 Z = true) (w3 : (Jvm.Cond.interfaceMethod xi.cls xi.cls xi.name xi.desc).before a0 Z = true) (w4 : (Jvm.Cond.selects C xi y').before a0 Z = true) (w5 : (Jvm.Cond.instanceMethod y').before a0 Z = true) (w6 : (Jvm.Cond.publicMethod y').before a0 Z = true) (w7 : (Jvm.Cond.unhidden C xi.name xi.desc).before a0 Z = true) (w8 : (Jvm.Cond.castable C xi.cls).before a0 Z = true) (w9 : (Jvm.Cond.code y' bytes maxL' ret').before a0 Z = true) (w10 : (Jvm.Cond.initialized y'.cls).before a0 Z = true) (hy : xi.cls ≠ "java/lang/invoke/MethodHandle" ∧ xi.cls ≠ "java/lang/invoke/VarHandle")
    (hd : decode code pc = .ok (.invokeinterface index count, 5)) (has : (.ref a :: argsL).toArray = as) (hL : L.size = maxL) (hlen : ∀ sig, parseMethodDescriptor xi.desc = some sig → argsL.length = sig.parameters.length) (hS : S = argsL.reverse ++ .ref a :: rest) (hf : rm.frames + 1 ≤ R.frames) (hl : (rest.map fun v => v.category).sum + (maxL' + 11) + rm.locals ≤ R.locals) (hc : cells + rm.cells ≤ R.cells) (hs : slots + rm.slots ≤ R.slots) (hp : pc + 5 = q)
    (K : ∀ (v : Option Value) (T' : State) (h' : Heap) (locs' : List Loc), On l Z p e R s m args below meth c y code maxL ret T' h' locs' (cells + rm.cells) (slots + rm.slots) → Q v h' → Goes p e below F T' (mkF m q L (v.toList ++ rest))) : Goes p e below F T (mkF m pc L S) := by
  subst hp hS has
  obtain ⟨cB, kB, q1, q2, q3⟩ := isOf (show Z.Warmed39 s.vm from X.2.1.2.2.1) X.2.2.1 E
  obtain ⟨v, vm1, ⟨T', L1, k1, n1⟩, -, X', ⟨Lc, hQ, e2, e3, e4⟩, st⟩ := X.1.interfaceBack X.2.1.1 (xi := xi) (y := y') X.2.1.2.2.2.1 (mvT (s := s) X.2.1.2.2.1 w1) (mvT (s := s) X.2.1.2.2.1 w2) (mvT (s := s) X.2.1.2.2.1 w3 (by simp [Cond.onTables, Cond.keepsFace, Cond.keeps, Cond.steady, Cond.faceAtom]; exact hy)) (mvT (s := s) X.2.1.2.2.1 w4) (mvT (s := s) X.2.1.2.2.1 w5) (mvT (s := s) X.2.1.2.2.1 w6) (mvT (s := s) X.2.1.2.2.1 w7) (mvT (s := s) X.2.1.2.2.1 w8) hy (Con.back X hC w9 w10 hf hl) q1 q2 q3 (g := mkF m pc L (argsL.reverse ++ .ref a :: rest)) rfl (hL.trans X.2.1.2.2.2.2.2.2.2.symm) (Steps.refl _) hlen rfl (by show 2 * 0 + _ ≤ _; omega) (hb X.2.1.2.1 hd) (fun _ _ => ⟨rfl, X.2.2.1, hc, hs⟩)
  dsimp only [Pt.U, Pt.locs, Pt.cells, Pt.slots] at X' hQ e2 e3 e4 st
  subst e2 e3 e4
  exact Goes.step (fun _ k => st.trans k) (K v T' T'.heap _ (X.later X' rfl (Fr.app X.2.2.2.1 hQ.2.1) hQ.2.2) hQ.1)
theorem o_priv (X : On l Z p e R s m args below meth c y code maxL ret T h locs cells slots) {D : String} {y' : MethodName} {index q : Nat} {bytes : ByteArray} {maxL' : Nat} {ret' : Option FieldType} {rm : Room} {as : Array Value} {Q : Option Value → Heap → Prop} (argsL : List Value) {a : Addr} {rest : List Value} (E : Exa Z h a D) (hC : Con l Z y' bytes maxL' ret' rm as h Q)
    (w1 : (Jvm.Cond.methodLink y.cls index y').before a0 Z = true) (w2 : (Jvm.Cond.instanceMethod y').before a0 Z = true) (w3 : (Jvm.Cond.selects y'.cls y' y').before a0 Z = true) (w4 : (Jvm.Cond.privateMethod y').before a0 Z = true) (w5 : (Jvm.Cond.code y' bytes maxL' ret').before a0 Z = true) (w6 : (Jvm.Cond.initialized y'.cls).before a0 Z = true) (hy : y'.cls ≠ "java/lang/invoke/MethodHandle" ∧ y'.cls ≠ "java/lang/invoke/VarHandle")
    (hd : decode code pc = .ok (.invokevirtual index, 3)) (has : (.ref a :: argsL).toArray = as) (hL : L.size = maxL) (hlen : ∀ sig, parseMethodDescriptor y'.desc = some sig → argsL.length = sig.parameters.length) (hS : S = argsL.reverse ++ .ref a :: rest) (hf : rm.frames + 1 ≤ R.frames) (hl : (rest.map fun v => v.category).sum + (maxL' + 11) + rm.locals ≤ R.locals) (hc : cells + rm.cells ≤ R.cells) (hs : slots + rm.slots ≤ R.slots) (hp : pc + 3 = q)
    (K : ∀ (v : Option Value) (T' : State) (h' : Heap) (locs' : List Loc), On l Z p e R s m args below meth c y code maxL ret T' h' locs' (cells + rm.cells) (slots + rm.slots) → Q v h' → Goes p e below F T' (mkF m q L (v.toList ++ rest))) : Goes p e below F T (mkF m pc L S) := by
  subst hp hS has
  obtain ⟨cl, hcl, hst⟩ := E.cell
  obtain ⟨v, vm1, ⟨T', L1, k1, n1⟩, -, X', ⟨Lc, hQ, e2, e3, e4⟩, st⟩ := X.1.privateBack X.2.1.1 (y := y') X.2.1.2.2.2.1 (mvT (s := s) X.2.1.2.2.1 w1) (mvT (s := s) X.2.1.2.2.1 w2) (mvT (s := s) X.2.1.2.2.1 w3) (Cond.privateMethod_at (mvP (show Z.Warmed39 s.vm from X.2.1.2.2.1) w4 (args := #[]))) (mvT (s := s) X.2.1.2.2.1 w5) hy (Con.back X hC w5 w6 hf hl) (g := mkF m pc L (argsL.reverse ++ .ref a :: rest)) rfl (hL.trans X.2.1.2.2.2.2.2.2.2.symm) (Steps.refl _) (a := a) (cell := cl) (by rw [X.2.2.1]; exact hcl) hst hlen rfl (by show 2 * 0 + _ ≤ _; omega) (hb X.2.1.2.1 hd) (fun _ _ => ⟨rfl, X.2.2.1, hc, hs⟩)
  dsimp only [Pt.U, Pt.locs, Pt.cells, Pt.slots] at X' hQ e2 e3 e4 st
  subst e2 e3 e4
  exact Goes.step (fun _ k => st.trans k) (K v T' T'.heap _ (X.later X' rfl (Fr.app X.2.2.2.1 hQ.2.1) hQ.2.2) hQ.1)
theorem o_specN (X : On l Z p e R s m args below meth c y code maxL ret T h locs cells slots) {host : String} {y' : MethodName} {index q : Nat} {bytes : ByteArray} {maxL' : Nat} {rm : Room} {as : Array Value} {Q : Option Value → Heap → Prop} (argsL : List Value) {a : Addr} {rest : List Value} (hC : Con l Z y' bytes maxL' none rm as h Q)
    (hy1 : y'.name = "<init>") (w1 : (Jvm.Cond.methodLinkNest y.cls index y' host).before a0 Z = true) (w2 : (Jvm.Cond.instanceMethod y').before a0 Z = true) (w3 : (Jvm.Cond.code y' bytes maxL' none).before a0 Z = true) (w4 : (Jvm.Cond.initialized y'.cls).before a0 Z = true) (hy : y'.cls ≠ "java/lang/invoke/MethodHandle" ∧ y'.cls ≠ "java/lang/invoke/VarHandle")
    (hd : decode code pc = .ok (.invokespecial index, 3)) (has : (.ref a :: argsL).toArray = as) (hL : L.size = maxL) (hlen : ∀ sig, parseMethodDescriptor y'.desc = some sig → argsL.length = sig.parameters.length) (hS : S = argsL.reverse ++ .ref a :: rest) (hf : rm.frames + 1 ≤ R.frames) (hl : (rest.map fun v => v.category).sum + (maxL' + 11) + rm.locals ≤ R.locals) (hc : cells + rm.cells ≤ R.cells) (hs : slots + rm.slots ≤ R.slots) (hp : pc + 3 = q)
    (K : ∀ (v : Option Value) (T' : State) (h' : Heap) (locs' : List Loc), On l Z p e R s m args below meth c y code maxL ret T' h' locs' (cells + rm.cells) (slots + rm.slots) → Q v h' → Goes p e below F T' (mkF m q L (v.toList ++ rest))) : Goes p e below F T (mkF m pc L S) := by
  subst hp hS has
  obtain ⟨v, vm1, ⟨T', L1, k1, n1⟩, -, X', ⟨Lc, hQ, e2, e3, e4⟩, st⟩ := X.1.specialBackNest X.2.1.1 hy1 X.2.1.2.2.2.1 ((Cond.methodLinkNest_wide (show Z.Warmed39 s.vm from X.2.1.2.2.1) w1 :)) (mvT (s := s) X.2.1.2.2.1 w2) (mvT (s := s) X.2.1.2.2.1 w3) hy (Con.back X hC w3 w4 hf hl) (g := mkF m pc L (argsL.reverse ++ .ref a :: rest)) rfl (hL.trans X.2.1.2.2.2.2.2.2.2.symm) (Steps.refl _) hlen rfl (by show 2 * 0 + _ ≤ _; omega) (hb X.2.1.2.1 hd) (fun _ _ => ⟨rfl, X.2.2.1, hc, hs⟩)
  dsimp only [Pt.U, Pt.locs, Pt.cells, Pt.slots] at X' hQ e2 e3 e4 st
  subst e2 e3 e4
  exact Goes.step (fun _ k => st.trans k) (K v T' T'.heap _ (X.later X' rfl (Fr.app X.2.2.2.1 hQ.2.1) hQ.2.2) hQ.1)
/-- a private method's word for its own class, from the word for a subclass -/
theorem sel_up {Z : State} {a0 : Array Value} {C : String} {y : MethodName} (w1 : (Jvm.Cond.selects C y y).before a0 Z = true) (w2 : (Jvm.Cond.instanceMethod y).before a0 Z = true) (w3 : (Jvm.Cond.privateMethod y).before a0 Z = true) (hy : y.cls ≠ "java/lang/invoke/MethodHandle" ∧ y.cls ≠ "java/lang/invoke/VarHandle") : (Jvm.Cond.selects y.cls y y).before a0 Z = true := by
  obtain ⟨mk, methM, hn, hm, -, -⟩ := Cond.instanceMethod_spec w2
  obtain ⟨c, r, m, q1, q2, q3, q4, kk, q5, q6⟩ := Cond.selects_spec w1
  cases hn.symm.trans q3
  have hf := State.methodFound?_of_named hn hy
  have hc := findClass_of_methodNamed hn
  have hs : selectMethod {} Z.vm mk.cls mk = .method mk := selectMethod_private hm (Cond.privateMethod_at w3 mk methM hn hm)
  simp [Cond.before, Cond.holds, Cond.value, hc, hf, hn, hs, q5, q6]
/-- a method of a class (no interface, by another word) is the one its own class finds -/
theorem same_up {Z : State} {a0 : Array Value} {C : String} {y z : MethodName} (w1 : (Jvm.Cond.selects C z z).before a0 Z = true) (w2 : (Jvm.Cond.instanceMethod y).before a0 Z = true) (hz : z.cls = y.cls) (hy : y.cls ≠ "java/lang/invoke/MethodHandle" ∧ y.cls ≠ "java/lang/invoke/VarHandle") : (Jvm.Cond.sameMethod y.cls y.cls y.name y.desc).before a0 Z = true := by
  obtain ⟨mk, methM, hn, hm, -, -⟩ := Cond.instanceMethod_spec w2
  obtain ⟨c, r, m, q1, q2, q3, q4, kk, q5, q6⟩ := Cond.selects_spec w1
  have hf := State.methodFound?_of_named hn hy
  have hc := findClass_of_methodNamed hn
  have hc2 := findClass_of_methodNamed q3
  rw [hz, hc] at hc2
  have e := Option.some.inj hc2
  rw [← e] at q5
  simp [Cond.before, Cond.holds, Cond.value, hc, hf, show Z.methodNamed? ⟨y.cls, y.name, y.desc⟩ = some mk from hn, q5, q6]
theorem o_super (X : On l Z p e R s m args below meth c y code maxL ret T h locs cells slots) {D : String} {y' : MethodName} {index q : Nat} {bytes : ByteArray} {maxL' : Nat} {ret' : Option FieldType} {rm : Room} {as : Array Value} {Q : Option Value → Heap → Prop} (argsL : List Value) {a : Addr} {rest : List Value} (E : Exa Z h a D) (hC : Con l Z y' bytes maxL' ret' rm as h Q)
    (w1 : (Jvm.Cond.methodLink y.cls index y').before a0 Z = true) (w2 : (Jvm.Cond.sameMethod y'.cls y'.cls y'.name y'.desc).before a0 Z = true) (w3 : (Jvm.Cond.instanceMethod y').before a0 Z = true) (w4 : (Jvm.Cond.superclass y.cls y'.cls).before a0 Z = true) (hn : y'.name ≠ "<init>") (w5 : (Jvm.Cond.code y' bytes maxL' ret').before a0 Z = true) (w6 : (Jvm.Cond.initialized y'.cls).before a0 Z = true)
    (hd : decode code pc = .ok (.invokespecial index, 3)) (has : (.ref a :: argsL).toArray = as) (hL : L.size = maxL) (hlen : ∀ sig, parseMethodDescriptor y'.desc = some sig → argsL.length = sig.parameters.length) (hS : S = argsL.reverse ++ .ref a :: rest) (hf : rm.frames + 1 ≤ R.frames) (hl : (rest.map fun v => v.category).sum + (maxL' + 11) + rm.locals ≤ R.locals) (hc : cells + rm.cells ≤ R.cells) (hs : slots + rm.slots ≤ R.slots) (hp : pc + 3 = q)
    (K : ∀ (v : Option Value) (T' : State) (h' : Heap) (locs' : List Loc), On l Z p e R s m args below meth c y code maxL ret T' h' locs' (cells + rm.cells) (slots + rm.slots) → Q v h' → Goes p e below F T' (mkF m q L (v.toList ++ rest))) : Goes p e below F T (mkF m pc L S) := by
  subst hp hS has
  obtain ⟨v, vm1, ⟨T', L1, k1, n1⟩, -, X', ⟨Lc, hQ, e2, e3, e4⟩, st⟩ := superBack X.1 X.2.1.1 (show Z.Warmed39 s.vm from X.2.1.2.2.1) X.2.1.2.2.2.1 w1 w2 w3 w4 hn (Con.back X hC w5 w6 hf hl) X.2.2.1 (Ins.self E) (g := mkF m pc L (argsL.reverse ++ .ref a :: rest)) rfl (hL.trans X.2.1.2.2.2.2.2.2.2.symm) w5 hlen rfl (by show 2 * 0 + _ ≤ _; omega) (hb X.2.1.2.1 hd) (fun _ _ => ⟨rfl, X.2.2.1, hc, hs⟩)
  dsimp only [Pt.U, Pt.locs, Pt.cells, Pt.slots] at X' hQ e2 e3 e4 st
  subst e2 e3 e4
  exact Goes.step (fun _ k => st.trans k) (K v T' T'.heap _ (X.later X' rfl (Fr.app X.2.2.2.1 hQ.2.1) hQ.2.2) hQ.1)
theorem o_virt2 (X : On l Z p e R s m args below meth c y code maxL ret T h locs cells slots) {C : String} {z' y' : MethodName} {index q : Nat} {bytes : ByteArray} {maxL' : Nat} {ret' : Option FieldType} {rm : Room} {as : Array Value} {Q : Option Value → Heap → Prop} (argsL : List Value) {a : Addr} {rest : List Value} (E : Exa Z h a C) (hC : Con l Z y' bytes maxL' ret' rm as h Q)
    (w1 : (Jvm.Cond.methodLink y.cls index z').before a0 Z = true) (w2 : (Jvm.Cond.declares z').before a0 Z = true) (w3 : (Jvm.Cond.selects C z' y').before a0 Z = true) {D : String} {u : MethodName} (wn : (Jvm.Cond.selects D u u).before a0 Z = true) (hu : u.cls = z'.cls) (w4 : (Jvm.Cond.instanceMethod y').before a0 Z = true) (w5 : (Jvm.Cond.code y' bytes maxL' ret').before a0 Z = true) (w6 : (Jvm.Cond.initialized y'.cls).before a0 Z = true) (hy : z'.cls ≠ "java/lang/invoke/MethodHandle" ∧ z'.cls ≠ "java/lang/invoke/VarHandle")
    (hd : decode code pc = .ok (.invokevirtual index, 3)) (has : (.ref a :: argsL).toArray = as) (hL : L.size = maxL) (hlen : ∀ sig, parseMethodDescriptor z'.desc = some sig → argsL.length = sig.parameters.length) (hS : S = argsL.reverse ++ .ref a :: rest) (hf : rm.frames + 1 ≤ R.frames) (hl : (rest.map fun v => v.category).sum + (maxL' + 11) + rm.locals ≤ R.locals) (hc : cells + rm.cells ≤ R.cells) (hs : slots + rm.slots ≤ R.slots) (hp : pc + 3 = q)
    (K : ∀ (v : Option Value) (T' : State) (h' : Heap) (locs' : List Loc), On l Z p e R s m args below meth c y code maxL ret T' h' locs' (cells + rm.cells) (slots + rm.slots) → Q v h' → Goes p e below F T' (mkF m q L (v.toList ++ rest))) : Goes p e below F T (mkF m pc L S) := by
  subst hp hS has
  obtain ⟨cB, kB, q1, q2, q3⟩ := isOf (show Z.Warmed39 s.vm from X.2.1.2.2.1) X.2.2.1 E
  have hnf : NotFace s z' := by
    intro r0 h0
    obtain ⟨c2, r2, m2, -, -, u3, -, kP, hkP, hkPi⟩ := Cond.selects_spec (mvT (args := #[]) (s := s) X.2.1.2.2.1 wn)
    have e1 := findClass_of_methodNamed h0
    have e2 := findClass_of_methodNamed u3
    rw [hu, e1] at e2
    rw [Option.some.inj e2]
    exact ⟨kP, hkP, hkPi⟩
  obtain ⟨v, vm1, ⟨T', L1, k1, n1⟩, -, X', ⟨Lc, hQ, e2, e3, e4⟩, st⟩ := X.1.virtualBack X.2.1.1 (y := z') (z := y') X.2.1.2.2.2.1 (mvT (s := s) X.2.1.2.2.1 w1) (mvT (s := s) X.2.1.2.2.1 w2) hnf (mvT (s := s) X.2.1.2.2.1 w3) (mvT (s := s) X.2.1.2.2.1 w4) hy (Con.back X hC w5 w6 hf hl) q1 q3 (g := mkF m pc L (argsL.reverse ++ .ref a :: rest)) rfl (hL.trans X.2.1.2.2.2.2.2.2.2.symm) (Steps.refl _) hlen rfl (by show 2 * 0 + _ ≤ _; omega) (hb X.2.1.2.1 hd) (fun _ _ => ⟨rfl, X.2.2.1, hc, hs⟩)
  dsimp only [Pt.U, Pt.locs, Pt.cells, Pt.slots] at X' hQ e2 e3 e4 st
  subst e2 e3 e4
  exact Goes.step (fun _ k => st.trans k) (K v T' T'.heap _ (X.later X' rfl (Fr.app X.2.2.2.1 hQ.2.1) hQ.2.2) hQ.1)
theorem o_virtUp (X : On l Z p e R s m args below meth c y code maxL ret T h locs cells slots) {C owner : String} {z' y' : MethodName} {index q : Nat} {bytes : ByteArray} {maxL' : Nat} {ret' : Option FieldType} {rm : Room} {as : Array Value} {Q : Option Value → Heap → Prop} (argsL : List Value) {a : Addr} {rest : List Value} (E : Exa Z h a C) (hC : Con l Z y' bytes maxL' ret' rm as h Q)
    (w1 : (Jvm.Cond.methodLink y.cls index z').before a0 Z = true) (w2 : (Jvm.Cond.sameMethod z'.cls owner z'.name z'.desc).before a0 Z = true) (w3 : (Jvm.Cond.declares ⟨owner, z'.name, z'.desc⟩).before a0 Z = true) (ho : owner ≠ "java/lang/invoke/MethodHandle" ∧ owner ≠ "java/lang/invoke/VarHandle") (w4 : (Jvm.Cond.selects C z' y').before a0 Z = true) (w5 : (Jvm.Cond.instanceMethod y').before a0 Z = true) (w6 : (Jvm.Cond.code y' bytes maxL' ret').before a0 Z = true) (w7 : (Jvm.Cond.initialized y'.cls).before a0 Z = true) (hy : z'.cls ≠ "java/lang/invoke/MethodHandle" ∧ z'.cls ≠ "java/lang/invoke/VarHandle")
    (hd : decode code pc = .ok (.invokevirtual index, 3)) (has : (.ref a :: argsL).toArray = as) (hL : L.size = maxL) (hlen : ∀ sig, parseMethodDescriptor z'.desc = some sig → argsL.length = sig.parameters.length) (hS : S = argsL.reverse ++ .ref a :: rest) (hf : rm.frames + 1 ≤ R.frames) (hl : (rest.map fun v => v.category).sum + (maxL' + 11) + rm.locals ≤ R.locals) (hc : cells + rm.cells ≤ R.cells) (hs : slots + rm.slots ≤ R.slots) (hp : pc + 3 = q)
    (K : ∀ (v : Option Value) (T' : State) (h' : Heap) (locs' : List Loc), On l Z p e R s m args below meth c y code maxL ret T' h' locs' (cells + rm.cells) (slots + rm.slots) → Q v h' → Goes p e below F T' (mkF m q L (v.toList ++ rest))) : Goes p e below F T (mkF m pc L S) := by
  subst hp hS has
  obtain ⟨cB, kB, q1, q2, q3⟩ := isOf (show Z.Warmed39 s.vm from X.2.1.2.2.1) X.2.2.1 E
  obtain ⟨v, vm1, ⟨T', L1, k1, n1⟩, -, X', ⟨Lc, hQ, e2, e3, e4⟩, st⟩ := X.1.virtualBackUp X.2.1.1 (x := z') (y := y') X.2.1.2.2.2.1 (mvT (s := s) X.2.1.2.2.1 w1) (mv (show Z.Warmed39 s.vm from X.2.1.2.2.1) w2) (mvT (s := s) X.2.1.2.2.1 w3) ho (mvT (s := s) X.2.1.2.2.1 w4) (mvT (s := s) X.2.1.2.2.1 w5) (Con.back X hC w6 w7 hf hl) q1 q3 (g := mkF m pc L (argsL.reverse ++ .ref a :: rest)) rfl (hL.trans X.2.1.2.2.2.2.2.2.2.symm) (Steps.refl _) hlen rfl (by show 2 * 0 + _ ≤ _; omega) (hb X.2.1.2.1 hd) (fun _ _ => ⟨rfl, X.2.2.1, hc, hs⟩)
  dsimp only [Pt.U, Pt.locs, Pt.cells, Pt.slots] at X' hQ e2 e3 e4 st
  subst e2 e3 e4
  exact Goes.step (fun _ k => st.trans k) (K v T' T'.heap _ (X.later X' rfl (Fr.app X.2.2.2.1 hQ.2.1) hQ.2.2) hQ.1)
end OwnCol
end Jvm.Pilot.@@N@@

namespace Jvm.Pilot.@@N@@
open Jvm Jvm.ClassFile Sem Op Lib Jvm.Free Jvm.Stand Jvm.LawKit Jvm.RoadKit Bundle Jvm.Pilot.@@N@@.Jvm.D
section OwnDbl
variable {l : Launch} {Z : State} {p : Program} {e : Env} {R : Room} {s : State} {m : MethodId} {args : Array Value} {below : List Frame} {meth : Method} {c : Code} {y : MethodName} {code : ByteArray} {maxL : Nat} {ret : Option FieldType} {T : State} {h : Heap} {locs : List Loc} {cells slots : Nat} {F : State → Outcome → Prop} {pc : Nat} {L L' : Array Slot} {S : List Value} {a0 : Array Value}
theorem o_dload (X : On l Z p e R s m args below meth c y code maxL ret T h locs cells slots) {k : Nat} {v : UInt64} {q : Nat} (hd : decode code pc = .ok (.dload k, 2)) (hl : L[k]? = some (.val (.double v))) (hp : pc + 2 = q) (K : Goes p e below F T (mkF m q L (.double v :: S))) : Goes p e below F T (mkF m pc L S) := by
  subst hp
  exact Goes.step (fun _ k => XS.dload X.1.here X.2.1.1 (g := mkF m pc L S) rfl (hb X.2.1.2.1 hd) hl k) K
theorem o_dloadN (X : On l Z p e R s m args below meth c y code maxL ret T h locs cells slots) {k : Fin 4} {v : UInt64} {q : Nat} (hd : decode code pc = .ok (.dload_n k, 1)) (hl : L[k.val]? = some (.val (.double v))) (hp : pc + 1 = q) (K : Goes p e below F T (mkF m q L (.double v :: S))) : Goes p e below F T (mkF m pc L S) := by
  subst hp
  exact Goes.step (fun _ k => XS.dloadN X.1.here X.2.1.1 (g := mkF m pc L S) rfl (hb X.2.1.2.1 hd) hl k) K
theorem o_dstore (X : On l Z p e R s m args below meth c y code maxL ret T h locs cells slots) {k : Nat} {x z : UInt64} {q : Nat} (hd : decode code pc = .ok (.dstore k, 2)) (hz : x = z) (hl : storeLocals L k (.double z) = some L') (hp : pc + 2 = q) (K : Goes p e below F T (mkF m q L' S)) : Goes p e below F T (mkF m pc L (.double x :: S)) := by
  subst hz hp
  exact Goes.step (fun _ k => XS.dstore X.1.here X.2.1.1 (g := mkF m pc L (.double x :: S)) rfl (hb X.2.1.2.1 hd) rfl hl k) K
theorem o_dstoreN (X : On l Z p e R s m args below meth c y code maxL ret T h locs cells slots) {k : Fin 4} {x z : UInt64} {q : Nat} (hd : decode code pc = .ok (.dstore_n k, 1)) (hz : x = z) (hl : storeLocals L k.val (.double z) = some L') (hp : pc + 1 = q) (K : Goes p e below F T (mkF m q L' S)) : Goes p e below F T (mkF m pc L (.double x :: S)) := by
  subst hz hp
  exact Goes.step (fun _ k => XS.dstoreN X.1.here X.2.1.1 (g := mkF m pc L (.double x :: S)) rfl (hb X.2.1.2.1 hd) rfl hl k) K
theorem o_dconst0 (X : On l Z p e R s m args below meth c y code maxL ret T h locs cells slots)  {q : Nat} (hd : decode code pc = .ok (.dconst 0, 1))  (hp : pc + 1 = q) (K : Goes p e below F T (mkF m q L (.double FP.dconst0 :: S))) : Goes p e below F T (mkF m pc L S) := by
  subst hp
  exact Goes.step (fun _ k => XS.dconst0 X.1.here X.2.1.1 (g := mkF m pc L S) rfl (hb X.2.1.2.1 hd) rfl k) K
theorem o_dconst1 (X : On l Z p e R s m args below meth c y code maxL ret T h locs cells slots)  {q : Nat} (hd : decode code pc = .ok (.dconst 1, 1))  (hp : pc + 1 = q) (K : Goes p e below F T (mkF m q L (.double FP.dconst1 :: S))) : Goes p e below F T (mkF m pc L S) := by
  subst hp
  exact Goes.step (fun _ k => XS.dconst1 X.1.here X.2.1.1 (g := mkF m pc L S) rfl (hb X.2.1.2.1 hd) rfl k) K
theorem o_i2d (X : On l Z p e R s m args below meth c y code maxL ret T h locs cells slots) {x : Int32} {w : UInt64} {q : Nat} (hd : decode code pc = .ok (.i2d, 1)) (hw : FP.i2d x = w) (hp : pc + 1 = q) (K : Goes p e below F T (mkF m q L (.double w :: S))) : Goes p e below F T (mkF m pc L (.int x :: S)) := by
  subst hw hp
  exact Goes.step (fun _ k => XS.i2dS X.1.here X.2.1.1 (g := mkF m pc L (.int x :: S)) rfl (hb X.2.1.2.1 hd) rfl rfl k) K
theorem o_l2d (X : On l Z p e R s m args below meth c y code maxL ret T h locs cells slots) {x : Int64} {w : UInt64} {q : Nat} (hd : decode code pc = .ok (.l2d, 1)) (hw : FP.l2d x = w) (hp : pc + 1 = q) (K : Goes p e below F T (mkF m q L (.double w :: S))) : Goes p e below F T (mkF m pc L (.long x :: S)) := by
  subst hw hp
  exact Goes.step (fun _ k => XS.l2dS X.1.here X.2.1.1 (g := mkF m pc L (.long x :: S)) rfl (hb X.2.1.2.1 hd) rfl rfl k) K
theorem o_dneg (X : On l Z p e R s m args below meth c y code maxL ret T h locs cells slots) {x w : UInt64} {q : Nat} (hd : decode code pc = .ok (.dneg, 1)) (hw : FP.dneg x = w) (hp : pc + 1 = q) (K : Goes p e below F T (mkF m q L (.double w :: S))) : Goes p e below F T (mkF m pc L (.double x :: S)) := by
  subst hw hp
  exact Goes.step (fun _ k => XS.dnegS X.1.here X.2.1.1 (g := mkF m pc L (.double x :: S)) rfl (hb X.2.1.2.1 hd) rfl rfl k) K
theorem o_dcmp (X : On l Z p e R s m args below meth c y code maxL ret T h locs cells slots) {k : CmpOp} {x z : UInt64} {w : Int32} {q : Nat} (hd : decode code pc = .ok (.dcmp k, 1)) (hw : cmpValue (FP.dcmp x z) k = w) (hp : pc + 1 = q) (K : Goes p e below F T (mkF m q L (.int w :: S))) : Goes p e below F T (mkF m pc L (.double z :: .double x :: S)) := by
  subst hw hp
  exact Goes.step (fun _ k => XS.dcmpS X.1.here X.2.1.1 (g := mkF m pc L (.double z :: .double x :: S)) rfl (hb X.2.1.2.1 hd) rfl rfl k) K
theorem o_dadd (X : On l Z p e R s m args below meth c y code maxL ret T h locs cells slots) {x z w : UInt64} {q : Nat} (hd : decode code pc = .ok (.dadd, 1)) (hn : Jvm.Free.Fl.NoNaN64 (FP.dadd x z)) (hw : FP.dadd x z = w) (hp : pc + 1 = q) (K : Goes p e below F T (mkF m q L (.double w :: S))) : Goes p e below F T (mkF m pc L (.double z :: .double x :: S)) := by
  subst hw hp
  exact Goes.step (fun _ k => XS.daddS X.1.here X.2.1.1 (g := mkF m pc L (.double z :: .double x :: S)) rfl (hb X.2.1.2.1 hd) rfl hn rfl k) K
theorem o_dsub (X : On l Z p e R s m args below meth c y code maxL ret T h locs cells slots) {x z w : UInt64} {q : Nat} (hd : decode code pc = .ok (.dsub, 1)) (hn : Jvm.Free.Fl.NoNaN64 (FP.dsub x z)) (hw : FP.dsub x z = w) (hp : pc + 1 = q) (K : Goes p e below F T (mkF m q L (.double w :: S))) : Goes p e below F T (mkF m pc L (.double z :: .double x :: S)) := by
  subst hw hp
  exact Goes.step (fun _ k => XS.dsubS X.1.here X.2.1.1 (g := mkF m pc L (.double z :: .double x :: S)) rfl (hb X.2.1.2.1 hd) rfl hn rfl k) K
theorem o_dmul (X : On l Z p e R s m args below meth c y code maxL ret T h locs cells slots) {x z w : UInt64} {q : Nat} (hd : decode code pc = .ok (.dmul, 1)) (hn : Jvm.Free.Fl.NoNaN64 (FP.dmul x z)) (hw : FP.dmul x z = w) (hp : pc + 1 = q) (K : Goes p e below F T (mkF m q L (.double w :: S))) : Goes p e below F T (mkF m pc L (.double z :: .double x :: S)) := by
  subst hw hp
  exact Goes.step (fun _ k => XS.dmulS X.1.here X.2.1.1 (g := mkF m pc L (.double z :: .double x :: S)) rfl (hb X.2.1.2.1 hd) rfl hn rfl k) K
theorem o_ddiv (X : On l Z p e R s m args below meth c y code maxL ret T h locs cells slots) {x z w : UInt64} {q : Nat} (hd : decode code pc = .ok (.ddiv, 1)) (hn : Jvm.Free.Fl.NoNaN64 (FP.ddiv x z)) (hw : FP.ddiv x z = w) (hp : pc + 1 = q) (K : Goes p e below F T (mkF m q L (.double w :: S))) : Goes p e below F T (mkF m pc L (.double z :: .double x :: S)) := by
  subst hw hp
  exact Goes.step (fun _ k => XS.ddivS X.1.here X.2.1.1 (g := mkF m pc L (.double z :: .double x :: S)) rfl (hb X.2.1.2.1 hd) rfl hn rfl k) K
theorem o_ldcD (X : On l Z p e R s m args below meth c y code maxL ret T h locs cells slots) {index : Nat} {v : UInt64} {q : Nat} (w : (Jvm.Cond.constantDouble y.cls index v).before a0 Z = true) (hd : decode code pc = .ok (.ldc2_w index, 3)) (hp : pc + 3 = q) (K : Goes p e below F T (mkF m q L (.double v :: S))) : Goes p e below F T (mkF m pc L S) := by
  subst hp
  exact Goes.step (X.1.ldc2DoubleC X.2.1.1 X.2.1.2.2.2.1 (mvT (s := s) X.2.1.2.2.1 w) (g := mkF m pc L S) rfl (hb X.2.1.2.1 hd)) K
theorem o_lsw (X : On l Z p e R s m args below meth c y code maxL ret T h locs cells slots) {dflt : Int} {ps : Array (Int × Int)} {len : Nat} {a i : Int} {x : Int32} {q : Nat} (hd : decode code pc = .ok (.lookupswitch dflt ps, len)) (hso : (ps.toList.zip (ps.toList.drop 1)).all (fun (a, next) => a.1 < next.1) = true) (hi : ps.find? (·.1 == x.toInt) = some (a, i)) (ho : 0 ≤ (pc : Int) + i) (hp : ((pc : Int) + i).toNat = q) (K : Goes p e below F T (mkF m q L S)) : Goes p e below F T (mkF m pc L (.int x :: S)) := by
  subst hp
  exact Goes.step (X.1.lookupswitchHit X.2.1.1 (g := mkF m pc L (.int x :: S)) rfl rfl (hb X.2.1.2.1 hd) hso hi ho) K
theorem o_retD (X : On l Z p e R s m args below meth c y code maxL (some .double) T h locs cells slots) {Q : Option Value → Heap → Prop} {rc rs : Nat} {z : UInt64} (hd : decode code pc = .ok (.dreturn, 1)) (hQ : Q (some (.double z)) h) (hc : cells ≤ rc) (hs : slots ≤ rs) : Goes p e below (FinQ Z s Q rc rs) T (mkF m pc L (.double z :: S)) := by
  obtain ⟨X1, C1, e1, N1, E1⟩ := X
  obtain ⟨fs, hr, hrun, hended, hW, hsame⟩ := X1.leave (v := some (.double z)) (fun h => by rw [C1.2.2.2.2.1] at h; cases h) C1.2.2.2.2.2.1
  refine ⟨_, _, retOut X1 C1.1 C1.2.2.2.2.1 rfl (Or.inr (Or.inr (Or.inl ⟨rfl, rfl, z, rfl⟩))) (hb C1.2.1 hd) hr, hrun, hended, _, _, rfl, ⟨?_, N1, ?_⟩, ⟨_, rfl⟩, hW, hsame.mono hc hs⟩
  · show Q _ T.heap
    rw [e1]; exact hQ
  · show Ext Z.heap T.heap
    rw [e1]; exact E1
theorem o_absD (X : On l Z p e R s m args below meth c y code maxL ret T h locs cells slots) {index : Nat} {x w : UInt64} {q : Nat} (w1 : (Jvm.Cond.methodLink y.cls index Jvm.Free.Fl.Abs.absDN).before a0 Z = true) (w2 : (Jvm.Cond.static Jvm.Free.Fl.Abs.absDN).before a0 Z = true) (w3 : (Jvm.Cond.initialized "java/lang/Math").before a0 Z = true) (w4 : (Jvm.Cond.code Jvm.Free.Fl.Abs.absDN Jvm.Free.Fl.Abs.absDCode 2 (some .double)).before a0 Z = true) (hx1 : Jvm.Free.Fl.NoNaN64 x) (hw : (x &&& 0x7fffffffffffffff) = w)
    (hd : decode code pc = .ok (.invokestatic index, 3)) (hL : L.size = maxL) (hf : 1 ≤ R.frames) (hl : (S.map fun v => v.category).sum + 13 ≤ R.locals) (hc : cells ≤ R.cells) (hs : slots ≤ R.slots) (hp : pc + 3 = q) (K : ∀ T' : State, On l Z p e R s m args below meth c y code maxL ret T' h locs cells slots → Goes p e below F T' (mkF m q L (.double w :: S))) : Goes p e below F T (mkF m pc L (.double x :: S)) := by
  subst hp
  obtain ⟨T', X', e', st⟩ := natS X.1 X.2.1.1 (show Z.Warmed39 s.vm from X.2.1.2.2.1) X.2.1.2.2.2.1 w1 w2 w3 w4 (by decide) X.2.2.1 (W := (S.map fun v => v.category).sum) (fun hcode => Jvm.Free.Fl.Abs.absD_pays (sargs := args) x hcode hf hl) (g := mkF m pc L (.double x :: S)) rfl (hL.trans X.2.1.2.2.2.2.2.2.2.symm) (argsL := [.double x]) (rest := S) (lenOf (by decide +kernel : parseMethodDescriptor "(D)D" = some ⟨[.double], some .double⟩) rfl) rfl (by show 2 * 0 + _ ≤ _; omega) (hb X.2.1.2.1 hd) hc hs ⟨rfl, hx1⟩ (congrArg Value.double hw)
  exact Goes.step st (K T' (X.later X' e' X.2.2.2.1 X.ext))
theorem o_maxD (X : On l Z p e R s m args below meth c y code maxL ret T h locs cells slots) {index : Nat} {x z w : UInt64} {q : Nat} (w1 : (Jvm.Cond.methodLink y.cls index Jvm.Free.Fl.Abs.maxDN).before a0 Z = true) (w2 : (Jvm.Cond.static Jvm.Free.Fl.Abs.maxDN).before a0 Z = true) (w3 : (Jvm.Cond.initialized "java/lang/Math").before a0 Z = true) (w4 : (Jvm.Cond.code Jvm.Free.Fl.Abs.maxDN Jvm.Free.Fl.Abs.maxDCode 4 (some .double)).before a0 Z = true) (hx1 : Jvm.Free.Fl.NoNaN64 x) (hx2 : Jvm.Free.Fl.NoNaN64 z) (hw : (Jvm.Native.java_lang_Math.nans.pick64 true x z) = w)
    (hd : decode code pc = .ok (.invokestatic index, 3)) (hL : L.size = maxL) (hf : 1 ≤ R.frames) (hl : (S.map fun v => v.category).sum + 15 ≤ R.locals) (hc : cells ≤ R.cells) (hs : slots ≤ R.slots) (hp : pc + 3 = q) (K : ∀ T' : State, On l Z p e R s m args below meth c y code maxL ret T' h locs cells slots → Goes p e below F T' (mkF m q L (.double w :: S))) : Goes p e below F T (mkF m pc L (.double z :: .double x :: S)) := by
  subst hp
  obtain ⟨T', X', e', st⟩ := natS X.1 X.2.1.1 (show Z.Warmed39 s.vm from X.2.1.2.2.1) X.2.1.2.2.2.1 w1 w2 w3 w4 (by decide) X.2.2.1 (W := (S.map fun v => v.category).sum) (fun hcode => Jvm.Free.Fl.Abs.maxD_pays (sargs := args) x z hcode hf hl) (g := mkF m pc L (.double z :: .double x :: S)) rfl (hL.trans X.2.1.2.2.2.2.2.2.2.symm) (argsL := [.double x, .double z]) (rest := S) (lenOf (by decide +kernel : parseMethodDescriptor "(DD)D" = some ⟨[.double, .double], some .double⟩) rfl) rfl (by show 2 * 0 + _ ≤ _; omega) (hb X.2.1.2.1 hd) hc hs ⟨rfl, hx1, hx2⟩ (congrArg Value.double hw)
  exact Goes.step st (K T' (X.later X' e' X.2.2.2.1 X.ext))
theorem o_minD (X : On l Z p e R s m args below meth c y code maxL ret T h locs cells slots) {index : Nat} {x z w : UInt64} {q : Nat} (w1 : (Jvm.Cond.methodLink y.cls index Jvm.Free.Fl.Abs.minDN).before a0 Z = true) (w2 : (Jvm.Cond.static Jvm.Free.Fl.Abs.minDN).before a0 Z = true) (w3 : (Jvm.Cond.initialized "java/lang/Math").before a0 Z = true) (w4 : (Jvm.Cond.code Jvm.Free.Fl.Abs.minDN Jvm.Free.Fl.Abs.minDCode 4 (some .double)).before a0 Z = true) (hx1 : Jvm.Free.Fl.NoNaN64 x) (hx2 : Jvm.Free.Fl.NoNaN64 z) (hw : (Jvm.Native.java_lang_Math.nans.pick64 false x z) = w)
    (hd : decode code pc = .ok (.invokestatic index, 3)) (hL : L.size = maxL) (hf : 1 ≤ R.frames) (hl : (S.map fun v => v.category).sum + 15 ≤ R.locals) (hc : cells ≤ R.cells) (hs : slots ≤ R.slots) (hp : pc + 3 = q) (K : ∀ T' : State, On l Z p e R s m args below meth c y code maxL ret T' h locs cells slots → Goes p e below F T' (mkF m q L (.double w :: S))) : Goes p e below F T (mkF m pc L (.double z :: .double x :: S)) := by
  subst hp
  obtain ⟨T', X', e', st⟩ := natS X.1 X.2.1.1 (show Z.Warmed39 s.vm from X.2.1.2.2.1) X.2.1.2.2.2.1 w1 w2 w3 w4 (by decide) X.2.2.1 (W := (S.map fun v => v.category).sum) (fun hcode => Jvm.Free.Fl.Abs.minD_pays (sargs := args) x z hcode hf hl) (g := mkF m pc L (.double z :: .double x :: S)) rfl (hL.trans X.2.1.2.2.2.2.2.2.2.symm) (argsL := [.double x, .double z]) (rest := S) (lenOf (by decide +kernel : parseMethodDescriptor "(DD)D" = some ⟨[.double, .double], some .double⟩) rfl) rfl (by show 2 * 0 + _ ≤ _; omega) (hb X.2.1.2.1 hd) hc hs ⟨rfl, hx1, hx2⟩ (congrArg Value.double hw)
  exact Goes.step st (K T' (X.later X' e' X.2.2.2.1 X.ext))
end OwnDbl
end Jvm.Pilot.@@N@@
namespace Jvm.Pilot.@@N@@
section OwnFp
open Jvm.FP.Core
/-- two to a whole power -/
theorem tw_pos (q : Int) : (0 : Rat) < (2 : Rat) ^ q := Rat.zpow_pos (by decide)
theorem tw_ne (q : Int) : (2 : Rat) ^ q ≠ 0 := fun h => by have := tw_pos q; rw [h] at this; exact absurd this (by decide)
theorem tw_add (a b : Int) : (2 : Rat) ^ (a + b) = (2 : Rat) ^ a * (2 : Rat) ^ b := Rat.zpow_add (by decide) a b
theorem tw_nat (k : Nat) : (2 : Rat) ^ (k : Int) = ((2 ^ k : Nat) : Rat) := by rw [Rat.zpow_natCast, Rat.natCast_pow]; rfl
theorem tw_sub {a b : Int} (h : b ≤ a) : ((2 ^ (a - b).toNat : Nat) : Rat) * (2 : Rat) ^ b = (2 : Rat) ^ a := by
  rw [← tw_nat, ← tw_add]
  congr 1
  omega
theorem inU (c : Nat) {q e0 : Int} (h : e0 ≤ q) : ((inUnits c q e0 : Nat) : Rat) * (2 : Rat) ^ e0 = (c : Rat) * (2 : Rat) ^ q := by
  unfold inUnits
  rw [Rat.natCast_mul, Rat.mul_assoc, tw_sub h]
theorem mulR {a b : Rat} (q : Int) (h : a * (2 : Rat) ^ q = b * (2 : Rat) ^ q) : a = b := by
  have := tw_ne q
  grind
/-- rounding: the exact value c * 2^q, of 53 digits at the most, is kept -/
theorem rr_exact {s : Bool} {A B c : Nat} {e q : Int} (hB : 0 < B) (hc : c < 2 ^ 53) (hq : -1074 ≤ q) (hq2 : q ≤ 960) (hv : (A : Rat) * (2 : Rat) ^ e = (c : Rat) * (2 : Rat) ^ q * (B : Rat)) :
    ∃ (c' : Nat) (q' : Int), roundRatio b64 s A B e = .fin s c' q' ∧ (c' : Rat) * (2 : Rat) ^ q' = (c : Rat) * (2 : Rat) ^ q := by
  have hqm : b64.qmin = -1074 := by decide
  have hqx : b64.qmax = 971 := by decide
  obtain ⟨e0, h1, h2, h3⟩ : ∃ e0 : Int, e0 < -1074 ∧ e0 ≤ e ∧ e0 ≤ q := ⟨min (min (-1075) e) q, by omega, by omega, by omega⟩
  -- in units of 2^e0
  have eq : inUnits A e e0 = inUnits c q e0 * B := by
    have a1 := inU A h2
    have a2 := inU c h3
    have : ((inUnits A e e0 : Nat) : Rat) = ((inUnits c q e0 * B : Nat) : Rat) := by
      apply mulR e0
      rw [Rat.natCast_mul]
      grind
    exact Rat.natCast_inj.mp this
  have hd0 : distance A B e c q e0 = 0 := by
    unfold distance
    rw [eq]
    simp
  cases hr : roundRatio b64 s A B e with
  | nan =>
    exfalso
    unfold roundRatio at hr
    split at hr
    · cases hr
    · unfold roundAt settle bound at hr
      split at hr <;> split at hr <;> cases hr
  | inf t =>
    exfalso
    have ht : t = s := by
      unfold roundRatio at hr
      split at hr
      · cases hr
      · unfold roundAt settle bound at hr
        split at hr <;> split at hr <;> cases hr <;> rfl
    subst ht
    have := (roundRatio_inf good_b64 (s := t) (A := A) (B := B) (e := e) (e0 := e0) hB (by omega) h2).mp hr
    rw [eq, hqx] at this
    have p53 : b64.p = 53 := rfl
    rw [p53] at this
    have k1 : (2 ^ (53 + 1) - 1) * 2 ^ ((971 : Int) - 1 - e0).toNat ≤ inUnits c q e0 := Nat.le_of_mul_le_mul_right this hB
    have k2 : inUnits c q e0 < 2 ^ 53 * 2 ^ ((971 : Int) - 1 - e0).toNat := by
      unfold inUnits
      exact Nat.lt_of_lt_of_le (Nat.mul_lt_mul_of_pos_right hc (Nat.two_pow_pos _)) (Nat.mul_le_mul_left _ (Nat.pow_le_pow_right (by decide) (by omega)))
    have k3 : 2 ^ 53 * 2 ^ ((971 : Int) - 1 - e0).toNat ≤ (2 ^ (53 + 1) - 1) * 2 ^ ((971 : Int) - 1 - e0).toNat := Nat.mul_le_mul_right _ (by decide)
    omega
  | fin t c' q' =>
    have n1 := roundRatio_nearest good_b64 (e0 := e0) hB hr (c' := c) (q' := q) hc (by omega) (by omega) h2
    rw [hd0] at n1
    have n2 : distance A B e c' q' e0 = 0 := Nat.le_zero.mp n1
    have hf := roundRatio_fits good_b64 s A hB e
    rw [hr] at hf
    have hq'0 : e0 ≤ q' := by have := hf.2.1; omega
    have ht : t = s := by
      unfold roundRatio at hr
      split at hr
      · cases hr; rfl
      · unfold roundAt settle bound at hr
        split at hr <;> split at hr <;> cases hr <;> rfl
    subst ht
    refine ⟨c', q', rfl, ?_⟩
    unfold distance at n2
    have n3 := Int.natAbs_eq_zero.mp n2
    have n4 : inUnits c q e0 * B = inUnits c' q' e0 * B := by rw [← eq]; omega
    have n5 := Nat.eq_of_mul_eq_mul_right hB n4
    rw [← inU c' hq'0, ← inU c h3, n5]
/-- the double w is finite, and its value is r -/
def IsV (w : UInt64) (r : Rat) : Prop := ∃ s c q, val64 w = .fin s c q ∧ ((signed s c : Int) : Rat) * (2 : Rat) ^ q = r
theorem sgn_cast (s : Bool) (c : Nat) : ((signed s c : Int) : Rat) = if s then -(c : Rat) else (c : Rat) := by
  cases s <;> simp [signed, Rat.intCast_natCast, Rat.intCast_neg]
/-- a value that a double holds: n * 2^q, n of 53 digits at the most -/
def Rep (r : Rat) : Prop := ∃ (n : Int) (q : Int), n.natAbs < 2 ^ 53 ∧ -1074 ≤ q ∧ q ≤ 960 ∧ (n : Rat) * (2 : Rat) ^ q = r
theorem natAbs_cast (n : Int) : ((n.natAbs : Nat) : Rat) = if n < 0 then -(n : Rat) else (n : Rat) := by
  by_cases h : n < 0
  · rw [if_pos h, ← Rat.intCast_natCast, ← Rat.intCast_neg]; congr 1; omega
  · rw [if_neg h, ← Rat.intCast_natCast]; congr 1; omega
/-- rounding keeps a value that a double holds; m its magnitude -/
theorem rr_rep {s : Bool} {A B : Nat} {e : Int} {r : Rat} (hB : 0 < B) (hr : Rep r) (hv : (if s then -((A : Rat) * (2 : Rat) ^ e) else (A : Rat) * (2 : Rat) ^ e) = r * (B : Rat)) :
    ∃ (c : Nat) (q : Int), roundRatio b64 s A B e = .fin s c q ∧ ((signed s c : Int) : Rat) * (2 : Rat) ^ q = r := by
  obtain ⟨n, q, h1, h2, h3, h4⟩ := hr
  have hp := tw_pos q
  have hpe := tw_pos e
  have hBr : (0 : Rat) < (B : Rat) := by exact_mod_cast hB
  have hA : (0 : Rat) ≤ (A : Rat) := by exact_mod_cast Nat.zero_le A
  have hAe : (0 : Rat) ≤ (A : Rat) * (2 : Rat) ^ e := Rat.mul_nonneg hA (Rat.le_of_lt hpe)
  have hP : (0 : Rat) < (2 : Rat) ^ q * (B : Rat) := Rat.mul_pos hp hBr
  have hs1 : s = true → n ≤ 0 := by
    intro hs
    subst hs
    refine Int.not_lt.mp fun h => ?_
    have h5 : (0 : Rat) < (n : Rat) := by exact_mod_cast h
    have h6 := Rat.mul_pos h5 hP
    rw [← h4] at hv
    simp only [if_true] at hv
    grind
  have hs0 : s = false → 0 ≤ n := by
    intro hs
    subst hs
    refine Int.not_lt.mp fun h => ?_
    have h5 : (0 : Rat) < -(n : Rat) := by
      have : (n : Rat) < 0 := by exact_mod_cast h
      grind
    have h6 := Rat.mul_pos h5 hP
    rw [← h4] at hv
    simp only [Bool.false_eq_true, if_false] at hv
    grind
  have hn : ((n.natAbs : Nat) : Rat) = if s then -(n : Rat) else (n : Rat) := by
    rw [natAbs_cast]
    cases s with
    | true =>
      have := hs1 rfl
      by_cases h0 : n < 0
      · rw [if_pos h0]; rfl
      · have : n = 0 := by omega
        subst this; decide
    | false => rw [if_neg (Int.not_lt.mpr (hs0 rfl))]; rfl
  have hm : (A : Rat) * (2 : Rat) ^ e = ((n.natAbs : Nat) : Rat) * (2 : Rat) ^ q * (B : Rat) := by
    rw [hn]
    rw [← h4] at hv
    generalize (n : Rat) = N at hv ⊢
    cases s <;> simp only [if_true, Bool.false_eq_true, if_false] at hv ⊢ <;> grind
  obtain ⟨c, q', k1, k2⟩ := rr_exact (s := s) hB h1 h2 h3 hm
  refine ⟨c, q', k1, ?_⟩
  rw [sgn_cast]
  rw [hn] at k2
  cases s <;> simp only [if_true, Bool.false_eq_true, if_false] at k2 ⊢ <;> grind
theorem IsV.round {s : Bool} {c : Nat} {e : Int} {r : Rat} {w : UInt64} (hw : val64 w = round b64 (.fin s c e)) (hr : Rep r) (hv : ((signed s c : Int) : Rat) * (2 : Rat) ^ e = r) : IsV w r := by
  obtain ⟨c', q, h1, h2⟩ := rr_rep (s := s) (A := c) (B := 1) (e := e) (by decide) hr (by
    rw [sgn_cast] at hv
    have e1 : ((1 : Nat) : Rat) = 1 := rfl
    rw [e1, Rat.mul_one, ← hv]
    cases s <;> simp [Rat.neg_mul])
  exact ⟨s, c', q, hw.trans h1, h2⟩
theorem signed_natAbs (v : Int) (s t : Bool) : (((signed (sumSign s t v) v.natAbs : Int)) : Rat) = (v : Rat) := by
  congr 1
  unfold signed sumSign
  by_cases h : v = 0
  · subst h; simp
  · rw [if_neg h]
    by_cases h2 : v < 0 <;> simp [h2] <;> omega
theorem signed_units (s : Bool) (c : Nat) {q e : Int} (h : e ≤ q) : ((signed s (inUnits c q e) : Int) : Rat) * (2 : Rat) ^ e = ((signed s c : Int) : Rat) * (2 : Rat) ^ q := by
  have k := inU c h
  rw [sgn_cast, sgn_cast]
  cases s <;> simp only [if_true, Bool.false_eq_true, if_false] <;> grind
theorem IsV.add {a b : UInt64} {x y : Rat} (ha : IsV a x) (hb : IsV b y) (hr : Rep (x + y)) : IsV (dadd a b) (x + y) := by
  obtain ⟨s, c, q, h1, h2⟩ := ha
  obtain ⟨t, d, r, h3, h4⟩ := hb
  refine IsV.round (w := dadd a b) (by rw [val64_dadd, h1, h3]; rfl) hr ?_
  rw [signed_natAbs]
  unfold sumUnits
  rw [Rat.intCast_add, Rat.add_mul, signed_units s c (Int.min_le_left q r), signed_units t d (Int.min_le_right q r), h2, h4]
theorem IsV.neg_d {d : Datum} {s : Bool} {c : Nat} {q : Int} {x : Rat} (h1 : d = .fin s c q) (h2 : ((signed s c : Int) : Rat) * (2 : Rat) ^ q = x) : negate d = .fin (!s) c q ∧ ((signed (!s) c : Int) : Rat) * (2 : Rat) ^ q = -x := by
  subst h1 h2
  refine ⟨rfl, ?_⟩
  rw [sgn_cast, sgn_cast]
  cases s <;> simp [Rat.neg_mul]
theorem IsV.sub {a b : UInt64} {x y : Rat} (ha : IsV a x) (hb : IsV b y) (hr : Rep (x - y)) : IsV (dsub a b) (x - y) := by
  obtain ⟨s, c, q, h1, h2⟩ := ha
  obtain ⟨t, d, r, h3, h4⟩ := hb
  obtain ⟨h5, h6⟩ := IsV.neg_d h3 h4
  refine IsV.round (w := dsub a b) (by rw [val64_dsub, h1, h5]; rfl) hr ?_
  rw [signed_natAbs]
  unfold sumUnits
  rw [Rat.intCast_add, Rat.add_mul, signed_units s c (Int.min_le_left q r), signed_units (!t) d (Int.min_le_right q r), h2, h6, Rat.sub_eq_add_neg]
theorem signed_xor (s t : Bool) (c d : Nat) : ((signed (s != t) (c * d) : Int) : Rat) = ((signed s c : Int) : Rat) * ((signed t d : Int) : Rat) := by
  rw [sgn_cast, sgn_cast, sgn_cast, Rat.natCast_mul]
  cases s <;> cases t <;> simp [Rat.neg_mul, Rat.mul_neg]
theorem IsV.mul {a b : UInt64} {x y : Rat} (ha : IsV a x) (hb : IsV b y) (hr : Rep (x * y)) : IsV (dmul a b) (x * y) := by
  obtain ⟨s, c, q, h1, h2⟩ := ha
  obtain ⟨t, d, r, h3, h4⟩ := hb
  refine IsV.round (w := dmul a b) (by rw [val64_dmul, h1, h3]; rfl) hr ?_
  rw [signed_xor, tw_add, ← h2, ← h4]
  grind
theorem IsV.div {a b : UInt64} {x y : Rat} (ha : IsV a x) (hb : IsV b y) (hy : y ≠ 0) (hr : Rep (x / y)) : IsV (ddiv a b) (x / y) := by
  obtain ⟨s, c, q, h1, h2⟩ := ha
  obtain ⟨t, d, r, h3, h4⟩ := hb
  have hd : d ≠ 0 := by
    intro h; subst h
    rw [signed_zero] at h4
    apply hy; rw [← h4]; simp
  have hq : val64 (ddiv a b) = roundRatio b64 (s != t) c d (q - r) := by
    rw [val64_ddiv, h1, h3]
    show (if d = 0 then _ else _) = _
    rw [if_neg hd]
  obtain ⟨c', q', k1, k2⟩ := rr_rep (s := (s != t)) (A := c) (B := d) (e := q - r) (r := x / y) (by omega) hr (by
    have e1 : (2 : Rat) ^ q = (2 : Rat) ^ (q - r) * (2 : Rat) ^ r := by rw [← tw_add]; congr 1; omega
    have n1 := tw_ne r
    have n2 : (d : Rat) ≠ 0 := by
      intro h; apply hd; exact_mod_cast h
    rw [sgn_cast] at h2 h4
    subst h2 h4
    rw [e1]
    cases s <;> cases t <;> simp only [if_true, Bool.false_eq_true, if_false, bne_self_eq_false, Bool.true_bne, Bool.false_bne, Bool.not_true, Bool.not_false] <;> grind)
  exact ⟨_, c', q', hq.trans k1, k2⟩
theorem IsV.neg {a : UInt64} {x : Rat} (ha : IsV a x) : IsV (dneg a) (-x) := by
  obtain ⟨s, c, q, h1, h2⟩ := ha
  obtain ⟨h5, h6⟩ := IsV.neg_d h1 h2
  exact ⟨!s, c, q, by rw [val64_dneg, h1]; rfl, h6⟩
/-- the order of two finite doubles is that of their values -/
theorem IsV.cmp {a b : UInt64} {x y : Rat} (ha : IsV a x) (hb : IsV b y) : dcmp a b = some (if x < y then .lt else if x = y then .eq else .gt) := by
  obtain ⟨s, c, q, h1, h2⟩ := ha
  obtain ⟨t, d, r, h3, h4⟩ := hb
  have hk : dcmp a b = some (compare (signed s (inUnits c q (min q r))) (signed t (inUnits d r (min q r)))) := by
    show order (val64 a) (val64 b) = _
    rw [h1, h3]; rfl
  rw [hk]
  have u1 := signed_units s c (Int.min_le_left q r)
  have u2 := signed_units t d (Int.min_le_right q r)
  rw [h2] at u1
  rw [h4] at u2
  have hp := tw_pos (min q r)
  generalize (2 : Rat) ^ (min q r) = P at u1 u2 hp
  generalize signed s (inUnits c q (min q r)) = m at u1
  generalize signed t (inUnits d r (min q r)) = n at u2
  congr 1
  subst u1 u2
  have l1 : (m : Rat) * P < (n : Rat) * P ↔ m < n := by
    constructor
    · intro h
      refine Int.not_le.mp fun h' => ?_
      have h6 : (n : Rat) ≤ (m : Rat) := by exact_mod_cast h'
      have h7 := Rat.mul_le_mul_of_nonneg_right h6 (Rat.le_of_lt hp)
      grind
    · intro h
      have h6 : (m : Rat) < (n : Rat) := by exact_mod_cast h
      exact Rat.mul_lt_mul_of_pos_right h6 hp
  have l2 : (m : Rat) * P = (n : Rat) * P ↔ m = n := by
    constructor
    · intro h
      have hne : P ≠ 0 := by grind
      have : (m : Rat) = (n : Rat) := by grind
      exact_mod_cast this
    · intro h; rw [h]
  simp only [l1, l2]
  show compareOfLessAndEq m n = _
  rfl
theorem signed_dec (i : Int) : signed (decide (i < 0)) i.natAbs = i := by
  unfold signed
  by_cases h : i < 0 <;> simp [h] <;> omega
theorem Rep.int {i : Int} (h : i.natAbs < 2 ^ 53) : Rep (i : Rat) := ⟨i, 0, h, by decide, by decide, by rw [Rat.zpow_zero, Rat.mul_one]⟩
theorem IsV.l2d {x : Int64} (h : x.toInt.natAbs < 2 ^ 53) : IsV (l2d x) (x.toInt : Rat) :=
  IsV.round (val64_l2d x) (Rep.int h) (by rw [signed_dec, Rat.zpow_zero, Rat.mul_one])
theorem IsV.i2d (x : Int32) : IsV (i2d x) (x.toInt : Rat) :=
  IsV.round (val64_i2d x) (Rep.int (by have := x.toInt_lt; have := x.le_toInt; omega)) (by rw [signed_dec, Rat.zpow_zero, Rat.mul_one])
theorem IsV.zero : IsV FP.dconst0 0 := ⟨false, 0, b64.qmin, val64_dconst0, by rw [signed_zero]; exact Rat.zero_mul _⟩
theorem IsV.one : IsV FP.dconst1 1 := ⟨false, 2 ^ 52, -52, val64_dconst1, by decide +kernel⟩
theorem IsV.nn {w : UInt64} {r : Rat} (h : IsV w r) : Jvm.Free.Fl.NoNaN64 w := by
  obtain ⟨s, c, q, h1, -⟩ := h
  rw [Jvm.Free.Fl.noNaN64_no]
  show decide (val64 w = .nan) = false
  rw [h1]; rfl
theorem val_abs {a : UInt64} {s : Bool} {c : Nat} {q : Int} (h : val64 a = .fin s c q) : val64 (a &&& 0x7fffffffffffffff) = .fin false c q := by
  have hn := Jvm.Free.Fl.abs_toNat a
  have ha := a.toNat_lt
  unfold val64 at h ⊢
  rw [hn]
  have t1 : fieldT b64 (a.toNat % 9223372036854775808) = fieldT b64 a.toNat := by
    show a.toNat % 9223372036854775808 % 4503599627370496 = a.toNat % 4503599627370496
    omega
  have t2 : fieldE b64 (a.toNat % 9223372036854775808) = fieldE b64 a.toNat := by
    show a.toNat % 9223372036854775808 / 4503599627370496 % 2048 = a.toNat / 4503599627370496 % 2048
    omega
  have t3 : fieldS b64 (a.toNat % 9223372036854775808) = false := by
    have : a.toNat % 9223372036854775808 / 4503599627370496 / 2048 % 2 = 0 := by omega
    show (a.toNat % 9223372036854775808 / 4503599627370496 / 2048 % 2 == 1) = false
    rw [this]; rfl
  unfold decode at h ⊢
  rw [t1, t2, t3]
  split at h
  · split at h <;> cases h
  · rename_i g1
    rw [if_neg g1]
    split at h
    · rename_i g2
      rw [if_pos g2]; cases h; rfl
    · rename_i g2
      rw [if_neg g2]; cases h; rfl
theorem IsV.abs {a : UInt64} {x : Rat} (h : IsV a x) : IsV (a &&& 0x7fffffffffffffff) (if x < 0 then -x else x) := by
  obtain ⟨s, c, q, h1, h2⟩ := h
  refine ⟨false, c, q, val_abs h1, ?_⟩
  have hp := tw_pos q
  have hc : (0 : Rat) ≤ (c : Rat) := by exact_mod_cast Nat.zero_le c
  have hcp := Rat.mul_nonneg hc (Rat.le_of_lt hp)
  rw [sgn_cast] at h2 ⊢
  subst h2
  cases s <;> simp only [if_true, Bool.false_eq_true, if_false] <;> split <;> grind
theorem IsV.eqv {a : UInt64} {x y : Rat} (h : IsV a x) (e : x = y) : IsV a y := e ▸ h
theorem IsV.max {a b : UInt64} {x y : Rat} (ha : IsV a x) (hb : IsV b y) : IsV (Jvm.Native.java_lang_Math.nans.pick64 true a b) (if x < y then y else x) := by
  have hc := ha.cmp hb
  unfold Jvm.Native.java_lang_Math.nans.pick64
  rw [show FP.dcmp a b = _ from hc]
  by_cases h1 : x < y
  · simp only [h1, if_true]; exact hb
  · by_cases h2 : x = y
    · subst h2
      simp only [h1, if_false, if_true]
      split
      · exact hb
      · exact ha
    · simp only [h1, h2, if_false, if_true]; exact ha
theorem IsV.cmpV {a b : UInt64} {x y : Rat} (ha : IsV a x) (hb : IsV b y) (k : Jvm.ClassFile.CmpOp) : Jvm.Op.cmpValue (FP.dcmp a b) k = if x < y then (-1 : Int32) else if x = y then 0 else 1 := by
  rw [show FP.dcmp a b = _ from ha.cmp hb]
  by_cases h1 : x < y
  · simp only [h1, if_true]; cases k <;> rfl
  · by_cases h2 : x = y
    · simp only [h1, h2, if_false, if_true]
      subst h2
      simp only [h1, if_false]; cases k <;> rfl
    · simp only [h1, h2, if_false]; cases k <;> rfl
theorem IsV.fneg {a : UInt64} {x : Rat} (h : IsV a x) : IsV (FP.dneg a) (-x) := by
  obtain ⟨s, c, q, h1, h2⟩ := h
  obtain ⟨h5, h6⟩ := IsV.neg_d h1 h2
  have ha := a.toNat_lt
  have hx : (FP.dneg a).toNat = if a.toNat < 9223372036854775808 then a.toNat + 9223372036854775808 else a.toNat - 9223372036854775808 := by
    show (a ^^^ 0x8000000000000000).toNat = _
    have h1 := UInt64.toNat_xor (a := a) (b := 0x8000000000000000)
    have h2 : (a ^^^ 0x8000000000000000).toNat % 9223372036854775808 = a.toNat % 9223372036854775808 := by
      rw [h1]
      show (a.toNat ^^^ 2 ^ 63) % 2 ^ 63 = a.toNat % 2 ^ 63
      rw [Nat.xor_mod_two_pow]
      simp
    have h3 : (a ^^^ 0x8000000000000000).toNat / 9223372036854775808 = 1 - a.toNat / 9223372036854775808 := by
      rw [h1]
      show (a.toNat ^^^ 2 ^ 63) / 2 ^ 63 = 1 - a.toNat / 2 ^ 63
      rw [Nat.xor_div_two_pow]
      have : a.toNat / 2 ^ 63 = 0 ∨ a.toNat / 2 ^ 63 = 1 := by omega
      rcases this with h | h <;> rw [h] <;> decide
    have h4 := (a ^^^ 0x8000000000000000).toNat_lt
    generalize (a ^^^ 0x8000000000000000).toNat = X at *
    split <;> omega
  have hk : val64 (FP.dneg a) = .fin (!s) c q := by
    unfold val64 at h1 ⊢
    have t1 : fieldT b64 (FP.dneg a).toNat = fieldT b64 a.toNat := by
      show (FP.dneg a).toNat % 4503599627370496 = a.toNat % 4503599627370496
      rw [hx]; split <;> omega
    have t2 : fieldE b64 (FP.dneg a).toNat = fieldE b64 a.toNat := by
      show (FP.dneg a).toNat / 4503599627370496 % 2048 = a.toNat / 4503599627370496 % 2048
      rw [hx]; split <;> omega
    have t3 : fieldS b64 (FP.dneg a).toNat = !fieldS b64 a.toNat := by
      show ((FP.dneg a).toNat / 4503599627370496 / 2048 % 2 == 1) = !(a.toNat / 4503599627370496 / 2048 % 2 == 1)
      rw [hx]
      split
      · have e1 : (a.toNat + 9223372036854775808) / 4503599627370496 / 2048 % 2 = 1 := by omega
        have e2 : a.toNat / 4503599627370496 / 2048 % 2 = 0 := by omega
        rw [e1, e2]; rfl
      · have e1 : (a.toNat - 9223372036854775808) / 4503599627370496 / 2048 % 2 = 0 := by omega
        have e2 : a.toNat / 4503599627370496 / 2048 % 2 = 1 := by omega
        rw [e1, e2]; rfl
    unfold decode at h1 ⊢
    rw [t1, t2, t3]
    split at h1
    · split at h1 <;> cases h1
    · rename_i g1
      rw [if_neg g1]
      split at h1
      · rename_i g2
        rw [if_pos g2]; cases h1; rfl
      · rename_i g2
        rw [if_neg g2]; cases h1; rfl
  exact ⟨!s, c, q, hk, h6⟩
/-- what dcmp pushes, by the values -/
abbrev cmpR (x y : Rat) : Int32 := if x < y then (-1 : Int32) else if x = y then 0 else 1
theorem cmpR_lt (x y : Rat) : cmpR x y < 0 ↔ x < y := by
  unfold cmpR
  by_cases h : x < y
  · simp only [h, if_true]; decide
  · by_cases h2 : x = y
    · simp only [h, if_false, h2]
      subst h2; simp only [h, if_false, if_true]; decide
    · simp only [h, h2, if_false]; decide
theorem cmpR_eq (x y : Rat) : cmpR x y = 0 ↔ x = y := by
  unfold cmpR
  by_cases h : x < y
  · have : x ≠ y := by grind
    simp only [h, this, if_true]; decide
  · by_cases h2 : x = y
    · subst h2; simp [h]
    · simp only [h, h2, if_false]; decide
theorem cmpR_gt (x y : Rat) : 0 < cmpR x y ↔ y < x := by
  unfold cmpR
  by_cases h : x < y
  · have : ¬ y < x := by grind
    simp only [h, this, if_true]; decide
  · by_cases h2 : x = y
    · subst h2; simp [h]
    · have : y < x := by grind
      simp only [h, h2, this, if_false]; decide
/-- n / D is a double's value where D is a power of two -/
theorem Rep.dy {n : Int} {D : Rat} (q : Int) (h : n.natAbs < 2 ^ 53) (h1 : -1074 ≤ q) (h2 : q ≤ 960) (hD : (2 : Rat) ^ q * D = 1) : Rep ((n : Rat) / D) := by
  refine ⟨n, q, h, h1, h2, ?_⟩
  generalize (2 : Rat) ^ q = P at hD ⊢
  have : D ≠ 0 := by intro q; rw [q] at hD; grind
  grind
theorem Rep.eqv {x y : Rat} (h : Rep x) (e : x = y) : Rep y := e ▸ h
end OwnFp
end Jvm.Pilot.@@N@@

namespace Jvm.Pilot.@@N@@
open Jvm Jvm.ClassFile Sem Op Lib Jvm.Free Jvm.Stand Jvm.LawKit Jvm.RoadKit Bundle Jvm.Pilot.@@N@@.Jvm.D
def W (a0 : Array Value) (Z : State) : Prop := ∀ d ∈ tables_1, d.before a0 Z = true
theorem w0 {a0 : Array Value} {Z : State} (hw : W a0 Z) : (Jvm.Cond.constant "com/example/refinement/refinement/learning/DistanceFormGapPinLaw" (7 : Nat) (2147483647 : Int32)).before a0 Z = true := hw _ (List.mem_of_getElem? (i := 0) rfl)
theorem w1 {a0 : Array Value} {Z : State} (hw : W a0 Z) : (Jvm.Cond.constantDouble "com/example/refinement/refinement/learning/DistanceFormGapPinLaw" (8 : Nat) (4652218415073722368 : UInt64)).before a0 Z = true := hw _ (List.mem_of_getElem? (i := 1) rfl)
theorem w2 {a0 : Array Value} {Z : State} (hw : W a0 Z) : (Jvm.Cond.fieldLink "com/example/refinement/refinement/learning/DistanceFormGapPinLaw" (16 : Nat) "com/example/refinement/refinement/learning/DistanceForm" "DIFFERENCE" "Lcom/example/refinement/refinement/learning/DistanceForm;").before a0 Z = true := hw _ (List.mem_of_getElem? (i := 2) rfl)
theorem w3 {a0 : Array Value} {Z : State} (hw : W a0 Z) : (Jvm.Cond.initialized "com/example/refinement/refinement/learning/DistanceForm").before a0 Z = true := hw _ (List.mem_of_getElem? (i := 3) rfl)
theorem w4 {a0 : Array Value} {Z : State} (hw : W a0 Z) : (Jvm.Cond.laysStatic "com/example/refinement/refinement/learning/DistanceForm" "DIFFERENCE" "Lcom/example/refinement/refinement/learning/DistanceForm;").before a0 Z = true := hw _ (List.mem_of_getElem? (i := 4) rfl)
theorem w5 {a0 : Array Value} {Z : State} (hw : W a0 Z) : (Jvm.Cond.methodLink "com/example/refinement/refinement/learning/DistanceFormGapPinLaw" (19 : Nat) ({ cls := "com/example/refinement/refinement/learning/DistanceForm", name := "gap", desc := "(DD)D" } : Jvm.MethodName)).before a0 Z = true := hw _ (List.mem_of_getElem? (i := 5) rfl)
theorem w6 {a0 : Array Value} {Z : State} (hw : W a0 Z) : (Jvm.Cond.declares ({ cls := "com/example/refinement/refinement/learning/DistanceForm", name := "gap", desc := "(DD)D" } : Jvm.MethodName)).before a0 Z = true := hw _ (List.mem_of_getElem? (i := 6) rfl)
theorem w7 {a0 : Array Value} {Z : State} (hw : W a0 Z) : (Jvm.Cond.instanceMethod ({ cls := "com/example/refinement/refinement/learning/DistanceForm", name := "gap", desc := "(DD)D" } : Jvm.MethodName)).before a0 Z = true := hw _ (List.mem_of_getElem? (i := 7) rfl)
theorem w8 {a0 : Array Value} {Z : State} (hw : W a0 Z) : (Jvm.Cond.selects "com/example/refinement/refinement/learning/DistanceForm" ({ cls := "com/example/refinement/refinement/learning/DistanceForm", name := "gap", desc := "(DD)D" } : Jvm.MethodName) ({ cls := "com/example/refinement/refinement/learning/DistanceForm", name := "gap", desc := "(DD)D" } : Jvm.MethodName)).before a0 Z = true := hw _ (List.mem_of_getElem? (i := 8) rfl)
theorem w9 {a0 : Array Value} {Z : State} (hw : W a0 Z) : (Jvm.Cond.code ({ cls := "com/example/refinement/refinement/learning/DistanceForm", name := "gap", desc := "(DD)D" } : Jvm.MethodName) prog_8_method_4_code (5 : Nat) (Option.some Jvm.ClassFile.FieldType.double)).before a0 Z = true := hw _ (List.mem_of_getElem? (i := 9) rfl)
theorem w10 {a0 : Array Value} {Z : State} (hw : W a0 Z) : (Jvm.Cond.methodLink "com/example/refinement/refinement/learning/DistanceForm" (29 : Nat) ({ cls := "com/example/refinement/refinement/learning/DistanceForm", name := "ordinal", desc := "()I" } : Jvm.MethodName)).before a0 Z = true := hw _ (List.mem_of_getElem? (i := 10) rfl)
theorem w11 {a0 : Array Value} {Z : State} (hw : W a0 Z) : (Jvm.Cond.sameMethod "com/example/refinement/refinement/learning/DistanceForm" "java/lang/Enum" "ordinal" "()I").before a0 Z = true := hw _ (List.mem_of_getElem? (i := 11) rfl)
theorem w12 {a0 : Array Value} {Z : State} (hw : W a0 Z) : (Jvm.Cond.declares ({ cls := "java/lang/Enum", name := "ordinal", desc := "()I" } : Jvm.MethodName)).before a0 Z = true := hw _ (List.mem_of_getElem? (i := 12) rfl)
theorem w13 {a0 : Array Value} {Z : State} (hw : W a0 Z) : (Jvm.Cond.instanceMethod ({ cls := "java/lang/Enum", name := "ordinal", desc := "()I" } : Jvm.MethodName)).before a0 Z = true := hw _ (List.mem_of_getElem? (i := 13) rfl)
theorem w14 {a0 : Array Value} {Z : State} (hw : W a0 Z) : (Jvm.Cond.selects "com/example/refinement/refinement/learning/DistanceForm" ({ cls := "com/example/refinement/refinement/learning/DistanceForm", name := "ordinal", desc := "()I" } : Jvm.MethodName) ({ cls := "java/lang/Enum", name := "ordinal", desc := "()I" } : Jvm.MethodName)).before a0 Z = true := hw _ (List.mem_of_getElem? (i := 14) rfl)
theorem w15 {a0 : Array Value} {Z : State} (hw : W a0 Z) : (Jvm.Cond.initialized "java/lang/Enum").before a0 Z = true := hw _ (List.mem_of_getElem? (i := 15) rfl)
theorem w16 {a0 : Array Value} {Z : State} (hw : W a0 Z) : (Jvm.Cond.code ({ cls := "java/lang/Enum", name := "ordinal", desc := "()I" } : Jvm.MethodName) jdk_37_method_2_code (1 : Nat) (Option.some Jvm.ClassFile.FieldType.int)).before a0 Z = true := hw _ (List.mem_of_getElem? (i := 16) rfl)
theorem w17 {a0 : Array Value} {Z : State} (hw : W a0 Z) : (Jvm.Cond.fieldLink "java/lang/Enum" (7 : Nat) "java/lang/Enum" "ordinal" "I").before a0 Z = true := hw _ (List.mem_of_getElem? (i := 17) rfl)
theorem w19 {a0 : Array Value} {Z : State} (hw : W a0 Z) : (Jvm.Cond.methodLink "com/example/refinement/refinement/learning/DistanceForm" (38 : Nat) ({ cls := "java/lang/Math", name := "abs", desc := "(D)D" } : Jvm.MethodName)).before a0 Z = true := hw _ (List.mem_of_getElem? (i := 19) rfl)
theorem w20 {a0 : Array Value} {Z : State} (hw : W a0 Z) : (Jvm.Cond.static ({ cls := "java/lang/Math", name := "abs", desc := "(D)D" } : Jvm.MethodName)).before a0 Z = true := hw _ (List.mem_of_getElem? (i := 20) rfl)
theorem w21 {a0 : Array Value} {Z : State} (hw : W a0 Z) : (Jvm.Cond.initialized "java/lang/Math").before a0 Z = true := hw _ (List.mem_of_getElem? (i := 21) rfl)
theorem w22 {a0 : Array Value} {Z : State} (hw : W a0 Z) : (Jvm.Cond.code ({ cls := "java/lang/Math", name := "abs", desc := "(D)D" } : Jvm.MethodName) jdk_29_method_64_code (2 : Nat) (Option.some Jvm.ClassFile.FieldType.double)).before a0 Z = true := hw _ (List.mem_of_getElem? (i := 22) rfl)
theorem w23 {a0 : Array Value} {Z : State} (hw : W a0 Z) : (Jvm.Cond.fieldLink "com/example/refinement/refinement/learning/DistanceFormGapPinLaw" (10 : Nat) "com/example/refinement/refinement/learning/DistanceForm" "PRODUCT" "Lcom/example/refinement/refinement/learning/DistanceForm;").before a0 Z = true := hw _ (List.mem_of_getElem? (i := 23) rfl)
theorem w24 {a0 : Array Value} {Z : State} (hw : W a0 Z) : (Jvm.Cond.laysStatic "com/example/refinement/refinement/learning/DistanceForm" "PRODUCT" "Lcom/example/refinement/refinement/learning/DistanceForm;").before a0 Z = true := hw _ (List.mem_of_getElem? (i := 24) rfl)
theorem w25 {a0 : Array Value} {Z : State} (hw : W a0 Z) : (Jvm.Cond.constant "com/example/refinement/refinement/learning/DistanceFormGapPinLaw" (23 : Nat) (1048576 : Int32)).before a0 Z = true := hw _ (List.mem_of_getElem? (i := 25) rfl)
theorem w26 {a0 : Array Value} {Z : State} (hw : W a0 Z) : (Jvm.Cond.constantDouble "com/example/refinement/refinement/learning/DistanceFormGapPinLaw" (24 : Nat) (4697254411347427328 : UInt64)).before a0 Z = true := hw _ (List.mem_of_getElem? (i := 26) rfl)
theorem d_jdk_37_method_2_0 : decode jdk_37_method_2_code 0 = .ok (.aload_n 0, 1) := by decide +kernel
theorem d_jdk_37_method_2_1 : decode jdk_37_method_2_code 1 = .ok (.getfield 7, 3) := by decide +kernel
theorem d_jdk_37_method_2_4 : decode jdk_37_method_2_code 4 = .ok (.ireturn, 1) := by decide +kernel
theorem d_prog_8_method_4_0 : decode prog_8_method_4_code 0 = .ok (.aload_n 0, 1) := by decide +kernel
theorem d_prog_8_method_4_1 : decode prog_8_method_4_code 1 = .ok (.invokevirtual 29, 3) := by decide +kernel
theorem d_prog_8_method_4_4 : decode prog_8_method_4_code 4 = .ok (.lookupswitch 28 #[(0, 38), (1, 47)], 28) := by decide +kernel
theorem d_prog_8_method_4_42 : decode prog_8_method_4_code 42 = .ok (.dload_n 1, 1) := by decide +kernel
theorem d_prog_8_method_4_43 : decode prog_8_method_4_code 43 = .ok (.dload_n 3, 1) := by decide +kernel
theorem d_prog_8_method_4_44 : decode prog_8_method_4_code 44 = .ok (.dsub, 1) := by decide +kernel
theorem d_prog_8_method_4_45 : decode prog_8_method_4_code 45 = .ok (.invokestatic 38, 3) := by decide +kernel
theorem d_prog_8_method_4_48 : decode prog_8_method_4_code 48 = .ok (.goto 8, 3) := by decide +kernel
theorem d_prog_8_method_4_56 : decode prog_8_method_4_code 56 = .ok (.dreturn, 1) := by decide +kernel
theorem d_prog_8_method_4_51 : decode prog_8_method_4_code 51 = .ok (.dconst 1, 1) := by decide +kernel
theorem d_prog_8_method_4_52 : decode prog_8_method_4_code 52 = .ok (.dload_n 1, 1) := by decide +kernel
theorem d_prog_8_method_4_53 : decode prog_8_method_4_code 53 = .ok (.dload_n 3, 1) := by decide +kernel
theorem d_prog_8_method_4_54 : decode prog_8_method_4_code 54 = .ok (.dmul, 1) := by decide +kernel
theorem d_prog_8_method_4_55 : decode prog_8_method_4_code 55 = .ok (.dsub, 1) := by decide +kernel
theorem pd0 : parseMethodDescriptor "()I" = some ⟨[], some .int⟩ := by decide +kernel
theorem pd1 : parseMethodDescriptor "(DD)D" = some ⟨[.double, .double], some .double⟩ := by decide +kernel
theorem own_k {x k : Int32} (h : ((x &&& (2147483647 : Int32)) % (1025 : Int32)) = k) : 0 ≤ k.toInt ∧ k.toInt ≤ 1024 := by
  have m := c_mask x 2147483647 31 (by decide) (by decide)
  have r := (c_irem (x &&& 2147483647) 1025 1025 rfl).1 (by omega)
  rw [h] at r
  omega
section
open Jvm.FP.Core
theorem own_rA {A : Int} (hA : 0 ≤ A ∧ A ≤ 1024) : Rep ((A : Rat) / 1024) := Rep.dy (-10) (by omega) (by decide) (by decide) (by decide +kernel)
theorem own_ab {A B : Int} (hA : 0 ≤ A ∧ A ≤ 1024) (hB : 0 ≤ B ∧ B ≤ 1024) : 0 ≤ A * B ∧ A * B ≤ 1048576 := by
  refine ⟨Int.mul_nonneg hA.1 hB.1, ?_⟩
  have := Int.mul_le_mul hA.2 hB.2 hB.1 (by decide : (0 : Int) ≤ 1024)
  omega
theorem own_prod (A B : Int) : (A : Rat) / 1024 * ((B : Rat) / 1024) = ((A * B : Int) : Rat) / 1048576 := by
  rw [Rat.intCast_mul]; grind
theorem own_rP {A B : Int} (hA : 0 ≤ A ∧ A ≤ 1024) (hB : 0 ≤ B ∧ B ≤ 1024) : Rep ((A : Rat) / 1024 * ((B : Rat) / 1024)) := (Rep.dy (n := A * B) (D := 1048576) (-20) (by have := own_ab hA hB; omega) (by decide) (by decide) (by decide +kernel)).eqv (own_prod A B).symm
theorem own_one (A B : Int) : (1 : Rat) - (A : Rat) / 1024 * ((B : Rat) / 1024) = ((1048576 - A * B : Int) : Rat) / 1048576 := by
  rw [own_prod, Rat.intCast_sub]
  have e : ((1048576 : Int) : Rat) = 1048576 := rfl
  rw [e]; grind
theorem own_r1 {A B : Int} (hA : 0 ≤ A ∧ A ≤ 1024) (hB : 0 ≤ B ∧ B ≤ 1024) : Rep ((1 : Rat) - (A : Rat) / 1024 * ((B : Rat) / 1024)) := (Rep.dy (n := 1048576 - A * B) (D := 1048576) (-20) (by have := own_ab hA hB; omega) (by decide) (by decide) (by decide +kernel)).eqv (own_one A B).symm
theorem own_dif (A B : Int) : (A : Rat) / 1024 - (B : Rat) / 1024 = ((A - B : Int) : Rat) / 1024 := by
  rw [Rat.intCast_sub]; grind
theorem own_rD {A B : Int} (hA : 0 ≤ A ∧ A ≤ 1024) (hB : 0 ≤ B ∧ B ≤ 1024) : Rep ((A : Rat) / 1024 - (B : Rat) / 1024) := (Rep.dy (n := A - B) (D := 1024) (-10) (by omega) (by decide) (by decide) (by decide +kernel)).eqv (own_dif A B).symm
theorem own_abs (A B : Int) : (if (A : Rat) / 1024 - (B : Rat) / 1024 < 0 then -((A : Rat) / 1024 - (B : Rat) / 1024) else (A : Rat) / 1024 - (B : Rat) / 1024) = (((A - B).natAbs : Int) : Rat) / 1024 := by
  rw [own_dif]
  by_cases h : A - B < 0
  · have h1 : (((A - B) : Int) : Rat) < 0 := by exact_mod_cast h
    have h2 : (((A - B) : Int) : Rat) / 1024 < 0 := by grind
    rw [if_pos h2]
    have : ((A - B).natAbs : Int) = -(A - B) := by omega
    rw [this, Rat.intCast_neg]; grind
  · have h1 : ¬ (((A - B) : Int) : Rat) < 0 := by
      intro q; apply h; exact_mod_cast q
    have h2 : ¬ (((A - B) : Int) : Rat) / 1024 < 0 := by grind
    rw [if_neg h2]
    have : ((A - B).natAbs : Int) = (A - B) := by omega
    rw [this]
theorem own_rng {n : Int} {D : Rat} {M : Int} (h0 : 0 ≤ n) (h1 : n ≤ M) (hD : D = (M : Rat)) (hM : 0 < M) : ¬ ((n : Rat) / D < 0) ∧ ¬ (1 < (n : Rat) / D) := by
  have k0 : (0 : Rat) ≤ (n : Rat) := by exact_mod_cast h0
  have k1 : (n : Rat) ≤ (M : Rat) := by exact_mod_cast h1
  have k2 : (0 : Rat) < (M : Rat) := by exact_mod_cast hM
  subst hD
  have e : (n : Rat) = (n : Rat) / (M : Rat) * (M : Rat) := by grind
  generalize hq : (n : Rat) / (M : Rat) = Q at e ⊢
  constructor
  · intro q
    have : 0 < -Q := by grind
    have := Rat.mul_pos this k2
    grind
  · intro q
    have : 0 < Q - 1 := by grind
    have := Rat.mul_pos this k2
    grind
end
theorem own_exP {a b : Int32} (hA : 0 ≤ a.toInt ∧ a.toInt ≤ 1024) (hB : 0 ≤ b.toInt ∧ b.toInt ≤ 1024) : ((1048576 : Int32) - a * b).toInt = 1048576 - a.toInt * b.toInt := by
  have ab := own_ab hA hB
  have e1 : (1048576 : Int32).toInt = 1048576 := rfl
  have m : (a * b).toInt = a.toInt * b.toInt := by
    rw [Int32.toInt_mul, Int.bmod_eq_of_le] <;> omega
  rw [Int32.toInt_sub, m, e1, Int.bmod_eq_of_le] <;> omega
theorem own_exD {a b : Int32} (hA : 0 ≤ a.toInt ∧ a.toInt ≤ 1024) (hB : 0 ≤ b.toInt ∧ b.toInt ≤ 1024) : (a - b).toInt = a.toInt - b.toInt := by
  rw [Int32.toInt_sub, Int.bmod_eq_of_le] <;> omega
theorem own_natL {a b : Int32} (h : a < b) : ((a.toInt - b.toInt).natAbs : Int) = b.toInt - a.toInt := by
  rw [Int32.lt_iff_toInt_lt] at h; omega
theorem own_natG {a b : Int32} (h : ¬ a < b) : ((a.toInt - b.toInt).natAbs : Int) = a.toInt - b.toInt := by
  rw [Int32.lt_iff_toInt_lt] at h; omega
theorem own_ne_ord {Z : State} {args : Array Value} {t u : Term} {a b : Addr} {C n d : String} {x y : Int32} (ht : t.eval args Z none [] Z = some (.ref a)) (hu : u.eval args Z none [] Z = some (.ref b)) (h1 : (Cond.eq (Term.field t C n d) (Term.int x)).value args Z none Z [] = some true) (h2 : (Cond.eq (Term.field u C n d) (Term.int y)).value args Z none Z [] = some true) (hxy : x ≠ y) : a ≠ b := by
  intro e
  subst e
  have e : (Term.field t C n d).eval args Z none [] Z = (Term.field u C n d).eval args Z none [] Z := by simp only [Term.eval, ht, hu]
  cases q : (Term.field u C n d).eval args Z none [] Z with
  | none => simp [Cond.value, q] at h2
  | some v =>
    rw [q] at e
    have e1 : v = .int x := by
      cases v <;> simp [Cond.value, e, Term.int_eval] at h1
      rw [h1]
    have e2 : v = .int y := by
      cases v <;> simp [Cond.value, q, Term.int_eval] at h2
      rw [h2]
    cases e1.symm.trans e2
    exact hxy rfl
theorem own_arvI {Z : State} {args : Array Value} {t : Term} {C : String} {N : Int32} (tab : List Int32) (hx : (Cond.arrayOf t .int).before args Z = true) (he : (Cond.exactly t C).before args Z = true) (hl : (Cond.eq (Term.length t) (Term.int N)).before args Z = true) (hN : N.toNatClampNeg = tab.length) (hN0 : ¬ N < 0) (hb : tab.length < 2147483648) (hE : ∀ i, i < tab.length → (Cond.eq (Term.elem t (Term.int (Int32.ofNat i))) (Term.int (tab.getD i 0))).before args Z = true) :
    ∃ a k, t.eval args Z none [] Z = some (.ref a) ∧ Arv Z Z.heap a k .int N (tab.map Value.int) (.int 0) ∧ Exa Z Z.heap a C := by
  obtain ⟨a, c', cell, k, e1, e2, e3, e4, e5, e6, e7⟩ := Cond.exactly_spec he
  obtain ⟨c, A⟩ := Arr.start e1 (Cond.before_iff.mp hx)
  have hv := Cond.before_iff.mp hl
  have hz : c.slots.size = N.toNatClampNeg := by
    cases q : (Term.length t).eval args Z none [] Z with
    | none => simp [Cond.value, q] at hv
    | some v =>
      obtain ⟨a', c2, h1, h2, h3, h4⟩ := length_spec q
      cases e1.symm.trans h1
      have hc : c2 = c := Option.some.inj (h2.symm.trans (IntBox.arrayAt_of A.1 A.2.1 A.2.2))
      subst hc h4
      rw [Cond.eq_ints q (Term.int_eval N)] at hv
      have h5 := of_decide_eq_true (Option.some.inj hv)
      rw [← h5]
      have h6 : (c2.slots.size.toInt32).toInt = c2.slots.size := Int32.toInt_ofNat_of_lt h3
      rw [Int32.toNatClampNeg, h6]; rfl
  have hg : ∀ i, i < c.slots.size → c.slots[i]? = some (.int (tab.getD i 0)) := by
    intro i hi
    have hi' : i < tab.length := by rw [← hN, ← hz]; exact hi
    have he := Cond.before_iff.mp (hE i hi')
    have hn0 : ¬ Int32.ofNat i < 0 := fun q => by
      rw [Int32.lt_iff_toInt_lt, Int32.toInt_ofNat_of_lt (by omega)] at q
      have e0 : (0 : Int32).toInt = 0 := rfl
      omega
    have hcl : (Int32.ofNat i).toNatClampNeg = i := by rw [Int32.toNatClampNeg, Int32.toInt_ofNat_of_lt (by omega)]; rfl
    have ev : (Term.elem t (Term.int (Int32.ofNat i))).eval args Z none [] Z = c.slots[i]? := by
      simp only [Term.eval, e1, Option.bind_eq_bind, Option.bind_some, hn0, if_false, IntBox.arrayAt_of A.1 A.2.1 A.2.2, hcl]
    cases q : c.slots[i]? with
    | none => rw [q] at ev; simp [Cond.value, ev] at he
    | some v =>
      rw [q] at ev
      cases v <;> simp [Cond.value, ev, Term.int_eval] at he
      rw [he]
      simp [List.getD_eq_getElem?_getD]
  have hget : ∀ i, i < c.slots.size → (tab.map Value.int).getD i (.int 0) = .int (tab.getD i 0) := by
    intro i hi
    have hi' : i < tab.length := by rw [← hN, ← hz]; exact hi
    simp [List.getD_eq_getElem?_getD, hi']
  exact ⟨a, c.cls, e1, ⟨c, A, rfl, hz, hN0, fun i hi => by rw [hg i hi, hget i hi], fun i hi => by rw [hget i hi]; rfl⟩, Exa.start e1 (Cond.before_iff.mp he)⟩
theorem own_fldI {Z : State} {args : Array Value} {t : Term} {a : Addr} {C n d : String} {x : Int32} (ht : t.eval args Z none [] Z = some (.ref a)) (h : (Cond.eq (Term.field t C n d) (Term.int x)).value args Z none Z [] = some true) : Fld Z Z.heap a C n d (.int x) := by
  have e := fld_at (C := C) (n := n) (dd := d) ht
  cases q : (Term.field t C n d).eval args Z none [] Z with
  | none => simp [Cond.value, q] at h
  | some v =>
    cases v <;> simp [Cond.value, q, Term.int_eval] at h
    subst h
    exact Fld.start (e.symm.trans q)

set_option maxRecDepth 65536 in
set_option maxHeartbeats 40000000 in
theorem c_ord0 {l : Launch} {Z : State} {a0 : Array Value} (hw : W a0 Z) (fo : Addr) (h0 : Heap) (Fo : Fld Z h0 fo "java/lang/Enum" "ordinal" "I" (.int (0 : Int32))) :
    Con l Z (⟨"java/lang/Enum", "ordinal", "()I"⟩ : MethodName) jdk_37_method_2_code 1 (some .int) ({ frames := 0, cells := 0, slots := 0, locals := 0 } : Room) #[(.ref fo)] h0 (fun v h' => v = some (.int (0 : Int32)) ∧ h' = h0) := by
  have hpn : plainName "java/lang/Enum" = true := by first | (simp [plainName, overriddenIn]; done) | decide +kernel
  refine Con.intro (plainFor_of_name hpn) ?_
  intro p e s m below meth c T X
  refine Goes.cast (g' := mkF m 0 #[.val (.ref fo)] []) (by first | (simp [entryFrame, mkF, argsToLocals, Value.category]; done) | rfl) ?_
  refine o_aloadN X d_jdk_37_method_2_0 rfl rfl (q := 1) rfl ?_
  refine o_getF X Fo (host := "") (Or.inl (w17 hw)) Via.refl d_jdk_37_method_2_1 (q := 4) rfl ?_
  intro T1 X1
  exact o_retI X1 d_jdk_37_method_2_4 ⟨rfl, rfl⟩ (by decide) (by decide)
set_option maxRecDepth 65536 in
set_option maxHeartbeats 40000000 in
theorem c_ord1 {l : Launch} {Z : State} {a0 : Array Value} (hw : W a0 Z) (fo : Addr) (h0 : Heap) (Fo : Fld Z h0 fo "java/lang/Enum" "ordinal" "I" (.int (1 : Int32))) :
    Con l Z (⟨"java/lang/Enum", "ordinal", "()I"⟩ : MethodName) jdk_37_method_2_code 1 (some .int) ({ frames := 0, cells := 0, slots := 0, locals := 0 } : Room) #[(.ref fo)] h0 (fun v h' => v = some (.int (1 : Int32)) ∧ h' = h0) := by
  have hpn : plainName "java/lang/Enum" = true := by first | (simp [plainName, overriddenIn]; done) | decide +kernel
  refine Con.intro (plainFor_of_name hpn) ?_
  intro p e s m below meth c T X
  refine Goes.cast (g' := mkF m 0 #[.val (.ref fo)] []) (by first | (simp [entryFrame, mkF, argsToLocals, Value.category]; done) | rfl) ?_
  refine o_aloadN X d_jdk_37_method_2_0 rfl rfl (q := 1) rfl ?_
  refine o_getF X Fo (host := "") (Or.inl (w17 hw)) Via.refl d_jdk_37_method_2_1 (q := 4) rfl ?_
  intro T1 X1
  exact o_retI X1 d_jdk_37_method_2_4 ⟨rfl, rfl⟩ (by decide) (by decide)
set_option maxRecDepth 65536 in
set_option maxHeartbeats 40000000 in
theorem c_gap0 {l : Launch} {Z : State} {a0 : Array Value} (hw : W a0 Z) (fo : Addr) (dx dy : UInt64) (A B : Int) (h0 : Heap) (Eo : Exa Z h0 fo "com/example/refinement/refinement/learning/DistanceForm") (Fo : Fld Z h0 fo "java/lang/Enum" "ordinal" "I" (.int (0 : Int32))) (hA : 0 ≤ A ∧ A ≤ 1024) (hB : 0 ≤ B ∧ B ≤ 1024) (hx : IsV dx ((A : Rat) / 1024)) (hy : IsV dy ((B : Rat) / 1024)) :
    Con l Z (⟨"com/example/refinement/refinement/learning/DistanceForm", "gap", "(DD)D"⟩ : MethodName) prog_8_method_4_code 5 (some .double) ({ frames := 1, cells := 0, slots := 0, locals := 13 } : Room) #[(.ref fo), (.double dx), (.double dy)] h0 (fun v h' => ∃ g : UInt64, v = some (.double g) ∧ IsV g ((((A - B).natAbs : Int) : Rat) / 1024) ∧ h' = h0) := by
  have hpn : plainName "com/example/refinement/refinement/learning/DistanceForm" = true := by first | (simp [plainName, overriddenIn]; done) | decide +kernel
  refine Con.intro (plainFor_of_name hpn) ?_
  intro p e s m below meth c T X
  refine Goes.cast (g' := mkF m 0 #[.val (.ref fo), .val (.double dx), .second, .val (.double dy), .second] []) (by first | (simp [entryFrame, mkF, argsToLocals, Value.category]; done) | rfl) ?_
  refine o_aloadN X d_prog_8_method_4_0 rfl rfl (q := 1) rfl ?_
  refine o_virtUp X [] (owner := "java/lang/Enum") (z' := (⟨"com/example/refinement/refinement/learning/DistanceForm", "ordinal", "()I"⟩ : MethodName)) (y' := (⟨"java/lang/Enum", "ordinal", "()I"⟩ : MethodName)) Eo (c_ord0 hw fo _ Fo) (w10 hw) (w11 hw) (w12 hw) (by decide) (w14 hw) (w13 hw) (w16 hw) (w15 hw) (by decide) d_prog_8_method_4_1 (rest := []) rfl rfl (lenOf pd0 rfl) rfl (by decide) (Nat.le_of_ble_eq_true rfl) (by decide) (by decide) (q := 4) rfl ?_
  intro v1 T1 h1 l1 X1 q1
  obtain ⟨rfl, e1⟩ := q1
  have e1 := e1.symm
  subst e1
  show Goes p e below _ T1 (mkF m 4 #[.val (.ref fo), .val (.double dx), .second, .val (.double dy), .second] [(.int (0 : Int32))])
  refine o_lsw X1 d_prog_8_method_4_4 (by decide) (a := 0) (i := 38) (by decide) (by decide) (q := 42) (by decide) ?_
  refine o_dloadN X1 d_prog_8_method_4_42 rfl (q := 43) rfl ?_
  refine o_dloadN X1 d_prog_8_method_4_43 rfl (q := 44) rfl ?_
  obtain ⟨d2, hd2⟩ : ∃ z : UInt64, FP.dsub dx dy = z := ⟨_, rfl⟩
  have iv2 : IsV d2 (((A : Rat) / 1024) - ((B : Rat) / 1024)) := hd2 ▸ (IsV.sub hx hy (own_rD hA hB))
  refine o_dsub X1 d_prog_8_method_4_44 (hd2.symm ▸ iv2.nn) hd2 (q := 45) rfl ?_
  obtain ⟨d3, hd3⟩ : ∃ z : UInt64, (d2 &&& 0x7fffffffffffffff) = z := ⟨_, rfl⟩
  have iv3 : IsV d3 ((((A - B).natAbs : Int) : Rat) / 1024) := hd3 ▸ ((IsV.abs iv2).eqv (own_abs A B))
  refine o_absD X1 (w19 hw) (w20 hw) (w21 hw) (w22 hw) iv2.nn hd3 d_prog_8_method_4_45 rfl (by decide) (Nat.le_of_ble_eq_true rfl) (by decide) (by decide) (q := 48) rfl ?_
  intro T3 X3
  refine o_goto X3 d_prog_8_method_4_48 (by decide) (q := 56) (by decide) ?_
  exact o_retD X3 d_prog_8_method_4_56 ⟨d3, rfl, iv3, rfl⟩ (by decide) (by decide)
set_option maxRecDepth 65536 in
set_option maxHeartbeats 40000000 in
theorem c_gap1 {l : Launch} {Z : State} {a0 : Array Value} (hw : W a0 Z) (fo : Addr) (dx dy : UInt64) (A B : Int) (h0 : Heap) (Eo : Exa Z h0 fo "com/example/refinement/refinement/learning/DistanceForm") (Fo : Fld Z h0 fo "java/lang/Enum" "ordinal" "I" (.int (1 : Int32))) (hA : 0 ≤ A ∧ A ≤ 1024) (hB : 0 ≤ B ∧ B ≤ 1024) (hx : IsV dx ((A : Rat) / 1024)) (hy : IsV dy ((B : Rat) / 1024)) :
    Con l Z (⟨"com/example/refinement/refinement/learning/DistanceForm", "gap", "(DD)D"⟩ : MethodName) prog_8_method_4_code 5 (some .double) ({ frames := 1, cells := 0, slots := 0, locals := 12 } : Room) #[(.ref fo), (.double dx), (.double dy)] h0 (fun v h' => ∃ g : UInt64, v = some (.double g) ∧ IsV g (((1048576 - A * B : Int) : Rat) / 1048576) ∧ h' = h0) := by
  have hpn : plainName "com/example/refinement/refinement/learning/DistanceForm" = true := by first | (simp [plainName, overriddenIn]; done) | decide +kernel
  refine Con.intro (plainFor_of_name hpn) ?_
  intro p e s m below meth c T X
  refine Goes.cast (g' := mkF m 0 #[.val (.ref fo), .val (.double dx), .second, .val (.double dy), .second] []) (by first | (simp [entryFrame, mkF, argsToLocals, Value.category]; done) | rfl) ?_
  refine o_aloadN X d_prog_8_method_4_0 rfl rfl (q := 1) rfl ?_
  refine o_virtUp X [] (owner := "java/lang/Enum") (z' := (⟨"com/example/refinement/refinement/learning/DistanceForm", "ordinal", "()I"⟩ : MethodName)) (y' := (⟨"java/lang/Enum", "ordinal", "()I"⟩ : MethodName)) Eo (c_ord1 hw fo _ Fo) (w10 hw) (w11 hw) (w12 hw) (by decide) (w14 hw) (w13 hw) (w16 hw) (w15 hw) (by decide) d_prog_8_method_4_1 (rest := []) rfl rfl (lenOf pd0 rfl) rfl (by decide) (Nat.le_of_ble_eq_true rfl) (by decide) (by decide) (q := 4) rfl ?_
  intro v1 T1 h1 l1 X1 q1
  obtain ⟨rfl, e1⟩ := q1
  have e1 := e1.symm
  subst e1
  show Goes p e below _ T1 (mkF m 4 #[.val (.ref fo), .val (.double dx), .second, .val (.double dy), .second] [(.int (1 : Int32))])
  refine o_lsw X1 d_prog_8_method_4_4 (by decide) (a := 1) (i := 47) (by decide) (by decide) (q := 51) (by decide) ?_
  refine o_dconst1 X1 d_prog_8_method_4_51 (q := 52) rfl ?_
  refine o_dloadN X1 d_prog_8_method_4_52 rfl (q := 53) rfl ?_
  refine o_dloadN X1 d_prog_8_method_4_53 rfl (q := 54) rfl ?_
  obtain ⟨d2, hd2⟩ : ∃ z : UInt64, FP.dmul dx dy = z := ⟨_, rfl⟩
  have iv2 : IsV d2 (((A : Rat) / 1024) * ((B : Rat) / 1024)) := hd2 ▸ (IsV.mul hx hy (own_rP hA hB))
  refine o_dmul X1 d_prog_8_method_4_54 (hd2.symm ▸ iv2.nn) hd2 (q := 55) rfl ?_
  obtain ⟨d3, hd3⟩ : ∃ z : UInt64, FP.dsub FP.dconst1 d2 = z := ⟨_, rfl⟩
  have iv3 : IsV d3 (((1048576 - A * B : Int) : Rat) / 1048576) := hd3 ▸ ((IsV.sub IsV.one iv2 (own_r1 hA hB)).eqv (own_one A B))
  refine o_dsub X1 d_prog_8_method_4_55 (hd3.symm ▸ iv3.nn) hd3 (q := 56) rfl ?_
  exact o_retD X1 d_prog_8_method_4_56 ⟨d3, rfl, iv3, rfl⟩ (by decide) (by decide)
set_option maxRecDepth 65536 in
set_option maxHeartbeats 40000000 in
theorem c_law {l : Launch} {Z : State} {a0 : Array Value} (hw : W a0 Z) (p0 p1 p2 : Int32) {pr di : Addr} (SPR : Sta Z Z.heap "com/example/refinement/refinement/learning/DistanceForm" "PRODUCT" "Lcom/example/refinement/refinement/learning/DistanceForm;" (.ref pr)) (EPR : Exa Z Z.heap pr "com/example/refinement/refinement/learning/DistanceForm") (FPR : Fld Z Z.heap pr "java/lang/Enum" "ordinal" "I" (.int (1 : Int32))) (SDI : Sta Z Z.heap "com/example/refinement/refinement/learning/DistanceForm" "DIFFERENCE" "Lcom/example/refinement/refinement/learning/DistanceForm;" (.ref di)) (EDI : Exa Z Z.heap di "com/example/refinement/refinement/learning/DistanceForm") (FDI : Fld Z Z.heap di "java/lang/Enum" "ordinal" "I" (.int (0 : Int32))) :
    Con l Z x code maxLocals ret room_1 #[(.int p0), (.int p1), (.int p2)] Z.heap (fun v h' => v = some (.int 1)) := by
  have hpn : plainName "com/example/refinement/refinement/learning/DistanceFormGapPinLaw" = true := by first | (simp [plainName, overriddenIn]; done) | decide +kernel
  refine Con.intro (plainFor_of_name hpn) ?_
  intro p e s m below meth c T X
  refine Goes.cast (g' := mkF m 0 #[.val (.int p0), .val (.int p1), .val (.int p2), .unset, .unset, .unset, .unset, .unset, .unset, .unset, .unset, .unset, .unset, .unset, .unset, .unset] []) (by first | (simp [entryFrame, mkF, argsToLocals, Value.category, maxLocals]; done) | rfl) ?_
  refine o_iloadN X at_0 rfl (q := 1) rfl ?_
  refine o_ldcI X (w0 hw) at_1 (q := 3) rfl ?_
  refine o_iand X at_3 (w := (p0 &&& (2147483647 : Int32))) rfl (q := 4) rfl ?_
  refine o_sipush X at_4 (w := 1025) rfl (q := 7) rfl ?_
  refine o_irem X at_7 (by decide) (w := ((p0 &&& (2147483647 : Int32)) % (1025 : Int32))) rfl (q := 8) rfl ?_
  obtain ⟨ka, h_ka⟩ : ∃ z : Int32, ((p0 &&& (2147483647 : Int32)) % (1025 : Int32)) = z := ⟨_, rfl⟩
  refine o_istoreN X at_8 h_ka (L' := #[.val (.int p0), .val (.int p1), .val (.int p2), .val (.int ka), .unset, .unset, .unset, .unset, .unset, .unset, .unset, .unset, .unset, .unset, .unset, .unset]) rfl (q := 9) rfl ?_
  refine o_iloadN X at_9 rfl (q := 10) rfl ?_
  refine o_ldcI X (w0 hw) at_10 (q := 12) rfl ?_
  refine o_iand X at_12 (w := (p1 &&& (2147483647 : Int32))) rfl (q := 13) rfl ?_
  refine o_sipush X at_13 (w := 1025) rfl (q := 16) rfl ?_
  refine o_irem X at_16 (by decide) (w := ((p1 &&& (2147483647 : Int32)) % (1025 : Int32))) rfl (q := 17) rfl ?_
  obtain ⟨kb, h_kb⟩ : ∃ z : Int32, ((p1 &&& (2147483647 : Int32)) % (1025 : Int32)) = z := ⟨_, rfl⟩
  refine o_istore X at_17 h_kb (L' := #[.val (.int p0), .val (.int p1), .val (.int p2), .val (.int ka), .val (.int kb), .unset, .unset, .unset, .unset, .unset, .unset, .unset, .unset, .unset, .unset, .unset]) rfl (q := 19) rfl ?_
  refine o_iloadN X at_19 rfl (q := 20) rfl ?_
  obtain ⟨d1, hd1⟩ : ∃ z : UInt64, FP.i2d ka = z := ⟨_, rfl⟩
  have iv1 : IsV d1 ((ka).toInt : Rat) := (hd1 ▸ IsV.i2d _)
  refine o_i2d X at_20 hd1 (q := 21) rfl ?_
  have iv2 : IsV (4652218415073722368 : UInt64) (1024 : Rat) := ⟨false, 4503599627370496, (-42), by decide +kernel, by decide +kernel⟩
  refine o_ldcD X (w1 hw) at_21 (q := 24) rfl ?_
  obtain ⟨d3, hd3⟩ : ∃ z : UInt64, FP.ddiv d1 (4652218415073722368 : UInt64) = z := ⟨_, rfl⟩
  have iv3 : IsV d3 ((ka.toInt : Rat) / 1024) := hd3 ▸ (IsV.div iv1 iv2 (by decide) (own_rA (own_k h_ka)))
  refine o_ddiv X at_24 (hd3.symm ▸ iv3.nn) hd3 (q := 25) rfl ?_
  refine o_dstore X at_25 rfl (L' := #[.val (.int p0), .val (.int p1), .val (.int p2), .val (.int ka), .val (.int kb), .val (.double d3), .second, .unset, .unset, .unset, .unset, .unset, .unset, .unset, .unset, .unset]) rfl (q := 27) rfl ?_
  refine o_iload X at_27 rfl (q := 29) rfl ?_
  obtain ⟨d4, hd4⟩ : ∃ z : UInt64, FP.i2d kb = z := ⟨_, rfl⟩
  have iv4 : IsV d4 ((kb).toInt : Rat) := (hd4 ▸ IsV.i2d _)
  refine o_i2d X at_29 hd4 (q := 30) rfl ?_
  have iv5 : IsV (4652218415073722368 : UInt64) (1024 : Rat) := ⟨false, 4503599627370496, (-42), by decide +kernel, by decide +kernel⟩
  refine o_ldcD X (w1 hw) at_30 (q := 33) rfl ?_
  obtain ⟨d6, hd6⟩ : ∃ z : UInt64, FP.ddiv d4 (4652218415073722368 : UInt64) = z := ⟨_, rfl⟩
  have iv6 : IsV d6 ((kb.toInt : Rat) / 1024) := hd6 ▸ (IsV.div iv4 iv5 (by decide) (own_rA (own_k h_kb)))
  refine o_ddiv X at_33 (hd6.symm ▸ iv6.nn) hd6 (q := 34) rfl ?_
  refine o_dstore X at_34 rfl (L' := #[.val (.int p0), .val (.int p1), .val (.int p2), .val (.int ka), .val (.int kb), .val (.double d3), .second, .val (.double d6), .second, .unset, .unset, .unset, .unset, .unset, .unset, .unset]) rfl (q := 36) rfl ?_
  refine o_iloadN X at_36 rfl (q := 37) rfl ?_
  refine o_iconst X at_37 (w := 1) rfl (q := 38) rfl ?_
  refine o_iand X at_38 (w := (p2 &&& (1 : Int32))) rfl (q := 39) rfl ?_
  by_cases hc39 : (p2 &&& (1 : Int32)) = (0 : Int32)
  · refine o_ifY X at_39 (teq hc39).1 (by decide) (q := 46) (by decide) ?_
    refine o_iconst X at_46 (w := 0) rfl (q := 47) rfl ?_
    refine o_istore X at_47 rfl (L' := #[.val (.int p0), .val (.int p1), .val (.int p2), .val (.int ka), .val (.int kb), .val (.double d3), .second, .val (.double d6), .second, .val (.int (0 : Int32)), .unset, .unset, .unset, .unset, .unset, .unset]) rfl (q := 49) rfl ?_
    refine o_iload X at_49 rfl (q := 51) rfl ?_
    refine o_ifY X at_51 (by decide) (by decide) (q := 60) (by decide) ?_
    refine o_getS X SDI (host := "") (Or.inl (w2 hw)) Via.refl at_60 (q := 63) rfl ?_
    intro T7 X7
    refine o_astore X7 at_63 rfl (L' := #[.val (.int p0), .val (.int p1), .val (.int p2), .val (.int ka), .val (.int kb), .val (.double d3), .second, .val (.double d6), .second, .val (.int (0 : Int32)), .val (.ref di), .unset, .unset, .unset, .unset, .unset]) rfl (q := 65) rfl ?_
    refine o_aload X7 at_65 rfl rfl (q := 67) rfl ?_
    refine o_dload X7 at_67 rfl (q := 69) rfl ?_
    refine o_dload X7 at_69 rfl (q := 71) rfl ?_
    refine o_virt X7 [(.double d3), (.double d6)] (y' := (⟨"com/example/refinement/refinement/learning/DistanceForm", "gap", "(DD)D"⟩ : MethodName)) (EDI.ext X7.ext) (c_gap0 hw di d3 d6 ka.toInt kb.toInt _ (EDI.ext X7.ext) (FDI.ext X7.ext) (own_k h_ka) (own_k h_kb) iv3 iv6) (w5 hw) (w6 hw) (w8 hw) (w7 hw) (w9 hw) (w3 hw) (by decide) at_71 (rest := []) rfl rfl (lenOf pd1 rfl) rfl (by decide) (Nat.le_of_ble_eq_true rfl) (by decide) (by decide) (q := 74) rfl ?_
    intro v8 T8 h8 l8 X8 q8
    obtain ⟨g8, rfl, ig8, e8⟩ := q8
    have e8 := e8.symm
    subst e8
    show Goes p e below _ T8 (mkF m 74 #[.val (.int p0), .val (.int p1), .val (.int p2), .val (.int ka), .val (.int kb), .val (.double d3), .second, .val (.double d6), .second, .val (.int (0 : Int32)), .val (.ref di), .unset, .unset, .unset, .unset, .unset] [(.double g8)])
    refine o_dstore X8 at_74 rfl (L' := #[.val (.int p0), .val (.int p1), .val (.int p2), .val (.int ka), .val (.int kb), .val (.double d3), .second, .val (.double d6), .second, .val (.int (0 : Int32)), .val (.ref di), .val (.double g8), .second, .unset, .unset, .unset]) rfl (q := 76) rfl ?_
    refine o_iload X8 at_76 rfl (q := 78) rfl ?_
    refine o_ifY X8 at_78 (by decide) (by decide) (q := 98) (by decide) ?_
    refine o_iloadN X8 at_98 rfl (q := 99) rfl ?_
    refine o_iload X8 at_99 rfl (q := 101) rfl ?_
    by_cases hc101 : ka < kb
    · refine o_icmpY X8 at_101 (tlt hc101).1 (by decide) (q := 111) (by decide) ?_
      refine o_iload X8 at_111 rfl (q := 113) rfl ?_
      refine o_iloadN X8 at_113 rfl (q := 114) rfl ?_
      refine o_isub X8 at_114 (w := (kb - ka)) rfl (q := 115) rfl ?_
      refine o_istore X8 at_115 rfl (L' := #[.val (.int p0), .val (.int p1), .val (.int p2), .val (.int ka), .val (.int kb), .val (.double d3), .second, .val (.double d6), .second, .val (.int (0 : Int32)), .val (.ref di), .val (.double g8), .second, .unset, .unset, .val (.int (kb - ka))]) rfl (q := 117) rfl ?_
      refine o_iload X8 at_117 rfl (q := 119) rfl ?_
      obtain ⟨d9, hd9⟩ : ∃ z : UInt64, FP.i2d (kb - ka) = z := ⟨_, rfl⟩
      have iv9 : IsV d9 (((kb - ka)).toInt : Rat) := (hd9 ▸ IsV.i2d _)
      refine o_i2d X8 at_119 hd9 (q := 120) rfl ?_
      have iv10 : IsV (4652218415073722368 : UInt64) (1024 : Rat) := ⟨false, 4503599627370496, (-42), by decide +kernel, by decide +kernel⟩
      refine o_ldcD X8 (w1 hw) at_120 (q := 123) rfl ?_
      obtain ⟨d11, hd11⟩ : ∃ z : UInt64, FP.ddiv d9 (4652218415073722368 : UInt64) = z := ⟨_, rfl⟩
      have iv11 : IsV d11 ((((ka.toInt - kb.toInt).natAbs : Int) : Rat) / 1024) := hd11 ▸ (IsV.div (IsV.eqv iv9 ((congrArg (fun z : Int => (z : Rat)) (own_exD (own_k h_kb) (own_k h_ka))).trans (congrArg (fun z : Int => (z : Rat)) (own_natL hc101).symm))) iv10 (by decide) (Rep.dy (-10) (by have := (own_k h_ka); have := (own_k h_kb); omega) (by decide) (by decide) (by decide +kernel)))
      refine o_ddiv X8 at_123 (hd11.symm ▸ iv11.nn) hd11 (q := 124) rfl ?_
      refine o_dstore X8 at_124 rfl (L' := #[.val (.int p0), .val (.int p1), .val (.int p2), .val (.int ka), .val (.int kb), .val (.double d3), .second, .val (.double d6), .second, .val (.int (0 : Int32)), .val (.ref di), .val (.double g8), .second, .val (.double d11), .second, .val (.int (kb - ka))]) rfl (q := 126) rfl ?_
      refine o_dload X8 at_126 rfl (q := 128) rfl ?_
      refine o_dconst0 X8 at_128 (q := 129) rfl ?_
      refine o_dcmp X8 at_129 (w := (cmpR ((((ka.toInt - kb.toInt).natAbs : Int) : Rat) / 1024) (0 : Rat))) (IsV.cmpV ig8 IsV.zero _) (q := 130) rfl ?_
      refine o_ifN X8 at_130 (flt (fun q => (own_rng (by omega) (by have := (own_k h_ka); have := (own_k h_kb); omega) (M := 1024) rfl (by decide)).1 ((cmpR_lt _ _).mp q))).1 (q := 133) rfl ?_
      refine o_dconst1 X8 at_133 (q := 134) rfl ?_
      refine o_dload X8 at_134 rfl (q := 136) rfl ?_
      refine o_dcmp X8 at_136 (w := (cmpR (1 : Rat) ((((ka.toInt - kb.toInt).natAbs : Int) : Rat) / 1024))) (IsV.cmpV IsV.one ig8 _) (q := 137) rfl ?_
      refine o_ifN X8 at_137 (flt (fun q => (own_rng (by omega) (by have := (own_k h_ka); have := (own_k h_kb); omega) (M := 1024) rfl (by decide)).2 ((cmpR_lt _ _).mp q))).1 (q := 140) rfl ?_
      refine o_iconst X8 at_140 (w := 1) rfl (q := 141) rfl ?_
      refine o_goto X8 at_141 (by decide) (q := 145) (by decide) ?_
      refine o_istore X8 at_145 rfl (L' := #[.val (.int p0), .val (.int p1), .val (.int p2), .val (.int ka), .val (.int kb), .val (.double d3), .second, .val (.double d6), .second, .val (.int (0 : Int32)), .val (.ref di), .val (.double g8), .second, .val (.double d11), .second, .val (.int (1 : Int32))]) rfl (q := 147) rfl ?_
      refine o_dload X8 at_147 rfl (q := 149) rfl ?_
      refine o_dload X8 at_149 rfl (q := 151) rfl ?_
      refine o_dcmp X8 at_151 (w := (cmpR ((((ka.toInt - kb.toInt).natAbs : Int) : Rat) / 1024) ((((ka.toInt - kb.toInt).natAbs : Int) : Rat) / 1024))) (IsV.cmpV ig8 iv11 _) (q := 152) rfl ?_
      refine o_ifN X8 at_152 (teq ((cmpR_eq _ _).mpr rfl)).2 (q := 155) rfl ?_
      refine o_iload X8 at_155 rfl (q := 157) rfl ?_
      refine o_ifN X8 at_157 (by decide) (q := 160) rfl ?_
      refine o_iconst X8 at_160 (w := 1) rfl (q := 161) rfl ?_
      refine o_goto X8 at_161 (by decide) (q := 165) (by decide) ?_
      exact o_retN X8 at_165 (by simp) rfl (by decide) (by decide)
    · refine o_icmpN X8 at_101 (flt hc101).1 (q := 104) rfl ?_
      refine o_iloadN X8 at_104 rfl (q := 105) rfl ?_
      refine o_iload X8 at_105 rfl (q := 107) rfl ?_
      refine o_isub X8 at_107 (w := (ka - kb)) rfl (q := 108) rfl ?_
      refine o_goto X8 at_108 (by decide) (q := 115) (by decide) ?_
      refine o_istore X8 at_115 rfl (L' := #[.val (.int p0), .val (.int p1), .val (.int p2), .val (.int ka), .val (.int kb), .val (.double d3), .second, .val (.double d6), .second, .val (.int (0 : Int32)), .val (.ref di), .val (.double g8), .second, .unset, .unset, .val (.int (ka - kb))]) rfl (q := 117) rfl ?_
      refine o_iload X8 at_117 rfl (q := 119) rfl ?_
      obtain ⟨d12, hd12⟩ : ∃ z : UInt64, FP.i2d (ka - kb) = z := ⟨_, rfl⟩
      have iv12 : IsV d12 (((ka - kb)).toInt : Rat) := (hd12 ▸ IsV.i2d _)
      refine o_i2d X8 at_119 hd12 (q := 120) rfl ?_
      have iv13 : IsV (4652218415073722368 : UInt64) (1024 : Rat) := ⟨false, 4503599627370496, (-42), by decide +kernel, by decide +kernel⟩
      refine o_ldcD X8 (w1 hw) at_120 (q := 123) rfl ?_
      obtain ⟨d14, hd14⟩ : ∃ z : UInt64, FP.ddiv d12 (4652218415073722368 : UInt64) = z := ⟨_, rfl⟩
      have iv14 : IsV d14 ((((ka.toInt - kb.toInt).natAbs : Int) : Rat) / 1024) := hd14 ▸ (IsV.div (IsV.eqv iv12 ((congrArg (fun z : Int => (z : Rat)) (own_exD (own_k h_ka) (own_k h_kb))).trans (congrArg (fun z : Int => (z : Rat)) (own_natG hc101).symm))) iv13 (by decide) (Rep.dy (-10) (by have := (own_k h_ka); have := (own_k h_kb); omega) (by decide) (by decide) (by decide +kernel)))
      refine o_ddiv X8 at_123 (hd14.symm ▸ iv14.nn) hd14 (q := 124) rfl ?_
      refine o_dstore X8 at_124 rfl (L' := #[.val (.int p0), .val (.int p1), .val (.int p2), .val (.int ka), .val (.int kb), .val (.double d3), .second, .val (.double d6), .second, .val (.int (0 : Int32)), .val (.ref di), .val (.double g8), .second, .val (.double d14), .second, .val (.int (ka - kb))]) rfl (q := 126) rfl ?_
      refine o_dload X8 at_126 rfl (q := 128) rfl ?_
      refine o_dconst0 X8 at_128 (q := 129) rfl ?_
      refine o_dcmp X8 at_129 (w := (cmpR ((((ka.toInt - kb.toInt).natAbs : Int) : Rat) / 1024) (0 : Rat))) (IsV.cmpV ig8 IsV.zero _) (q := 130) rfl ?_
      refine o_ifN X8 at_130 (flt (fun q => (own_rng (by omega) (by have := (own_k h_ka); have := (own_k h_kb); omega) (M := 1024) rfl (by decide)).1 ((cmpR_lt _ _).mp q))).1 (q := 133) rfl ?_
      refine o_dconst1 X8 at_133 (q := 134) rfl ?_
      refine o_dload X8 at_134 rfl (q := 136) rfl ?_
      refine o_dcmp X8 at_136 (w := (cmpR (1 : Rat) ((((ka.toInt - kb.toInt).natAbs : Int) : Rat) / 1024))) (IsV.cmpV IsV.one ig8 _) (q := 137) rfl ?_
      refine o_ifN X8 at_137 (flt (fun q => (own_rng (by omega) (by have := (own_k h_ka); have := (own_k h_kb); omega) (M := 1024) rfl (by decide)).2 ((cmpR_lt _ _).mp q))).1 (q := 140) rfl ?_
      refine o_iconst X8 at_140 (w := 1) rfl (q := 141) rfl ?_
      refine o_goto X8 at_141 (by decide) (q := 145) (by decide) ?_
      refine o_istore X8 at_145 rfl (L' := #[.val (.int p0), .val (.int p1), .val (.int p2), .val (.int ka), .val (.int kb), .val (.double d3), .second, .val (.double d6), .second, .val (.int (0 : Int32)), .val (.ref di), .val (.double g8), .second, .val (.double d14), .second, .val (.int (1 : Int32))]) rfl (q := 147) rfl ?_
      refine o_dload X8 at_147 rfl (q := 149) rfl ?_
      refine o_dload X8 at_149 rfl (q := 151) rfl ?_
      refine o_dcmp X8 at_151 (w := (cmpR ((((ka.toInt - kb.toInt).natAbs : Int) : Rat) / 1024) ((((ka.toInt - kb.toInt).natAbs : Int) : Rat) / 1024))) (IsV.cmpV ig8 iv14 _) (q := 152) rfl ?_
      refine o_ifN X8 at_152 (teq ((cmpR_eq _ _).mpr rfl)).2 (q := 155) rfl ?_
      refine o_iload X8 at_155 rfl (q := 157) rfl ?_
      refine o_ifN X8 at_157 (by decide) (q := 160) rfl ?_
      refine o_iconst X8 at_160 (w := 1) rfl (q := 161) rfl ?_
      refine o_goto X8 at_161 (by decide) (q := 165) (by decide) ?_
      exact o_retN X8 at_165 (by simp) rfl (by decide) (by decide)
  · refine o_ifN X at_39 (feq hc39).1 (q := 42) rfl ?_
    refine o_iconst X at_42 (w := 1) rfl (q := 43) rfl ?_
    refine o_goto X at_43 (by decide) (q := 47) (by decide) ?_
    refine o_istore X at_47 rfl (L' := #[.val (.int p0), .val (.int p1), .val (.int p2), .val (.int ka), .val (.int kb), .val (.double d3), .second, .val (.double d6), .second, .val (.int (1 : Int32)), .unset, .unset, .unset, .unset, .unset, .unset]) rfl (q := 49) rfl ?_
    refine o_iload X at_49 rfl (q := 51) rfl ?_
    refine o_ifN X at_51 (by decide) (q := 54) rfl ?_
    refine o_getS X SPR (host := "") (Or.inl (w23 hw)) Via.refl at_54 (q := 57) rfl ?_
    intro T15 X15
    refine o_goto X15 at_57 (by decide) (q := 63) (by decide) ?_
    refine o_astore X15 at_63 rfl (L' := #[.val (.int p0), .val (.int p1), .val (.int p2), .val (.int ka), .val (.int kb), .val (.double d3), .second, .val (.double d6), .second, .val (.int (1 : Int32)), .val (.ref pr), .unset, .unset, .unset, .unset, .unset]) rfl (q := 65) rfl ?_
    refine o_aload X15 at_65 rfl rfl (q := 67) rfl ?_
    refine o_dload X15 at_67 rfl (q := 69) rfl ?_
    refine o_dload X15 at_69 rfl (q := 71) rfl ?_
    refine o_virt X15 [(.double d3), (.double d6)] (y' := (⟨"com/example/refinement/refinement/learning/DistanceForm", "gap", "(DD)D"⟩ : MethodName)) (EPR.ext X15.ext) (c_gap1 hw pr d3 d6 ka.toInt kb.toInt _ (EPR.ext X15.ext) (FPR.ext X15.ext) (own_k h_ka) (own_k h_kb) iv3 iv6) (w5 hw) (w6 hw) (w8 hw) (w7 hw) (w9 hw) (w3 hw) (by decide) at_71 (rest := []) rfl rfl (lenOf pd1 rfl) rfl (by decide) (Nat.le_of_ble_eq_true rfl) (by decide) (by decide) (q := 74) rfl ?_
    intro v16 T16 h16 l16 X16 q16
    obtain ⟨g16, rfl, ig16, e16⟩ := q16
    have e16 := e16.symm
    subst e16
    show Goes p e below _ T16 (mkF m 74 #[.val (.int p0), .val (.int p1), .val (.int p2), .val (.int ka), .val (.int kb), .val (.double d3), .second, .val (.double d6), .second, .val (.int (1 : Int32)), .val (.ref pr), .unset, .unset, .unset, .unset, .unset] [(.double g16)])
    refine o_dstore X16 at_74 rfl (L' := #[.val (.int p0), .val (.int p1), .val (.int p2), .val (.int ka), .val (.int kb), .val (.double d3), .second, .val (.double d6), .second, .val (.int (1 : Int32)), .val (.ref pr), .val (.double g16), .second, .unset, .unset, .unset]) rfl (q := 76) rfl ?_
    refine o_iload X16 at_76 rfl (q := 78) rfl ?_
    refine o_ifN X16 at_78 (by decide) (q := 81) rfl ?_
    refine o_ldcI X16 (w25 hw) at_81 (q := 83) rfl ?_
    refine o_iloadN X16 at_83 rfl (q := 84) rfl ?_
    refine o_iload X16 at_84 rfl (q := 86) rfl ?_
    refine o_imul X16 at_86 (w := (ka * kb)) rfl (q := 87) rfl ?_
    refine o_isub X16 at_87 (w := ((1048576 : Int32) - (ka * kb))) rfl (q := 88) rfl ?_
    obtain ⟨d17, hd17⟩ : ∃ z : UInt64, FP.i2d ((1048576 : Int32) - (ka * kb)) = z := ⟨_, rfl⟩
    have iv17 : IsV d17 ((((1048576 : Int32) - (ka * kb))).toInt : Rat) := (hd17 ▸ IsV.i2d _)
    refine o_i2d X16 at_88 hd17 (q := 89) rfl ?_
    have iv18 : IsV (4697254411347427328 : UInt64) (1048576 : Rat) := ⟨false, 4503599627370496, (-32), by decide +kernel, by decide +kernel⟩
    refine o_ldcD X16 (w26 hw) at_89 (q := 92) rfl ?_
    obtain ⟨d19, hd19⟩ : ∃ z : UInt64, FP.ddiv d17 (4697254411347427328 : UInt64) = z := ⟨_, rfl⟩
    have iv19 : IsV d19 (((1048576 - ka.toInt * kb.toInt : Int) : Rat) / 1048576) := hd19 ▸ (IsV.div (IsV.eqv iv17 (congrArg (fun z : Int => (z : Rat)) (own_exP (own_k h_ka) (own_k h_kb)))) iv18 (by decide) (Rep.dy (-20) (by have := own_ab (own_k h_ka) (own_k h_kb); omega) (by decide) (by decide) (by decide +kernel)))
    refine o_ddiv X16 at_92 (hd19.symm ▸ iv19.nn) hd19 (q := 93) rfl ?_
    refine o_dstore X16 at_93 rfl (L' := #[.val (.int p0), .val (.int p1), .val (.int p2), .val (.int ka), .val (.int kb), .val (.double d3), .second, .val (.double d6), .second, .val (.int (1 : Int32)), .val (.ref pr), .val (.double g16), .second, .val (.double d19), .second, .unset]) rfl (q := 95) rfl ?_
    refine o_goto X16 at_95 (by decide) (q := 126) (by decide) ?_
    refine o_dload X16 at_126 rfl (q := 128) rfl ?_
    refine o_dconst0 X16 at_128 (q := 129) rfl ?_
    refine o_dcmp X16 at_129 (w := (cmpR (((1048576 - ka.toInt * kb.toInt : Int) : Rat) / 1048576) (0 : Rat))) (IsV.cmpV ig16 IsV.zero _) (q := 130) rfl ?_
    refine o_ifN X16 at_130 (flt (fun q => (own_rng (by have := own_ab (own_k h_ka) (own_k h_kb); omega) (by have := own_ab (own_k h_ka) (own_k h_kb); omega) (M := 1048576) rfl (by decide)).1 ((cmpR_lt _ _).mp q))).1 (q := 133) rfl ?_
    refine o_dconst1 X16 at_133 (q := 134) rfl ?_
    refine o_dload X16 at_134 rfl (q := 136) rfl ?_
    refine o_dcmp X16 at_136 (w := (cmpR (1 : Rat) (((1048576 - ka.toInt * kb.toInt : Int) : Rat) / 1048576))) (IsV.cmpV IsV.one ig16 _) (q := 137) rfl ?_
    refine o_ifN X16 at_137 (flt (fun q => (own_rng (by have := own_ab (own_k h_ka) (own_k h_kb); omega) (by have := own_ab (own_k h_ka) (own_k h_kb); omega) (M := 1048576) rfl (by decide)).2 ((cmpR_lt _ _).mp q))).1 (q := 140) rfl ?_
    refine o_iconst X16 at_140 (w := 1) rfl (q := 141) rfl ?_
    refine o_goto X16 at_141 (by decide) (q := 145) (by decide) ?_
    refine o_istore X16 at_145 rfl (L' := #[.val (.int p0), .val (.int p1), .val (.int p2), .val (.int ka), .val (.int kb), .val (.double d3), .second, .val (.double d6), .second, .val (.int (1 : Int32)), .val (.ref pr), .val (.double g16), .second, .val (.double d19), .second, .val (.int (1 : Int32))]) rfl (q := 147) rfl ?_
    refine o_dload X16 at_147 rfl (q := 149) rfl ?_
    refine o_dload X16 at_149 rfl (q := 151) rfl ?_
    refine o_dcmp X16 at_151 (w := (cmpR (((1048576 - ka.toInt * kb.toInt : Int) : Rat) / 1048576) (((1048576 - ka.toInt * kb.toInt : Int) : Rat) / 1048576))) (IsV.cmpV ig16 iv19 _) (q := 152) rfl ?_
    refine o_ifN X16 at_152 (teq ((cmpR_eq _ _).mpr rfl)).2 (q := 155) rfl ?_
    refine o_iload X16 at_155 rfl (q := 157) rfl ?_
    refine o_ifN X16 at_157 (by decide) (q := 160) rfl ?_
    refine o_iconst X16 at_160 (w := 1) rfl (q := 161) rfl ?_
    refine o_goto X16 at_161 (by decide) (q := 165) (by decide) ?_
    exact o_retN X16 at_165 (by simp) rfl (by decide) (by decide)
set_option maxRecDepth 65536 in
set_option maxHeartbeats 40000000 in
theorem comes_1 {Post : Tables → Env → Array Value → State → Outcome → State → Prop} (hpost : ∀ tb e args s v u, (limb_1_1.after args s (.returned v) u = true ∧ limb_1_2.after args s (.returned v) u = true ∧ True) → FrameEnd s (.returned v) u (Jvm.fieldLocs frame_1_writes args s ++ Jvm.arrayLocs frame_1_arrays args s ++ Jvm.staticLocs frame_1_statics s) 0 0 → Post tb e args s (.returned v) u) :
    ArmFor flags0 classFile x code maxLocals ret World_1 tables_1 room_1 Calls_1 rest_1 Pre_1 Post := by
  intro l hfl _ _ p e ha hc hk s m args below hf hA hF happ hP
  obtain ⟨hcalls, hrest, hpre⟩ := hP
  obtain ⟨-, -, -, hnamed, -, -, -, hat⟩ := (Spec.applies_iff hf).mp happ
  obtain ⟨hg, hn⟩ := and_e (Cond.before_iff.mp (show (Jvm.Cond.and given_1 narrow_1).before args s = true from hpre))
  obtain ⟨hcount, hg0⟩ := and_e hg
  obtain ⟨ga0, hg1⟩ := and_e hg0
  obtain ⟨ga1, hg2⟩ := and_e hg1
  obtain ⟨w0, w1, w2, rfl⟩ : ∃ w0 w1 w2 : Value, args = #[w0, w1, w2] := by
    have hs : args.size = 3 := by simpa [Cond.value, given_1] using hcount
    obtain ⟨L⟩ := args
    match L, hs with
    | [w0, w1, w2], _ => exact ⟨w0, w1, w2, rfl⟩
  have hw : W _ s := fun d (hd : d ∈ tables_1) => atoms_spec (ws := Jvm.Cond.code x code maxLocals ret :: tables_1) hat d (List.mem_cons_of_mem _ hd)
  obtain ⟨i0, ei0⟩ := is_v ga0
  obtain rfl : w0 = (.int i0) := Option.some.inj ei0
  obtain ⟨i1, ei1⟩ := is_v ga1
  obtain rfl : w1 = (.int i1) := Option.some.inj ei1
  obtain ⟨i2, ei2⟩ := is_v hg2
  obtain rfl : w2 = (.int i2) := Option.some.inj ei2
  obtain ⟨n1, hn1⟩ := and_e hn
  obtain ⟨n2, hn2⟩ := and_e hn1
  obtain ⟨n3, n4⟩ := and_e hn2
  obtain ⟨di, -, -, -, evD, -⟩ := Cond.exactly_spec (Cond.before_iff.mpr n1)
  obtain ⟨pr, -, -, -, evP, -⟩ := Cond.exactly_spec (Cond.before_iff.mpr n3)
  have SDI : Sta s s.heap "com/example/refinement/refinement/learning/DistanceForm" "DIFFERENCE" "Lcom/example/refinement/refinement/learning/DistanceForm;" (.ref di) := Sta.start evD (Or.inr ⟨(w3 hw), (w4 hw)⟩)
  have EDI : Exa s s.heap di "com/example/refinement/refinement/learning/DistanceForm" := Exa.start evD n1
  have FDI := own_fldI evD n2
  have SPR : Sta s s.heap "com/example/refinement/refinement/learning/DistanceForm" "PRODUCT" "Lcom/example/refinement/refinement/learning/DistanceForm;" (.ref pr) := Sta.start evP (Or.inr ⟨(w3 hw), (w24 hw)⟩)
  have EPR : Exa s s.heap pr "com/example/refinement/refinement/learning/DistanceForm" := Exa.start evP n3
  have FPR := own_fldI evP n4
  obtain ⟨n, o, h1, h2, h3, v, L, rfl, ⟨hQ, hN, -⟩, hq⟩ := c_law (l := l) hw i0 i1 i2 SPR EPR FPR SDI EDI FDI ⟨Nat.le_refl _, fun _ _ q => q⟩ tables_1 p e ha hc hk s m _ below hf ((Spec.applies_iff_loose hf).mp happ).1 ⟨rfl, State.Warmed39.refl s, rfl⟩ trivial
  subst hQ
  refine ⟨n, _, h1, h2, h3, hpost _ _ _ _ _ _ ⟨Cond.after_iff.mpr rfl, Cond.after_iff.mpr (eq_i res_at (Term.int_eval (1)) rfl), trivial⟩ ⟨hq.1, hq.2.1, (hq.2.2.sift fun y hy => Or.inr (hN y hy)).mono (by decide) (by decide)⟩⟩
theorem main_1_1 : Claimed_1_1 := comes_1 fun _ _ _ _ _ _ h hF => ⟨h.1, hF⟩
theorem main_1_2 : Claimed_1_2 := comes_1 fun _ _ _ _ _ _ h hF => ⟨h.2.1, hF⟩
end Jvm.Pilot.@@N@@
namespace Jvm.Pilot.@@N@@
open Jvm Jvm.ClassFile Sem Op Lib Jvm.Free Jvm.Stand Jvm.Pilot.@@N@@.Jvm.D
/-! MADE BY PROGRAM (witnessworld.py) out of the Statement's table words and the real class files: 13 classes; the members and pool entries that the words name. The judged class is class 1, her method 1. -/
namespace start1
open Jvm.ClassFile
def u (s : String) : CpInfo := .utf8 (stringToUtf16 s)
/-- a pool by its gaps: so many unusable entries, then the entry; so many at the end -/
def gap : Nat → List CpInfo → List CpInfo
  | 0, r => r
  | n + 1, r => .unusable :: gap n r
def poolList (es : List (Nat × CpInfo)) (last : Nat) : List CpInfo := es.foldr (fun e r => gap e.1 (e.2 :: r)) (gap last [])
def pool (es : List (Nat × CpInfo)) (last : Nat) : Array CpInfo := ⟨poolList es last⟩
def fileOf (pool : Array CpInfo) (this : Nat) (attrs : Array Attribute := #[]) (ms : Array MethodInfo := #[]) (fl : Nat := 33) (sup : Nat := 0) (ifs : Array Nat := #[]) (fds : Array FieldInfo := #[]) : ClassFile where
  minorVersion := 0
  majorVersion := 65
  constantPool := pool
  accessFlags := fl
  thisClass := this
  superClass := sup
  interfaces := ifs
  fields := fds
  methods := ms
  attributes := attrs
def plain (name : String) (sup : Option ClassId) : Class where
  name := name
  kind := .ordinary
  loader := none
  accessFlags := 33
  super := sup
  interfaces := #[]
  cf := none
  fields := #[]
  methods := #[]
  instanceTypes := #[]
  staticTypes := #[]
  resolved := #[]
  callSites := []
  init := .initialized
  statics := none
  mirror := none

def pool0 : Array CpInfo := pool [(5, u "<init>"), (0, u "()V"), (1, .class_ 10), (1, u "java/lang/Object")] 113

def k0m0 : Method := { name := "<init>", desc := "()V", sig := { parameters := [], returnType := none }, accessFlags := 1, code := none }
/-- java/lang/Object -/
def k0 : Class := { plain "java/lang/Object" none with
  accessFlags := 33
  interfaces := #[]
  cf := some (fileOf pool0 8 #[] #[{ accessFlags := 1, nameIndex := 5, descriptorIndex := 6, attributes := #[] }] 33 0 #[] #[])
  fields := #[]
  methods := #[k0m0]
  instanceTypes := #[]
  staticTypes := #[]
  resolved := Array.replicate 124 none
  statics := none }

def pool1 : Array CpInfo := pool [(2, .class_ 4), (1, u "java/lang/Object"), (0, u "<init>"), (0, u "()V"), (0, .integer 2147483647), (0, .double 4652218415073722368), (1, .fieldref 11 12), (0, .class_ 13), (0, .nameAndType 14 15), (0, u "com/example/refinement/refinement/learning/DistanceForm"), (0, u "PRODUCT"), (0, u "Lcom/example/refinement/refinement/learning/DistanceForm;"), (0, .fieldref 11 17), (0, .nameAndType 18 15), (0, u "DIFFERENCE"), (0, .methodref 11 20), (0, .nameAndType 21 22), (0, u "gap"), (0, u "(DD)D"), (0, .integer 1048576), (0, .double 4697254411347427328), (1, .class_ 27), (0, u "com/example/refinement/refinement/learning/DistanceFormGapPinLaw"), (2, u "law"), (0, u "(III)Z")] 3

def k1m0 : Method := { name := "<init>", desc := "()V", sig := { parameters := [], returnType := none }, accessFlags := 1, code := none }
def k1c1 : Code := { maxStack := 5, maxLocals := 16, code := code, exceptionTable := #[], attributes := #[] }
def k1m1 : Method := { name := "law", desc := "(III)Z", sig := { parameters := [.int, .int, .int], returnType := some .boolean }, accessFlags := 9, code := some k1c1 }
/-- com/example/refinement/refinement/learning/DistanceFormGapPinLaw -/
def k1 : Class := { plain "com/example/refinement/refinement/learning/DistanceFormGapPinLaw" (some 0) with
  accessFlags := 49
  interfaces := #[]
  cf := some (fileOf pool1 26 #[] #[{ accessFlags := 1, nameIndex := 5, descriptorIndex := 6, attributes := #[] }, { accessFlags := 9, nameIndex := 30, descriptorIndex := 31, attributes := #[] }] 49 2 #[] #[])
  fields := #[]
  methods := #[k1m0, k1m1]
  instanceTypes := #[]
  staticTypes := #[]
  resolved := Array.replicate 35 none
  statics := none }

def pool2 : Array CpInfo := pool [(1, .class_ 2), (0, u "java/lang/constant/Constable"), (0, .class_ 4), (0, u "java/lang/Object")] 6

/-- java/lang/constant/Constable -/
def k2 : Class := { plain "java/lang/constant/Constable" (some 0) with
  accessFlags := 1537
  interfaces := #[]
  cf := some (fileOf pool2 1 #[] #[] 1537 3 #[] #[])
  fields := #[]
  methods := #[]
  instanceTypes := #[]
  staticTypes := #[]
  resolved := Array.replicate 11 none
  statics := none }

def pool3 : Array CpInfo := pool [(1, .class_ 2), (0, u "java/lang/Comparable"), (0, .class_ 4), (0, u "java/lang/Object")] 7

/-- java/lang/Comparable -/
def k3 : Class := { plain "java/lang/Comparable" (some 0) with
  accessFlags := 1537
  interfaces := #[]
  cf := some (fileOf pool3 1 #[] #[] 1537 3 #[] #[])
  fields := #[]
  methods := #[]
  instanceTypes := #[]
  staticTypes := #[]
  resolved := Array.replicate 12 none
  statics := none }

def pool4 : Array CpInfo := pool [(1, .class_ 2), (0, u "java/io/Serializable"), (0, .class_ 4), (0, u "java/lang/Object")] 2

/-- java/io/Serializable -/
def k4 : Class := { plain "java/io/Serializable" (some 0) with
  accessFlags := 1537
  interfaces := #[]
  cf := some (fileOf pool4 1 #[] #[] 1537 3 #[] #[])
  fields := #[]
  methods := #[]
  instanceTypes := #[]
  staticTypes := #[]
  resolved := Array.replicate 7 none
  statics := none }

def pool5 : Array CpInfo := pool [(2, .class_ 4), (1, u "java/lang/Enum"), (0, u "name"), (0, u "Ljava/lang/String;"), (0, .fieldref 2 8), (0, .nameAndType 9 10), (0, u "ordinal"), (0, u "I"), (1, .class_ 14), (1, u "java/lang/Object"), (4, u "hash"), (86, .class_ 108), (1, u "java/lang/Enum$EnumDesc"), (2, .class_ 112), (0, u "java/lang/constant/Constable"), (0, .class_ 114), (0, u "java/lang/Comparable"), (0, .class_ 116), (0, u "java/io/Serializable"), (9, u "()I")] 77

def k5c0 : Code := { maxStack := 1, maxLocals := 1, code := jdk_37_method_2_code, exceptionTable := #[], attributes := #[] }
def k5m0 : Method := { name := "ordinal", desc := "()I", sig := { parameters := [], returnType := some .int }, accessFlags := 17, code := some k5c0 }
/-- java/lang/Enum -/
def k5 : Class := { plain "java/lang/Enum" (some 0) with
  accessFlags := 1057
  interfaces := #[2, 3, 4]
  cf := some (fileOf pool5 2 #[.nestMembers #[106]] #[{ accessFlags := 17, nameIndex := 9, descriptorIndex := 126, attributes := #[] }] 1057 12 #[111, 113, 115] #[{ accessFlags := 18, nameIndex := 5, descriptorIndex := 6, attributes := #[] }, { accessFlags := 18, nameIndex := 9, descriptorIndex := 10, attributes := #[] }, { accessFlags := 2, nameIndex := 19, descriptorIndex := 10, attributes := #[] }])
  fields := #[{ name := "name", type := (.object "java/lang/String"), accessFlags := 18, slot := 0, constantValue := 0 }, { name := "ordinal", type := .int, accessFlags := 18, slot := 1, constantValue := 0 }, { name := "hash", type := .int, accessFlags := 2, slot := 2, constantValue := 0 }]
  methods := #[k5m0]
  instanceTypes := #[(.object "java/lang/String"), .int, .int]
  staticTypes := #[]
  resolved := Array.replicate 204 none
  statics := none }

def pool6 : Array CpInfo := pool [(1, .class_ 2), (0, u "com/example/refinement/refinement/learning/DistanceForm"), (2, u "DIFFERENCE"), (0, u "Lcom/example/refinement/refinement/learning/DistanceForm;"), (2, u "PRODUCT"), (2, u "$VALUES"), (0, u "[Lcom/example/refinement/refinement/learning/DistanceForm;"), (6, .class_ 22), (1, u "java/lang/Enum"), (6, .methodref 1 30), (0, .nameAndType 31 32), (0, u "ordinal"), (0, u "()I"), (5, .methodref 39 40), (0, .class_ 41), (0, .nameAndType 42 43), (0, u "java/lang/Math"), (0, u "abs"), (0, u "(D)D"), (30, u "gap"), (0, u "(DD)D")] 6

def k6c0 : Code := { maxStack := 6, maxLocals := 5, code := prog_8_method_4_code, exceptionTable := #[], attributes := #[] }
def k6m0 : Method := { name := "gap", desc := "(DD)D", sig := { parameters := [.double, .double], returnType := some .double }, accessFlags := 0, code := some k6c0 }
/-- com/example/refinement/refinement/learning/DistanceForm -/
def k6 : Class := { plain "com/example/refinement/refinement/learning/DistanceForm" (some 5) with
  accessFlags := 16433
  interfaces := #[]
  cf := some (fileOf pool6 1 #[] #[{ accessFlags := 0, nameIndex := 74, descriptorIndex := 75, attributes := #[] }] 16433 20 #[] #[{ accessFlags := 16409, nameIndex := 5, descriptorIndex := 6, attributes := #[] }, { accessFlags := 16409, nameIndex := 9, descriptorIndex := 6, attributes := #[] }, { accessFlags := 4122, nameIndex := 12, descriptorIndex := 13, attributes := #[] }])
  fields := #[{ name := "DIFFERENCE", type := (.object "com/example/refinement/refinement/learning/DistanceForm"), accessFlags := 16409, slot := 0, constantValue := 0 }, { name := "PRODUCT", type := (.object "com/example/refinement/refinement/learning/DistanceForm"), accessFlags := 16409, slot := 1, constantValue := 0 }, { name := "$VALUES", type := (.array (.object "com/example/refinement/refinement/learning/DistanceForm")), accessFlags := 4122, slot := 2, constantValue := 0 }]
  methods := #[k6m0]
  instanceTypes := #[(.object "java/lang/String"), .int, .int]
  staticTypes := #[(.object "com/example/refinement/refinement/learning/DistanceForm"), (.object "com/example/refinement/refinement/learning/DistanceForm"), (.array (.object "com/example/refinement/refinement/learning/DistanceForm"))]
  resolved := Array.replicate 82 none
  statics := some 0 }

def pool7 : Array CpInfo := pool [(1, .class_ 2), (0, u "java/lang/Math"), (1, .class_ 6), (1, u "java/lang/Object"), (0, u "<init>"), (0, u "()V"), (5, u "(D)D"), (83, .class_ 100), (1, u "java/lang/Math$RandomNumberGeneratorHolder"), (23, u "abs"), (47, u "negativeZeroFloatBits"), (0, u "J"), (2, u "negativeZeroDoubleBits"), (68, u "$assertionsDisabled"), (0, u "Z"), (91, u "twoToTheDoubleScaleDown"), (0, u "D"), (4, u "twoToTheDoubleScaleUp"), (9, u "E"), (3, u "PI"), (2, u "TAU"), (2, u "DEGREES_TO_RADIANS"), (0, u "RADIANS_TO_DEGREES")] 94

def k7m0 : Method := { name := "<init>", desc := "()V", sig := { parameters := [], returnType := none }, accessFlags := 2, code := none }
def k7c1 : Code := { maxStack := 4, maxLocals := 2, code := jdk_29_method_64_code, exceptionTable := #[], attributes := #[] }
def k7m1 : Method := { name := "abs", desc := "(D)D", sig := { parameters := [.double], returnType := some .double }, accessFlags := 9, code := some k7c1 }
/-- java/lang/Math -/
def k7 : Class := { plain "java/lang/Math" (some 0) with
  accessFlags := 49
  interfaces := #[]
  cf := some (fileOf pool7 1 #[.nestMembers #[98]] #[{ accessFlags := 2, nameIndex := 7, descriptorIndex := 8, attributes := #[] }, { accessFlags := 9, nameIndex := 124, descriptorIndex := 14, attributes := #[] }] 49 4 #[] #[{ accessFlags := 25, nameIndex := 354, descriptorIndex := 339, attributes := #[] }, { accessFlags := 25, nameIndex := 358, descriptorIndex := 339, attributes := #[] }, { accessFlags := 25, nameIndex := 361, descriptorIndex := 339, attributes := #[] }, { accessFlags := 26, nameIndex := 364, descriptorIndex := 339, attributes := #[] }, { accessFlags := 26, nameIndex := 365, descriptorIndex := 339, attributes := #[] }, { accessFlags := 26, nameIndex := 172, descriptorIndex := 173, attributes := #[] }, { accessFlags := 26, nameIndex := 176, descriptorIndex := 173, attributes := #[] }, { accessFlags := 8, nameIndex := 344, descriptorIndex := 339, attributes := #[] }, { accessFlags := 8, nameIndex := 338, descriptorIndex := 339, attributes := #[] }, { accessFlags := 4120, nameIndex := 245, descriptorIndex := 246, attributes := #[] }])
  fields := #[{ name := "E", type := .double, accessFlags := 25, slot := 0, constantValue := 0 }, { name := "PI", type := .double, accessFlags := 25, slot := 1, constantValue := 0 }, { name := "TAU", type := .double, accessFlags := 25, slot := 2, constantValue := 0 }, { name := "DEGREES_TO_RADIANS", type := .double, accessFlags := 26, slot := 3, constantValue := 0 }, { name := "RADIANS_TO_DEGREES", type := .double, accessFlags := 26, slot := 4, constantValue := 0 }, { name := "negativeZeroFloatBits", type := .long, accessFlags := 26, slot := 5, constantValue := 0 }, { name := "negativeZeroDoubleBits", type := .long, accessFlags := 26, slot := 6, constantValue := 0 }, { name := "twoToTheDoubleScaleUp", type := .double, accessFlags := 8, slot := 7, constantValue := 0 }, { name := "twoToTheDoubleScaleDown", type := .double, accessFlags := 8, slot := 8, constantValue := 0 }, { name := "$assertionsDisabled", type := .boolean, accessFlags := 4120, slot := 9, constantValue := 0 }]
  methods := #[k7m0, k7m1]
  instanceTypes := #[]
  staticTypes := #[.double, .double, .double, .double, .double, .long, .long, .double, .double, .boolean]
  resolved := Array.replicate 460 none
  statics := none }

def pool8 : Array CpInfo := pool [(1, u "java/lang/Cloneable"), (0, .class_ 1), (0, u "java/lang/Object"), (0, .class_ 3)] 3

/-- java/lang/Cloneable -/
def k8 : Class := { plain "java/lang/Cloneable" (some 0) with
  accessFlags := 1537
  interfaces := #[]
  cf := some (fileOf pool8 2 #[] #[] 1537 4 #[] #[])
  fields := #[]
  methods := #[]
  instanceTypes := #[]
  staticTypes := #[]
  resolved := Array.replicate 8 none
  statics := none }

/-- the primitive byte -/
def k9 : Class := { plain "byte" none with kind := .primitive 'B', accessFlags := 0x411 }
/-- [B -/
def k10 : Class := { plain "[B" (some 0) with kind := .array 9 .byte, interfaces := #[8, 4], accessFlags := 1041 }

/-- the primitive int -/
def k11 : Class := { plain "int" none with kind := .primitive 'I', accessFlags := 0x411 }
/-- [I -/
def k12 : Class := { plain "[I" (some 0) with kind := .array 11 .int, interfaces := #[8, 4], accessFlags := 1041 }

def heap : Heap := #[{ cls := 6, slots := #[.ref 1, .ref 2, .null], vm := .statics 6 },
  { cls := 6, slots := #[.null, .int 0, .int 0], vm := .none },
  { cls := 6, slots := #[.null, .int 1, .int 0], vm := .none }]
def classes : Array Class := #[k0, k1, k2, k3, k4, k5, k6, k7, k8, k9, k10, k11, k12]
def interned : List (Array UInt16 × Addr) := []
def slotsUsed : Nat := 9
def theMethod : MethodId := ⟨1, 1⟩
def args0 : Array Value := #[.int 5, .int 6, .int 1]
def aboutOver (below : List Frame) : State where
  vm := { classes := classes, interned := interned.toArray }
  heap := heap
  slotsUsed := slotsUsed
  threads := #[{ frames := .invoking theMethod args0 :: below }]
def below0 : List Frame := [.native { method := ⟨0, 0⟩, args := #[] }]
def about1 : State := aboutOver below0
def p0 : Program := .bare "" "" ""
def e0 : Env := launch0.env 0 0 0
theorem w_frames : about1.frames = Frame.invoking theMethod args0 :: below0 := rfl
set_option maxRecDepth 65536 in
theorem w_args : argsFit about1.vm theMethod args0 = true := by decide +kernel
set_option maxRecDepth 65536 in
theorem w_heap : heapFits about1 = true := by decide +kernel
set_option maxRecDepth 65536 in
theorem w_runnable : about1.curStatus? = some .runnable := by decide +kernel
set_option maxRecDepth 65536 in
theorem w_alone : about1.alone = true := by decide +kernel
set_option maxRecDepth 65536 in
theorem w_named : about1.methodNamed? x = some theMethod := by decide +kernel
set_option maxRecDepth 65536 in
theorem w_hears : about1.hears theMethod below0 = true := by decide +kernel
set_option maxRecDepth 65536 in
theorem w_ripe : about1.ripe theMethod args0 below0 = true := by decide +kernel
theorem w_running : about1.status = .running := rfl
set_option maxRecDepth 65536 in
theorem w_room : about1.hasRoom e0.platform room_1 = true :=
  launch0.hasRoom_least _ room_1 (by decide +kernel) (by decide +kernel) (by decide +kernel) (by decide +kernel) (by decide +kernel) (by decide +kernel)
theorem allAtoms_all (ts : List Jvm.Cond) (a : Array Jvm.Value) (st : Jvm.State) : (allAtoms ts).before a st = ts.all (fun c => c.before a st) := by
  induction ts with
  | nil => rfl
  | cons c t ih =>
    show (Jvm.Cond.and c (allAtoms t)).before a st = _
    rw [Jvm.Cond.before_and, ih, List.all_cons]
def words1 : List Jvm.Cond := Jvm.Cond.code x code maxLocals ret :: tables_1
/-- a 'code' word, met by the world's own term for the bytes: nothing is compared byte by byte -/
theorem code_word {y : MethodName} {bytes : ByteArray} {mx : Nat} {rt : Option FieldType} {a : Array Value} {s : State} {m : MethodId} {meth : Method} {c : Code} (h1 : s.methodNamed? y = some m) (h2 : s.vm.method? m = some meth) (h3 : meth.code = some c) (h4 : c.code = bytes)
    (h5 : (c.maxLocals == mx && c.exceptionTable.isEmpty && decide (c.maxStack ≤ mostOperands) && decide (meth.sig.returnType = rt) && !meth.locks && decide (parseMethodDescriptor y.desc = some meth.sig)) = true) : (Jvm.Cond.code y bytes mx rt).before a s = true := by
  simp only [Bool.and_eq_true, beq_iff_eq, Bool.not_eq_true', decide_eq_true_eq] at h5
  obtain ⟨⟨⟨⟨⟨g1, g2⟩, g3⟩, g4⟩, g5⟩, g6⟩ := h5
  simp [Cond.before, Cond.holds, Cond.value, h1, h2, h3, h4, g1, g2, g3, g4, g5, g6]
def isCode : Jvm.Cond → Bool
  | .code _ _ _ _ => true
  | _ => false
theorem all_split {L : List Jvm.Cond} {P : Jvm.Cond → Bool} (h1 : L.all (fun c => isCode c || P c) = true) (h2 : ∀ c ∈ L.filter isCode, P c = true) : L.all P = true := by
  refine List.all_eq_true.mpr fun c hc => ?_
  have h := List.all_eq_true.mp h1 c hc
  rcases Bool.eq_false_or_eq_true (isCode c) with hi | hi
  · exact h2 c (List.mem_filter.mpr ⟨hc, hi⟩)
  · simpa [hi] using h
set_option maxRecDepth 65536 in
theorem w_c0 : (Jvm.Cond.code x code maxLocals ret).before args0 about1 = true := code_word (m := ⟨1, 1⟩) (meth := k1m1) (c := k1c1) (by decide +kernel) rfl rfl rfl (by decide +kernel)
set_option maxRecDepth 65536 in
theorem w_c1 : (Jvm.Cond.code ({ cls := "com/example/refinement/refinement/learning/DistanceForm", name := "gap", desc := "(DD)D" } : Jvm.MethodName) prog_8_method_4_code (5 : Nat) (Option.some Jvm.ClassFile.FieldType.double)).before args0 about1 = true := code_word (m := ⟨6, 0⟩) (meth := k6m0) (c := k6c0) (by decide +kernel) rfl rfl rfl (by decide +kernel)
set_option maxRecDepth 65536 in
theorem w_c2 : (Jvm.Cond.code ({ cls := "java/lang/Enum", name := "ordinal", desc := "()I" } : Jvm.MethodName) jdk_37_method_2_code (1 : Nat) (Option.some Jvm.ClassFile.FieldType.int)).before args0 about1 = true := code_word (m := ⟨5, 0⟩) (meth := k5m0) (c := k5c0) (by decide +kernel) rfl rfl rfl (by decide +kernel)
set_option maxRecDepth 65536 in
theorem w_c3 : (Jvm.Cond.code ({ cls := "java/lang/Math", name := "abs", desc := "(D)D" } : Jvm.MethodName) jdk_29_method_64_code (2 : Nat) (Option.some Jvm.ClassFile.FieldType.double)).before args0 about1 = true := code_word (m := ⟨7, 1⟩) (meth := k7m1) (c := k7c1) (by decide +kernel) rfl rfl rfl (by decide +kernel)
def codes1 : List Jvm.Cond := [Jvm.Cond.code x code maxLocals ret, Jvm.Cond.code ({ cls := "com/example/refinement/refinement/learning/DistanceForm", name := "gap", desc := "(DD)D" } : Jvm.MethodName) prog_8_method_4_code (5 : Nat) (Option.some Jvm.ClassFile.FieldType.double), Jvm.Cond.code ({ cls := "java/lang/Enum", name := "ordinal", desc := "()I" } : Jvm.MethodName) jdk_37_method_2_code (1 : Nat) (Option.some Jvm.ClassFile.FieldType.int), Jvm.Cond.code ({ cls := "java/lang/Math", name := "abs", desc := "(D)D" } : Jvm.MethodName) jdk_29_method_64_code (2 : Nat) (Option.some Jvm.ClassFile.FieldType.double)]
set_option maxRecDepth 65536 in
theorem codes_eq : words1.filter isCode = codes1 := rfl
theorem w_codes : ∀ c ∈ words1.filter isCode, c.before args0 about1 = true := by
  rw [codes_eq]
  intro c hc
  simp only [codes1, List.mem_cons, List.not_mem_nil, or_false] at hc
  rcases hc with rfl | rfl | rfl | rfl
  · exact w_c0
  · exact w_c1
  · exact w_c2
  · exact w_c3
set_option maxRecDepth 65536 in
theorem w_t1 : (words1.take 24).all (fun c => isCode c || c.before args0 about1) = true := by decide +kernel
set_option maxRecDepth 65536 in
theorem w_t2 : (words1.drop 24).all (fun c => isCode c || c.before args0 about1) = true := by decide +kernel
theorem w_tables : (allAtoms (Jvm.Cond.code x code maxLocals ret :: tables_1)).before args0 about1 = true := by
  rw [allAtoms_all]
  show words1.all (fun c => c.before args0 about1) = true
  refine all_split ?_ w_codes
  rw [← List.take_append_drop 24 words1, List.all_append, w_t1, w_t2]
  rfl
set_option maxRecDepth 65536 in
theorem w_case : (Jvm.Cond.and given_1 narrow_1).before args0 about1 = true := by decide +kernel
theorem w_applies : (headSpec (Jvm.Cond.code x code maxLocals ret :: tables_1) room_1).applies x e0.platform about1 = true :=
  (Spec.applies_iff w_frames).mpr ⟨w_running, w_runnable, w_alone, w_named, w_hears, w_ripe, w_room, w_tables⟩
theorem atStart : AtStart classFile x code maxLocals ret World_1 tables_1 room_1 Calls_1 rest_1 Pre_1 launch0 p0 e0 about1 theMethod args0 below0 :=
  ⟨lists_1, trivial, launch0.admits_env _ _ _, launch0.least_env, fairChoices_fair.cas, fairChoices_fair.clock, w_frames, w_args, w_heap, w_applies, trivial, trivial, w_case⟩
end start1
theorem witness_1 : WitnessClaimed_1 := ⟨start1.p0, start1.e0, start1.about1, start1.theMethod, start1.args0, start1.below0, start1.atStart⟩
end Jvm.Pilot.@@N@@
