import JvmDerived
import JvmDerived.Pilot.@@N@@Statement
import JvmDerived.Pilot.@@N@@Code
set_option linter.unusedVariables false
set_option linter.unusedSimpArgs false

namespace Jvm.Pilot.@@N@@
open Jvm Jvm.ClassFile Sem Op Lib Jvm.Free Jvm.Stand Jvm.LawKit Jvm.RoadKit Bundle Jvm.Pilot.@@N@@.Jvm.D
section OwnKit
/-- where a walk stands: the library's Stand, and what stays the same throughout -/
def On (l : Launch) (Z : State) (p : Program) (e : Env) (R : Room) (s : State) (m : MethodId) (args : Array Value) (below : List Frame) (meth : Method) (c : Code) (y : MethodName) (code : ByteArray) (maxL : Nat) (ret : Option FieldType) (T : State) (h : Heap) (locs : List Loc) (cells slots : Nat) : Prop :=
  Stand p l e R s m args below meth c T locs cells slots ∧ (p.tables.exec = Jvm.exec ∧ c.code = code ∧ Z.Warmed39 s.vm ∧ s.vm.findClass y.cls = some m.cls ∧ meth.sig.returnType = ret ∧ meth.locks = false ∧ meth.name = y.name ∧ c.maxLocals = maxL) ∧ T.heap = h ∧ Fr Z.heap.size locs ∧ Ext Z.heap h
/-- the run from here ends as F says -/
def Goes (p : Program) (e : Env) (below : List Frame) (F : State → Outcome → Prop) (T : State) (g : JFrame) : Prop :=
  ∃ s₂ o, Steps p.tables e below (T.setTop g) s₂ ∧ s₂.status = .running ∧ Ended s₂ below o ∧ F s₂ o
def FinQ (Z s : State) (Q : Option Value → Heap → Prop) (rc rs : Nat) (s₂ : State) (o : Outcome) : Prop :=
  ∃ v L, o = .returned v ∧ (Q v s₂.heap ∧ Fr Z.heap.size L ∧ Ext Z.heap s₂.heap) ∧ FrameEnd s o s₂ L rc rs
/-- a method's contract: called with these arguments on this heap it returns, and Q holds -/
def Con (l : Launch) (Z : State) (y : MethodName) (code : ByteArray) (maxL : Nat) (ret : Option FieldType) (rm : Room) (as : Array Value) (h : Heap) (Q : Option Value → Heap → Prop) : Prop :=
  Ext Z.heap h → ∀ ws : List Jvm.Cond, MetFree l y (head1 (Jvm.Cond.code y code maxL ret :: ws) rm) (fun a U => a = as ∧ Z.Warmed39 U.vm ∧ U.heap = h) (fun _ _ _ _ _ => True) (fun _ U o U' => ∃ v L, o = .returned v ∧ (Q v U'.heap ∧ Fr Z.heap.size L ∧ Ext Z.heap U'.heap) ∧ FrameEnd U o U' L rm.cells rm.slots)
theorem Goes.step {p : Program} {e : Env} {below : List Frame} {F : State → Outcome → Prop} {T T' : State} {g g' : JFrame} (st : ∀ t, Steps p.tables e below (T'.setTop g') t → Steps p.tables e below (T.setTop g) t) (k : Goes p e below F T' g') : Goes p e below F T g := by
  obtain ⟨s₂, o, h1, h2⟩ := k
  exact ⟨s₂, o, st _ h1, h2⟩
theorem Goes.cast {p : Program} {e : Env} {below : List Frame} {F : State → Outcome → Prop} {T : State} {g g' : JFrame} (q : g = g') (k : Goes p e below F T g') : Goes p e below F T g := q ▸ k
theorem Goes.mono {p : Program} {e : Env} {below : List Frame} {F F' : State → Outcome → Prop} {T : State} {g : JFrame} (q : ∀ s o, F s o → F' s o) (k : Goes p e below F T g) : Goes p e below F' T g := by
  obtain ⟨s₂, o, h1, h2, h3, h4⟩ := k
  exact ⟨s₂, o, h1, h2, h3, q _ _ h4⟩
variable {l : Launch} {Z : State} {p : Program} {e : Env} {R : Room} {s : State} {m : MethodId} {args : Array Value} {below : List Frame} {meth : Method} {c : Code} {y : MethodName} {code : ByteArray} {maxL : Nat} {ret : Option FieldType} {T : State} {h : Heap} {locs : List Loc} {cells slots : Nat} {F : State → Outcome → Prop} {pc : Nat} {L L' : Array Slot} {S : List Value} {a0 : Array Value}
theorem Con.intro {rm : Room} {as : Array Value} {Q : Option Value → Heap → Prop} (hp : plainFor y = true)
    (body : ∀ (p : Program) (e : Env) (s : State) (m : MethodId) (below : List Frame) (meth : Method) (c : Code) (T : State), On l Z p e rm s m as below meth c y code maxL ret T h [] 0 0 → Goes p e below (FinQ Z s Q rm.cells rm.slots) T (entryFrame m as maxL)) : Con l Z y code maxL ret rm as h Q := by
  intro hE ws
  refine MetFree.of_bodySF hp hisR ?_
  intro p e s m args below meth c s₁ Bd hml0 hP hK
  obtain ⟨rfl, hZ, hh⟩ := hP
  have hnm := (name_of_methodNamed Bd.named Bd.method).1
  obtain ⟨s₂, o, k1, k2, k3, k4⟩ := body p e s m below meth c s₁ ⟨Stand.of_body Bd, ⟨Bd.exec, Bd.bytes, hZ, findClass_of_methodNamed Bd.named, Bd.returns, Bd.notSynchronized, hnm, hml0⟩, by rw [← hh, Bd.state]; rfl, Fr.nil _, hE⟩
  exact ⟨s₂, o, k1, k2, k3, k4⟩
theorem Con.mono {rm : Room} {as : Array Value} {Q Q' : Option Value → Heap → Prop} (hC : Con l Z y code maxL ret rm as h Q) (hq : ∀ v h', Q v h' → Q' v h') : Con l Z y code maxL ret rm as h Q' := by
  intro hE ws p e ha hc hk s m args below hf happ hP hK
  obtain ⟨n, o, h1, h2, h3, v, L, h4, ⟨h5, h6⟩, h7⟩ := hC hE ws p e ha hc hk s m args below hf happ hP hK
  exact ⟨n, o, h1, h2, h3, v, L, h4, ⟨hq _ _ h5, h6⟩, h7⟩
theorem On.size (X : On l Z p e R s m args below meth c y code maxL ret T h locs cells slots) : Z.heap.size ≤ h.size := X.2.2.2.2.1
theorem On.ext (X : On l Z p e R s m args below meth c y code maxL ret T h locs cells slots) : Ext Z.heap h := X.2.2.2.2
theorem On.sta (X : On l Z p e R s m args below meth c y code maxL ret T h locs cells slots) {C n d : String} {v : Value} (S : Sta Z Z.heap C n d v) : Sta Z h C n d v := S.ext X.ext
theorem ext_wr {Z : State} {h h' : Heap} {a : Addr} {sl : Nat} {v : Value} (E : Ext Z.heap h) (W : Wr h h' a sl v) (q : Z.heap.size ≤ a) : Ext Z.heap h' := (Old.wr (Z := Z) (n0 := Z.heap.size) ⟨rfl, E⟩ W q).2
theorem ext_keep {Z : State} {h h' : Heap} {ws : List Addr} (E : Ext Z.heap h) (K : Keep h h' ws) (q : ∀ x ∈ ws, Z.heap.size ≤ x) : Ext Z.heap h' := (Old.keep (Z := Z) (n0 := Z.heap.size) ⟨rfl, E⟩ K q).2
theorem ext_trans {h h' h'' : Heap} (E : Ext h h') (E' : Ext h' h'') : Ext h h'' := ⟨Nat.le_trans E.1 E'.1, fun a c q => E'.2 a c (E.2 a c q)⟩
theorem keep_ext {h h' : Heap} (E : Ext h h') : Keep h h' [] := (Keep.refl h []).ext E
theorem ext_of_keep {h h' : Heap} (K : Keep h h' []) : Ext h h' := ⟨K.1, fun a c q => K.2.1 a c q nin0⟩
theorem On.later (X : On l Z p e R s m args below meth c y code maxL ret T h locs cells slots) {T' : State} {h' : Heap} {locs' : List Loc} {cells' slots' : Nat} (X' : Stand p l e R s m args below meth c T' locs' cells' slots') (e' : T'.heap = h') (N' : Fr Z.heap.size locs') (E' : Ext Z.heap h') : On l Z p e R s m args below meth c y code maxL ret T' h' locs' cells' slots' := ⟨X', X.2.1, e', N', E'⟩
theorem On.alike (X : On l Z p e R s m args below meth c y code maxL ret T h locs cells slots) : Z.vm.Alike s.vm := X.2.1.2.2.1.alike
theorem o_iload (X : On l Z p e R s m args below meth c y code maxL ret T h locs cells slots) {k : Nat} {v : Int32} {q : Nat} (hd : decode code pc = .ok (.iload k, 2)) (hl : L[k]? = some (.val (.int v))) (hp : pc + 2 = q) (K : Goes p e below F T (mkF m q L (.int v :: S))) : Goes p e below F T (mkF m pc L S) := by
  subst hp
  exact Goes.step (fun _ k => XS.iload X.1.here X.2.1.1 (g := mkF m pc L S) rfl (hb X.2.1.2.1 hd) hl k) K
theorem o_iloadN (X : On l Z p e R s m args below meth c y code maxL ret T h locs cells slots) {k : Fin 4} {v : Int32} {q : Nat} (hd : decode code pc = .ok (.iload_n k, 1)) (hl : L[k.val]? = some (.val (.int v))) (hp : pc + 1 = q) (K : Goes p e below F T (mkF m q L (.int v :: S))) : Goes p e below F T (mkF m pc L S) := by
  subst hp
  exact Goes.step (fun _ k => XS.iloadN X.1.here X.2.1.1 (g := mkF m pc L S) rfl (hb X.2.1.2.1 hd) hl k) K
theorem o_lload (X : On l Z p e R s m args below meth c y code maxL ret T h locs cells slots) {k : Nat} {v : Int64} {q : Nat} (hd : decode code pc = .ok (.lload k, 2)) (hl : L[k]? = some (.val (.long v))) (hp : pc + 2 = q) (K : Goes p e below F T (mkF m q L (.long v :: S))) : Goes p e below F T (mkF m pc L S) := by
  subst hp
  exact Goes.step (fun _ k => XS.lload X.1.here X.2.1.1 (g := mkF m pc L S) rfl (hb X.2.1.2.1 hd) hl k) K
theorem o_lloadN (X : On l Z p e R s m args below meth c y code maxL ret T h locs cells slots) {k : Fin 4} {v : Int64} {q : Nat} (hd : decode code pc = .ok (.lload_n k, 1)) (hl : L[k.val]? = some (.val (.long v))) (hp : pc + 1 = q) (K : Goes p e below F T (mkF m q L (.long v :: S))) : Goes p e below F T (mkF m pc L S) := by
  subst hp
  exact Goes.step (fun _ k => XS.lloadN X.1.here X.2.1.1 (g := mkF m pc L S) rfl (hb X.2.1.2.1 hd) hl k) K
theorem o_aload (X : On l Z p e R s m args below meth c y code maxL ret T h locs cells slots) {k : Nat} {v : Value} {q : Nat} (hd : decode code pc = .ok (.aload k, 2)) (hl : L[k]? = some (.val v)) (hv : v.isRef = true) (hp : pc + 2 = q) (K : Goes p e below F T (mkF m q L (v :: S))) : Goes p e below F T (mkF m pc L S) := by
  subst hp
  exact Goes.step (fun _ k => XS.aload X.1.here X.2.1.1 (g := mkF m pc L S) rfl (hb X.2.1.2.1 hd) hl hv k) K
theorem o_aloadN (X : On l Z p e R s m args below meth c y code maxL ret T h locs cells slots) {k : Fin 4} {v : Value} {q : Nat} (hd : decode code pc = .ok (.aload_n k, 1)) (hl : L[k.val]? = some (.val v)) (hv : v.isRef = true) (hp : pc + 1 = q) (K : Goes p e below F T (mkF m q L (v :: S))) : Goes p e below F T (mkF m pc L S) := by
  subst hp
  exact Goes.step (fun _ k => XS.aloadN X.1.here X.2.1.1 (g := mkF m pc L S) rfl (hb X.2.1.2.1 hd) hl hv k) K
theorem o_istore (X : On l Z p e R s m args below meth c y code maxL ret T h locs cells slots) {k : Nat} {x z : Int32} {q : Nat} (hd : decode code pc = .ok (.istore k, 2)) (hz : x = z) (hl : storeLocals L k (.int z) = some L') (hp : pc + 2 = q) (K : Goes p e below F T (mkF m q L' S)) : Goes p e below F T (mkF m pc L (.int x :: S)) := by
  subst hz hp
  exact Goes.step (fun _ k => XS.istore X.1.here X.2.1.1 (g := mkF m pc L (.int x :: S)) rfl (hb X.2.1.2.1 hd) rfl hl k) K
theorem o_istoreN (X : On l Z p e R s m args below meth c y code maxL ret T h locs cells slots) {k : Fin 4} {x z : Int32} {q : Nat} (hd : decode code pc = .ok (.istore_n k, 1)) (hz : x = z) (hl : storeLocals L k.val (.int z) = some L') (hp : pc + 1 = q) (K : Goes p e below F T (mkF m q L' S)) : Goes p e below F T (mkF m pc L (.int x :: S)) := by
  subst hz hp
  exact Goes.step (fun _ k => XS.istoreN X.1.here X.2.1.1 (g := mkF m pc L (.int x :: S)) rfl (hb X.2.1.2.1 hd) rfl hl k) K
theorem o_lstore (X : On l Z p e R s m args below meth c y code maxL ret T h locs cells slots) {k : Nat} {x z : Int64} {q : Nat} (hd : decode code pc = .ok (.lstore k, 2)) (hz : x = z) (hl : storeLocals L k (.long z) = some L') (hp : pc + 2 = q) (K : Goes p e below F T (mkF m q L' S)) : Goes p e below F T (mkF m pc L (.long x :: S)) := by
  subst hz hp
  exact Goes.step (fun _ k => XS.lstore X.1.here X.2.1.1 (g := mkF m pc L (.long x :: S)) rfl (hb X.2.1.2.1 hd) rfl hl k) K
theorem o_lstoreN (X : On l Z p e R s m args below meth c y code maxL ret T h locs cells slots) {k : Fin 4} {x z : Int64} {q : Nat} (hd : decode code pc = .ok (.lstore_n k, 1)) (hz : x = z) (hl : storeLocals L k.val (.long z) = some L') (hp : pc + 1 = q) (K : Goes p e below F T (mkF m q L' S)) : Goes p e below F T (mkF m pc L (.long x :: S)) := by
  subst hz hp
  exact Goes.step (fun _ k => XS.lstoreN X.1.here X.2.1.1 (g := mkF m pc L (.long x :: S)) rfl (hb X.2.1.2.1 hd) rfl hl k) K
theorem o_astore (X : On l Z p e R s m args below meth c y code maxL ret T h locs cells slots) {k : Nat} {x : Value} {q : Nat} (hd : decode code pc = .ok (.astore k, 2)) (hv : x.isRef = true) (hl : storeLocals L k x = some L') (hp : pc + 2 = q) (K : Goes p e below F T (mkF m q L' S)) : Goes p e below F T (mkF m pc L (x :: S)) := by
  subst hp
  exact Goes.step (fun _ k => XS.astore X.1.here X.2.1.1 (g := mkF m pc L (x :: S)) rfl (hb X.2.1.2.1 hd) rfl hv hl k) K
theorem o_astoreN (X : On l Z p e R s m args below meth c y code maxL ret T h locs cells slots) {k : Fin 4} {x : Value} {q : Nat} (hd : decode code pc = .ok (.astore_n k, 1)) (hv : x.isRef = true) (hl : storeLocals L k.val x = some L') (hp : pc + 1 = q) (K : Goes p e below F T (mkF m q L' S)) : Goes p e below F T (mkF m pc L (x :: S)) := by
  subst hp
  exact Goes.step (fun _ k => XS.astoreN X.1.here X.2.1.1 (g := mkF m pc L (x :: S)) rfl (hb X.2.1.2.1 hd) rfl hv hl k) K
theorem o_iconst (X : On l Z p e R s m args below meth c y code maxL ret T h locs cells slots) {i : Int} {w : Int32} {q : Nat} (hd : decode code pc = .ok (.iconst i, 1)) (hw : Int32.ofInt i = w) (hp : pc + 1 = q) (K : Goes p e below F T (mkF m q L (.int w :: S))) : Goes p e below F T (mkF m pc L S) := by
  subst hw hp
  exact Goes.step (fun _ k => XS.iconst X.1.here X.2.1.1 (g := mkF m pc L S) rfl (hb X.2.1.2.1 hd) k) K
theorem o_bipush (X : On l Z p e R s m args below meth c y code maxL ret T h locs cells slots) {i : Int} {w : Int32} {q : Nat} (hd : decode code pc = .ok (.bipush i, 2)) (hw : (Int8.ofInt i).toInt32 = w) (hp : pc + 2 = q) (K : Goes p e below F T (mkF m q L (.int w :: S))) : Goes p e below F T (mkF m pc L S) := by
  subst hw hp
  exact Goes.step (fun _ k => XS.bipush X.1.here X.2.1.1 (g := mkF m pc L S) rfl (hb X.2.1.2.1 hd) k) K
theorem o_sipush (X : On l Z p e R s m args below meth c y code maxL ret T h locs cells slots) {i : Int} {w : Int32} {q : Nat} (hd : decode code pc = .ok (.sipush i, 3)) (hw : (Int16.ofInt i).toInt32 = w) (hp : pc + 3 = q) (K : Goes p e below F T (mkF m q L (.int w :: S))) : Goes p e below F T (mkF m pc L S) := by
  subst hw hp
  exact Goes.step (fun _ k => XS.sipush X.1.here X.2.1.1 (g := mkF m pc L S) rfl (hb X.2.1.2.1 hd) k) K
theorem o_lconst (X : On l Z p e R s m args below meth c y code maxL ret T h locs cells slots) {i : Fin 2} {w : Int64} {q : Nat} (hd : decode code pc = .ok (.lconst i, 1)) (hw : Int64.ofNat i = w) (hp : pc + 1 = q) (K : Goes p e below F T (mkF m q L (.long w :: S))) : Goes p e below F T (mkF m pc L S) := by
  subst hw hp
  exact Goes.step (fun _ k => XS.lconst X.1.here X.2.1.1 (g := mkF m pc L S) rfl (hb X.2.1.2.1 hd) k) K
theorem o_null (X : On l Z p e R s m args below meth c y code maxL ret T h locs cells slots)  {q : Nat} (hd : decode code pc = .ok (.aconst_null, 1)) (hp : pc + 1 = q) (K : Goes p e below F T (mkF m q L (.null :: S))) : Goes p e below F T (mkF m pc L S) := by
  subst hp
  exact Goes.step (fun _ k => XS.aconstNull X.1.here X.2.1.1 (g := mkF m pc L S) rfl (hb X.2.1.2.1 hd)  k) K
theorem o_iadd (X : On l Z p e R s m args below meth c y code maxL ret T h locs cells slots) {x : Int32} {z : Int32} {w : Int32} {q : Nat} (hd : decode code pc = .ok (.iadd, 1)) (hw : x + z = w) (hp : pc + 1 = q) (K : Goes p e below F T (mkF m q L (.int w :: S))) : Goes p e below F T (mkF m pc L (.int z :: .int x :: S)) := by
  subst hw hp
  exact Goes.step (fun _ k => XS.iadd X.1.here X.2.1.1 (g := mkF m pc L (.int z :: .int x :: S)) rfl (hb X.2.1.2.1 hd) rfl  k) K
theorem o_isub (X : On l Z p e R s m args below meth c y code maxL ret T h locs cells slots) {x : Int32} {z : Int32} {w : Int32} {q : Nat} (hd : decode code pc = .ok (.isub, 1)) (hw : x - z = w) (hp : pc + 1 = q) (K : Goes p e below F T (mkF m q L (.int w :: S))) : Goes p e below F T (mkF m pc L (.int z :: .int x :: S)) := by
  subst hw hp
  exact Goes.step (fun _ k => XS.isub X.1.here X.2.1.1 (g := mkF m pc L (.int z :: .int x :: S)) rfl (hb X.2.1.2.1 hd) rfl  k) K
theorem o_imul (X : On l Z p e R s m args below meth c y code maxL ret T h locs cells slots) {x : Int32} {z : Int32} {w : Int32} {q : Nat} (hd : decode code pc = .ok (.imul, 1)) (hw : x * z = w) (hp : pc + 1 = q) (K : Goes p e below F T (mkF m q L (.int w :: S))) : Goes p e below F T (mkF m pc L (.int z :: .int x :: S)) := by
  subst hw hp
  exact Goes.step (fun _ k => XS.imul X.1.here X.2.1.1 (g := mkF m pc L (.int z :: .int x :: S)) rfl (hb X.2.1.2.1 hd) rfl  k) K
theorem o_iand (X : On l Z p e R s m args below meth c y code maxL ret T h locs cells slots) {x : Int32} {z : Int32} {w : Int32} {q : Nat} (hd : decode code pc = .ok (.iand, 1)) (hw : x &&& z = w) (hp : pc + 1 = q) (K : Goes p e below F T (mkF m q L (.int w :: S))) : Goes p e below F T (mkF m pc L (.int z :: .int x :: S)) := by
  subst hw hp
  exact Goes.step (fun _ k => XS.iand X.1.here X.2.1.1 (g := mkF m pc L (.int z :: .int x :: S)) rfl (hb X.2.1.2.1 hd) rfl  k) K
theorem o_ior (X : On l Z p e R s m args below meth c y code maxL ret T h locs cells slots) {x : Int32} {z : Int32} {w : Int32} {q : Nat} (hd : decode code pc = .ok (.ior, 1)) (hw : x ||| z = w) (hp : pc + 1 = q) (K : Goes p e below F T (mkF m q L (.int w :: S))) : Goes p e below F T (mkF m pc L (.int z :: .int x :: S)) := by
  subst hw hp
  exact Goes.step (fun _ k => XS.ior X.1.here X.2.1.1 (g := mkF m pc L (.int z :: .int x :: S)) rfl (hb X.2.1.2.1 hd) rfl  k) K
theorem o_ixor (X : On l Z p e R s m args below meth c y code maxL ret T h locs cells slots) {x : Int32} {z : Int32} {w : Int32} {q : Nat} (hd : decode code pc = .ok (.ixor, 1)) (hw : x ^^^ z = w) (hp : pc + 1 = q) (K : Goes p e below F T (mkF m q L (.int w :: S))) : Goes p e below F T (mkF m pc L (.int z :: .int x :: S)) := by
  subst hw hp
  exact Goes.step (fun _ k => XS.ixor X.1.here X.2.1.1 (g := mkF m pc L (.int z :: .int x :: S)) rfl (hb X.2.1.2.1 hd) rfl  k) K
theorem o_ishl (X : On l Z p e R s m args below meth c y code maxL ret T h locs cells slots) {x : Int32} {z : Int32} {w : Int32} {q : Nat} (hd : decode code pc = .ok (.ishl, 1)) (hw : x <<< (z &&& 31) = w) (hp : pc + 1 = q) (K : Goes p e below F T (mkF m q L (.int w :: S))) : Goes p e below F T (mkF m pc L (.int z :: .int x :: S)) := by
  subst hw hp
  exact Goes.step (fun _ k => XS.ishl X.1.here X.2.1.1 (g := mkF m pc L (.int z :: .int x :: S)) rfl (hb X.2.1.2.1 hd) rfl  k) K
theorem o_ishr (X : On l Z p e R s m args below meth c y code maxL ret T h locs cells slots) {x : Int32} {z : Int32} {w : Int32} {q : Nat} (hd : decode code pc = .ok (.ishr, 1)) (hw : x >>> (z &&& 31) = w) (hp : pc + 1 = q) (K : Goes p e below F T (mkF m q L (.int w :: S))) : Goes p e below F T (mkF m pc L (.int z :: .int x :: S)) := by
  subst hw hp
  exact Goes.step (fun _ k => XS.ishr X.1.here X.2.1.1 (g := mkF m pc L (.int z :: .int x :: S)) rfl (hb X.2.1.2.1 hd) rfl  k) K
theorem o_iushr (X : On l Z p e R s m args below meth c y code maxL ret T h locs cells slots) {x : Int32} {z : Int32} {w : Int32} {q : Nat} (hd : decode code pc = .ok (.iushr, 1)) (hw : (x.toUInt32 >>> (z &&& 31).toUInt32).toInt32 = w) (hp : pc + 1 = q) (K : Goes p e below F T (mkF m q L (.int w :: S))) : Goes p e below F T (mkF m pc L (.int z :: .int x :: S)) := by
  subst hw hp
  exact Goes.step (fun _ k => XS.iushr X.1.here X.2.1.1 (g := mkF m pc L (.int z :: .int x :: S)) rfl (hb X.2.1.2.1 hd) rfl  k) K
theorem o_ladd (X : On l Z p e R s m args below meth c y code maxL ret T h locs cells slots) {x : Int64} {z : Int64} {w : Int64} {q : Nat} (hd : decode code pc = .ok (.ladd, 1)) (hw : x + z = w) (hp : pc + 1 = q) (K : Goes p e below F T (mkF m q L (.long w :: S))) : Goes p e below F T (mkF m pc L (.long z :: .long x :: S)) := by
  subst hw hp
  exact Goes.step (fun _ k => XS.ladd X.1.here X.2.1.1 (g := mkF m pc L (.long z :: .long x :: S)) rfl (hb X.2.1.2.1 hd) rfl  k) K
theorem o_lsub (X : On l Z p e R s m args below meth c y code maxL ret T h locs cells slots) {x : Int64} {z : Int64} {w : Int64} {q : Nat} (hd : decode code pc = .ok (.lsub, 1)) (hw : x - z = w) (hp : pc + 1 = q) (K : Goes p e below F T (mkF m q L (.long w :: S))) : Goes p e below F T (mkF m pc L (.long z :: .long x :: S)) := by
  subst hw hp
  exact Goes.step (fun _ k => XS.lsub X.1.here X.2.1.1 (g := mkF m pc L (.long z :: .long x :: S)) rfl (hb X.2.1.2.1 hd) rfl  k) K
theorem o_lmul (X : On l Z p e R s m args below meth c y code maxL ret T h locs cells slots) {x : Int64} {z : Int64} {w : Int64} {q : Nat} (hd : decode code pc = .ok (.lmul, 1)) (hw : x * z = w) (hp : pc + 1 = q) (K : Goes p e below F T (mkF m q L (.long w :: S))) : Goes p e below F T (mkF m pc L (.long z :: .long x :: S)) := by
  subst hw hp
  exact Goes.step (fun _ k => XS.lmul X.1.here X.2.1.1 (g := mkF m pc L (.long z :: .long x :: S)) rfl (hb X.2.1.2.1 hd) rfl  k) K
theorem o_land (X : On l Z p e R s m args below meth c y code maxL ret T h locs cells slots) {x : Int64} {z : Int64} {w : Int64} {q : Nat} (hd : decode code pc = .ok (.land, 1)) (hw : x &&& z = w) (hp : pc + 1 = q) (K : Goes p e below F T (mkF m q L (.long w :: S))) : Goes p e below F T (mkF m pc L (.long z :: .long x :: S)) := by
  subst hw hp
  exact Goes.step (fun _ k => XS.land X.1.here X.2.1.1 (g := mkF m pc L (.long z :: .long x :: S)) rfl (hb X.2.1.2.1 hd) rfl  k) K
theorem o_lor (X : On l Z p e R s m args below meth c y code maxL ret T h locs cells slots) {x : Int64} {z : Int64} {w : Int64} {q : Nat} (hd : decode code pc = .ok (.lor, 1)) (hw : x ||| z = w) (hp : pc + 1 = q) (K : Goes p e below F T (mkF m q L (.long w :: S))) : Goes p e below F T (mkF m pc L (.long z :: .long x :: S)) := by
  subst hw hp
  exact Goes.step (fun _ k => XS.lor X.1.here X.2.1.1 (g := mkF m pc L (.long z :: .long x :: S)) rfl (hb X.2.1.2.1 hd) rfl  k) K
theorem o_lxor (X : On l Z p e R s m args below meth c y code maxL ret T h locs cells slots) {x : Int64} {z : Int64} {w : Int64} {q : Nat} (hd : decode code pc = .ok (.lxor, 1)) (hw : x ^^^ z = w) (hp : pc + 1 = q) (K : Goes p e below F T (mkF m q L (.long w :: S))) : Goes p e below F T (mkF m pc L (.long z :: .long x :: S)) := by
  subst hw hp
  exact Goes.step (fun _ k => XS.lxor X.1.here X.2.1.1 (g := mkF m pc L (.long z :: .long x :: S)) rfl (hb X.2.1.2.1 hd) rfl  k) K
theorem o_lshl (X : On l Z p e R s m args below meth c y code maxL ret T h locs cells slots) {x : Int64} {z : Int32} {w : Int64} {q : Nat} (hd : decode code pc = .ok (.lshl, 1)) (hw : x <<< (z &&& 0x3f).toInt64 = w) (hp : pc + 1 = q) (K : Goes p e below F T (mkF m q L (.long w :: S))) : Goes p e below F T (mkF m pc L (.int z :: .long x :: S)) := by
  subst hw hp
  exact Goes.step (fun _ k => XS.lshl X.1.here X.2.1.1 (g := mkF m pc L (.int z :: .long x :: S)) rfl (hb X.2.1.2.1 hd) rfl  k) K
theorem o_lshr (X : On l Z p e R s m args below meth c y code maxL ret T h locs cells slots) {x : Int64} {z : Int32} {w : Int64} {q : Nat} (hd : decode code pc = .ok (.lshr, 1)) (hw : x >>> (z &&& 0x3f).toInt64 = w) (hp : pc + 1 = q) (K : Goes p e below F T (mkF m q L (.long w :: S))) : Goes p e below F T (mkF m pc L (.int z :: .long x :: S)) := by
  subst hw hp
  exact Goes.step (fun _ k => XS.lshr X.1.here X.2.1.1 (g := mkF m pc L (.int z :: .long x :: S)) rfl (hb X.2.1.2.1 hd) rfl  k) K
theorem o_lushr (X : On l Z p e R s m args below meth c y code maxL ret T h locs cells slots) {x : Int64} {z : Int32} {w : Int64} {q : Nat} (hd : decode code pc = .ok (.lushr, 1)) (hw : (x.toUInt64 >>> (z &&& 0x3f).toInt64.toUInt64).toInt64 = w) (hp : pc + 1 = q) (K : Goes p e below F T (mkF m q L (.long w :: S))) : Goes p e below F T (mkF m pc L (.int z :: .long x :: S)) := by
  subst hw hp
  exact Goes.step (fun _ k => XS.lushr X.1.here X.2.1.1 (g := mkF m pc L (.int z :: .long x :: S)) rfl (hb X.2.1.2.1 hd) rfl  k) K
theorem o_idiv (X : On l Z p e R s m args below meth c y code maxL ret T h locs cells slots) {x : Int32} {z : Int32} {w : Int32} {q : Nat} (hd : decode code pc = .ok (.idiv, 1)) (hn : z ≠ 0) (hw : x / z = w) (hp : pc + 1 = q) (K : Goes p e below F T (mkF m q L (.int w :: S))) : Goes p e below F T (mkF m pc L (.int z :: .int x :: S)) := by
  subst hw hp
  exact Goes.step (fun _ k => XS.idiv X.1.here X.2.1.1 (g := mkF m pc L (.int z :: .int x :: S)) rfl (hb X.2.1.2.1 hd) rfl hn k) K
theorem o_irem (X : On l Z p e R s m args below meth c y code maxL ret T h locs cells slots) {x : Int32} {z : Int32} {w : Int32} {q : Nat} (hd : decode code pc = .ok (.irem, 1)) (hn : z ≠ 0) (hw : x % z = w) (hp : pc + 1 = q) (K : Goes p e below F T (mkF m q L (.int w :: S))) : Goes p e below F T (mkF m pc L (.int z :: .int x :: S)) := by
  subst hw hp
  exact Goes.step (fun _ k => iremM (g := mkF m pc L (.int z :: .int x :: S)) X.1 X.2.1.1 rfl (hb X.2.1.2.1 hd) rfl hn k) K
theorem o_lcmp (X : On l Z p e R s m args below meth c y code maxL ret T h locs cells slots) {x : Int64} {z : Int64} {w : Int32} {q : Nat} (hd : decode code pc = .ok (.lcmp, 1)) (hw : lcmpW x z = w) (hp : pc + 1 = q) (K : Goes p e below F T (mkF m q L (.int w :: S))) : Goes p e below F T (mkF m pc L (.long z :: .long x :: S)) := by
  subst hw hp
  exact Goes.step (fun _ k => XS.lcmp X.1.here X.2.1.1 (g := mkF m pc L (.long z :: .long x :: S)) rfl (hb X.2.1.2.1 hd) rfl  k) K
theorem o_ineg (X : On l Z p e R s m args below meth c y code maxL ret T h locs cells slots) {x : Int32} {w : Int32} {q : Nat} (hd : decode code pc = .ok (.ineg, 1)) (hw : -x = w) (hp : pc + 1 = q) (K : Goes p e below F T (mkF m q L (.int w :: S))) : Goes p e below F T (mkF m pc L (.int x :: S)) := by
  subst hw hp
  exact Goes.step (fun _ k => XS.ineg X.1.here X.2.1.1 (g := mkF m pc L (.int x :: S)) rfl (hb X.2.1.2.1 hd) rfl k) K
theorem o_lneg (X : On l Z p e R s m args below meth c y code maxL ret T h locs cells slots) {x : Int64} {w : Int64} {q : Nat} (hd : decode code pc = .ok (.lneg, 1)) (hw : -x = w) (hp : pc + 1 = q) (K : Goes p e below F T (mkF m q L (.long w :: S))) : Goes p e below F T (mkF m pc L (.long x :: S)) := by
  subst hw hp
  exact Goes.step (fun _ k => XS.lneg X.1.here X.2.1.1 (g := mkF m pc L (.long x :: S)) rfl (hb X.2.1.2.1 hd) rfl k) K
theorem o_i2l (X : On l Z p e R s m args below meth c y code maxL ret T h locs cells slots) {x : Int32} {w : Int64} {q : Nat} (hd : decode code pc = .ok (.i2l, 1)) (hw : x.toInt64 = w) (hp : pc + 1 = q) (K : Goes p e below F T (mkF m q L (.long w :: S))) : Goes p e below F T (mkF m pc L (.int x :: S)) := by
  subst hw hp
  exact Goes.step (fun _ k => XS.i2l X.1.here X.2.1.1 (g := mkF m pc L (.int x :: S)) rfl (hb X.2.1.2.1 hd) rfl k) K
theorem o_l2i (X : On l Z p e R s m args below meth c y code maxL ret T h locs cells slots) {x : Int64} {w : Int32} {q : Nat} (hd : decode code pc = .ok (.l2i, 1)) (hw : x.toInt32 = w) (hp : pc + 1 = q) (K : Goes p e below F T (mkF m q L (.int w :: S))) : Goes p e below F T (mkF m pc L (.long x :: S)) := by
  subst hw hp
  exact Goes.step (fun _ k => XS.l2i X.1.here X.2.1.1 (g := mkF m pc L (.long x :: S)) rfl (hb X.2.1.2.1 hd) rfl k) K
theorem o_i2b (X : On l Z p e R s m args below meth c y code maxL ret T h locs cells slots) {x : Int32} {w : Int32} {q : Nat} (hd : decode code pc = .ok (.i2b, 1)) (hw : x.toInt8.toInt32 = w) (hp : pc + 1 = q) (K : Goes p e below F T (mkF m q L (.int w :: S))) : Goes p e below F T (mkF m pc L (.int x :: S)) := by
  subst hw hp
  exact Goes.step (fun _ k => XS.i2b X.1.here X.2.1.1 (g := mkF m pc L (.int x :: S)) rfl (hb X.2.1.2.1 hd) rfl k) K
theorem o_i2c (X : On l Z p e R s m args below meth c y code maxL ret T h locs cells slots) {x : Int32} {w : Int32} {q : Nat} (hd : decode code pc = .ok (.i2c, 1)) (hw : x.toUInt32.toUInt16.toUInt32.toInt32 = w) (hp : pc + 1 = q) (K : Goes p e below F T (mkF m q L (.int w :: S))) : Goes p e below F T (mkF m pc L (.int x :: S)) := by
  subst hw hp
  exact Goes.step (fun _ k => XS.i2c X.1.here X.2.1.1 (g := mkF m pc L (.int x :: S)) rfl (hb X.2.1.2.1 hd) rfl k) K
theorem o_i2s (X : On l Z p e R s m args below meth c y code maxL ret T h locs cells slots) {x : Int32} {w : Int32} {q : Nat} (hd : decode code pc = .ok (.i2s, 1)) (hw : x.toInt16.toInt32 = w) (hp : pc + 1 = q) (K : Goes p e below F T (mkF m q L (.int w :: S))) : Goes p e below F T (mkF m pc L (.int x :: S)) := by
  subst hw hp
  exact Goes.step (fun _ k => XS.i2s X.1.here X.2.1.1 (g := mkF m pc L (.int x :: S)) rfl (hb X.2.1.2.1 hd) rfl k) K
theorem o_dup (X : On l Z p e R s m args below meth c y code maxL ret T h locs cells slots) {x : Value} {q : Nat} (hd : decode code pc = .ok (.dup, 1)) (hc : x.category = 1) (hp : pc + 1 = q) (K : Goes p e below F T (mkF m q L (x :: x :: S))) : Goes p e below F T (mkF m pc L (x :: S)) := by
  subst hp
  exact Goes.step (fun _ k => XS.dup X.1.here X.2.1.1 (g := mkF m pc L (x :: S)) rfl (hb X.2.1.2.1 hd) rfl hc k) K
theorem o_pop (X : On l Z p e R s m args below meth c y code maxL ret T h locs cells slots) {x : Value} {q : Nat} (hd : decode code pc = .ok (.pop, 1)) (hc : x.category = 1) (hp : pc + 1 = q) (K : Goes p e below F T (mkF m q L S)) : Goes p e below F T (mkF m pc L (x :: S)) := by
  subst hp
  exact Goes.step (fun _ k => XS.pop X.1.here X.2.1.1 (g := mkF m pc L (x :: S)) rfl (hb X.2.1.2.1 hd) rfl hc k) K
theorem o_dupX1 (X : On l Z p e R s m args below meth c y code maxL ret T h locs cells slots) {x z : Value} {q : Nat} (hd : decode code pc = .ok (.dup_x1, 1)) (hc : x.category = 1) (hc' : z.category = 1) (hp : pc + 1 = q) (K : Goes p e below F T (mkF m q L (x :: z :: x :: S))) : Goes p e below F T (mkF m pc L (x :: z :: S)) := by
  subst hp
  exact Goes.step (fun _ k => XS.dupX1 X.1.here X.2.1.1 (g := mkF m pc L (x :: z :: S)) rfl (hb X.2.1.2.1 hd) rfl hc hc' k) K
theorem o_dup2 (X : On l Z p e R s m args below meth c y code maxL ret T h locs cells slots) {x z : Value} {q : Nat} (hd : decode code pc = .ok (.dup2, 1)) (hc : x.category = 1) (hc' : z.category = 1) (hp : pc + 1 = q) (K : Goes p e below F T (mkF m q L (x :: z :: x :: z :: S))) : Goes p e below F T (mkF m pc L (x :: z :: S)) := by
  subst hp
  exact Goes.step (fun _ k => Jvm.Free.XT.dup2 X.1.here X.2.1.1 (g := mkF m pc L (x :: z :: S)) rfl (hb X.2.1.2.1 hd) rfl hc hc' k) K
theorem o_iinc (X : On l Z p e R s m args below meth c y code maxL ret T h locs cells slots) {k : Nat} {i : Int} {x z : Int32} {q : Nat} (hd : decode code pc = .ok (.iinc k i, 3)) (hl : L[k]? = some (.val (.int x))) (hz : x + Int32.ofInt i = z) (hl' : storeLocals L k (.int z) = some L') (hp : pc + 3 = q) (K : Goes p e below F T (mkF m q L' S)) : Goes p e below F T (mkF m pc L S) := by
  subst hz hp
  exact Goes.step (fun _ k => XS.iinc X.1.here X.2.1.1 (g := mkF m pc L S) rfl (hb X.2.1.2.1 hd) hl hl' k) K
theorem o_goto (X : On l Z p e R s m args below meth c y code maxL ret T h locs cells slots) {i : Int} {q : Nat} (hd : decode code pc = .ok (.goto i, 3)) (ho : 0 ≤ (pc : Int) + i) (hp : ((pc : Int) + i).toNat = q) (K : Goes p e below F T (mkF m q L S)) : Goes p e below F T (mkF m pc L S) := Goes.step (fun _ k => XS.goto X.1.here X.2.1.1 (g := mkF m pc L S) (pc0 := pc) rfl rfl (hb X.2.1.2.1 hd) ho hp k) K
theorem o_ifY (X : On l Z p e R s m args below meth c y code maxL ret T h locs cells slots) {cd : ClassFile.Cond} {i : Int} {x : Int32} {q : Nat} (hd : decode code pc = .ok (.ifCond cd i, 3)) (hc : if_icmp.holds cd x 0 = true) (ho : 0 ≤ (pc : Int) + i) (hp : ((pc : Int) + i).toNat = q) (K : Goes p e below F T (mkF m q L S)) : Goes p e below F T (mkF m pc L (.int x :: S)) := Goes.step (fun _ k => XS.ifYes X.1.here X.2.1.1 (g := mkF m pc L (.int x :: S)) rfl (pc0 := pc) rfl (hb X.2.1.2.1 hd) rfl ((if0 _ _).trans hc) ho hp k) K
theorem o_ifN (X : On l Z p e R s m args below meth c y code maxL ret T h locs cells slots) {cd : ClassFile.Cond} {i : Int} {x : Int32} {q : Nat} (hd : decode code pc = .ok (.ifCond cd i, 3)) (hc : if_icmp.holds cd x 0 = false) (hp : pc + 3 = q) (K : Goes p e below F T (mkF m q L S)) : Goes p e below F T (mkF m pc L (.int x :: S)) := by
  subst hp
  exact Goes.step (fun _ k => XS.ifNo X.1.here X.2.1.1 (g := mkF m pc L (.int x :: S)) rfl (hb X.2.1.2.1 hd) rfl ((if0 _ _).trans hc) k) K
theorem o_icmpY (X : On l Z p e R s m args below meth c y code maxL ret T h locs cells slots) {cd : ClassFile.Cond} {i : Int} {x z : Int32} {q : Nat} (hd : decode code pc = .ok (.if_icmp cd i, 3)) (hc : if_icmp.holds cd x z = true) (ho : 0 ≤ (pc : Int) + i) (hp : ((pc : Int) + i).toNat = q) (K : Goes p e below F T (mkF m q L S)) : Goes p e below F T (mkF m pc L (.int z :: .int x :: S)) := Goes.step (fun _ k => XS.icmpYes X.1.here X.2.1.1 (g := mkF m pc L (.int z :: .int x :: S)) rfl (pc0 := pc) rfl (hb X.2.1.2.1 hd) rfl hc ho hp k) K
theorem o_icmpN (X : On l Z p e R s m args below meth c y code maxL ret T h locs cells slots) {cd : ClassFile.Cond} {i : Int} {x z : Int32} {q : Nat} (hd : decode code pc = .ok (.if_icmp cd i, 3)) (hc : if_icmp.holds cd x z = false) (hp : pc + 3 = q) (K : Goes p e below F T (mkF m q L S)) : Goes p e below F T (mkF m pc L (.int z :: .int x :: S)) := by
  subst hp
  exact Goes.step (fun _ k => XS.icmpNo X.1.here X.2.1.1 (g := mkF m pc L (.int z :: .int x :: S)) rfl (hb X.2.1.2.1 hd) rfl hc k) K
theorem o_ifnullY (X : On l Z p e R s m args below meth c y code maxL ret T h locs cells slots) {i : Int} {q : Nat} (hd : decode code pc = .ok (.ifnull i, 3)) (ho : 0 ≤ (pc : Int) + i) (hp : ((pc : Int) + i).toNat = q) (K : Goes p e below F T (mkF m q L S)) : Goes p e below F T (mkF m pc L (.null :: S)) := Goes.step (fun _ k => XS.ifnullYes X.1.here X.2.1.1 (g := mkF m pc L (.null :: S)) rfl (pc0 := pc) rfl (hb X.2.1.2.1 hd) rfl ho hp k) K
theorem o_ifnullN (X : On l Z p e R s m args below meth c y code maxL ret T h locs cells slots) {i : Int} {q : Nat} {b : Addr} (hd : decode code pc = .ok (.ifnull i, 3)) (hp : pc + 3 = q) (K : Goes p e below F T (mkF m q L S)) : Goes p e below F T (mkF m pc L ((.ref b) :: S)) := by
  subst hp
  exact Goes.step (fun _ k => XS.ifnullNo X.1.here X.2.1.1 (g := mkF m pc L ((.ref b) :: S)) rfl (hb X.2.1.2.1 hd) rfl k) K
theorem o_ifnonnullY (X : On l Z p e R s m args below meth c y code maxL ret T h locs cells slots) {i : Int} {q : Nat} {b : Addr} (hd : decode code pc = .ok (.ifnonnull i, 3)) (ho : 0 ≤ (pc : Int) + i) (hp : ((pc : Int) + i).toNat = q) (K : Goes p e below F T (mkF m q L S)) : Goes p e below F T (mkF m pc L ((.ref b) :: S)) := Goes.step (fun _ k => XS.ifnonnullYes X.1.here X.2.1.1 (g := mkF m pc L ((.ref b) :: S)) rfl (pc0 := pc) rfl (hb X.2.1.2.1 hd) rfl ho hp k) K
theorem o_ifnonnullN (X : On l Z p e R s m args below meth c y code maxL ret T h locs cells slots) {i : Int} {q : Nat} (hd : decode code pc = .ok (.ifnonnull i, 3)) (hp : pc + 3 = q) (K : Goes p e below F T (mkF m q L S)) : Goes p e below F T (mkF m pc L (.null :: S)) := by
  subst hp
  exact Goes.step (fun _ k => XS.ifnonnullNo X.1.here X.2.1.1 (g := mkF m pc L (.null :: S)) rfl (hb X.2.1.2.1 hd) rfl k) K
theorem o_acmp (X : On l Z p e R s m args below meth c y code maxL ret T h locs cells slots) {cd : ACond} {i : Int} {x z : Value} {q : Nat} {same : Bool} (hd : decode code pc = .ok (.if_acmp cd i, 3)) (h1 : x.isRef = true) (h2 : z.isRef = true) (hq : decide (x = z) = same) (ho : 0 ≤ (pc : Int) + i) (hp : q = if acV cd same = true then ((pc : Int) + i).toNat else pc + 3) (K : Goes p e below F T (mkF m q L S)) : Goes p e below F T (mkF m pc L (z :: x :: S)) := Goes.step (fun _ k => Jvm.RoadKit.acmp (g := mkF m pc L (z :: x :: S)) X.1 X.2.1.1 rfl h1 h2 (pc0 := pc) rfl (hb X.2.1.2.1 hd) rfl hq ho hp k) K
theorem o_ldcI (X : On l Z p e R s m args below meth c y code maxL ret T h locs cells slots) {index : Nat} {v : Int32} {q : Nat} (w : (Jvm.Cond.constant y.cls index v).before a0 Z = true) (hd : decode code pc = .ok (.ldc index, 2)) (hp : pc + 2 = q) (K : Goes p e below F T (mkF m q L (.int v :: S))) : Goes p e below F T (mkF m pc L S) := by
  subst hp
  exact Goes.step (X.1.ldcInt X.2.1.1 X.2.1.2.2.2.1 (mvT X.2.1.2.2.1 w) (g := mkF m pc L S) rfl (hb X.2.1.2.1 hd)) K
theorem o_ldcJ (X : On l Z p e R s m args below meth c y code maxL ret T h locs cells slots) {index : Nat} {v : Int64} {q : Nat} (w : (Jvm.Cond.constantLong y.cls index v).before a0 Z = true) (hd : decode code pc = .ok (.ldc2_w index, 3)) (hp : pc + 3 = q) (K : Goes p e below F T (mkF m q L (.long v :: S))) : Goes p e below F T (mkF m pc L S) := by
  subst hp
  exact Goes.step (X.1.ldc2Long X.2.1.1 X.2.1.2.2.2.1 (mvT X.2.1.2.2.1 w) (g := mkF m pc L S) rfl (hb X.2.1.2.1 hd)) K
theorem o_new (X : On l Z p e R s m args below meth c y code maxL ret T h locs cells slots) {C : String} {index n q : Nat} (w : (Jvm.Cond.classLink y.cls index C).before a0 Z = true) (wi : (Jvm.Cond.instantiable C n).before a0 Z = true) (wz : (Jvm.Cond.initialized C).before a0 Z = true) (hd : decode code pc = .ok (.new index, 3)) (hc : cells + 1 ≤ R.cells) (hl : slots + n ≤ R.slots) (hp : pc + 3 = q)
    (K : ∀ (T' : State) (h' : Heap) (a : Addr), a = h.size → On l Z p e R s m args below meth c y code maxL ret T' h' locs (cells + 1) (slots + n) → Ext h h' → Exa Z h' a C → (∀ {O nm d : String} {ty : FieldType}, Laid Z a0 C O nm d → parseFieldDescriptor d = some ty → Fld Z h' a O nm d (defaultValue ty)) → Z.heap.size ≤ a → Goes p e below F T' (mkF m q L (.ref a :: S))) : Goes p e below F T (mkF m pc L S) := by
  subst hp
  obtain ⟨X1, C1, e1, N1, E1⟩ := X
  obtain ⟨T', h', X', e', E', A', D', -, st⟩ := newO X1 C1.1 C1.2.2.1 C1.2.2.2.1 w wi wz e1 (g := mkF m pc L S) rfl (hb C1.2.1 hd) hc hl
  exact Goes.step st (K T' h' h.size rfl ⟨X', C1, e', N1, ext_trans E1 E'⟩ E' A' D' E1.1)
theorem o_newarr (X : On l Z p e R s m args below meth c y code maxL ret T h locs cells slots) {aty : ArrayType} {n : Int32} {cap q : Nat} (N : Nat) (w : (Jvm.Cond.arrayClass (newarray.typeOf aty)).before a0 Z = true) (hd : decode code pc = .ok (.newarray aty, 2)) (hn : ¬ n < 0) (hcap : n.toNatClampNeg ≤ cap) (hb8 : cap * 8 ≤ 536870912) (hc : cells + 1 ≤ R.cells) (hl : slots + cap ≤ R.slots) (hp : pc + 2 = q)
    (K : ∀ (T' : State) (h' : Heap) (a : Addr) (k : ClassId), a = h.size → On l Z p e R s m args below meth c y code maxL ret T' h' locs (cells + 1) (slots + cap) → Ext h h' → Arv Z h' a k (newarray.typeOf aty) n (List.replicate N (defaultValue (newarray.typeOf aty))) (defaultValue (newarray.typeOf aty)) → Z.heap.size ≤ a → Goes p e below F T' (mkF m q L (.ref a :: S))) : Goes p e below F T (mkF m pc L (.int n :: S)) := by
  subst hp
  obtain ⟨X1, C1, e1, N1, E1⟩ := X
  obtain ⟨T', h', k, X', e', E', A', st⟩ := newP X1 C1.1 C1.2.2.1 w e1 (g := mkF m pc L (.int n :: S)) rfl (hb C1.2.1 hd) rfl hn hcap hb8 hc hl
  exact Goes.step st (K T' h' h.size k rfl ⟨X', C1, e', N1, ext_trans E1 E'⟩ E' ((Arv.new A' hn).pad (pad_rep [] _ N)) E1.1)
theorem o_getF (X : On l Z p e R s m args below meth c y code maxL ret T h locs cells slots) {R0 O n d host : String} {index q : Nat} {a : Addr} {v : Value} (Fx : Fld Z h a O n d v) (w : (Jvm.Cond.fieldLink y.cls index R0 n d).before a0 Z = true ∨ (Jvm.Cond.fieldLinkNest y.cls index R0 n d host).before a0 Z = true) (via : Via Z R0 O n d) (hd : decode code pc = .ok (.getfield index, 3)) (hp : pc + 3 = q)
    (K : ∀ T' : State, On l Z p e R s m args below meth c y code maxL ret T' h locs cells slots → Goes p e below F T' (mkF m q L (v :: S))) : Goes p e below F T (mkF m pc L (.ref a :: S)) := by
  subst hp
  obtain ⟨X1, C1, e1, N1, E1⟩ := X
  obtain ⟨T', X', e', st⟩ := getF X1 C1.1 C1.2.2.1 C1.2.2.2.1 w via e1 Fx (g := mkF m pc L (.ref a :: S)) rfl rfl (hb C1.2.1 hd)
  exact Goes.step st (K T' ⟨X', C1, e', N1, E1⟩)
theorem o_getS (X : On l Z p e R s m args below meth c y code maxL ret T h locs cells slots) {R0 O n d host : String} {index q : Nat} {v : Value} (Fx : Sta Z Z.heap O n d v) (w : (Jvm.Cond.fieldLink y.cls index R0 n d).before a0 Z = true ∨ (Jvm.Cond.fieldLinkNest y.cls index R0 n d host).before a0 Z = true) (via : Via Z R0 O n d) (hd : decode code pc = .ok (.getstatic index, 3)) (hp : pc + 3 = q)
    (K : ∀ T' : State, On l Z p e R s m args below meth c y code maxL ret T' h locs cells slots → Goes p e below F T' (mkF m q L (v :: S))) : Goes p e below F T (mkF m pc L S) := by
  subst hp
  obtain ⟨X1, C1, e1, N1, E1⟩ := X
  obtain ⟨T', X', e', st⟩ := getS2 X1 C1.1 C1.2.2.1 C1.2.2.2.1 w via e1 (Fx.ext E1) (g := mkF m pc L S) rfl (hb C1.2.1 hd)
  exact Goes.step st (K T' ⟨X', C1, e', N1, E1⟩)
theorem o_putF (X : On l Z p e R s m args below meth c y code maxL ret T h locs cells slots) {R0 O n d host C : String} {index kk q : Nat} {ty : FieldType} {a : Addr} {v old : Value} (Fx : Fld Z h a O n d old) (E : Exa Z h a C) (ha : Z.heap.size ≤ a) (w : (Jvm.Cond.fieldLink y.cls index R0 n d).before a0 Z = true ∨ (Jvm.Cond.fieldLinkNest y.cls index R0 n d host).before a0 Z = true) (via : Via Z R0 O n d)
    (Lw : (Jvm.Cond.lays C O n d).before a0 Z = true ∨ ((Jvm.Cond.laysFinal C O n d).before a0 Z = true ∧ y.cls = O ∧ y.name = "<init>")) (wi : (Jvm.Cond.instantiable C kk).before a0 Z = true) (hty : parseFieldDescriptor d = some ty) (hn : narrow ty v = v) (hf : fits ty v = true) (hd : decode code pc = .ok (.putfield index, 3)) (hp : pc + 3 = q)
    (K : ∀ (T' : State) (h' : Heap) (locs' : List Loc), On l Z p e R s m args below meth c y code maxL ret T' h' locs' cells slots → Wr h h' a (Jvm.RoadKit.slotOf Z O n d) v → Fld Z h' a O n d v → Goes p e below F T' (mkF m q L S)) : Goes p e below F T (mkF m pc L (v :: .ref a :: S)) := by
  subst hp
  obtain ⟨X1, C1, e1, N1, E1⟩ := X
  obtain ⟨T', h', X', e', W', st⟩ := putF X1 C1.1 C1.2.2.1 C1.2.2.2.1 w via e1 Fx E (Lw.imp_right fun q => ⟨q.1, q.2.1, C1.2.2.2.2.2.2.1.trans q.2.2⟩) wi hty hn hf (g := mkF m pc L (v :: .ref a :: S)) rfl rfl (hb C1.2.1 hd)
  exact Goes.step st (K T' h' _ ⟨X', C1, e', Fr.snoc X' N1 ha, ext_wr E1 W' ha⟩ W' (Fx.same W'))
theorem o_len (X : On l Z p e R s m args below meth c y code maxL ret T h locs cells slots) {a : Addr} {k : ClassId} {ty : FieldType} {n : Int32} {vs : List Value} {dv : Value} {q : Nat} (A : Arv Z h a k ty n vs dv) (hd : decode code pc = .ok (.arraylength, 1)) (hp : pc + 1 = q) (K : Goes p e below F T (mkF m q L (.int n :: S))) : Goes p e below F T (mkF m pc L (.ref a :: S)) := by
  subst hp
  obtain ⟨X1, C1, e1, N1, E1⟩ := X
  obtain ⟨cl, Ar, -, Sz, Nn, -⟩ := A
  refine Goes.step (X1.arraylength C1.1 (by rw [e1]; exact Ar.1) (State.isArrayOf_alike C1.2.2.1.alike Ar.2.1) (g := mkF m pc L (.ref a :: S)) rfl rfl (hb C1.2.1 hd)) ?_
  rw [len_of Sz Nn]
  exact K
theorem o_iaload (X : On l Z p e R s m args below meth c y code maxL ret T h locs cells slots) {a : Addr} {k : ClassId} {n j : Int32} {vs : List Value} {dv v : Value} {q : Nat} (A : Arv Z h a k .int n vs dv) (hj : ¬ j < 0 ∧ j < n) (hv : vs.getD j.toNatClampNeg dv = v) (hd : decode code pc = .ok (.iaload, 1)) (hp : pc + 1 = q) (K : Goes p e below F T (mkF m q L (v :: S))) : Goes p e below F T (mkF m pc L (.int j :: .ref a :: S)) := by
  subst hp
  obtain ⟨X1, C1, e1, N1, E1⟩ := X
  obtain ⟨cl, Ar, -, Sz, Nn, H, -⟩ := A
  have hin := inb_of Sz hj
  exact Goes.step (X1.iaload C1.1 (j := j) (v := v) (by rw [e1]; exact Ar.1) (State.isArrayOf_alike C1.2.2.1.alike Ar.2.1) Ar.2.2 hin (H.at hin hv) (g := mkF m pc L (.int j :: .ref a :: S)) rfl rfl (hb C1.2.1 hd)) K
theorem o_laload (X : On l Z p e R s m args below meth c y code maxL ret T h locs cells slots) {a : Addr} {k : ClassId} {n j : Int32} {vs : List Value} {dv v : Value} {q : Nat} (A : Arv Z h a k .long n vs dv) (hj : ¬ j < 0 ∧ j < n) (hv : vs.getD j.toNatClampNeg dv = v) (hd : decode code pc = .ok (.laload, 1)) (hp : pc + 1 = q) (K : Goes p e below F T (mkF m q L (v :: S))) : Goes p e below F T (mkF m pc L (.int j :: .ref a :: S)) := by
  subst hp
  obtain ⟨X1, C1, e1, N1, E1⟩ := X
  obtain ⟨cl, Ar, -, Sz, Nn, H, -⟩ := A
  have hin := inb_of Sz hj
  exact Goes.step (X1.laload C1.1 (j := j) (v := v) (by rw [e1]; exact Ar.1) (State.isArrayOf_alike C1.2.2.1.alike Ar.2.1) Ar.2.2 hin (H.at hin hv) (g := mkF m pc L (.int j :: .ref a :: S)) rfl rfl (hb C1.2.1 hd)) K
theorem o_caload (X : On l Z p e R s m args below meth c y code maxL ret T h locs cells slots) {a : Addr} {k : ClassId} {n j : Int32} {vs : List Value} {dv v : Value} {q : Nat} (A : Arv Z h a k .char n vs dv) (hj : ¬ j < 0 ∧ j < n) (hv : vs.getD j.toNatClampNeg dv = v) (hd : decode code pc = .ok (.caload, 1)) (hp : pc + 1 = q) (K : Goes p e below F T (mkF m q L (v :: S))) : Goes p e below F T (mkF m pc L (.int j :: .ref a :: S)) := by
  subst hp
  obtain ⟨X1, C1, e1, N1, E1⟩ := X
  obtain ⟨cl, Ar, -, Sz, Nn, H, -⟩ := A
  have hin := inb_of Sz hj
  exact Goes.step (X1.caload C1.1 (j := j) (v := v) (by rw [e1]; exact Ar.1) (State.isArrayOf_alike C1.2.2.1.alike Ar.2.1) Ar.2.2 hin (H.at hin hv) (g := mkF m pc L (.int j :: .ref a :: S)) rfl rfl (hb C1.2.1 hd)) K
theorem o_baload (X : On l Z p e R s m args below meth c y code maxL ret T h locs cells slots) {a : Addr} {k : ClassId} {n j : Int32} {vs : List Value} {dv v : Value} {q : Nat} (A : Arv Z h a k .byte n vs dv) (hj : ¬ j < 0 ∧ j < n) (hv : vs.getD j.toNatClampNeg dv = v) (hd : decode code pc = .ok (.baload, 1)) (hp : pc + 1 = q) (K : Goes p e below F T (mkF m q L (v :: S))) : Goes p e below F T (mkF m pc L (.int j :: .ref a :: S)) := by
  subst hp
  obtain ⟨X1, C1, e1, N1, E1⟩ := X
  obtain ⟨cl, Ar, -, Sz, Nn, H, -⟩ := A
  have hin := inb_of Sz hj
  exact Goes.step (X1.baloadBytes C1.1 (j := j) (v := v) (by rw [e1]; exact Ar.1) (State.isArrayOf_alike C1.2.2.1.alike Ar.2.1) Ar.2.2 hin (H.at hin hv) (g := mkF m pc L (.int j :: .ref a :: S)) rfl rfl (hb C1.2.1 hd)) K
theorem o_aaload (X : On l Z p e R s m args below meth c y code maxL ret T h locs cells slots) {a : Addr} {k : ClassId} {ty : FieldType} {n j : Int32} {vs : List Value} {dv v : Value} {q : Nat} (A : Arv Z h a k ty n vs dv) (hty : ty.isReference = true) (hj : ¬ j < 0 ∧ j < n) (hv : vs.getD j.toNatClampNeg dv = v) (hd : decode code pc = .ok (.aaload, 1)) (hp : pc + 1 = q) (K : Goes p e below F T (mkF m q L (v :: S))) : Goes p e below F T (mkF m pc L (.int j :: .ref a :: S)) := by
  subst hp
  obtain ⟨X1, C1, e1, N1, E1⟩ := X
  obtain ⟨cl, Ar, -, Sz, Nn, H, -⟩ := A
  have hin := inb_of Sz hj
  exact Goes.step (X1.aaload C1.1 (j := j) (v := v) (by rw [e1]; exact Ar.1) (State.isArrayOf_alike C1.2.2.1.alike Ar.2.1) hty Ar.2.2 hin (H.at hin hv) (g := mkF m pc L (.int j :: .ref a :: S)) rfl rfl (hb C1.2.1 hd)) K
theorem o_iastore (X : On l Z p e R s m args below meth c y code maxL ret T h locs cells slots) {a : Addr} {k : ClassId} {n j : Int32} {x : Int32} {v : Value} {vs : List Value} {dv : Value} {q : Nat} (i : Nat) (A : Arv Z h a k .int n vs dv) (ha : Z.heap.size ≤ a) (hj : ¬ j < 0 ∧ j < n) (hi : j.toNatClampNeg = i) (hlt : i < vs.length) (hv : (.int x : Value) = v) (hd : decode code pc = .ok (.iastore, 1)) (hp : pc + 1 = q)
    (K : ∀ (T' : State) (h' : Heap) (locs' : List Loc), On l Z p e R s m args below meth c y code maxL ret T' h' locs' cells slots → Wr h h' a i v → Arv Z h' a k .int n (vs.set i v) dv → Goes p e below F T' (mkF m q L S)) : Goes p e below F T (mkF m pc L (.int x :: .int j :: .ref a :: S)) := by
  subst hp hv
  obtain ⟨X1, C1, e1, N1, E1⟩ := X
  obtain ⟨cl, Ar, q1, Sz, Nn, H, G⟩ := A
  obtain ⟨T', h', X', e', W', st⟩ := stI X1 C1.1 C1.2.2.1 e1 Ar (j := j) (inb_of Sz hj) (g := mkF m pc L (.int x :: .int j :: .ref a :: S)) rfl rfl (hb C1.2.1 hd)
  exact Goes.step st (K T' h' _ ⟨X', C1, e', Fr.snoc X' N1 ha, ext_wr E1 W' ha⟩ (hi ▸ W') (Arv.set Ar q1 Sz Nn H G rfl W' i hi hlt))
theorem o_lastore (X : On l Z p e R s m args below meth c y code maxL ret T h locs cells slots) {a : Addr} {k : ClassId} {n j : Int32} {x : Int64} {v : Value} {vs : List Value} {dv : Value} {q : Nat} (i : Nat) (A : Arv Z h a k .long n vs dv) (ha : Z.heap.size ≤ a) (hj : ¬ j < 0 ∧ j < n) (hi : j.toNatClampNeg = i) (hlt : i < vs.length) (hv : (.long x : Value) = v) (hd : decode code pc = .ok (.lastore, 1)) (hp : pc + 1 = q)
    (K : ∀ (T' : State) (h' : Heap) (locs' : List Loc), On l Z p e R s m args below meth c y code maxL ret T' h' locs' cells slots → Wr h h' a i v → Arv Z h' a k .long n (vs.set i v) dv → Goes p e below F T' (mkF m q L S)) : Goes p e below F T (mkF m pc L (.long x :: .int j :: .ref a :: S)) := by
  subst hp hv
  obtain ⟨X1, C1, e1, N1, E1⟩ := X
  obtain ⟨cl, Ar, q1, Sz, Nn, H, G⟩ := A
  obtain ⟨T', h', X', e', W', st⟩ := stJ X1 C1.1 C1.2.2.1 e1 Ar (j := j) (inb_of Sz hj) (g := mkF m pc L (.long x :: .int j :: .ref a :: S)) rfl rfl (hb C1.2.1 hd)
  exact Goes.step st (K T' h' _ ⟨X', C1, e', Fr.snoc X' N1 ha, ext_wr E1 W' ha⟩ (hi ▸ W') (Arv.set Ar q1 Sz Nn H G rfl W' i hi hlt))
theorem o_castore (X : On l Z p e R s m args below meth c y code maxL ret T h locs cells slots) {a : Addr} {k : ClassId} {n j : Int32} {x : Int32} {v : Value} {vs : List Value} {dv : Value} {q : Nat} (i : Nat) (A : Arv Z h a k .char n vs dv) (ha : Z.heap.size ≤ a) (hj : ¬ j < 0 ∧ j < n) (hi : j.toNatClampNeg = i) (hlt : i < vs.length) (hv : (.int (nar .char x) : Value) = v) (hd : decode code pc = .ok (.castore, 1)) (hp : pc + 1 = q)
    (K : ∀ (T' : State) (h' : Heap) (locs' : List Loc), On l Z p e R s m args below meth c y code maxL ret T' h' locs' cells slots → Wr h h' a i v → Arv Z h' a k .char n (vs.set i v) dv → Goes p e below F T' (mkF m q L S)) : Goes p e below F T (mkF m pc L (.int x :: .int j :: .ref a :: S)) := by
  subst hp hv
  obtain ⟨X1, C1, e1, N1, E1⟩ := X
  obtain ⟨cl, Ar, q1, Sz, Nn, H, G⟩ := A
  obtain ⟨T', h', X', e', W', st⟩ := stC X1 C1.1 C1.2.2.1 e1 Ar (j := j) (inb_of Sz hj) (g := mkF m pc L (.int x :: .int j :: .ref a :: S)) rfl rfl (hb C1.2.1 hd)
  exact Goes.step st (K T' h' _ ⟨X', C1, e', Fr.snoc X' N1 ha, ext_wr E1 W' ha⟩ (hi ▸ W') (Arv.set Ar q1 Sz Nn H G (fits_nar_char x) W' i hi hlt))
theorem o_bastore (X : On l Z p e R s m args below meth c y code maxL ret T h locs cells slots) {a : Addr} {k : ClassId} {n j : Int32} {x : Int32} {v : Value} {vs : List Value} {dv : Value} {q : Nat} (i : Nat) (A : Arv Z h a k .byte n vs dv) (ha : Z.heap.size ≤ a) (hj : ¬ j < 0 ∧ j < n) (hi : j.toNatClampNeg = i) (hlt : i < vs.length) (hv : (.int (nar .byte x) : Value) = v) (hd : decode code pc = .ok (.bastore, 1)) (hp : pc + 1 = q)
    (K : ∀ (T' : State) (h' : Heap) (locs' : List Loc), On l Z p e R s m args below meth c y code maxL ret T' h' locs' cells slots → Wr h h' a i v → Arv Z h' a k .byte n (vs.set i v) dv → Goes p e below F T' (mkF m q L S)) : Goes p e below F T (mkF m pc L (.int x :: .int j :: .ref a :: S)) := by
  subst hp hv
  obtain ⟨X1, C1, e1, N1, E1⟩ := X
  obtain ⟨cl, Ar, q1, Sz, Nn, H, G⟩ := A
  obtain ⟨T', h', X', e', W', st⟩ := stB X1 C1.1 C1.2.2.1 e1 Ar (j := j) (inb_of Sz hj) (g := mkF m pc L (.int x :: .int j :: .ref a :: S)) rfl rfl (hb C1.2.1 hd)
  exact Goes.step st (K T' h' _ ⟨X', C1, e', Fr.snoc X' N1 ha, ext_wr E1 W' ha⟩ (hi ▸ W') (Arv.set Ar q1 Sz Nn H G (fits_nar_byte x) W' i hi hlt))
theorem o_ret (X : On l Z p e R s m args below meth c y code maxL none T h locs cells slots) {Q : Option Value → Heap → Prop} {rc rs : Nat} (hd : decode code pc = .ok (.return_, 1)) (hQ : Q none h) (hc : cells ≤ rc) (hs : slots ≤ rs) : Goes p e below (FinQ Z s Q rc rs) T (mkF m pc L []) := by
  obtain ⟨X1, C1, e1, N1, E1⟩ := X
  obtain ⟨fs, hr, hrun, hended, hW, hsame⟩ := X1.leave (v := none) (fun _ => rfl) C1.2.2.2.2.2.1
  refine ⟨_, _, X1.returnOut C1.1 C1.2.2.2.2.1 (hb C1.2.1 hd) hr, hrun, hended, _, _, rfl, ⟨?_, N1, ?_⟩, ⟨_, rfl⟩, hW, hsame.mono hc hs⟩
  · show Q none T.heap
    rw [e1]; exact hQ
  · show Ext Z.heap T.heap
    rw [e1]; exact E1
theorem o_retI (X : On l Z p e R s m args below meth c y code maxL (some .int) T h locs cells slots) {Q : Option Value → Heap → Prop} {rc rs : Nat} {z : Int32} (hd : decode code pc = .ok (.ireturn, 1)) (hQ : Q (some (.int z)) h) (hc : cells ≤ rc) (hs : slots ≤ rs) : Goes p e below (FinQ Z s Q rc rs) T (mkF m pc L (.int z :: S)) := by
  obtain ⟨X1, C1, e1, N1, E1⟩ := X
  obtain ⟨fs, hr, hrun, hended, hW, hsame⟩ := X1.leave (v := some (.int z)) (fun h => by rw [C1.2.2.2.2.1] at h; cases h) C1.2.2.2.2.2.1
  refine ⟨_, _, retOut X1 C1.1 C1.2.2.2.2.1 rfl (Or.inl ⟨rfl, Or.inl rfl, z, rfl⟩) (hb C1.2.1 hd) hr, hrun, hended, _, _, rfl, ⟨?_, N1, ?_⟩, ⟨_, rfl⟩, hW, hsame.mono hc hs⟩
  · show Q _ T.heap
    rw [e1]; exact hQ
  · show Ext Z.heap T.heap
    rw [e1]; exact E1
theorem o_retN {t : FieldType} (X : On l Z p e R s m args below meth c y code maxL (some t) T h locs cells slots) {Q : Option Value → Heap → Prop} {rc rs : Nat} {z : Int32} (hd : decode code pc = .ok (.ireturn, 1)) (ht : t = .boolean ∨ t = .byte ∨ t = .char ∨ t = .short) (hQ : Q (some (.int (nar t z))) h) (hc : cells ≤ rc) (hs : slots ≤ rs) : Goes p e below (FinQ Z s Q rc rs) T (mkF m pc L (.int z :: S)) := by
  obtain ⟨X1, C1, e1, N1, E1⟩ := X
  obtain ⟨fs, hr, hrun, hended, hW, hsame⟩ := X1.leave (v := some (.int (nar t z))) (fun h => by rw [C1.2.2.2.2.1] at h; cases h) C1.2.2.2.2.2.1
  refine ⟨_, _, retN X1 C1.1 C1.2.2.2.2.1 ht (hb C1.2.1 hd) hr, hrun, hended, _, _, rfl, ⟨?_, N1, ?_⟩, ⟨_, rfl⟩, hW, hsame.mono hc hs⟩
  · show Q _ T.heap
    rw [e1]; exact hQ
  · show Ext Z.heap T.heap
    rw [e1]; exact E1
theorem o_retR {t : FieldType} (X : On l Z p e R s m args below meth c y code maxL (some t) T h locs cells slots) {Q : Option Value → Heap → Prop} {rc rs : Nat} {v : Value} (hd : decode code pc = .ok (.areturn, 1)) (ht : t.isReference = true) (hv : v.isRef = true) (hn : narrow t v = v) (hQ : Q (some v) h) (hc : cells ≤ rc) (hs : slots ≤ rs) : Goes p e below (FinQ Z s Q rc rs) T (mkF m pc L (v :: S)) := by
  obtain ⟨X1, C1, e1, N1, E1⟩ := X
  obtain ⟨fs, hr, hrun, hended, hW, hsame⟩ := X1.leave (v := some v) (fun h => by rw [C1.2.2.2.2.1] at h; cases h) C1.2.2.2.2.2.1
  refine ⟨_, _, retOut X1 C1.1 C1.2.2.2.2.1 hn (Or.inr (Or.inr (Or.inr (Or.inr ⟨rfl, ht, hv⟩)))) (hb C1.2.1 hd) hr, hrun, hended, _, _, rfl, ⟨?_, N1, ?_⟩, ⟨_, rfl⟩, hW, hsame.mono hc hs⟩
  · show Q _ T.heap
    rw [e1]; exact hQ
  · show Ext Z.heap T.heap
    rw [e1]; exact E1
theorem o_retJ (X : On l Z p e R s m args below meth c y code maxL (some .long) T h locs cells slots) {Q : Option Value → Heap → Prop} {rc rs : Nat} {z : Int64} (hd : decode code pc = .ok (.lreturn, 1)) (hQ : Q (some (.long z)) h) (hc : cells ≤ rc) (hs : slots ≤ rs) : Goes p e below (FinQ Z s Q rc rs) T (mkF m pc L (.long z :: S)) := by
  obtain ⟨X1, C1, e1, N1, E1⟩ := X
  obtain ⟨fs, hr, hrun, hended, hW, hsame⟩ := X1.leave (v := some (.long z)) (fun h => by rw [C1.2.2.2.2.1] at h; cases h) C1.2.2.2.2.2.1
  refine ⟨_, _, retOut X1 C1.1 C1.2.2.2.2.1 rfl (Or.inr (Or.inl ⟨rfl, rfl, z, rfl⟩)) (hb C1.2.1 hd) hr, hrun, hended, _, _, rfl, ⟨?_, N1, ?_⟩, ⟨_, rfl⟩, hW, hsame.mono hc hs⟩
  · show Q _ T.heap
    rw [e1]; exact hQ
  · show Ext Z.heap T.heap
    rw [e1]; exact E1
theorem o_initO (X : On l Z p e R s m args below meth c y code maxL ret T h locs cells slots) {idx q : Nat} {a : Addr} (w1 : (Jvm.Cond.methodLink y.cls idx Lib.objectInit).before a0 Z = true) (w2 : (Jvm.Cond.instanceMethod Lib.objectInit).before a0 Z = true) (w3 : (Jvm.Cond.code Lib.objectInit ⟨#[0xb1]⟩ 1 none).before a0 Z = true) (hd : decode code pc = .ok (.invokespecial idx, 3)) (hL : L.size = maxL) (hf : 1 ≤ R.frames) (hl : (S.map fun v => v.category).sum + 12 ≤ R.locals) (hp : pc + 3 = q)
    (K : ∀ T' : State, On l Z p e R s m args below meth c y code maxL ret T' h locs cells slots → Goes p e below F T' (mkF m q L S)) : Goes p e below F T (mkF m pc L (.ref a :: S)) := by
  subst hp
  obtain ⟨X1, C1, e1, N1, E1⟩ := X
  obtain ⟨T', X', e', st⟩ := initO X1 C1.1 C1.2.2.1 C1.2.2.2.1 w1 w2 w3 e1 (g := mkF m pc L (.ref a :: S)) rfl (hL.trans C1.2.2.2.2.2.2.2.symm) rfl (hb C1.2.1 hd) hf (W := (S.map fun v => v.category).sum) (by show 2 * 0 + _ ≤ _; omega) hl
  exact Goes.step st (K T' ⟨X', C1, e', N1, E1⟩)
/-- a call that some Back pays: what its Post says of the heap behind -/
theorem o_specB (X : On l Z p e R s m args below meth c y code maxL ret T h locs cells slots) {y' : MethodName} {index W q : Nat} {bytes : ByteArray} {maxL' : Nat} {Q : Option Value → Heap → List Loc → Prop} {rc rs : Nat} {as : Array Value} (argsL : List Value) {a : Addr} {rest : List Value}
    (hK : Back l R p e below s args y' 3 W (fun A b => b = as ∧ A.U.heap = h ∧ A.cells + rc ≤ R.cells ∧ A.slots + rs ≤ R.slots) (fun A _ v B => ∃ L, Q v B.U.heap L ∧ B.locs = A.locs ++ L ∧ B.cells = A.cells + rc ∧ B.slots = A.slots + rs))
    (hq : ∀ v h' L, Q v h' L → Fr Z.heap.size L ∧ Ext Z.heap h')
    (hy1 : y'.name = "<init>") (w1 : (Jvm.Cond.methodLink y.cls index y').before a0 Z = true) (w2 : (Jvm.Cond.instanceMethod y').before a0 Z = true) (w3 : (Jvm.Cond.code y' bytes maxL' none).before a0 Z = true) (hy : y'.cls ≠ "java/lang/invoke/MethodHandle" ∧ y'.cls ≠ "java/lang/invoke/VarHandle")
    (hd : decode code pc = .ok (.invokespecial index, 3)) (has : (.ref a :: argsL).toArray = as) (hL : L.size = maxL) (hlen : ∀ sig, parseMethodDescriptor y'.desc = some sig → argsL.length = sig.parameters.length) (hS : S = argsL.reverse ++ .ref a :: rest) (hW : (rest.map fun v => v.category).sum ≤ W) (hc : cells + rc ≤ R.cells) (hs : slots + rs ≤ R.slots) (hp : pc + 3 = q)
    (K : ∀ (v : Option Value) (T' : State) (h' : Heap) (L' locs' : List Loc), On l Z p e R s m args below meth c y code maxL ret T' h' locs' (cells + rc) (slots + rs) → Q v h' L' → Goes p e below F T' (mkF m q L (v.toList ++ rest))) : Goes p e below F T (mkF m pc L S) := by
  subst hp hS has
  obtain ⟨X1, C1, e1, N1, E1⟩ := X
  obtain ⟨v, vm1, ⟨T', L1, k1, n1⟩, -, X', ⟨Lc, hQ, e2, e3, e4⟩, st⟩ := X1.specialBack C1.1 hy1 C1.2.2.2.1 (mvT C1.2.2.1 w1) (mvT C1.2.2.1 w2) (mvT C1.2.2.1 w3) hy hK (g := mkF m pc L (argsL.reverse ++ .ref a :: rest)) rfl (hL.trans C1.2.2.2.2.2.2.2.symm) (Steps.refl _) hlen rfl (by show 2 * 0 + _ ≤ _; omega) (hb C1.2.1 hd) (fun _ _ => ⟨rfl, e1, hc, hs⟩)
  dsimp only [Pt.U, Pt.locs, Pt.cells, Pt.slots] at X' hQ e2 e3 e4 st
  subst e2 e3 e4
  obtain ⟨f1, f2⟩ := hq _ _ _ hQ
  exact Goes.step (fun _ k => st.trans k) (K v T' T'.heap Lc _ ⟨X', C1, rfl, Fr.app N1 f1, f2⟩ hQ)
theorem o_virtB (X : On l Z p e R s m args below meth c y code maxL ret T h locs cells slots) {C : String} {y' : MethodName} {index W q : Nat} {Q : Option Value → Heap → List Loc → Prop} {rc rs : Nat} {as : Array Value} (argsL : List Value) {a : Addr} {rest : List Value} (E : Exa Z h a C)
    (hK : Back l R p e below s args y' 3 W (fun A b => b = as ∧ A.U.heap = h ∧ A.cells + rc ≤ R.cells ∧ A.slots + rs ≤ R.slots) (fun A _ v B => ∃ L, Q v B.U.heap L ∧ B.locs = A.locs ++ L ∧ B.cells = A.cells + rc ∧ B.slots = A.slots + rs))
    (hq : ∀ v h' L, Q v h' L → Fr Z.heap.size L ∧ Ext Z.heap h')
    (w1 : (Jvm.Cond.methodLink y.cls index y').before a0 Z = true) (w2 : (Jvm.Cond.declares y').before a0 Z = true) (w3 : (Jvm.Cond.selects C y' y').before a0 Z = true) (w4 : (Jvm.Cond.instanceMethod y').before a0 Z = true) (hy : y'.cls ≠ "java/lang/invoke/MethodHandle" ∧ y'.cls ≠ "java/lang/invoke/VarHandle")
    (hd : decode code pc = .ok (.invokevirtual index, 3)) (has : (.ref a :: argsL).toArray = as) (hL : L.size = maxL) (hlen : ∀ sig, parseMethodDescriptor y'.desc = some sig → argsL.length = sig.parameters.length) (hS : S = argsL.reverse ++ .ref a :: rest) (hW : (rest.map fun v => v.category).sum ≤ W) (hc : cells + rc ≤ R.cells) (hs : slots + rs ≤ R.slots) (hp : pc + 3 = q)
    (K : ∀ (v : Option Value) (T' : State) (h' : Heap) (L' locs' : List Loc), On l Z p e R s m args below meth c y code maxL ret T' h' locs' (cells + rc) (slots + rs) → Q v h' L' → Goes p e below F T' (mkF m q L (v.toList ++ rest))) : Goes p e below F T (mkF m pc L S) := by
  subst hp hS has
  obtain ⟨X1, C1, e1, N1, E1⟩ := X
  obtain ⟨cB, kB, q1, q2, q3⟩ := isOf C1.2.2.1 e1 E
  obtain ⟨v, vm1, ⟨T', L1, k1, n1⟩, -, X', ⟨Lc, hQ, e2, e3, e4⟩, st⟩ := X1.virtualBack C1.1 (y := y') (z := y') C1.2.2.2.1 (mvT C1.2.2.1 w1) (mvT C1.2.2.1 w2) (notFace_of_selects (args := #[]) (mvT C1.2.2.1 w3)) (mvT C1.2.2.1 w3) (mvT C1.2.2.1 w4) hy hK q1 q3 (g := mkF m pc L (argsL.reverse ++ .ref a :: rest)) rfl (hL.trans C1.2.2.2.2.2.2.2.symm) (Steps.refl _) hlen rfl (by show 2 * 0 + _ ≤ _; omega) (hb C1.2.1 hd) (fun _ _ => ⟨rfl, e1, hc, hs⟩)
  dsimp only [Pt.U, Pt.locs, Pt.cells, Pt.slots] at X' hQ e2 e3 e4 st
  subst e2 e3 e4
  obtain ⟨f1, f2⟩ := hq _ _ _ hQ
  exact Goes.step (fun _ k => st.trans k) (K v T' T'.heap Lc _ ⟨X', C1, rfl, Fr.app N1 f1, f2⟩ hQ)
theorem o_statB (X : On l Z p e R s m args below meth c y code maxL ret T h locs cells slots) {y' : MethodName} {index W q : Nat} {bytes : ByteArray} {maxL' : Nat} {ret' : Option FieldType} {Q : Option Value → Heap → List Loc → Prop} {rc rs : Nat} {as : Array Value} (argsL : List Value) {rest : List Value}
    (hK : Back l R p e below s args y' 3 W (fun A b => b = as ∧ A.U.heap = h ∧ A.cells + rc ≤ R.cells ∧ A.slots + rs ≤ R.slots) (fun A _ v B => ∃ L, Q v B.U.heap L ∧ B.locs = A.locs ++ L ∧ B.cells = A.cells + rc ∧ B.slots = A.slots + rs))
    (hq : ∀ v h' L, Q v h' L → Fr Z.heap.size L ∧ Ext Z.heap h')
    (w1 : (Jvm.Cond.methodLink y.cls index y').before a0 Z = true) (w2 : (Jvm.Cond.static y').before a0 Z = true) (w3 : (Jvm.Cond.initialized y'.cls).before a0 Z = true) (w4 : (Jvm.Cond.code y' bytes maxL' ret').before a0 Z = true) (hy : y'.cls ≠ "java/lang/invoke/MethodHandle" ∧ y'.cls ≠ "java/lang/invoke/VarHandle")
    (hd : decode code pc = .ok (.invokestatic index, 3)) (has : argsL.toArray = as) (hL : L.size = maxL) (hlen : ∀ sig, parseMethodDescriptor y'.desc = some sig → argsL.length = sig.parameters.length) (hS : S = argsL.reverse ++ rest) (hW : (rest.map fun v => v.category).sum ≤ W) (hc : cells + rc ≤ R.cells) (hs : slots + rs ≤ R.slots) (hp : pc + 3 = q)
    (K : ∀ (v : Option Value) (T' : State) (h' : Heap) (L' locs' : List Loc), On l Z p e R s m args below meth c y code maxL ret T' h' locs' (cells + rc) (slots + rs) → Q v h' L' → Goes p e below F T' (mkF m q L (v.toList ++ rest))) : Goes p e below F T (mkF m pc L S) := by
  subst hp hS has
  obtain ⟨X1, C1, e1, N1, E1⟩ := X
  obtain ⟨v, vm1, ⟨T', L1, k1, n1⟩, -, X', ⟨Lc, hQ, e2, e3, e4⟩, st⟩ := Jvm.LawKit.callS X1 C1.1 C1.2.2.2.1 (mvT C1.2.2.1 w1) (mvT C1.2.2.1 w2) (mvT C1.2.2.1 w3) (mvT C1.2.2.1 w4) hy hK (g := mkF m pc L (argsL.reverse ++ rest)) rfl (hL.trans C1.2.2.2.2.2.2.2.symm) hlen rfl (by show 2 * 0 + _ ≤ _; omega) (hb C1.2.1 hd) (fun _ _ => ⟨rfl, e1, hc, hs⟩)
  dsimp only [Pt.U, Pt.locs, Pt.cells, Pt.slots] at X' hQ e2 e3 e4 st
  subst e2 e3 e4
  obtain ⟨f1, f2⟩ := hq _ _ _ hQ
  exact Goes.step st (K v T' T'.heap Lc _ ⟨X', C1, rfl, Fr.app N1 f1, f2⟩ hQ)
/-- a contract as a Back -/
theorem Con.back {y' : MethodName} {bytes : ByteArray} {maxL' : Nat} {ret' : Option FieldType} {rm : Room} {as : Array Value} {Q : Option Value → Heap → Prop} {len W : Nat} (X : On l Z p e R s m args below meth c y code maxL ret T h locs cells slots) (hC : Con l Z y' bytes maxL' ret' rm as h Q) (w4 : (Jvm.Cond.code y' bytes maxL' ret').before a0 Z = true) (w3 : (Jvm.Cond.initialized y'.cls).before a0 Z = true) (hf : rm.frames + 1 ≤ R.frames) (hl : W + (maxL' + 11) + rm.locals ≤ R.locals) :
    Back l R p e below s args y' len W (fun A b => b = as ∧ A.U.heap = h ∧ A.cells + rm.cells ≤ R.cells ∧ A.slots + rm.slots ≤ R.slots) (fun A _ v B => ∃ L, (Q v B.U.heap ∧ Fr Z.heap.size L ∧ Ext Z.heap B.U.heap) ∧ B.locs = A.locs ++ L ∧ B.cells = A.cells + rm.cells ∧ B.slots = A.slots + rm.slots) :=
  backOf (Q := fun v h' L => Q v h' ∧ Fr Z.heap.size L ∧ Ext Z.heap h') (hC X.ext []) X.2.1.2.2.1 w4 w3 hf hl
theorem o_spec (X : On l Z p e R s m args below meth c y code maxL ret T h locs cells slots) {y' : MethodName} {index q : Nat} {bytes : ByteArray} {maxL' : Nat} {rm : Room} {as : Array Value} {Q : Option Value → Heap → Prop} (argsL : List Value) {a : Addr} {rest : List Value} (hC : Con l Z y' bytes maxL' none rm as h Q)
    (hy1 : y'.name = "<init>") (w1 : (Jvm.Cond.methodLink y.cls index y').before a0 Z = true) (w2 : (Jvm.Cond.instanceMethod y').before a0 Z = true) (w3 : (Jvm.Cond.code y' bytes maxL' none).before a0 Z = true) (w4 : (Jvm.Cond.initialized y'.cls).before a0 Z = true) (hy : y'.cls ≠ "java/lang/invoke/MethodHandle" ∧ y'.cls ≠ "java/lang/invoke/VarHandle")
    (hd : decode code pc = .ok (.invokespecial index, 3)) (has : (.ref a :: argsL).toArray = as) (hL : L.size = maxL) (hlen : ∀ sig, parseMethodDescriptor y'.desc = some sig → argsL.length = sig.parameters.length) (hS : S = argsL.reverse ++ .ref a :: rest) (hf : rm.frames + 1 ≤ R.frames) (hl : (rest.map fun v => v.category).sum + (maxL' + 11) + rm.locals ≤ R.locals) (hc : cells + rm.cells ≤ R.cells) (hs : slots + rm.slots ≤ R.slots) (hp : pc + 3 = q)
    (K : ∀ (v : Option Value) (T' : State) (h' : Heap) (locs' : List Loc), On l Z p e R s m args below meth c y code maxL ret T' h' locs' (cells + rm.cells) (slots + rm.slots) → Q v h' → Goes p e below F T' (mkF m q L (v.toList ++ rest))) : Goes p e below F T (mkF m pc L S) :=
  o_specB X argsL (Q := fun v h' L => Q v h' ∧ Fr Z.heap.size L ∧ Ext Z.heap h') (Con.back X hC w3 w4 hf hl) (fun _ _ _ q => q.2) hy1 w1 w2 w3 hy hd has hL hlen hS (Nat.le_refl _) hc hs hp (fun v T' h' L' locs' X' hQ => K v T' h' locs' X' hQ.1)
theorem o_virt (X : On l Z p e R s m args below meth c y code maxL ret T h locs cells slots) {C : String} {y' : MethodName} {index q : Nat} {bytes : ByteArray} {maxL' : Nat} {ret' : Option FieldType} {rm : Room} {as : Array Value} {Q : Option Value → Heap → Prop} (argsL : List Value) {a : Addr} {rest : List Value} (E : Exa Z h a C) (hC : Con l Z y' bytes maxL' ret' rm as h Q)
    (w1 : (Jvm.Cond.methodLink y.cls index y').before a0 Z = true) (w2 : (Jvm.Cond.declares y').before a0 Z = true) (w3 : (Jvm.Cond.selects C y' y').before a0 Z = true) (w4 : (Jvm.Cond.instanceMethod y').before a0 Z = true) (w5 : (Jvm.Cond.code y' bytes maxL' ret').before a0 Z = true) (w6 : (Jvm.Cond.initialized y'.cls).before a0 Z = true) (hy : y'.cls ≠ "java/lang/invoke/MethodHandle" ∧ y'.cls ≠ "java/lang/invoke/VarHandle")
    (hd : decode code pc = .ok (.invokevirtual index, 3)) (has : (.ref a :: argsL).toArray = as) (hL : L.size = maxL) (hlen : ∀ sig, parseMethodDescriptor y'.desc = some sig → argsL.length = sig.parameters.length) (hS : S = argsL.reverse ++ .ref a :: rest) (hf : rm.frames + 1 ≤ R.frames) (hl : (rest.map fun v => v.category).sum + (maxL' + 11) + rm.locals ≤ R.locals) (hc : cells + rm.cells ≤ R.cells) (hs : slots + rm.slots ≤ R.slots) (hp : pc + 3 = q)
    (K : ∀ (v : Option Value) (T' : State) (h' : Heap) (locs' : List Loc), On l Z p e R s m args below meth c y code maxL ret T' h' locs' (cells + rm.cells) (slots + rm.slots) → Q v h' → Goes p e below F T' (mkF m q L (v.toList ++ rest))) : Goes p e below F T (mkF m pc L S) :=
  o_virtB X argsL (Q := fun v h' L => Q v h' ∧ Fr Z.heap.size L ∧ Ext Z.heap h') E (Con.back X hC w5 w6 hf hl) (fun _ _ _ q => q.2) w1 w2 w3 w4 hy hd has hL hlen hS (Nat.le_refl _) hc hs hp (fun v T' h' L' locs' X' hQ => K v T' h' locs' X' hQ.1)
theorem o_stat (X : On l Z p e R s m args below meth c y code maxL ret T h locs cells slots) {y' : MethodName} {index q : Nat} {bytes : ByteArray} {maxL' : Nat} {ret' : Option FieldType} {rm : Room} {as : Array Value} {Q : Option Value → Heap → Prop} (argsL : List Value) {rest : List Value} (hC : Con l Z y' bytes maxL' ret' rm as h Q)
    (w1 : (Jvm.Cond.methodLink y.cls index y').before a0 Z = true) (w2 : (Jvm.Cond.static y').before a0 Z = true) (w3 : (Jvm.Cond.initialized y'.cls).before a0 Z = true) (w4 : (Jvm.Cond.code y' bytes maxL' ret').before a0 Z = true) (hy : y'.cls ≠ "java/lang/invoke/MethodHandle" ∧ y'.cls ≠ "java/lang/invoke/VarHandle")
    (hd : decode code pc = .ok (.invokestatic index, 3)) (has : argsL.toArray = as) (hL : L.size = maxL) (hlen : ∀ sig, parseMethodDescriptor y'.desc = some sig → argsL.length = sig.parameters.length) (hS : S = argsL.reverse ++ rest) (hf : rm.frames + 1 ≤ R.frames) (hl : (rest.map fun v => v.category).sum + (maxL' + 11) + rm.locals ≤ R.locals) (hc : cells + rm.cells ≤ R.cells) (hs : slots + rm.slots ≤ R.slots) (hp : pc + 3 = q)
    (K : ∀ (v : Option Value) (T' : State) (h' : Heap) (locs' : List Loc), On l Z p e R s m args below meth c y code maxL ret T' h' locs' (cells + rm.cells) (slots + rm.slots) → Q v h' → Goes p e below F T' (mkF m q L (v.toList ++ rest))) : Goes p e below F T (mkF m pc L S) :=
  o_statB X argsL (Q := fun v h' L => Q v h' ∧ Fr Z.heap.size L ∧ Ext Z.heap h') (Con.back X hC w4 w3 hf hl) (fun _ _ _ q => q.2) w1 w2 w3 w4 hy hd has hL hlen hS (Nat.le_refl _) hc hs hp (fun v T' h' L' locs' X' hQ => K v T' h' locs' X' hQ.1)
end OwnKit
end Jvm.Pilot.@@N@@

namespace Jvm.Pilot.@@N@@
open Jvm Jvm.ClassFile Sem Op Lib Jvm.Free Jvm.Stand Jvm.LawKit Jvm.RoadKit Bundle Jvm.Pilot.@@N@@.Jvm.D
section OwnCol
variable {l : Launch} {Z : State} {p : Program} {e : Env} {R : Room} {s : State} {m : MethodId} {args : Array Value} {below : List Frame} {meth : Method} {c : Code} {y : MethodName} {code : ByteArray} {maxL : Nat} {ret : Option FieldType} {T : State} {h : Heap} {locs : List Loc} {cells slots : Nat} {F : State → Outcome → Prop} {pc : Nat} {L L' : Array Slot} {S : List Value} {a0 : Array Value}
theorem o_anew (X : On l Z p e R s m args below meth c y code maxL ret T h locs cells slots) {C ad : String} {index : Nat} {n : Int32} {cap q : Nat} (N : Nat) (w1 : (Jvm.Cond.classLink y.cls index C).before a0 Z = true) (w2 : (Jvm.Cond.arrayOver (.object C)).before a0 Z = true) (had : "[" ++ (FieldType.object C).toString = ad) (hd : decode code pc = .ok (.anewarray index, 3)) (hn : ¬ n < 0) (hcap : n.toNatClampNeg ≤ cap) (hb8 : cap * 8 ≤ 536870912) (hc : cells + 1 ≤ R.cells) (hl : slots + cap ≤ R.slots) (hp : pc + 3 = q)
    (K : ∀ (T' : State) (h' : Heap) (a : Addr) (k : ClassId), a = h.size → On l Z p e R s m args below meth c y code maxL ret T' h' locs (cells + 1) (slots + cap) → Ext h h' → Arv Z h' a k (.object C) n (List.replicate N .null) .null → Exa Z h' a ad → Ovr Z k C → Z.heap.size ≤ a → Goes p e below F T' (mkF m q L (.ref a :: S))) : Goes p e below F T (mkF m pc L (.int n :: S)) := by
  subst hp
  obtain ⟨T', h', k, X', e', E', A', Ex, O', st⟩ := newRE X.1 X.2.1.1 (show Z.Warmed39 s.vm from X.2.1.2.2.1) X.2.1.2.2.2.1 w1 w2 X.2.2.1 (g := mkF m pc L (.int n :: S)) rfl (hb X.2.1.2.1 hd) rfl hn hcap hb8 hc hl had
  exact Goes.step st (K T' h' h.size k rfl (X.later X' e' X.2.2.2.1 (ext_trans X.ext E')) E' ((Arv.new A' hn).pad (pad_rep [] _ N)) Ex O' X.size)
theorem o_aastore (X : On l Z p e R s m args below meth c y code maxL ret T h locs cells slots) {a : Addr} {k : ClassId} {ty : FieldType} {n j : Int32} {v : Value} {vs : List Value} {dv : Value} {q : Nat} (i : Nat) (A : Arv Z h a k ty n vs dv) (ha : Z.heap.size ≤ a) (hty : ty.isReference = true) (hfit : fits ty v = true) (Sx : Sto Z h a v) (hj : ¬ j < 0 ∧ j < n) (hi : j.toNatClampNeg = i) (hlt : i < vs.length) (hd : decode code pc = .ok (.aastore, 1)) (hp : pc + 1 = q)
    (K : ∀ (T' : State) (h' : Heap) (locs' : List Loc), On l Z p e R s m args below meth c y code maxL ret T' h' locs' cells slots → Wr h h' a i v → Arv Z h' a k ty n (vs.set i v) dv → Goes p e below F T' (mkF m q L S)) : Goes p e below F T (mkF m pc L (v :: .int j :: .ref a :: S)) := by
  subst hp
  obtain ⟨cl, Ar, q1, Sz, Nn, H, G⟩ := A
  obtain ⟨T', h', X', e', W', st⟩ := stR X.1 X.2.1.1 (show Z.Warmed39 s.vm from X.2.1.2.2.1) X.2.2.1 Ar (j := j) (inb_of Sz hj) hty Sx (g := mkF m pc L (v :: .int j :: .ref a :: S)) rfl rfl (hb X.2.1.2.1 hd)
  exact Goes.step st (K T' h' _ (X.later X' e' (Fr.snoc X' X.2.2.2.1 ha) (ext_wr X.ext W' ha)) (hi ▸ W') (Arv.set Ar q1 Sz Nn H G hfit W' i hi hlt))
theorem sto_of {Z : State} {h : Heap} {a x : Addr} {k : ClassId} {ty : FieldType} {C D : String} {n : Int32} {vs : List Value} {dv : Value} {a0 : Array Value} (A : Arv Z h a k ty n vs dv) (O : Ovr Z k C) (E : Exa Z h x D) (w : (Jvm.Cond.castable D C).before a0 Z = true) : Sto Z h a (.ref x) := by
  obtain ⟨cl, Ar, q1, -⟩ := A
  exact Sto.ofV Ar q1 O (Ins.of_exa E w)
theorem o_cast (X : On l Z p e R s m args below meth c y code maxL ret T h locs cells slots) {K' : String} {index q : Nat} {a : Addr} (I : Ins Z h a K' true) (w : (Jvm.Cond.classLink y.cls index K').before a0 Z = true) (hd : decode code pc = .ok (.checkcast index, 3)) (hp : pc + 3 = q)
    (K : ∀ T' : State, On l Z p e R s m args below meth c y code maxL ret T' h locs cells slots → Goes p e below F T' (mkF m q L (.ref a :: S))) : Goes p e below F T (mkF m pc L (.ref a :: S)) := by
  subst hp
  obtain ⟨T', X', e', st⟩ := castY X.1 X.2.1.1 (show Z.Warmed39 s.vm from X.2.1.2.2.1) X.2.1.2.2.2.1 w X.2.2.1 I (g := mkF m pc L (.ref a :: S)) rfl rfl (hb X.2.1.2.1 hd)
  exact Goes.step st (K T' (X.later X' e' X.2.2.2.1 X.ext))
theorem o_instY (X : On l Z p e R s m args below meth c y code maxL ret T h locs cells slots) {K' : String} {index q : Nat} {a : Addr} (I : Ins Z h a K' true) (w : (Jvm.Cond.classLink y.cls index K').before a0 Z = true) (hd : decode code pc = .ok (.instanceof index, 3)) (hp : pc + 3 = q)
    (K : ∀ T' : State, On l Z p e R s m args below meth c y code maxL ret T' h locs cells slots → Goes p e below F T' (mkF m q L (.int 1 :: S))) : Goes p e below F T (mkF m pc L (.ref a :: S)) := by
  subst hp
  obtain ⟨T', X', e', st⟩ := instY X.1 X.2.1.1 (show Z.Warmed39 s.vm from X.2.1.2.2.1) X.2.1.2.2.2.1 w X.2.2.1 I (g := mkF m pc L (.ref a :: S)) rfl rfl (hb X.2.1.2.1 hd)
  exact Goes.step st (K T' (X.later X' e' X.2.2.2.1 X.ext))
theorem o_instNo (X : On l Z p e R s m args below meth c y code maxL ret T h locs cells slots) {C K' : String} {index q : Nat} {a : Addr} (E : Exa Z h a C) (N : ∃ c t, Z.vm.findClass C = some c ∧ Z.vm.findClass K' = some t ∧ Z.vm.assignable c t = false) (w : (Jvm.Cond.classLink y.cls index K').before a0 Z = true) (hd : decode code pc = .ok (.instanceof index, 3)) (hp : pc + 3 = q)
    (K : ∀ T' : State, On l Z p e R s m args below meth c y code maxL ret T' h locs cells slots → Goes p e below F T' (mkF m q L (.int 0 :: S))) : Goes p e below F T (mkF m pc L (.ref a :: S)) := by
  subst hp
  obtain ⟨T', X', e', st⟩ := instNo X.1 X.2.1.1 (show Z.Warmed39 s.vm from X.2.1.2.2.1) X.2.1.2.2.2.1 w X.2.2.1 E N (g := mkF m pc L (.ref a :: S)) rfl rfl (hb X.2.1.2.1 hd)
  exact Goes.step st (K T' (X.later X' e' X.2.2.2.1 X.ext))
/-- C's chain of superclasses does not meet the class K, which can be made -/
theorem ns_root {Z : State} {a0 : Array Value} {O K : String} {n : Nat} (w : (Jvm.Cond.noSuperclass O).before a0 Z = true) (wk : (Jvm.Cond.instantiable K n).before a0 Z = true) (hn : O ≠ K) : NS Z O K := by
  obtain ⟨c, k, h1, h2, h3, -, -⟩ := Cond.noSuperclass_spec w
  obtain ⟨t, kt, g1, -⟩ := Cond.instantiable_spec wk
  have ne := ids_ne h1 g1 hn
  refine ⟨c, t, h1, g1, fun fuel => ?_⟩
  cases fuel with
  | zero => rfl
  | succ f => simp [Vm.isSubclassAux, ne, h2, h3]
theorem ns_no {Z : State} {a0 : Array Value} {C S K : String} {n : Nat} (w : (Jvm.Cond.superclass C S).before a0 Z = true) (wk : (Jvm.Cond.instantiable K n).before a0 Z = true) (N : NS Z C K) (hn : C ≠ K) : ∃ c t, Z.vm.findClass C = some c ∧ Z.vm.findClass K = some t ∧ Z.vm.assignable c t = false := by
  obtain ⟨c, t, h0, g0, n3⟩ := N
  obtain ⟨p, k, kp, h1, h2, h3, h4, h5, -, h7⟩ := Cond.superclass_spec h0 w
  obtain ⟨t', kt, g1, g2, g3, g4, -⟩ := Cond.instantiable_spec wk
  cases g0.symm.trans g1
  have ne := ids_ne h0 g0 hn
  have g5 : kt.isInterface = false := by
    cases q : kt.isInterface
    · rfl
    · rw [q] at g4; simp at g4
  refine ⟨c, t, h0, g0, ?_⟩
  show Z.vm.assignableAux (255 + 1) c t = false
  simp [Vm.assignableAux, ne, h2, g2, h5, g3, g5, Vm.isSubclass, n3]
theorem o_ldcM (X : On l Z p e R s m args below meth c y code maxL ret T h locs cells slots) {C : String} {index q : Nat} {mr : Addr} (M : Mir Z C mr) (w : (Jvm.Cond.classLink y.cls index C).before a0 Z = true) (hd : decode code pc = .ok (.ldc index, 2)) (hp : pc + 2 = q)
    (K : ∀ T' : State, On l Z p e R s m args below meth c y code maxL ret T' h locs cells slots → Goes p e below F T' (mkF m q L (.ref mr :: S))) : Goes p e below F T (mkF m pc L S) := by
  subst hp
  obtain ⟨c0, k0, m1, m2, m3, -⟩ := M
  obtain ⟨k', q1, ek⟩ := (show Z.Warmed39 s.vm from X.2.1.2.2.1).alike.2.2 _ _ m2
  have hm : k'.mirror = some mr := by rw [ek]; exact m3
  obtain ⟨vm', X', st⟩ := X.1.ldcMirror X.2.1.1 X.2.1.2.2.2.1 (mvT (s := s) X.2.1.2.2.1 w) (a := mr) (by
    have q2 : s.vm.findClass C = some c0 := by rw [(show Z.Warmed39 s.vm from X.2.1.2.2.1).alike.findClass]; exact m1
    simp only [Term.eval, q2, Option.bind_eq_bind, Option.bind_some, q1, hm, Option.pure_def]) (g := mkF m pc L S) rfl (hb X.2.1.2.1 hd)
  have e' : (T.setVm vm').heap = h := X.2.2.1
  exact Goes.step st (K _ (X.later X' e' X.2.2.2.1 X.ext))
theorem o_gcls (X : On l Z p e R s m args below meth c y code maxL ret T h locs cells slots) {C : String} {index q : Nat} {a mr : Addr} (E : Exa Z h a C) (M : Mir Z C mr) (w1 : (Jvm.Cond.methodLink y.cls index ⟨"java/lang/Object", "getClass", "()Ljava/lang/Class;"⟩).before a0 Z = true) (w2 : (Jvm.Cond.declares ⟨"java/lang/Object", "getClass", "()Ljava/lang/Class;"⟩).before a0 Z = true) (w3 : (Jvm.Cond.noSuperclass "java/lang/Object").before a0 Z = true) (w4 : (Jvm.Cond.selects C ⟨"java/lang/Object", "getClass", "()Ljava/lang/Class;"⟩ ⟨"java/lang/Object", "getClass", "()Ljava/lang/Class;"⟩).before a0 Z = true) (w5 : (Jvm.Cond.instanceMethod ⟨"java/lang/Object", "getClass", "()Ljava/lang/Class;"⟩).before a0 Z = true) (w6 : (Jvm.Cond.native ⟨"java/lang/Object", "getClass", "()Ljava/lang/Class;"⟩).before a0 Z = true)
    (hd : decode code pc = .ok (.invokevirtual index, 3)) (hL : L.size = maxL) (hf : 1 ≤ R.frames) (hl : (S.map fun v => v.category).sum + (nativeFrameWords "java/lang/Object" "getClass" 1 + 11) ≤ R.locals) (hp : pc + 3 = q)
    (K : ∀ T' : State, On l Z p e R s m args below meth c y code maxL ret T' h locs cells slots → Goes p e below F T' (mkF m q L (.ref mr :: S))) : Goes p e below F T (mkF m pc L (.ref a :: S)) := by
  subst hp
  obtain ⟨T', X', e', st⟩ := gcls X.1 X.2.1.1 (show Z.Warmed39 s.vm from X.2.1.2.2.1) X.2.1.2.2.2.1 w1 w2 w3 w4 w5 w6 X.2.2.1 E M (g := mkF m pc L (.ref a :: S)) rfl (hL.trans X.2.1.2.2.2.2.2.2.2.symm) rfl (hb X.2.1.2.1 hd) hf (W := (S.map fun v => v.category).sum) (by show 2 * 0 + _ ≤ _; omega) hl
  exact Goes.step st (K T' (X.later X' e' X.2.2.2.1 X.ext))
theorem o_copy (X : On l Z p e R s m args below meth c y code maxL ret T h locs cells slots) {index q : Nat} {a b : Addr} {k k' : ClassId} {ty ty' : FieldType} {z z' sp dp nn : Int32} {vs vd us vs' : List Value} {dv dd : Value} (A : Arv Z h a k ty z vs dv) (B : Arv Z h b k' ty' z' vd dd) (hty : (ty = ty' ∧ refKind ty = false) ∨ (refKind ty = true ∧ refKind ty' = true ∧ StoL Z h b us)) (hgb : Z.heap.size ≤ b)
    (h1 : ¬ sp < 0) (h2 : ¬ dp < 0) (h3 : ¬ nn < 0) (h4 : sp.toNatClampNeg + nn.toNatClampNeg ≤ z.toNatClampNeg) (h5 : dp.toNatClampNeg + nn.toNatClampNeg ≤ z'.toNatClampNeg) (hus : us = (List.range nn.toNatClampNeg).map fun i => vs.getD (sp.toNatClampNeg + i) dv) (hlv : dp.toNatClampNeg + nn.toNatClampNeg ≤ vd.length) (hvs : vd.take dp.toNatClampNeg ++ us ++ vd.drop (dp.toNatClampNeg + nn.toNatClampNeg) = vs')
    (w1 : (Jvm.Cond.methodLink y.cls index Jvm.Stand.acN).before a0 Z = true) (w2 : (Jvm.Cond.native Jvm.Stand.acN).before a0 Z = true) (w3 : (Jvm.Cond.static Jvm.Stand.acN).before a0 Z = true) (w4 : (Jvm.Cond.initialized "java/lang/System").before a0 Z = true)
    (hd : decode code pc = .ok (.invokestatic index, 3)) (hL : L.size = maxL) (hf : 1 ≤ R.frames) (hl : (S.map fun v => v.category).sum + (nativeFrameWords "java/lang/System" "arraycopy" 5 + 11) ≤ R.locals) (hp : pc + 3 = q)
    (K : ∀ (T' : State) (h' : Heap) (locs' : List Loc), On l Z p e R s m args below meth c y code maxL ret T' h' locs' cells slots → Keep h h' [b] → Arv Z h' b k' ty' z' vs' dd → Goes p e below F T' (mkF m q L S)) : Goes p e below F T (mkF m pc L (.int nn :: .int dp :: .ref b :: .int sp :: .ref a :: S)) := by
  subst hp hvs
  obtain ⟨T', h', Lc, X', e', N', K', A', st⟩ := cpA X.1 X.2.1.1 (show Z.Warmed39 s.vm from X.2.1.2.2.1) X.2.1.2.2.2.1 w1 w2 w3 w4 X.2.2.1 A B hty h1 h2 h3 h4 h5 hus hlv X.2.2.2.1 hgb (g := mkF m pc L (.int nn :: .int dp :: .ref b :: .int sp :: .ref a :: S)) rfl (hL.trans X.2.1.2.2.2.2.2.2.2.symm) rfl (hb X.2.1.2.1 hd) hf (W := (S.map fun v => v.category).sum) (by show 2 * 0 + _ ≤ _; omega) hl
  exact Goes.step st (K T' h' Lc (X.later X' e' N' (ext_keep X.ext K' (allS hgb all0))) K' A')
theorem o_tsw (X : On l Z p e R s m args below meth c y code maxL ret T h locs cells slots) {dflt low high : Int} {offs : Array Int} {len : Nat} {i : Int} {x : Int32} {q : Nat} (hd : decode code pc = .ok (.tableswitch dflt low high offs, len)) (h1 : low ≤ x.toInt) (h2 : x.toInt ≤ high) (hi : offs[(x.toInt - low).toNat]? = some i) (ho : 0 ≤ (pc : Int) + i) (hp : ((pc : Int) + i).toNat = q) (K : Goes p e below F T (mkF m q L S)) : Goes p e below F T (mkF m pc L (.int x :: S)) :=
  Goes.step (fun _ k => Jvm.Free.XS.tswIn X.1.here X.2.1.1 (g := mkF m pc L (.int x :: S)) rfl (pc0 := pc) rfl (hb X.2.1.2.1 hd) rfl (fun q => q.elim (fun r => by omega) (fun r => by omega)) hi ho hp k) K
theorem o_tswD (X : On l Z p e R s m args below meth c y code maxL ret T h locs cells slots) {dflt low high : Int} {offs : Array Int} {len : Nat} {x : Int32} {q : Nat} (hd : decode code pc = .ok (.tableswitch dflt low high offs, len)) (h1 : x.toInt < low ∨ high < x.toInt) (ho : 0 ≤ (pc : Int) + dflt) (hp : ((pc : Int) + dflt).toNat = q) (K : Goes p e below F T (mkF m q L S)) : Goes p e below F T (mkF m pc L (.int x :: S)) :=
  Goes.step (fun _ k => Jvm.Free.XS.tswOut X.1.here X.2.1.1 (g := mkF m pc L (.int x :: S)) rfl (pc0 := pc) rfl (hb X.2.1.2.1 hd) rfl h1 ho hp k) K
theorem o_iface (X : On l Z p e R s m args below meth c y code maxL ret T h locs cells slots) {C : String} {xi y' : MethodName} {index count q : Nat} {bytes : ByteArray} {maxL' : Nat} {ret' : Option FieldType} {rm : Room} {as : Array Value} {Q : Option Value → Heap → Prop} (argsL : List Value) {a : Addr} {rest : List Value} (E : Exa Z h a C) (hC : Con l Z y' bytes maxL' ret' rm as h Q)
    (w1 : (Jvm.Cond.methodLink y.cls index xi).before a0 Z = true) (w2 : (Jvm.Cond.declares xi).before a0 Z = true) (w3 : (Jvm.Cond.interfaceMethod xi.cls xi.cls xi.name xi.desc).before a0 Z = true) (w4 : (Jvm.Cond.selects C xi y').before a0 Z = true) (w5 : (Jvm.Cond.instanceMethod y').before a0 Z = true) (w6 : (Jvm.Cond.publicMethod y').before a0 Z = true) (w7 : (Jvm.Cond.unhidden C xi.name xi.desc).before a0 Z = true) (w8 : (Jvm.Cond.castable C xi.cls).before a0 Z = true) (w9 : (Jvm.Cond.code y' bytes maxL' ret').before a0 Z = true) (w10 : (Jvm.Cond.initialized y'.cls).before a0 Z = true) (hy : xi.cls ≠ "java/lang/invoke/MethodHandle" ∧ xi.cls ≠ "java/lang/invoke/VarHandle")
    (hd : decode code pc = .ok (.invokeinterface index count, 5)) (has : (.ref a :: argsL).toArray = as) (hL : L.size = maxL) (hlen : ∀ sig, parseMethodDescriptor xi.desc = some sig → argsL.length = sig.parameters.length) (hS : S = argsL.reverse ++ .ref a :: rest) (hf : rm.frames + 1 ≤ R.frames) (hl : (rest.map fun v => v.category).sum + (maxL' + 11) + rm.locals ≤ R.locals) (hc : cells + rm.cells ≤ R.cells) (hs : slots + rm.slots ≤ R.slots) (hp : pc + 5 = q)
    (K : ∀ (v : Option Value) (T' : State) (h' : Heap) (locs' : List Loc), On l Z p e R s m args below meth c y code maxL ret T' h' locs' (cells + rm.cells) (slots + rm.slots) → Q v h' → Goes p e below F T' (mkF m q L (v.toList ++ rest))) : Goes p e below F T (mkF m pc L S) := by
  subst hp hS has
  obtain ⟨cB, kB, q1, q2, q3⟩ := isOf (show Z.Warmed39 s.vm from X.2.1.2.2.1) X.2.2.1 E
  obtain ⟨v, vm1, ⟨T', L1, k1, n1⟩, -, X', ⟨Lc, hQ, e2, e3, e4⟩, st⟩ := X.1.interfaceBack X.2.1.1 (xi := xi) (y := y') X.2.1.2.2.2.1 (mvT (s := s) X.2.1.2.2.1 w1) (mvT (s := s) X.2.1.2.2.1 w2) (mvT (s := s) X.2.1.2.2.1 w3 (by simp [Cond.onTables, Cond.keepsFace, Cond.keeps, Cond.steady, Cond.faceAtom]; exact hy)) (mvT (s := s) X.2.1.2.2.1 w4) (mvT (s := s) X.2.1.2.2.1 w5) (mvT (s := s) X.2.1.2.2.1 w6) (mvT (s := s) X.2.1.2.2.1 w7) (mvT (s := s) X.2.1.2.2.1 w8) hy (Con.back X hC w9 w10 hf hl) q1 q2 q3 (g := mkF m pc L (argsL.reverse ++ .ref a :: rest)) rfl (hL.trans X.2.1.2.2.2.2.2.2.2.symm) (Steps.refl _) hlen rfl (by show 2 * 0 + _ ≤ _; omega) (hb X.2.1.2.1 hd) (fun _ _ => ⟨rfl, X.2.2.1, hc, hs⟩)
  dsimp only [Pt.U, Pt.locs, Pt.cells, Pt.slots] at X' hQ e2 e3 e4 st
  subst e2 e3 e4
  exact Goes.step (fun _ k => st.trans k) (K v T' T'.heap _ (X.later X' rfl (Fr.app X.2.2.2.1 hQ.2.1) hQ.2.2) hQ.1)
theorem o_priv (X : On l Z p e R s m args below meth c y code maxL ret T h locs cells slots) {D : String} {y' : MethodName} {index q : Nat} {bytes : ByteArray} {maxL' : Nat} {ret' : Option FieldType} {rm : Room} {as : Array Value} {Q : Option Value → Heap → Prop} (argsL : List Value) {a : Addr} {rest : List Value} (E : Exa Z h a D) (hC : Con l Z y' bytes maxL' ret' rm as h Q)
    (w1 : (Jvm.Cond.methodLink y.cls index y').before a0 Z = true) (w2 : (Jvm.Cond.instanceMethod y').before a0 Z = true) (w3 : (Jvm.Cond.selects y'.cls y' y').before a0 Z = true) (w4 : (Jvm.Cond.privateMethod y').before a0 Z = true) (w5 : (Jvm.Cond.code y' bytes maxL' ret').before a0 Z = true) (w6 : (Jvm.Cond.initialized y'.cls).before a0 Z = true) (hy : y'.cls ≠ "java/lang/invoke/MethodHandle" ∧ y'.cls ≠ "java/lang/invoke/VarHandle")
    (hd : decode code pc = .ok (.invokevirtual index, 3)) (has : (.ref a :: argsL).toArray = as) (hL : L.size = maxL) (hlen : ∀ sig, parseMethodDescriptor y'.desc = some sig → argsL.length = sig.parameters.length) (hS : S = argsL.reverse ++ .ref a :: rest) (hf : rm.frames + 1 ≤ R.frames) (hl : (rest.map fun v => v.category).sum + (maxL' + 11) + rm.locals ≤ R.locals) (hc : cells + rm.cells ≤ R.cells) (hs : slots + rm.slots ≤ R.slots) (hp : pc + 3 = q)
    (K : ∀ (v : Option Value) (T' : State) (h' : Heap) (locs' : List Loc), On l Z p e R s m args below meth c y code maxL ret T' h' locs' (cells + rm.cells) (slots + rm.slots) → Q v h' → Goes p e below F T' (mkF m q L (v.toList ++ rest))) : Goes p e below F T (mkF m pc L S) := by
  subst hp hS has
  obtain ⟨cl, hcl, hst⟩ := E.cell
  obtain ⟨v, vm1, ⟨T', L1, k1, n1⟩, -, X', ⟨Lc, hQ, e2, e3, e4⟩, st⟩ := X.1.privateBack X.2.1.1 (y := y') X.2.1.2.2.2.1 (mvT (s := s) X.2.1.2.2.1 w1) (mvT (s := s) X.2.1.2.2.1 w2) (mvT (s := s) X.2.1.2.2.1 w3) (Cond.privateMethod_at (mvP (show Z.Warmed39 s.vm from X.2.1.2.2.1) w4 (args := #[]))) (mvT (s := s) X.2.1.2.2.1 w5) hy (Con.back X hC w5 w6 hf hl) (g := mkF m pc L (argsL.reverse ++ .ref a :: rest)) rfl (hL.trans X.2.1.2.2.2.2.2.2.2.symm) (Steps.refl _) (a := a) (cell := cl) (by rw [X.2.2.1]; exact hcl) hst hlen rfl (by show 2 * 0 + _ ≤ _; omega) (hb X.2.1.2.1 hd) (fun _ _ => ⟨rfl, X.2.2.1, hc, hs⟩)
  dsimp only [Pt.U, Pt.locs, Pt.cells, Pt.slots] at X' hQ e2 e3 e4 st
  subst e2 e3 e4
  exact Goes.step (fun _ k => st.trans k) (K v T' T'.heap _ (X.later X' rfl (Fr.app X.2.2.2.1 hQ.2.1) hQ.2.2) hQ.1)
theorem o_specN (X : On l Z p e R s m args below meth c y code maxL ret T h locs cells slots) {host : String} {y' : MethodName} {index q : Nat} {bytes : ByteArray} {maxL' : Nat} {rm : Room} {as : Array Value} {Q : Option Value → Heap → Prop} (argsL : List Value) {a : Addr} {rest : List Value} (hC : Con l Z y' bytes maxL' none rm as h Q)
    (hy1 : y'.name = "<init>") (w1 : (Jvm.Cond.methodLinkNest y.cls index y' host).before a0 Z = true) (w2 : (Jvm.Cond.instanceMethod y').before a0 Z = true) (w3 : (Jvm.Cond.code y' bytes maxL' none).before a0 Z = true) (w4 : (Jvm.Cond.initialized y'.cls).before a0 Z = true) (hy : y'.cls ≠ "java/lang/invoke/MethodHandle" ∧ y'.cls ≠ "java/lang/invoke/VarHandle")
    (hd : decode code pc = .ok (.invokespecial index, 3)) (has : (.ref a :: argsL).toArray = as) (hL : L.size = maxL) (hlen : ∀ sig, parseMethodDescriptor y'.desc = some sig → argsL.length = sig.parameters.length) (hS : S = argsL.reverse ++ .ref a :: rest) (hf : rm.frames + 1 ≤ R.frames) (hl : (rest.map fun v => v.category).sum + (maxL' + 11) + rm.locals ≤ R.locals) (hc : cells + rm.cells ≤ R.cells) (hs : slots + rm.slots ≤ R.slots) (hp : pc + 3 = q)
    (K : ∀ (v : Option Value) (T' : State) (h' : Heap) (locs' : List Loc), On l Z p e R s m args below meth c y code maxL ret T' h' locs' (cells + rm.cells) (slots + rm.slots) → Q v h' → Goes p e below F T' (mkF m q L (v.toList ++ rest))) : Goes p e below F T (mkF m pc L S) := by
  subst hp hS has
  obtain ⟨v, vm1, ⟨T', L1, k1, n1⟩, -, X', ⟨Lc, hQ, e2, e3, e4⟩, st⟩ := X.1.specialBackNest X.2.1.1 hy1 X.2.1.2.2.2.1 ((Cond.methodLinkNest_wide (show Z.Warmed39 s.vm from X.2.1.2.2.1) w1 :)) (mvT (s := s) X.2.1.2.2.1 w2) (mvT (s := s) X.2.1.2.2.1 w3) hy (Con.back X hC w3 w4 hf hl) (g := mkF m pc L (argsL.reverse ++ .ref a :: rest)) rfl (hL.trans X.2.1.2.2.2.2.2.2.2.symm) (Steps.refl _) hlen rfl (by show 2 * 0 + _ ≤ _; omega) (hb X.2.1.2.1 hd) (fun _ _ => ⟨rfl, X.2.2.1, hc, hs⟩)
  dsimp only [Pt.U, Pt.locs, Pt.cells, Pt.slots] at X' hQ e2 e3 e4 st
  subst e2 e3 e4
  exact Goes.step (fun _ k => st.trans k) (K v T' T'.heap _ (X.later X' rfl (Fr.app X.2.2.2.1 hQ.2.1) hQ.2.2) hQ.1)
/-- a private method's word for its own class, from the word for a subclass -/
theorem sel_up {Z : State} {a0 : Array Value} {C : String} {y : MethodName} (w1 : (Jvm.Cond.selects C y y).before a0 Z = true) (w2 : (Jvm.Cond.instanceMethod y).before a0 Z = true) (w3 : (Jvm.Cond.privateMethod y).before a0 Z = true) (hy : y.cls ≠ "java/lang/invoke/MethodHandle" ∧ y.cls ≠ "java/lang/invoke/VarHandle") : (Jvm.Cond.selects y.cls y y).before a0 Z = true := by
  obtain ⟨mk, methM, hn, hm, -, -⟩ := Cond.instanceMethod_spec w2
  obtain ⟨c, r, m, q1, q2, q3, q4, kk, q5, q6⟩ := Cond.selects_spec w1
  cases hn.symm.trans q3
  have hf := State.methodFound?_of_named hn hy
  have hc := findClass_of_methodNamed hn
  have hs : selectMethod {} Z.vm mk.cls mk = .method mk := selectMethod_private hm (Cond.privateMethod_at w3 mk methM hn hm)
  simp [Cond.before, Cond.holds, Cond.value, hc, hf, hn, hs, q5, q6]
/-- a method of a class (no interface, by another word) is the one its own class finds -/
theorem same_up {Z : State} {a0 : Array Value} {C : String} {y z : MethodName} (w1 : (Jvm.Cond.selects C z z).before a0 Z = true) (w2 : (Jvm.Cond.instanceMethod y).before a0 Z = true) (hz : z.cls = y.cls) (hy : y.cls ≠ "java/lang/invoke/MethodHandle" ∧ y.cls ≠ "java/lang/invoke/VarHandle") : (Jvm.Cond.sameMethod y.cls y.cls y.name y.desc).before a0 Z = true := by
  obtain ⟨mk, methM, hn, hm, -, -⟩ := Cond.instanceMethod_spec w2
  obtain ⟨c, r, m, q1, q2, q3, q4, kk, q5, q6⟩ := Cond.selects_spec w1
  have hf := State.methodFound?_of_named hn hy
  have hc := findClass_of_methodNamed hn
  have hc2 := findClass_of_methodNamed q3
  rw [hz, hc] at hc2
  have e := Option.some.inj hc2
  rw [← e] at q5
  simp [Cond.before, Cond.holds, Cond.value, hc, hf, show Z.methodNamed? ⟨y.cls, y.name, y.desc⟩ = some mk from hn, q5, q6]
theorem o_super (X : On l Z p e R s m args below meth c y code maxL ret T h locs cells slots) {D : String} {y' : MethodName} {index q : Nat} {bytes : ByteArray} {maxL' : Nat} {ret' : Option FieldType} {rm : Room} {as : Array Value} {Q : Option Value → Heap → Prop} (argsL : List Value) {a : Addr} {rest : List Value} (E : Exa Z h a D) (hC : Con l Z y' bytes maxL' ret' rm as h Q)
    (w1 : (Jvm.Cond.methodLink y.cls index y').before a0 Z = true) (w2 : (Jvm.Cond.sameMethod y'.cls y'.cls y'.name y'.desc).before a0 Z = true) (w3 : (Jvm.Cond.instanceMethod y').before a0 Z = true) (w4 : (Jvm.Cond.superclass y.cls y'.cls).before a0 Z = true) (hn : y'.name ≠ "<init>") (w5 : (Jvm.Cond.code y' bytes maxL' ret').before a0 Z = true) (w6 : (Jvm.Cond.initialized y'.cls).before a0 Z = true)
    (hd : decode code pc = .ok (.invokespecial index, 3)) (has : (.ref a :: argsL).toArray = as) (hL : L.size = maxL) (hlen : ∀ sig, parseMethodDescriptor y'.desc = some sig → argsL.length = sig.parameters.length) (hS : S = argsL.reverse ++ .ref a :: rest) (hf : rm.frames + 1 ≤ R.frames) (hl : (rest.map fun v => v.category).sum + (maxL' + 11) + rm.locals ≤ R.locals) (hc : cells + rm.cells ≤ R.cells) (hs : slots + rm.slots ≤ R.slots) (hp : pc + 3 = q)
    (K : ∀ (v : Option Value) (T' : State) (h' : Heap) (locs' : List Loc), On l Z p e R s m args below meth c y code maxL ret T' h' locs' (cells + rm.cells) (slots + rm.slots) → Q v h' → Goes p e below F T' (mkF m q L (v.toList ++ rest))) : Goes p e below F T (mkF m pc L S) := by
  subst hp hS has
  obtain ⟨v, vm1, ⟨T', L1, k1, n1⟩, -, X', ⟨Lc, hQ, e2, e3, e4⟩, st⟩ := superBack X.1 X.2.1.1 (show Z.Warmed39 s.vm from X.2.1.2.2.1) X.2.1.2.2.2.1 w1 w2 w3 w4 hn (Con.back X hC w5 w6 hf hl) X.2.2.1 (Ins.self E) (g := mkF m pc L (argsL.reverse ++ .ref a :: rest)) rfl (hL.trans X.2.1.2.2.2.2.2.2.2.symm) w5 hlen rfl (by show 2 * 0 + _ ≤ _; omega) (hb X.2.1.2.1 hd) (fun _ _ => ⟨rfl, X.2.2.1, hc, hs⟩)
  dsimp only [Pt.U, Pt.locs, Pt.cells, Pt.slots] at X' hQ e2 e3 e4 st
  subst e2 e3 e4
  exact Goes.step (fun _ k => st.trans k) (K v T' T'.heap _ (X.later X' rfl (Fr.app X.2.2.2.1 hQ.2.1) hQ.2.2) hQ.1)
theorem o_virt2 (X : On l Z p e R s m args below meth c y code maxL ret T h locs cells slots) {C : String} {z' y' : MethodName} {index q : Nat} {bytes : ByteArray} {maxL' : Nat} {ret' : Option FieldType} {rm : Room} {as : Array Value} {Q : Option Value → Heap → Prop} (argsL : List Value) {a : Addr} {rest : List Value} (E : Exa Z h a C) (hC : Con l Z y' bytes maxL' ret' rm as h Q)
    (w1 : (Jvm.Cond.methodLink y.cls index z').before a0 Z = true) (w2 : (Jvm.Cond.declares z').before a0 Z = true) (w3 : (Jvm.Cond.selects C z' y').before a0 Z = true) {D : String} {u : MethodName} (wn : (Jvm.Cond.selects D u u).before a0 Z = true) (hu : u.cls = z'.cls) (w4 : (Jvm.Cond.instanceMethod y').before a0 Z = true) (w5 : (Jvm.Cond.code y' bytes maxL' ret').before a0 Z = true) (w6 : (Jvm.Cond.initialized y'.cls).before a0 Z = true) (hy : z'.cls ≠ "java/lang/invoke/MethodHandle" ∧ z'.cls ≠ "java/lang/invoke/VarHandle")
    (hd : decode code pc = .ok (.invokevirtual index, 3)) (has : (.ref a :: argsL).toArray = as) (hL : L.size = maxL) (hlen : ∀ sig, parseMethodDescriptor z'.desc = some sig → argsL.length = sig.parameters.length) (hS : S = argsL.reverse ++ .ref a :: rest) (hf : rm.frames + 1 ≤ R.frames) (hl : (rest.map fun v => v.category).sum + (maxL' + 11) + rm.locals ≤ R.locals) (hc : cells + rm.cells ≤ R.cells) (hs : slots + rm.slots ≤ R.slots) (hp : pc + 3 = q)
    (K : ∀ (v : Option Value) (T' : State) (h' : Heap) (locs' : List Loc), On l Z p e R s m args below meth c y code maxL ret T' h' locs' (cells + rm.cells) (slots + rm.slots) → Q v h' → Goes p e below F T' (mkF m q L (v.toList ++ rest))) : Goes p e below F T (mkF m pc L S) := by
  subst hp hS has
  obtain ⟨cB, kB, q1, q2, q3⟩ := isOf (show Z.Warmed39 s.vm from X.2.1.2.2.1) X.2.2.1 E
  have hnf : NotFace s z' := by
    intro r0 h0
    obtain ⟨c2, r2, m2, -, -, u3, -, kP, hkP, hkPi⟩ := Cond.selects_spec (mvT (args := #[]) (s := s) X.2.1.2.2.1 wn)
    have e1 := findClass_of_methodNamed h0
    have e2 := findClass_of_methodNamed u3
    rw [hu, e1] at e2
    rw [Option.some.inj e2]
    exact ⟨kP, hkP, hkPi⟩
  obtain ⟨v, vm1, ⟨T', L1, k1, n1⟩, -, X', ⟨Lc, hQ, e2, e3, e4⟩, st⟩ := X.1.virtualBack X.2.1.1 (y := z') (z := y') X.2.1.2.2.2.1 (mvT (s := s) X.2.1.2.2.1 w1) (mvT (s := s) X.2.1.2.2.1 w2) hnf (mvT (s := s) X.2.1.2.2.1 w3) (mvT (s := s) X.2.1.2.2.1 w4) hy (Con.back X hC w5 w6 hf hl) q1 q3 (g := mkF m pc L (argsL.reverse ++ .ref a :: rest)) rfl (hL.trans X.2.1.2.2.2.2.2.2.2.symm) (Steps.refl _) hlen rfl (by show 2 * 0 + _ ≤ _; omega) (hb X.2.1.2.1 hd) (fun _ _ => ⟨rfl, X.2.2.1, hc, hs⟩)
  dsimp only [Pt.U, Pt.locs, Pt.cells, Pt.slots] at X' hQ e2 e3 e4 st
  subst e2 e3 e4
  exact Goes.step (fun _ k => st.trans k) (K v T' T'.heap _ (X.later X' rfl (Fr.app X.2.2.2.1 hQ.2.1) hQ.2.2) hQ.1)
theorem o_virtUp (X : On l Z p e R s m args below meth c y code maxL ret T h locs cells slots) {C owner : String} {z' y' : MethodName} {index q : Nat} {bytes : ByteArray} {maxL' : Nat} {ret' : Option FieldType} {rm : Room} {as : Array Value} {Q : Option Value → Heap → Prop} (argsL : List Value) {a : Addr} {rest : List Value} (E : Exa Z h a C) (hC : Con l Z y' bytes maxL' ret' rm as h Q)
    (w1 : (Jvm.Cond.methodLink y.cls index z').before a0 Z = true) (w2 : (Jvm.Cond.sameMethod z'.cls owner z'.name z'.desc).before a0 Z = true) (w3 : (Jvm.Cond.declares ⟨owner, z'.name, z'.desc⟩).before a0 Z = true) (ho : owner ≠ "java/lang/invoke/MethodHandle" ∧ owner ≠ "java/lang/invoke/VarHandle") (w4 : (Jvm.Cond.selects C z' y').before a0 Z = true) (w5 : (Jvm.Cond.instanceMethod y').before a0 Z = true) (w6 : (Jvm.Cond.code y' bytes maxL' ret').before a0 Z = true) (w7 : (Jvm.Cond.initialized y'.cls).before a0 Z = true) (hy : z'.cls ≠ "java/lang/invoke/MethodHandle" ∧ z'.cls ≠ "java/lang/invoke/VarHandle")
    (hd : decode code pc = .ok (.invokevirtual index, 3)) (has : (.ref a :: argsL).toArray = as) (hL : L.size = maxL) (hlen : ∀ sig, parseMethodDescriptor z'.desc = some sig → argsL.length = sig.parameters.length) (hS : S = argsL.reverse ++ .ref a :: rest) (hf : rm.frames + 1 ≤ R.frames) (hl : (rest.map fun v => v.category).sum + (maxL' + 11) + rm.locals ≤ R.locals) (hc : cells + rm.cells ≤ R.cells) (hs : slots + rm.slots ≤ R.slots) (hp : pc + 3 = q)
    (K : ∀ (v : Option Value) (T' : State) (h' : Heap) (locs' : List Loc), On l Z p e R s m args below meth c y code maxL ret T' h' locs' (cells + rm.cells) (slots + rm.slots) → Q v h' → Goes p e below F T' (mkF m q L (v.toList ++ rest))) : Goes p e below F T (mkF m pc L S) := by
  subst hp hS has
  obtain ⟨cB, kB, q1, q2, q3⟩ := isOf (show Z.Warmed39 s.vm from X.2.1.2.2.1) X.2.2.1 E
  obtain ⟨v, vm1, ⟨T', L1, k1, n1⟩, -, X', ⟨Lc, hQ, e2, e3, e4⟩, st⟩ := X.1.virtualBackUp X.2.1.1 (x := z') (y := y') X.2.1.2.2.2.1 (mvT (s := s) X.2.1.2.2.1 w1) (mv (show Z.Warmed39 s.vm from X.2.1.2.2.1) w2) (mvT (s := s) X.2.1.2.2.1 w3) ho (mvT (s := s) X.2.1.2.2.1 w4) (mvT (s := s) X.2.1.2.2.1 w5) (Con.back X hC w6 w7 hf hl) q1 q3 (g := mkF m pc L (argsL.reverse ++ .ref a :: rest)) rfl (hL.trans X.2.1.2.2.2.2.2.2.2.symm) (Steps.refl _) hlen rfl (by show 2 * 0 + _ ≤ _; omega) (hb X.2.1.2.1 hd) (fun _ _ => ⟨rfl, X.2.2.1, hc, hs⟩)
  dsimp only [Pt.U, Pt.locs, Pt.cells, Pt.slots] at X' hQ e2 e3 e4 st
  subst e2 e3 e4
  exact Goes.step (fun _ k => st.trans k) (K v T' T'.heap _ (X.later X' rfl (Fr.app X.2.2.2.1 hQ.2.1) hQ.2.2) hQ.1)
theorem o_instNull (X : On l Z p e R s m args below meth c y code maxL ret T h locs cells slots) {index q : Nat} (hd : decode code pc = .ok (.instanceof index, 3)) (hp : pc + 3 = q) (K : Goes p e below F T (mkF m q L (.int 0 :: S))) : Goes p e below F T (mkF m pc L (.null :: S)) := by
  subst hp
  exact Goes.step (fun _ k => X.1.instanceofNull X.2.1.1 (g := mkF m pc L (.null :: S)) rfl (rest := S) rfl (hb X.2.1.2.1 hd) _ k) K
end OwnCol
end Jvm.Pilot.@@N@@

namespace Jvm.Pilot.@@N@@
open Jvm Jvm.ClassFile Sem Op Lib Jvm.Free Jvm.Stand Jvm.LawKit Jvm.RoadKit Bundle Jvm.Pilot.@@N@@.Jvm.D
section OwnDbl
variable {l : Launch} {Z : State} {p : Program} {e : Env} {R : Room} {s : State} {m : MethodId} {args : Array Value} {below : List Frame} {meth : Method} {c : Code} {y : MethodName} {code : ByteArray} {maxL : Nat} {ret : Option FieldType} {T : State} {h : Heap} {locs : List Loc} {cells slots : Nat} {F : State → Outcome → Prop} {pc : Nat} {L L' : Array Slot} {S : List Value} {a0 : Array Value}
theorem o_dload (X : On l Z p e R s m args below meth c y code maxL ret T h locs cells slots) {k : Nat} {v : UInt64} {q : Nat} (hd : decode code pc = .ok (.dload k, 2)) (hl : L[k]? = some (.val (.double v))) (hp : pc + 2 = q) (K : Goes p e below F T (mkF m q L (.double v :: S))) : Goes p e below F T (mkF m pc L S) := by
  subst hp
  exact Goes.step (fun _ k => XS.dload X.1.here X.2.1.1 (g := mkF m pc L S) rfl (hb X.2.1.2.1 hd) hl k) K
theorem o_dloadN (X : On l Z p e R s m args below meth c y code maxL ret T h locs cells slots) {k : Fin 4} {v : UInt64} {q : Nat} (hd : decode code pc = .ok (.dload_n k, 1)) (hl : L[k.val]? = some (.val (.double v))) (hp : pc + 1 = q) (K : Goes p e below F T (mkF m q L (.double v :: S))) : Goes p e below F T (mkF m pc L S) := by
  subst hp
  exact Goes.step (fun _ k => XS.dloadN X.1.here X.2.1.1 (g := mkF m pc L S) rfl (hb X.2.1.2.1 hd) hl k) K
theorem o_dstore (X : On l Z p e R s m args below meth c y code maxL ret T h locs cells slots) {k : Nat} {x z : UInt64} {q : Nat} (hd : decode code pc = .ok (.dstore k, 2)) (hz : x = z) (hl : storeLocals L k (.double z) = some L') (hp : pc + 2 = q) (K : Goes p e below F T (mkF m q L' S)) : Goes p e below F T (mkF m pc L (.double x :: S)) := by
  subst hz hp
  exact Goes.step (fun _ k => XS.dstore X.1.here X.2.1.1 (g := mkF m pc L (.double x :: S)) rfl (hb X.2.1.2.1 hd) rfl hl k) K
theorem o_dstoreN (X : On l Z p e R s m args below meth c y code maxL ret T h locs cells slots) {k : Fin 4} {x z : UInt64} {q : Nat} (hd : decode code pc = .ok (.dstore_n k, 1)) (hz : x = z) (hl : storeLocals L k.val (.double z) = some L') (hp : pc + 1 = q) (K : Goes p e below F T (mkF m q L' S)) : Goes p e below F T (mkF m pc L (.double x :: S)) := by
  subst hz hp
  exact Goes.step (fun _ k => XS.dstoreN X.1.here X.2.1.1 (g := mkF m pc L (.double x :: S)) rfl (hb X.2.1.2.1 hd) rfl hl k) K
theorem o_dconst0 (X : On l Z p e R s m args below meth c y code maxL ret T h locs cells slots)  {q : Nat} (hd : decode code pc = .ok (.dconst 0, 1))  (hp : pc + 1 = q) (K : Goes p e below F T (mkF m q L (.double FP.dconst0 :: S))) : Goes p e below F T (mkF m pc L S) := by
  subst hp
  exact Goes.step (fun _ k => XS.dconst0 X.1.here X.2.1.1 (g := mkF m pc L S) rfl (hb X.2.1.2.1 hd) rfl k) K
theorem o_dconst1 (X : On l Z p e R s m args below meth c y code maxL ret T h locs cells slots)  {q : Nat} (hd : decode code pc = .ok (.dconst 1, 1))  (hp : pc + 1 = q) (K : Goes p e below F T (mkF m q L (.double FP.dconst1 :: S))) : Goes p e below F T (mkF m pc L S) := by
  subst hp
  exact Goes.step (fun _ k => XS.dconst1 X.1.here X.2.1.1 (g := mkF m pc L S) rfl (hb X.2.1.2.1 hd) rfl k) K
theorem o_i2d (X : On l Z p e R s m args below meth c y code maxL ret T h locs cells slots) {x : Int32} {w : UInt64} {q : Nat} (hd : decode code pc = .ok (.i2d, 1)) (hw : FP.i2d x = w) (hp : pc + 1 = q) (K : Goes p e below F T (mkF m q L (.double w :: S))) : Goes p e below F T (mkF m pc L (.int x :: S)) := by
  subst hw hp
  exact Goes.step (fun _ k => XS.i2dS X.1.here X.2.1.1 (g := mkF m pc L (.int x :: S)) rfl (hb X.2.1.2.1 hd) rfl rfl k) K
theorem o_l2d (X : On l Z p e R s m args below meth c y code maxL ret T h locs cells slots) {x : Int64} {w : UInt64} {q : Nat} (hd : decode code pc = .ok (.l2d, 1)) (hw : FP.l2d x = w) (hp : pc + 1 = q) (K : Goes p e below F T (mkF m q L (.double w :: S))) : Goes p e below F T (mkF m pc L (.long x :: S)) := by
  subst hw hp
  exact Goes.step (fun _ k => XS.l2dS X.1.here X.2.1.1 (g := mkF m pc L (.long x :: S)) rfl (hb X.2.1.2.1 hd) rfl rfl k) K
theorem o_dneg (X : On l Z p e R s m args below meth c y code maxL ret T h locs cells slots) {x w : UInt64} {q : Nat} (hd : decode code pc = .ok (.dneg, 1)) (hw : FP.dneg x = w) (hp : pc + 1 = q) (K : Goes p e below F T (mkF m q L (.double w :: S))) : Goes p e below F T (mkF m pc L (.double x :: S)) := by
  subst hw hp
  exact Goes.step (fun _ k => XS.dnegS X.1.here X.2.1.1 (g := mkF m pc L (.double x :: S)) rfl (hb X.2.1.2.1 hd) rfl rfl k) K
theorem o_dcmp (X : On l Z p e R s m args below meth c y code maxL ret T h locs cells slots) {k : CmpOp} {x z : UInt64} {w : Int32} {q : Nat} (hd : decode code pc = .ok (.dcmp k, 1)) (hw : cmpValue (FP.dcmp x z) k = w) (hp : pc + 1 = q) (K : Goes p e below F T (mkF m q L (.int w :: S))) : Goes p e below F T (mkF m pc L (.double z :: .double x :: S)) := by
  subst hw hp
  exact Goes.step (fun _ k => XS.dcmpS X.1.here X.2.1.1 (g := mkF m pc L (.double z :: .double x :: S)) rfl (hb X.2.1.2.1 hd) rfl rfl k) K
theorem o_dadd (X : On l Z p e R s m args below meth c y code maxL ret T h locs cells slots) {x z w : UInt64} {q : Nat} (hd : decode code pc = .ok (.dadd, 1)) (hn : Jvm.Free.Fl.NoNaN64 (FP.dadd x z)) (hw : FP.dadd x z = w) (hp : pc + 1 = q) (K : Goes p e below F T (mkF m q L (.double w :: S))) : Goes p e below F T (mkF m pc L (.double z :: .double x :: S)) := by
  subst hw hp
  exact Goes.step (fun _ k => XS.daddS X.1.here X.2.1.1 (g := mkF m pc L (.double z :: .double x :: S)) rfl (hb X.2.1.2.1 hd) rfl hn rfl k) K
theorem o_dsub (X : On l Z p e R s m args below meth c y code maxL ret T h locs cells slots) {x z w : UInt64} {q : Nat} (hd : decode code pc = .ok (.dsub, 1)) (hn : Jvm.Free.Fl.NoNaN64 (FP.dsub x z)) (hw : FP.dsub x z = w) (hp : pc + 1 = q) (K : Goes p e below F T (mkF m q L (.double w :: S))) : Goes p e below F T (mkF m pc L (.double z :: .double x :: S)) := by
  subst hw hp
  exact Goes.step (fun _ k => XS.dsubS X.1.here X.2.1.1 (g := mkF m pc L (.double z :: .double x :: S)) rfl (hb X.2.1.2.1 hd) rfl hn rfl k) K
theorem o_dmul (X : On l Z p e R s m args below meth c y code maxL ret T h locs cells slots) {x z w : UInt64} {q : Nat} (hd : decode code pc = .ok (.dmul, 1)) (hn : Jvm.Free.Fl.NoNaN64 (FP.dmul x z)) (hw : FP.dmul x z = w) (hp : pc + 1 = q) (K : Goes p e below F T (mkF m q L (.double w :: S))) : Goes p e below F T (mkF m pc L (.double z :: .double x :: S)) := by
  subst hw hp
  exact Goes.step (fun _ k => XS.dmulS X.1.here X.2.1.1 (g := mkF m pc L (.double z :: .double x :: S)) rfl (hb X.2.1.2.1 hd) rfl hn rfl k) K
theorem o_ddiv (X : On l Z p e R s m args below meth c y code maxL ret T h locs cells slots) {x z w : UInt64} {q : Nat} (hd : decode code pc = .ok (.ddiv, 1)) (hn : Jvm.Free.Fl.NoNaN64 (FP.ddiv x z)) (hw : FP.ddiv x z = w) (hp : pc + 1 = q) (K : Goes p e below F T (mkF m q L (.double w :: S))) : Goes p e below F T (mkF m pc L (.double z :: .double x :: S)) := by
  subst hw hp
  exact Goes.step (fun _ k => XS.ddivS X.1.here X.2.1.1 (g := mkF m pc L (.double z :: .double x :: S)) rfl (hb X.2.1.2.1 hd) rfl hn rfl k) K
theorem o_ldcD (X : On l Z p e R s m args below meth c y code maxL ret T h locs cells slots) {index : Nat} {v : UInt64} {q : Nat} (w : (Jvm.Cond.constantDouble y.cls index v).before a0 Z = true) (hd : decode code pc = .ok (.ldc2_w index, 3)) (hp : pc + 3 = q) (K : Goes p e below F T (mkF m q L (.double v :: S))) : Goes p e below F T (mkF m pc L S) := by
  subst hp
  exact Goes.step (X.1.ldc2DoubleC X.2.1.1 X.2.1.2.2.2.1 (mvT (s := s) X.2.1.2.2.1 w) (g := mkF m pc L S) rfl (hb X.2.1.2.1 hd)) K
theorem o_lsw (X : On l Z p e R s m args below meth c y code maxL ret T h locs cells slots) {dflt : Int} {ps : Array (Int × Int)} {len : Nat} {a i : Int} {x : Int32} {q : Nat} (hd : decode code pc = .ok (.lookupswitch dflt ps, len)) (hso : (ps.toList.zip (ps.toList.drop 1)).all (fun (a, next) => a.1 < next.1) = true) (hi : ps.find? (·.1 == x.toInt) = some (a, i)) (ho : 0 ≤ (pc : Int) + i) (hp : ((pc : Int) + i).toNat = q) (K : Goes p e below F T (mkF m q L S)) : Goes p e below F T (mkF m pc L (.int x :: S)) := by
  subst hp
  exact Goes.step (X.1.lookupswitchHit X.2.1.1 (g := mkF m pc L (.int x :: S)) rfl rfl (hb X.2.1.2.1 hd) hso hi ho) K
theorem o_retD (X : On l Z p e R s m args below meth c y code maxL (some .double) T h locs cells slots) {Q : Option Value → Heap → Prop} {rc rs : Nat} {z : UInt64} (hd : decode code pc = .ok (.dreturn, 1)) (hQ : Q (some (.double z)) h) (hc : cells ≤ rc) (hs : slots ≤ rs) : Goes p e below (FinQ Z s Q rc rs) T (mkF m pc L (.double z :: S)) := by
  obtain ⟨X1, C1, e1, N1, E1⟩ := X
  obtain ⟨fs, hr, hrun, hended, hW, hsame⟩ := X1.leave (v := some (.double z)) (fun h => by rw [C1.2.2.2.2.1] at h; cases h) C1.2.2.2.2.2.1
  refine ⟨_, _, retOut X1 C1.1 C1.2.2.2.2.1 rfl (Or.inr (Or.inr (Or.inl ⟨rfl, rfl, z, rfl⟩))) (hb C1.2.1 hd) hr, hrun, hended, _, _, rfl, ⟨?_, N1, ?_⟩, ⟨_, rfl⟩, hW, hsame.mono hc hs⟩
  · show Q _ T.heap
    rw [e1]; exact hQ
  · show Ext Z.heap T.heap
    rw [e1]; exact E1
theorem o_absD (X : On l Z p e R s m args below meth c y code maxL ret T h locs cells slots) {index : Nat} {x w : UInt64} {q : Nat} (w1 : (Jvm.Cond.methodLink y.cls index Jvm.Free.Fl.Abs.absDN).before a0 Z = true) (w2 : (Jvm.Cond.static Jvm.Free.Fl.Abs.absDN).before a0 Z = true) (w3 : (Jvm.Cond.initialized "java/lang/Math").before a0 Z = true) (w4 : (Jvm.Cond.code Jvm.Free.Fl.Abs.absDN Jvm.Free.Fl.Abs.absDCode 2 (some .double)).before a0 Z = true) (hx1 : Jvm.Free.Fl.NoNaN64 x) (hw : (x &&& 0x7fffffffffffffff) = w)
    (hd : decode code pc = .ok (.invokestatic index, 3)) (hL : L.size = maxL) (hf : 1 ≤ R.frames) (hl : (S.map fun v => v.category).sum + 13 ≤ R.locals) (hc : cells ≤ R.cells) (hs : slots ≤ R.slots) (hp : pc + 3 = q) (K : ∀ T' : State, On l Z p e R s m args below meth c y code maxL ret T' h locs cells slots → Goes p e below F T' (mkF m q L (.double w :: S))) : Goes p e below F T (mkF m pc L (.double x :: S)) := by
  subst hp
  obtain ⟨T', X', e', st⟩ := natS X.1 X.2.1.1 (show Z.Warmed39 s.vm from X.2.1.2.2.1) X.2.1.2.2.2.1 w1 w2 w3 w4 (by decide) X.2.2.1 (W := (S.map fun v => v.category).sum) (fun hcode => Jvm.Free.Fl.Abs.absD_pays (sargs := args) x hcode hf hl) (g := mkF m pc L (.double x :: S)) rfl (hL.trans X.2.1.2.2.2.2.2.2.2.symm) (argsL := [.double x]) (rest := S) (lenOf (by decide +kernel : parseMethodDescriptor "(D)D" = some ⟨[.double], some .double⟩) rfl) rfl (by show 2 * 0 + _ ≤ _; omega) (hb X.2.1.2.1 hd) hc hs ⟨rfl, hx1⟩ (congrArg Value.double hw)
  exact Goes.step st (K T' (X.later X' e' X.2.2.2.1 X.ext))
theorem o_maxD (X : On l Z p e R s m args below meth c y code maxL ret T h locs cells slots) {index : Nat} {x z w : UInt64} {q : Nat} (w1 : (Jvm.Cond.methodLink y.cls index Jvm.Free.Fl.Abs.maxDN).before a0 Z = true) (w2 : (Jvm.Cond.static Jvm.Free.Fl.Abs.maxDN).before a0 Z = true) (w3 : (Jvm.Cond.initialized "java/lang/Math").before a0 Z = true) (w4 : (Jvm.Cond.code Jvm.Free.Fl.Abs.maxDN Jvm.Free.Fl.Abs.maxDCode 4 (some .double)).before a0 Z = true) (hx1 : Jvm.Free.Fl.NoNaN64 x) (hx2 : Jvm.Free.Fl.NoNaN64 z) (hw : (Jvm.Native.java_lang_Math.nans.pick64 true x z) = w)
    (hd : decode code pc = .ok (.invokestatic index, 3)) (hL : L.size = maxL) (hf : 1 ≤ R.frames) (hl : (S.map fun v => v.category).sum + 15 ≤ R.locals) (hc : cells ≤ R.cells) (hs : slots ≤ R.slots) (hp : pc + 3 = q) (K : ∀ T' : State, On l Z p e R s m args below meth c y code maxL ret T' h locs cells slots → Goes p e below F T' (mkF m q L (.double w :: S))) : Goes p e below F T (mkF m pc L (.double z :: .double x :: S)) := by
  subst hp
  obtain ⟨T', X', e', st⟩ := natS X.1 X.2.1.1 (show Z.Warmed39 s.vm from X.2.1.2.2.1) X.2.1.2.2.2.1 w1 w2 w3 w4 (by decide) X.2.2.1 (W := (S.map fun v => v.category).sum) (fun hcode => Jvm.Free.Fl.Abs.maxD_pays (sargs := args) x z hcode hf hl) (g := mkF m pc L (.double z :: .double x :: S)) rfl (hL.trans X.2.1.2.2.2.2.2.2.2.symm) (argsL := [.double x, .double z]) (rest := S) (lenOf (by decide +kernel : parseMethodDescriptor "(DD)D" = some ⟨[.double, .double], some .double⟩) rfl) rfl (by show 2 * 0 + _ ≤ _; omega) (hb X.2.1.2.1 hd) hc hs ⟨rfl, hx1, hx2⟩ (congrArg Value.double hw)
  exact Goes.step st (K T' (X.later X' e' X.2.2.2.1 X.ext))
theorem o_minD (X : On l Z p e R s m args below meth c y code maxL ret T h locs cells slots) {index : Nat} {x z w : UInt64} {q : Nat} (w1 : (Jvm.Cond.methodLink y.cls index Jvm.Free.Fl.Abs.minDN).before a0 Z = true) (w2 : (Jvm.Cond.static Jvm.Free.Fl.Abs.minDN).before a0 Z = true) (w3 : (Jvm.Cond.initialized "java/lang/Math").before a0 Z = true) (w4 : (Jvm.Cond.code Jvm.Free.Fl.Abs.minDN Jvm.Free.Fl.Abs.minDCode 4 (some .double)).before a0 Z = true) (hx1 : Jvm.Free.Fl.NoNaN64 x) (hx2 : Jvm.Free.Fl.NoNaN64 z) (hw : (Jvm.Native.java_lang_Math.nans.pick64 false x z) = w)
    (hd : decode code pc = .ok (.invokestatic index, 3)) (hL : L.size = maxL) (hf : 1 ≤ R.frames) (hl : (S.map fun v => v.category).sum + 15 ≤ R.locals) (hc : cells ≤ R.cells) (hs : slots ≤ R.slots) (hp : pc + 3 = q) (K : ∀ T' : State, On l Z p e R s m args below meth c y code maxL ret T' h locs cells slots → Goes p e below F T' (mkF m q L (.double w :: S))) : Goes p e below F T (mkF m pc L (.double z :: .double x :: S)) := by
  subst hp
  obtain ⟨T', X', e', st⟩ := natS X.1 X.2.1.1 (show Z.Warmed39 s.vm from X.2.1.2.2.1) X.2.1.2.2.2.1 w1 w2 w3 w4 (by decide) X.2.2.1 (W := (S.map fun v => v.category).sum) (fun hcode => Jvm.Free.Fl.Abs.minD_pays (sargs := args) x z hcode hf hl) (g := mkF m pc L (.double z :: .double x :: S)) rfl (hL.trans X.2.1.2.2.2.2.2.2.2.symm) (argsL := [.double x, .double z]) (rest := S) (lenOf (by decide +kernel : parseMethodDescriptor "(DD)D" = some ⟨[.double, .double], some .double⟩) rfl) rfl (by show 2 * 0 + _ ≤ _; omega) (hb X.2.1.2.1 hd) hc hs ⟨rfl, hx1, hx2⟩ (congrArg Value.double hw)
  exact Goes.step st (K T' (X.later X' e' X.2.2.2.1 X.ext))
theorem o_rawL (X : On l Z p e R s m args below meth c y code maxL ret T h locs cells slots) {index q : Nat} {x : UInt64} (w1 : (Jvm.Cond.methodLink y.cls index Jvm.doubleToRawLongBitsName).before a0 Z = true) (w2 : (Jvm.Cond.native Jvm.doubleToRawLongBitsName).before a0 Z = true) (w3 : (Jvm.Cond.static Jvm.doubleToRawLongBitsName).before a0 Z = true) (w4 : (Jvm.Cond.initialized "java/lang/Double").before a0 Z = true)
    (hd : decode code pc = .ok (.invokestatic index, 3)) (hL : L.size = maxL) (hf : 1 ≤ R.frames) (hl : (S.map fun v => v.category).sum + (nativeFrameWords "java/lang/Double" "doubleToRawLongBits" 2 + 11) ≤ R.locals) (hp : pc + 3 = q) (K : ∀ T' : State, On l Z p e R s m args below meth c y code maxL ret T' h locs cells slots → Goes p e below F T' (mkF m q L (.long x.toInt64 :: S))) : Goes p e below F T (mkF m pc L (.double x :: S)) := by
  subst hp
  obtain ⟨vm', X', st⟩ := X.1.doubleToRawLongBits X.2.1.1 X.2.1.2.2.2.1 (mvT (s := s) X.2.1.2.2.1 w1) (mvT (s := s) X.2.1.2.2.1 w2) (mvT (s := s) X.2.1.2.2.1 w3) (mvT (s := s) X.2.1.2.2.1 w4) (g := mkF m pc L (.double x :: S)) rfl (hL.trans X.2.1.2.2.2.2.2.2.2.symm) (rest := S) rfl (hb X.2.1.2.1 hd) hf (by show 2 * 0 + _ + _ ≤ _; omega)
  have e' : (T.setVm vm').heap = h := X.2.2.1
  exact Goes.step st (K _ (X.later X' e' X.2.2.2.1 X.ext))
end OwnDbl
end Jvm.Pilot.@@N@@
namespace Jvm.Pilot.@@N@@
section OwnFp
open Jvm.FP.Core
/-- two to a whole power -/
theorem tw_pos (q : Int) : (0 : Rat) < (2 : Rat) ^ q := Rat.zpow_pos (by decide)
theorem tw_ne (q : Int) : (2 : Rat) ^ q ≠ 0 := fun h => by have := tw_pos q; rw [h] at this; exact absurd this (by decide)
theorem tw_add (a b : Int) : (2 : Rat) ^ (a + b) = (2 : Rat) ^ a * (2 : Rat) ^ b := Rat.zpow_add (by decide) a b
theorem tw_nat (k : Nat) : (2 : Rat) ^ (k : Int) = ((2 ^ k : Nat) : Rat) := by rw [Rat.zpow_natCast, Rat.natCast_pow]; rfl
theorem tw_sub {a b : Int} (h : b ≤ a) : ((2 ^ (a - b).toNat : Nat) : Rat) * (2 : Rat) ^ b = (2 : Rat) ^ a := by
  rw [← tw_nat, ← tw_add]
  congr 1
  omega
theorem inU (c : Nat) {q e0 : Int} (h : e0 ≤ q) : ((inUnits c q e0 : Nat) : Rat) * (2 : Rat) ^ e0 = (c : Rat) * (2 : Rat) ^ q := by
  unfold inUnits
  rw [Rat.natCast_mul, Rat.mul_assoc, tw_sub h]
theorem mulR {a b : Rat} (q : Int) (h : a * (2 : Rat) ^ q = b * (2 : Rat) ^ q) : a = b := by
  have := tw_ne q
  grind
/-- rounding: the exact value c * 2^q, of 53 digits at the most, is kept -/
theorem rr_exact {s : Bool} {A B c : Nat} {e q : Int} (hB : 0 < B) (hc : c < 2 ^ 53) (hq : -1074 ≤ q) (hq2 : q ≤ 960) (hv : (A : Rat) * (2 : Rat) ^ e = (c : Rat) * (2 : Rat) ^ q * (B : Rat)) :
    ∃ (c' : Nat) (q' : Int), roundRatio b64 s A B e = .fin s c' q' ∧ (c' : Rat) * (2 : Rat) ^ q' = (c : Rat) * (2 : Rat) ^ q := by
  have hqm : b64.qmin = -1074 := by decide
  have hqx : b64.qmax = 971 := by decide
  obtain ⟨e0, h1, h2, h3⟩ : ∃ e0 : Int, e0 < -1074 ∧ e0 ≤ e ∧ e0 ≤ q := ⟨min (min (-1075) e) q, by omega, by omega, by omega⟩
  -- in units of 2^e0
  have eq : inUnits A e e0 = inUnits c q e0 * B := by
    have a1 := inU A h2
    have a2 := inU c h3
    have : ((inUnits A e e0 : Nat) : Rat) = ((inUnits c q e0 * B : Nat) : Rat) := by
      apply mulR e0
      rw [Rat.natCast_mul]
      grind
    exact Rat.natCast_inj.mp this
  have hd0 : distance A B e c q e0 = 0 := by
    unfold distance
    rw [eq]
    simp
  cases hr : roundRatio b64 s A B e with
  | nan =>
    exfalso
    unfold roundRatio at hr
    split at hr
    · cases hr
    · unfold roundAt settle bound at hr
      split at hr <;> split at hr <;> cases hr
  | inf t =>
    exfalso
    have ht : t = s := by
      unfold roundRatio at hr
      split at hr
      · cases hr
      · unfold roundAt settle bound at hr
        split at hr <;> split at hr <;> cases hr <;> rfl
    subst ht
    have := (roundRatio_inf good_b64 (s := t) (A := A) (B := B) (e := e) (e0 := e0) hB (by omega) h2).mp hr
    rw [eq, hqx] at this
    have p53 : b64.p = 53 := rfl
    rw [p53] at this
    have k1 : (2 ^ (53 + 1) - 1) * 2 ^ ((971 : Int) - 1 - e0).toNat ≤ inUnits c q e0 := Nat.le_of_mul_le_mul_right this hB
    have k2 : inUnits c q e0 < 2 ^ 53 * 2 ^ ((971 : Int) - 1 - e0).toNat := by
      unfold inUnits
      exact Nat.lt_of_lt_of_le (Nat.mul_lt_mul_of_pos_right hc (Nat.two_pow_pos _)) (Nat.mul_le_mul_left _ (Nat.pow_le_pow_right (by decide) (by omega)))
    have k3 : 2 ^ 53 * 2 ^ ((971 : Int) - 1 - e0).toNat ≤ (2 ^ (53 + 1) - 1) * 2 ^ ((971 : Int) - 1 - e0).toNat := Nat.mul_le_mul_right _ (by decide)
    omega
  | fin t c' q' =>
    have n1 := roundRatio_nearest good_b64 (e0 := e0) hB hr (c' := c) (q' := q) hc (by omega) (by omega) h2
    rw [hd0] at n1
    have n2 : distance A B e c' q' e0 = 0 := Nat.le_zero.mp n1
    have hf := roundRatio_fits good_b64 s A hB e
    rw [hr] at hf
    have hq'0 : e0 ≤ q' := by have := hf.2.1; omega
    have ht : t = s := by
      unfold roundRatio at hr
      split at hr
      · cases hr; rfl
      · unfold roundAt settle bound at hr
        split at hr <;> split at hr <;> cases hr <;> rfl
    subst ht
    refine ⟨c', q', rfl, ?_⟩
    unfold distance at n2
    have n3 := Int.natAbs_eq_zero.mp n2
    have n4 : inUnits c q e0 * B = inUnits c' q' e0 * B := by rw [← eq]; omega
    have n5 := Nat.eq_of_mul_eq_mul_right hB n4
    rw [← inU c' hq'0, ← inU c h3, n5]
/-- the double w is finite, and its value is r -/
def IsV (w : UInt64) (r : Rat) : Prop := ∃ s c q, val64 w = .fin s c q ∧ ((signed s c : Int) : Rat) * (2 : Rat) ^ q = r
theorem sgn_cast (s : Bool) (c : Nat) : ((signed s c : Int) : Rat) = if s then -(c : Rat) else (c : Rat) := by
  cases s <;> simp [signed, Rat.intCast_natCast, Rat.intCast_neg]
/-- a value that a double holds: n * 2^q, n of 53 digits at the most -/
def Rep (r : Rat) : Prop := ∃ (n : Int) (q : Int), n.natAbs < 2 ^ 53 ∧ -1074 ≤ q ∧ q ≤ 960 ∧ (n : Rat) * (2 : Rat) ^ q = r
theorem natAbs_cast (n : Int) : ((n.natAbs : Nat) : Rat) = if n < 0 then -(n : Rat) else (n : Rat) := by
  by_cases h : n < 0
  · rw [if_pos h, ← Rat.intCast_natCast, ← Rat.intCast_neg]; congr 1; omega
  · rw [if_neg h, ← Rat.intCast_natCast]; congr 1; omega
/-- rounding keeps a value that a double holds; m its magnitude -/
theorem rr_rep {s : Bool} {A B : Nat} {e : Int} {r : Rat} (hB : 0 < B) (hr : Rep r) (hv : (if s then -((A : Rat) * (2 : Rat) ^ e) else (A : Rat) * (2 : Rat) ^ e) = r * (B : Rat)) :
    ∃ (c : Nat) (q : Int), roundRatio b64 s A B e = .fin s c q ∧ ((signed s c : Int) : Rat) * (2 : Rat) ^ q = r := by
  obtain ⟨n, q, h1, h2, h3, h4⟩ := hr
  have hp := tw_pos q
  have hpe := tw_pos e
  have hBr : (0 : Rat) < (B : Rat) := by exact_mod_cast hB
  have hA : (0 : Rat) ≤ (A : Rat) := by exact_mod_cast Nat.zero_le A
  have hAe : (0 : Rat) ≤ (A : Rat) * (2 : Rat) ^ e := Rat.mul_nonneg hA (Rat.le_of_lt hpe)
  have hP : (0 : Rat) < (2 : Rat) ^ q * (B : Rat) := Rat.mul_pos hp hBr
  have hs1 : s = true → n ≤ 0 := by
    intro hs
    subst hs
    refine Int.not_lt.mp fun h => ?_
    have h5 : (0 : Rat) < (n : Rat) := by exact_mod_cast h
    have h6 := Rat.mul_pos h5 hP
    rw [← h4] at hv
    simp only [if_true] at hv
    grind
  have hs0 : s = false → 0 ≤ n := by
    intro hs
    subst hs
    refine Int.not_lt.mp fun h => ?_
    have h5 : (0 : Rat) < -(n : Rat) := by
      have : (n : Rat) < 0 := by exact_mod_cast h
      grind
    have h6 := Rat.mul_pos h5 hP
    rw [← h4] at hv
    simp only [Bool.false_eq_true, if_false] at hv
    grind
  have hn : ((n.natAbs : Nat) : Rat) = if s then -(n : Rat) else (n : Rat) := by
    rw [natAbs_cast]
    cases s with
    | true =>
      have := hs1 rfl
      by_cases h0 : n < 0
      · rw [if_pos h0]; rfl
      · have : n = 0 := by omega
        subst this; decide
    | false => rw [if_neg (Int.not_lt.mpr (hs0 rfl))]; rfl
  have hm : (A : Rat) * (2 : Rat) ^ e = ((n.natAbs : Nat) : Rat) * (2 : Rat) ^ q * (B : Rat) := by
    rw [hn]
    rw [← h4] at hv
    generalize (n : Rat) = N at hv ⊢
    cases s <;> simp only [if_true, Bool.false_eq_true, if_false] at hv ⊢ <;> grind
  obtain ⟨c, q', k1, k2⟩ := rr_exact (s := s) hB h1 h2 h3 hm
  refine ⟨c, q', k1, ?_⟩
  rw [sgn_cast]
  rw [hn] at k2
  cases s <;> simp only [if_true, Bool.false_eq_true, if_false] at k2 ⊢ <;> grind
theorem IsV.round {s : Bool} {c : Nat} {e : Int} {r : Rat} {w : UInt64} (hw : val64 w = round b64 (.fin s c e)) (hr : Rep r) (hv : ((signed s c : Int) : Rat) * (2 : Rat) ^ e = r) : IsV w r := by
  obtain ⟨c', q, h1, h2⟩ := rr_rep (s := s) (A := c) (B := 1) (e := e) (by decide) hr (by
    rw [sgn_cast] at hv
    have e1 : ((1 : Nat) : Rat) = 1 := rfl
    rw [e1, Rat.mul_one, ← hv]
    cases s <;> simp [Rat.neg_mul])
  exact ⟨s, c', q, hw.trans h1, h2⟩
theorem signed_natAbs (v : Int) (s t : Bool) : (((signed (sumSign s t v) v.natAbs : Int)) : Rat) = (v : Rat) := by
  congr 1
  unfold signed sumSign
  by_cases h : v = 0
  · subst h; simp
  · rw [if_neg h]
    by_cases h2 : v < 0 <;> simp [h2] <;> omega
theorem signed_units (s : Bool) (c : Nat) {q e : Int} (h : e ≤ q) : ((signed s (inUnits c q e) : Int) : Rat) * (2 : Rat) ^ e = ((signed s c : Int) : Rat) * (2 : Rat) ^ q := by
  have k := inU c h
  rw [sgn_cast, sgn_cast]
  cases s <;> simp only [if_true, Bool.false_eq_true, if_false] <;> grind
theorem IsV.add {a b : UInt64} {x y : Rat} (ha : IsV a x) (hb : IsV b y) (hr : Rep (x + y)) : IsV (dadd a b) (x + y) := by
  obtain ⟨s, c, q, h1, h2⟩ := ha
  obtain ⟨t, d, r, h3, h4⟩ := hb
  refine IsV.round (w := dadd a b) (by rw [val64_dadd, h1, h3]; rfl) hr ?_
  rw [signed_natAbs]
  unfold sumUnits
  rw [Rat.intCast_add, Rat.add_mul, signed_units s c (Int.min_le_left q r), signed_units t d (Int.min_le_right q r), h2, h4]
theorem IsV.neg_d {d : Datum} {s : Bool} {c : Nat} {q : Int} {x : Rat} (h1 : d = .fin s c q) (h2 : ((signed s c : Int) : Rat) * (2 : Rat) ^ q = x) : negate d = .fin (!s) c q ∧ ((signed (!s) c : Int) : Rat) * (2 : Rat) ^ q = -x := by
  subst h1 h2
  refine ⟨rfl, ?_⟩
  rw [sgn_cast, sgn_cast]
  cases s <;> simp [Rat.neg_mul]
theorem IsV.sub {a b : UInt64} {x y : Rat} (ha : IsV a x) (hb : IsV b y) (hr : Rep (x - y)) : IsV (dsub a b) (x - y) := by
  obtain ⟨s, c, q, h1, h2⟩ := ha
  obtain ⟨t, d, r, h3, h4⟩ := hb
  obtain ⟨h5, h6⟩ := IsV.neg_d h3 h4
  refine IsV.round (w := dsub a b) (by rw [val64_dsub, h1, h5]; rfl) hr ?_
  rw [signed_natAbs]
  unfold sumUnits
  rw [Rat.intCast_add, Rat.add_mul, signed_units s c (Int.min_le_left q r), signed_units (!t) d (Int.min_le_right q r), h2, h6, Rat.sub_eq_add_neg]
theorem signed_xor (s t : Bool) (c d : Nat) : ((signed (s != t) (c * d) : Int) : Rat) = ((signed s c : Int) : Rat) * ((signed t d : Int) : Rat) := by
  rw [sgn_cast, sgn_cast, sgn_cast, Rat.natCast_mul]
  cases s <;> cases t <;> simp [Rat.neg_mul, Rat.mul_neg]
theorem IsV.mul {a b : UInt64} {x y : Rat} (ha : IsV a x) (hb : IsV b y) (hr : Rep (x * y)) : IsV (dmul a b) (x * y) := by
  obtain ⟨s, c, q, h1, h2⟩ := ha
  obtain ⟨t, d, r, h3, h4⟩ := hb
  refine IsV.round (w := dmul a b) (by rw [val64_dmul, h1, h3]; rfl) hr ?_
  rw [signed_xor, tw_add, ← h2, ← h4]
  grind
theorem IsV.div {a b : UInt64} {x y : Rat} (ha : IsV a x) (hb : IsV b y) (hy : y ≠ 0) (hr : Rep (x / y)) : IsV (ddiv a b) (x / y) := by
  obtain ⟨s, c, q, h1, h2⟩ := ha
  obtain ⟨t, d, r, h3, h4⟩ := hb
  have hd : d ≠ 0 := by
    intro h; subst h
    rw [signed_zero] at h4
    apply hy; rw [← h4]; simp
  have hq : val64 (ddiv a b) = roundRatio b64 (s != t) c d (q - r) := by
    rw [val64_ddiv, h1, h3]
    show (if d = 0 then _ else _) = _
    rw [if_neg hd]
  obtain ⟨c', q', k1, k2⟩ := rr_rep (s := (s != t)) (A := c) (B := d) (e := q - r) (r := x / y) (by omega) hr (by
    have e1 : (2 : Rat) ^ q = (2 : Rat) ^ (q - r) * (2 : Rat) ^ r := by rw [← tw_add]; congr 1; omega
    have n1 := tw_ne r
    have n2 : (d : Rat) ≠ 0 := by
      intro h; apply hd; exact_mod_cast h
    rw [sgn_cast] at h2 h4
    subst h2 h4
    rw [e1]
    cases s <;> cases t <;> simp only [if_true, Bool.false_eq_true, if_false, bne_self_eq_false, Bool.true_bne, Bool.false_bne, Bool.not_true, Bool.not_false] <;> grind)
  exact ⟨_, c', q', hq.trans k1, k2⟩
theorem IsV.neg {a : UInt64} {x : Rat} (ha : IsV a x) : IsV (dneg a) (-x) := by
  obtain ⟨s, c, q, h1, h2⟩ := ha
  obtain ⟨h5, h6⟩ := IsV.neg_d h1 h2
  exact ⟨!s, c, q, by rw [val64_dneg, h1]; rfl, h6⟩
/-- the order of two finite doubles is that of their values -/
theorem IsV.cmp {a b : UInt64} {x y : Rat} (ha : IsV a x) (hb : IsV b y) : dcmp a b = some (if x < y then .lt else if x = y then .eq else .gt) := by
  obtain ⟨s, c, q, h1, h2⟩ := ha
  obtain ⟨t, d, r, h3, h4⟩ := hb
  have hk : dcmp a b = some (compare (signed s (inUnits c q (min q r))) (signed t (inUnits d r (min q r)))) := by
    show order (val64 a) (val64 b) = _
    rw [h1, h3]; rfl
  rw [hk]
  have u1 := signed_units s c (Int.min_le_left q r)
  have u2 := signed_units t d (Int.min_le_right q r)
  rw [h2] at u1
  rw [h4] at u2
  have hp := tw_pos (min q r)
  generalize (2 : Rat) ^ (min q r) = P at u1 u2 hp
  generalize signed s (inUnits c q (min q r)) = m at u1
  generalize signed t (inUnits d r (min q r)) = n at u2
  congr 1
  subst u1 u2
  have l1 : (m : Rat) * P < (n : Rat) * P ↔ m < n := by
    constructor
    · intro h
      refine Int.not_le.mp fun h' => ?_
      have h6 : (n : Rat) ≤ (m : Rat) := by exact_mod_cast h'
      have h7 := Rat.mul_le_mul_of_nonneg_right h6 (Rat.le_of_lt hp)
      grind
    · intro h
      have h6 : (m : Rat) < (n : Rat) := by exact_mod_cast h
      exact Rat.mul_lt_mul_of_pos_right h6 hp
  have l2 : (m : Rat) * P = (n : Rat) * P ↔ m = n := by
    constructor
    · intro h
      have hne : P ≠ 0 := by grind
      have : (m : Rat) = (n : Rat) := by grind
      exact_mod_cast this
    · intro h; rw [h]
  simp only [l1, l2]
  show compareOfLessAndEq m n = _
  rfl
theorem signed_dec (i : Int) : signed (decide (i < 0)) i.natAbs = i := by
  unfold signed
  by_cases h : i < 0 <;> simp [h] <;> omega
theorem Rep.int {i : Int} (h : i.natAbs < 2 ^ 53) : Rep (i : Rat) := ⟨i, 0, h, by decide, by decide, by rw [Rat.zpow_zero, Rat.mul_one]⟩
theorem IsV.l2d {x : Int64} (h : x.toInt.natAbs < 2 ^ 53) : IsV (l2d x) (x.toInt : Rat) :=
  IsV.round (val64_l2d x) (Rep.int h) (by rw [signed_dec, Rat.zpow_zero, Rat.mul_one])
theorem IsV.i2d (x : Int32) : IsV (i2d x) (x.toInt : Rat) :=
  IsV.round (val64_i2d x) (Rep.int (by have := x.toInt_lt; have := x.le_toInt; omega)) (by rw [signed_dec, Rat.zpow_zero, Rat.mul_one])
theorem IsV.zero : IsV FP.dconst0 0 := ⟨false, 0, b64.qmin, val64_dconst0, by rw [signed_zero]; exact Rat.zero_mul _⟩
theorem IsV.one : IsV FP.dconst1 1 := ⟨false, 2 ^ 52, -52, val64_dconst1, by decide +kernel⟩
theorem IsV.nn {w : UInt64} {r : Rat} (h : IsV w r) : Jvm.Free.Fl.NoNaN64 w := by
  obtain ⟨s, c, q, h1, -⟩ := h
  rw [Jvm.Free.Fl.noNaN64_no]
  show decide (val64 w = .nan) = false
  rw [h1]; rfl
theorem val_abs {a : UInt64} {s : Bool} {c : Nat} {q : Int} (h : val64 a = .fin s c q) : val64 (a &&& 0x7fffffffffffffff) = .fin false c q := by
  have hn := Jvm.Free.Fl.abs_toNat a
  have ha := a.toNat_lt
  unfold val64 at h ⊢
  rw [hn]
  have t1 : fieldT b64 (a.toNat % 9223372036854775808) = fieldT b64 a.toNat := by
    show a.toNat % 9223372036854775808 % 4503599627370496 = a.toNat % 4503599627370496
    omega
  have t2 : fieldE b64 (a.toNat % 9223372036854775808) = fieldE b64 a.toNat := by
    show a.toNat % 9223372036854775808 / 4503599627370496 % 2048 = a.toNat / 4503599627370496 % 2048
    omega
  have t3 : fieldS b64 (a.toNat % 9223372036854775808) = false := by
    have : a.toNat % 9223372036854775808 / 4503599627370496 / 2048 % 2 = 0 := by omega
    show (a.toNat % 9223372036854775808 / 4503599627370496 / 2048 % 2 == 1) = false
    rw [this]; rfl
  unfold decode at h ⊢
  rw [t1, t2, t3]
  split at h
  · split at h <;> cases h
  · rename_i g1
    rw [if_neg g1]
    split at h
    · rename_i g2
      rw [if_pos g2]; cases h; rfl
    · rename_i g2
      rw [if_neg g2]; cases h; rfl
theorem IsV.abs {a : UInt64} {x : Rat} (h : IsV a x) : IsV (a &&& 0x7fffffffffffffff) (if x < 0 then -x else x) := by
  obtain ⟨s, c, q, h1, h2⟩ := h
  refine ⟨false, c, q, val_abs h1, ?_⟩
  have hp := tw_pos q
  have hc : (0 : Rat) ≤ (c : Rat) := by exact_mod_cast Nat.zero_le c
  have hcp := Rat.mul_nonneg hc (Rat.le_of_lt hp)
  rw [sgn_cast] at h2 ⊢
  subst h2
  cases s <;> simp only [if_true, Bool.false_eq_true, if_false] <;> split <;> grind
theorem IsV.eqv {a : UInt64} {x y : Rat} (h : IsV a x) (e : x = y) : IsV a y := e ▸ h
theorem IsV.max {a b : UInt64} {x y : Rat} (ha : IsV a x) (hb : IsV b y) : IsV (Jvm.Native.java_lang_Math.nans.pick64 true a b) (if x < y then y else x) := by
  have hc := ha.cmp hb
  unfold Jvm.Native.java_lang_Math.nans.pick64
  rw [show FP.dcmp a b = _ from hc]
  by_cases h1 : x < y
  · simp only [h1, if_true]; exact hb
  · by_cases h2 : x = y
    · subst h2
      simp only [h1, if_false, if_true]
      split
      · exact hb
      · exact ha
    · simp only [h1, h2, if_false, if_true]; exact ha
theorem IsV.cmpV {a b : UInt64} {x y : Rat} (ha : IsV a x) (hb : IsV b y) (k : Jvm.ClassFile.CmpOp) : Jvm.Op.cmpValue (FP.dcmp a b) k = if x < y then (-1 : Int32) else if x = y then 0 else 1 := by
  rw [show FP.dcmp a b = _ from ha.cmp hb]
  by_cases h1 : x < y
  · simp only [h1, if_true]; cases k <;> rfl
  · by_cases h2 : x = y
    · simp only [h1, h2, if_false, if_true]
      subst h2
      simp only [h1, if_false]; cases k <;> rfl
    · simp only [h1, h2, if_false]; cases k <;> rfl
theorem IsV.fneg {a : UInt64} {x : Rat} (h : IsV a x) : IsV (FP.dneg a) (-x) := by
  obtain ⟨s, c, q, h1, h2⟩ := h
  obtain ⟨h5, h6⟩ := IsV.neg_d h1 h2
  have ha := a.toNat_lt
  have hx : (FP.dneg a).toNat = if a.toNat < 9223372036854775808 then a.toNat + 9223372036854775808 else a.toNat - 9223372036854775808 := by
    show (a ^^^ 0x8000000000000000).toNat = _
    have h1 := UInt64.toNat_xor (a := a) (b := 0x8000000000000000)
    have h2 : (a ^^^ 0x8000000000000000).toNat % 9223372036854775808 = a.toNat % 9223372036854775808 := by
      rw [h1]
      show (a.toNat ^^^ 2 ^ 63) % 2 ^ 63 = a.toNat % 2 ^ 63
      rw [Nat.xor_mod_two_pow]
      simp
    have h3 : (a ^^^ 0x8000000000000000).toNat / 9223372036854775808 = 1 - a.toNat / 9223372036854775808 := by
      rw [h1]
      show (a.toNat ^^^ 2 ^ 63) / 2 ^ 63 = 1 - a.toNat / 2 ^ 63
      rw [Nat.xor_div_two_pow]
      have : a.toNat / 2 ^ 63 = 0 ∨ a.toNat / 2 ^ 63 = 1 := by omega
      rcases this with h | h <;> rw [h] <;> decide
    have h4 := (a ^^^ 0x8000000000000000).toNat_lt
    generalize (a ^^^ 0x8000000000000000).toNat = X at *
    split <;> omega
  have hk : val64 (FP.dneg a) = .fin (!s) c q := by
    unfold val64 at h1 ⊢
    have t1 : fieldT b64 (FP.dneg a).toNat = fieldT b64 a.toNat := by
      show (FP.dneg a).toNat % 4503599627370496 = a.toNat % 4503599627370496
      rw [hx]; split <;> omega
    have t2 : fieldE b64 (FP.dneg a).toNat = fieldE b64 a.toNat := by
      show (FP.dneg a).toNat / 4503599627370496 % 2048 = a.toNat / 4503599627370496 % 2048
      rw [hx]; split <;> omega
    have t3 : fieldS b64 (FP.dneg a).toNat = !fieldS b64 a.toNat := by
      show ((FP.dneg a).toNat / 4503599627370496 / 2048 % 2 == 1) = !(a.toNat / 4503599627370496 / 2048 % 2 == 1)
      rw [hx]
      split
      · have e1 : (a.toNat + 9223372036854775808) / 4503599627370496 / 2048 % 2 = 1 := by omega
        have e2 : a.toNat / 4503599627370496 / 2048 % 2 = 0 := by omega
        rw [e1, e2]; rfl
      · have e1 : (a.toNat - 9223372036854775808) / 4503599627370496 / 2048 % 2 = 0 := by omega
        have e2 : a.toNat / 4503599627370496 / 2048 % 2 = 1 := by omega
        rw [e1, e2]; rfl
    unfold decode at h1 ⊢
    rw [t1, t2, t3]
    split at h1
    · split at h1 <;> cases h1
    · rename_i g1
      rw [if_neg g1]
      split at h1
      · rename_i g2
        rw [if_pos g2]; cases h1; rfl
      · rename_i g2
        rw [if_neg g2]; cases h1; rfl
  exact ⟨!s, c, q, hk, h6⟩
/-- what dcmp pushes, by the values -/
abbrev cmpR (x y : Rat) : Int32 := if x < y then (-1 : Int32) else if x = y then 0 else 1
theorem cmpR_lt (x y : Rat) : cmpR x y < 0 ↔ x < y := by
  unfold cmpR
  by_cases h : x < y
  · simp only [h, if_true]; decide
  · by_cases h2 : x = y
    · simp only [h, if_false, h2]
      subst h2; simp only [h, if_false, if_true]; decide
    · simp only [h, h2, if_false]; decide
theorem cmpR_eq (x y : Rat) : cmpR x y = 0 ↔ x = y := by
  unfold cmpR
  by_cases h : x < y
  · have : x ≠ y := by grind
    simp only [h, this, if_true]; decide
  · by_cases h2 : x = y
    · subst h2; simp [h]
    · simp only [h, h2, if_false]; decide
theorem cmpR_gt (x y : Rat) : 0 < cmpR x y ↔ y < x := by
  unfold cmpR
  by_cases h : x < y
  · have : ¬ y < x := by grind
    simp only [h, this, if_true]; decide
  · by_cases h2 : x = y
    · subst h2; simp [h]
    · have : y < x := by grind
      simp only [h, h2, this, if_false]; decide
/-- n / D is a double's value where D is a power of two -/
theorem Rep.dy {n : Int} {D : Rat} (q : Int) (h : n.natAbs < 2 ^ 53) (h1 : -1074 ≤ q) (h2 : q ≤ 960) (hD : (2 : Rat) ^ q * D = 1) : Rep ((n : Rat) / D) := by
  refine ⟨n, q, h, h1, h2, ?_⟩
  generalize (2 : Rat) ^ q = P at hD ⊢
  have : D ≠ 0 := by intro q; rw [q] at hD; grind
  grind
theorem Rep.eqv {x y : Rat} (h : Rep x) (e : x = y) : Rep y := e ▸ h
/-- how far two values lie apart -/
def dst (x y : Rat) : Rat := if x ≤ y then y - x else x - y
/-- v is a double's value, none lies nearer to m, and for an m that isn't tiny v is within 2^-53 of it -/
def Rd (m v : Rat) : Prop := Rep v ∧ (∀ r, Rep r → dst m v ≤ dst m r) ∧ ((2 : Rat) ^ (-1022 : Int) ≤ m → v - m ≤ m / 9007199254740992 ∧ m - v ≤ m / 9007199254740992)
theorem Rd.up {m v r : Rat} (h : Rd m v) (hr : Rep r) (hm : m ≤ r) : v ≤ r := by
  have := h.2.1 r hr
  unfold dst at this
  grind
theorem Rd.dn {m v r : Rat} (h : Rd m v) (hr : Rep r) (hm : r ≤ m) : r ≤ v := by
  have := h.2.1 r hr
  unfold dst at this
  grind
theorem Rd.mono {m v m' v' : Rat} (h : Rd m v) (h' : Rd m' v') (hm : m < m') : v ≤ v' := by
  have a := h.2.1 v' h'.1
  have b := h'.2.1 v h.1
  unfold dst at a b
  grind
theorem Rep.neg {r : Rat} (h : Rep r) : Rep (-r) := by
  obtain ⟨n, q, h1, h2, h3, h4⟩ := h
  exact ⟨-n, q, by omega, h2, h3, by rw [Rat.intCast_neg, ← h4, Rat.neg_mul]⟩
theorem Rep.zero : Rep 0 := ⟨0, 0, by decide, by decide, by decide, by decide +kernel⟩
theorem tw_le {a b : Int} (h : a ≤ b) : (2 : Rat) ^ a ≤ (2 : Rat) ^ b := by
  have e : (2 : Rat) ^ b = (2 : Rat) ^ a * (2 : Rat) ^ ((b - a).toNat : Int) := by rw [← tw_add]; congr 1; omega
  rw [e, tw_nat]
  have h1 : (1 : Rat) ≤ ((2 ^ (b - a).toNat : Nat) : Rat) := by exact_mod_cast Nat.one_le_two_pow
  have h2 := Rat.mul_le_mul_of_nonneg_left h1 (Rat.le_of_lt (tw_pos a))
  rw [Rat.mul_one] at h2
  exact h2
theorem natAbs_castR (n : Int) : ((n.natAbs : Nat) : Rat) = if (n : Rat) < 0 then -(n : Rat) else (n : Rat) := by
  rw [natAbs_cast]
  by_cases h : n < 0
  · have : (n : Rat) < 0 := by exact_mod_cast h
    rw [if_pos h, if_pos this]
  · have : ¬ (n : Rat) < 0 := by intro q; apply h; exact_mod_cast q
    rw [if_neg h, if_neg this]
theorem dst_scale {a b k : Rat} (hk : 0 < k) : dst (a * k) (b * k) = dst a b * k := by
  unfold dst
  by_cases h : a ≤ b
  · have := Rat.mul_le_mul_of_nonneg_right h (Rat.le_of_lt hk)
    rw [if_pos h, if_pos this]; grind
  · have h1 : b < a := by grind
    have h2 := Rat.mul_lt_mul_of_pos_right h1 hk
    have h3 : ¬ a * k ≤ b * k := by grind
    rw [if_neg h, if_neg h3]; grind
set_option maxRecDepth 65536 in
/-- rounding a magnitude m: the nearest double -/
theorem rr_round {s : Bool} {A B : Nat} {e : Int} {m : Rat} (hB : 0 < B) (hm : (A : Rat) * (2 : Rat) ^ e = m * (B : Rat)) (hhi : m ≤ (2 : Rat) ^ (1000 : Int)) :
    ∃ (c : Nat) (q : Int), roundRatio b64 s A B e = .fin s c q ∧ Rd m ((c : Rat) * (2 : Rat) ^ q) := by
  have hqm : b64.qmin = -1074 := by decide
  have hqx : b64.qmax = 971 := by decide
  have p53 : b64.p = 53 := rfl
  have hBr : (0 : Rat) < (B : Rat) := by exact_mod_cast hB
  have hpe := tw_pos e
  have hA0 : (0 : Rat) ≤ (A : Rat) := by exact_mod_cast Nat.zero_le A
  have hm0 : (0 : Rat) ≤ m := by
    have h1 := Rat.mul_nonneg hA0 (Rat.le_of_lt hpe)
    rw [hm] at h1
    refine Rat.not_lt.mp fun q => ?_
    have h2 : 0 < -m := by grind
    have h3 := Rat.mul_pos h2 hBr
    grind
  cases hr : roundRatio b64 s A B e with
  | nan =>
    exfalso
    unfold roundRatio at hr
    split at hr
    · cases hr
    · unfold roundAt settle bound at hr
      split at hr <;> split at hr <;> cases hr
  | inf t =>
    exfalso
    have ht : t = s := by
      unfold roundRatio at hr
      split at hr
      · cases hr
      · unfold roundAt settle bound at hr
        split at hr <;> split at hr <;> cases hr <;> rfl
    subst ht
    obtain ⟨e0, h1, h2⟩ : ∃ e0 : Int, e0 < -1074 ∧ e0 ≤ e := ⟨min (-1075) e, by omega, by omega⟩
    have := (roundRatio_inf good_b64 (s := t) (A := A) (B := B) (e := e) (e0 := e0) hB (by omega) h2).mp hr
    rw [hqx, p53] at this
    have k1 : (((2 ^ (53 + 1) - 1) * 2 ^ ((971 : Int) - 1 - e0).toNat * B : Nat) : Rat) ≤ ((inUnits A e e0 : Nat) : Rat) := Rat.natCast_le_natCast.mpr this
    have k2 := Rat.mul_le_mul_of_nonneg_right k1 (Rat.le_of_lt (tw_pos e0))
    rw [inU A h2, hm, Rat.natCast_mul, Rat.natCast_mul] at k2
    have k3 := tw_sub (a := 971 - 1) (b := e0) (by omega)
    have k4 : (1 : Rat) ≤ ((2 ^ (53 + 1) - 1 : Nat) : Rat) := by decide +kernel
    have k5 : (2 : Rat) ^ (1000 : Int) < ((2 ^ (53 + 1) - 1 : Nat) : Rat) * (2 : Rat) ^ (971 - 1 : Int) := by decide +kernel
    have k6 : ((2 ^ (53 + 1) - 1 : Nat) : Rat) * (2 : Rat) ^ (971 - 1 : Int) * (B : Rat) ≤ m * (B : Rat) := by
      rw [← k3]; grind
    generalize ((2 ^ (53 + 1) - 1 : Nat) : Rat) * (2 : Rat) ^ (971 - 1 : Int) = KK at k5 k6
    generalize (2 : Rat) ^ (1000 : Int) = K1 at hhi k5
    have k8 : m < KK := by grind
    have k7 := Rat.mul_lt_mul_of_pos_right k8 hBr
    grind
  | fin t c q =>
    have ht : t = s := by
      unfold roundRatio at hr
      split at hr
      · cases hr; rfl
      · unfold roundAt settle bound at hr
        split at hr <;> split at hr <;> cases hr <;> rfl
    subst ht
    have hf := roundRatio_fits good_b64 t A hB e
    rw [hr] at hf
    obtain ⟨f1, f2, f3, f4⟩ := hf
    rw [hqm] at f2 f4
    refine ⟨c, q, rfl, ?_⟩
    have near : ∀ (c' : Nat) (q' : Int), c' < 2 ^ 53 → -1074 ≤ q' → dst m ((c : Rat) * (2 : Rat) ^ q) ≤ dst m ((c' : Rat) * (2 : Rat) ^ q') := by
      intro c' q' hc' hq'
      obtain ⟨e0, h1, h2, h3, h4⟩ : ∃ e0 : Int, e0 ≤ -1074 ∧ e0 ≤ e ∧ e0 ≤ q ∧ e0 ≤ q' := ⟨min (min (-1075) e) (min q q'), by omega, by omega, by omega, by omega⟩
      have n1 := roundRatio_nearest good_b64 (e0 := e0) hB hr (c' := c') (q' := q') hc' (by omega) (by omega) h2
      unfold distance at n1
      have a1 := inU A h2
      have a2 := inU c h3
      have a3 := inU c' h4
      rw [hm] at a1
      rw [← a2, ← a3]
      have hp := tw_pos e0
      have n2 : (((inUnits A e e0 : Int) - (inUnits c q e0 : Int) * (B : Int)).natAbs : Int) ≤ (((inUnits A e e0 : Int) - (inUnits c' q' e0 : Int) * (B : Int)).natAbs : Int) := by exact_mod_cast n1
      have n3 : ((((inUnits A e e0 : Int) - (inUnits c q e0 : Int) * (B : Int)).natAbs : Int) : Rat) ≤ ((((inUnits A e e0 : Int) - (inUnits c' q' e0 : Int) * (B : Int)).natAbs : Int) : Rat) := by exact_mod_cast n2
      rw [Rat.intCast_natCast, Rat.intCast_natCast, natAbs_castR, natAbs_castR, Rat.intCast_sub, Rat.intCast_sub, Rat.intCast_mul, Rat.intCast_mul] at n3
      simp only [Rat.intCast_natCast] at n3
      generalize hx : ((inUnits A e e0 : Nat) : Rat) = X at a1 n3
      generalize ((inUnits c q e0 : Nat) : Rat) = Y at n3 ⊢
      generalize ((inUnits c' q' e0 : Nat) : Rat) = Z at n3 ⊢
      generalize (2 : Rat) ^ e0 = P at a1 hp ⊢
      generalize (B : Rat) = b at *
      have hbne : b ≠ 0 := by grind
      obtain ⟨k, hk⟩ : ∃ k : Rat, k = P / b := ⟨_, rfl⟩
      have hP : P = b * k := by rw [hk]; grind
      have hk0 : 0 < k := by
        refine Rat.not_le.mp fun q => ?_
        have := Rat.mul_le_mul_of_nonneg_left q (Rat.le_of_lt hBr)
        grind
      have hmX : m = X * k := by
        subst hP
        have : m * b = X * k * b := by grind
        grind
      have g1 : Y * P = (Y * b) * k := by rw [hP]; grind
      have g2 : Z * P = (Z * b) * k := by rw [hP]; grind
      rw [hmX, g1, g2, dst_scale hk0, dst_scale hk0]
      refine Rat.mul_le_mul_of_nonneg_right ?_ (Rat.le_of_lt hk0)
      unfold dst
      grind
    have hcq := tw_pos q
    have hc0 : (0 : Rat) ≤ (c : Rat) := by exact_mod_cast Nat.zero_le c
    have hv0 := Rat.mul_nonneg hc0 (Rat.le_of_lt hcq)
    -- the value is no greater than 2^1000, so its exponent is small
    have hv1 : (c : Rat) * (2 : Rat) ^ q ≤ (2 : Rat) ^ (1000 : Int) := by
      have n := near (2 ^ 52) 948 (by decide) (by decide)
      have e1 : ((2 ^ 52 : Nat) : Rat) * (2 : Rat) ^ (948 : Int) = (2 : Rat) ^ (1000 : Int) := by decide +kernel
      rw [e1] at n
      generalize (2 : Rat) ^ (1000 : Int) = K1 at hhi n ⊢
      unfold dst at n
      grind
    have hq9 : q ≤ 960 := by
      refine Int.not_lt.mp fun hq => ?_
      have hcan : b64.tails ≤ c := by
        rcases f4 with f4 | f4
        · omega
        · exact f4
      have ht : b64.tails = 2 ^ 52 := by decide
      rw [ht] at hcan
      have c1 : ((2 ^ 52 : Nat) : Rat) ≤ (c : Rat) := Rat.natCast_le_natCast.mpr hcan
      have c2 := tw_le (a := 961) (b := q) (by omega)
      have c3 := Rat.mul_le_mul_of_nonneg_right c1 (Rat.le_of_lt hcq)
      have c4 : (0 : Rat) ≤ ((2 ^ 52 : Nat) : Rat) := by exact_mod_cast Nat.zero_le _
      have c5 := Rat.mul_le_mul_of_nonneg_left c2 c4
      have c6 : (2 : Rat) ^ (1000 : Int) < ((2 ^ 52 : Nat) : Rat) * (2 : Rat) ^ (961 : Int) := by decide +kernel
      generalize ((2 ^ 52 : Nat) : Rat) * (2 : Rat) ^ (961 : Int) = K2 at c5 c6
      generalize (2 : Rat) ^ (1000 : Int) = K1 at hv1 c6
      grind
    refine ⟨⟨(c : Int), q, by rw [p53] at f1; simpa using f1, f2, hq9, by rw [Rat.intCast_natCast]⟩, ?_, ?_⟩
    · intro r hr'
      obtain ⟨n, q', h1, h2, h3, h4⟩ := hr'
      have nz := near 0 0 (by decide) (by decide)
      have nn := near n.natAbs q' h1 h2
      have e0 : ((0 : Nat) : Rat) * (2 : Rat) ^ (0 : Int) = 0 := by decide +kernel
      rw [e0] at nz
      rw [natAbs_castR] at nn
      have hq' := tw_pos q'
      by_cases hn : (n : Rat) < 0
      · have hneg : (n : Rat) * (2 : Rat) ^ q' < 0 := by
          have : 0 < -(n : Rat) := by grind
          have := Rat.mul_pos this hq'
          grind
        rw [h4] at hneg
        unfold dst at nz ⊢
        grind
      · rw [if_neg hn, h4] at nn
        exact nn
    · intro hlo
      have hA : 0 < A := by
        rcases Nat.eq_zero_or_pos A with h | h
        · exfalso
          subst h
          have : (0 : Rat) = m * (B : Rat) := by rw [← hm]; exact (Rat.zero_mul _).symm
          have hmp : 0 < m := by have := tw_pos (-1022); grind
          have := Rat.mul_pos hmp hBr
          grind
        · exact h
      unfold roundRatio at hr
      rw [if_neg (by omega)] at hr
      have g2 := nearest_units_le (f := b64) hA hB e
      have g3 := quantum_not_below (f := b64) hA hB e
      have g1 := quantum_ge b64 A B e
      unfold roundAt at hr
      generalize quantum b64 A B e = Q at hr g1 g2 g3
      rw [hqm] at g1 g3
      have hpQ := tw_pos Q
      have hset := (settle_value good_b64 (e0 := min Q q) g2 hr (by omega)).2
      have v1 := inU c (q := q) (e0 := min Q q) (by omega)
      have v2 := inU (nearest (unitsNum A e Q) (unitsDen B e Q)) (q := Q) (e0 := min Q q) (by omega)
      rw [hset] at v1
      have hval : (c : Rat) * (2 : Rat) ^ q = ((nearest (unitsNum A e Q) (unitsDen B e Q) : Nat) : Rat) * (2 : Rat) ^ Q := by rw [← v1, ← v2]
      have hDpos : 0 < unitsDen B e Q := unitsDen_pos hB e Q
      obtain ⟨s1, s2, -⟩ := nearest_spec (unitsNum A e Q) (unitsDen B e Q) hDpos
      have hU : ((unitsNum A e Q : Nat) : Rat) * (2 : Rat) ^ Q = m * ((unitsDen B e Q : Nat) : Rat) := by
        unfold unitsNum unitsDen
        rw [Rat.natCast_mul, Rat.natCast_mul]
        by_cases hle : Q ≤ e
        · have z : (Q - e).toNat = 0 := by omega
          rw [z, Rat.mul_assoc, tw_sub hle, hm]
          have : ((2 ^ 0 : Nat) : Rat) = 1 := rfl
          rw [this]; grind
        · have z : (e - Q).toNat = 0 := by omega
          have k := tw_sub (a := Q) (b := e) (by omega)
          rw [z, ← k]
          have : ((2 ^ 0 : Nat) : Rat) = 1 := rfl
          rw [this]
          grind
      have t1 : ((2 * unitsNum A e Q : Nat) : Rat) ≤ (((2 * nearest (unitsNum A e Q) (unitsDen B e Q) + 1) * unitsDen B e Q : Nat) : Rat) := Rat.natCast_le_natCast.mpr s1
      have t2 : ((2 * nearest (unitsNum A e Q) (unitsDen B e Q) * unitsDen B e Q : Nat) : Rat) ≤ ((2 * unitsNum A e Q + unitsDen B e Q : Nat) : Rat) := Rat.natCast_le_natCast.mpr s2
      simp only [Rat.natCast_mul, Rat.natCast_add] at t1 t2
      have hDr : (0 : Rat) < ((unitsDen B e Q : Nat) : Rat) := by exact_mod_cast hDpos
      -- half a unit is small
      have hh : (2 : Rat) ^ Q ≤ m / 4503599627370496 := by
        rcases g3 with g3 | g3
        · subst g3
          have e1 : (2 : Rat) ^ (-1022 : Int) = (2 : Rat) ^ (-1074 : Int) * 4503599627370496 := by decide +kernel
          rw [e1] at hlo
          generalize (2 : Rat) ^ (-1074 : Int) = P at hlo ⊢
          grind
        · have g4 : (Q - e + ((b64.p : Int) - 1)) = Q - e + 52 := by rw [p53]; omega
          rw [g4] at g3
          unfold Below at g3
          have g5 := Nat.le_of_not_lt g3
          have g6 : ((B * 2 ^ (Q - e + 52).toNat : Nat) : Rat) ≤ ((A * 2 ^ (-(Q - e + 52)).toNat : Nat) : Rat) := Rat.natCast_le_natCast.mpr g5
          rw [Rat.natCast_mul, Rat.natCast_mul, ← tw_nat, ← tw_nat] at g6
          have hz := tw_pos (e - ((-(Q - e + 52)).toNat : Int))
          have g7 := Rat.mul_le_mul_of_nonneg_right g6 (Rat.le_of_lt hz)
          have x1 : (2 : Rat) ^ (((Q - e + 52).toNat : Nat) : Int) * (2 : Rat) ^ (e - ((-(Q - e + 52)).toNat : Int)) = (2 : Rat) ^ Q * (2 : Rat) ^ (52 : Int) := by
            rw [← tw_add, ← tw_add]; congr 1; omega
          have x2 : (2 : Rat) ^ (((-(Q - e + 52)).toNat : Nat) : Int) * (2 : Rat) ^ (e - ((-(Q - e + 52)).toNat : Int)) = (2 : Rat) ^ e := by
            rw [← tw_add]; congr 1; omega
          rw [Rat.mul_assoc, Rat.mul_assoc, x1, x2, hm] at g7
          have x3 : (2 : Rat) ^ (52 : Int) = 4503599627370496 := by decide +kernel
          rw [x3] at g7
          refine Rat.not_lt.mp fun hq => ?_
          have y1 : m < (2 : Rat) ^ Q * 4503599627370496 := by
            generalize (2 : Rat) ^ Q = P at hq ⊢
            grind
          have y2 := Rat.mul_lt_mul_of_pos_right y1 hBr
          generalize (2 : Rat) ^ Q = P at g7 y2
          grind
      rw [hval]
      generalize ((nearest (unitsNum A e Q) (unitsDen B e Q) : Nat) : Rat) = N at t1 t2 ⊢
      generalize ((unitsNum A e Q : Nat) : Rat) = U at t1 t2 hU
      generalize ((unitsDen B e Q : Nat) : Rat) = D at t1 t2 hU hDr
      generalize (2 : Rat) ^ Q = P at hh hU hpQ ⊢
      have e2 : ((2 : Nat) : Rat) = 2 := rfl
      have e1 : ((1 : Nat) : Rat) = 1 := rfl
      rw [e2] at t1 t2
      rw [e1] at t1
      -- U P = m D ;  2U ≤ (2N+1) D ;  2ND ≤ 2U + D
      have w1 := Rat.mul_le_mul_of_nonneg_right t1 (Rat.le_of_lt hpQ)
      have w2 := Rat.mul_le_mul_of_nonneg_right t2 (Rat.le_of_lt hpQ)
      have w3 : 2 * m * D ≤ (2 * N * P + P) * D := by grind
      have w4 : (2 * N * P) * D ≤ (2 * m + P) * D := by grind
      have w5 : 2 * m ≤ 2 * N * P + P := by
        refine Rat.not_lt.mp fun q => ?_
        have := Rat.mul_lt_mul_of_pos_right q hDr
        grind
      have w6 : 2 * N * P ≤ 2 * m + P := by
        refine Rat.not_lt.mp fun q => ?_
        have := Rat.mul_lt_mul_of_pos_right q hDr
        grind
      constructor <;> grind
theorem dst_neg (a b : Rat) : dst (-a) (-b) = dst a b := by unfold dst; grind
theorem Rd.neg {m v : Rat} (h : Rd m v) (h0 : 0 ≤ m) : Rd (-m) (-v) := by
  refine ⟨h.1.neg, fun r hr => ?_, fun hl => ?_⟩
  · have := h.2.1 (-r) hr.neg
    rw [dst_neg]
    have e : dst m (-r) = dst (-m) r := by rw [← dst_neg]; congr 1; grind
    rw [← e]; exact this
  · exfalso
    have := tw_pos (-1022)
    generalize (2 : Rat) ^ (-1022 : Int) = P at hl this
    grind
theorem rrS {s : Bool} {A B : Nat} {e : Int} {m : Rat} (hB : 0 < B) (hv : (if s then -((A : Rat) * (2 : Rat) ^ e) else (A : Rat) * (2 : Rat) ^ e) = m * (B : Rat)) (hlo : -(2 : Rat) ^ (1000 : Int) ≤ m) (hhi : m ≤ (2 : Rat) ^ (1000 : Int)) :
    ∃ (c : Nat) (q : Int), roundRatio b64 s A B e = .fin s c q ∧ Rd m (((signed s c : Int) : Rat) * (2 : Rat) ^ q) := by
  have hBr : (0 : Rat) < (B : Rat) := by exact_mod_cast hB
  have hA0 : (0 : Rat) ≤ (A : Rat) := by exact_mod_cast Nat.zero_le A
  have hAe := Rat.mul_nonneg hA0 (Rat.le_of_lt (tw_pos e))
  cases s with
  | false =>
    simp only [Bool.false_eq_true, if_false] at hv
    obtain ⟨c, q, h1, h2⟩ := rr_round (s := false) hB hv hhi
    refine ⟨c, q, h1, ?_⟩
    rw [sgn_cast]; exact h2
  | true =>
    simp only [if_true] at hv
    have hm : (A : Rat) * (2 : Rat) ^ e = (-m) * (B : Rat) := by grind
    have h0 : 0 ≤ -m := by
      refine Rat.not_lt.mp fun q => ?_
      have h5 : 0 < m := by grind
      have := Rat.mul_pos h5 hBr
      grind
    obtain ⟨c, q, h1, h2⟩ := rr_round (s := true) hB hm (by generalize (2 : Rat) ^ (1000 : Int) = K at hlo ⊢; grind)
    refine ⟨c, q, h1, ?_⟩
    have h3 := h2.neg h0
    rw [sgn_cast]
    simp only [if_true]
    have e1 : -(c : Rat) * (2 : Rat) ^ q = -((c : Rat) * (2 : Rat) ^ q) := Rat.neg_mul _ _
    have e2 : - -m = m := by grind
    rw [e1]; rw [e2] at h3; exact h3
theorem IsV.rnd {s : Bool} {c : Nat} {e : Int} {m : Rat} {w : UInt64} (hw : val64 w = Jvm.FP.Core.round b64 (.fin s c e)) (hv : ((signed s c : Int) : Rat) * (2 : Rat) ^ e = m) (hlo : -(2 : Rat) ^ (1000 : Int) ≤ m) (hhi : m ≤ (2 : Rat) ^ (1000 : Int)) : ∃ v, IsV w v ∧ Rd m v := by
  obtain ⟨c', q, h1, h2⟩ := rrS (s := s) (A := c) (B := 1) (e := e) (m := m) (by decide) (by
    rw [sgn_cast] at hv
    have e1 : ((1 : Nat) : Rat) = 1 := rfl
    rw [e1, Rat.mul_one, ← hv]
    cases s <;> simp [Rat.neg_mul]) hlo hhi
  exact ⟨_, ⟨s, c', q, hw.trans h1, rfl⟩, h2⟩
theorem IsV.addR {a b : UInt64} {x y : Rat} (ha : IsV a x) (hb : IsV b y) (hlo : -(2 : Rat) ^ (1000 : Int) ≤ x + y) (hhi : x + y ≤ (2 : Rat) ^ (1000 : Int)) : ∃ v, IsV (dadd a b) v ∧ Rd (x + y) v := by
  obtain ⟨s, c, q, h1, h2⟩ := ha
  obtain ⟨t, d, r, h3, h4⟩ := hb
  refine IsV.rnd (w := dadd a b) (by rw [val64_dadd, h1, h3]; rfl) ?_ hlo hhi
  rw [signed_natAbs]
  unfold sumUnits
  rw [Rat.intCast_add, Rat.add_mul, signed_units s c (Int.min_le_left q r), signed_units t d (Int.min_le_right q r), h2, h4]
theorem IsV.subR {a b : UInt64} {x y : Rat} (ha : IsV a x) (hb : IsV b y) (hlo : -(2 : Rat) ^ (1000 : Int) ≤ x - y) (hhi : x - y ≤ (2 : Rat) ^ (1000 : Int)) : ∃ v, IsV (dsub a b) v ∧ Rd (x - y) v := by
  obtain ⟨s, c, q, h1, h2⟩ := ha
  obtain ⟨t, d, r, h3, h4⟩ := hb
  obtain ⟨h5, h6⟩ := IsV.neg_d h3 h4
  refine IsV.rnd (w := dsub a b) (by rw [val64_dsub, h1, h5]; rfl) ?_ hlo hhi
  rw [signed_natAbs]
  unfold sumUnits
  rw [Rat.intCast_add, Rat.add_mul, signed_units s c (Int.min_le_left q r), signed_units (!t) d (Int.min_le_right q r), h2, h6, Rat.sub_eq_add_neg]
theorem IsV.mulR {a b : UInt64} {x y : Rat} (ha : IsV a x) (hb : IsV b y) (hlo : -(2 : Rat) ^ (1000 : Int) ≤ x * y) (hhi : x * y ≤ (2 : Rat) ^ (1000 : Int)) : ∃ v, IsV (dmul a b) v ∧ Rd (x * y) v := by
  obtain ⟨s, c, q, h1, h2⟩ := ha
  obtain ⟨t, d, r, h3, h4⟩ := hb
  refine IsV.rnd (w := dmul a b) (by rw [val64_dmul, h1, h3]; rfl) ?_ hlo hhi
  rw [signed_xor, tw_add, ← h2, ← h4]
  grind
set_option maxRecDepth 65536 in
theorem IsV.divR {a b : UInt64} {x y : Rat} (ha : IsV a x) (hb : IsV b y) (hy : y ≠ 0) (hlo : -(2 : Rat) ^ (1000 : Int) ≤ x / y) (hhi : x / y ≤ (2 : Rat) ^ (1000 : Int)) : ∃ v, IsV (ddiv a b) v ∧ Rd (x / y) v := by
  obtain ⟨s, c, q, h1, h2⟩ := ha
  obtain ⟨t, d, r, h3, h4⟩ := hb
  have hd : d ≠ 0 := by
    intro h; subst h
    rw [signed_zero] at h4
    apply hy; rw [← h4]; simp
  have hq : val64 (ddiv a b) = roundRatio b64 (s != t) c d (q - r) := by
    rw [val64_ddiv, h1, h3]
    show (if d = 0 then _ else _) = _
    rw [if_neg hd]
  obtain ⟨c', q', k1, k2⟩ := rrS (s := (s != t)) (A := c) (B := d) (e := q - r) (m := x / y) (by omega) (by
    have e1 : (2 : Rat) ^ q = (2 : Rat) ^ (q - r) * (2 : Rat) ^ r := by rw [← tw_add]; congr 1; omega
    have n1 := tw_ne r
    have n2 : (d : Rat) ≠ 0 := by
      intro h; apply hd; exact_mod_cast h
    rw [sgn_cast] at h2 h4
    subst h2 h4
    rw [e1]
    cases s <;> cases t <;> simp only [if_true, Bool.false_eq_true, if_false, bne_self_eq_false, Bool.true_bne, Bool.false_bne, Bool.not_true, Bool.not_false] <;> grind) hlo hhi
  exact ⟨_, ⟨_, c', q', hq.trans k1, rfl⟩, k2⟩
theorem IsV.l2dR (x : Int64) : ∃ v, IsV (FP.l2d x) v ∧ Rd (x.toInt : Rat) v := by
  have b1 := x.toInt_lt
  have b2 := x.le_toInt
  have k : ((9223372036854775808 : Int) : Rat) ≤ (2 : Rat) ^ (1000 : Int) := by decide +kernel
  have u1 : (x.toInt : Rat) ≤ ((9223372036854775808 : Int) : Rat) := Rat.intCast_le_intCast.mpr (by omega)
  have u2 : ((-9223372036854775808 : Int) : Rat) ≤ (x.toInt : Rat) := Rat.intCast_le_intCast.mpr (by omega)
  rw [Rat.intCast_neg] at u2
  generalize ((9223372036854775808 : Int) : Rat) = M at k u1 u2
  refine IsV.rnd (val64_l2d x) (by rw [signed_dec, Rat.zpow_zero, Rat.mul_one]) ?_ ?_ <;> generalize (2 : Rat) ^ (1000 : Int) = K at k ⊢ <;> grind
end OwnFp
end Jvm.Pilot.@@N@@

namespace Jvm.Pilot.@@N@@
open Jvm Jvm.ClassFile Sem Op Lib Jvm.Free Jvm.Stand Jvm.LawKit Jvm.RoadKit Bundle Jvm.Pilot.@@N@@.Jvm.D
def W (a0 : Array Value) (Z : State) : Prop := ∀ d ∈ tables_1, d.before a0 Z = true
theorem w0 {a0 : Array Value} {Z : State} (hw : W a0 Z) : (Jvm.Cond.constantLong "com/example/tolerant_workflows/tolerantworkflows/healing/FailureDegreeValuePinLaw" (7 : Nat) (255 : Int64)).before a0 Z = true := hw _ (List.mem_of_getElem? (i := 0) rfl)
theorem w1 {a0 : Array Value} {Z : State} (hw : W a0 Z) : (Jvm.Cond.methodLink "com/example/tolerant_workflows/tolerantworkflows/healing/FailureDegreeValuePinLaw" (11 : Nat) ({ cls := "java/lang/Math", name := "min", desc := "(JJ)J" } : Jvm.MethodName)).before a0 Z = true := hw _ (List.mem_of_getElem? (i := 1) rfl)
theorem w2 {a0 : Array Value} {Z : State} (hw : W a0 Z) : (Jvm.Cond.static ({ cls := "java/lang/Math", name := "min", desc := "(JJ)J" } : Jvm.MethodName)).before a0 Z = true := hw _ (List.mem_of_getElem? (i := 2) rfl)
theorem w3 {a0 : Array Value} {Z : State} (hw : W a0 Z) : (Jvm.Cond.initialized "java/lang/Math").before a0 Z = true := hw _ (List.mem_of_getElem? (i := 3) rfl)
theorem w4 {a0 : Array Value} {Z : State} (hw : W a0 Z) : (Jvm.Cond.code ({ cls := "java/lang/Math", name := "min", desc := "(JJ)J" } : Jvm.MethodName) jdk_29_method_70_code (4 : Nat) (Option.some Jvm.ClassFile.FieldType.long)).before a0 Z = true := hw _ (List.mem_of_getElem? (i := 4) rfl)
theorem w5 {a0 : Array Value} {Z : State} (hw : W a0 Z) : (Jvm.Cond.methodLink "com/example/tolerant_workflows/tolerantworkflows/healing/FailureDegreeValuePinLaw" (17 : Nat) ({ cls := "java/lang/Math", name := "max", desc := "(JJ)J" } : Jvm.MethodName)).before a0 Z = true := hw _ (List.mem_of_getElem? (i := 5) rfl)
theorem w6 {a0 : Array Value} {Z : State} (hw : W a0 Z) : (Jvm.Cond.static ({ cls := "java/lang/Math", name := "max", desc := "(JJ)J" } : Jvm.MethodName)).before a0 Z = true := hw _ (List.mem_of_getElem? (i := 6) rfl)
theorem w7 {a0 : Array Value} {Z : State} (hw : W a0 Z) : (Jvm.Cond.code ({ cls := "java/lang/Math", name := "max", desc := "(JJ)J" } : Jvm.MethodName) jdk_29_method_66_code (4 : Nat) (Option.some Jvm.ClassFile.FieldType.long)).before a0 Z = true := hw _ (List.mem_of_getElem? (i := 7) rfl)
theorem w8 {a0 : Array Value} {Z : State} (hw : W a0 Z) : (Jvm.Cond.classLink "com/example/tolerant_workflows/tolerantworkflows/healing/FailureDegreeValuePinLaw" (20 : Nat) "com/example/tolerant_workflows/tolerantworkflows/healing/FailureDegree").before a0 Z = true := hw _ (List.mem_of_getElem? (i := 8) rfl)
theorem w9 {a0 : Array Value} {Z : State} (hw : W a0 Z) : (Jvm.Cond.instantiable "com/example/tolerant_workflows/tolerantworkflows/healing/FailureDegree" (4 : Nat)).before a0 Z = true := hw _ (List.mem_of_getElem? (i := 9) rfl)
theorem w10 {a0 : Array Value} {Z : State} (hw : W a0 Z) : (Jvm.Cond.initialized "com/example/tolerant_workflows/tolerantworkflows/healing/FailureDegree").before a0 Z = true := hw _ (List.mem_of_getElem? (i := 10) rfl)
theorem w11 {a0 : Array Value} {Z : State} (hw : W a0 Z) : (Jvm.Cond.methodLink "com/example/tolerant_workflows/tolerantworkflows/healing/FailureDegreeValuePinLaw" (22 : Nat) ({ cls := "java/lang/Math", name := "max", desc := "(II)I" } : Jvm.MethodName)).before a0 Z = true := hw _ (List.mem_of_getElem? (i := 11) rfl)
theorem w12 {a0 : Array Value} {Z : State} (hw : W a0 Z) : (Jvm.Cond.static ({ cls := "java/lang/Math", name := "max", desc := "(II)I" } : Jvm.MethodName)).before a0 Z = true := hw _ (List.mem_of_getElem? (i := 12) rfl)
theorem w13 {a0 : Array Value} {Z : State} (hw : W a0 Z) : (Jvm.Cond.code ({ cls := "java/lang/Math", name := "max", desc := "(II)I" } : Jvm.MethodName) jdk_29_method_65_code (2 : Nat) (Option.some Jvm.ClassFile.FieldType.int)).before a0 Z = true := hw _ (List.mem_of_getElem? (i := 13) rfl)
theorem w14 {a0 : Array Value} {Z : State} (hw : W a0 Z) : (Jvm.Cond.methodLink "com/example/tolerant_workflows/tolerantworkflows/healing/FailureDegreeValuePinLaw" (25 : Nat) ({ cls := "com/example/tolerant_workflows/tolerantworkflows/healing/FailureDegree", name := "<init>", desc := "(IJJJ)V" } : Jvm.MethodName)).before a0 Z = true := hw _ (List.mem_of_getElem? (i := 14) rfl)
theorem w15 {a0 : Array Value} {Z : State} (hw : W a0 Z) : (Jvm.Cond.instanceMethod ({ cls := "com/example/tolerant_workflows/tolerantworkflows/healing/FailureDegree", name := "<init>", desc := "(IJJJ)V" } : Jvm.MethodName)).before a0 Z = true := hw _ (List.mem_of_getElem? (i := 15) rfl)
theorem w16 {a0 : Array Value} {Z : State} (hw : W a0 Z) : (Jvm.Cond.code ({ cls := "com/example/tolerant_workflows/tolerantworkflows/healing/FailureDegree", name := "<init>", desc := "(IJJJ)V" } : Jvm.MethodName) prog_28_method_1_code (8 : Nat) (Option.none : Option Jvm.ClassFile.FieldType)).before a0 Z = true := hw _ (List.mem_of_getElem? (i := 16) rfl)
theorem w17 {a0 : Array Value} {Z : State} (hw : W a0 Z) : (Jvm.Cond.methodLink "com/example/tolerant_workflows/tolerantworkflows/healing/FailureDegree" (1 : Nat) ({ cls := "java/lang/Record", name := "<init>", desc := "()V" } : Jvm.MethodName)).before a0 Z = true := hw _ (List.mem_of_getElem? (i := 17) rfl)
theorem w18 {a0 : Array Value} {Z : State} (hw : W a0 Z) : (Jvm.Cond.instanceMethod ({ cls := "java/lang/Record", name := "<init>", desc := "()V" } : Jvm.MethodName)).before a0 Z = true := hw _ (List.mem_of_getElem? (i := 18) rfl)
theorem w20 {a0 : Array Value} {Z : State} (hw : W a0 Z) : (Jvm.Cond.initialized "java/lang/Record").before a0 Z = true := hw _ (List.mem_of_getElem? (i := 20) rfl)
theorem w21 {a0 : Array Value} {Z : State} (hw : W a0 Z) : (Jvm.Cond.code ({ cls := "java/lang/Record", name := "<init>", desc := "()V" } : Jvm.MethodName) jdk_30_method_1_code (1 : Nat) (Option.none : Option Jvm.ClassFile.FieldType)).before a0 Z = true := hw _ (List.mem_of_getElem? (i := 21) rfl)
theorem w22 {a0 : Array Value} {Z : State} (hw : W a0 Z) : (Jvm.Cond.methodLink "java/lang/Record" (1 : Nat) ({ cls := "java/lang/Object", name := "<init>", desc := "()V" } : Jvm.MethodName)).before a0 Z = true := hw _ (List.mem_of_getElem? (i := 22) rfl)
theorem w23 {a0 : Array Value} {Z : State} (hw : W a0 Z) : (Jvm.Cond.instanceMethod ({ cls := "java/lang/Object", name := "<init>", desc := "()V" } : Jvm.MethodName)).before a0 Z = true := hw _ (List.mem_of_getElem? (i := 23) rfl)
theorem w24 {a0 : Array Value} {Z : State} (hw : W a0 Z) : (Jvm.Cond.code ({ cls := "java/lang/Object", name := "<init>", desc := "()V" } : Jvm.MethodName) object_method_1_code (1 : Nat) (Option.none : Option Jvm.ClassFile.FieldType)).before a0 Z = true := hw _ (List.mem_of_getElem? (i := 24) rfl)
theorem w25 {a0 : Array Value} {Z : State} (hw : W a0 Z) : (Jvm.Cond.fieldLink "com/example/tolerant_workflows/tolerantworkflows/healing/FailureDegree" (19 : Nat) "com/example/tolerant_workflows/tolerantworkflows/healing/FailureDegree" "level" "I").before a0 Z = true := hw _ (List.mem_of_getElem? (i := 25) rfl)
theorem w26 {a0 : Array Value} {Z : State} (hw : W a0 Z) : (Jvm.Cond.laysFinal "com/example/tolerant_workflows/tolerantworkflows/healing/FailureDegree" "com/example/tolerant_workflows/tolerantworkflows/healing/FailureDegree" "level" "I").before a0 Z = true := hw _ (List.mem_of_getElem? (i := 26) rfl)
theorem w27 {a0 : Array Value} {Z : State} (hw : W a0 Z) : (Jvm.Cond.fieldLink "com/example/tolerant_workflows/tolerantworkflows/healing/FailureDegree" (25 : Nat) "com/example/tolerant_workflows/tolerantworkflows/healing/FailureDegree" "failed" "J").before a0 Z = true := hw _ (List.mem_of_getElem? (i := 27) rfl)
theorem w28 {a0 : Array Value} {Z : State} (hw : W a0 Z) : (Jvm.Cond.laysFinal "com/example/tolerant_workflows/tolerantworkflows/healing/FailureDegree" "com/example/tolerant_workflows/tolerantworkflows/healing/FailureDegree" "failed" "J").before a0 Z = true := hw _ (List.mem_of_getElem? (i := 28) rfl)
theorem w29 {a0 : Array Value} {Z : State} (hw : W a0 Z) : (Jvm.Cond.fieldLink "com/example/tolerant_workflows/tolerantworkflows/healing/FailureDegree" (29 : Nat) "com/example/tolerant_workflows/tolerantworkflows/healing/FailureDegree" "ended" "J").before a0 Z = true := hw _ (List.mem_of_getElem? (i := 29) rfl)
theorem w30 {a0 : Array Value} {Z : State} (hw : W a0 Z) : (Jvm.Cond.laysFinal "com/example/tolerant_workflows/tolerantworkflows/healing/FailureDegree" "com/example/tolerant_workflows/tolerantworkflows/healing/FailureDegree" "ended" "J").before a0 Z = true := hw _ (List.mem_of_getElem? (i := 30) rfl)
theorem w31 {a0 : Array Value} {Z : State} (hw : W a0 Z) : (Jvm.Cond.fieldLink "com/example/tolerant_workflows/tolerantworkflows/healing/FailureDegree" (32 : Nat) "com/example/tolerant_workflows/tolerantworkflows/healing/FailureDegree" "running" "J").before a0 Z = true := hw _ (List.mem_of_getElem? (i := 31) rfl)
theorem w32 {a0 : Array Value} {Z : State} (hw : W a0 Z) : (Jvm.Cond.laysFinal "com/example/tolerant_workflows/tolerantworkflows/healing/FailureDegree" "com/example/tolerant_workflows/tolerantworkflows/healing/FailureDegree" "running" "J").before a0 Z = true := hw _ (List.mem_of_getElem? (i := 32) rfl)
theorem w33 {a0 : Array Value} {Z : State} (hw : W a0 Z) : (Jvm.Cond.methodLink "com/example/tolerant_workflows/tolerantworkflows/healing/FailureDegreeValuePinLaw" (28 : Nat) ({ cls := "com/example/tolerant_workflows/tolerantworkflows/healing/FailureDegree", name := "value", desc := "()D" } : Jvm.MethodName)).before a0 Z = true := hw _ (List.mem_of_getElem? (i := 33) rfl)
theorem w34 {a0 : Array Value} {Z : State} (hw : W a0 Z) : (Jvm.Cond.declares ({ cls := "com/example/tolerant_workflows/tolerantworkflows/healing/FailureDegree", name := "value", desc := "()D" } : Jvm.MethodName)).before a0 Z = true := hw _ (List.mem_of_getElem? (i := 34) rfl)
theorem w35 {a0 : Array Value} {Z : State} (hw : W a0 Z) : (Jvm.Cond.instanceMethod ({ cls := "com/example/tolerant_workflows/tolerantworkflows/healing/FailureDegree", name := "value", desc := "()D" } : Jvm.MethodName)).before a0 Z = true := hw _ (List.mem_of_getElem? (i := 35) rfl)
theorem w36 {a0 : Array Value} {Z : State} (hw : W a0 Z) : (Jvm.Cond.selects "com/example/tolerant_workflows/tolerantworkflows/healing/FailureDegree" ({ cls := "com/example/tolerant_workflows/tolerantworkflows/healing/FailureDegree", name := "value", desc := "()D" } : Jvm.MethodName) ({ cls := "com/example/tolerant_workflows/tolerantworkflows/healing/FailureDegree", name := "value", desc := "()D" } : Jvm.MethodName)).before a0 Z = true := hw _ (List.mem_of_getElem? (i := 36) rfl)
theorem w37 {a0 : Array Value} {Z : State} (hw : W a0 Z) : (Jvm.Cond.code ({ cls := "com/example/tolerant_workflows/tolerantworkflows/healing/FailureDegree", name := "value", desc := "()D" } : Jvm.MethodName) prog_28_method_2_code (3 : Nat) (Option.some Jvm.ClassFile.FieldType.double)).before a0 Z = true := hw _ (List.mem_of_getElem? (i := 37) rfl)
theorem w38 {a0 : Array Value} {Z : State} (hw : W a0 Z) : (Jvm.Cond.constantDouble "com/example/tolerant_workflows/tolerantworkflows/healing/FailureDegreeValuePinLaw" (32 : Nat) (4382569440205035030 : UInt64)).before a0 Z = true := hw _ (List.mem_of_getElem? (i := 38) rfl)
theorem w39 {a0 : Array Value} {Z : State} (hw : W a0 Z) : (Jvm.Cond.constantLong "com/example/tolerant_workflows/tolerantworkflows/healing/FailureDegreeValuePinLaw" (9 : Nat) (4611686018427387903 : Int64)).before a0 Z = true := hw _ (List.mem_of_getElem? (i := 39) rfl)
theorem d_jdk_29_method_66_0 : decode jdk_29_method_66_code 0 = .ok (.lload_n 0, 1) := by decide +kernel
theorem d_jdk_29_method_66_1 : decode jdk_29_method_66_code 1 = .ok (.lload_n 2, 1) := by decide +kernel
theorem d_jdk_29_method_66_2 : decode jdk_29_method_66_code 2 = .ok (.lcmp, 1) := by decide +kernel
theorem d_jdk_29_method_66_3 : decode jdk_29_method_66_code 3 = .ok (.ifCond .lt 7, 3) := by decide +kernel
theorem d_jdk_29_method_66_10 : decode jdk_29_method_66_code 10 = .ok (.lload_n 2, 1) := by decide +kernel
theorem d_jdk_29_method_66_11 : decode jdk_29_method_66_code 11 = .ok (.lreturn, 1) := by decide +kernel
theorem d_jdk_29_method_66_6 : decode jdk_29_method_66_code 6 = .ok (.lload_n 0, 1) := by decide +kernel
theorem d_jdk_29_method_66_7 : decode jdk_29_method_66_code 7 = .ok (.goto 4, 3) := by decide +kernel
theorem d_jdk_29_method_70_0 : decode jdk_29_method_70_code 0 = .ok (.lload_n 0, 1) := by decide +kernel
theorem d_jdk_29_method_70_1 : decode jdk_29_method_70_code 1 = .ok (.lload_n 2, 1) := by decide +kernel
theorem d_jdk_29_method_70_2 : decode jdk_29_method_70_code 2 = .ok (.lcmp, 1) := by decide +kernel
theorem d_jdk_29_method_70_3 : decode jdk_29_method_70_code 3 = .ok (.ifCond .gt 7, 3) := by decide +kernel
theorem d_jdk_29_method_70_10 : decode jdk_29_method_70_code 10 = .ok (.lload_n 2, 1) := by decide +kernel
theorem d_jdk_29_method_70_11 : decode jdk_29_method_70_code 11 = .ok (.lreturn, 1) := by decide +kernel
theorem d_jdk_29_method_70_6 : decode jdk_29_method_70_code 6 = .ok (.lload_n 0, 1) := by decide +kernel
theorem d_jdk_29_method_70_7 : decode jdk_29_method_70_code 7 = .ok (.goto 4, 3) := by decide +kernel
theorem d_jdk_29_method_65_0 : decode jdk_29_method_65_code 0 = .ok (.iload_n 0, 1) := by decide +kernel
theorem d_jdk_29_method_65_1 : decode jdk_29_method_65_code 1 = .ok (.iload_n 1, 1) := by decide +kernel
theorem d_jdk_29_method_65_2 : decode jdk_29_method_65_code 2 = .ok (.if_icmp .lt 7, 3) := by decide +kernel
theorem d_jdk_29_method_65_9 : decode jdk_29_method_65_code 9 = .ok (.iload_n 1, 1) := by decide +kernel
theorem d_jdk_29_method_65_10 : decode jdk_29_method_65_code 10 = .ok (.ireturn, 1) := by decide +kernel
theorem d_jdk_29_method_65_5 : decode jdk_29_method_65_code 5 = .ok (.iload_n 0, 1) := by decide +kernel
theorem d_jdk_29_method_65_6 : decode jdk_29_method_65_code 6 = .ok (.goto 4, 3) := by decide +kernel
theorem d_jdk_30_method_1_0 : decode jdk_30_method_1_code 0 = .ok (.aload_n 0, 1) := by decide +kernel
theorem d_jdk_30_method_1_1 : decode jdk_30_method_1_code 1 = .ok (.invokespecial 1, 3) := by decide +kernel
theorem d_jdk_30_method_1_4 : decode jdk_30_method_1_code 4 = .ok (.return_, 1) := by decide +kernel
theorem d_prog_28_method_1_0 : decode prog_28_method_1_code 0 = .ok (.aload_n 0, 1) := by decide +kernel
theorem d_prog_28_method_1_1 : decode prog_28_method_1_code 1 = .ok (.invokespecial 1, 3) := by decide +kernel
theorem d_prog_28_method_1_4 : decode prog_28_method_1_code 4 = .ok (.iload_n 1, 1) := by decide +kernel
theorem d_prog_28_method_1_5 : decode prog_28_method_1_code 5 = .ok (.iconst 1, 1) := by decide +kernel
theorem d_prog_28_method_1_6 : decode prog_28_method_1_code 6 = .ok (.if_icmp .ge 17, 3) := by decide +kernel
theorem d_prog_28_method_1_23 : decode prog_28_method_1_code 23 = .ok (.lload_n 2, 1) := by decide +kernel
theorem d_prog_28_method_1_24 : decode prog_28_method_1_code 24 = .ok (.lconst 0, 1) := by decide +kernel
theorem d_prog_28_method_1_25 : decode prog_28_method_1_code 25 = .ok (.lcmp, 1) := by decide +kernel
theorem d_prog_28_method_1_26 : decode prog_28_method_1_code 26 = .ok (.ifCond .lt 17, 3) := by decide +kernel
theorem d_prog_28_method_1_29 : decode prog_28_method_1_code 29 = .ok (.lload 6, 2) := by decide +kernel
theorem d_prog_28_method_1_31 : decode prog_28_method_1_code 31 = .ok (.lconst 0, 1) := by decide +kernel
theorem d_prog_28_method_1_32 : decode prog_28_method_1_code 32 = .ok (.lcmp, 1) := by decide +kernel
theorem d_prog_28_method_1_33 : decode prog_28_method_1_code 33 = .ok (.ifCond .lt 10, 3) := by decide +kernel
theorem d_prog_28_method_1_36 : decode prog_28_method_1_code 36 = .ok (.lload_n 2, 1) := by decide +kernel
theorem d_prog_28_method_1_37 : decode prog_28_method_1_code 37 = .ok (.lload 4, 2) := by decide +kernel
theorem d_prog_28_method_1_39 : decode prog_28_method_1_code 39 = .ok (.lcmp, 1) := by decide +kernel
theorem d_prog_28_method_1_40 : decode prog_28_method_1_code 40 = .ok (.ifCond .le 21, 3) := by decide +kernel
theorem d_prog_28_method_1_61 : decode prog_28_method_1_code 61 = .ok (.aload_n 0, 1) := by decide +kernel
theorem d_prog_28_method_1_62 : decode prog_28_method_1_code 62 = .ok (.iload_n 1, 1) := by decide +kernel
theorem d_prog_28_method_1_63 : decode prog_28_method_1_code 63 = .ok (.putfield 19, 3) := by decide +kernel
theorem d_prog_28_method_1_66 : decode prog_28_method_1_code 66 = .ok (.aload_n 0, 1) := by decide +kernel
theorem d_prog_28_method_1_67 : decode prog_28_method_1_code 67 = .ok (.lload_n 2, 1) := by decide +kernel
theorem d_prog_28_method_1_68 : decode prog_28_method_1_code 68 = .ok (.putfield 25, 3) := by decide +kernel
theorem d_prog_28_method_1_71 : decode prog_28_method_1_code 71 = .ok (.aload_n 0, 1) := by decide +kernel
theorem d_prog_28_method_1_72 : decode prog_28_method_1_code 72 = .ok (.lload 4, 2) := by decide +kernel
theorem d_prog_28_method_1_74 : decode prog_28_method_1_code 74 = .ok (.putfield 29, 3) := by decide +kernel
theorem d_prog_28_method_1_77 : decode prog_28_method_1_code 77 = .ok (.aload_n 0, 1) := by decide +kernel
theorem d_prog_28_method_1_78 : decode prog_28_method_1_code 78 = .ok (.lload 6, 2) := by decide +kernel
theorem d_prog_28_method_1_80 : decode prog_28_method_1_code 80 = .ok (.putfield 32, 3) := by decide +kernel
theorem d_prog_28_method_1_83 : decode prog_28_method_1_code 83 = .ok (.return_, 1) := by decide +kernel
theorem d_prog_28_method_2_0 : decode prog_28_method_2_code 0 = .ok (.aload_n 0, 1) := by decide +kernel
theorem d_prog_28_method_2_1 : decode prog_28_method_2_code 1 = .ok (.getfield 29, 3) := by decide +kernel
theorem d_prog_28_method_2_4 : decode prog_28_method_2_code 4 = .ok (.aload_n 0, 1) := by decide +kernel
theorem d_prog_28_method_2_5 : decode prog_28_method_2_code 5 = .ok (.getfield 32, 3) := by decide +kernel
theorem d_prog_28_method_2_8 : decode prog_28_method_2_code 8 = .ok (.ladd, 1) := by decide +kernel
theorem d_prog_28_method_2_9 : decode prog_28_method_2_code 9 = .ok (.lstore_n 1, 1) := by decide +kernel
theorem d_prog_28_method_2_10 : decode prog_28_method_2_code 10 = .ok (.lload_n 1, 1) := by decide +kernel
theorem d_prog_28_method_2_11 : decode prog_28_method_2_code 11 = .ok (.lconst 0, 1) := by decide +kernel
theorem d_prog_28_method_2_12 : decode prog_28_method_2_code 12 = .ok (.lcmp, 1) := by decide +kernel
theorem d_prog_28_method_2_13 : decode prog_28_method_2_code 13 = .ok (.ifCond .ne 7, 3) := by decide +kernel
theorem d_prog_28_method_2_16 : decode prog_28_method_2_code 16 = .ok (.dconst 0, 1) := by decide +kernel
theorem d_prog_28_method_2_17 : decode prog_28_method_2_code 17 = .ok (.goto 11, 3) := by decide +kernel
theorem d_prog_28_method_2_28 : decode prog_28_method_2_code 28 = .ok (.dreturn, 1) := by decide +kernel
theorem d_prog_28_method_2_20 : decode prog_28_method_2_code 20 = .ok (.aload_n 0, 1) := by decide +kernel
theorem d_prog_28_method_2_21 : decode prog_28_method_2_code 21 = .ok (.getfield 25, 3) := by decide +kernel
theorem d_prog_28_method_2_24 : decode prog_28_method_2_code 24 = .ok (.l2d, 1) := by decide +kernel
theorem d_prog_28_method_2_25 : decode prog_28_method_2_code 25 = .ok (.lload_n 1, 1) := by decide +kernel
theorem d_prog_28_method_2_26 : decode prog_28_method_2_code 26 = .ok (.l2d, 1) := by decide +kernel
theorem d_prog_28_method_2_27 : decode prog_28_method_2_code 27 = .ok (.ddiv, 1) := by decide +kernel
theorem pd0 : parseMethodDescriptor "()V" = some ⟨[], none⟩ := by decide +kernel
theorem pd1 : parseMethodDescriptor "(JJ)J" = some ⟨[.long, .long], some .long⟩ := by decide +kernel
theorem pd2 : parseMethodDescriptor "(II)I" = some ⟨[.int, .int], some .int⟩ := by decide +kernel
theorem pd3 : parseMethodDescriptor "(IJJJ)V" = some ⟨[.int, .long, .long, .long], none⟩ := by decide +kernel
theorem pd4 : parseMethodDescriptor "()D" = some ⟨[], some .double⟩ := by decide +kernel
section
open Jvm.FP.Core
theorem IsV.uniq {w : UInt64} {x y : Rat} (h : IsV w x) (g : IsV w y) : x = y := by
  obtain ⟨s, c, q, h1, h2⟩ := h
  obtain ⟨s', c', q', g1, g2⟩ := g
  rw [h1] at g1
  cases g1
  rw [← h2, ← g2]
theorem own_big {m : Rat} (h : m ≤ 18446744073709551616) : m ≤ (2 : Rat) ^ (1000 : Int) := by
  have k : (18446744073709551616 : Rat) ≤ (2 : Rat) ^ (1000 : Int) := by decide +kernel
  generalize (2 : Rat) ^ (1000 : Int) = K at k ⊢
  grind
theorem own_sml {m : Rat} (h : -18446744073709551616 ≤ m) : -(2 : Rat) ^ (1000 : Int) ≤ m := by
  have k : (18446744073709551616 : Rat) ≤ (2 : Rat) ^ (1000 : Int) := by decide +kernel
  generalize (2 : Rat) ^ (1000 : Int) = K at k ⊢
  grind
theorem own_tiny {m : Rat} (h : (1 : Rat) / 9223372036854775808 ≤ m) : (2 : Rat) ^ (-1022 : Int) ≤ m := by
  have k : (2 : Rat) ^ (-1022 : Int) ≤ (1 : Rat) / 9223372036854775808 := by decide +kernel
  generalize (2 : Rat) ^ (-1022 : Int) = K at k ⊢
  grind
theorem own_tiny2 {m : Rat} (h : (1 : Rat) / 1208925819614629174706176 ≤ m) : (2 : Rat) ^ (-1022 : Int) ≤ m := by
  have k : (2 : Rat) ^ (-1022 : Int) ≤ (1 : Rat) / 1208925819614629174706176 := by decide +kernel
  generalize (2 : Rat) ^ (-1022 : Int) = K at k ⊢
  grind
theorem own_R1 : Rep 1 := ⟨1, 0, by decide, by decide, by decide, by decide +kernel⟩
theorem own_R63 : Rep 9223372036854775808 := ⟨1, 63, by decide, by decide, by decide, by decide +kernel⟩
theorem own_Rm63 : Rep (1 / 9223372036854775808) := ⟨1, -63, by decide, by decide, by decide, by decide +kernel⟩
theorem own_R511 : Rep (511 / 512) := ⟨511, -9, by decide, by decide, by decide, by decide +kernel⟩
def Sum (fF c vv : Rat) (f n : Int) : Prop := 0 ≤ vv ∧ vv ≤ 1 ∧ (f = 0 → vv = 0) ∧ (f ≠ 0 → (1 : Rat) / 9223372036854775808 ≤ vv) ∧ (f = n → vv = 1) ∧ (n ≤ 510 → f < n → vv ≠ 1) ∧ 0 ≤ fF ∧ fF ≤ c ∧ 1 ≤ c ∧ c ≤ 9223372036854775808 ∧ (f ≠ 0 → 1 ≤ fF)
theorem Sum.v0 {fF c vv : Rat} {f n : Int} (h : Sum fF c vv f n) : 0 ≤ vv := h.1
theorem Sum.v1 {fF c vv : Rat} {f n : Int} (h : Sum fF c vv f n) : vv ≤ 1 := h.2.1
theorem Sum.z1 {fF c vv : Rat} {f n : Int} (h : Sum fF c vv f n) : (f = 0 → vv = 0) := h.2.2.1
theorem Sum.z2 {fF c vv : Rat} {f n : Int} (h : Sum fF c vv f n) : (f ≠ 0 → (1 : Rat) / 9223372036854775808 ≤ vv) := h.2.2.2.1
theorem Sum.e1 {fF c vv : Rat} {f n : Int} (h : Sum fF c vv f n) : (f = n → vv = 1) := h.2.2.2.2.1
theorem Sum.s1 {fF c vv : Rat} {f n : Int} (h : Sum fF c vv f n) : (n ≤ 510 → f < n → vv ≠ 1) := h.2.2.2.2.2.1
theorem Sum.F0 {fF c vv : Rat} {f n : Int} (h : Sum fF c vv f n) : 0 ≤ fF := h.2.2.2.2.2.2.1
theorem Sum.Fc {fF c vv : Rat} {f n : Int} (h : Sum fF c vv f n) : fF ≤ c := h.2.2.2.2.2.2.2.1
theorem Sum.c1 {fF c vv : Rat} {f n : Int} (h : Sum fF c vv f n) : 1 ≤ c := h.2.2.2.2.2.2.2.2.1
theorem Sum.c2 {fF c vv : Rat} {f n : Int} (h : Sum fF c vv f n) : c ≤ 9223372036854775808 := h.2.2.2.2.2.2.2.2.2.1
theorem Sum.F1 {fF c vv : Rat} {f n : Int} (h : Sum fF c vv f n) : (f ≠ 0 → 1 ≤ fF) := h.2.2.2.2.2.2.2.2.2.2
theorem own_div {x y : Rat} (hy : 0 < y) : x / y * y = x := by
  have : y ≠ 0 := by grind
  grind
theorem own_dle {x y k : Rat} (hy : 0 < y) (h : x ≤ k * y) : x / y ≤ k := by
  refine Rat.not_lt.mp fun q => ?_
  have h1 := Rat.mul_lt_mul_of_pos_right q hy
  rw [own_div hy] at h1
  grind
theorem own_dge {x y k : Rat} (hy : 0 < y) (h : k * y ≤ x) : k ≤ x / y := by
  refine Rat.not_lt.mp fun q => ?_
  have h1 := Rat.mul_lt_mul_of_pos_right q hy
  rw [own_div hy] at h1
  grind
theorem own_sum {fl n : Int64} {fF c vv : Rat} (h0 : 0 ≤ fl.toInt) (h1 : fl.toInt ≤ n.toInt) (h2 : 1 ≤ n.toInt) (iF : IsV (FP.l2d fl) fF) (rF : Rd (fl.toInt : Rat) fF) (iN : IsV (FP.l2d n) c) (rN : Rd (n.toInt : Rat) c) (rV : Rd (fF / c) vv) : Sum fF c vv fl.toInt n.toInt := by
  have bn := n.toInt_lt
  have k0 : (0 : Rat) ≤ (fl.toInt : Rat) := by exact_mod_cast h0
  have k2 : (1 : Rat) ≤ (n.toInt : Rat) := by exact_mod_cast h2
  have k3 : (n.toInt : Rat) ≤ 9223372036854775808 := Rat.intCast_le_intCast.mpr (by omega : n.toInt ≤ (9223372036854775808 : Int))
  have F0 : 0 ≤ fF := rF.dn Rep.zero k0
  have c1 : 1 ≤ c := rN.dn own_R1 k2
  have c2 : c ≤ 9223372036854775808 := rN.up own_R63 k3
  have cp : 0 < c := by grind
  have Fc : fF ≤ c := by
    rcases Int.lt_or_eq_of_le h1 with h | h
    · have k : (fl.toInt : Rat) < (n.toInt : Rat) := by exact_mod_cast h
      exact rF.mono rN k
    · have : fl = n := Int64.toInt_inj.mp h
      subst this
      rw [iF.uniq iN]; grind
  have F1 : fl.toInt ≠ 0 → 1 ≤ fF := by
    intro h
    have k : (1 : Rat) ≤ (fl.toInt : Rat) := by exact_mod_cast (by omega : (1 : Int) ≤ fl.toInt)
    exact rF.dn own_R1 k
  have q0 : 0 ≤ fF / c := own_dge cp (by rw [Rat.zero_mul]; exact F0)
  have q1 : fF / c ≤ 1 := own_dle cp (by rw [Rat.one_mul]; exact Fc)
  refine ⟨rV.dn Rep.zero q0, rV.up own_R1 q1, ?_, ?_, ?_, ?_, F0, Fc, c1, c2, F1⟩
  · intro h
    have e0 : (fl.toInt : Rat) = 0 := by rw [h]; rfl
    have z1 : fF ≤ 0 := rF.up Rep.zero (by rw [e0]; grind)
    have z : fF = 0 := by grind
    have q : fF / c = 0 := by rw [z]; grind
    have a := rV.dn Rep.zero q0
    have b := rV.up Rep.zero (by rw [q]; grind)
    grind
  · intro h
    have := F1 h
    exact rV.dn own_Rm63 (own_dge cp (by grind))
  · intro h
    have hh : fl = n := Int64.toInt_inj.mp h
    subst hh
    have e : fF = c := iF.uniq iN
    have q : fF / c = 1 := by rw [e]; grind
    have a := rV.dn own_R1 (by rw [q]; grind)
    have b := rV.up own_R1 (by rw [q]; grind)
    grind
  · intro hs hlt
    have eF : fF = (fl.toInt : Rat) := by
      have r : Rep (fl.toInt : Rat) := Rep.int (by omega)
      have a := rF.dn r (by grind)
      have b := rF.up r (by grind)
      grind
    have eN : c = (n.toInt : Rat) := by
      have r : Rep (n.toInt : Rat) := Rep.int (by omega)
      have a := rN.dn r (by grind)
      have b := rN.up r (by grind)
      grind
    have k5 : (n.toInt : Rat) ≤ 510 := Rat.intCast_le_intCast.mpr (by omega : n.toInt ≤ (510 : Int))
    have k6 : (fl.toInt : Rat) ≤ (n.toInt : Rat) - 1 := by
      have : ((fl.toInt + 1 : Int) : Rat) ≤ (n.toInt : Rat) := by exact_mod_cast (by omega : fl.toInt + 1 ≤ n.toInt)
      rw [Rat.intCast_add] at this
      have e1 : ((1 : Int) : Rat) = 1 := rfl
      grind
    have u := rV.up own_R511 (own_dle cp (by rw [eF, eN]; grind))
    grind
theorem own_tol {fF c v p T k : Rat} (hc : 1 ≤ c) (hF0 : 0 ≤ fF) (hFc : fF ≤ c) (h1 : v - fF / c ≤ fF / c / 9007199254740992) (h2 : fF / c - v ≤ fF / c / 9007199254740992) (h3 : p - v * c ≤ v * c / 9007199254740992) (h4 : v * c - p ≤ v * c / 9007199254740992) (h5 : c * k - T ≤ c * k / 9007199254740992) (hk : 8 / 9007199254740992 ≤ k) : p - fF ≤ T ∧ -T ≤ p - fF := by
  have cp : 0 < c := by grind
  have d := own_div (x := fF) cp
  have g1 := Rat.mul_le_mul_of_nonneg_right h1 (Rat.le_of_lt cp)
  have g2 := Rat.mul_le_mul_of_nonneg_right h2 (Rat.le_of_lt cp)
  have g3 := Rat.mul_le_mul_of_nonneg_left hk (Rat.le_of_lt cp)
  generalize fF / c = m1 at *
  have w1 : v * c - fF ≤ fF / 9007199254740992 := by grind
  have w2 : fF - v * c ≤ fF / 9007199254740992 := by grind
  generalize v * c = a at *
  generalize c * k = ck at *
  have w3 : c * (8 / 9007199254740992) = 8 * c / 9007199254740992 := by grind
  rw [w3] at g3
  constructor <;> grind
def VV (f n : Int64) (vv : Rat) : Prop := (n = 0 ∧ vv = 0) ∨ (n ≠ 0 ∧ ∃ fF c, IsV (FP.l2d f) fF ∧ Rd (f.toInt : Rat) fF ∧ IsV (FP.l2d n) c ∧ Rd (n.toInt : Rat) c ∧ Rd (fF / c) vv)
end
theorem own_m {x m a : Int64} {k : Nat} (h : x &&& m = a) (hk : k ≤ 63) (hm : m.toBitVec.toNat = 2 ^ k - 1) : 0 ≤ a.toInt ∧ a.toInt < (2 ^ k : Nat) := by
  have q := c_maskL x m k hk hm
  rw [h] at q
  have : (0 : Int) < (2 ^ k : Nat) := by exact_mod_cast Nat.two_pow_pos k
  omega
theorem own_min {a b f : Int64} (h : (if b < a then b else a) = f) : f.toInt ≤ a.toInt ∧ f.toInt ≤ b.toInt ∧ (f.toInt = a.toInt ∨ f.toInt = b.toInt) := by
  by_cases q : b < a
  · rw [if_pos q] at h; subst h; rw [Int64.lt_iff_toInt_lt] at q; omega
  · rw [if_neg q] at h; subst h; rw [Int64.lt_iff_toInt_lt] at q; omega
theorem own_max {a b f : Int64} (h : (if a < b then b else a) = f) : a.toInt ≤ f.toInt ∧ b.toInt ≤ f.toInt ∧ (f.toInt = a.toInt ∨ f.toInt = b.toInt) := by
  by_cases q : a < b
  · rw [if_pos q] at h; subst h; rw [Int64.lt_iff_toInt_lt] at q; omega
  · rw [if_neg q] at h; subst h; rw [Int64.lt_iff_toInt_lt] at q; omega
theorem own_lv (x : Int32) : ¬ (if (1 : Int32) < x then x else (1 : Int32)) < (1 : Int32) := by
  by_cases q : (1 : Int32) < x
  · rw [if_pos q]; intro r; rw [Int32.lt_iff_toInt_lt] at q r; omega
  · rw [if_neg q]; exact fun r => Int32.lt_irrefl r
/-- the longs of the law: f ≤ e, n = e + r -/
def Lo (f e r n : Int64) : Prop := 0 ≤ f.toInt ∧ f.toInt ≤ e.toInt ∧ 0 ≤ r.toInt ∧ n.toInt = e.toInt + r.toInt ∧ n = e + r
theorem own_lo {a b r f e n : Int64} {M : Int} (hM : M ≤ 4611686018427387904) (ha : 0 ≤ a.toInt ∧ a.toInt < M) (hb : 0 ≤ b.toInt ∧ b.toInt < M) (hr : 0 ≤ r.toInt ∧ r.toInt < M) (hf : (if b < a then b else a) = f) (he : (if a < b then b else a) = e) (hn : e + r = n) : Lo f e r n ∧ n.toInt ≤ 2 * M - 2 := by
  have f1 := own_min hf
  have e1 := own_max he
  have s : n.toInt = e.toInt + r.toInt := by
    rw [← hn, Int64.toInt_add, Int.bmod_eq_of_le] <;> omega
  exact ⟨⟨by omega, by omega, by omega, s, hn.symm⟩, by omega⟩
theorem own_l0 : (0 : Int64).toInt = 0 := rfl
theorem own_nl {x : Int64} (h : 0 ≤ x.toInt) : ¬ lcmpW x (0 : Int64) < 0 := fun q => by
  have := (lw_lt _ _).mp q
  rw [Int64.lt_iff_toInt_lt, own_l0] at this
  omega
theorem own_ng {x y : Int64} (h : x.toInt ≤ y.toInt) : ¬ 0 < lcmpW x y := fun q => by
  have := (lw_gt _ _).mp q
  rw [Int64.lt_iff_toInt_lt] at this
  omega
theorem own_n1 {f e r n : Int64} (h : Lo f e r n) (h0 : ¬ lcmpW n (0 : Int64) = 0) : 1 ≤ n.toInt ∧ f.toInt ≤ n.toInt := by
  have : n.toInt ≠ 0 := fun q => h0 ((lw_eq _ _).mpr (Int64.toInt_inj.mp (by rw [own_l0]; exact q)))
  obtain ⟨a, b, c, d, -⟩ := h
  omega
theorem own_nz {n : Int64} (h0 : ¬ lcmpW n (0 : Int64) = 0) : n ≠ 0 := fun q => h0 ((lw_eq _ _).mpr q)
theorem own_vvN {f n : Int64} {vv : Rat} (h : VV f n vv) (h0 : ¬ lcmpW n (0 : Int64) = 0) : ∃ fF c, IsV (FP.l2d f) fF ∧ Rd (f.toInt : Rat) fF ∧ IsV (FP.l2d n) c ∧ Rd (n.toInt : Rat) c ∧ Rd (fF / c) vv := by
  rcases h with h | h
  · exact absurd h.1 (own_nz h0)
  · exact h.2
theorem own_vv0 {f n : Int64} {vv : Rat} (h : VV f n vv) (h0 : lcmpW n (0 : Int64) = 0) : vv = 0 := by
  rcases h with h | h
  · exact h.2
  · exact absurd ((lw_eq _ _).mp h0) h.1
theorem own_bp {vv c : Rat} (v0 : 0 ≤ vv) (v1 : vv ≤ 1) (c1 : 1 ≤ c) (c2 : c ≤ 9223372036854775808) : 0 ≤ vv * c ∧ vv * c ≤ 9223372036854775808 := by
  have cp : 0 ≤ c := by grind
  have a := Rat.mul_nonneg v0 cp
  have b := Rat.mul_le_mul_of_nonneg_right v1 cp
  constructor <;> grind
theorem own_R64 : Rep 18446744073709551616 := ⟨1, 64, by decide, by decide, by decide, by decide +kernel⟩

set_option maxRecDepth 65536 in
set_option maxHeartbeats 40000000 in
theorem c_maxJ {l : Launch} {Z : State} {a0 : Array Value} (hw : W a0 Z) (x z : Int64) (h0 : Heap)  :
    Con l Z (⟨"java/lang/Math", "max", "(JJ)J"⟩ : MethodName) jdk_29_method_66_code 4 (some .long) ({ frames := 0, cells := 0, slots := 0, locals := 0 } : Room) #[(.long x), (.long z)] h0 (fun v h' => v = some (.long (if x < z then z else x)) ∧ h' = h0) := by
  refine Con.intro (Jvm.Free.JP.mathPlain rfl (by decide +kernel)) ?_
  intro p e s m below meth c T X
  refine Goes.cast (g' := mkF m 0 #[.val (.long x), .second, .val (.long z), .second] []) (by first | (simp [entryFrame, mkF, argsToLocals, Value.category]; done) | rfl) ?_
  refine o_lloadN X d_jdk_29_method_66_0 rfl (q := 1) rfl ?_
  refine o_lloadN X d_jdk_29_method_66_1 rfl (q := 2) rfl ?_
  refine o_lcmp X d_jdk_29_method_66_2 (w := (lcmpW x z)) rfl (q := 3) rfl ?_
  by_cases hc3 : (lcmpW x z) < (0 : Int32)
  · refine o_ifY X d_jdk_29_method_66_3 (tlt hc3).1 (by decide) (q := 10) (by decide) ?_
    refine o_lloadN X d_jdk_29_method_66_10 rfl (q := 11) rfl ?_
    exact o_retJ X d_jdk_29_method_66_11 ⟨by rw [if_pos ((lw_lt _ _).mp hc3)], rfl⟩ (by decide) (by decide)
  · refine o_ifN X d_jdk_29_method_66_3 (flt hc3).1 (q := 6) rfl ?_
    refine o_lloadN X d_jdk_29_method_66_6 rfl (q := 7) rfl ?_
    refine o_goto X d_jdk_29_method_66_7 (by decide) (q := 11) (by decide) ?_
    exact o_retJ X d_jdk_29_method_66_11 ⟨by rw [if_neg (fun q => hc3 ((lw_lt _ _).mpr q))], rfl⟩ (by decide) (by decide)
set_option maxRecDepth 65536 in
set_option maxHeartbeats 40000000 in
theorem c_minJ {l : Launch} {Z : State} {a0 : Array Value} (hw : W a0 Z) (x z : Int64) (h0 : Heap)  :
    Con l Z (⟨"java/lang/Math", "min", "(JJ)J"⟩ : MethodName) jdk_29_method_70_code 4 (some .long) ({ frames := 0, cells := 0, slots := 0, locals := 0 } : Room) #[(.long x), (.long z)] h0 (fun v h' => v = some (.long (if z < x then z else x)) ∧ h' = h0) := by
  refine Con.intro (Jvm.Free.JP.mathPlain rfl (by decide +kernel)) ?_
  intro p e s m below meth c T X
  refine Goes.cast (g' := mkF m 0 #[.val (.long x), .second, .val (.long z), .second] []) (by first | (simp [entryFrame, mkF, argsToLocals, Value.category]; done) | rfl) ?_
  refine o_lloadN X d_jdk_29_method_70_0 rfl (q := 1) rfl ?_
  refine o_lloadN X d_jdk_29_method_70_1 rfl (q := 2) rfl ?_
  refine o_lcmp X d_jdk_29_method_70_2 (w := (lcmpW x z)) rfl (q := 3) rfl ?_
  by_cases hc3 : (0 : Int32) < (lcmpW x z)
  · refine o_ifY X d_jdk_29_method_70_3 (tlt hc3).2.2.1 (by decide) (q := 10) (by decide) ?_
    refine o_lloadN X d_jdk_29_method_70_10 rfl (q := 11) rfl ?_
    exact o_retJ X d_jdk_29_method_70_11 ⟨by rw [if_pos ((lw_gt _ _).mp hc3)], rfl⟩ (by decide) (by decide)
  · refine o_ifN X d_jdk_29_method_70_3 (flt hc3).2.2.1 (q := 6) rfl ?_
    refine o_lloadN X d_jdk_29_method_70_6 rfl (q := 7) rfl ?_
    refine o_goto X d_jdk_29_method_70_7 (by decide) (q := 11) (by decide) ?_
    exact o_retJ X d_jdk_29_method_70_11 ⟨by rw [if_neg (fun q => hc3 ((lw_gt _ _).mpr q))], rfl⟩ (by decide) (by decide)
set_option maxRecDepth 65536 in
set_option maxHeartbeats 40000000 in
theorem c_maxI {l : Launch} {Z : State} {a0 : Array Value} (hw : W a0 Z) (x z : Int32) (h0 : Heap)  :
    Con l Z (⟨"java/lang/Math", "max", "(II)I"⟩ : MethodName) jdk_29_method_65_code 2 (some .int) ({ frames := 0, cells := 0, slots := 0, locals := 0 } : Room) #[(.int x), (.int z)] h0 (fun v h' => v = some (.int (if x < z then z else x)) ∧ h' = h0) := by
  refine Con.intro (Jvm.Free.JP.mathPlain rfl (by decide +kernel)) ?_
  intro p e s m below meth c T X
  refine Goes.cast (g' := mkF m 0 #[.val (.int x), .val (.int z)] []) (by first | (simp [entryFrame, mkF, argsToLocals, Value.category]; done) | rfl) ?_
  refine o_iloadN X d_jdk_29_method_65_0 rfl (q := 1) rfl ?_
  refine o_iloadN X d_jdk_29_method_65_1 rfl (q := 2) rfl ?_
  by_cases hc2 : x < z
  · refine o_icmpY X d_jdk_29_method_65_2 (tlt hc2).1 (by decide) (q := 9) (by decide) ?_
    refine o_iloadN X d_jdk_29_method_65_9 rfl (q := 10) rfl ?_
    exact o_retI X d_jdk_29_method_65_10 ⟨by rw [if_pos hc2], rfl⟩ (by decide) (by decide)
  · refine o_icmpN X d_jdk_29_method_65_2 (flt hc2).1 (q := 5) rfl ?_
    refine o_iloadN X d_jdk_29_method_65_5 rfl (q := 6) rfl ?_
    refine o_goto X d_jdk_29_method_65_6 (by decide) (q := 10) (by decide) ?_
    exact o_retI X d_jdk_29_method_65_10 ⟨by rw [if_neg hc2], rfl⟩ (by decide) (by decide)
set_option maxRecDepth 65536 in
set_option maxHeartbeats 40000000 in
theorem c_rec {l : Launch} {Z : State} {a0 : Array Value} (hw : W a0 Z) (a : Addr) (h0 : Heap)  :
    Con l Z (⟨"java/lang/Record", "<init>", "()V"⟩ : MethodName) jdk_30_method_1_code 1 none ({ frames := 1, cells := 0, slots := 0, locals := 12 } : Room) #[(.ref a)] h0 (fun v h' => v = none ∧ h' = h0) := by
  have hpn : plainName "java/lang/Record" = true := by first | (simp [plainName, overriddenIn]; done) | decide +kernel
  refine Con.intro (plainFor_of_name hpn) ?_
  intro p e s m below meth c T X
  refine Goes.cast (g' := mkF m 0 #[.val (.ref a)] []) (by first | (simp [entryFrame, mkF, argsToLocals, Value.category]; done) | rfl) ?_
  refine o_aloadN X d_jdk_30_method_1_0 rfl rfl (q := 1) rfl ?_
  refine o_initO X (w22 hw) (w23 hw) (w24 hw) d_jdk_30_method_1_1 rfl (by decide) (Nat.le_of_ble_eq_true rfl) (q := 4) rfl ?_
  intro T1 X1
  exact o_ret X1 d_jdk_30_method_1_4 ⟨rfl, rfl⟩ (by decide) (by decide)
set_option maxRecDepth 65536 in
set_option maxHeartbeats 40000000 in
theorem c_fd {l : Launch} {Z : State} {a0 : Array Value} (hw : W a0 Z) (a : Addr) (lv : Int32) (f e_ r_ n_ : Int64) (h0 : Heap) (E : Exa Z h0 a "com/example/tolerant_workflows/tolerantworkflows/healing/FailureDegree") (ga : Z.heap.size ≤ a) (F_level : Fld Z h0 a "com/example/tolerant_workflows/tolerantworkflows/healing/FailureDegree" "level" "I" (.int (0 : Int32))) (F_failed : Fld Z h0 a "com/example/tolerant_workflows/tolerantworkflows/healing/FailureDegree" "failed" "J" (.long (0 : Int64))) (F_ended : Fld Z h0 a "com/example/tolerant_workflows/tolerantworkflows/healing/FailureDegree" "ended" "J" (.long (0 : Int64))) (F_running : Fld Z h0 a "com/example/tolerant_workflows/tolerantworkflows/healing/FailureDegree" "running" "J" (.long (0 : Int64))) (hlv : ¬ lv < (1 : Int32)) (hlo : Lo f e_ r_ n_) :
    Con l Z (⟨"com/example/tolerant_workflows/tolerantworkflows/healing/FailureDegree", "<init>", "(IJJJ)V"⟩ : MethodName) prog_28_method_1_code 8 none ({ frames := 2, cells := 0, slots := 0, locals := 24 } : Room) #[(.ref a), (.int lv), (.long f), (.long e_), (.long r_)] h0 (fun v h' => v = none ∧ Keep h0 h' [a] ∧ Fld Z h' a "com/example/tolerant_workflows/tolerantworkflows/healing/FailureDegree" "level" "I" (.int lv) ∧ Fld Z h' a "com/example/tolerant_workflows/tolerantworkflows/healing/FailureDegree" "failed" "J" (.long f) ∧ Fld Z h' a "com/example/tolerant_workflows/tolerantworkflows/healing/FailureDegree" "ended" "J" (.long e_) ∧ Fld Z h' a "com/example/tolerant_workflows/tolerantworkflows/healing/FailureDegree" "running" "J" (.long r_)) := by
  have hpn : plainName "com/example/tolerant_workflows/tolerantworkflows/healing/FailureDegree" = true := by first | (simp [plainName, overriddenIn]; done) | decide +kernel
  refine Con.intro (plainFor_of_name hpn) ?_
  intro p e s m below meth c T X
  refine Goes.cast (g' := mkF m 0 #[.val (.ref a), .val (.int lv), .val (.long f), .second, .val (.long e_), .second, .val (.long r_), .second] []) (by first | (simp [entryFrame, mkF, argsToLocals, Value.category]; done) | rfl) ?_
  refine o_aloadN X d_prog_28_method_1_0 rfl rfl (q := 1) rfl ?_
  refine o_spec X [] (y' := (⟨"java/lang/Record", "<init>", "()V"⟩ : MethodName)) (c_rec hw a _) rfl (w17 hw) (w18 hw) (w21 hw) (w20 hw) (by decide) d_prog_28_method_1_1 (rest := []) rfl rfl (lenOf pd0 rfl) rfl (by decide) (Nat.le_of_ble_eq_true rfl) (by decide) (by decide) (q := 4) rfl ?_
  intro v1 T1 h1 l1 X1 q1
  obtain ⟨rfl, e1⟩ := q1
  have e1 := e1.symm
  subst e1
  show Goes p e below _ T1 (mkF m 4 #[.val (.ref a), .val (.int lv), .val (.long f), .second, .val (.long e_), .second, .val (.long r_), .second] [])
  refine o_iloadN X1 d_prog_28_method_1_4 rfl (q := 5) rfl ?_
  refine o_iconst X1 d_prog_28_method_1_5 (w := 1) rfl (q := 6) rfl ?_
  refine o_icmpY X1 d_prog_28_method_1_6 (flt hlv).2.1 (by decide) (q := 23) (by decide) ?_
  refine o_lloadN X1 d_prog_28_method_1_23 rfl (q := 24) rfl ?_
  refine o_lconst X1 d_prog_28_method_1_24 (w := 0) rfl (q := 25) rfl ?_
  refine o_lcmp X1 d_prog_28_method_1_25 (w := (lcmpW f (0 : Int64))) rfl (q := 26) rfl ?_
  refine o_ifN X1 d_prog_28_method_1_26 (flt (own_nl hlo.1)).1 (q := 29) rfl ?_
  refine o_lload X1 d_prog_28_method_1_29 rfl (q := 31) rfl ?_
  refine o_lconst X1 d_prog_28_method_1_31 (w := 0) rfl (q := 32) rfl ?_
  refine o_lcmp X1 d_prog_28_method_1_32 (w := (lcmpW r_ (0 : Int64))) rfl (q := 33) rfl ?_
  refine o_ifN X1 d_prog_28_method_1_33 (flt (own_nl hlo.2.2.1)).1 (q := 36) rfl ?_
  refine o_lloadN X1 d_prog_28_method_1_36 rfl (q := 37) rfl ?_
  refine o_lload X1 d_prog_28_method_1_37 rfl (q := 39) rfl ?_
  refine o_lcmp X1 d_prog_28_method_1_39 (w := (lcmpW f e_)) rfl (q := 40) rfl ?_
  refine o_ifY X1 d_prog_28_method_1_40 (flt (own_ng hlo.2.1)).2.2.2 (by decide) (q := 61) (by decide) ?_
  refine o_aloadN X1 d_prog_28_method_1_61 rfl rfl (q := 62) rfl ?_
  refine o_iloadN X1 d_prog_28_method_1_62 rfl (q := 63) rfl ?_
  refine o_putF X1 F_level E ga (host := "") (Or.inl (w25 hw)) Via.refl (Or.inr ⟨(w26 hw), rfl, rfl⟩) (w9 hw) (ty := .int) (by decide) rfl rfl d_prog_28_method_1_63 (q := 66) rfl ?_
  intro T2 h2 l2 X2 W2 F2
  refine o_aloadN X2 d_prog_28_method_1_66 rfl rfl (q := 67) rfl ?_
  refine o_lloadN X2 d_prog_28_method_1_67 rfl (q := 68) rfl ?_
  have f3 := (F_failed.other W2 (Or.inr (slot_ne (Or.inr (w28 hw)) (Or.inr (w26 hw)) (by decide) (t := .long) (t' := .int) (by decide) (by decide))))
  have f4 := (E.wr W2)
  refine o_putF X2 f3 f4 ga (host := "") (Or.inl (w27 hw)) Via.refl (Or.inr ⟨(w28 hw), rfl, rfl⟩) (w9 hw) (ty := .long) (by decide) rfl rfl d_prog_28_method_1_68 (q := 71) rfl ?_
  intro T5 h5 l5 X5 W5 F5
  refine o_aloadN X5 d_prog_28_method_1_71 rfl rfl (q := 72) rfl ?_
  refine o_lload X5 d_prog_28_method_1_72 rfl (q := 74) rfl ?_
  have f6 := ((F_ended.other W2 (Or.inr (slot_ne (Or.inr (w30 hw)) (Or.inr (w26 hw)) (by decide) (t := .long) (t' := .int) (by decide) (by decide)))).other W5 (Or.inr (slot_ne (Or.inr (w30 hw)) (Or.inr (w28 hw)) (by decide) (t := .long) (t' := .long) (by decide) (by decide))))
  have f7 := (f4.wr W5)
  refine o_putF X5 f6 f7 ga (host := "") (Or.inl (w29 hw)) Via.refl (Or.inr ⟨(w30 hw), rfl, rfl⟩) (w9 hw) (ty := .long) (by decide) rfl rfl d_prog_28_method_1_74 (q := 77) rfl ?_
  intro T8 h8 l8 X8 W8 F8
  refine o_aloadN X8 d_prog_28_method_1_77 rfl rfl (q := 78) rfl ?_
  refine o_lload X8 d_prog_28_method_1_78 rfl (q := 80) rfl ?_
  have f9 := (((F_running.other W2 (Or.inr (slot_ne (Or.inr (w32 hw)) (Or.inr (w26 hw)) (by decide) (t := .long) (t' := .int) (by decide) (by decide)))).other W5 (Or.inr (slot_ne (Or.inr (w32 hw)) (Or.inr (w28 hw)) (by decide) (t := .long) (t' := .long) (by decide) (by decide)))).other W8 (Or.inr (slot_ne (Or.inr (w32 hw)) (Or.inr (w30 hw)) (by decide) (t := .long) (t' := .long) (by decide) (by decide))))
  have f10 := (f7.wr W8)
  refine o_putF X8 f9 f10 ga (host := "") (Or.inl (w31 hw)) Via.refl (Or.inr ⟨(w32 hw), rfl, rfl⟩) (w9 hw) (ty := .long) (by decide) rfl rfl d_prog_28_method_1_80 (q := 83) rfl ?_
  intro T11 h11 l11 X11 W11 F11
  have k12 := Keep.wr (Keep.refl h0 [a]) W2 (Or.inl (by simp))
  have k13 := Keep.wr k12 W5 (Or.inl (by simp))
  have k14 := Keep.wr k13 W8 (Or.inl (by simp))
  have k15 := Keep.wr k14 W11 (Or.inl (by simp))
  have f16 := (((F2.other W5 (Or.inr (slot_ne (Or.inr (w26 hw)) (Or.inr (w28 hw)) (by decide) (t := .int) (t' := .long) (by decide) (by decide)))).other W8 (Or.inr (slot_ne (Or.inr (w26 hw)) (Or.inr (w30 hw)) (by decide) (t := .int) (t' := .long) (by decide) (by decide)))).other W11 (Or.inr (slot_ne (Or.inr (w26 hw)) (Or.inr (w32 hw)) (by decide) (t := .int) (t' := .long) (by decide) (by decide))))
  have f17 := ((F5.other W8 (Or.inr (slot_ne (Or.inr (w28 hw)) (Or.inr (w30 hw)) (by decide) (t := .long) (t' := .long) (by decide) (by decide)))).other W11 (Or.inr (slot_ne (Or.inr (w28 hw)) (Or.inr (w32 hw)) (by decide) (t := .long) (t' := .long) (by decide) (by decide))))
  have f18 := (F8.other W11 (Or.inr (slot_ne (Or.inr (w30 hw)) (Or.inr (w32 hw)) (by decide) (t := .long) (t' := .long) (by decide) (by decide))))
  exact o_ret X11 d_prog_28_method_1_83 ⟨rfl, k15, f16, f17, f18, F11⟩ (by decide) (by decide)
set_option maxRecDepth 65536 in
set_option maxHeartbeats 40000000 in
theorem c_val {l : Launch} {Z : State} {a0 : Array Value} (hw : W a0 Z) (a : Addr) (f e_ r_ : Int64) (h0 : Heap) (F_failed : Fld Z h0 a "com/example/tolerant_workflows/tolerantworkflows/healing/FailureDegree" "failed" "J" (.long f)) (F_ended : Fld Z h0 a "com/example/tolerant_workflows/tolerantworkflows/healing/FailureDegree" "ended" "J" (.long e_)) (F_running : Fld Z h0 a "com/example/tolerant_workflows/tolerantworkflows/healing/FailureDegree" "running" "J" (.long r_)) (hlo : Lo f e_ r_ (e_ + r_)) :
    Con l Z (⟨"com/example/tolerant_workflows/tolerantworkflows/healing/FailureDegree", "value", "()D"⟩ : MethodName) prog_28_method_2_code 3 (some .double) ({ frames := 0, cells := 0, slots := 0, locals := 0 } : Room) #[(.ref a)] h0 (fun v h' => ∃ (d : UInt64) (vv : Rat), v = some (.double d) ∧ IsV d vv ∧ VV f (e_ + r_) vv ∧ h' = h0) := by
  have hpn : plainName "com/example/tolerant_workflows/tolerantworkflows/healing/FailureDegree" = true := by first | (simp [plainName, overriddenIn]; done) | decide +kernel
  refine Con.intro (plainFor_of_name hpn) ?_
  intro p e s m below meth c T X
  refine Goes.cast (g' := mkF m 0 #[.val (.ref a), .unset, .unset] []) (by first | (simp [entryFrame, mkF, argsToLocals, Value.category]; done) | rfl) ?_
  refine o_aloadN X d_prog_28_method_2_0 rfl rfl (q := 1) rfl ?_
  refine o_getF X F_ended (host := "") (Or.inl (w29 hw)) Via.refl d_prog_28_method_2_1 (q := 4) rfl ?_
  intro T1 X1
  refine o_aloadN X1 d_prog_28_method_2_4 rfl rfl (q := 5) rfl ?_
  refine o_getF X1 F_running (host := "") (Or.inl (w31 hw)) Via.refl d_prog_28_method_2_5 (q := 8) rfl ?_
  intro T2 X2
  refine o_ladd X2 d_prog_28_method_2_8 (w := (e_ + r_)) rfl (q := 9) rfl ?_
  obtain ⟨n_, h_n_⟩ : ∃ z : Int64, (e_ + r_) = z := ⟨_, rfl⟩
  refine o_lstoreN X2 d_prog_28_method_2_9 h_n_ (L' := #[.val (.ref a), .val (.long n_), .second]) rfl (q := 10) rfl ?_
  refine o_lloadN X2 d_prog_28_method_2_10 rfl (q := 11) rfl ?_
  refine o_lconst X2 d_prog_28_method_2_11 (w := 0) rfl (q := 12) rfl ?_
  refine o_lcmp X2 d_prog_28_method_2_12 (w := (lcmpW n_ (0 : Int64))) rfl (q := 13) rfl ?_
  by_cases hc13 : (lcmpW n_ (0 : Int64)) = (0 : Int32)
  · refine o_ifN X2 d_prog_28_method_2_13 (teq hc13).2 (q := 16) rfl ?_
    refine o_dconst0 X2 d_prog_28_method_2_16 (q := 17) rfl ?_
    refine o_goto X2 d_prog_28_method_2_17 (by decide) (q := 28) (by decide) ?_
    exact o_retD X2 d_prog_28_method_2_28 ⟨FP.dconst0, 0, rfl, IsV.zero, Or.inl ⟨h_n_.trans ((lw_eq _ _).mp hc13), rfl⟩, rfl⟩ (by decide) (by decide)
  · refine o_ifY X2 d_prog_28_method_2_13 (feq hc13).2 (by decide) (q := 20) (by decide) ?_
    refine o_aloadN X2 d_prog_28_method_2_20 rfl rfl (q := 21) rfl ?_
    refine o_getF X2 F_failed (host := "") (Or.inl (w27 hw)) Via.refl d_prog_28_method_2_21 (q := 24) rfl ?_
    intro T3 X3
    have hn1 := own_n1 (h_n_ ▸ hlo) hc13
    obtain ⟨fF, iF, rF⟩ := IsV.l2dR f
    obtain ⟨d4, hd4⟩ : ∃ z : UInt64, FP.l2d f = z := ⟨_, rfl⟩
    have iv4 : IsV d4 fF := hd4 ▸ iF
    refine o_l2d X3 d_prog_28_method_2_24 hd4 (q := 25) rfl ?_
    refine o_lloadN X3 d_prog_28_method_2_25 rfl (q := 26) rfl ?_
    obtain ⟨cc, iN, rN⟩ := IsV.l2dR n_
    obtain ⟨d5, hd5⟩ : ∃ z : UInt64, FP.l2d n_ = z := ⟨_, rfl⟩
    have iv5 : IsV d5 cc := hd5 ▸ iN
    refine o_l2d X3 d_prog_28_method_2_26 hd5 (q := 27) rfl ?_
    have c1 : 1 ≤ cc := rN.dn own_R1 (by exact_mod_cast hn1.1)
    have F0 : 0 ≤ fF := rF.dn Rep.zero (by exact_mod_cast hlo.1)
    have F2 : fF ≤ 9223372036854775808 := rF.up own_R63 (Rat.intCast_le_intCast.mpr (by have := f.toInt_lt; omega : f.toInt ≤ (9223372036854775808 : Int)))
    have cp : 0 < cc := by grind
    obtain ⟨vv, iV, rV⟩ := IsV.divR iv4 iv5 (by grind) (own_sml (own_dge cp (by grind))) (own_big (own_dle cp (by grind)))
    obtain ⟨d6, hd6⟩ : ∃ z : UInt64, FP.ddiv d4 d5 = z := ⟨_, rfl⟩
    have iv6 : IsV d6 vv := hd6 ▸ iV
    refine o_ddiv X3 d_prog_28_method_2_27 (hd6.symm ▸ iv6.nn) hd6 (q := 28) rfl ?_
    exact o_retD X3 d_prog_28_method_2_28 ⟨d6, vv, rfl, iv6, h_n_ ▸ Or.inr ⟨own_nz hc13, fF, cc, iF, rF, iN, rN, rV⟩, rfl⟩ (by decide) (by decide)
set_option maxRecDepth 65536 in
set_option maxHeartbeats 40000000 in
theorem c_law {l : Launch} {Z : State} {a0 : Array Value} (hw : W a0 Z) (p0 : Int32) (p1 p2 p3 : Int64) (p4 : Int32)  :
    Con l Z x code maxLocals ret room_1 #[(.int p0), (.long p1), (.long p2), (.long p3), (.int p4)] Z.heap (fun v h' => v = some (.int 1)) := by
  have hpn : plainName "com/example/tolerant_workflows/tolerantworkflows/healing/FailureDegreeValuePinLaw" = true := by first | (simp [plainName, overriddenIn]; done) | decide +kernel
  refine Con.intro (plainFor_of_name hpn) ?_
  intro p e s m below meth c T X
  refine Goes.cast (g' := mkF m 0 #[.val (.int p0), .val (.long p1), .second, .val (.long p2), .second, .val (.long p3), .second, .val (.int p4), .unset, .unset, .unset, .unset, .unset, .unset, .unset, .unset, .unset, .unset, .unset, .unset, .unset, .unset, .unset, .unset, .unset, .unset, .unset, .unset, .unset, .unset, .unset, .unset] []) (by first | (simp [entryFrame, mkF, argsToLocals, Value.category, maxLocals]; done) | rfl) ?_
  refine o_iload X at_0 rfl (q := 2) rfl ?_
  refine o_iconst X at_2 (w := 1) rfl (q := 3) rfl ?_
  refine o_iand X at_3 (w := (p4 &&& (1 : Int32))) rfl (q := 4) rfl ?_
  by_cases hc4 : (p4 &&& (1 : Int32)) = (0 : Int32)
  · refine o_ifY X at_4 (teq hc4).1 (by decide) (q := 11) (by decide) ?_
    refine o_iconst X at_11 (w := 0) rfl (q := 12) rfl ?_
    refine o_istore X at_12 rfl (L' := #[.val (.int p0), .val (.long p1), .second, .val (.long p2), .second, .val (.long p3), .second, .val (.int p4), .val (.int (0 : Int32)), .unset, .unset, .unset, .unset, .unset, .unset, .unset, .unset, .unset, .unset, .unset, .unset, .unset, .unset, .unset, .unset, .unset, .unset, .unset, .unset, .unset, .unset, .unset]) rfl (q := 14) rfl ?_
    refine o_iload X at_14 rfl (q := 16) rfl ?_
    refine o_ifY X at_16 (by decide) (by decide) (q := 25) (by decide) ?_
    refine o_ldcJ X (w39 hw) at_25 (q := 28) rfl ?_
    refine o_lstore X at_28 rfl (L' := #[.val (.int p0), .val (.long p1), .second, .val (.long p2), .second, .val (.long p3), .second, .val (.int p4), .val (.int (0 : Int32)), .val (.long (4611686018427387903 : Int64)), .second, .unset, .unset, .unset, .unset, .unset, .unset, .unset, .unset, .unset, .unset, .unset, .unset, .unset, .unset, .unset, .unset, .unset, .unset, .unset, .unset, .unset]) rfl (q := 30) rfl ?_
    refine o_lloadN X at_30 rfl (q := 31) rfl ?_
    refine o_lload X at_31 rfl (q := 33) rfl ?_
    refine o_land X at_33 (w := (p1 &&& (4611686018427387903 : Int64))) rfl (q := 34) rfl ?_
    obtain ⟨aa, h_aa⟩ : ∃ z : Int64, (p1 &&& (4611686018427387903 : Int64)) = z := ⟨_, rfl⟩
    refine o_lstore X at_34 h_aa (L' := #[.val (.int p0), .val (.long p1), .second, .val (.long p2), .second, .val (.long p3), .second, .val (.int p4), .val (.int (0 : Int32)), .val (.long (4611686018427387903 : Int64)), .second, .val (.long aa), .second, .unset, .unset, .unset, .unset, .unset, .unset, .unset, .unset, .unset, .unset, .unset, .unset, .unset, .unset, .unset, .unset, .unset, .unset, .unset]) rfl (q := 36) rfl ?_
    refine o_lloadN X at_36 rfl (q := 37) rfl ?_
    refine o_lload X at_37 rfl (q := 39) rfl ?_
    refine o_land X at_39 (w := (p2 &&& (4611686018427387903 : Int64))) rfl (q := 40) rfl ?_
    obtain ⟨bb, h_bb⟩ : ∃ z : Int64, (p2 &&& (4611686018427387903 : Int64)) = z := ⟨_, rfl⟩
    refine o_lstore X at_40 h_bb (L' := #[.val (.int p0), .val (.long p1), .second, .val (.long p2), .second, .val (.long p3), .second, .val (.int p4), .val (.int (0 : Int32)), .val (.long (4611686018427387903 : Int64)), .second, .val (.long aa), .second, .val (.long bb), .second, .unset, .unset, .unset, .unset, .unset, .unset, .unset, .unset, .unset, .unset, .unset, .unset, .unset, .unset, .unset, .unset, .unset]) rfl (q := 42) rfl ?_
    refine o_lload X at_42 rfl (q := 44) rfl ?_
    refine o_lload X at_44 rfl (q := 46) rfl ?_
    refine o_land X at_46 (w := (p3 &&& (4611686018427387903 : Int64))) rfl (q := 47) rfl ?_
    obtain ⟨ru, h_ru⟩ : ∃ z : Int64, (p3 &&& (4611686018427387903 : Int64)) = z := ⟨_, rfl⟩
    refine o_lstore X at_47 h_ru (L' := #[.val (.int p0), .val (.long p1), .second, .val (.long p2), .second, .val (.long p3), .second, .val (.int p4), .val (.int (0 : Int32)), .val (.long (4611686018427387903 : Int64)), .second, .val (.long aa), .second, .val (.long bb), .second, .val (.long ru), .second, .unset, .unset, .unset, .unset, .unset, .unset, .unset, .unset, .unset, .unset, .unset, .unset, .unset, .unset, .unset]) rfl (q := 49) rfl ?_
    refine o_lload X at_49 rfl (q := 51) rfl ?_
    refine o_lload X at_51 rfl (q := 53) rfl ?_
    refine o_stat X [(.long aa), (.long bb)] (y' := (⟨"java/lang/Math", "min", "(JJ)J"⟩ : MethodName)) (c_minJ hw aa bb _) (w1 hw) (w2 hw) (w3 hw) (w4 hw) (by decide) at_53 (rest := []) rfl rfl (lenOf pd1 rfl) rfl (by decide) (Nat.le_of_ble_eq_true rfl) (by decide) (by decide) (q := 56) rfl ?_
    intro v1 T1 h1 l1 X1 q1
    obtain ⟨rfl, e1⟩ := q1
    have e1 := e1.symm
    subst e1
    show Goes p e below _ T1 (mkF m 56 #[.val (.int p0), .val (.long p1), .second, .val (.long p2), .second, .val (.long p3), .second, .val (.int p4), .val (.int (0 : Int32)), .val (.long (4611686018427387903 : Int64)), .second, .val (.long aa), .second, .val (.long bb), .second, .val (.long ru), .second, .unset, .unset, .unset, .unset, .unset, .unset, .unset, .unset, .unset, .unset, .unset, .unset, .unset, .unset, .unset] [(.long (if bb < aa then bb else aa))])
    obtain ⟨fl, h_fl⟩ : ∃ z : Int64, (if bb < aa then bb else aa) = z := ⟨_, rfl⟩
    refine o_lstore X1 at_56 h_fl (L' := #[.val (.int p0), .val (.long p1), .second, .val (.long p2), .second, .val (.long p3), .second, .val (.int p4), .val (.int (0 : Int32)), .val (.long (4611686018427387903 : Int64)), .second, .val (.long aa), .second, .val (.long bb), .second, .val (.long ru), .second, .val (.long fl), .second, .unset, .unset, .unset, .unset, .unset, .unset, .unset, .unset, .unset, .unset, .unset, .unset, .unset]) rfl (q := 58) rfl ?_
    refine o_lload X1 at_58 rfl (q := 60) rfl ?_
    refine o_lload X1 at_60 rfl (q := 62) rfl ?_
    refine o_stat X1 [(.long aa), (.long bb)] (y' := (⟨"java/lang/Math", "max", "(JJ)J"⟩ : MethodName)) (c_maxJ hw aa bb _) (w5 hw) (w6 hw) (w3 hw) (w7 hw) (by decide) at_62 (rest := []) rfl rfl (lenOf pd1 rfl) rfl (by decide) (Nat.le_of_ble_eq_true rfl) (by decide) (by decide) (q := 65) rfl ?_
    intro v2 T2 h2 l2 X2 q2
    obtain ⟨rfl, e2⟩ := q2
    have e2 := e2.symm
    subst e2
    show Goes p e below _ T2 (mkF m 65 #[.val (.int p0), .val (.long p1), .second, .val (.long p2), .second, .val (.long p3), .second, .val (.int p4), .val (.int (0 : Int32)), .val (.long (4611686018427387903 : Int64)), .second, .val (.long aa), .second, .val (.long bb), .second, .val (.long ru), .second, .val (.long fl), .second, .unset, .unset, .unset, .unset, .unset, .unset, .unset, .unset, .unset, .unset, .unset, .unset, .unset] [(.long (if aa < bb then bb else aa))])
    obtain ⟨en, h_en⟩ : ∃ z : Int64, (if aa < bb then bb else aa) = z := ⟨_, rfl⟩
    refine o_lstore X2 at_65 h_en (L' := #[.val (.int p0), .val (.long p1), .second, .val (.long p2), .second, .val (.long p3), .second, .val (.int p4), .val (.int (0 : Int32)), .val (.long (4611686018427387903 : Int64)), .second, .val (.long aa), .second, .val (.long bb), .second, .val (.long ru), .second, .val (.long fl), .second, .val (.long en), .second, .unset, .unset, .unset, .unset, .unset, .unset, .unset, .unset, .unset, .unset, .unset]) rfl (q := 67) rfl ?_
    refine o_new X2 (w8 hw) (w9 hw) (w10 hw) at_67 (by decide) (by decide) (q := 70) rfl ?_
    intro T3 h3 b3 gb3 X3 E3 A3 D3 g0_b3
    have f4 : Fld Z h3 b3 "com/example/tolerant_workflows/tolerantworkflows/healing/FailureDegree" "level" "I" (.int (0 : Int32)) := D3 (Or.inr (w26 hw)) (ty := .int) (by decide)
    have f5 : Fld Z h3 b3 "com/example/tolerant_workflows/tolerantworkflows/healing/FailureDegree" "failed" "J" (.long (0 : Int64)) := D3 (Or.inr (w28 hw)) (ty := .long) (by decide)
    have f6 : Fld Z h3 b3 "com/example/tolerant_workflows/tolerantworkflows/healing/FailureDegree" "ended" "J" (.long (0 : Int64)) := D3 (Or.inr (w30 hw)) (ty := .long) (by decide)
    have f7 : Fld Z h3 b3 "com/example/tolerant_workflows/tolerantworkflows/healing/FailureDegree" "running" "J" (.long (0 : Int64)) := D3 (Or.inr (w32 hw)) (ty := .long) (by decide)
    refine o_dup X3 at_70 rfl (q := 71) rfl ?_
    refine o_iconst X3 at_71 (w := 1) rfl (q := 72) rfl ?_
    refine o_iloadN X3 at_72 rfl (q := 73) rfl ?_
    refine o_stat X3 [(.int (1 : Int32)), (.int p0)] (y' := (⟨"java/lang/Math", "max", "(II)I"⟩ : MethodName)) (c_maxI hw (1 : Int32) p0 _) (w11 hw) (w12 hw) (w3 hw) (w13 hw) (by decide) at_73 (rest := [(.ref b3), (.ref b3)]) rfl rfl (lenOf pd2 rfl) rfl (by decide) (Nat.le_of_ble_eq_true rfl) (by decide) (by decide) (q := 76) rfl ?_
    intro v8 T8 h8 l8 X8 q8
    obtain ⟨rfl, e8⟩ := q8
    have e8 := e8.symm
    subst e8
    show Goes p e below _ T8 (mkF m 76 #[.val (.int p0), .val (.long p1), .second, .val (.long p2), .second, .val (.long p3), .second, .val (.int p4), .val (.int (0 : Int32)), .val (.long (4611686018427387903 : Int64)), .second, .val (.long aa), .second, .val (.long bb), .second, .val (.long ru), .second, .val (.long fl), .second, .val (.long en), .second, .unset, .unset, .unset, .unset, .unset, .unset, .unset, .unset, .unset, .unset, .unset] [(.int (if (1 : Int32) < p0 then p0 else (1 : Int32))), (.ref b3), (.ref b3)])
    refine o_lload X8 at_76 rfl (q := 78) rfl ?_
    refine o_lload X8 at_78 rfl (q := 80) rfl ?_
    refine o_lload X8 at_80 rfl (q := 82) rfl ?_
    have hlo := (own_lo (M := 4611686018427387904) (by decide) (own_m h_aa (by decide) (k := 62) (by decide)) (own_m h_bb (by decide) (k := 62) (by decide)) (own_m h_ru (by decide) (k := 62) (by decide)) h_fl h_en rfl)
    refine o_spec X8 [(.int (if (1 : Int32) < p0 then p0 else (1 : Int32))), (.long fl), (.long en), (.long ru)] (y' := (⟨"com/example/tolerant_workflows/tolerantworkflows/healing/FailureDegree", "<init>", "(IJJJ)V"⟩ : MethodName)) (c_fd hw b3 (if (1 : Int32) < p0 then p0 else (1 : Int32)) fl en ru (en + ru) _ A3 g0_b3 f4 f5 f6 f7 (own_lv p0) hlo.1) rfl (w14 hw) (w15 hw) (w16 hw) (w10 hw) (by decide) at_82 (rest := [(.ref b3)]) rfl rfl (lenOf pd3 rfl) rfl (by decide) (Nat.le_of_ble_eq_true rfl) (by decide) (by decide) (q := 85) rfl ?_
    intro v9 T9 h9 l9 X9 q9
    obtain ⟨rfl, K9, F09, F19, F29, F39⟩ := q9
    show Goes p e below _ T9 (mkF m 85 #[.val (.int p0), .val (.long p1), .second, .val (.long p2), .second, .val (.long p3), .second, .val (.int p4), .val (.int (0 : Int32)), .val (.long (4611686018427387903 : Int64)), .second, .val (.long aa), .second, .val (.long bb), .second, .val (.long ru), .second, .val (.long fl), .second, .val (.long en), .second, .unset, .unset, .unset, .unset, .unset, .unset, .unset, .unset, .unset, .unset, .unset] [(.ref b3)])
    refine o_astore X9 at_85 rfl (L' := #[.val (.int p0), .val (.long p1), .second, .val (.long p2), .second, .val (.long p3), .second, .val (.int p4), .val (.int (0 : Int32)), .val (.long (4611686018427387903 : Int64)), .second, .val (.long aa), .second, .val (.long bb), .second, .val (.long ru), .second, .val (.long fl), .second, .val (.long en), .second, .val (.ref b3), .unset, .unset, .unset, .unset, .unset, .unset, .unset, .unset, .unset, .unset]) rfl (q := 87) rfl ?_
    refine o_aload X9 at_87 rfl rfl (q := 89) rfl ?_
    have f11 := (A3.keep K9)
    refine o_virt X9 [] (y' := (⟨"com/example/tolerant_workflows/tolerantworkflows/healing/FailureDegree", "value", "()D"⟩ : MethodName)) f11 (c_val hw b3 fl en ru _ F19 F29 F39 hlo.1) (w33 hw) (w34 hw) (w36 hw) (w35 hw) (w37 hw) (w10 hw) (by decide) at_89 (rest := []) rfl rfl (lenOf pd4 rfl) rfl (by decide) (Nat.le_of_ble_eq_true rfl) (by decide) (by decide) (q := 92) rfl ?_
    intro v10 T10 h10 l10 X10 q10
    obtain ⟨d10, vv, rfl, iVV, hVV, e10⟩ := q10
    have e10 := e10.symm
    subst e10
    show Goes p e below _ T10 (mkF m 92 #[.val (.int p0), .val (.long p1), .second, .val (.long p2), .second, .val (.long p3), .second, .val (.int p4), .val (.int (0 : Int32)), .val (.long (4611686018427387903 : Int64)), .second, .val (.long aa), .second, .val (.long bb), .second, .val (.long ru), .second, .val (.long fl), .second, .val (.long en), .second, .val (.ref b3), .unset, .unset, .unset, .unset, .unset, .unset, .unset, .unset, .unset, .unset] [(.double d10)])
    refine o_dstore X10 at_92 rfl (L' := #[.val (.int p0), .val (.long p1), .second, .val (.long p2), .second, .val (.long p3), .second, .val (.int p4), .val (.int (0 : Int32)), .val (.long (4611686018427387903 : Int64)), .second, .val (.long aa), .second, .val (.long bb), .second, .val (.long ru), .second, .val (.long fl), .second, .val (.long en), .second, .val (.ref b3), .val (.double d10), .second, .unset, .unset, .unset, .unset, .unset, .unset, .unset, .unset]) rfl (q := 94) rfl ?_
    refine o_lload X10 at_94 rfl (q := 96) rfl ?_
    refine o_lload X10 at_96 rfl (q := 98) rfl ?_
    refine o_ladd X10 at_98 (w := (en + ru)) rfl (q := 99) rfl ?_
    obtain ⟨ct, h_ct⟩ : ∃ z : Int64, (en + ru) = z := ⟨_, rfl⟩
    refine o_lstore X10 at_99 h_ct (L' := #[.val (.int p0), .val (.long p1), .second, .val (.long p2), .second, .val (.long p3), .second, .val (.int p4), .val (.int (0 : Int32)), .val (.long (4611686018427387903 : Int64)), .second, .val (.long aa), .second, .val (.long bb), .second, .val (.long ru), .second, .val (.long fl), .second, .val (.long en), .second, .val (.ref b3), .val (.double d10), .second, .val (.long ct), .second, .unset, .unset, .unset, .unset, .unset, .unset]) rfl (q := 101) rfl ?_
    refine o_lload X10 at_101 rfl (q := 103) rfl ?_
    refine o_lconst X10 at_103 (w := 0) rfl (q := 104) rfl ?_
    refine o_lcmp X10 at_104 (w := (lcmpW ct (0 : Int64))) rfl (q := 105) rfl ?_
    by_cases hc105 : (lcmpW ct (0 : Int64)) = (0 : Int32)
    · refine o_ifN X10 at_105 (teq hc105).2 (q := 108) rfl ?_
      refine o_dload X10 at_108 rfl (q := 110) rfl ?_
      refine o_dconst0 X10 at_110 (q := 111) rfl ?_
      refine o_dcmp X10 at_111 (w := (cmpR vv (0 : Rat))) (IsV.cmpV iVV IsV.zero _) (q := 112) rfl ?_
      refine o_ifN X10 at_112 (teq ((cmpR_eq _ _).mpr (own_vv0 (h_ct ▸ hVV) hc105))).2 (q := 115) rfl ?_
      refine o_iconst X10 at_115 (w := 1) rfl (q := 116) rfl ?_
      refine o_goto X10 at_116 (by decide) (q := 120) (by decide) ?_
      exact o_retN X10 at_120 (by simp) rfl (by decide) (by decide)
    · refine o_ifY X10 at_105 (feq hc105).2 (by decide) (q := 121) (by decide) ?_
      refine o_dconst0 X10 at_121 (q := 122) rfl ?_
      refine o_dload X10 at_122 rfl (q := 124) rfl ?_
      refine o_dcmp X10 at_124 (w := (cmpR (0 : Rat) vv)) (IsV.cmpV IsV.zero iVV _) (q := 125) rfl ?_
      have hn1 := own_n1 (h_ct ▸ hlo.1) hc105
      obtain ⟨fF, cc, iF, rF, iN, rN, rV⟩ := own_vvN (h_ct ▸ hVV) hc105
      have hS := own_sum hlo.1.1 hn1.2 hn1.1 iF rF iN rN rV
      refine o_ifN X10 at_125 (flt (fun q => absurd ((cmpR_gt _ _).mp q) (Rat.not_lt.mpr hS.v0))).2.2.1 (q := 128) rfl ?_
      refine o_dload X10 at_128 rfl (q := 130) rfl ?_
      refine o_dconst1 X10 at_130 (q := 131) rfl ?_
      refine o_dcmp X10 at_131 (w := (cmpR vv (1 : Rat))) (IsV.cmpV iVV IsV.one _) (q := 132) rfl ?_
      refine o_ifY X10 at_132 (flt (fun q => absurd ((cmpR_gt _ _).mp q) (Rat.not_lt.mpr hS.v1))).2.2.2 (by decide) (q := 137) (by decide) ?_
      refine o_dload X10 at_137 rfl (q := 139) rfl ?_
      refine o_dconst0 X10 at_139 (q := 140) rfl ?_
      refine o_dcmp X10 at_140 (w := (cmpR vv (0 : Rat))) (IsV.cmpV iVV IsV.zero _) (q := 141) rfl ?_
      by_cases hc141 : (cmpR vv (0 : Rat)) = (0 : Int32)
      · refine o_ifN X10 at_141 (teq hc141).2 (q := 144) rfl ?_
        refine o_iconst X10 at_144 (w := 1) rfl (q := 145) rfl ?_
        refine o_goto X10 at_145 (by decide) (q := 149) (by decide) ?_
        refine o_lload X10 at_149 rfl (q := 151) rfl ?_
        refine o_lconst X10 at_151 (w := 0) rfl (q := 152) rfl ?_
        refine o_lcmp X10 at_152 (w := (lcmpW fl (0 : Int64))) rfl (q := 153) rfl ?_
        refine o_ifN X10 at_153 (teq ((lw_eq _ _).mpr (Int64.toInt_inj.mp (Classical.byContradiction fun q => by have h1 := hS.z2 (fun z => q (z.trans own_l0.symm)); have h2 := (cmpR_eq _ _).mp hc141; rw [h2] at h1; exact absurd h1 (by decide +kernel))))).2 (q := 156) rfl ?_
        refine o_iconst X10 at_156 (w := 1) rfl (q := 157) rfl ?_
        refine o_goto X10 at_157 (by decide) (q := 161) (by decide) ?_
        refine o_icmpY X10 at_161 (by decide) (by decide) (q := 166) (by decide) ?_
        refine o_lload X10 at_166 rfl (q := 168) rfl ?_
        refine o_lload X10 at_168 rfl (q := 170) rfl ?_
        refine o_lcmp X10 at_170 (w := (lcmpW fl ct)) rfl (q := 171) rfl ?_
        by_cases hc171 : (lcmpW fl ct) = (0 : Int32)
        · refine o_ifN X10 at_171 (teq hc171).2 (q := 174) rfl ?_
          refine o_dload X10 at_174 rfl (q := 176) rfl ?_
          refine o_dconst1 X10 at_176 (q := 177) rfl ?_
          refine o_dcmp X10 at_177 (w := (cmpR vv (1 : Rat))) (IsV.cmpV iVV IsV.one _) (q := 178) rfl ?_
          refine o_ifY X10 at_178 (teq ((cmpR_eq _ _).mpr (hS.e1 (by rw [(lw_eq _ _).mp hc171])))).1 (by decide) (q := 183) (by decide) ?_
          refine o_iload X10 at_183 rfl (q := 185) rfl ?_
          refine o_ifY X10 at_185 (by decide) (by decide) (q := 205) (by decide) ?_
          refine o_lload X10 at_205 rfl (q := 207) rfl ?_
          obtain ⟨d12, hd12⟩ : ∃ z : UInt64, FP.l2d ct = z := ⟨_, rfl⟩
          have iv12 : IsV d12 cc := hd12 ▸ iN
          refine o_l2d X10 at_207 hd12 (q := 208) rfl ?_
          refine o_dstore X10 at_208 rfl (L' := #[.val (.int p0), .val (.long p1), .second, .val (.long p2), .second, .val (.long p3), .second, .val (.int p4), .val (.int (0 : Int32)), .val (.long (4611686018427387903 : Int64)), .second, .val (.long aa), .second, .val (.long bb), .second, .val (.long ru), .second, .val (.long fl), .second, .val (.long en), .second, .val (.ref b3), .val (.double d10), .second, .val (.long ct), .second, .val (.double d12), .second, .unset, .unset, .unset, .unset]) rfl (q := 210) rfl ?_
          refine o_dload X10 at_210 rfl (q := 212) rfl ?_
          refine o_dload X10 at_212 rfl (q := 214) rfl ?_
          have hb1 := own_bp hS.v0 hS.v1 hS.c1 hS.c2
          obtain ⟨pp, iP, rP⟩ := IsV.mulR iVV iv12 (own_sml (by grind)) (own_big (by grind))
          obtain ⟨d13, hd13⟩ : ∃ z : UInt64, FP.dmul d10 d12 = z := ⟨_, rfl⟩
          have iv13 : IsV d13 pp := hd13 ▸ iP
          refine o_dmul X10 at_214 (hd13.symm ▸ iv13.nn) hd13 (q := 215) rfl ?_
          refine o_lload X10 at_215 rfl (q := 217) rfl ?_
          obtain ⟨d14, hd14⟩ : ∃ z : UInt64, FP.l2d fl = z := ⟨_, rfl⟩
          have iv14 : IsV d14 fF := hd14 ▸ iF
          refine o_l2d X10 at_217 hd14 (q := 218) rfl ?_
          have hp0 : 0 ≤ pp := rP.dn Rep.zero hb1.1
          have hp1 : pp ≤ 9223372036854775808 := rP.up own_R63 hb1.2
          have hF0 := hS.F0
          have hF2 : fF ≤ 9223372036854775808 := by have := hS.Fc; have := hS.c2; grind
          obtain ⟨xx, iX, rX⟩ := IsV.subR iv13 iv14 (own_sml (by grind)) (own_big (by grind))
          obtain ⟨d15, hd15⟩ : ∃ z : UInt64, FP.dsub d13 d14 = z := ⟨_, rfl⟩
          have iv15 : IsV d15 xx := hd15 ▸ iX
          refine o_dsub X10 at_218 (hd15.symm ▸ iv15.nn) hd15 (q := 219) rfl ?_
          refine o_dstore X10 at_219 rfl (L' := #[.val (.int p0), .val (.long p1), .second, .val (.long p2), .second, .val (.long p3), .second, .val (.int p4), .val (.int (0 : Int32)), .val (.long (4611686018427387903 : Int64)), .second, .val (.long aa), .second, .val (.long bb), .second, .val (.long ru), .second, .val (.long fl), .second, .val (.long en), .second, .val (.ref b3), .val (.double d10), .second, .val (.long ct), .second, .val (.double d12), .second, .val (.double d15), .second, .unset, .unset]) rfl (q := 221) rfl ?_
          refine o_dload X10 at_221 rfl (q := 223) rfl ?_
          have iv16 : IsV (4382569440205035030 : UInt64) ((2535301200456459 : Rat) / 2535301200456458802993406410752) := ⟨false, 5070602400912918, (-102), by decide +kernel, by decide +kernel⟩
          refine o_ldcD X10 (w38 hw) at_223 (q := 226) rfl ?_
          obtain ⟨kk, hkk⟩ : ∃ k : Rat, ((2535301200456459 : Rat) / 2535301200456458802993406410752) = k := ⟨_, rfl⟩
          have hk8 : 8 / 9007199254740992 ≤ kk := by rw [← hkk]; decide +kernel
          have hk1 : kk ≤ 1 := by rw [← hkk]; decide +kernel
          have hkc := own_bp (vv := kk) (by grind) hk1 hS.c1 hS.c2
          have hkc2 : 8 / 9007199254740992 ≤ cc * kk := by have := Rat.mul_le_mul_of_nonneg_right hS.c1 (show 0 ≤ kk by grind); grind
          obtain ⟨tt, iT, rT⟩ := IsV.mulR (y := kk) iv12 (hkk ▸ iv16) (own_sml (by grind)) (own_big (by grind))
          have hT := rT.2.2 (own_tiny (by grind))
          have hxT : pp - fF ≤ tt ∧ -tt ≤ pp - fF := by
            by_cases hf0 : fl.toInt = 0
            · have hv := hS.z1 hf0
              have hp : pp ≤ 0 := rP.up Rep.zero (by rw [hv, Rat.zero_mul]; grind)
              have hfF : fF ≤ 0 := rF.up Rep.zero (by rw [hf0]; decide +kernel)
              have ht : 0 ≤ tt := rT.dn Rep.zero (by grind)
              constructor <;> grind
            · have hv := hS.z2 hf0
              have h1 := rV.2.2 (own_tiny (own_dge (by have := hS.c1; grind) (by have := hS.F1 hf0; have := hS.c2; grind)))
              have h3 := rP.2.2 (own_tiny (by have := Rat.mul_le_mul_of_nonneg_left hS.c1 hS.v0; grind))
              exact own_tol hS.c1 hS.F0 hS.Fc h1.1 h1.2 h3.1 h3.2 hT.2 hk8
          have hxa : xx ≤ tt := rX.up rT.1 hxT.1
          have hxb : -tt ≤ xx := rX.dn rT.1.neg hxT.2
          obtain ⟨d17, hd17⟩ : ∃ z : UInt64, FP.dmul d12 (4382569440205035030 : UInt64) = z := ⟨_, rfl⟩
          have iv17 : IsV d17 tt := hd17 ▸ iT
          refine o_dmul X10 at_226 (hd17.symm ▸ iv17.nn) hd17 (q := 227) rfl ?_
          refine o_dstore X10 at_227 rfl (L' := #[.val (.int p0), .val (.long p1), .second, .val (.long p2), .second, .val (.long p3), .second, .val (.int p4), .val (.int (0 : Int32)), .val (.long (4611686018427387903 : Int64)), .second, .val (.long aa), .second, .val (.long bb), .second, .val (.long ru), .second, .val (.long fl), .second, .val (.long en), .second, .val (.ref b3), .val (.double d10), .second, .val (.long ct), .second, .val (.double d12), .second, .val (.double d15), .second, .val (.double d17), .second]) rfl (q := 229) rfl ?_
          refine o_dload X10 at_229 rfl (q := 231) rfl ?_
          refine o_dload X10 at_231 rfl (q := 233) rfl ?_
          refine o_dcmp X10 at_233 (w := (cmpR xx tt)) (IsV.cmpV iv15 iv17 _) (q := 234) rfl ?_
          refine o_ifN X10 at_234 (flt (fun q => absurd ((cmpR_gt _ _).mp q) (Rat.not_lt.mpr hxa))).2.2.1 (q := 237) rfl ?_
          refine o_dload X10 at_237 rfl (q := 239) rfl ?_
          obtain ⟨d18, hd18⟩ : ∃ z : UInt64, FP.dneg d15 = z := ⟨_, rfl⟩
          have iv18 : IsV d18 (-xx) := hd18 ▸ IsV.fneg iv15
          refine o_dneg X10 at_239 hd18 (q := 240) rfl ?_
          refine o_dload X10 at_240 rfl (q := 242) rfl ?_
          refine o_dcmp X10 at_242 (w := (cmpR (-xx) tt)) (IsV.cmpV iv18 iv17 _) (q := 243) rfl ?_
          refine o_ifN X10 at_243 (flt (fun q => absurd ((cmpR_gt _ _).mp q) (Rat.not_lt.mpr (by grind)))).2.2.1 (q := 246) rfl ?_
          refine o_iconst X10 at_246 (w := 1) rfl (q := 247) rfl ?_
          refine o_goto X10 at_247 (by decide) (q := 251) (by decide) ?_
          exact o_retN X10 at_251 (by simp) rfl (by decide) (by decide)
        · refine o_ifY X10 at_171 (feq hc171).2 (by decide) (q := 183) (by decide) ?_
          refine o_iload X10 at_183 rfl (q := 185) rfl ?_
          refine o_ifY X10 at_185 (by decide) (by decide) (q := 205) (by decide) ?_
          refine o_lload X10 at_205 rfl (q := 207) rfl ?_
          obtain ⟨d19, hd19⟩ : ∃ z : UInt64, FP.l2d ct = z := ⟨_, rfl⟩
          have iv19 : IsV d19 cc := hd19 ▸ iN
          refine o_l2d X10 at_207 hd19 (q := 208) rfl ?_
          refine o_dstore X10 at_208 rfl (L' := #[.val (.int p0), .val (.long p1), .second, .val (.long p2), .second, .val (.long p3), .second, .val (.int p4), .val (.int (0 : Int32)), .val (.long (4611686018427387903 : Int64)), .second, .val (.long aa), .second, .val (.long bb), .second, .val (.long ru), .second, .val (.long fl), .second, .val (.long en), .second, .val (.ref b3), .val (.double d10), .second, .val (.long ct), .second, .val (.double d19), .second, .unset, .unset, .unset, .unset]) rfl (q := 210) rfl ?_
          refine o_dload X10 at_210 rfl (q := 212) rfl ?_
          refine o_dload X10 at_212 rfl (q := 214) rfl ?_
          have hb1 := own_bp hS.v0 hS.v1 hS.c1 hS.c2
          obtain ⟨pp, iP, rP⟩ := IsV.mulR iVV iv19 (own_sml (by grind)) (own_big (by grind))
          obtain ⟨d20, hd20⟩ : ∃ z : UInt64, FP.dmul d10 d19 = z := ⟨_, rfl⟩
          have iv20 : IsV d20 pp := hd20 ▸ iP
          refine o_dmul X10 at_214 (hd20.symm ▸ iv20.nn) hd20 (q := 215) rfl ?_
          refine o_lload X10 at_215 rfl (q := 217) rfl ?_
          obtain ⟨d21, hd21⟩ : ∃ z : UInt64, FP.l2d fl = z := ⟨_, rfl⟩
          have iv21 : IsV d21 fF := hd21 ▸ iF
          refine o_l2d X10 at_217 hd21 (q := 218) rfl ?_
          have hp0 : 0 ≤ pp := rP.dn Rep.zero hb1.1
          have hp1 : pp ≤ 9223372036854775808 := rP.up own_R63 hb1.2
          have hF0 := hS.F0
          have hF2 : fF ≤ 9223372036854775808 := by have := hS.Fc; have := hS.c2; grind
          obtain ⟨xx, iX, rX⟩ := IsV.subR iv20 iv21 (own_sml (by grind)) (own_big (by grind))
          obtain ⟨d22, hd22⟩ : ∃ z : UInt64, FP.dsub d20 d21 = z := ⟨_, rfl⟩
          have iv22 : IsV d22 xx := hd22 ▸ iX
          refine o_dsub X10 at_218 (hd22.symm ▸ iv22.nn) hd22 (q := 219) rfl ?_
          refine o_dstore X10 at_219 rfl (L' := #[.val (.int p0), .val (.long p1), .second, .val (.long p2), .second, .val (.long p3), .second, .val (.int p4), .val (.int (0 : Int32)), .val (.long (4611686018427387903 : Int64)), .second, .val (.long aa), .second, .val (.long bb), .second, .val (.long ru), .second, .val (.long fl), .second, .val (.long en), .second, .val (.ref b3), .val (.double d10), .second, .val (.long ct), .second, .val (.double d19), .second, .val (.double d22), .second, .unset, .unset]) rfl (q := 221) rfl ?_
          refine o_dload X10 at_221 rfl (q := 223) rfl ?_
          have iv23 : IsV (4382569440205035030 : UInt64) ((2535301200456459 : Rat) / 2535301200456458802993406410752) := ⟨false, 5070602400912918, (-102), by decide +kernel, by decide +kernel⟩
          refine o_ldcD X10 (w38 hw) at_223 (q := 226) rfl ?_
          obtain ⟨kk, hkk⟩ : ∃ k : Rat, ((2535301200456459 : Rat) / 2535301200456458802993406410752) = k := ⟨_, rfl⟩
          have hk8 : 8 / 9007199254740992 ≤ kk := by rw [← hkk]; decide +kernel
          have hk1 : kk ≤ 1 := by rw [← hkk]; decide +kernel
          have hkc := own_bp (vv := kk) (by grind) hk1 hS.c1 hS.c2
          have hkc2 : 8 / 9007199254740992 ≤ cc * kk := by have := Rat.mul_le_mul_of_nonneg_right hS.c1 (show 0 ≤ kk by grind); grind
          obtain ⟨tt, iT, rT⟩ := IsV.mulR (y := kk) iv19 (hkk ▸ iv23) (own_sml (by grind)) (own_big (by grind))
          have hT := rT.2.2 (own_tiny (by grind))
          have hxT : pp - fF ≤ tt ∧ -tt ≤ pp - fF := by
            by_cases hf0 : fl.toInt = 0
            · have hv := hS.z1 hf0
              have hp : pp ≤ 0 := rP.up Rep.zero (by rw [hv, Rat.zero_mul]; grind)
              have hfF : fF ≤ 0 := rF.up Rep.zero (by rw [hf0]; decide +kernel)
              have ht : 0 ≤ tt := rT.dn Rep.zero (by grind)
              constructor <;> grind
            · have hv := hS.z2 hf0
              have h1 := rV.2.2 (own_tiny (own_dge (by have := hS.c1; grind) (by have := hS.F1 hf0; have := hS.c2; grind)))
              have h3 := rP.2.2 (own_tiny (by have := Rat.mul_le_mul_of_nonneg_left hS.c1 hS.v0; grind))
              exact own_tol hS.c1 hS.F0 hS.Fc h1.1 h1.2 h3.1 h3.2 hT.2 hk8
          have hxa : xx ≤ tt := rX.up rT.1 hxT.1
          have hxb : -tt ≤ xx := rX.dn rT.1.neg hxT.2
          obtain ⟨d24, hd24⟩ : ∃ z : UInt64, FP.dmul d19 (4382569440205035030 : UInt64) = z := ⟨_, rfl⟩
          have iv24 : IsV d24 tt := hd24 ▸ iT
          refine o_dmul X10 at_226 (hd24.symm ▸ iv24.nn) hd24 (q := 227) rfl ?_
          refine o_dstore X10 at_227 rfl (L' := #[.val (.int p0), .val (.long p1), .second, .val (.long p2), .second, .val (.long p3), .second, .val (.int p4), .val (.int (0 : Int32)), .val (.long (4611686018427387903 : Int64)), .second, .val (.long aa), .second, .val (.long bb), .second, .val (.long ru), .second, .val (.long fl), .second, .val (.long en), .second, .val (.ref b3), .val (.double d10), .second, .val (.long ct), .second, .val (.double d19), .second, .val (.double d22), .second, .val (.double d24), .second]) rfl (q := 229) rfl ?_
          refine o_dload X10 at_229 rfl (q := 231) rfl ?_
          refine o_dload X10 at_231 rfl (q := 233) rfl ?_
          refine o_dcmp X10 at_233 (w := (cmpR xx tt)) (IsV.cmpV iv22 iv24 _) (q := 234) rfl ?_
          refine o_ifN X10 at_234 (flt (fun q => absurd ((cmpR_gt _ _).mp q) (Rat.not_lt.mpr hxa))).2.2.1 (q := 237) rfl ?_
          refine o_dload X10 at_237 rfl (q := 239) rfl ?_
          obtain ⟨d25, hd25⟩ : ∃ z : UInt64, FP.dneg d22 = z := ⟨_, rfl⟩
          have iv25 : IsV d25 (-xx) := hd25 ▸ IsV.fneg iv22
          refine o_dneg X10 at_239 hd25 (q := 240) rfl ?_
          refine o_dload X10 at_240 rfl (q := 242) rfl ?_
          refine o_dcmp X10 at_242 (w := (cmpR (-xx) tt)) (IsV.cmpV iv25 iv24 _) (q := 243) rfl ?_
          refine o_ifN X10 at_243 (flt (fun q => absurd ((cmpR_gt _ _).mp q) (Rat.not_lt.mpr (by grind)))).2.2.1 (q := 246) rfl ?_
          refine o_iconst X10 at_246 (w := 1) rfl (q := 247) rfl ?_
          refine o_goto X10 at_247 (by decide) (q := 251) (by decide) ?_
          exact o_retN X10 at_251 (by simp) rfl (by decide) (by decide)
      · refine o_ifY X10 at_141 (feq hc141).2 (by decide) (q := 148) (by decide) ?_
        refine o_iconst X10 at_148 (w := 0) rfl (q := 149) rfl ?_
        refine o_lload X10 at_149 rfl (q := 151) rfl ?_
        refine o_lconst X10 at_151 (w := 0) rfl (q := 152) rfl ?_
        refine o_lcmp X10 at_152 (w := (lcmpW fl (0 : Int64))) rfl (q := 153) rfl ?_
        refine o_ifY X10 at_153 (feq (fun q => hc141 ((cmpR_eq _ _).mpr (hS.z1 (by rw [(lw_eq _ _).mp q]; rfl))))).2 (by decide) (q := 160) (by decide) ?_
        refine o_iconst X10 at_160 (w := 0) rfl (q := 161) rfl ?_
        refine o_icmpY X10 at_161 (by decide) (by decide) (q := 166) (by decide) ?_
        refine o_lload X10 at_166 rfl (q := 168) rfl ?_
        refine o_lload X10 at_168 rfl (q := 170) rfl ?_
        refine o_lcmp X10 at_170 (w := (lcmpW fl ct)) rfl (q := 171) rfl ?_
        by_cases hc171 : (lcmpW fl ct) = (0 : Int32)
        · refine o_ifN X10 at_171 (teq hc171).2 (q := 174) rfl ?_
          refine o_dload X10 at_174 rfl (q := 176) rfl ?_
          refine o_dconst1 X10 at_176 (q := 177) rfl ?_
          refine o_dcmp X10 at_177 (w := (cmpR vv (1 : Rat))) (IsV.cmpV iVV IsV.one _) (q := 178) rfl ?_
          refine o_ifY X10 at_178 (teq ((cmpR_eq _ _).mpr (hS.e1 (by rw [(lw_eq _ _).mp hc171])))).1 (by decide) (q := 183) (by decide) ?_
          refine o_iload X10 at_183 rfl (q := 185) rfl ?_
          refine o_ifY X10 at_185 (by decide) (by decide) (q := 205) (by decide) ?_
          refine o_lload X10 at_205 rfl (q := 207) rfl ?_
          obtain ⟨d26, hd26⟩ : ∃ z : UInt64, FP.l2d ct = z := ⟨_, rfl⟩
          have iv26 : IsV d26 cc := hd26 ▸ iN
          refine o_l2d X10 at_207 hd26 (q := 208) rfl ?_
          refine o_dstore X10 at_208 rfl (L' := #[.val (.int p0), .val (.long p1), .second, .val (.long p2), .second, .val (.long p3), .second, .val (.int p4), .val (.int (0 : Int32)), .val (.long (4611686018427387903 : Int64)), .second, .val (.long aa), .second, .val (.long bb), .second, .val (.long ru), .second, .val (.long fl), .second, .val (.long en), .second, .val (.ref b3), .val (.double d10), .second, .val (.long ct), .second, .val (.double d26), .second, .unset, .unset, .unset, .unset]) rfl (q := 210) rfl ?_
          refine o_dload X10 at_210 rfl (q := 212) rfl ?_
          refine o_dload X10 at_212 rfl (q := 214) rfl ?_
          have hb1 := own_bp hS.v0 hS.v1 hS.c1 hS.c2
          obtain ⟨pp, iP, rP⟩ := IsV.mulR iVV iv26 (own_sml (by grind)) (own_big (by grind))
          obtain ⟨d27, hd27⟩ : ∃ z : UInt64, FP.dmul d10 d26 = z := ⟨_, rfl⟩
          have iv27 : IsV d27 pp := hd27 ▸ iP
          refine o_dmul X10 at_214 (hd27.symm ▸ iv27.nn) hd27 (q := 215) rfl ?_
          refine o_lload X10 at_215 rfl (q := 217) rfl ?_
          obtain ⟨d28, hd28⟩ : ∃ z : UInt64, FP.l2d fl = z := ⟨_, rfl⟩
          have iv28 : IsV d28 fF := hd28 ▸ iF
          refine o_l2d X10 at_217 hd28 (q := 218) rfl ?_
          have hp0 : 0 ≤ pp := rP.dn Rep.zero hb1.1
          have hp1 : pp ≤ 9223372036854775808 := rP.up own_R63 hb1.2
          have hF0 := hS.F0
          have hF2 : fF ≤ 9223372036854775808 := by have := hS.Fc; have := hS.c2; grind
          obtain ⟨xx, iX, rX⟩ := IsV.subR iv27 iv28 (own_sml (by grind)) (own_big (by grind))
          obtain ⟨d29, hd29⟩ : ∃ z : UInt64, FP.dsub d27 d28 = z := ⟨_, rfl⟩
          have iv29 : IsV d29 xx := hd29 ▸ iX
          refine o_dsub X10 at_218 (hd29.symm ▸ iv29.nn) hd29 (q := 219) rfl ?_
          refine o_dstore X10 at_219 rfl (L' := #[.val (.int p0), .val (.long p1), .second, .val (.long p2), .second, .val (.long p3), .second, .val (.int p4), .val (.int (0 : Int32)), .val (.long (4611686018427387903 : Int64)), .second, .val (.long aa), .second, .val (.long bb), .second, .val (.long ru), .second, .val (.long fl), .second, .val (.long en), .second, .val (.ref b3), .val (.double d10), .second, .val (.long ct), .second, .val (.double d26), .second, .val (.double d29), .second, .unset, .unset]) rfl (q := 221) rfl ?_
          refine o_dload X10 at_221 rfl (q := 223) rfl ?_
          have iv30 : IsV (4382569440205035030 : UInt64) ((2535301200456459 : Rat) / 2535301200456458802993406410752) := ⟨false, 5070602400912918, (-102), by decide +kernel, by decide +kernel⟩
          refine o_ldcD X10 (w38 hw) at_223 (q := 226) rfl ?_
          obtain ⟨kk, hkk⟩ : ∃ k : Rat, ((2535301200456459 : Rat) / 2535301200456458802993406410752) = k := ⟨_, rfl⟩
          have hk8 : 8 / 9007199254740992 ≤ kk := by rw [← hkk]; decide +kernel
          have hk1 : kk ≤ 1 := by rw [← hkk]; decide +kernel
          have hkc := own_bp (vv := kk) (by grind) hk1 hS.c1 hS.c2
          have hkc2 : 8 / 9007199254740992 ≤ cc * kk := by have := Rat.mul_le_mul_of_nonneg_right hS.c1 (show 0 ≤ kk by grind); grind
          obtain ⟨tt, iT, rT⟩ := IsV.mulR (y := kk) iv26 (hkk ▸ iv30) (own_sml (by grind)) (own_big (by grind))
          have hT := rT.2.2 (own_tiny (by grind))
          have hxT : pp - fF ≤ tt ∧ -tt ≤ pp - fF := by
            by_cases hf0 : fl.toInt = 0
            · have hv := hS.z1 hf0
              have hp : pp ≤ 0 := rP.up Rep.zero (by rw [hv, Rat.zero_mul]; grind)
              have hfF : fF ≤ 0 := rF.up Rep.zero (by rw [hf0]; decide +kernel)
              have ht : 0 ≤ tt := rT.dn Rep.zero (by grind)
              constructor <;> grind
            · have hv := hS.z2 hf0
              have h1 := rV.2.2 (own_tiny (own_dge (by have := hS.c1; grind) (by have := hS.F1 hf0; have := hS.c2; grind)))
              have h3 := rP.2.2 (own_tiny (by have := Rat.mul_le_mul_of_nonneg_left hS.c1 hS.v0; grind))
              exact own_tol hS.c1 hS.F0 hS.Fc h1.1 h1.2 h3.1 h3.2 hT.2 hk8
          have hxa : xx ≤ tt := rX.up rT.1 hxT.1
          have hxb : -tt ≤ xx := rX.dn rT.1.neg hxT.2
          obtain ⟨d31, hd31⟩ : ∃ z : UInt64, FP.dmul d26 (4382569440205035030 : UInt64) = z := ⟨_, rfl⟩
          have iv31 : IsV d31 tt := hd31 ▸ iT
          refine o_dmul X10 at_226 (hd31.symm ▸ iv31.nn) hd31 (q := 227) rfl ?_
          refine o_dstore X10 at_227 rfl (L' := #[.val (.int p0), .val (.long p1), .second, .val (.long p2), .second, .val (.long p3), .second, .val (.int p4), .val (.int (0 : Int32)), .val (.long (4611686018427387903 : Int64)), .second, .val (.long aa), .second, .val (.long bb), .second, .val (.long ru), .second, .val (.long fl), .second, .val (.long en), .second, .val (.ref b3), .val (.double d10), .second, .val (.long ct), .second, .val (.double d26), .second, .val (.double d29), .second, .val (.double d31), .second]) rfl (q := 229) rfl ?_
          refine o_dload X10 at_229 rfl (q := 231) rfl ?_
          refine o_dload X10 at_231 rfl (q := 233) rfl ?_
          refine o_dcmp X10 at_233 (w := (cmpR xx tt)) (IsV.cmpV iv29 iv31 _) (q := 234) rfl ?_
          refine o_ifN X10 at_234 (flt (fun q => absurd ((cmpR_gt _ _).mp q) (Rat.not_lt.mpr hxa))).2.2.1 (q := 237) rfl ?_
          refine o_dload X10 at_237 rfl (q := 239) rfl ?_
          obtain ⟨d32, hd32⟩ : ∃ z : UInt64, FP.dneg d29 = z := ⟨_, rfl⟩
          have iv32 : IsV d32 (-xx) := hd32 ▸ IsV.fneg iv29
          refine o_dneg X10 at_239 hd32 (q := 240) rfl ?_
          refine o_dload X10 at_240 rfl (q := 242) rfl ?_
          refine o_dcmp X10 at_242 (w := (cmpR (-xx) tt)) (IsV.cmpV iv32 iv31 _) (q := 243) rfl ?_
          refine o_ifN X10 at_243 (flt (fun q => absurd ((cmpR_gt _ _).mp q) (Rat.not_lt.mpr (by grind)))).2.2.1 (q := 246) rfl ?_
          refine o_iconst X10 at_246 (w := 1) rfl (q := 247) rfl ?_
          refine o_goto X10 at_247 (by decide) (q := 251) (by decide) ?_
          exact o_retN X10 at_251 (by simp) rfl (by decide) (by decide)
        · refine o_ifY X10 at_171 (feq hc171).2 (by decide) (q := 183) (by decide) ?_
          refine o_iload X10 at_183 rfl (q := 185) rfl ?_
          refine o_ifY X10 at_185 (by decide) (by decide) (q := 205) (by decide) ?_
          refine o_lload X10 at_205 rfl (q := 207) rfl ?_
          obtain ⟨d33, hd33⟩ : ∃ z : UInt64, FP.l2d ct = z := ⟨_, rfl⟩
          have iv33 : IsV d33 cc := hd33 ▸ iN
          refine o_l2d X10 at_207 hd33 (q := 208) rfl ?_
          refine o_dstore X10 at_208 rfl (L' := #[.val (.int p0), .val (.long p1), .second, .val (.long p2), .second, .val (.long p3), .second, .val (.int p4), .val (.int (0 : Int32)), .val (.long (4611686018427387903 : Int64)), .second, .val (.long aa), .second, .val (.long bb), .second, .val (.long ru), .second, .val (.long fl), .second, .val (.long en), .second, .val (.ref b3), .val (.double d10), .second, .val (.long ct), .second, .val (.double d33), .second, .unset, .unset, .unset, .unset]) rfl (q := 210) rfl ?_
          refine o_dload X10 at_210 rfl (q := 212) rfl ?_
          refine o_dload X10 at_212 rfl (q := 214) rfl ?_
          have hb1 := own_bp hS.v0 hS.v1 hS.c1 hS.c2
          obtain ⟨pp, iP, rP⟩ := IsV.mulR iVV iv33 (own_sml (by grind)) (own_big (by grind))
          obtain ⟨d34, hd34⟩ : ∃ z : UInt64, FP.dmul d10 d33 = z := ⟨_, rfl⟩
          have iv34 : IsV d34 pp := hd34 ▸ iP
          refine o_dmul X10 at_214 (hd34.symm ▸ iv34.nn) hd34 (q := 215) rfl ?_
          refine o_lload X10 at_215 rfl (q := 217) rfl ?_
          obtain ⟨d35, hd35⟩ : ∃ z : UInt64, FP.l2d fl = z := ⟨_, rfl⟩
          have iv35 : IsV d35 fF := hd35 ▸ iF
          refine o_l2d X10 at_217 hd35 (q := 218) rfl ?_
          have hp0 : 0 ≤ pp := rP.dn Rep.zero hb1.1
          have hp1 : pp ≤ 9223372036854775808 := rP.up own_R63 hb1.2
          have hF0 := hS.F0
          have hF2 : fF ≤ 9223372036854775808 := by have := hS.Fc; have := hS.c2; grind
          obtain ⟨xx, iX, rX⟩ := IsV.subR iv34 iv35 (own_sml (by grind)) (own_big (by grind))
          obtain ⟨d36, hd36⟩ : ∃ z : UInt64, FP.dsub d34 d35 = z := ⟨_, rfl⟩
          have iv36 : IsV d36 xx := hd36 ▸ iX
          refine o_dsub X10 at_218 (hd36.symm ▸ iv36.nn) hd36 (q := 219) rfl ?_
          refine o_dstore X10 at_219 rfl (L' := #[.val (.int p0), .val (.long p1), .second, .val (.long p2), .second, .val (.long p3), .second, .val (.int p4), .val (.int (0 : Int32)), .val (.long (4611686018427387903 : Int64)), .second, .val (.long aa), .second, .val (.long bb), .second, .val (.long ru), .second, .val (.long fl), .second, .val (.long en), .second, .val (.ref b3), .val (.double d10), .second, .val (.long ct), .second, .val (.double d33), .second, .val (.double d36), .second, .unset, .unset]) rfl (q := 221) rfl ?_
          refine o_dload X10 at_221 rfl (q := 223) rfl ?_
          have iv37 : IsV (4382569440205035030 : UInt64) ((2535301200456459 : Rat) / 2535301200456458802993406410752) := ⟨false, 5070602400912918, (-102), by decide +kernel, by decide +kernel⟩
          refine o_ldcD X10 (w38 hw) at_223 (q := 226) rfl ?_
          obtain ⟨kk, hkk⟩ : ∃ k : Rat, ((2535301200456459 : Rat) / 2535301200456458802993406410752) = k := ⟨_, rfl⟩
          have hk8 : 8 / 9007199254740992 ≤ kk := by rw [← hkk]; decide +kernel
          have hk1 : kk ≤ 1 := by rw [← hkk]; decide +kernel
          have hkc := own_bp (vv := kk) (by grind) hk1 hS.c1 hS.c2
          have hkc2 : 8 / 9007199254740992 ≤ cc * kk := by have := Rat.mul_le_mul_of_nonneg_right hS.c1 (show 0 ≤ kk by grind); grind
          obtain ⟨tt, iT, rT⟩ := IsV.mulR (y := kk) iv33 (hkk ▸ iv37) (own_sml (by grind)) (own_big (by grind))
          have hT := rT.2.2 (own_tiny (by grind))
          have hxT : pp - fF ≤ tt ∧ -tt ≤ pp - fF := by
            by_cases hf0 : fl.toInt = 0
            · have hv := hS.z1 hf0
              have hp : pp ≤ 0 := rP.up Rep.zero (by rw [hv, Rat.zero_mul]; grind)
              have hfF : fF ≤ 0 := rF.up Rep.zero (by rw [hf0]; decide +kernel)
              have ht : 0 ≤ tt := rT.dn Rep.zero (by grind)
              constructor <;> grind
            · have hv := hS.z2 hf0
              have h1 := rV.2.2 (own_tiny (own_dge (by have := hS.c1; grind) (by have := hS.F1 hf0; have := hS.c2; grind)))
              have h3 := rP.2.2 (own_tiny (by have := Rat.mul_le_mul_of_nonneg_left hS.c1 hS.v0; grind))
              exact own_tol hS.c1 hS.F0 hS.Fc h1.1 h1.2 h3.1 h3.2 hT.2 hk8
          have hxa : xx ≤ tt := rX.up rT.1 hxT.1
          have hxb : -tt ≤ xx := rX.dn rT.1.neg hxT.2
          obtain ⟨d38, hd38⟩ : ∃ z : UInt64, FP.dmul d33 (4382569440205035030 : UInt64) = z := ⟨_, rfl⟩
          have iv38 : IsV d38 tt := hd38 ▸ iT
          refine o_dmul X10 at_226 (hd38.symm ▸ iv38.nn) hd38 (q := 227) rfl ?_
          refine o_dstore X10 at_227 rfl (L' := #[.val (.int p0), .val (.long p1), .second, .val (.long p2), .second, .val (.long p3), .second, .val (.int p4), .val (.int (0 : Int32)), .val (.long (4611686018427387903 : Int64)), .second, .val (.long aa), .second, .val (.long bb), .second, .val (.long ru), .second, .val (.long fl), .second, .val (.long en), .second, .val (.ref b3), .val (.double d10), .second, .val (.long ct), .second, .val (.double d33), .second, .val (.double d36), .second, .val (.double d38), .second]) rfl (q := 229) rfl ?_
          refine o_dload X10 at_229 rfl (q := 231) rfl ?_
          refine o_dload X10 at_231 rfl (q := 233) rfl ?_
          refine o_dcmp X10 at_233 (w := (cmpR xx tt)) (IsV.cmpV iv36 iv38 _) (q := 234) rfl ?_
          refine o_ifN X10 at_234 (flt (fun q => absurd ((cmpR_gt _ _).mp q) (Rat.not_lt.mpr hxa))).2.2.1 (q := 237) rfl ?_
          refine o_dload X10 at_237 rfl (q := 239) rfl ?_
          obtain ⟨d39, hd39⟩ : ∃ z : UInt64, FP.dneg d36 = z := ⟨_, rfl⟩
          have iv39 : IsV d39 (-xx) := hd39 ▸ IsV.fneg iv36
          refine o_dneg X10 at_239 hd39 (q := 240) rfl ?_
          refine o_dload X10 at_240 rfl (q := 242) rfl ?_
          refine o_dcmp X10 at_242 (w := (cmpR (-xx) tt)) (IsV.cmpV iv39 iv38 _) (q := 243) rfl ?_
          refine o_ifN X10 at_243 (flt (fun q => absurd ((cmpR_gt _ _).mp q) (Rat.not_lt.mpr (by grind)))).2.2.1 (q := 246) rfl ?_
          refine o_iconst X10 at_246 (w := 1) rfl (q := 247) rfl ?_
          refine o_goto X10 at_247 (by decide) (q := 251) (by decide) ?_
          exact o_retN X10 at_251 (by simp) rfl (by decide) (by decide)
  · refine o_ifN X at_4 (feq hc4).1 (q := 7) rfl ?_
    refine o_iconst X at_7 (w := 1) rfl (q := 8) rfl ?_
    refine o_goto X at_8 (by decide) (q := 12) (by decide) ?_
    refine o_istore X at_12 rfl (L' := #[.val (.int p0), .val (.long p1), .second, .val (.long p2), .second, .val (.long p3), .second, .val (.int p4), .val (.int (1 : Int32)), .unset, .unset, .unset, .unset, .unset, .unset, .unset, .unset, .unset, .unset, .unset, .unset, .unset, .unset, .unset, .unset, .unset, .unset, .unset, .unset, .unset, .unset, .unset]) rfl (q := 14) rfl ?_
    refine o_iload X at_14 rfl (q := 16) rfl ?_
    refine o_ifN X at_16 (by decide) (q := 19) rfl ?_
    refine o_ldcJ X (w0 hw) at_19 (q := 22) rfl ?_
    refine o_goto X at_22 (by decide) (q := 28) (by decide) ?_
    refine o_lstore X at_28 rfl (L' := #[.val (.int p0), .val (.long p1), .second, .val (.long p2), .second, .val (.long p3), .second, .val (.int p4), .val (.int (1 : Int32)), .val (.long (255 : Int64)), .second, .unset, .unset, .unset, .unset, .unset, .unset, .unset, .unset, .unset, .unset, .unset, .unset, .unset, .unset, .unset, .unset, .unset, .unset, .unset, .unset, .unset]) rfl (q := 30) rfl ?_
    refine o_lloadN X at_30 rfl (q := 31) rfl ?_
    refine o_lload X at_31 rfl (q := 33) rfl ?_
    refine o_land X at_33 (w := (p1 &&& (255 : Int64))) rfl (q := 34) rfl ?_
    obtain ⟨aa, h_aa⟩ : ∃ z : Int64, (p1 &&& (255 : Int64)) = z := ⟨_, rfl⟩
    refine o_lstore X at_34 h_aa (L' := #[.val (.int p0), .val (.long p1), .second, .val (.long p2), .second, .val (.long p3), .second, .val (.int p4), .val (.int (1 : Int32)), .val (.long (255 : Int64)), .second, .val (.long aa), .second, .unset, .unset, .unset, .unset, .unset, .unset, .unset, .unset, .unset, .unset, .unset, .unset, .unset, .unset, .unset, .unset, .unset, .unset, .unset]) rfl (q := 36) rfl ?_
    refine o_lloadN X at_36 rfl (q := 37) rfl ?_
    refine o_lload X at_37 rfl (q := 39) rfl ?_
    refine o_land X at_39 (w := (p2 &&& (255 : Int64))) rfl (q := 40) rfl ?_
    obtain ⟨bb, h_bb⟩ : ∃ z : Int64, (p2 &&& (255 : Int64)) = z := ⟨_, rfl⟩
    refine o_lstore X at_40 h_bb (L' := #[.val (.int p0), .val (.long p1), .second, .val (.long p2), .second, .val (.long p3), .second, .val (.int p4), .val (.int (1 : Int32)), .val (.long (255 : Int64)), .second, .val (.long aa), .second, .val (.long bb), .second, .unset, .unset, .unset, .unset, .unset, .unset, .unset, .unset, .unset, .unset, .unset, .unset, .unset, .unset, .unset, .unset, .unset]) rfl (q := 42) rfl ?_
    refine o_lload X at_42 rfl (q := 44) rfl ?_
    refine o_lload X at_44 rfl (q := 46) rfl ?_
    refine o_land X at_46 (w := (p3 &&& (255 : Int64))) rfl (q := 47) rfl ?_
    obtain ⟨ru, h_ru⟩ : ∃ z : Int64, (p3 &&& (255 : Int64)) = z := ⟨_, rfl⟩
    refine o_lstore X at_47 h_ru (L' := #[.val (.int p0), .val (.long p1), .second, .val (.long p2), .second, .val (.long p3), .second, .val (.int p4), .val (.int (1 : Int32)), .val (.long (255 : Int64)), .second, .val (.long aa), .second, .val (.long bb), .second, .val (.long ru), .second, .unset, .unset, .unset, .unset, .unset, .unset, .unset, .unset, .unset, .unset, .unset, .unset, .unset, .unset, .unset]) rfl (q := 49) rfl ?_
    refine o_lload X at_49 rfl (q := 51) rfl ?_
    refine o_lload X at_51 rfl (q := 53) rfl ?_
    refine o_stat X [(.long aa), (.long bb)] (y' := (⟨"java/lang/Math", "min", "(JJ)J"⟩ : MethodName)) (c_minJ hw aa bb _) (w1 hw) (w2 hw) (w3 hw) (w4 hw) (by decide) at_53 (rest := []) rfl rfl (lenOf pd1 rfl) rfl (by decide) (Nat.le_of_ble_eq_true rfl) (by decide) (by decide) (q := 56) rfl ?_
    intro v40 T40 h40 l40 X40 q40
    obtain ⟨rfl, e40⟩ := q40
    have e40 := e40.symm
    subst e40
    show Goes p e below _ T40 (mkF m 56 #[.val (.int p0), .val (.long p1), .second, .val (.long p2), .second, .val (.long p3), .second, .val (.int p4), .val (.int (1 : Int32)), .val (.long (255 : Int64)), .second, .val (.long aa), .second, .val (.long bb), .second, .val (.long ru), .second, .unset, .unset, .unset, .unset, .unset, .unset, .unset, .unset, .unset, .unset, .unset, .unset, .unset, .unset, .unset] [(.long (if bb < aa then bb else aa))])
    obtain ⟨fl, h_fl⟩ : ∃ z : Int64, (if bb < aa then bb else aa) = z := ⟨_, rfl⟩
    refine o_lstore X40 at_56 h_fl (L' := #[.val (.int p0), .val (.long p1), .second, .val (.long p2), .second, .val (.long p3), .second, .val (.int p4), .val (.int (1 : Int32)), .val (.long (255 : Int64)), .second, .val (.long aa), .second, .val (.long bb), .second, .val (.long ru), .second, .val (.long fl), .second, .unset, .unset, .unset, .unset, .unset, .unset, .unset, .unset, .unset, .unset, .unset, .unset, .unset]) rfl (q := 58) rfl ?_
    refine o_lload X40 at_58 rfl (q := 60) rfl ?_
    refine o_lload X40 at_60 rfl (q := 62) rfl ?_
    refine o_stat X40 [(.long aa), (.long bb)] (y' := (⟨"java/lang/Math", "max", "(JJ)J"⟩ : MethodName)) (c_maxJ hw aa bb _) (w5 hw) (w6 hw) (w3 hw) (w7 hw) (by decide) at_62 (rest := []) rfl rfl (lenOf pd1 rfl) rfl (by decide) (Nat.le_of_ble_eq_true rfl) (by decide) (by decide) (q := 65) rfl ?_
    intro v41 T41 h41 l41 X41 q41
    obtain ⟨rfl, e41⟩ := q41
    have e41 := e41.symm
    subst e41
    show Goes p e below _ T41 (mkF m 65 #[.val (.int p0), .val (.long p1), .second, .val (.long p2), .second, .val (.long p3), .second, .val (.int p4), .val (.int (1 : Int32)), .val (.long (255 : Int64)), .second, .val (.long aa), .second, .val (.long bb), .second, .val (.long ru), .second, .val (.long fl), .second, .unset, .unset, .unset, .unset, .unset, .unset, .unset, .unset, .unset, .unset, .unset, .unset, .unset] [(.long (if aa < bb then bb else aa))])
    obtain ⟨en, h_en⟩ : ∃ z : Int64, (if aa < bb then bb else aa) = z := ⟨_, rfl⟩
    refine o_lstore X41 at_65 h_en (L' := #[.val (.int p0), .val (.long p1), .second, .val (.long p2), .second, .val (.long p3), .second, .val (.int p4), .val (.int (1 : Int32)), .val (.long (255 : Int64)), .second, .val (.long aa), .second, .val (.long bb), .second, .val (.long ru), .second, .val (.long fl), .second, .val (.long en), .second, .unset, .unset, .unset, .unset, .unset, .unset, .unset, .unset, .unset, .unset, .unset]) rfl (q := 67) rfl ?_
    refine o_new X41 (w8 hw) (w9 hw) (w10 hw) at_67 (by decide) (by decide) (q := 70) rfl ?_
    intro T42 h42 b42 gb42 X42 E42 A42 D42 g0_b42
    have f43 : Fld Z h42 b42 "com/example/tolerant_workflows/tolerantworkflows/healing/FailureDegree" "level" "I" (.int (0 : Int32)) := D42 (Or.inr (w26 hw)) (ty := .int) (by decide)
    have f44 : Fld Z h42 b42 "com/example/tolerant_workflows/tolerantworkflows/healing/FailureDegree" "failed" "J" (.long (0 : Int64)) := D42 (Or.inr (w28 hw)) (ty := .long) (by decide)
    have f45 : Fld Z h42 b42 "com/example/tolerant_workflows/tolerantworkflows/healing/FailureDegree" "ended" "J" (.long (0 : Int64)) := D42 (Or.inr (w30 hw)) (ty := .long) (by decide)
    have f46 : Fld Z h42 b42 "com/example/tolerant_workflows/tolerantworkflows/healing/FailureDegree" "running" "J" (.long (0 : Int64)) := D42 (Or.inr (w32 hw)) (ty := .long) (by decide)
    refine o_dup X42 at_70 rfl (q := 71) rfl ?_
    refine o_iconst X42 at_71 (w := 1) rfl (q := 72) rfl ?_
    refine o_iloadN X42 at_72 rfl (q := 73) rfl ?_
    refine o_stat X42 [(.int (1 : Int32)), (.int p0)] (y' := (⟨"java/lang/Math", "max", "(II)I"⟩ : MethodName)) (c_maxI hw (1 : Int32) p0 _) (w11 hw) (w12 hw) (w3 hw) (w13 hw) (by decide) at_73 (rest := [(.ref b42), (.ref b42)]) rfl rfl (lenOf pd2 rfl) rfl (by decide) (Nat.le_of_ble_eq_true rfl) (by decide) (by decide) (q := 76) rfl ?_
    intro v47 T47 h47 l47 X47 q47
    obtain ⟨rfl, e47⟩ := q47
    have e47 := e47.symm
    subst e47
    show Goes p e below _ T47 (mkF m 76 #[.val (.int p0), .val (.long p1), .second, .val (.long p2), .second, .val (.long p3), .second, .val (.int p4), .val (.int (1 : Int32)), .val (.long (255 : Int64)), .second, .val (.long aa), .second, .val (.long bb), .second, .val (.long ru), .second, .val (.long fl), .second, .val (.long en), .second, .unset, .unset, .unset, .unset, .unset, .unset, .unset, .unset, .unset, .unset, .unset] [(.int (if (1 : Int32) < p0 then p0 else (1 : Int32))), (.ref b42), (.ref b42)])
    refine o_lload X47 at_76 rfl (q := 78) rfl ?_
    refine o_lload X47 at_78 rfl (q := 80) rfl ?_
    refine o_lload X47 at_80 rfl (q := 82) rfl ?_
    have hlo := (own_lo (M := 256) (by decide) (own_m h_aa (by decide) (k := 8) (by decide)) (own_m h_bb (by decide) (k := 8) (by decide)) (own_m h_ru (by decide) (k := 8) (by decide)) h_fl h_en rfl)
    refine o_spec X47 [(.int (if (1 : Int32) < p0 then p0 else (1 : Int32))), (.long fl), (.long en), (.long ru)] (y' := (⟨"com/example/tolerant_workflows/tolerantworkflows/healing/FailureDegree", "<init>", "(IJJJ)V"⟩ : MethodName)) (c_fd hw b42 (if (1 : Int32) < p0 then p0 else (1 : Int32)) fl en ru (en + ru) _ A42 g0_b42 f43 f44 f45 f46 (own_lv p0) hlo.1) rfl (w14 hw) (w15 hw) (w16 hw) (w10 hw) (by decide) at_82 (rest := [(.ref b42)]) rfl rfl (lenOf pd3 rfl) rfl (by decide) (Nat.le_of_ble_eq_true rfl) (by decide) (by decide) (q := 85) rfl ?_
    intro v48 T48 h48 l48 X48 q48
    obtain ⟨rfl, K48, F048, F148, F248, F348⟩ := q48
    show Goes p e below _ T48 (mkF m 85 #[.val (.int p0), .val (.long p1), .second, .val (.long p2), .second, .val (.long p3), .second, .val (.int p4), .val (.int (1 : Int32)), .val (.long (255 : Int64)), .second, .val (.long aa), .second, .val (.long bb), .second, .val (.long ru), .second, .val (.long fl), .second, .val (.long en), .second, .unset, .unset, .unset, .unset, .unset, .unset, .unset, .unset, .unset, .unset, .unset] [(.ref b42)])
    refine o_astore X48 at_85 rfl (L' := #[.val (.int p0), .val (.long p1), .second, .val (.long p2), .second, .val (.long p3), .second, .val (.int p4), .val (.int (1 : Int32)), .val (.long (255 : Int64)), .second, .val (.long aa), .second, .val (.long bb), .second, .val (.long ru), .second, .val (.long fl), .second, .val (.long en), .second, .val (.ref b42), .unset, .unset, .unset, .unset, .unset, .unset, .unset, .unset, .unset, .unset]) rfl (q := 87) rfl ?_
    refine o_aload X48 at_87 rfl rfl (q := 89) rfl ?_
    have f50 := (A42.keep K48)
    refine o_virt X48 [] (y' := (⟨"com/example/tolerant_workflows/tolerantworkflows/healing/FailureDegree", "value", "()D"⟩ : MethodName)) f50 (c_val hw b42 fl en ru _ F148 F248 F348 hlo.1) (w33 hw) (w34 hw) (w36 hw) (w35 hw) (w37 hw) (w10 hw) (by decide) at_89 (rest := []) rfl rfl (lenOf pd4 rfl) rfl (by decide) (Nat.le_of_ble_eq_true rfl) (by decide) (by decide) (q := 92) rfl ?_
    intro v49 T49 h49 l49 X49 q49
    obtain ⟨d49, vv, rfl, iVV, hVV, e49⟩ := q49
    have e49 := e49.symm
    subst e49
    show Goes p e below _ T49 (mkF m 92 #[.val (.int p0), .val (.long p1), .second, .val (.long p2), .second, .val (.long p3), .second, .val (.int p4), .val (.int (1 : Int32)), .val (.long (255 : Int64)), .second, .val (.long aa), .second, .val (.long bb), .second, .val (.long ru), .second, .val (.long fl), .second, .val (.long en), .second, .val (.ref b42), .unset, .unset, .unset, .unset, .unset, .unset, .unset, .unset, .unset, .unset] [(.double d49)])
    refine o_dstore X49 at_92 rfl (L' := #[.val (.int p0), .val (.long p1), .second, .val (.long p2), .second, .val (.long p3), .second, .val (.int p4), .val (.int (1 : Int32)), .val (.long (255 : Int64)), .second, .val (.long aa), .second, .val (.long bb), .second, .val (.long ru), .second, .val (.long fl), .second, .val (.long en), .second, .val (.ref b42), .val (.double d49), .second, .unset, .unset, .unset, .unset, .unset, .unset, .unset, .unset]) rfl (q := 94) rfl ?_
    refine o_lload X49 at_94 rfl (q := 96) rfl ?_
    refine o_lload X49 at_96 rfl (q := 98) rfl ?_
    refine o_ladd X49 at_98 (w := (en + ru)) rfl (q := 99) rfl ?_
    obtain ⟨ct, h_ct⟩ : ∃ z : Int64, (en + ru) = z := ⟨_, rfl⟩
    refine o_lstore X49 at_99 h_ct (L' := #[.val (.int p0), .val (.long p1), .second, .val (.long p2), .second, .val (.long p3), .second, .val (.int p4), .val (.int (1 : Int32)), .val (.long (255 : Int64)), .second, .val (.long aa), .second, .val (.long bb), .second, .val (.long ru), .second, .val (.long fl), .second, .val (.long en), .second, .val (.ref b42), .val (.double d49), .second, .val (.long ct), .second, .unset, .unset, .unset, .unset, .unset, .unset]) rfl (q := 101) rfl ?_
    refine o_lload X49 at_101 rfl (q := 103) rfl ?_
    refine o_lconst X49 at_103 (w := 0) rfl (q := 104) rfl ?_
    refine o_lcmp X49 at_104 (w := (lcmpW ct (0 : Int64))) rfl (q := 105) rfl ?_
    by_cases hc105 : (lcmpW ct (0 : Int64)) = (0 : Int32)
    · refine o_ifN X49 at_105 (teq hc105).2 (q := 108) rfl ?_
      refine o_dload X49 at_108 rfl (q := 110) rfl ?_
      refine o_dconst0 X49 at_110 (q := 111) rfl ?_
      refine o_dcmp X49 at_111 (w := (cmpR vv (0 : Rat))) (IsV.cmpV iVV IsV.zero _) (q := 112) rfl ?_
      refine o_ifN X49 at_112 (teq ((cmpR_eq _ _).mpr (own_vv0 (h_ct ▸ hVV) hc105))).2 (q := 115) rfl ?_
      refine o_iconst X49 at_115 (w := 1) rfl (q := 116) rfl ?_
      refine o_goto X49 at_116 (by decide) (q := 120) (by decide) ?_
      exact o_retN X49 at_120 (by simp) rfl (by decide) (by decide)
    · refine o_ifY X49 at_105 (feq hc105).2 (by decide) (q := 121) (by decide) ?_
      refine o_dconst0 X49 at_121 (q := 122) rfl ?_
      refine o_dload X49 at_122 rfl (q := 124) rfl ?_
      refine o_dcmp X49 at_124 (w := (cmpR (0 : Rat) vv)) (IsV.cmpV IsV.zero iVV _) (q := 125) rfl ?_
      have hn1 := own_n1 (h_ct ▸ hlo.1) hc105
      obtain ⟨fF, cc, iF, rF, iN, rN, rV⟩ := own_vvN (h_ct ▸ hVV) hc105
      have hS := own_sum hlo.1.1 hn1.2 hn1.1 iF rF iN rN rV
      refine o_ifN X49 at_125 (flt (fun q => absurd ((cmpR_gt _ _).mp q) (Rat.not_lt.mpr hS.v0))).2.2.1 (q := 128) rfl ?_
      refine o_dload X49 at_128 rfl (q := 130) rfl ?_
      refine o_dconst1 X49 at_130 (q := 131) rfl ?_
      refine o_dcmp X49 at_131 (w := (cmpR vv (1 : Rat))) (IsV.cmpV iVV IsV.one _) (q := 132) rfl ?_
      refine o_ifY X49 at_132 (flt (fun q => absurd ((cmpR_gt _ _).mp q) (Rat.not_lt.mpr hS.v1))).2.2.2 (by decide) (q := 137) (by decide) ?_
      refine o_dload X49 at_137 rfl (q := 139) rfl ?_
      refine o_dconst0 X49 at_139 (q := 140) rfl ?_
      refine o_dcmp X49 at_140 (w := (cmpR vv (0 : Rat))) (IsV.cmpV iVV IsV.zero _) (q := 141) rfl ?_
      by_cases hc141 : (cmpR vv (0 : Rat)) = (0 : Int32)
      · refine o_ifN X49 at_141 (teq hc141).2 (q := 144) rfl ?_
        refine o_iconst X49 at_144 (w := 1) rfl (q := 145) rfl ?_
        refine o_goto X49 at_145 (by decide) (q := 149) (by decide) ?_
        refine o_lload X49 at_149 rfl (q := 151) rfl ?_
        refine o_lconst X49 at_151 (w := 0) rfl (q := 152) rfl ?_
        refine o_lcmp X49 at_152 (w := (lcmpW fl (0 : Int64))) rfl (q := 153) rfl ?_
        refine o_ifN X49 at_153 (teq ((lw_eq _ _).mpr (Int64.toInt_inj.mp (Classical.byContradiction fun q => by have h1 := hS.z2 (fun z => q (z.trans own_l0.symm)); have h2 := (cmpR_eq _ _).mp hc141; rw [h2] at h1; exact absurd h1 (by decide +kernel))))).2 (q := 156) rfl ?_
        refine o_iconst X49 at_156 (w := 1) rfl (q := 157) rfl ?_
        refine o_goto X49 at_157 (by decide) (q := 161) (by decide) ?_
        refine o_icmpY X49 at_161 (by decide) (by decide) (q := 166) (by decide) ?_
        refine o_lload X49 at_166 rfl (q := 168) rfl ?_
        refine o_lload X49 at_168 rfl (q := 170) rfl ?_
        refine o_lcmp X49 at_170 (w := (lcmpW fl ct)) rfl (q := 171) rfl ?_
        by_cases hc171 : (lcmpW fl ct) = (0 : Int32)
        · refine o_ifN X49 at_171 (teq hc171).2 (q := 174) rfl ?_
          refine o_dload X49 at_174 rfl (q := 176) rfl ?_
          refine o_dconst1 X49 at_176 (q := 177) rfl ?_
          refine o_dcmp X49 at_177 (w := (cmpR vv (1 : Rat))) (IsV.cmpV iVV IsV.one _) (q := 178) rfl ?_
          refine o_ifY X49 at_178 (teq ((cmpR_eq _ _).mpr (hS.e1 (by rw [(lw_eq _ _).mp hc171])))).1 (by decide) (q := 183) (by decide) ?_
          refine o_iload X49 at_183 rfl (q := 185) rfl ?_
          refine o_ifN X49 at_185 (by decide) (q := 188) rfl ?_
          refine o_dload X49 at_188 rfl (q := 190) rfl ?_
          refine o_dconst1 X49 at_190 (q := 191) rfl ?_
          refine o_dcmp X49 at_191 (w := (cmpR vv (1 : Rat))) (IsV.cmpV iVV IsV.one _) (q := 192) rfl ?_
          refine o_ifN X49 at_192 (teq ((cmpR_eq _ _).mpr (hS.e1 (by rw [(lw_eq _ _).mp hc171])))).2 (q := 195) rfl ?_
          refine o_lload X49 at_195 rfl (q := 197) rfl ?_
          refine o_lload X49 at_197 rfl (q := 199) rfl ?_
          refine o_lcmp X49 at_199 (w := (lcmpW fl ct)) rfl (q := 200) rfl ?_
          refine o_ifY X49 at_200 (teq hc171).1 (by decide) (q := 205) (by decide) ?_
          refine o_lload X49 at_205 rfl (q := 207) rfl ?_
          obtain ⟨d51, hd51⟩ : ∃ z : UInt64, FP.l2d ct = z := ⟨_, rfl⟩
          have iv51 : IsV d51 cc := hd51 ▸ iN
          refine o_l2d X49 at_207 hd51 (q := 208) rfl ?_
          refine o_dstore X49 at_208 rfl (L' := #[.val (.int p0), .val (.long p1), .second, .val (.long p2), .second, .val (.long p3), .second, .val (.int p4), .val (.int (1 : Int32)), .val (.long (255 : Int64)), .second, .val (.long aa), .second, .val (.long bb), .second, .val (.long ru), .second, .val (.long fl), .second, .val (.long en), .second, .val (.ref b42), .val (.double d49), .second, .val (.long ct), .second, .val (.double d51), .second, .unset, .unset, .unset, .unset]) rfl (q := 210) rfl ?_
          refine o_dload X49 at_210 rfl (q := 212) rfl ?_
          refine o_dload X49 at_212 rfl (q := 214) rfl ?_
          have hb1 := own_bp hS.v0 hS.v1 hS.c1 hS.c2
          obtain ⟨pp, iP, rP⟩ := IsV.mulR iVV iv51 (own_sml (by grind)) (own_big (by grind))
          obtain ⟨d52, hd52⟩ : ∃ z : UInt64, FP.dmul d49 d51 = z := ⟨_, rfl⟩
          have iv52 : IsV d52 pp := hd52 ▸ iP
          refine o_dmul X49 at_214 (hd52.symm ▸ iv52.nn) hd52 (q := 215) rfl ?_
          refine o_lload X49 at_215 rfl (q := 217) rfl ?_
          obtain ⟨d53, hd53⟩ : ∃ z : UInt64, FP.l2d fl = z := ⟨_, rfl⟩
          have iv53 : IsV d53 fF := hd53 ▸ iF
          refine o_l2d X49 at_217 hd53 (q := 218) rfl ?_
          have hp0 : 0 ≤ pp := rP.dn Rep.zero hb1.1
          have hp1 : pp ≤ 9223372036854775808 := rP.up own_R63 hb1.2
          have hF0 := hS.F0
          have hF2 : fF ≤ 9223372036854775808 := by have := hS.Fc; have := hS.c2; grind
          obtain ⟨xx, iX, rX⟩ := IsV.subR iv52 iv53 (own_sml (by grind)) (own_big (by grind))
          obtain ⟨d54, hd54⟩ : ∃ z : UInt64, FP.dsub d52 d53 = z := ⟨_, rfl⟩
          have iv54 : IsV d54 xx := hd54 ▸ iX
          refine o_dsub X49 at_218 (hd54.symm ▸ iv54.nn) hd54 (q := 219) rfl ?_
          refine o_dstore X49 at_219 rfl (L' := #[.val (.int p0), .val (.long p1), .second, .val (.long p2), .second, .val (.long p3), .second, .val (.int p4), .val (.int (1 : Int32)), .val (.long (255 : Int64)), .second, .val (.long aa), .second, .val (.long bb), .second, .val (.long ru), .second, .val (.long fl), .second, .val (.long en), .second, .val (.ref b42), .val (.double d49), .second, .val (.long ct), .second, .val (.double d51), .second, .val (.double d54), .second, .unset, .unset]) rfl (q := 221) rfl ?_
          refine o_dload X49 at_221 rfl (q := 223) rfl ?_
          have iv55 : IsV (4382569440205035030 : UInt64) ((2535301200456459 : Rat) / 2535301200456458802993406410752) := ⟨false, 5070602400912918, (-102), by decide +kernel, by decide +kernel⟩
          refine o_ldcD X49 (w38 hw) at_223 (q := 226) rfl ?_
          obtain ⟨kk, hkk⟩ : ∃ k : Rat, ((2535301200456459 : Rat) / 2535301200456458802993406410752) = k := ⟨_, rfl⟩
          have hk8 : 8 / 9007199254740992 ≤ kk := by rw [← hkk]; decide +kernel
          have hk1 : kk ≤ 1 := by rw [← hkk]; decide +kernel
          have hkc := own_bp (vv := kk) (by grind) hk1 hS.c1 hS.c2
          have hkc2 : 8 / 9007199254740992 ≤ cc * kk := by have := Rat.mul_le_mul_of_nonneg_right hS.c1 (show 0 ≤ kk by grind); grind
          obtain ⟨tt, iT, rT⟩ := IsV.mulR (y := kk) iv51 (hkk ▸ iv55) (own_sml (by grind)) (own_big (by grind))
          have hT := rT.2.2 (own_tiny (by grind))
          have hxT : pp - fF ≤ tt ∧ -tt ≤ pp - fF := by
            by_cases hf0 : fl.toInt = 0
            · have hv := hS.z1 hf0
              have hp : pp ≤ 0 := rP.up Rep.zero (by rw [hv, Rat.zero_mul]; grind)
              have hfF : fF ≤ 0 := rF.up Rep.zero (by rw [hf0]; decide +kernel)
              have ht : 0 ≤ tt := rT.dn Rep.zero (by grind)
              constructor <;> grind
            · have hv := hS.z2 hf0
              have h1 := rV.2.2 (own_tiny (own_dge (by have := hS.c1; grind) (by have := hS.F1 hf0; have := hS.c2; grind)))
              have h3 := rP.2.2 (own_tiny (by have := Rat.mul_le_mul_of_nonneg_left hS.c1 hS.v0; grind))
              exact own_tol hS.c1 hS.F0 hS.Fc h1.1 h1.2 h3.1 h3.2 hT.2 hk8
          have hxa : xx ≤ tt := rX.up rT.1 hxT.1
          have hxb : -tt ≤ xx := rX.dn rT.1.neg hxT.2
          obtain ⟨d56, hd56⟩ : ∃ z : UInt64, FP.dmul d51 (4382569440205035030 : UInt64) = z := ⟨_, rfl⟩
          have iv56 : IsV d56 tt := hd56 ▸ iT
          refine o_dmul X49 at_226 (hd56.symm ▸ iv56.nn) hd56 (q := 227) rfl ?_
          refine o_dstore X49 at_227 rfl (L' := #[.val (.int p0), .val (.long p1), .second, .val (.long p2), .second, .val (.long p3), .second, .val (.int p4), .val (.int (1 : Int32)), .val (.long (255 : Int64)), .second, .val (.long aa), .second, .val (.long bb), .second, .val (.long ru), .second, .val (.long fl), .second, .val (.long en), .second, .val (.ref b42), .val (.double d49), .second, .val (.long ct), .second, .val (.double d51), .second, .val (.double d54), .second, .val (.double d56), .second]) rfl (q := 229) rfl ?_
          refine o_dload X49 at_229 rfl (q := 231) rfl ?_
          refine o_dload X49 at_231 rfl (q := 233) rfl ?_
          refine o_dcmp X49 at_233 (w := (cmpR xx tt)) (IsV.cmpV iv54 iv56 _) (q := 234) rfl ?_
          refine o_ifN X49 at_234 (flt (fun q => absurd ((cmpR_gt _ _).mp q) (Rat.not_lt.mpr hxa))).2.2.1 (q := 237) rfl ?_
          refine o_dload X49 at_237 rfl (q := 239) rfl ?_
          obtain ⟨d57, hd57⟩ : ∃ z : UInt64, FP.dneg d54 = z := ⟨_, rfl⟩
          have iv57 : IsV d57 (-xx) := hd57 ▸ IsV.fneg iv54
          refine o_dneg X49 at_239 hd57 (q := 240) rfl ?_
          refine o_dload X49 at_240 rfl (q := 242) rfl ?_
          refine o_dcmp X49 at_242 (w := (cmpR (-xx) tt)) (IsV.cmpV iv57 iv56 _) (q := 243) rfl ?_
          refine o_ifN X49 at_243 (flt (fun q => absurd ((cmpR_gt _ _).mp q) (Rat.not_lt.mpr (by grind)))).2.2.1 (q := 246) rfl ?_
          refine o_iconst X49 at_246 (w := 1) rfl (q := 247) rfl ?_
          refine o_goto X49 at_247 (by decide) (q := 251) (by decide) ?_
          exact o_retN X49 at_251 (by simp) rfl (by decide) (by decide)
        · refine o_ifY X49 at_171 (feq hc171).2 (by decide) (q := 183) (by decide) ?_
          refine o_iload X49 at_183 rfl (q := 185) rfl ?_
          refine o_ifN X49 at_185 (by decide) (q := 188) rfl ?_
          refine o_dload X49 at_188 rfl (q := 190) rfl ?_
          refine o_dconst1 X49 at_190 (q := 191) rfl ?_
          refine o_dcmp X49 at_191 (w := (cmpR vv (1 : Rat))) (IsV.cmpV iVV IsV.one _) (q := 192) rfl ?_
          refine o_ifY X49 at_192 (feq (fun q => hS.s1 (by have := hlo.2; rw [← h_ct]; omega) (by rcases Int.lt_or_eq_of_le hn1.2 with h | h; exact h; exact absurd ((lw_eq _ _).mpr (Int64.toInt_inj.mp h)) hc171) ((cmpR_eq _ _).mp q))).2 (by decide) (q := 205) (by decide) ?_
          refine o_lload X49 at_205 rfl (q := 207) rfl ?_
          obtain ⟨d58, hd58⟩ : ∃ z : UInt64, FP.l2d ct = z := ⟨_, rfl⟩
          have iv58 : IsV d58 cc := hd58 ▸ iN
          refine o_l2d X49 at_207 hd58 (q := 208) rfl ?_
          refine o_dstore X49 at_208 rfl (L' := #[.val (.int p0), .val (.long p1), .second, .val (.long p2), .second, .val (.long p3), .second, .val (.int p4), .val (.int (1 : Int32)), .val (.long (255 : Int64)), .second, .val (.long aa), .second, .val (.long bb), .second, .val (.long ru), .second, .val (.long fl), .second, .val (.long en), .second, .val (.ref b42), .val (.double d49), .second, .val (.long ct), .second, .val (.double d58), .second, .unset, .unset, .unset, .unset]) rfl (q := 210) rfl ?_
          refine o_dload X49 at_210 rfl (q := 212) rfl ?_
          refine o_dload X49 at_212 rfl (q := 214) rfl ?_
          have hb1 := own_bp hS.v0 hS.v1 hS.c1 hS.c2
          obtain ⟨pp, iP, rP⟩ := IsV.mulR iVV iv58 (own_sml (by grind)) (own_big (by grind))
          obtain ⟨d59, hd59⟩ : ∃ z : UInt64, FP.dmul d49 d58 = z := ⟨_, rfl⟩
          have iv59 : IsV d59 pp := hd59 ▸ iP
          refine o_dmul X49 at_214 (hd59.symm ▸ iv59.nn) hd59 (q := 215) rfl ?_
          refine o_lload X49 at_215 rfl (q := 217) rfl ?_
          obtain ⟨d60, hd60⟩ : ∃ z : UInt64, FP.l2d fl = z := ⟨_, rfl⟩
          have iv60 : IsV d60 fF := hd60 ▸ iF
          refine o_l2d X49 at_217 hd60 (q := 218) rfl ?_
          have hp0 : 0 ≤ pp := rP.dn Rep.zero hb1.1
          have hp1 : pp ≤ 9223372036854775808 := rP.up own_R63 hb1.2
          have hF0 := hS.F0
          have hF2 : fF ≤ 9223372036854775808 := by have := hS.Fc; have := hS.c2; grind
          obtain ⟨xx, iX, rX⟩ := IsV.subR iv59 iv60 (own_sml (by grind)) (own_big (by grind))
          obtain ⟨d61, hd61⟩ : ∃ z : UInt64, FP.dsub d59 d60 = z := ⟨_, rfl⟩
          have iv61 : IsV d61 xx := hd61 ▸ iX
          refine o_dsub X49 at_218 (hd61.symm ▸ iv61.nn) hd61 (q := 219) rfl ?_
          refine o_dstore X49 at_219 rfl (L' := #[.val (.int p0), .val (.long p1), .second, .val (.long p2), .second, .val (.long p3), .second, .val (.int p4), .val (.int (1 : Int32)), .val (.long (255 : Int64)), .second, .val (.long aa), .second, .val (.long bb), .second, .val (.long ru), .second, .val (.long fl), .second, .val (.long en), .second, .val (.ref b42), .val (.double d49), .second, .val (.long ct), .second, .val (.double d58), .second, .val (.double d61), .second, .unset, .unset]) rfl (q := 221) rfl ?_
          refine o_dload X49 at_221 rfl (q := 223) rfl ?_
          have iv62 : IsV (4382569440205035030 : UInt64) ((2535301200456459 : Rat) / 2535301200456458802993406410752) := ⟨false, 5070602400912918, (-102), by decide +kernel, by decide +kernel⟩
          refine o_ldcD X49 (w38 hw) at_223 (q := 226) rfl ?_
          obtain ⟨kk, hkk⟩ : ∃ k : Rat, ((2535301200456459 : Rat) / 2535301200456458802993406410752) = k := ⟨_, rfl⟩
          have hk8 : 8 / 9007199254740992 ≤ kk := by rw [← hkk]; decide +kernel
          have hk1 : kk ≤ 1 := by rw [← hkk]; decide +kernel
          have hkc := own_bp (vv := kk) (by grind) hk1 hS.c1 hS.c2
          have hkc2 : 8 / 9007199254740992 ≤ cc * kk := by have := Rat.mul_le_mul_of_nonneg_right hS.c1 (show 0 ≤ kk by grind); grind
          obtain ⟨tt, iT, rT⟩ := IsV.mulR (y := kk) iv58 (hkk ▸ iv62) (own_sml (by grind)) (own_big (by grind))
          have hT := rT.2.2 (own_tiny (by grind))
          have hxT : pp - fF ≤ tt ∧ -tt ≤ pp - fF := by
            by_cases hf0 : fl.toInt = 0
            · have hv := hS.z1 hf0
              have hp : pp ≤ 0 := rP.up Rep.zero (by rw [hv, Rat.zero_mul]; grind)
              have hfF : fF ≤ 0 := rF.up Rep.zero (by rw [hf0]; decide +kernel)
              have ht : 0 ≤ tt := rT.dn Rep.zero (by grind)
              constructor <;> grind
            · have hv := hS.z2 hf0
              have h1 := rV.2.2 (own_tiny (own_dge (by have := hS.c1; grind) (by have := hS.F1 hf0; have := hS.c2; grind)))
              have h3 := rP.2.2 (own_tiny (by have := Rat.mul_le_mul_of_nonneg_left hS.c1 hS.v0; grind))
              exact own_tol hS.c1 hS.F0 hS.Fc h1.1 h1.2 h3.1 h3.2 hT.2 hk8
          have hxa : xx ≤ tt := rX.up rT.1 hxT.1
          have hxb : -tt ≤ xx := rX.dn rT.1.neg hxT.2
          obtain ⟨d63, hd63⟩ : ∃ z : UInt64, FP.dmul d58 (4382569440205035030 : UInt64) = z := ⟨_, rfl⟩
          have iv63 : IsV d63 tt := hd63 ▸ iT
          refine o_dmul X49 at_226 (hd63.symm ▸ iv63.nn) hd63 (q := 227) rfl ?_
          refine o_dstore X49 at_227 rfl (L' := #[.val (.int p0), .val (.long p1), .second, .val (.long p2), .second, .val (.long p3), .second, .val (.int p4), .val (.int (1 : Int32)), .val (.long (255 : Int64)), .second, .val (.long aa), .second, .val (.long bb), .second, .val (.long ru), .second, .val (.long fl), .second, .val (.long en), .second, .val (.ref b42), .val (.double d49), .second, .val (.long ct), .second, .val (.double d58), .second, .val (.double d61), .second, .val (.double d63), .second]) rfl (q := 229) rfl ?_
          refine o_dload X49 at_229 rfl (q := 231) rfl ?_
          refine o_dload X49 at_231 rfl (q := 233) rfl ?_
          refine o_dcmp X49 at_233 (w := (cmpR xx tt)) (IsV.cmpV iv61 iv63 _) (q := 234) rfl ?_
          refine o_ifN X49 at_234 (flt (fun q => absurd ((cmpR_gt _ _).mp q) (Rat.not_lt.mpr hxa))).2.2.1 (q := 237) rfl ?_
          refine o_dload X49 at_237 rfl (q := 239) rfl ?_
          obtain ⟨d64, hd64⟩ : ∃ z : UInt64, FP.dneg d61 = z := ⟨_, rfl⟩
          have iv64 : IsV d64 (-xx) := hd64 ▸ IsV.fneg iv61
          refine o_dneg X49 at_239 hd64 (q := 240) rfl ?_
          refine o_dload X49 at_240 rfl (q := 242) rfl ?_
          refine o_dcmp X49 at_242 (w := (cmpR (-xx) tt)) (IsV.cmpV iv64 iv63 _) (q := 243) rfl ?_
          refine o_ifN X49 at_243 (flt (fun q => absurd ((cmpR_gt _ _).mp q) (Rat.not_lt.mpr (by grind)))).2.2.1 (q := 246) rfl ?_
          refine o_iconst X49 at_246 (w := 1) rfl (q := 247) rfl ?_
          refine o_goto X49 at_247 (by decide) (q := 251) (by decide) ?_
          exact o_retN X49 at_251 (by simp) rfl (by decide) (by decide)
      · refine o_ifY X49 at_141 (feq hc141).2 (by decide) (q := 148) (by decide) ?_
        refine o_iconst X49 at_148 (w := 0) rfl (q := 149) rfl ?_
        refine o_lload X49 at_149 rfl (q := 151) rfl ?_
        refine o_lconst X49 at_151 (w := 0) rfl (q := 152) rfl ?_
        refine o_lcmp X49 at_152 (w := (lcmpW fl (0 : Int64))) rfl (q := 153) rfl ?_
        refine o_ifY X49 at_153 (feq (fun q => hc141 ((cmpR_eq _ _).mpr (hS.z1 (by rw [(lw_eq _ _).mp q]; rfl))))).2 (by decide) (q := 160) (by decide) ?_
        refine o_iconst X49 at_160 (w := 0) rfl (q := 161) rfl ?_
        refine o_icmpY X49 at_161 (by decide) (by decide) (q := 166) (by decide) ?_
        refine o_lload X49 at_166 rfl (q := 168) rfl ?_
        refine o_lload X49 at_168 rfl (q := 170) rfl ?_
        refine o_lcmp X49 at_170 (w := (lcmpW fl ct)) rfl (q := 171) rfl ?_
        by_cases hc171 : (lcmpW fl ct) = (0 : Int32)
        · refine o_ifN X49 at_171 (teq hc171).2 (q := 174) rfl ?_
          refine o_dload X49 at_174 rfl (q := 176) rfl ?_
          refine o_dconst1 X49 at_176 (q := 177) rfl ?_
          refine o_dcmp X49 at_177 (w := (cmpR vv (1 : Rat))) (IsV.cmpV iVV IsV.one _) (q := 178) rfl ?_
          refine o_ifY X49 at_178 (teq ((cmpR_eq _ _).mpr (hS.e1 (by rw [(lw_eq _ _).mp hc171])))).1 (by decide) (q := 183) (by decide) ?_
          refine o_iload X49 at_183 rfl (q := 185) rfl ?_
          refine o_ifN X49 at_185 (by decide) (q := 188) rfl ?_
          refine o_dload X49 at_188 rfl (q := 190) rfl ?_
          refine o_dconst1 X49 at_190 (q := 191) rfl ?_
          refine o_dcmp X49 at_191 (w := (cmpR vv (1 : Rat))) (IsV.cmpV iVV IsV.one _) (q := 192) rfl ?_
          refine o_ifN X49 at_192 (teq ((cmpR_eq _ _).mpr (hS.e1 (by rw [(lw_eq _ _).mp hc171])))).2 (q := 195) rfl ?_
          refine o_lload X49 at_195 rfl (q := 197) rfl ?_
          refine o_lload X49 at_197 rfl (q := 199) rfl ?_
          refine o_lcmp X49 at_199 (w := (lcmpW fl ct)) rfl (q := 200) rfl ?_
          refine o_ifY X49 at_200 (teq hc171).1 (by decide) (q := 205) (by decide) ?_
          refine o_lload X49 at_205 rfl (q := 207) rfl ?_
          obtain ⟨d65, hd65⟩ : ∃ z : UInt64, FP.l2d ct = z := ⟨_, rfl⟩
          have iv65 : IsV d65 cc := hd65 ▸ iN
          refine o_l2d X49 at_207 hd65 (q := 208) rfl ?_
          refine o_dstore X49 at_208 rfl (L' := #[.val (.int p0), .val (.long p1), .second, .val (.long p2), .second, .val (.long p3), .second, .val (.int p4), .val (.int (1 : Int32)), .val (.long (255 : Int64)), .second, .val (.long aa), .second, .val (.long bb), .second, .val (.long ru), .second, .val (.long fl), .second, .val (.long en), .second, .val (.ref b42), .val (.double d49), .second, .val (.long ct), .second, .val (.double d65), .second, .unset, .unset, .unset, .unset]) rfl (q := 210) rfl ?_
          refine o_dload X49 at_210 rfl (q := 212) rfl ?_
          refine o_dload X49 at_212 rfl (q := 214) rfl ?_
          have hb1 := own_bp hS.v0 hS.v1 hS.c1 hS.c2
          obtain ⟨pp, iP, rP⟩ := IsV.mulR iVV iv65 (own_sml (by grind)) (own_big (by grind))
          obtain ⟨d66, hd66⟩ : ∃ z : UInt64, FP.dmul d49 d65 = z := ⟨_, rfl⟩
          have iv66 : IsV d66 pp := hd66 ▸ iP
          refine o_dmul X49 at_214 (hd66.symm ▸ iv66.nn) hd66 (q := 215) rfl ?_
          refine o_lload X49 at_215 rfl (q := 217) rfl ?_
          obtain ⟨d67, hd67⟩ : ∃ z : UInt64, FP.l2d fl = z := ⟨_, rfl⟩
          have iv67 : IsV d67 fF := hd67 ▸ iF
          refine o_l2d X49 at_217 hd67 (q := 218) rfl ?_
          have hp0 : 0 ≤ pp := rP.dn Rep.zero hb1.1
          have hp1 : pp ≤ 9223372036854775808 := rP.up own_R63 hb1.2
          have hF0 := hS.F0
          have hF2 : fF ≤ 9223372036854775808 := by have := hS.Fc; have := hS.c2; grind
          obtain ⟨xx, iX, rX⟩ := IsV.subR iv66 iv67 (own_sml (by grind)) (own_big (by grind))
          obtain ⟨d68, hd68⟩ : ∃ z : UInt64, FP.dsub d66 d67 = z := ⟨_, rfl⟩
          have iv68 : IsV d68 xx := hd68 ▸ iX
          refine o_dsub X49 at_218 (hd68.symm ▸ iv68.nn) hd68 (q := 219) rfl ?_
          refine o_dstore X49 at_219 rfl (L' := #[.val (.int p0), .val (.long p1), .second, .val (.long p2), .second, .val (.long p3), .second, .val (.int p4), .val (.int (1 : Int32)), .val (.long (255 : Int64)), .second, .val (.long aa), .second, .val (.long bb), .second, .val (.long ru), .second, .val (.long fl), .second, .val (.long en), .second, .val (.ref b42), .val (.double d49), .second, .val (.long ct), .second, .val (.double d65), .second, .val (.double d68), .second, .unset, .unset]) rfl (q := 221) rfl ?_
          refine o_dload X49 at_221 rfl (q := 223) rfl ?_
          have iv69 : IsV (4382569440205035030 : UInt64) ((2535301200456459 : Rat) / 2535301200456458802993406410752) := ⟨false, 5070602400912918, (-102), by decide +kernel, by decide +kernel⟩
          refine o_ldcD X49 (w38 hw) at_223 (q := 226) rfl ?_
          obtain ⟨kk, hkk⟩ : ∃ k : Rat, ((2535301200456459 : Rat) / 2535301200456458802993406410752) = k := ⟨_, rfl⟩
          have hk8 : 8 / 9007199254740992 ≤ kk := by rw [← hkk]; decide +kernel
          have hk1 : kk ≤ 1 := by rw [← hkk]; decide +kernel
          have hkc := own_bp (vv := kk) (by grind) hk1 hS.c1 hS.c2
          have hkc2 : 8 / 9007199254740992 ≤ cc * kk := by have := Rat.mul_le_mul_of_nonneg_right hS.c1 (show 0 ≤ kk by grind); grind
          obtain ⟨tt, iT, rT⟩ := IsV.mulR (y := kk) iv65 (hkk ▸ iv69) (own_sml (by grind)) (own_big (by grind))
          have hT := rT.2.2 (own_tiny (by grind))
          have hxT : pp - fF ≤ tt ∧ -tt ≤ pp - fF := by
            by_cases hf0 : fl.toInt = 0
            · have hv := hS.z1 hf0
              have hp : pp ≤ 0 := rP.up Rep.zero (by rw [hv, Rat.zero_mul]; grind)
              have hfF : fF ≤ 0 := rF.up Rep.zero (by rw [hf0]; decide +kernel)
              have ht : 0 ≤ tt := rT.dn Rep.zero (by grind)
              constructor <;> grind
            · have hv := hS.z2 hf0
              have h1 := rV.2.2 (own_tiny (own_dge (by have := hS.c1; grind) (by have := hS.F1 hf0; have := hS.c2; grind)))
              have h3 := rP.2.2 (own_tiny (by have := Rat.mul_le_mul_of_nonneg_left hS.c1 hS.v0; grind))
              exact own_tol hS.c1 hS.F0 hS.Fc h1.1 h1.2 h3.1 h3.2 hT.2 hk8
          have hxa : xx ≤ tt := rX.up rT.1 hxT.1
          have hxb : -tt ≤ xx := rX.dn rT.1.neg hxT.2
          obtain ⟨d70, hd70⟩ : ∃ z : UInt64, FP.dmul d65 (4382569440205035030 : UInt64) = z := ⟨_, rfl⟩
          have iv70 : IsV d70 tt := hd70 ▸ iT
          refine o_dmul X49 at_226 (hd70.symm ▸ iv70.nn) hd70 (q := 227) rfl ?_
          refine o_dstore X49 at_227 rfl (L' := #[.val (.int p0), .val (.long p1), .second, .val (.long p2), .second, .val (.long p3), .second, .val (.int p4), .val (.int (1 : Int32)), .val (.long (255 : Int64)), .second, .val (.long aa), .second, .val (.long bb), .second, .val (.long ru), .second, .val (.long fl), .second, .val (.long en), .second, .val (.ref b42), .val (.double d49), .second, .val (.long ct), .second, .val (.double d65), .second, .val (.double d68), .second, .val (.double d70), .second]) rfl (q := 229) rfl ?_
          refine o_dload X49 at_229 rfl (q := 231) rfl ?_
          refine o_dload X49 at_231 rfl (q := 233) rfl ?_
          refine o_dcmp X49 at_233 (w := (cmpR xx tt)) (IsV.cmpV iv68 iv70 _) (q := 234) rfl ?_
          refine o_ifN X49 at_234 (flt (fun q => absurd ((cmpR_gt _ _).mp q) (Rat.not_lt.mpr hxa))).2.2.1 (q := 237) rfl ?_
          refine o_dload X49 at_237 rfl (q := 239) rfl ?_
          obtain ⟨d71, hd71⟩ : ∃ z : UInt64, FP.dneg d68 = z := ⟨_, rfl⟩
          have iv71 : IsV d71 (-xx) := hd71 ▸ IsV.fneg iv68
          refine o_dneg X49 at_239 hd71 (q := 240) rfl ?_
          refine o_dload X49 at_240 rfl (q := 242) rfl ?_
          refine o_dcmp X49 at_242 (w := (cmpR (-xx) tt)) (IsV.cmpV iv71 iv70 _) (q := 243) rfl ?_
          refine o_ifN X49 at_243 (flt (fun q => absurd ((cmpR_gt _ _).mp q) (Rat.not_lt.mpr (by grind)))).2.2.1 (q := 246) rfl ?_
          refine o_iconst X49 at_246 (w := 1) rfl (q := 247) rfl ?_
          refine o_goto X49 at_247 (by decide) (q := 251) (by decide) ?_
          exact o_retN X49 at_251 (by simp) rfl (by decide) (by decide)
        · refine o_ifY X49 at_171 (feq hc171).2 (by decide) (q := 183) (by decide) ?_
          refine o_iload X49 at_183 rfl (q := 185) rfl ?_
          refine o_ifN X49 at_185 (by decide) (q := 188) rfl ?_
          refine o_dload X49 at_188 rfl (q := 190) rfl ?_
          refine o_dconst1 X49 at_190 (q := 191) rfl ?_
          refine o_dcmp X49 at_191 (w := (cmpR vv (1 : Rat))) (IsV.cmpV iVV IsV.one _) (q := 192) rfl ?_
          refine o_ifY X49 at_192 (feq (fun q => hS.s1 (by have := hlo.2; rw [← h_ct]; omega) (by rcases Int.lt_or_eq_of_le hn1.2 with h | h; exact h; exact absurd ((lw_eq _ _).mpr (Int64.toInt_inj.mp h)) hc171) ((cmpR_eq _ _).mp q))).2 (by decide) (q := 205) (by decide) ?_
          refine o_lload X49 at_205 rfl (q := 207) rfl ?_
          obtain ⟨d72, hd72⟩ : ∃ z : UInt64, FP.l2d ct = z := ⟨_, rfl⟩
          have iv72 : IsV d72 cc := hd72 ▸ iN
          refine o_l2d X49 at_207 hd72 (q := 208) rfl ?_
          refine o_dstore X49 at_208 rfl (L' := #[.val (.int p0), .val (.long p1), .second, .val (.long p2), .second, .val (.long p3), .second, .val (.int p4), .val (.int (1 : Int32)), .val (.long (255 : Int64)), .second, .val (.long aa), .second, .val (.long bb), .second, .val (.long ru), .second, .val (.long fl), .second, .val (.long en), .second, .val (.ref b42), .val (.double d49), .second, .val (.long ct), .second, .val (.double d72), .second, .unset, .unset, .unset, .unset]) rfl (q := 210) rfl ?_
          refine o_dload X49 at_210 rfl (q := 212) rfl ?_
          refine o_dload X49 at_212 rfl (q := 214) rfl ?_
          have hb1 := own_bp hS.v0 hS.v1 hS.c1 hS.c2
          obtain ⟨pp, iP, rP⟩ := IsV.mulR iVV iv72 (own_sml (by grind)) (own_big (by grind))
          obtain ⟨d73, hd73⟩ : ∃ z : UInt64, FP.dmul d49 d72 = z := ⟨_, rfl⟩
          have iv73 : IsV d73 pp := hd73 ▸ iP
          refine o_dmul X49 at_214 (hd73.symm ▸ iv73.nn) hd73 (q := 215) rfl ?_
          refine o_lload X49 at_215 rfl (q := 217) rfl ?_
          obtain ⟨d74, hd74⟩ : ∃ z : UInt64, FP.l2d fl = z := ⟨_, rfl⟩
          have iv74 : IsV d74 fF := hd74 ▸ iF
          refine o_l2d X49 at_217 hd74 (q := 218) rfl ?_
          have hp0 : 0 ≤ pp := rP.dn Rep.zero hb1.1
          have hp1 : pp ≤ 9223372036854775808 := rP.up own_R63 hb1.2
          have hF0 := hS.F0
          have hF2 : fF ≤ 9223372036854775808 := by have := hS.Fc; have := hS.c2; grind
          obtain ⟨xx, iX, rX⟩ := IsV.subR iv73 iv74 (own_sml (by grind)) (own_big (by grind))
          obtain ⟨d75, hd75⟩ : ∃ z : UInt64, FP.dsub d73 d74 = z := ⟨_, rfl⟩
          have iv75 : IsV d75 xx := hd75 ▸ iX
          refine o_dsub X49 at_218 (hd75.symm ▸ iv75.nn) hd75 (q := 219) rfl ?_
          refine o_dstore X49 at_219 rfl (L' := #[.val (.int p0), .val (.long p1), .second, .val (.long p2), .second, .val (.long p3), .second, .val (.int p4), .val (.int (1 : Int32)), .val (.long (255 : Int64)), .second, .val (.long aa), .second, .val (.long bb), .second, .val (.long ru), .second, .val (.long fl), .second, .val (.long en), .second, .val (.ref b42), .val (.double d49), .second, .val (.long ct), .second, .val (.double d72), .second, .val (.double d75), .second, .unset, .unset]) rfl (q := 221) rfl ?_
          refine o_dload X49 at_221 rfl (q := 223) rfl ?_
          have iv76 : IsV (4382569440205035030 : UInt64) ((2535301200456459 : Rat) / 2535301200456458802993406410752) := ⟨false, 5070602400912918, (-102), by decide +kernel, by decide +kernel⟩
          refine o_ldcD X49 (w38 hw) at_223 (q := 226) rfl ?_
          obtain ⟨kk, hkk⟩ : ∃ k : Rat, ((2535301200456459 : Rat) / 2535301200456458802993406410752) = k := ⟨_, rfl⟩
          have hk8 : 8 / 9007199254740992 ≤ kk := by rw [← hkk]; decide +kernel
          have hk1 : kk ≤ 1 := by rw [← hkk]; decide +kernel
          have hkc := own_bp (vv := kk) (by grind) hk1 hS.c1 hS.c2
          have hkc2 : 8 / 9007199254740992 ≤ cc * kk := by have := Rat.mul_le_mul_of_nonneg_right hS.c1 (show 0 ≤ kk by grind); grind
          obtain ⟨tt, iT, rT⟩ := IsV.mulR (y := kk) iv72 (hkk ▸ iv76) (own_sml (by grind)) (own_big (by grind))
          have hT := rT.2.2 (own_tiny (by grind))
          have hxT : pp - fF ≤ tt ∧ -tt ≤ pp - fF := by
            by_cases hf0 : fl.toInt = 0
            · have hv := hS.z1 hf0
              have hp : pp ≤ 0 := rP.up Rep.zero (by rw [hv, Rat.zero_mul]; grind)
              have hfF : fF ≤ 0 := rF.up Rep.zero (by rw [hf0]; decide +kernel)
              have ht : 0 ≤ tt := rT.dn Rep.zero (by grind)
              constructor <;> grind
            · have hv := hS.z2 hf0
              have h1 := rV.2.2 (own_tiny (own_dge (by have := hS.c1; grind) (by have := hS.F1 hf0; have := hS.c2; grind)))
              have h3 := rP.2.2 (own_tiny (by have := Rat.mul_le_mul_of_nonneg_left hS.c1 hS.v0; grind))
              exact own_tol hS.c1 hS.F0 hS.Fc h1.1 h1.2 h3.1 h3.2 hT.2 hk8
          have hxa : xx ≤ tt := rX.up rT.1 hxT.1
          have hxb : -tt ≤ xx := rX.dn rT.1.neg hxT.2
          obtain ⟨d77, hd77⟩ : ∃ z : UInt64, FP.dmul d72 (4382569440205035030 : UInt64) = z := ⟨_, rfl⟩
          have iv77 : IsV d77 tt := hd77 ▸ iT
          refine o_dmul X49 at_226 (hd77.symm ▸ iv77.nn) hd77 (q := 227) rfl ?_
          refine o_dstore X49 at_227 rfl (L' := #[.val (.int p0), .val (.long p1), .second, .val (.long p2), .second, .val (.long p3), .second, .val (.int p4), .val (.int (1 : Int32)), .val (.long (255 : Int64)), .second, .val (.long aa), .second, .val (.long bb), .second, .val (.long ru), .second, .val (.long fl), .second, .val (.long en), .second, .val (.ref b42), .val (.double d49), .second, .val (.long ct), .second, .val (.double d72), .second, .val (.double d75), .second, .val (.double d77), .second]) rfl (q := 229) rfl ?_
          refine o_dload X49 at_229 rfl (q := 231) rfl ?_
          refine o_dload X49 at_231 rfl (q := 233) rfl ?_
          refine o_dcmp X49 at_233 (w := (cmpR xx tt)) (IsV.cmpV iv75 iv77 _) (q := 234) rfl ?_
          refine o_ifN X49 at_234 (flt (fun q => absurd ((cmpR_gt _ _).mp q) (Rat.not_lt.mpr hxa))).2.2.1 (q := 237) rfl ?_
          refine o_dload X49 at_237 rfl (q := 239) rfl ?_
          obtain ⟨d78, hd78⟩ : ∃ z : UInt64, FP.dneg d75 = z := ⟨_, rfl⟩
          have iv78 : IsV d78 (-xx) := hd78 ▸ IsV.fneg iv75
          refine o_dneg X49 at_239 hd78 (q := 240) rfl ?_
          refine o_dload X49 at_240 rfl (q := 242) rfl ?_
          refine o_dcmp X49 at_242 (w := (cmpR (-xx) tt)) (IsV.cmpV iv78 iv77 _) (q := 243) rfl ?_
          refine o_ifN X49 at_243 (flt (fun q => absurd ((cmpR_gt _ _).mp q) (Rat.not_lt.mpr (by grind)))).2.2.1 (q := 246) rfl ?_
          refine o_iconst X49 at_246 (w := 1) rfl (q := 247) rfl ?_
          refine o_goto X49 at_247 (by decide) (q := 251) (by decide) ?_
          exact o_retN X49 at_251 (by simp) rfl (by decide) (by decide)
set_option maxRecDepth 65536 in
set_option maxHeartbeats 40000000 in
theorem comes_1 {Post : Tables → Env → Array Value → State → Outcome → State → Prop} (hpost : ∀ tb e args s v u, (limb_1_1.after args s (.returned v) u = true ∧ limb_1_2.after args s (.returned v) u = true ∧ True) → FrameEnd s (.returned v) u (Jvm.fieldLocs frame_1_writes args s ++ Jvm.arrayLocs frame_1_arrays args s ++ Jvm.staticLocs frame_1_statics s) 16 128 → Post tb e args s (.returned v) u) :
    ArmFor flags0 classFile x code maxLocals ret World_1 tables_1 room_1 Calls_1 rest_1 Pre_1 Post := by
  intro l hfl _ _ p e ha hc hk s m args below hf hA hF happ hP
  obtain ⟨hcalls, hrest, hpre⟩ := hP
  obtain ⟨-, -, -, hnamed, -, -, -, hat⟩ := (Spec.applies_iff hf).mp happ
  obtain ⟨hg, hn⟩ := and_e (Cond.before_iff.mp (show (Jvm.Cond.and given_1 narrow_1).before args s = true from hpre))
  obtain ⟨hcount, hg0⟩ := and_e hg
  obtain ⟨ga0, hg1⟩ := and_e hg0
  obtain ⟨ga1, hg2⟩ := and_e hg1
  obtain ⟨ga2, hg3⟩ := and_e hg2
  obtain ⟨ga3, hg4⟩ := and_e hg3
  obtain ⟨w0, w1, w2, w3, w4, rfl⟩ : ∃ w0 w1 w2 w3 w4 : Value, args = #[w0, w1, w2, w3, w4] := by
    have hs : args.size = 5 := by simpa [Cond.value, given_1] using hcount
    obtain ⟨L⟩ := args
    match L, hs with
    | [w0, w1, w2, w3, w4], _ => exact ⟨w0, w1, w2, w3, w4, rfl⟩
  have hw : W _ s := fun d (hd : d ∈ tables_1) => atoms_spec (ws := Jvm.Cond.code x code maxLocals ret :: tables_1) hat d (List.mem_cons_of_mem _ hd)
  obtain ⟨i0, ei0⟩ := is_v ga0
  obtain rfl : w0 = (.int i0) := Option.some.inj ei0
  obtain ⟨i1, ei1⟩ := isL_v ga1
  obtain rfl : w1 = (.long i1) := Option.some.inj ei1
  obtain ⟨i2, ei2⟩ := isL_v ga2
  obtain rfl : w2 = (.long i2) := Option.some.inj ei2
  obtain ⟨i3, ei3⟩ := isL_v ga3
  obtain rfl : w3 = (.long i3) := Option.some.inj ei3
  obtain ⟨i4, ei4⟩ := is_v hg4
  obtain rfl : w4 = (.int i4) := Option.some.inj ei4
  obtain ⟨n, o, h1, h2, h3, v, L, rfl, ⟨hQ, hN, -⟩, hq⟩ := c_law (l := l) hw i0 i1 i2 i3 i4 ⟨Nat.le_refl _, fun _ _ q => q⟩ tables_1 p e ha hc hk s m _ below hf ((Spec.applies_iff_loose hf).mp happ).1 ⟨rfl, State.Warmed39.refl s, rfl⟩ trivial
  subst hQ
  refine ⟨n, _, h1, h2, h3, hpost _ _ _ _ _ _ ⟨Cond.after_iff.mpr rfl, Cond.after_iff.mpr (eq_i res_at (Term.int_eval (1)) rfl), trivial⟩ ⟨hq.1, hq.2.1, (hq.2.2.sift fun y hy => Or.inr (hN y hy)).mono (by decide) (by decide)⟩⟩
theorem main_1_1 : Claimed_1_1 := comes_1 fun _ _ _ _ _ _ h hF => ⟨h.1, hF⟩
theorem main_1_2 : Claimed_1_2 := comes_1 fun _ _ _ _ _ _ h hF => ⟨h.2.1, hF⟩
end Jvm.Pilot.@@N@@
namespace Jvm.Pilot.@@N@@
open Jvm Jvm.ClassFile Sem Op Lib Jvm.Free Jvm.Stand Jvm.Pilot.@@N@@.Jvm.D
/-! MADE BY PROGRAM (witnessworld.py) out of the Statement's table words and the real class files: 11 classes; the members and pool entries that the words name. The judged class is class 1, her method 1. -/
namespace start1
open Jvm.ClassFile
def u (s : String) : CpInfo := .utf8 (stringToUtf16 s)
/-- a pool by its gaps: so many unusable entries, then the entry; so many at the end -/
def gap : Nat → List CpInfo → List CpInfo
  | 0, r => r
  | n + 1, r => .unusable :: gap n r
def poolList (es : List (Nat × CpInfo)) (last : Nat) : List CpInfo := es.foldr (fun e r => gap e.1 (e.2 :: r)) (gap last [])
def pool (es : List (Nat × CpInfo)) (last : Nat) : Array CpInfo := ⟨poolList es last⟩
def fileOf (pool : Array CpInfo) (this : Nat) (attrs : Array Attribute := #[]) (ms : Array MethodInfo := #[]) (fl : Nat := 33) (sup : Nat := 0) (ifs : Array Nat := #[]) (fds : Array FieldInfo := #[]) : ClassFile where
  minorVersion := 0
  majorVersion := 65
  constantPool := pool
  accessFlags := fl
  thisClass := this
  superClass := sup
  interfaces := ifs
  fields := fds
  methods := ms
  attributes := attrs
def plain (name : String) (sup : Option ClassId) : Class where
  name := name
  kind := .ordinary
  loader := none
  accessFlags := 33
  super := sup
  interfaces := #[]
  cf := none
  fields := #[]
  methods := #[]
  instanceTypes := #[]
  staticTypes := #[]
  resolved := #[]
  callSites := []
  init := .initialized
  statics := none
  mirror := none

def pool0 : Array CpInfo := pool [(5, u "<init>"), (0, u "()V"), (1, .class_ 10), (1, u "java/lang/Object")] 113

def k0c0 : Code := { maxStack := 0, maxLocals := 1, code := object_method_1_code, exceptionTable := #[], attributes := #[] }
def k0m0 : Method := { name := "<init>", desc := "()V", sig := { parameters := [], returnType := none }, accessFlags := 1, code := some k0c0 }
/-- java/lang/Object -/
def k0 : Class := { plain "java/lang/Object" none with
  accessFlags := 33
  interfaces := #[]
  cf := some (fileOf pool0 8 #[] #[{ accessFlags := 1, nameIndex := 5, descriptorIndex := 6, attributes := #[] }] 33 0 #[] #[])
  fields := #[]
  methods := #[k0m0]
  instanceTypes := #[]
  staticTypes := #[]
  resolved := Array.replicate 124 none
  statics := none }

def pool1 : Array CpInfo := pool [(2, .class_ 4), (1, u "java/lang/Object"), (0, u "<init>"), (0, u "()V"), (0, .long 255), (1, .long 4611686018427387903), (1, .methodref 12 13), (0, .class_ 14), (0, .nameAndType 15 16), (0, u "java/lang/Math"), (0, u "min"), (0, u "(JJ)J"), (0, .methodref 12 18), (0, .nameAndType 19 16), (0, u "max"), (0, .class_ 21), (0, u "com/example/tolerant_workflows/tolerantworkflows/healing/FailureDegree"), (0, .methodref 12 23), (0, .nameAndType 19 24), (0, u "(II)I"), (0, .methodref 20 26), (0, .nameAndType 5 27), (0, u "(IJJJ)V"), (0, .methodref 20 29), (0, .nameAndType 30 31), (0, u "value"), (0, u "()D"), (0, .double 4382569440205035030), (1, .class_ 35), (0, u "com/example/tolerant_workflows/tolerantworkflows/healing/FailureDegreeValuePinLaw"), (2, u "law"), (0, u "(IJJJI)Z")] 3

def k1m0 : Method := { name := "<init>", desc := "()V", sig := { parameters := [], returnType := none }, accessFlags := 1, code := none }
def k1c1 : Code := { maxStack := 9, maxLocals := 32, code := code, exceptionTable := #[], attributes := #[] }
def k1m1 : Method := { name := "law", desc := "(IJJJI)Z", sig := { parameters := [.int, .long, .long, .long, .int], returnType := some .boolean }, accessFlags := 9, code := some k1c1 }
/-- com/example/tolerant_workflows/tolerantworkflows/healing/FailureDegreeValuePinLaw -/
def k1 : Class := { plain "com/example/tolerant_workflows/tolerantworkflows/healing/FailureDegreeValuePinLaw" (some 0) with
  accessFlags := 49
  interfaces := #[]
  cf := some (fileOf pool1 34 #[] #[{ accessFlags := 1, nameIndex := 5, descriptorIndex := 6, attributes := #[] }, { accessFlags := 9, nameIndex := 38, descriptorIndex := 39, attributes := #[] }] 49 2 #[] #[])
  fields := #[]
  methods := #[k1m0, k1m1]
  instanceTypes := #[]
  staticTypes := #[]
  resolved := Array.replicate 43 none
  statics := none }

def pool2 : Array CpInfo := pool [(1, .class_ 2), (0, u "java/lang/Math"), (1, .class_ 6), (1, u "java/lang/Object"), (0, u "<init>"), (0, u "()V"), (89, .class_ 100), (1, u "java/lang/Math$RandomNumberGeneratorHolder"), (20, u "(JJ)J"), (50, u "negativeZeroFloatBits"), (0, u "J"), (2, u "negativeZeroDoubleBits"), (21, u "max"), (2, u "min"), (43, u "$assertionsDisabled"), (0, u "Z"), (88, u "(II)I"), (2, u "twoToTheDoubleScaleDown"), (0, u "D"), (4, u "twoToTheDoubleScaleUp"), (9, u "E"), (3, u "PI"), (2, u "TAU"), (2, u "DEGREES_TO_RADIANS"), (0, u "RADIANS_TO_DEGREES")] 94

def k2m0 : Method := { name := "<init>", desc := "()V", sig := { parameters := [], returnType := none }, accessFlags := 2, code := none }
def k2c1 : Code := { maxStack := 2, maxLocals := 2, code := jdk_29_method_65_code, exceptionTable := #[], attributes := #[] }
def k2m1 : Method := { name := "max", desc := "(II)I", sig := { parameters := [.int, .int], returnType := some .int }, accessFlags := 9, code := some k2c1 }
def k2c2 : Code := { maxStack := 4, maxLocals := 4, code := jdk_29_method_66_code, exceptionTable := #[], attributes := #[] }
def k2m2 : Method := { name := "max", desc := "(JJ)J", sig := { parameters := [.long, .long], returnType := some .long }, accessFlags := 9, code := some k2c2 }
def k2c3 : Code := { maxStack := 4, maxLocals := 4, code := jdk_29_method_70_code, exceptionTable := #[], attributes := #[] }
def k2m3 : Method := { name := "min", desc := "(JJ)J", sig := { parameters := [.long, .long], returnType := some .long }, accessFlags := 9, code := some k2c3 }
/-- java/lang/Math -/
def k2 : Class := { plain "java/lang/Math" (some 0) with
  accessFlags := 49
  interfaces := #[]
  cf := some (fileOf pool2 1 #[.nestMembers #[98]] #[{ accessFlags := 2, nameIndex := 7, descriptorIndex := 8, attributes := #[] }, { accessFlags := 9, nameIndex := 198, descriptorIndex := 335, attributes := #[] }, { accessFlags := 9, nameIndex := 198, descriptorIndex := 121, attributes := #[] }, { accessFlags := 9, nameIndex := 201, descriptorIndex := 121, attributes := #[] }] 49 4 #[] #[{ accessFlags := 25, nameIndex := 354, descriptorIndex := 339, attributes := #[] }, { accessFlags := 25, nameIndex := 358, descriptorIndex := 339, attributes := #[] }, { accessFlags := 25, nameIndex := 361, descriptorIndex := 339, attributes := #[] }, { accessFlags := 26, nameIndex := 364, descriptorIndex := 339, attributes := #[] }, { accessFlags := 26, nameIndex := 365, descriptorIndex := 339, attributes := #[] }, { accessFlags := 26, nameIndex := 172, descriptorIndex := 173, attributes := #[] }, { accessFlags := 26, nameIndex := 176, descriptorIndex := 173, attributes := #[] }, { accessFlags := 8, nameIndex := 344, descriptorIndex := 339, attributes := #[] }, { accessFlags := 8, nameIndex := 338, descriptorIndex := 339, attributes := #[] }, { accessFlags := 4120, nameIndex := 245, descriptorIndex := 246, attributes := #[] }])
  fields := #[{ name := "E", type := .double, accessFlags := 25, slot := 0, constantValue := 0 }, { name := "PI", type := .double, accessFlags := 25, slot := 1, constantValue := 0 }, { name := "TAU", type := .double, accessFlags := 25, slot := 2, constantValue := 0 }, { name := "DEGREES_TO_RADIANS", type := .double, accessFlags := 26, slot := 3, constantValue := 0 }, { name := "RADIANS_TO_DEGREES", type := .double, accessFlags := 26, slot := 4, constantValue := 0 }, { name := "negativeZeroFloatBits", type := .long, accessFlags := 26, slot := 5, constantValue := 0 }, { name := "negativeZeroDoubleBits", type := .long, accessFlags := 26, slot := 6, constantValue := 0 }, { name := "twoToTheDoubleScaleUp", type := .double, accessFlags := 8, slot := 7, constantValue := 0 }, { name := "twoToTheDoubleScaleDown", type := .double, accessFlags := 8, slot := 8, constantValue := 0 }, { name := "$assertionsDisabled", type := .boolean, accessFlags := 4120, slot := 9, constantValue := 0 }]
  methods := #[k2m0, k2m1, k2m2, k2m3]
  instanceTypes := #[]
  staticTypes := #[.double, .double, .double, .double, .double, .long, .long, .double, .double, .boolean]
  resolved := Array.replicate 460 none
  statics := none }

def pool3 : Array CpInfo := pool [(1, .methodref 2 3), (0, .class_ 4), (0, .nameAndType 5 6), (0, u "java/lang/Object"), (0, u "<init>"), (0, u "()V"), (0, .class_ 8), (0, u "java/lang/Record")] 13

def k3c0 : Code := { maxStack := 1, maxLocals := 1, code := jdk_30_method_1_code, exceptionTable := #[], attributes := #[] }
def k3m0 : Method := { name := "<init>", desc := "()V", sig := { parameters := [], returnType := none }, accessFlags := 4, code := some k3c0 }
/-- java/lang/Record -/
def k3 : Class := { plain "java/lang/Record" (some 0) with
  accessFlags := 1057
  interfaces := #[]
  cf := some (fileOf pool3 7 #[] #[{ accessFlags := 4, nameIndex := 5, descriptorIndex := 6, attributes := #[] }] 1057 2 #[] #[])
  fields := #[]
  methods := #[k3m0]
  instanceTypes := #[]
  staticTypes := #[]
  resolved := Array.replicate 22 none
  statics := none }

def pool4 : Array CpInfo := pool [(1, .methodref 2 3), (0, .class_ 4), (0, .nameAndType 5 6), (0, u "java/lang/Record"), (0, u "<init>"), (0, u "()V"), (12, .fieldref 20 21), (0, .class_ 22), (0, .nameAndType 23 24), (0, u "com/example/tolerant_workflows/tolerantworkflows/healing/FailureDegree"), (0, u "level"), (0, u "I"), (0, .fieldref 20 26), (0, .nameAndType 27 28), (0, u "failed"), (0, u "J"), (0, .fieldref 20 30), (0, .nameAndType 31 28), (0, u "ended"), (0, .fieldref 20 33), (0, .nameAndType 34 28), (0, u "running"), (26, u "(IJJJ)V"), (4, u "value"), (0, u "()D")] 39

def k4c0 : Code := { maxStack := 8, maxLocals := 8, code := prog_28_method_1_code, exceptionTable := #[], attributes := #[] }
def k4m0 : Method := { name := "<init>", desc := "(IJJJ)V", sig := { parameters := [.int, .long, .long, .long], returnType := none }, accessFlags := 1, code := some k4c0 }
def k4c1 : Code := { maxStack := 4, maxLocals := 3, code := prog_28_method_2_code, exceptionTable := #[], attributes := #[] }
def k4m1 : Method := { name := "value", desc := "()D", sig := { parameters := [], returnType := some .double }, accessFlags := 1, code := some k4c1 }
/-- com/example/tolerant_workflows/tolerantworkflows/healing/FailureDegree -/
def k4 : Class := { plain "com/example/tolerant_workflows/tolerantworkflows/healing/FailureDegree" (some 3) with
  accessFlags := 49
  interfaces := #[]
  cf := some (fileOf pool4 20 #[] #[{ accessFlags := 1, nameIndex := 5, descriptorIndex := 61, attributes := #[] }, { accessFlags := 1, nameIndex := 66, descriptorIndex := 67, attributes := #[] }] 49 2 #[] #[{ accessFlags := 18, nameIndex := 23, descriptorIndex := 24, attributes := #[] }, { accessFlags := 18, nameIndex := 27, descriptorIndex := 28, attributes := #[] }, { accessFlags := 18, nameIndex := 31, descriptorIndex := 28, attributes := #[] }, { accessFlags := 18, nameIndex := 34, descriptorIndex := 28, attributes := #[] }])
  fields := #[{ name := "level", type := .int, accessFlags := 18, slot := 0, constantValue := 0 }, { name := "failed", type := .long, accessFlags := 18, slot := 1, constantValue := 0 }, { name := "ended", type := .long, accessFlags := 18, slot := 2, constantValue := 0 }, { name := "running", type := .long, accessFlags := 18, slot := 3, constantValue := 0 }]
  methods := #[k4m0, k4m1]
  instanceTypes := #[.int, .long, .long, .long]
  staticTypes := #[]
  resolved := Array.replicate 107 none
  statics := none }

def pool5 : Array CpInfo := pool [(1, u "java/lang/Cloneable"), (0, .class_ 1), (0, u "java/lang/Object"), (0, .class_ 3)] 3

/-- java/lang/Cloneable -/
def k5 : Class := { plain "java/lang/Cloneable" (some 0) with
  accessFlags := 1537
  interfaces := #[]
  cf := some (fileOf pool5 2 #[] #[] 1537 4 #[] #[])
  fields := #[]
  methods := #[]
  instanceTypes := #[]
  staticTypes := #[]
  resolved := Array.replicate 8 none
  statics := none }

def pool6 : Array CpInfo := pool [(1, u "java/io/Serializable"), (0, .class_ 1), (0, u "java/lang/Object"), (0, .class_ 3)] 3

/-- java/io/Serializable -/
def k6 : Class := { plain "java/io/Serializable" (some 0) with
  accessFlags := 1537
  interfaces := #[]
  cf := some (fileOf pool6 2 #[] #[] 1537 4 #[] #[])
  fields := #[]
  methods := #[]
  instanceTypes := #[]
  staticTypes := #[]
  resolved := Array.replicate 8 none
  statics := none }

/-- the primitive byte -/
def k7 : Class := { plain "byte" none with kind := .primitive 'B', accessFlags := 0x411 }
/-- [B -/
def k8 : Class := { plain "[B" (some 0) with kind := .array 7 .byte, interfaces := #[5, 6], accessFlags := 1041 }

/-- the primitive int -/
def k9 : Class := { plain "int" none with kind := .primitive 'I', accessFlags := 0x411 }
/-- [I -/
def k10 : Class := { plain "[I" (some 0) with kind := .array 9 .int, interfaces := #[5, 6], accessFlags := 1041 }

def heap : Heap := #[]
def classes : Array Class := #[k0, k1, k2, k3, k4, k5, k6, k7, k8, k9, k10]
def interned : List (Array UInt16 × Addr) := []
def slotsUsed : Nat := 0
def theMethod : MethodId := ⟨1, 1⟩
def args0 : Array Value := #[.int 1, .long 5, .long 6, .long 7, .int 1]
def aboutOver (below : List Frame) : State where
  vm := { classes := classes, interned := interned.toArray }
  heap := heap
  slotsUsed := slotsUsed
  threads := #[{ frames := .invoking theMethod args0 :: below }]
def below0 : List Frame := [.native { method := ⟨0, 0⟩, args := #[] }]
def about1 : State := aboutOver below0
def p0 : Program := .bare "" "" ""
def e0 : Env := launch0.env 0 0 0
theorem w_frames : about1.frames = Frame.invoking theMethod args0 :: below0 := rfl
set_option maxRecDepth 65536 in
theorem w_args : argsFit about1.vm theMethod args0 = true := by decide +kernel
set_option maxRecDepth 65536 in
theorem w_heap : heapFits about1 = true := by decide +kernel
set_option maxRecDepth 65536 in
theorem w_runnable : about1.curStatus? = some .runnable := by decide +kernel
set_option maxRecDepth 65536 in
theorem w_alone : about1.alone = true := by decide +kernel
set_option maxRecDepth 65536 in
theorem w_named : about1.methodNamed? x = some theMethod := by decide +kernel
set_option maxRecDepth 65536 in
theorem w_hears : about1.hears theMethod below0 = true := by decide +kernel
set_option maxRecDepth 65536 in
theorem w_ripe : about1.ripe theMethod args0 below0 = true := by decide +kernel
theorem w_running : about1.status = .running := rfl
set_option maxRecDepth 65536 in
theorem w_room : about1.hasRoom e0.platform room_1 = true :=
  launch0.hasRoom_least _ room_1 (by decide +kernel) (by decide +kernel) (by decide +kernel) (by decide +kernel) (by decide +kernel) (by decide +kernel)
theorem allAtoms_all (ts : List Jvm.Cond) (a : Array Jvm.Value) (st : Jvm.State) : (allAtoms ts).before a st = ts.all (fun c => c.before a st) := by
  induction ts with
  | nil => rfl
  | cons c t ih =>
    show (Jvm.Cond.and c (allAtoms t)).before a st = _
    rw [Jvm.Cond.before_and, ih, List.all_cons]
def words1 : List Jvm.Cond := Jvm.Cond.code x code maxLocals ret :: tables_1
/-- a 'code' word, met by the world's own term for the bytes: nothing is compared byte by byte -/
theorem code_word {y : MethodName} {bytes : ByteArray} {mx : Nat} {rt : Option FieldType} {a : Array Value} {s : State} {m : MethodId} {meth : Method} {c : Code} (h1 : s.methodNamed? y = some m) (h2 : s.vm.method? m = some meth) (h3 : meth.code = some c) (h4 : c.code = bytes)
    (h5 : (c.maxLocals == mx && c.exceptionTable.isEmpty && decide (c.maxStack ≤ mostOperands) && decide (meth.sig.returnType = rt) && !meth.locks && decide (parseMethodDescriptor y.desc = some meth.sig)) = true) : (Jvm.Cond.code y bytes mx rt).before a s = true := by
  simp only [Bool.and_eq_true, beq_iff_eq, Bool.not_eq_true', decide_eq_true_eq] at h5
  obtain ⟨⟨⟨⟨⟨g1, g2⟩, g3⟩, g4⟩, g5⟩, g6⟩ := h5
  simp [Cond.before, Cond.holds, Cond.value, h1, h2, h3, h4, g1, g2, g3, g4, g5, g6]
def isCode : Jvm.Cond → Bool
  | .code _ _ _ _ => true
  | _ => false
theorem all_split {L : List Jvm.Cond} {P : Jvm.Cond → Bool} (h1 : L.all (fun c => isCode c || P c) = true) (h2 : ∀ c ∈ L.filter isCode, P c = true) : L.all P = true := by
  refine List.all_eq_true.mpr fun c hc => ?_
  have h := List.all_eq_true.mp h1 c hc
  rcases Bool.eq_false_or_eq_true (isCode c) with hi | hi
  · exact h2 c (List.mem_filter.mpr ⟨hc, hi⟩)
  · simpa [hi] using h
set_option maxRecDepth 65536 in
theorem w_c0 : (Jvm.Cond.code x code maxLocals ret).before args0 about1 = true := code_word (m := ⟨1, 1⟩) (meth := k1m1) (c := k1c1) (by decide +kernel) rfl rfl rfl (by decide +kernel)
set_option maxRecDepth 65536 in
theorem w_c1 : (Jvm.Cond.code ({ cls := "java/lang/Math", name := "min", desc := "(JJ)J" } : Jvm.MethodName) jdk_29_method_70_code (4 : Nat) (Option.some Jvm.ClassFile.FieldType.long)).before args0 about1 = true := code_word (m := ⟨2, 3⟩) (meth := k2m3) (c := k2c3) (by decide +kernel) rfl rfl rfl (by decide +kernel)
set_option maxRecDepth 65536 in
theorem w_c2 : (Jvm.Cond.code ({ cls := "java/lang/Math", name := "max", desc := "(JJ)J" } : Jvm.MethodName) jdk_29_method_66_code (4 : Nat) (Option.some Jvm.ClassFile.FieldType.long)).before args0 about1 = true := code_word (m := ⟨2, 2⟩) (meth := k2m2) (c := k2c2) (by decide +kernel) rfl rfl rfl (by decide +kernel)
set_option maxRecDepth 65536 in
theorem w_c3 : (Jvm.Cond.code ({ cls := "java/lang/Math", name := "max", desc := "(II)I" } : Jvm.MethodName) jdk_29_method_65_code (2 : Nat) (Option.some Jvm.ClassFile.FieldType.int)).before args0 about1 = true := code_word (m := ⟨2, 1⟩) (meth := k2m1) (c := k2c1) (by decide +kernel) rfl rfl rfl (by decide +kernel)
set_option maxRecDepth 65536 in
theorem w_c4 : (Jvm.Cond.code ({ cls := "com/example/tolerant_workflows/tolerantworkflows/healing/FailureDegree", name := "<init>", desc := "(IJJJ)V" } : Jvm.MethodName) prog_28_method_1_code (8 : Nat) (Option.none : Option Jvm.ClassFile.FieldType)).before args0 about1 = true := code_word (m := ⟨4, 0⟩) (meth := k4m0) (c := k4c0) (by decide +kernel) rfl rfl rfl (by decide +kernel)
set_option maxRecDepth 65536 in
theorem w_c5 : (Jvm.Cond.code ({ cls := "java/lang/Record", name := "<init>", desc := "()V" } : Jvm.MethodName) jdk_30_method_1_code (1 : Nat) (Option.none : Option Jvm.ClassFile.FieldType)).before args0 about1 = true := code_word (m := ⟨3, 0⟩) (meth := k3m0) (c := k3c0) (by decide +kernel) rfl rfl rfl (by decide +kernel)
set_option maxRecDepth 65536 in
theorem w_c6 : (Jvm.Cond.code ({ cls := "java/lang/Object", name := "<init>", desc := "()V" } : Jvm.MethodName) object_method_1_code (1 : Nat) (Option.none : Option Jvm.ClassFile.FieldType)).before args0 about1 = true := code_word (m := ⟨0, 0⟩) (meth := k0m0) (c := k0c0) (by decide +kernel) rfl rfl rfl (by decide +kernel)
set_option maxRecDepth 65536 in
theorem w_c7 : (Jvm.Cond.code ({ cls := "com/example/tolerant_workflows/tolerantworkflows/healing/FailureDegree", name := "value", desc := "()D" } : Jvm.MethodName) prog_28_method_2_code (3 : Nat) (Option.some Jvm.ClassFile.FieldType.double)).before args0 about1 = true := code_word (m := ⟨4, 1⟩) (meth := k4m1) (c := k4c1) (by decide +kernel) rfl rfl rfl (by decide +kernel)
def codes1 : List Jvm.Cond := [Jvm.Cond.code x code maxLocals ret, Jvm.Cond.code ({ cls := "java/lang/Math", name := "min", desc := "(JJ)J" } : Jvm.MethodName) jdk_29_method_70_code (4 : Nat) (Option.some Jvm.ClassFile.FieldType.long), Jvm.Cond.code ({ cls := "java/lang/Math", name := "max", desc := "(JJ)J" } : Jvm.MethodName) jdk_29_method_66_code (4 : Nat) (Option.some Jvm.ClassFile.FieldType.long), Jvm.Cond.code ({ cls := "java/lang/Math", name := "max", desc := "(II)I" } : Jvm.MethodName) jdk_29_method_65_code (2 : Nat) (Option.some Jvm.ClassFile.FieldType.int), Jvm.Cond.code ({ cls := "com/example/tolerant_workflows/tolerantworkflows/healing/FailureDegree", name := "<init>", desc := "(IJJJ)V" } : Jvm.MethodName) prog_28_method_1_code (8 : Nat) (Option.none : Option Jvm.ClassFile.FieldType), Jvm.Cond.code ({ cls := "java/lang/Record", name := "<init>", desc := "()V" } : Jvm.MethodName) jdk_30_method_1_code (1 : Nat) (Option.none : Option Jvm.ClassFile.FieldType), Jvm.Cond.code ({ cls := "java/lang/Object", name := "<init>", desc := "()V" } : Jvm.MethodName) object_method_1_code (1 : Nat) (Option.none : Option Jvm.ClassFile.FieldType), Jvm.Cond.code ({ cls := "com/example/tolerant_workflows/tolerantworkflows/healing/FailureDegree", name := "value", desc := "()D" } : Jvm.MethodName) prog_28_method_2_code (3 : Nat) (Option.some Jvm.ClassFile.FieldType.double)]
set_option maxRecDepth 65536 in
theorem codes_eq : words1.filter isCode = codes1 := rfl
theorem w_codes : ∀ c ∈ words1.filter isCode, c.before args0 about1 = true := by
  rw [codes_eq]
  intro c hc
  simp only [codes1, List.mem_cons, List.not_mem_nil, or_false] at hc
  rcases hc with rfl | rfl | rfl | rfl | rfl | rfl | rfl | rfl
  · exact w_c0
  · exact w_c1
  · exact w_c2
  · exact w_c3
  · exact w_c4
  · exact w_c5
  · exact w_c6
  · exact w_c7
set_option maxRecDepth 65536 in
theorem w_t1 : (words1.take 24).all (fun c => isCode c || c.before args0 about1) = true := by decide +kernel
set_option maxRecDepth 65536 in
theorem w_t2 : (words1.drop 24).all (fun c => isCode c || c.before args0 about1) = true := by decide +kernel
theorem w_tables : (allAtoms (Jvm.Cond.code x code maxLocals ret :: tables_1)).before args0 about1 = true := by
  rw [allAtoms_all]
  show words1.all (fun c => c.before args0 about1) = true
  refine all_split ?_ w_codes
  rw [← List.take_append_drop 24 words1, List.all_append, w_t1, w_t2]
  rfl
set_option maxRecDepth 65536 in
theorem w_case : (Jvm.Cond.and given_1 narrow_1).before args0 about1 = true := by decide +kernel
theorem w_applies : (headSpec (Jvm.Cond.code x code maxLocals ret :: tables_1) room_1).applies x e0.platform about1 = true :=
  (Spec.applies_iff w_frames).mpr ⟨w_running, w_runnable, w_alone, w_named, w_hears, w_ripe, w_room, w_tables⟩
theorem atStart : AtStart classFile x code maxLocals ret World_1 tables_1 room_1 Calls_1 rest_1 Pre_1 launch0 p0 e0 about1 theMethod args0 below0 :=
  ⟨lists_1, trivial, launch0.admits_env _ _ _, launch0.least_env, fairChoices_fair.cas, fairChoices_fair.clock, w_frames, w_args, w_heap, w_applies, trivial, trivial, w_case⟩
end start1
theorem witness_1 : WitnessClaimed_1 := ⟨start1.p0, start1.e0, start1.about1, start1.theMethod, start1.args0, start1.below0, start1.atStart⟩
end Jvm.Pilot.@@N@@
