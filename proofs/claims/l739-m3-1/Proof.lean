import JvmDerived
import JvmDerived.Pilot.@@N@@Statement
import JvmDerived.Pilot.@@N@@Code
set_option linter.unusedVariables false
set_option linter.unusedSimpArgs false

namespace Jvm.Pilot.@@N@@
open Jvm Jvm.ClassFile Sem Op Lib Jvm.Free Jvm.Stand Jvm.LawKit Jvm.RoadKit Bundle Jvm.Pilot.@@N@@.Jvm.D
section OwnKit
/-- where a walk stands: the library's Stand, and what stays the same throughout -/
def On (l : Launch) (Z : State) (p : Program) (e : Env) (R : Room) (s : State) (m : MethodId) (args : Array Value) (below : List Frame) (meth : Method) (c : Code) (y : MethodName) (code : ByteArray) (maxL : Nat) (ret : Option FieldType) (T : State) (h : Heap) (locs : List Loc) (cells slots : Nat) : Prop :=
  Stand p l e R s m args below meth c T locs cells slots ∧ (p.tables.exec = Jvm.exec ∧ c.code = code ∧ Z.Warmed39 s.vm ∧ s.vm.findClass y.cls = some m.cls ∧ meth.sig.returnType = ret ∧ meth.locks = false ∧ meth.name = y.name ∧ c.maxLocals = maxL) ∧ T.heap = h ∧ Fr Z.heap.size locs ∧ Ext Z.heap h
/-- the run from here ends as F says -/
def Goes (p : Program) (e : Env) (below : List Frame) (F : State → Outcome → Prop) (T : State) (g : JFrame) : Prop :=
  ∃ s₂ o, Steps p.tables e below (T.setTop g) s₂ ∧ s₂.status = .running ∧ Ended s₂ below o ∧ F s₂ o
def FinQ (Z s : State) (Q : Option Value → Heap → Prop) (rc rs : Nat) (s₂ : State) (o : Outcome) : Prop :=
  ∃ v L, o = .returned v ∧ (Q v s₂.heap ∧ Fr Z.heap.size L ∧ Ext Z.heap s₂.heap) ∧ FrameEnd s o s₂ L rc rs
/-- a method's contract: called with these arguments on this heap it returns, and Q holds -/
def Con (l : Launch) (Z : State) (y : MethodName) (code : ByteArray) (maxL : Nat) (ret : Option FieldType) (rm : Room) (as : Array Value) (h : Heap) (Q : Option Value → Heap → Prop) : Prop :=
  Ext Z.heap h → ∀ ws : List Jvm.Cond, MetFree l y (head1 (Jvm.Cond.code y code maxL ret :: ws) rm) (fun a U => a = as ∧ Z.Warmed39 U.vm ∧ U.heap = h) (fun _ _ _ _ _ => True) (fun _ U o U' => ∃ v L, o = .returned v ∧ (Q v U'.heap ∧ Fr Z.heap.size L ∧ Ext Z.heap U'.heap) ∧ FrameEnd U o U' L rm.cells rm.slots)
theorem Goes.step {p : Program} {e : Env} {below : List Frame} {F : State → Outcome → Prop} {T T' : State} {g g' : JFrame} (st : ∀ t, Steps p.tables e below (T'.setTop g') t → Steps p.tables e below (T.setTop g) t) (k : Goes p e below F T' g') : Goes p e below F T g := by
  obtain ⟨s₂, o, h1, h2⟩ := k
  exact ⟨s₂, o, st _ h1, h2⟩
theorem Goes.cast {p : Program} {e : Env} {below : List Frame} {F : State → Outcome → Prop} {T : State} {g g' : JFrame} (q : g = g') (k : Goes p e below F T g') : Goes p e below F T g := q ▸ k
theorem Goes.mono {p : Program} {e : Env} {below : List Frame} {F F' : State → Outcome → Prop} {T : State} {g : JFrame} (q : ∀ s o, F s o → F' s o) (k : Goes p e below F T g) : Goes p e below F' T g := by
  obtain ⟨s₂, o, h1, h2, h3, h4⟩ := k
  exact ⟨s₂, o, h1, h2, h3, q _ _ h4⟩
variable {l : Launch} {Z : State} {p : Program} {e : Env} {R : Room} {s : State} {m : MethodId} {args : Array Value} {below : List Frame} {meth : Method} {c : Code} {y : MethodName} {code : ByteArray} {maxL : Nat} {ret : Option FieldType} {T : State} {h : Heap} {locs : List Loc} {cells slots : Nat} {F : State → Outcome → Prop} {pc : Nat} {L L' : Array Slot} {S : List Value} {a0 : Array Value}
theorem Con.intro {rm : Room} {as : Array Value} {Q : Option Value → Heap → Prop} (hp : plainFor y = true)
    (body : ∀ (p : Program) (e : Env) (s : State) (m : MethodId) (below : List Frame) (meth : Method) (c : Code) (T : State), On l Z p e rm s m as below meth c y code maxL ret T h [] 0 0 → Goes p e below (FinQ Z s Q rm.cells rm.slots) T (entryFrame m as maxL)) : Con l Z y code maxL ret rm as h Q := by
  intro hE ws
  refine MetFree.of_bodySF hp hisR ?_
  intro p e s m args below meth c s₁ Bd hml0 hP hK
  obtain ⟨rfl, hZ, hh⟩ := hP
  have hnm := (name_of_methodNamed Bd.named Bd.method).1
  obtain ⟨s₂, o, k1, k2, k3, k4⟩ := body p e s m below meth c s₁ ⟨Stand.of_body Bd, ⟨Bd.exec, Bd.bytes, hZ, findClass_of_methodNamed Bd.named, Bd.returns, Bd.notSynchronized, hnm, hml0⟩, by rw [← hh, Bd.state]; rfl, Fr.nil _, hE⟩
  exact ⟨s₂, o, k1, k2, k3, k4⟩
theorem Con.mono {rm : Room} {as : Array Value} {Q Q' : Option Value → Heap → Prop} (hC : Con l Z y code maxL ret rm as h Q) (hq : ∀ v h', Q v h' → Q' v h') : Con l Z y code maxL ret rm as h Q' := by
  intro hE ws p e ha hc hk s m args below hf happ hP hK
  obtain ⟨n, o, h1, h2, h3, v, L, h4, ⟨h5, h6⟩, h7⟩ := hC hE ws p e ha hc hk s m args below hf happ hP hK
  exact ⟨n, o, h1, h2, h3, v, L, h4, ⟨hq _ _ h5, h6⟩, h7⟩
theorem On.size (X : On l Z p e R s m args below meth c y code maxL ret T h locs cells slots) : Z.heap.size ≤ h.size := X.2.2.2.2.1
theorem On.ext (X : On l Z p e R s m args below meth c y code maxL ret T h locs cells slots) : Ext Z.heap h := X.2.2.2.2
theorem On.sta (X : On l Z p e R s m args below meth c y code maxL ret T h locs cells slots) {C n d : String} {v : Value} (S : Sta Z Z.heap C n d v) : Sta Z h C n d v := S.ext X.ext
theorem ext_wr {Z : State} {h h' : Heap} {a : Addr} {sl : Nat} {v : Value} (E : Ext Z.heap h) (W : Wr h h' a sl v) (q : Z.heap.size ≤ a) : Ext Z.heap h' := (Old.wr (Z := Z) (n0 := Z.heap.size) ⟨rfl, E⟩ W q).2
theorem ext_keep {Z : State} {h h' : Heap} {ws : List Addr} (E : Ext Z.heap h) (K : Keep h h' ws) (q : ∀ x ∈ ws, Z.heap.size ≤ x) : Ext Z.heap h' := (Old.keep (Z := Z) (n0 := Z.heap.size) ⟨rfl, E⟩ K q).2
theorem ext_trans {h h' h'' : Heap} (E : Ext h h') (E' : Ext h' h'') : Ext h h'' := ⟨Nat.le_trans E.1 E'.1, fun a c q => E'.2 a c (E.2 a c q)⟩
theorem keep_ext {h h' : Heap} (E : Ext h h') : Keep h h' [] := (Keep.refl h []).ext E
theorem ext_of_keep {h h' : Heap} (K : Keep h h' []) : Ext h h' := ⟨K.1, fun a c q => K.2.1 a c q nin0⟩
theorem On.later (X : On l Z p e R s m args below meth c y code maxL ret T h locs cells slots) {T' : State} {h' : Heap} {locs' : List Loc} {cells' slots' : Nat} (X' : Stand p l e R s m args below meth c T' locs' cells' slots') (e' : T'.heap = h') (N' : Fr Z.heap.size locs') (E' : Ext Z.heap h') : On l Z p e R s m args below meth c y code maxL ret T' h' locs' cells' slots' := ⟨X', X.2.1, e', N', E'⟩
theorem On.alike (X : On l Z p e R s m args below meth c y code maxL ret T h locs cells slots) : Z.vm.Alike s.vm := X.2.1.2.2.1.alike
theorem o_iload (X : On l Z p e R s m args below meth c y code maxL ret T h locs cells slots) {k : Nat} {v : Int32} {q : Nat} (hd : decode code pc = .ok (.iload k, 2)) (hl : L[k]? = some (.val (.int v))) (hp : pc + 2 = q) (K : Goes p e below F T (mkF m q L (.int v :: S))) : Goes p e below F T (mkF m pc L S) := by
  subst hp
  exact Goes.step (fun _ k => XS.iload X.1.here X.2.1.1 (g := mkF m pc L S) rfl (hb X.2.1.2.1 hd) hl k) K
theorem o_iloadN (X : On l Z p e R s m args below meth c y code maxL ret T h locs cells slots) {k : Fin 4} {v : Int32} {q : Nat} (hd : decode code pc = .ok (.iload_n k, 1)) (hl : L[k.val]? = some (.val (.int v))) (hp : pc + 1 = q) (K : Goes p e below F T (mkF m q L (.int v :: S))) : Goes p e below F T (mkF m pc L S) := by
  subst hp
  exact Goes.step (fun _ k => XS.iloadN X.1.here X.2.1.1 (g := mkF m pc L S) rfl (hb X.2.1.2.1 hd) hl k) K
theorem o_lload (X : On l Z p e R s m args below meth c y code maxL ret T h locs cells slots) {k : Nat} {v : Int64} {q : Nat} (hd : decode code pc = .ok (.lload k, 2)) (hl : L[k]? = some (.val (.long v))) (hp : pc + 2 = q) (K : Goes p e below F T (mkF m q L (.long v :: S))) : Goes p e below F T (mkF m pc L S) := by
  subst hp
  exact Goes.step (fun _ k => XS.lload X.1.here X.2.1.1 (g := mkF m pc L S) rfl (hb X.2.1.2.1 hd) hl k) K
theorem o_lloadN (X : On l Z p e R s m args below meth c y code maxL ret T h locs cells slots) {k : Fin 4} {v : Int64} {q : Nat} (hd : decode code pc = .ok (.lload_n k, 1)) (hl : L[k.val]? = some (.val (.long v))) (hp : pc + 1 = q) (K : Goes p e below F T (mkF m q L (.long v :: S))) : Goes p e below F T (mkF m pc L S) := by
  subst hp
  exact Goes.step (fun _ k => XS.lloadN X.1.here X.2.1.1 (g := mkF m pc L S) rfl (hb X.2.1.2.1 hd) hl k) K
theorem o_aload (X : On l Z p e R s m args below meth c y code maxL ret T h locs cells slots) {k : Nat} {v : Value} {q : Nat} (hd : decode code pc = .ok (.aload k, 2)) (hl : L[k]? = some (.val v)) (hv : v.isRef = true) (hp : pc + 2 = q) (K : Goes p e below F T (mkF m q L (v :: S))) : Goes p e below F T (mkF m pc L S) := by
  subst hp
  exact Goes.step (fun _ k => XS.aload X.1.here X.2.1.1 (g := mkF m pc L S) rfl (hb X.2.1.2.1 hd) hl hv k) K
theorem o_aloadN (X : On l Z p e R s m args below meth c y code maxL ret T h locs cells slots) {k : Fin 4} {v : Value} {q : Nat} (hd : decode code pc = .ok (.aload_n k, 1)) (hl : L[k.val]? = some (.val v)) (hv : v.isRef = true) (hp : pc + 1 = q) (K : Goes p e below F T (mkF m q L (v :: S))) : Goes p e below F T (mkF m pc L S) := by
  subst hp
  exact Goes.step (fun _ k => XS.aloadN X.1.here X.2.1.1 (g := mkF m pc L S) rfl (hb X.2.1.2.1 hd) hl hv k) K
theorem o_istore (X : On l Z p e R s m args below meth c y code maxL ret T h locs cells slots) {k : Nat} {x z : Int32} {q : Nat} (hd : decode code pc = .ok (.istore k, 2)) (hz : x = z) (hl : storeLocals L k (.int z) = some L') (hp : pc + 2 = q) (K : Goes p e below F T (mkF m q L' S)) : Goes p e below F T (mkF m pc L (.int x :: S)) := by
  subst hz hp
  exact Goes.step (fun _ k => XS.istore X.1.here X.2.1.1 (g := mkF m pc L (.int x :: S)) rfl (hb X.2.1.2.1 hd) rfl hl k) K
theorem o_istoreN (X : On l Z p e R s m args below meth c y code maxL ret T h locs cells slots) {k : Fin 4} {x z : Int32} {q : Nat} (hd : decode code pc = .ok (.istore_n k, 1)) (hz : x = z) (hl : storeLocals L k.val (.int z) = some L') (hp : pc + 1 = q) (K : Goes p e below F T (mkF m q L' S)) : Goes p e below F T (mkF m pc L (.int x :: S)) := by
  subst hz hp
  exact Goes.step (fun _ k => XS.istoreN X.1.here X.2.1.1 (g := mkF m pc L (.int x :: S)) rfl (hb X.2.1.2.1 hd) rfl hl k) K
theorem o_lstore (X : On l Z p e R s m args below meth c y code maxL ret T h locs cells slots) {k : Nat} {x z : Int64} {q : Nat} (hd : decode code pc = .ok (.lstore k, 2)) (hz : x = z) (hl : storeLocals L k (.long z) = some L') (hp : pc + 2 = q) (K : Goes p e below F T (mkF m q L' S)) : Goes p e below F T (mkF m pc L (.long x :: S)) := by
  subst hz hp
  exact Goes.step (fun _ k => XS.lstore X.1.here X.2.1.1 (g := mkF m pc L (.long x :: S)) rfl (hb X.2.1.2.1 hd) rfl hl k) K
theorem o_lstoreN (X : On l Z p e R s m args below meth c y code maxL ret T h locs cells slots) {k : Fin 4} {x z : Int64} {q : Nat} (hd : decode code pc = .ok (.lstore_n k, 1)) (hz : x = z) (hl : storeLocals L k.val (.long z) = some L') (hp : pc + 1 = q) (K : Goes p e below F T (mkF m q L' S)) : Goes p e below F T (mkF m pc L (.long x :: S)) := by
  subst hz hp
  exact Goes.step (fun _ k => XS.lstoreN X.1.here X.2.1.1 (g := mkF m pc L (.long x :: S)) rfl (hb X.2.1.2.1 hd) rfl hl k) K
theorem o_astore (X : On l Z p e R s m args below meth c y code maxL ret T h locs cells slots) {k : Nat} {x : Value} {q : Nat} (hd : decode code pc = .ok (.astore k, 2)) (hv : x.isRef = true) (hl : storeLocals L k x = some L') (hp : pc + 2 = q) (K : Goes p e below F T (mkF m q L' S)) : Goes p e below F T (mkF m pc L (x :: S)) := by
  subst hp
  exact Goes.step (fun _ k => XS.astore X.1.here X.2.1.1 (g := mkF m pc L (x :: S)) rfl (hb X.2.1.2.1 hd) rfl hv hl k) K
theorem o_astoreN (X : On l Z p e R s m args below meth c y code maxL ret T h locs cells slots) {k : Fin 4} {x : Value} {q : Nat} (hd : decode code pc = .ok (.astore_n k, 1)) (hv : x.isRef = true) (hl : storeLocals L k.val x = some L') (hp : pc + 1 = q) (K : Goes p e below F T (mkF m q L' S)) : Goes p e below F T (mkF m pc L (x :: S)) := by
  subst hp
  exact Goes.step (fun _ k => XS.astoreN X.1.here X.2.1.1 (g := mkF m pc L (x :: S)) rfl (hb X.2.1.2.1 hd) rfl hv hl k) K
theorem o_iconst (X : On l Z p e R s m args below meth c y code maxL ret T h locs cells slots) {i : Int} {w : Int32} {q : Nat} (hd : decode code pc = .ok (.iconst i, 1)) (hw : Int32.ofInt i = w) (hp : pc + 1 = q) (K : Goes p e below F T (mkF m q L (.int w :: S))) : Goes p e below F T (mkF m pc L S) := by
  subst hw hp
  exact Goes.step (fun _ k => XS.iconst X.1.here X.2.1.1 (g := mkF m pc L S) rfl (hb X.2.1.2.1 hd) k) K
theorem o_bipush (X : On l Z p e R s m args below meth c y code maxL ret T h locs cells slots) {i : Int} {w : Int32} {q : Nat} (hd : decode code pc = .ok (.bipush i, 2)) (hw : (Int8.ofInt i).toInt32 = w) (hp : pc + 2 = q) (K : Goes p e below F T (mkF m q L (.int w :: S))) : Goes p e below F T (mkF m pc L S) := by
  subst hw hp
  exact Goes.step (fun _ k => XS.bipush X.1.here X.2.1.1 (g := mkF m pc L S) rfl (hb X.2.1.2.1 hd) k) K
theorem o_sipush (X : On l Z p e R s m args below meth c y code maxL ret T h locs cells slots) {i : Int} {w : Int32} {q : Nat} (hd : decode code pc = .ok (.sipush i, 3)) (hw : (Int16.ofInt i).toInt32 = w) (hp : pc + 3 = q) (K : Goes p e below F T (mkF m q L (.int w :: S))) : Goes p e below F T (mkF m pc L S) := by
  subst hw hp
  exact Goes.step (fun _ k => XS.sipush X.1.here X.2.1.1 (g := mkF m pc L S) rfl (hb X.2.1.2.1 hd) k) K
theorem o_lconst (X : On l Z p e R s m args below meth c y code maxL ret T h locs cells slots) {i : Fin 2} {w : Int64} {q : Nat} (hd : decode code pc = .ok (.lconst i, 1)) (hw : Int64.ofNat i = w) (hp : pc + 1 = q) (K : Goes p e below F T (mkF m q L (.long w :: S))) : Goes p e below F T (mkF m pc L S) := by
  subst hw hp
  exact Goes.step (fun _ k => XS.lconst X.1.here X.2.1.1 (g := mkF m pc L S) rfl (hb X.2.1.2.1 hd) k) K
theorem o_null (X : On l Z p e R s m args below meth c y code maxL ret T h locs cells slots)  {q : Nat} (hd : decode code pc = .ok (.aconst_null, 1)) (hp : pc + 1 = q) (K : Goes p e below F T (mkF m q L (.null :: S))) : Goes p e below F T (mkF m pc L S) := by
  subst hp
  exact Goes.step (fun _ k => XS.aconstNull X.1.here X.2.1.1 (g := mkF m pc L S) rfl (hb X.2.1.2.1 hd)  k) K
theorem o_iadd (X : On l Z p e R s m args below meth c y code maxL ret T h locs cells slots) {x : Int32} {z : Int32} {w : Int32} {q : Nat} (hd : decode code pc = .ok (.iadd, 1)) (hw : x + z = w) (hp : pc + 1 = q) (K : Goes p e below F T (mkF m q L (.int w :: S))) : Goes p e below F T (mkF m pc L (.int z :: .int x :: S)) := by
  subst hw hp
  exact Goes.step (fun _ k => XS.iadd X.1.here X.2.1.1 (g := mkF m pc L (.int z :: .int x :: S)) rfl (hb X.2.1.2.1 hd) rfl  k) K
theorem o_isub (X : On l Z p e R s m args below meth c y code maxL ret T h locs cells slots) {x : Int32} {z : Int32} {w : Int32} {q : Nat} (hd : decode code pc = .ok (.isub, 1)) (hw : x - z = w) (hp : pc + 1 = q) (K : Goes p e below F T (mkF m q L (.int w :: S))) : Goes p e below F T (mkF m pc L (.int z :: .int x :: S)) := by
  subst hw hp
  exact Goes.step (fun _ k => XS.isub X.1.here X.2.1.1 (g := mkF m pc L (.int z :: .int x :: S)) rfl (hb X.2.1.2.1 hd) rfl  k) K
theorem o_imul (X : On l Z p e R s m args below meth c y code maxL ret T h locs cells slots) {x : Int32} {z : Int32} {w : Int32} {q : Nat} (hd : decode code pc = .ok (.imul, 1)) (hw : x * z = w) (hp : pc + 1 = q) (K : Goes p e below F T (mkF m q L (.int w :: S))) : Goes p e below F T (mkF m pc L (.int z :: .int x :: S)) := by
  subst hw hp
  exact Goes.step (fun _ k => XS.imul X.1.here X.2.1.1 (g := mkF m pc L (.int z :: .int x :: S)) rfl (hb X.2.1.2.1 hd) rfl  k) K
theorem o_iand (X : On l Z p e R s m args below meth c y code maxL ret T h locs cells slots) {x : Int32} {z : Int32} {w : Int32} {q : Nat} (hd : decode code pc = .ok (.iand, 1)) (hw : x &&& z = w) (hp : pc + 1 = q) (K : Goes p e below F T (mkF m q L (.int w :: S))) : Goes p e below F T (mkF m pc L (.int z :: .int x :: S)) := by
  subst hw hp
  exact Goes.step (fun _ k => XS.iand X.1.here X.2.1.1 (g := mkF m pc L (.int z :: .int x :: S)) rfl (hb X.2.1.2.1 hd) rfl  k) K
theorem o_ior (X : On l Z p e R s m args below meth c y code maxL ret T h locs cells slots) {x : Int32} {z : Int32} {w : Int32} {q : Nat} (hd : decode code pc = .ok (.ior, 1)) (hw : x ||| z = w) (hp : pc + 1 = q) (K : Goes p e below F T (mkF m q L (.int w :: S))) : Goes p e below F T (mkF m pc L (.int z :: .int x :: S)) := by
  subst hw hp
  exact Goes.step (fun _ k => XS.ior X.1.here X.2.1.1 (g := mkF m pc L (.int z :: .int x :: S)) rfl (hb X.2.1.2.1 hd) rfl  k) K
theorem o_ixor (X : On l Z p e R s m args below meth c y code maxL ret T h locs cells slots) {x : Int32} {z : Int32} {w : Int32} {q : Nat} (hd : decode code pc = .ok (.ixor, 1)) (hw : x ^^^ z = w) (hp : pc + 1 = q) (K : Goes p e below F T (mkF m q L (.int w :: S))) : Goes p e below F T (mkF m pc L (.int z :: .int x :: S)) := by
  subst hw hp
  exact Goes.step (fun _ k => XS.ixor X.1.here X.2.1.1 (g := mkF m pc L (.int z :: .int x :: S)) rfl (hb X.2.1.2.1 hd) rfl  k) K
theorem o_ishl (X : On l Z p e R s m args below meth c y code maxL ret T h locs cells slots) {x : Int32} {z : Int32} {w : Int32} {q : Nat} (hd : decode code pc = .ok (.ishl, 1)) (hw : x <<< (z &&& 31) = w) (hp : pc + 1 = q) (K : Goes p e below F T (mkF m q L (.int w :: S))) : Goes p e below F T (mkF m pc L (.int z :: .int x :: S)) := by
  subst hw hp
  exact Goes.step (fun _ k => XS.ishl X.1.here X.2.1.1 (g := mkF m pc L (.int z :: .int x :: S)) rfl (hb X.2.1.2.1 hd) rfl  k) K
theorem o_ishr (X : On l Z p e R s m args below meth c y code maxL ret T h locs cells slots) {x : Int32} {z : Int32} {w : Int32} {q : Nat} (hd : decode code pc = .ok (.ishr, 1)) (hw : x >>> (z &&& 31) = w) (hp : pc + 1 = q) (K : Goes p e below F T (mkF m q L (.int w :: S))) : Goes p e below F T (mkF m pc L (.int z :: .int x :: S)) := by
  subst hw hp
  exact Goes.step (fun _ k => XS.ishr X.1.here X.2.1.1 (g := mkF m pc L (.int z :: .int x :: S)) rfl (hb X.2.1.2.1 hd) rfl  k) K
theorem o_iushr (X : On l Z p e R s m args below meth c y code maxL ret T h locs cells slots) {x : Int32} {z : Int32} {w : Int32} {q : Nat} (hd : decode code pc = .ok (.iushr, 1)) (hw : (x.toUInt32 >>> (z &&& 31).toUInt32).toInt32 = w) (hp : pc + 1 = q) (K : Goes p e below F T (mkF m q L (.int w :: S))) : Goes p e below F T (mkF m pc L (.int z :: .int x :: S)) := by
  subst hw hp
  exact Goes.step (fun _ k => XS.iushr X.1.here X.2.1.1 (g := mkF m pc L (.int z :: .int x :: S)) rfl (hb X.2.1.2.1 hd) rfl  k) K
theorem o_ladd (X : On l Z p e R s m args below meth c y code maxL ret T h locs cells slots) {x : Int64} {z : Int64} {w : Int64} {q : Nat} (hd : decode code pc = .ok (.ladd, 1)) (hw : x + z = w) (hp : pc + 1 = q) (K : Goes p e below F T (mkF m q L (.long w :: S))) : Goes p e below F T (mkF m pc L (.long z :: .long x :: S)) := by
  subst hw hp
  exact Goes.step (fun _ k => XS.ladd X.1.here X.2.1.1 (g := mkF m pc L (.long z :: .long x :: S)) rfl (hb X.2.1.2.1 hd) rfl  k) K
theorem o_lsub (X : On l Z p e R s m args below meth c y code maxL ret T h locs cells slots) {x : Int64} {z : Int64} {w : Int64} {q : Nat} (hd : decode code pc = .ok (.lsub, 1)) (hw : x - z = w) (hp : pc + 1 = q) (K : Goes p e below F T (mkF m q L (.long w :: S))) : Goes p e below F T (mkF m pc L (.long z :: .long x :: S)) := by
  subst hw hp
  exact Goes.step (fun _ k => XS.lsub X.1.here X.2.1.1 (g := mkF m pc L (.long z :: .long x :: S)) rfl (hb X.2.1.2.1 hd) rfl  k) K
theorem o_lmul (X : On l Z p e R s m args below meth c y code maxL ret T h locs cells slots) {x : Int64} {z : Int64} {w : Int64} {q : Nat} (hd : decode code pc = .ok (.lmul, 1)) (hw : x * z = w) (hp : pc + 1 = q) (K : Goes p e below F T (mkF m q L (.long w :: S))) : Goes p e below F T (mkF m pc L (.long z :: .long x :: S)) := by
  subst hw hp
  exact Goes.step (fun _ k => XS.lmul X.1.here X.2.1.1 (g := mkF m pc L (.long z :: .long x :: S)) rfl (hb X.2.1.2.1 hd) rfl  k) K
theorem o_land (X : On l Z p e R s m args below meth c y code maxL ret T h locs cells slots) {x : Int64} {z : Int64} {w : Int64} {q : Nat} (hd : decode code pc = .ok (.land, 1)) (hw : x &&& z = w) (hp : pc + 1 = q) (K : Goes p e below F T (mkF m q L (.long w :: S))) : Goes p e below F T (mkF m pc L (.long z :: .long x :: S)) := by
  subst hw hp
  exact Goes.step (fun _ k => XS.land X.1.here X.2.1.1 (g := mkF m pc L (.long z :: .long x :: S)) rfl (hb X.2.1.2.1 hd) rfl  k) K
theorem o_lor (X : On l Z p e R s m args below meth c y code maxL ret T h locs cells slots) {x : Int64} {z : Int64} {w : Int64} {q : Nat} (hd : decode code pc = .ok (.lor, 1)) (hw : x ||| z = w) (hp : pc + 1 = q) (K : Goes p e below F T (mkF m q L (.long w :: S))) : Goes p e below F T (mkF m pc L (.long z :: .long x :: S)) := by
  subst hw hp
  exact Goes.step (fun _ k => XS.lor X.1.here X.2.1.1 (g := mkF m pc L (.long z :: .long x :: S)) rfl (hb X.2.1.2.1 hd) rfl  k) K
theorem o_lxor (X : On l Z p e R s m args below meth c y code maxL ret T h locs cells slots) {x : Int64} {z : Int64} {w : Int64} {q : Nat} (hd : decode code pc = .ok (.lxor, 1)) (hw : x ^^^ z = w) (hp : pc + 1 = q) (K : Goes p e below F T (mkF m q L (.long w :: S))) : Goes p e below F T (mkF m pc L (.long z :: .long x :: S)) := by
  subst hw hp
  exact Goes.step (fun _ k => XS.lxor X.1.here X.2.1.1 (g := mkF m pc L (.long z :: .long x :: S)) rfl (hb X.2.1.2.1 hd) rfl  k) K
theorem o_lshl (X : On l Z p e R s m args below meth c y code maxL ret T h locs cells slots) {x : Int64} {z : Int32} {w : Int64} {q : Nat} (hd : decode code pc = .ok (.lshl, 1)) (hw : x <<< (z &&& 0x3f).toInt64 = w) (hp : pc + 1 = q) (K : Goes p e below F T (mkF m q L (.long w :: S))) : Goes p e below F T (mkF m pc L (.int z :: .long x :: S)) := by
  subst hw hp
  exact Goes.step (fun _ k => XS.lshl X.1.here X.2.1.1 (g := mkF m pc L (.int z :: .long x :: S)) rfl (hb X.2.1.2.1 hd) rfl  k) K
theorem o_lshr (X : On l Z p e R s m args below meth c y code maxL ret T h locs cells slots) {x : Int64} {z : Int32} {w : Int64} {q : Nat} (hd : decode code pc = .ok (.lshr, 1)) (hw : x >>> (z &&& 0x3f).toInt64 = w) (hp : pc + 1 = q) (K : Goes p e below F T (mkF m q L (.long w :: S))) : Goes p e below F T (mkF m pc L (.int z :: .long x :: S)) := by
  subst hw hp
  exact Goes.step (fun _ k => XS.lshr X.1.here X.2.1.1 (g := mkF m pc L (.int z :: .long x :: S)) rfl (hb X.2.1.2.1 hd) rfl  k) K
theorem o_lushr (X : On l Z p e R s m args below meth c y code maxL ret T h locs cells slots) {x : Int64} {z : Int32} {w : Int64} {q : Nat} (hd : decode code pc = .ok (.lushr, 1)) (hw : (x.toUInt64 >>> (z &&& 0x3f).toInt64.toUInt64).toInt64 = w) (hp : pc + 1 = q) (K : Goes p e below F T (mkF m q L (.long w :: S))) : Goes p e below F T (mkF m pc L (.int z :: .long x :: S)) := by
  subst hw hp
  exact Goes.step (fun _ k => XS.lushr X.1.here X.2.1.1 (g := mkF m pc L (.int z :: .long x :: S)) rfl (hb X.2.1.2.1 hd) rfl  k) K
theorem o_idiv (X : On l Z p e R s m args below meth c y code maxL ret T h locs cells slots) {x : Int32} {z : Int32} {w : Int32} {q : Nat} (hd : decode code pc = .ok (.idiv, 1)) (hn : z ≠ 0) (hw : x / z = w) (hp : pc + 1 = q) (K : Goes p e below F T (mkF m q L (.int w :: S))) : Goes p e below F T (mkF m pc L (.int z :: .int x :: S)) := by
  subst hw hp
  exact Goes.step (fun _ k => XS.idiv X.1.here X.2.1.1 (g := mkF m pc L (.int z :: .int x :: S)) rfl (hb X.2.1.2.1 hd) rfl hn k) K
theorem o_irem (X : On l Z p e R s m args below meth c y code maxL ret T h locs cells slots) {x : Int32} {z : Int32} {w : Int32} {q : Nat} (hd : decode code pc = .ok (.irem, 1)) (hn : z ≠ 0) (hw : x % z = w) (hp : pc + 1 = q) (K : Goes p e below F T (mkF m q L (.int w :: S))) : Goes p e below F T (mkF m pc L (.int z :: .int x :: S)) := by
  subst hw hp
  exact Goes.step (fun _ k => iremM (g := mkF m pc L (.int z :: .int x :: S)) X.1 X.2.1.1 rfl (hb X.2.1.2.1 hd) rfl hn k) K
theorem o_lcmp (X : On l Z p e R s m args below meth c y code maxL ret T h locs cells slots) {x : Int64} {z : Int64} {w : Int32} {q : Nat} (hd : decode code pc = .ok (.lcmp, 1)) (hw : lcmpW x z = w) (hp : pc + 1 = q) (K : Goes p e below F T (mkF m q L (.int w :: S))) : Goes p e below F T (mkF m pc L (.long z :: .long x :: S)) := by
  subst hw hp
  exact Goes.step (fun _ k => XS.lcmp X.1.here X.2.1.1 (g := mkF m pc L (.long z :: .long x :: S)) rfl (hb X.2.1.2.1 hd) rfl  k) K
theorem o_ineg (X : On l Z p e R s m args below meth c y code maxL ret T h locs cells slots) {x : Int32} {w : Int32} {q : Nat} (hd : decode code pc = .ok (.ineg, 1)) (hw : -x = w) (hp : pc + 1 = q) (K : Goes p e below F T (mkF m q L (.int w :: S))) : Goes p e below F T (mkF m pc L (.int x :: S)) := by
  subst hw hp
  exact Goes.step (fun _ k => XS.ineg X.1.here X.2.1.1 (g := mkF m pc L (.int x :: S)) rfl (hb X.2.1.2.1 hd) rfl k) K
theorem o_lneg (X : On l Z p e R s m args below meth c y code maxL ret T h locs cells slots) {x : Int64} {w : Int64} {q : Nat} (hd : decode code pc = .ok (.lneg, 1)) (hw : -x = w) (hp : pc + 1 = q) (K : Goes p e below F T (mkF m q L (.long w :: S))) : Goes p e below F T (mkF m pc L (.long x :: S)) := by
  subst hw hp
  exact Goes.step (fun _ k => XS.lneg X.1.here X.2.1.1 (g := mkF m pc L (.long x :: S)) rfl (hb X.2.1.2.1 hd) rfl k) K
theorem o_i2l (X : On l Z p e R s m args below meth c y code maxL ret T h locs cells slots) {x : Int32} {w : Int64} {q : Nat} (hd : decode code pc = .ok (.i2l, 1)) (hw : x.toInt64 = w) (hp : pc + 1 = q) (K : Goes p e below F T (mkF m q L (.long w :: S))) : Goes p e below F T (mkF m pc L (.int x :: S)) := by
  subst hw hp
  exact Goes.step (fun _ k => XS.i2l X.1.here X.2.1.1 (g := mkF m pc L (.int x :: S)) rfl (hb X.2.1.2.1 hd) rfl k) K
theorem o_l2i (X : On l Z p e R s m args below meth c y code maxL ret T h locs cells slots) {x : Int64} {w : Int32} {q : Nat} (hd : decode code pc = .ok (.l2i, 1)) (hw : x.toInt32 = w) (hp : pc + 1 = q) (K : Goes p e below F T (mkF m q L (.int w :: S))) : Goes p e below F T (mkF m pc L (.long x :: S)) := by
  subst hw hp
  exact Goes.step (fun _ k => XS.l2i X.1.here X.2.1.1 (g := mkF m pc L (.long x :: S)) rfl (hb X.2.1.2.1 hd) rfl k) K
theorem o_i2b (X : On l Z p e R s m args below meth c y code maxL ret T h locs cells slots) {x : Int32} {w : Int32} {q : Nat} (hd : decode code pc = .ok (.i2b, 1)) (hw : x.toInt8.toInt32 = w) (hp : pc + 1 = q) (K : Goes p e below F T (mkF m q L (.int w :: S))) : Goes p e below F T (mkF m pc L (.int x :: S)) := by
  subst hw hp
  exact Goes.step (fun _ k => XS.i2b X.1.here X.2.1.1 (g := mkF m pc L (.int x :: S)) rfl (hb X.2.1.2.1 hd) rfl k) K
theorem o_i2c (X : On l Z p e R s m args below meth c y code maxL ret T h locs cells slots) {x : Int32} {w : Int32} {q : Nat} (hd : decode code pc = .ok (.i2c, 1)) (hw : x.toUInt32.toUInt16.toUInt32.toInt32 = w) (hp : pc + 1 = q) (K : Goes p e below F T (mkF m q L (.int w :: S))) : Goes p e below F T (mkF m pc L (.int x :: S)) := by
  subst hw hp
  exact Goes.step (fun _ k => XS.i2c X.1.here X.2.1.1 (g := mkF m pc L (.int x :: S)) rfl (hb X.2.1.2.1 hd) rfl k) K
theorem o_i2s (X : On l Z p e R s m args below meth c y code maxL ret T h locs cells slots) {x : Int32} {w : Int32} {q : Nat} (hd : decode code pc = .ok (.i2s, 1)) (hw : x.toInt16.toInt32 = w) (hp : pc + 1 = q) (K : Goes p e below F T (mkF m q L (.int w :: S))) : Goes p e below F T (mkF m pc L (.int x :: S)) := by
  subst hw hp
  exact Goes.step (fun _ k => XS.i2s X.1.here X.2.1.1 (g := mkF m pc L (.int x :: S)) rfl (hb X.2.1.2.1 hd) rfl k) K
theorem o_dup (X : On l Z p e R s m args below meth c y code maxL ret T h locs cells slots) {x : Value} {q : Nat} (hd : decode code pc = .ok (.dup, 1)) (hc : x.category = 1) (hp : pc + 1 = q) (K : Goes p e below F T (mkF m q L (x :: x :: S))) : Goes p e below F T (mkF m pc L (x :: S)) := by
  subst hp
  exact Goes.step (fun _ k => XS.dup X.1.here X.2.1.1 (g := mkF m pc L (x :: S)) rfl (hb X.2.1.2.1 hd) rfl hc k) K
theorem o_pop (X : On l Z p e R s m args below meth c y code maxL ret T h locs cells slots) {x : Value} {q : Nat} (hd : decode code pc = .ok (.pop, 1)) (hc : x.category = 1) (hp : pc + 1 = q) (K : Goes p e below F T (mkF m q L S)) : Goes p e below F T (mkF m pc L (x :: S)) := by
  subst hp
  exact Goes.step (fun _ k => XS.pop X.1.here X.2.1.1 (g := mkF m pc L (x :: S)) rfl (hb X.2.1.2.1 hd) rfl hc k) K
theorem o_dupX1 (X : On l Z p e R s m args below meth c y code maxL ret T h locs cells slots) {x z : Value} {q : Nat} (hd : decode code pc = .ok (.dup_x1, 1)) (hc : x.category = 1) (hc' : z.category = 1) (hp : pc + 1 = q) (K : Goes p e below F T (mkF m q L (x :: z :: x :: S))) : Goes p e below F T (mkF m pc L (x :: z :: S)) := by
  subst hp
  exact Goes.step (fun _ k => XS.dupX1 X.1.here X.2.1.1 (g := mkF m pc L (x :: z :: S)) rfl (hb X.2.1.2.1 hd) rfl hc hc' k) K
theorem o_dup2 (X : On l Z p e R s m args below meth c y code maxL ret T h locs cells slots) {x z : Value} {q : Nat} (hd : decode code pc = .ok (.dup2, 1)) (hc : x.category = 1) (hc' : z.category = 1) (hp : pc + 1 = q) (K : Goes p e below F T (mkF m q L (x :: z :: x :: z :: S))) : Goes p e below F T (mkF m pc L (x :: z :: S)) := by
  subst hp
  exact Goes.step (fun _ k => Jvm.Free.XT.dup2 X.1.here X.2.1.1 (g := mkF m pc L (x :: z :: S)) rfl (hb X.2.1.2.1 hd) rfl hc hc' k) K
theorem o_iinc (X : On l Z p e R s m args below meth c y code maxL ret T h locs cells slots) {k : Nat} {i : Int} {x z : Int32} {q : Nat} (hd : decode code pc = .ok (.iinc k i, 3)) (hl : L[k]? = some (.val (.int x))) (hz : x + Int32.ofInt i = z) (hl' : storeLocals L k (.int z) = some L') (hp : pc + 3 = q) (K : Goes p e below F T (mkF m q L' S)) : Goes p e below F T (mkF m pc L S) := by
  subst hz hp
  exact Goes.step (fun _ k => XS.iinc X.1.here X.2.1.1 (g := mkF m pc L S) rfl (hb X.2.1.2.1 hd) hl hl' k) K
theorem o_goto (X : On l Z p e R s m args below meth c y code maxL ret T h locs cells slots) {i : Int} {q : Nat} (hd : decode code pc = .ok (.goto i, 3)) (ho : 0 ≤ (pc : Int) + i) (hp : ((pc : Int) + i).toNat = q) (K : Goes p e below F T (mkF m q L S)) : Goes p e below F T (mkF m pc L S) := Goes.step (fun _ k => XS.goto X.1.here X.2.1.1 (g := mkF m pc L S) (pc0 := pc) rfl rfl (hb X.2.1.2.1 hd) ho hp k) K
theorem o_ifY (X : On l Z p e R s m args below meth c y code maxL ret T h locs cells slots) {cd : ClassFile.Cond} {i : Int} {x : Int32} {q : Nat} (hd : decode code pc = .ok (.ifCond cd i, 3)) (hc : if_icmp.holds cd x 0 = true) (ho : 0 ≤ (pc : Int) + i) (hp : ((pc : Int) + i).toNat = q) (K : Goes p e below F T (mkF m q L S)) : Goes p e below F T (mkF m pc L (.int x :: S)) := Goes.step (fun _ k => XS.ifYes X.1.here X.2.1.1 (g := mkF m pc L (.int x :: S)) rfl (pc0 := pc) rfl (hb X.2.1.2.1 hd) rfl ((if0 _ _).trans hc) ho hp k) K
theorem o_ifN (X : On l Z p e R s m args below meth c y code maxL ret T h locs cells slots) {cd : ClassFile.Cond} {i : Int} {x : Int32} {q : Nat} (hd : decode code pc = .ok (.ifCond cd i, 3)) (hc : if_icmp.holds cd x 0 = false) (hp : pc + 3 = q) (K : Goes p e below F T (mkF m q L S)) : Goes p e below F T (mkF m pc L (.int x :: S)) := by
  subst hp
  exact Goes.step (fun _ k => XS.ifNo X.1.here X.2.1.1 (g := mkF m pc L (.int x :: S)) rfl (hb X.2.1.2.1 hd) rfl ((if0 _ _).trans hc) k) K
theorem o_icmpY (X : On l Z p e R s m args below meth c y code maxL ret T h locs cells slots) {cd : ClassFile.Cond} {i : Int} {x z : Int32} {q : Nat} (hd : decode code pc = .ok (.if_icmp cd i, 3)) (hc : if_icmp.holds cd x z = true) (ho : 0 ≤ (pc : Int) + i) (hp : ((pc : Int) + i).toNat = q) (K : Goes p e below F T (mkF m q L S)) : Goes p e below F T (mkF m pc L (.int z :: .int x :: S)) := Goes.step (fun _ k => XS.icmpYes X.1.here X.2.1.1 (g := mkF m pc L (.int z :: .int x :: S)) rfl (pc0 := pc) rfl (hb X.2.1.2.1 hd) rfl hc ho hp k) K
theorem o_icmpN (X : On l Z p e R s m args below meth c y code maxL ret T h locs cells slots) {cd : ClassFile.Cond} {i : Int} {x z : Int32} {q : Nat} (hd : decode code pc = .ok (.if_icmp cd i, 3)) (hc : if_icmp.holds cd x z = false) (hp : pc + 3 = q) (K : Goes p e below F T (mkF m q L S)) : Goes p e below F T (mkF m pc L (.int z :: .int x :: S)) := by
  subst hp
  exact Goes.step (fun _ k => XS.icmpNo X.1.here X.2.1.1 (g := mkF m pc L (.int z :: .int x :: S)) rfl (hb X.2.1.2.1 hd) rfl hc k) K
theorem o_ifnullY (X : On l Z p e R s m args below meth c y code maxL ret T h locs cells slots) {i : Int} {q : Nat} (hd : decode code pc = .ok (.ifnull i, 3)) (ho : 0 ≤ (pc : Int) + i) (hp : ((pc : Int) + i).toNat = q) (K : Goes p e below F T (mkF m q L S)) : Goes p e below F T (mkF m pc L (.null :: S)) := Goes.step (fun _ k => XS.ifnullYes X.1.here X.2.1.1 (g := mkF m pc L (.null :: S)) rfl (pc0 := pc) rfl (hb X.2.1.2.1 hd) rfl ho hp k) K
theorem o_ifnullN (X : On l Z p e R s m args below meth c y code maxL ret T h locs cells slots) {i : Int} {q : Nat} {b : Addr} (hd : decode code pc = .ok (.ifnull i, 3)) (hp : pc + 3 = q) (K : Goes p e below F T (mkF m q L S)) : Goes p e below F T (mkF m pc L ((.ref b) :: S)) := by
  subst hp
  exact Goes.step (fun _ k => XS.ifnullNo X.1.here X.2.1.1 (g := mkF m pc L ((.ref b) :: S)) rfl (hb X.2.1.2.1 hd) rfl k) K
theorem o_ifnonnullY (X : On l Z p e R s m args below meth c y code maxL ret T h locs cells slots) {i : Int} {q : Nat} {b : Addr} (hd : decode code pc = .ok (.ifnonnull i, 3)) (ho : 0 ≤ (pc : Int) + i) (hp : ((pc : Int) + i).toNat = q) (K : Goes p e below F T (mkF m q L S)) : Goes p e below F T (mkF m pc L ((.ref b) :: S)) := Goes.step (fun _ k => XS.ifnonnullYes X.1.here X.2.1.1 (g := mkF m pc L ((.ref b) :: S)) rfl (pc0 := pc) rfl (hb X.2.1.2.1 hd) rfl ho hp k) K
theorem o_ifnonnullN (X : On l Z p e R s m args below meth c y code maxL ret T h locs cells slots) {i : Int} {q : Nat} (hd : decode code pc = .ok (.ifnonnull i, 3)) (hp : pc + 3 = q) (K : Goes p e below F T (mkF m q L S)) : Goes p e below F T (mkF m pc L (.null :: S)) := by
  subst hp
  exact Goes.step (fun _ k => XS.ifnonnullNo X.1.here X.2.1.1 (g := mkF m pc L (.null :: S)) rfl (hb X.2.1.2.1 hd) rfl k) K
theorem o_acmp (X : On l Z p e R s m args below meth c y code maxL ret T h locs cells slots) {cd : ACond} {i : Int} {x z : Value} {q : Nat} {same : Bool} (hd : decode code pc = .ok (.if_acmp cd i, 3)) (h1 : x.isRef = true) (h2 : z.isRef = true) (hq : decide (x = z) = same) (ho : 0 ≤ (pc : Int) + i) (hp : q = if acV cd same = true then ((pc : Int) + i).toNat else pc + 3) (K : Goes p e below F T (mkF m q L S)) : Goes p e below F T (mkF m pc L (z :: x :: S)) := Goes.step (fun _ k => Jvm.RoadKit.acmp (g := mkF m pc L (z :: x :: S)) X.1 X.2.1.1 rfl h1 h2 (pc0 := pc) rfl (hb X.2.1.2.1 hd) rfl hq ho hp k) K
theorem o_ldcI (X : On l Z p e R s m args below meth c y code maxL ret T h locs cells slots) {index : Nat} {v : Int32} {q : Nat} (w : (Jvm.Cond.constant y.cls index v).before a0 Z = true) (hd : decode code pc = .ok (.ldc index, 2)) (hp : pc + 2 = q) (K : Goes p e below F T (mkF m q L (.int v :: S))) : Goes p e below F T (mkF m pc L S) := by
  subst hp
  exact Goes.step (X.1.ldcInt X.2.1.1 X.2.1.2.2.2.1 (mvT X.2.1.2.2.1 w) (g := mkF m pc L S) rfl (hb X.2.1.2.1 hd)) K
theorem o_ldcJ (X : On l Z p e R s m args below meth c y code maxL ret T h locs cells slots) {index : Nat} {v : Int64} {q : Nat} (w : (Jvm.Cond.constantLong y.cls index v).before a0 Z = true) (hd : decode code pc = .ok (.ldc2_w index, 3)) (hp : pc + 3 = q) (K : Goes p e below F T (mkF m q L (.long v :: S))) : Goes p e below F T (mkF m pc L S) := by
  subst hp
  exact Goes.step (X.1.ldc2Long X.2.1.1 X.2.1.2.2.2.1 (mvT X.2.1.2.2.1 w) (g := mkF m pc L S) rfl (hb X.2.1.2.1 hd)) K
theorem o_new (X : On l Z p e R s m args below meth c y code maxL ret T h locs cells slots) {C : String} {index n q : Nat} (w : (Jvm.Cond.classLink y.cls index C).before a0 Z = true) (wi : (Jvm.Cond.instantiable C n).before a0 Z = true) (wz : (Jvm.Cond.initialized C).before a0 Z = true) (hd : decode code pc = .ok (.new index, 3)) (hc : cells + 1 ≤ R.cells) (hl : slots + n ≤ R.slots) (hp : pc + 3 = q)
    (K : ∀ (T' : State) (h' : Heap) (a : Addr), a = h.size → On l Z p e R s m args below meth c y code maxL ret T' h' locs (cells + 1) (slots + n) → Ext h h' → Exa Z h' a C → (∀ {O nm d : String} {ty : FieldType}, Laid Z a0 C O nm d → parseFieldDescriptor d = some ty → Fld Z h' a O nm d (defaultValue ty)) → Z.heap.size ≤ a → Goes p e below F T' (mkF m q L (.ref a :: S))) : Goes p e below F T (mkF m pc L S) := by
  subst hp
  obtain ⟨X1, C1, e1, N1, E1⟩ := X
  obtain ⟨T', h', X', e', E', A', D', -, st⟩ := newO X1 C1.1 C1.2.2.1 C1.2.2.2.1 w wi wz e1 (g := mkF m pc L S) rfl (hb C1.2.1 hd) hc hl
  exact Goes.step st (K T' h' h.size rfl ⟨X', C1, e', N1, ext_trans E1 E'⟩ E' A' D' E1.1)
theorem o_newarr (X : On l Z p e R s m args below meth c y code maxL ret T h locs cells slots) {aty : ArrayType} {n : Int32} {cap q : Nat} (N : Nat) (w : (Jvm.Cond.arrayClass (newarray.typeOf aty)).before a0 Z = true) (hd : decode code pc = .ok (.newarray aty, 2)) (hn : ¬ n < 0) (hcap : n.toNatClampNeg ≤ cap) (hb8 : cap * 8 ≤ 536870912) (hc : cells + 1 ≤ R.cells) (hl : slots + cap ≤ R.slots) (hp : pc + 2 = q)
    (K : ∀ (T' : State) (h' : Heap) (a : Addr) (k : ClassId), a = h.size → On l Z p e R s m args below meth c y code maxL ret T' h' locs (cells + 1) (slots + cap) → Ext h h' → Arv Z h' a k (newarray.typeOf aty) n (List.replicate N (defaultValue (newarray.typeOf aty))) (defaultValue (newarray.typeOf aty)) → Z.heap.size ≤ a → Goes p e below F T' (mkF m q L (.ref a :: S))) : Goes p e below F T (mkF m pc L (.int n :: S)) := by
  subst hp
  obtain ⟨X1, C1, e1, N1, E1⟩ := X
  obtain ⟨T', h', k, X', e', E', A', st⟩ := newP X1 C1.1 C1.2.2.1 w e1 (g := mkF m pc L (.int n :: S)) rfl (hb C1.2.1 hd) rfl hn hcap hb8 hc hl
  exact Goes.step st (K T' h' h.size k rfl ⟨X', C1, e', N1, ext_trans E1 E'⟩ E' ((Arv.new A' hn).pad (pad_rep [] _ N)) E1.1)
theorem o_getF (X : On l Z p e R s m args below meth c y code maxL ret T h locs cells slots) {R0 O n d host : String} {index q : Nat} {a : Addr} {v : Value} (Fx : Fld Z h a O n d v) (w : (Jvm.Cond.fieldLink y.cls index R0 n d).before a0 Z = true ∨ (Jvm.Cond.fieldLinkNest y.cls index R0 n d host).before a0 Z = true) (via : Via Z R0 O n d) (hd : decode code pc = .ok (.getfield index, 3)) (hp : pc + 3 = q)
    (K : ∀ T' : State, On l Z p e R s m args below meth c y code maxL ret T' h locs cells slots → Goes p e below F T' (mkF m q L (v :: S))) : Goes p e below F T (mkF m pc L (.ref a :: S)) := by
  subst hp
  obtain ⟨X1, C1, e1, N1, E1⟩ := X
  obtain ⟨T', X', e', st⟩ := getF X1 C1.1 C1.2.2.1 C1.2.2.2.1 w via e1 Fx (g := mkF m pc L (.ref a :: S)) rfl rfl (hb C1.2.1 hd)
  exact Goes.step st (K T' ⟨X', C1, e', N1, E1⟩)
theorem o_getS (X : On l Z p e R s m args below meth c y code maxL ret T h locs cells slots) {R0 O n d host : String} {index q : Nat} {v : Value} (Fx : Sta Z Z.heap O n d v) (w : (Jvm.Cond.fieldLink y.cls index R0 n d).before a0 Z = true ∨ (Jvm.Cond.fieldLinkNest y.cls index R0 n d host).before a0 Z = true) (via : Via Z R0 O n d) (hd : decode code pc = .ok (.getstatic index, 3)) (hp : pc + 3 = q)
    (K : ∀ T' : State, On l Z p e R s m args below meth c y code maxL ret T' h locs cells slots → Goes p e below F T' (mkF m q L (v :: S))) : Goes p e below F T (mkF m pc L S) := by
  subst hp
  obtain ⟨X1, C1, e1, N1, E1⟩ := X
  obtain ⟨T', X', e', st⟩ := getS2 X1 C1.1 C1.2.2.1 C1.2.2.2.1 w via e1 (Fx.ext E1) (g := mkF m pc L S) rfl (hb C1.2.1 hd)
  exact Goes.step st (K T' ⟨X', C1, e', N1, E1⟩)
theorem o_putF (X : On l Z p e R s m args below meth c y code maxL ret T h locs cells slots) {R0 O n d host C : String} {index kk q : Nat} {ty : FieldType} {a : Addr} {v old : Value} (Fx : Fld Z h a O n d old) (E : Exa Z h a C) (ha : Z.heap.size ≤ a) (w : (Jvm.Cond.fieldLink y.cls index R0 n d).before a0 Z = true ∨ (Jvm.Cond.fieldLinkNest y.cls index R0 n d host).before a0 Z = true) (via : Via Z R0 O n d)
    (Lw : (Jvm.Cond.lays C O n d).before a0 Z = true ∨ ((Jvm.Cond.laysFinal C O n d).before a0 Z = true ∧ y.cls = O ∧ y.name = "<init>")) (wi : (Jvm.Cond.instantiable C kk).before a0 Z = true) (hty : parseFieldDescriptor d = some ty) (hn : narrow ty v = v) (hf : fits ty v = true) (hd : decode code pc = .ok (.putfield index, 3)) (hp : pc + 3 = q)
    (K : ∀ (T' : State) (h' : Heap) (locs' : List Loc), On l Z p e R s m args below meth c y code maxL ret T' h' locs' cells slots → Wr h h' a (Jvm.RoadKit.slotOf Z O n d) v → Fld Z h' a O n d v → Goes p e below F T' (mkF m q L S)) : Goes p e below F T (mkF m pc L (v :: .ref a :: S)) := by
  subst hp
  obtain ⟨X1, C1, e1, N1, E1⟩ := X
  obtain ⟨T', h', X', e', W', st⟩ := putF X1 C1.1 C1.2.2.1 C1.2.2.2.1 w via e1 Fx E (Lw.imp_right fun q => ⟨q.1, q.2.1, C1.2.2.2.2.2.2.1.trans q.2.2⟩) wi hty hn hf (g := mkF m pc L (v :: .ref a :: S)) rfl rfl (hb C1.2.1 hd)
  exact Goes.step st (K T' h' _ ⟨X', C1, e', Fr.snoc X' N1 ha, ext_wr E1 W' ha⟩ W' (Fx.same W'))
theorem o_len (X : On l Z p e R s m args below meth c y code maxL ret T h locs cells slots) {a : Addr} {k : ClassId} {ty : FieldType} {n : Int32} {vs : List Value} {dv : Value} {q : Nat} (A : Arv Z h a k ty n vs dv) (hd : decode code pc = .ok (.arraylength, 1)) (hp : pc + 1 = q) (K : Goes p e below F T (mkF m q L (.int n :: S))) : Goes p e below F T (mkF m pc L (.ref a :: S)) := by
  subst hp
  obtain ⟨X1, C1, e1, N1, E1⟩ := X
  obtain ⟨cl, Ar, -, Sz, Nn, -⟩ := A
  refine Goes.step (X1.arraylength C1.1 (by rw [e1]; exact Ar.1) (State.isArrayOf_alike C1.2.2.1.alike Ar.2.1) (g := mkF m pc L (.ref a :: S)) rfl rfl (hb C1.2.1 hd)) ?_
  rw [len_of Sz Nn]
  exact K
theorem o_iaload (X : On l Z p e R s m args below meth c y code maxL ret T h locs cells slots) {a : Addr} {k : ClassId} {n j : Int32} {vs : List Value} {dv v : Value} {q : Nat} (A : Arv Z h a k .int n vs dv) (hj : ¬ j < 0 ∧ j < n) (hv : vs.getD j.toNatClampNeg dv = v) (hd : decode code pc = .ok (.iaload, 1)) (hp : pc + 1 = q) (K : Goes p e below F T (mkF m q L (v :: S))) : Goes p e below F T (mkF m pc L (.int j :: .ref a :: S)) := by
  subst hp
  obtain ⟨X1, C1, e1, N1, E1⟩ := X
  obtain ⟨cl, Ar, -, Sz, Nn, H, -⟩ := A
  have hin := inb_of Sz hj
  exact Goes.step (X1.iaload C1.1 (j := j) (v := v) (by rw [e1]; exact Ar.1) (State.isArrayOf_alike C1.2.2.1.alike Ar.2.1) Ar.2.2 hin (H.at hin hv) (g := mkF m pc L (.int j :: .ref a :: S)) rfl rfl (hb C1.2.1 hd)) K
theorem o_laload (X : On l Z p e R s m args below meth c y code maxL ret T h locs cells slots) {a : Addr} {k : ClassId} {n j : Int32} {vs : List Value} {dv v : Value} {q : Nat} (A : Arv Z h a k .long n vs dv) (hj : ¬ j < 0 ∧ j < n) (hv : vs.getD j.toNatClampNeg dv = v) (hd : decode code pc = .ok (.laload, 1)) (hp : pc + 1 = q) (K : Goes p e below F T (mkF m q L (v :: S))) : Goes p e below F T (mkF m pc L (.int j :: .ref a :: S)) := by
  subst hp
  obtain ⟨X1, C1, e1, N1, E1⟩ := X
  obtain ⟨cl, Ar, -, Sz, Nn, H, -⟩ := A
  have hin := inb_of Sz hj
  exact Goes.step (X1.laload C1.1 (j := j) (v := v) (by rw [e1]; exact Ar.1) (State.isArrayOf_alike C1.2.2.1.alike Ar.2.1) Ar.2.2 hin (H.at hin hv) (g := mkF m pc L (.int j :: .ref a :: S)) rfl rfl (hb C1.2.1 hd)) K
theorem o_caload (X : On l Z p e R s m args below meth c y code maxL ret T h locs cells slots) {a : Addr} {k : ClassId} {n j : Int32} {vs : List Value} {dv v : Value} {q : Nat} (A : Arv Z h a k .char n vs dv) (hj : ¬ j < 0 ∧ j < n) (hv : vs.getD j.toNatClampNeg dv = v) (hd : decode code pc = .ok (.caload, 1)) (hp : pc + 1 = q) (K : Goes p e below F T (mkF m q L (v :: S))) : Goes p e below F T (mkF m pc L (.int j :: .ref a :: S)) := by
  subst hp
  obtain ⟨X1, C1, e1, N1, E1⟩ := X
  obtain ⟨cl, Ar, -, Sz, Nn, H, -⟩ := A
  have hin := inb_of Sz hj
  exact Goes.step (X1.caload C1.1 (j := j) (v := v) (by rw [e1]; exact Ar.1) (State.isArrayOf_alike C1.2.2.1.alike Ar.2.1) Ar.2.2 hin (H.at hin hv) (g := mkF m pc L (.int j :: .ref a :: S)) rfl rfl (hb C1.2.1 hd)) K
theorem o_baload (X : On l Z p e R s m args below meth c y code maxL ret T h locs cells slots) {a : Addr} {k : ClassId} {n j : Int32} {vs : List Value} {dv v : Value} {q : Nat} (A : Arv Z h a k .byte n vs dv) (hj : ¬ j < 0 ∧ j < n) (hv : vs.getD j.toNatClampNeg dv = v) (hd : decode code pc = .ok (.baload, 1)) (hp : pc + 1 = q) (K : Goes p e below F T (mkF m q L (v :: S))) : Goes p e below F T (mkF m pc L (.int j :: .ref a :: S)) := by
  subst hp
  obtain ⟨X1, C1, e1, N1, E1⟩ := X
  obtain ⟨cl, Ar, -, Sz, Nn, H, -⟩ := A
  have hin := inb_of Sz hj
  exact Goes.step (X1.baloadBytes C1.1 (j := j) (v := v) (by rw [e1]; exact Ar.1) (State.isArrayOf_alike C1.2.2.1.alike Ar.2.1) Ar.2.2 hin (H.at hin hv) (g := mkF m pc L (.int j :: .ref a :: S)) rfl rfl (hb C1.2.1 hd)) K
theorem o_aaload (X : On l Z p e R s m args below meth c y code maxL ret T h locs cells slots) {a : Addr} {k : ClassId} {ty : FieldType} {n j : Int32} {vs : List Value} {dv v : Value} {q : Nat} (A : Arv Z h a k ty n vs dv) (hty : ty.isReference = true) (hj : ¬ j < 0 ∧ j < n) (hv : vs.getD j.toNatClampNeg dv = v) (hd : decode code pc = .ok (.aaload, 1)) (hp : pc + 1 = q) (K : Goes p e below F T (mkF m q L (v :: S))) : Goes p e below F T (mkF m pc L (.int j :: .ref a :: S)) := by
  subst hp
  obtain ⟨X1, C1, e1, N1, E1⟩ := X
  obtain ⟨cl, Ar, -, Sz, Nn, H, -⟩ := A
  have hin := inb_of Sz hj
  exact Goes.step (X1.aaload C1.1 (j := j) (v := v) (by rw [e1]; exact Ar.1) (State.isArrayOf_alike C1.2.2.1.alike Ar.2.1) hty Ar.2.2 hin (H.at hin hv) (g := mkF m pc L (.int j :: .ref a :: S)) rfl rfl (hb C1.2.1 hd)) K
theorem o_iastore (X : On l Z p e R s m args below meth c y code maxL ret T h locs cells slots) {a : Addr} {k : ClassId} {n j : Int32} {x : Int32} {v : Value} {vs : List Value} {dv : Value} {q : Nat} (i : Nat) (A : Arv Z h a k .int n vs dv) (ha : Z.heap.size ≤ a) (hj : ¬ j < 0 ∧ j < n) (hi : j.toNatClampNeg = i) (hlt : i < vs.length) (hv : (.int x : Value) = v) (hd : decode code pc = .ok (.iastore, 1)) (hp : pc + 1 = q)
    (K : ∀ (T' : State) (h' : Heap) (locs' : List Loc), On l Z p e R s m args below meth c y code maxL ret T' h' locs' cells slots → Wr h h' a i v → Arv Z h' a k .int n (vs.set i v) dv → Goes p e below F T' (mkF m q L S)) : Goes p e below F T (mkF m pc L (.int x :: .int j :: .ref a :: S)) := by
  subst hp hv
  obtain ⟨X1, C1, e1, N1, E1⟩ := X
  obtain ⟨cl, Ar, q1, Sz, Nn, H, G⟩ := A
  obtain ⟨T', h', X', e', W', st⟩ := stI X1 C1.1 C1.2.2.1 e1 Ar (j := j) (inb_of Sz hj) (g := mkF m pc L (.int x :: .int j :: .ref a :: S)) rfl rfl (hb C1.2.1 hd)
  exact Goes.step st (K T' h' _ ⟨X', C1, e', Fr.snoc X' N1 ha, ext_wr E1 W' ha⟩ (hi ▸ W') (Arv.set Ar q1 Sz Nn H G rfl W' i hi hlt))
theorem o_lastore (X : On l Z p e R s m args below meth c y code maxL ret T h locs cells slots) {a : Addr} {k : ClassId} {n j : Int32} {x : Int64} {v : Value} {vs : List Value} {dv : Value} {q : Nat} (i : Nat) (A : Arv Z h a k .long n vs dv) (ha : Z.heap.size ≤ a) (hj : ¬ j < 0 ∧ j < n) (hi : j.toNatClampNeg = i) (hlt : i < vs.length) (hv : (.long x : Value) = v) (hd : decode code pc = .ok (.lastore, 1)) (hp : pc + 1 = q)
    (K : ∀ (T' : State) (h' : Heap) (locs' : List Loc), On l Z p e R s m args below meth c y code maxL ret T' h' locs' cells slots → Wr h h' a i v → Arv Z h' a k .long n (vs.set i v) dv → Goes p e below F T' (mkF m q L S)) : Goes p e below F T (mkF m pc L (.long x :: .int j :: .ref a :: S)) := by
  subst hp hv
  obtain ⟨X1, C1, e1, N1, E1⟩ := X
  obtain ⟨cl, Ar, q1, Sz, Nn, H, G⟩ := A
  obtain ⟨T', h', X', e', W', st⟩ := stJ X1 C1.1 C1.2.2.1 e1 Ar (j := j) (inb_of Sz hj) (g := mkF m pc L (.long x :: .int j :: .ref a :: S)) rfl rfl (hb C1.2.1 hd)
  exact Goes.step st (K T' h' _ ⟨X', C1, e', Fr.snoc X' N1 ha, ext_wr E1 W' ha⟩ (hi ▸ W') (Arv.set Ar q1 Sz Nn H G rfl W' i hi hlt))
theorem o_castore (X : On l Z p e R s m args below meth c y code maxL ret T h locs cells slots) {a : Addr} {k : ClassId} {n j : Int32} {x : Int32} {v : Value} {vs : List Value} {dv : Value} {q : Nat} (i : Nat) (A : Arv Z h a k .char n vs dv) (ha : Z.heap.size ≤ a) (hj : ¬ j < 0 ∧ j < n) (hi : j.toNatClampNeg = i) (hlt : i < vs.length) (hv : (.int (nar .char x) : Value) = v) (hd : decode code pc = .ok (.castore, 1)) (hp : pc + 1 = q)
    (K : ∀ (T' : State) (h' : Heap) (locs' : List Loc), On l Z p e R s m args below meth c y code maxL ret T' h' locs' cells slots → Wr h h' a i v → Arv Z h' a k .char n (vs.set i v) dv → Goes p e below F T' (mkF m q L S)) : Goes p e below F T (mkF m pc L (.int x :: .int j :: .ref a :: S)) := by
  subst hp hv
  obtain ⟨X1, C1, e1, N1, E1⟩ := X
  obtain ⟨cl, Ar, q1, Sz, Nn, H, G⟩ := A
  obtain ⟨T', h', X', e', W', st⟩ := stC X1 C1.1 C1.2.2.1 e1 Ar (j := j) (inb_of Sz hj) (g := mkF m pc L (.int x :: .int j :: .ref a :: S)) rfl rfl (hb C1.2.1 hd)
  exact Goes.step st (K T' h' _ ⟨X', C1, e', Fr.snoc X' N1 ha, ext_wr E1 W' ha⟩ (hi ▸ W') (Arv.set Ar q1 Sz Nn H G (fits_nar_char x) W' i hi hlt))
theorem o_bastore (X : On l Z p e R s m args below meth c y code maxL ret T h locs cells slots) {a : Addr} {k : ClassId} {n j : Int32} {x : Int32} {v : Value} {vs : List Value} {dv : Value} {q : Nat} (i : Nat) (A : Arv Z h a k .byte n vs dv) (ha : Z.heap.size ≤ a) (hj : ¬ j < 0 ∧ j < n) (hi : j.toNatClampNeg = i) (hlt : i < vs.length) (hv : (.int (nar .byte x) : Value) = v) (hd : decode code pc = .ok (.bastore, 1)) (hp : pc + 1 = q)
    (K : ∀ (T' : State) (h' : Heap) (locs' : List Loc), On l Z p e R s m args below meth c y code maxL ret T' h' locs' cells slots → Wr h h' a i v → Arv Z h' a k .byte n (vs.set i v) dv → Goes p e below F T' (mkF m q L S)) : Goes p e below F T (mkF m pc L (.int x :: .int j :: .ref a :: S)) := by
  subst hp hv
  obtain ⟨X1, C1, e1, N1, E1⟩ := X
  obtain ⟨cl, Ar, q1, Sz, Nn, H, G⟩ := A
  obtain ⟨T', h', X', e', W', st⟩ := stB X1 C1.1 C1.2.2.1 e1 Ar (j := j) (inb_of Sz hj) (g := mkF m pc L (.int x :: .int j :: .ref a :: S)) rfl rfl (hb C1.2.1 hd)
  exact Goes.step st (K T' h' _ ⟨X', C1, e', Fr.snoc X' N1 ha, ext_wr E1 W' ha⟩ (hi ▸ W') (Arv.set Ar q1 Sz Nn H G (fits_nar_byte x) W' i hi hlt))
theorem o_ret (X : On l Z p e R s m args below meth c y code maxL none T h locs cells slots) {Q : Option Value → Heap → Prop} {rc rs : Nat} (hd : decode code pc = .ok (.return_, 1)) (hQ : Q none h) (hc : cells ≤ rc) (hs : slots ≤ rs) : Goes p e below (FinQ Z s Q rc rs) T (mkF m pc L []) := by
  obtain ⟨X1, C1, e1, N1, E1⟩ := X
  obtain ⟨fs, hr, hrun, hended, hW, hsame⟩ := X1.leave (v := none) (fun _ => rfl) C1.2.2.2.2.2.1
  refine ⟨_, _, X1.returnOut C1.1 C1.2.2.2.2.1 (hb C1.2.1 hd) hr, hrun, hended, _, _, rfl, ⟨?_, N1, ?_⟩, ⟨_, rfl⟩, hW, hsame.mono hc hs⟩
  · show Q none T.heap
    rw [e1]; exact hQ
  · show Ext Z.heap T.heap
    rw [e1]; exact E1
theorem o_retI (X : On l Z p e R s m args below meth c y code maxL (some .int) T h locs cells slots) {Q : Option Value → Heap → Prop} {rc rs : Nat} {z : Int32} (hd : decode code pc = .ok (.ireturn, 1)) (hQ : Q (some (.int z)) h) (hc : cells ≤ rc) (hs : slots ≤ rs) : Goes p e below (FinQ Z s Q rc rs) T (mkF m pc L (.int z :: S)) := by
  obtain ⟨X1, C1, e1, N1, E1⟩ := X
  obtain ⟨fs, hr, hrun, hended, hW, hsame⟩ := X1.leave (v := some (.int z)) (fun h => by rw [C1.2.2.2.2.1] at h; cases h) C1.2.2.2.2.2.1
  refine ⟨_, _, retOut X1 C1.1 C1.2.2.2.2.1 rfl (Or.inl ⟨rfl, Or.inl rfl, z, rfl⟩) (hb C1.2.1 hd) hr, hrun, hended, _, _, rfl, ⟨?_, N1, ?_⟩, ⟨_, rfl⟩, hW, hsame.mono hc hs⟩
  · show Q _ T.heap
    rw [e1]; exact hQ
  · show Ext Z.heap T.heap
    rw [e1]; exact E1
theorem o_retN {t : FieldType} (X : On l Z p e R s m args below meth c y code maxL (some t) T h locs cells slots) {Q : Option Value → Heap → Prop} {rc rs : Nat} {z : Int32} (hd : decode code pc = .ok (.ireturn, 1)) (ht : t = .boolean ∨ t = .byte ∨ t = .char ∨ t = .short) (hQ : Q (some (.int (nar t z))) h) (hc : cells ≤ rc) (hs : slots ≤ rs) : Goes p e below (FinQ Z s Q rc rs) T (mkF m pc L (.int z :: S)) := by
  obtain ⟨X1, C1, e1, N1, E1⟩ := X
  obtain ⟨fs, hr, hrun, hended, hW, hsame⟩ := X1.leave (v := some (.int (nar t z))) (fun h => by rw [C1.2.2.2.2.1] at h; cases h) C1.2.2.2.2.2.1
  refine ⟨_, _, retN X1 C1.1 C1.2.2.2.2.1 ht (hb C1.2.1 hd) hr, hrun, hended, _, _, rfl, ⟨?_, N1, ?_⟩, ⟨_, rfl⟩, hW, hsame.mono hc hs⟩
  · show Q _ T.heap
    rw [e1]; exact hQ
  · show Ext Z.heap T.heap
    rw [e1]; exact E1
theorem o_retR {t : FieldType} (X : On l Z p e R s m args below meth c y code maxL (some t) T h locs cells slots) {Q : Option Value → Heap → Prop} {rc rs : Nat} {v : Value} (hd : decode code pc = .ok (.areturn, 1)) (ht : t.isReference = true) (hv : v.isRef = true) (hn : narrow t v = v) (hQ : Q (some v) h) (hc : cells ≤ rc) (hs : slots ≤ rs) : Goes p e below (FinQ Z s Q rc rs) T (mkF m pc L (v :: S)) := by
  obtain ⟨X1, C1, e1, N1, E1⟩ := X
  obtain ⟨fs, hr, hrun, hended, hW, hsame⟩ := X1.leave (v := some v) (fun h => by rw [C1.2.2.2.2.1] at h; cases h) C1.2.2.2.2.2.1
  refine ⟨_, _, retOut X1 C1.1 C1.2.2.2.2.1 hn (Or.inr (Or.inr (Or.inr (Or.inr ⟨rfl, ht, hv⟩)))) (hb C1.2.1 hd) hr, hrun, hended, _, _, rfl, ⟨?_, N1, ?_⟩, ⟨_, rfl⟩, hW, hsame.mono hc hs⟩
  · show Q _ T.heap
    rw [e1]; exact hQ
  · show Ext Z.heap T.heap
    rw [e1]; exact E1
theorem o_retJ (X : On l Z p e R s m args below meth c y code maxL (some .long) T h locs cells slots) {Q : Option Value → Heap → Prop} {rc rs : Nat} {z : Int64} (hd : decode code pc = .ok (.lreturn, 1)) (hQ : Q (some (.long z)) h) (hc : cells ≤ rc) (hs : slots ≤ rs) : Goes p e below (FinQ Z s Q rc rs) T (mkF m pc L (.long z :: S)) := by
  obtain ⟨X1, C1, e1, N1, E1⟩ := X
  obtain ⟨fs, hr, hrun, hended, hW, hsame⟩ := X1.leave (v := some (.long z)) (fun h => by rw [C1.2.2.2.2.1] at h; cases h) C1.2.2.2.2.2.1
  refine ⟨_, _, retOut X1 C1.1 C1.2.2.2.2.1 rfl (Or.inr (Or.inl ⟨rfl, rfl, z, rfl⟩)) (hb C1.2.1 hd) hr, hrun, hended, _, _, rfl, ⟨?_, N1, ?_⟩, ⟨_, rfl⟩, hW, hsame.mono hc hs⟩
  · show Q _ T.heap
    rw [e1]; exact hQ
  · show Ext Z.heap T.heap
    rw [e1]; exact E1
theorem o_initO (X : On l Z p e R s m args below meth c y code maxL ret T h locs cells slots) {idx q : Nat} {a : Addr} (w1 : (Jvm.Cond.methodLink y.cls idx Lib.objectInit).before a0 Z = true) (w2 : (Jvm.Cond.instanceMethod Lib.objectInit).before a0 Z = true) (w3 : (Jvm.Cond.code Lib.objectInit ⟨#[0xb1]⟩ 1 none).before a0 Z = true) (hd : decode code pc = .ok (.invokespecial idx, 3)) (hL : L.size = maxL) (hf : 1 ≤ R.frames) (hl : (S.map fun v => v.category).sum + 12 ≤ R.locals) (hp : pc + 3 = q)
    (K : ∀ T' : State, On l Z p e R s m args below meth c y code maxL ret T' h locs cells slots → Goes p e below F T' (mkF m q L S)) : Goes p e below F T (mkF m pc L (.ref a :: S)) := by
  subst hp
  obtain ⟨X1, C1, e1, N1, E1⟩ := X
  obtain ⟨T', X', e', st⟩ := initO X1 C1.1 C1.2.2.1 C1.2.2.2.1 w1 w2 w3 e1 (g := mkF m pc L (.ref a :: S)) rfl (hL.trans C1.2.2.2.2.2.2.2.symm) rfl (hb C1.2.1 hd) hf (W := (S.map fun v => v.category).sum) (by show 2 * 0 + _ ≤ _; omega) hl
  exact Goes.step st (K T' ⟨X', C1, e', N1, E1⟩)
/-- a call that some Back pays: what its Post says of the heap behind -/
theorem o_specB (X : On l Z p e R s m args below meth c y code maxL ret T h locs cells slots) {y' : MethodName} {index W q : Nat} {bytes : ByteArray} {maxL' : Nat} {Q : Option Value → Heap → List Loc → Prop} {rc rs : Nat} {as : Array Value} (argsL : List Value) {a : Addr} {rest : List Value}
    (hK : Back l R p e below s args y' 3 W (fun A b => b = as ∧ A.U.heap = h ∧ A.cells + rc ≤ R.cells ∧ A.slots + rs ≤ R.slots) (fun A _ v B => ∃ L, Q v B.U.heap L ∧ B.locs = A.locs ++ L ∧ B.cells = A.cells + rc ∧ B.slots = A.slots + rs))
    (hq : ∀ v h' L, Q v h' L → Fr Z.heap.size L ∧ Ext Z.heap h')
    (hy1 : y'.name = "<init>") (w1 : (Jvm.Cond.methodLink y.cls index y').before a0 Z = true) (w2 : (Jvm.Cond.instanceMethod y').before a0 Z = true) (w3 : (Jvm.Cond.code y' bytes maxL' none).before a0 Z = true) (hy : y'.cls ≠ "java/lang/invoke/MethodHandle" ∧ y'.cls ≠ "java/lang/invoke/VarHandle")
    (hd : decode code pc = .ok (.invokespecial index, 3)) (has : (.ref a :: argsL).toArray = as) (hL : L.size = maxL) (hlen : ∀ sig, parseMethodDescriptor y'.desc = some sig → argsL.length = sig.parameters.length) (hS : S = argsL.reverse ++ .ref a :: rest) (hW : (rest.map fun v => v.category).sum ≤ W) (hc : cells + rc ≤ R.cells) (hs : slots + rs ≤ R.slots) (hp : pc + 3 = q)
    (K : ∀ (v : Option Value) (T' : State) (h' : Heap) (L' locs' : List Loc), On l Z p e R s m args below meth c y code maxL ret T' h' locs' (cells + rc) (slots + rs) → Q v h' L' → Goes p e below F T' (mkF m q L (v.toList ++ rest))) : Goes p e below F T (mkF m pc L S) := by
  subst hp hS has
  obtain ⟨X1, C1, e1, N1, E1⟩ := X
  obtain ⟨v, vm1, ⟨T', L1, k1, n1⟩, -, X', ⟨Lc, hQ, e2, e3, e4⟩, st⟩ := X1.specialBack C1.1 hy1 C1.2.2.2.1 (mvT C1.2.2.1 w1) (mvT C1.2.2.1 w2) (mvT C1.2.2.1 w3) hy hK (g := mkF m pc L (argsL.reverse ++ .ref a :: rest)) rfl (hL.trans C1.2.2.2.2.2.2.2.symm) (Steps.refl _) hlen rfl (by show 2 * 0 + _ ≤ _; omega) (hb C1.2.1 hd) (fun _ _ => ⟨rfl, e1, hc, hs⟩)
  dsimp only [Pt.U, Pt.locs, Pt.cells, Pt.slots] at X' hQ e2 e3 e4 st
  subst e2 e3 e4
  obtain ⟨f1, f2⟩ := hq _ _ _ hQ
  exact Goes.step (fun _ k => st.trans k) (K v T' T'.heap Lc _ ⟨X', C1, rfl, Fr.app N1 f1, f2⟩ hQ)
theorem o_virtB (X : On l Z p e R s m args below meth c y code maxL ret T h locs cells slots) {C : String} {y' : MethodName} {index W q : Nat} {Q : Option Value → Heap → List Loc → Prop} {rc rs : Nat} {as : Array Value} (argsL : List Value) {a : Addr} {rest : List Value} (E : Exa Z h a C)
    (hK : Back l R p e below s args y' 3 W (fun A b => b = as ∧ A.U.heap = h ∧ A.cells + rc ≤ R.cells ∧ A.slots + rs ≤ R.slots) (fun A _ v B => ∃ L, Q v B.U.heap L ∧ B.locs = A.locs ++ L ∧ B.cells = A.cells + rc ∧ B.slots = A.slots + rs))
    (hq : ∀ v h' L, Q v h' L → Fr Z.heap.size L ∧ Ext Z.heap h')
    (w1 : (Jvm.Cond.methodLink y.cls index y').before a0 Z = true) (w2 : (Jvm.Cond.declares y').before a0 Z = true) (w3 : (Jvm.Cond.selects C y' y').before a0 Z = true) (w4 : (Jvm.Cond.instanceMethod y').before a0 Z = true) (hy : y'.cls ≠ "java/lang/invoke/MethodHandle" ∧ y'.cls ≠ "java/lang/invoke/VarHandle")
    (hd : decode code pc = .ok (.invokevirtual index, 3)) (has : (.ref a :: argsL).toArray = as) (hL : L.size = maxL) (hlen : ∀ sig, parseMethodDescriptor y'.desc = some sig → argsL.length = sig.parameters.length) (hS : S = argsL.reverse ++ .ref a :: rest) (hW : (rest.map fun v => v.category).sum ≤ W) (hc : cells + rc ≤ R.cells) (hs : slots + rs ≤ R.slots) (hp : pc + 3 = q)
    (K : ∀ (v : Option Value) (T' : State) (h' : Heap) (L' locs' : List Loc), On l Z p e R s m args below meth c y code maxL ret T' h' locs' (cells + rc) (slots + rs) → Q v h' L' → Goes p e below F T' (mkF m q L (v.toList ++ rest))) : Goes p e below F T (mkF m pc L S) := by
  subst hp hS has
  obtain ⟨X1, C1, e1, N1, E1⟩ := X
  obtain ⟨cB, kB, q1, q2, q3⟩ := isOf C1.2.2.1 e1 E
  obtain ⟨v, vm1, ⟨T', L1, k1, n1⟩, -, X', ⟨Lc, hQ, e2, e3, e4⟩, st⟩ := X1.virtualBack C1.1 (y := y') (z := y') C1.2.2.2.1 (mvT C1.2.2.1 w1) (mvT C1.2.2.1 w2) (notFace_of_selects (args := #[]) (mvT C1.2.2.1 w3)) (mvT C1.2.2.1 w3) (mvT C1.2.2.1 w4) hy hK q1 q3 (g := mkF m pc L (argsL.reverse ++ .ref a :: rest)) rfl (hL.trans C1.2.2.2.2.2.2.2.symm) (Steps.refl _) hlen rfl (by show 2 * 0 + _ ≤ _; omega) (hb C1.2.1 hd) (fun _ _ => ⟨rfl, e1, hc, hs⟩)
  dsimp only [Pt.U, Pt.locs, Pt.cells, Pt.slots] at X' hQ e2 e3 e4 st
  subst e2 e3 e4
  obtain ⟨f1, f2⟩ := hq _ _ _ hQ
  exact Goes.step (fun _ k => st.trans k) (K v T' T'.heap Lc _ ⟨X', C1, rfl, Fr.app N1 f1, f2⟩ hQ)
theorem o_statB (X : On l Z p e R s m args below meth c y code maxL ret T h locs cells slots) {y' : MethodName} {index W q : Nat} {bytes : ByteArray} {maxL' : Nat} {ret' : Option FieldType} {Q : Option Value → Heap → List Loc → Prop} {rc rs : Nat} {as : Array Value} (argsL : List Value) {rest : List Value}
    (hK : Back l R p e below s args y' 3 W (fun A b => b = as ∧ A.U.heap = h ∧ A.cells + rc ≤ R.cells ∧ A.slots + rs ≤ R.slots) (fun A _ v B => ∃ L, Q v B.U.heap L ∧ B.locs = A.locs ++ L ∧ B.cells = A.cells + rc ∧ B.slots = A.slots + rs))
    (hq : ∀ v h' L, Q v h' L → Fr Z.heap.size L ∧ Ext Z.heap h')
    (w1 : (Jvm.Cond.methodLink y.cls index y').before a0 Z = true) (w2 : (Jvm.Cond.static y').before a0 Z = true) (w3 : (Jvm.Cond.initialized y'.cls).before a0 Z = true) (w4 : (Jvm.Cond.code y' bytes maxL' ret').before a0 Z = true) (hy : y'.cls ≠ "java/lang/invoke/MethodHandle" ∧ y'.cls ≠ "java/lang/invoke/VarHandle")
    (hd : decode code pc = .ok (.invokestatic index, 3)) (has : argsL.toArray = as) (hL : L.size = maxL) (hlen : ∀ sig, parseMethodDescriptor y'.desc = some sig → argsL.length = sig.parameters.length) (hS : S = argsL.reverse ++ rest) (hW : (rest.map fun v => v.category).sum ≤ W) (hc : cells + rc ≤ R.cells) (hs : slots + rs ≤ R.slots) (hp : pc + 3 = q)
    (K : ∀ (v : Option Value) (T' : State) (h' : Heap) (L' locs' : List Loc), On l Z p e R s m args below meth c y code maxL ret T' h' locs' (cells + rc) (slots + rs) → Q v h' L' → Goes p e below F T' (mkF m q L (v.toList ++ rest))) : Goes p e below F T (mkF m pc L S) := by
  subst hp hS has
  obtain ⟨X1, C1, e1, N1, E1⟩ := X
  obtain ⟨v, vm1, ⟨T', L1, k1, n1⟩, -, X', ⟨Lc, hQ, e2, e3, e4⟩, st⟩ := Jvm.LawKit.callS X1 C1.1 C1.2.2.2.1 (mvT C1.2.2.1 w1) (mvT C1.2.2.1 w2) (mvT C1.2.2.1 w3) (mvT C1.2.2.1 w4) hy hK (g := mkF m pc L (argsL.reverse ++ rest)) rfl (hL.trans C1.2.2.2.2.2.2.2.symm) hlen rfl (by show 2 * 0 + _ ≤ _; omega) (hb C1.2.1 hd) (fun _ _ => ⟨rfl, e1, hc, hs⟩)
  dsimp only [Pt.U, Pt.locs, Pt.cells, Pt.slots] at X' hQ e2 e3 e4 st
  subst e2 e3 e4
  obtain ⟨f1, f2⟩ := hq _ _ _ hQ
  exact Goes.step st (K v T' T'.heap Lc _ ⟨X', C1, rfl, Fr.app N1 f1, f2⟩ hQ)
/-- a contract as a Back -/
theorem Con.back {y' : MethodName} {bytes : ByteArray} {maxL' : Nat} {ret' : Option FieldType} {rm : Room} {as : Array Value} {Q : Option Value → Heap → Prop} {len W : Nat} (X : On l Z p e R s m args below meth c y code maxL ret T h locs cells slots) (hC : Con l Z y' bytes maxL' ret' rm as h Q) (w4 : (Jvm.Cond.code y' bytes maxL' ret').before a0 Z = true) (w3 : (Jvm.Cond.initialized y'.cls).before a0 Z = true) (hf : rm.frames + 1 ≤ R.frames) (hl : W + (maxL' + 11) + rm.locals ≤ R.locals) :
    Back l R p e below s args y' len W (fun A b => b = as ∧ A.U.heap = h ∧ A.cells + rm.cells ≤ R.cells ∧ A.slots + rm.slots ≤ R.slots) (fun A _ v B => ∃ L, (Q v B.U.heap ∧ Fr Z.heap.size L ∧ Ext Z.heap B.U.heap) ∧ B.locs = A.locs ++ L ∧ B.cells = A.cells + rm.cells ∧ B.slots = A.slots + rm.slots) :=
  backOf (Q := fun v h' L => Q v h' ∧ Fr Z.heap.size L ∧ Ext Z.heap h') (hC X.ext []) X.2.1.2.2.1 w4 w3 hf hl
theorem o_spec (X : On l Z p e R s m args below meth c y code maxL ret T h locs cells slots) {y' : MethodName} {index q : Nat} {bytes : ByteArray} {maxL' : Nat} {rm : Room} {as : Array Value} {Q : Option Value → Heap → Prop} (argsL : List Value) {a : Addr} {rest : List Value} (hC : Con l Z y' bytes maxL' none rm as h Q)
    (hy1 : y'.name = "<init>") (w1 : (Jvm.Cond.methodLink y.cls index y').before a0 Z = true) (w2 : (Jvm.Cond.instanceMethod y').before a0 Z = true) (w3 : (Jvm.Cond.code y' bytes maxL' none).before a0 Z = true) (w4 : (Jvm.Cond.initialized y'.cls).before a0 Z = true) (hy : y'.cls ≠ "java/lang/invoke/MethodHandle" ∧ y'.cls ≠ "java/lang/invoke/VarHandle")
    (hd : decode code pc = .ok (.invokespecial index, 3)) (has : (.ref a :: argsL).toArray = as) (hL : L.size = maxL) (hlen : ∀ sig, parseMethodDescriptor y'.desc = some sig → argsL.length = sig.parameters.length) (hS : S = argsL.reverse ++ .ref a :: rest) (hf : rm.frames + 1 ≤ R.frames) (hl : (rest.map fun v => v.category).sum + (maxL' + 11) + rm.locals ≤ R.locals) (hc : cells + rm.cells ≤ R.cells) (hs : slots + rm.slots ≤ R.slots) (hp : pc + 3 = q)
    (K : ∀ (v : Option Value) (T' : State) (h' : Heap) (locs' : List Loc), On l Z p e R s m args below meth c y code maxL ret T' h' locs' (cells + rm.cells) (slots + rm.slots) → Q v h' → Goes p e below F T' (mkF m q L (v.toList ++ rest))) : Goes p e below F T (mkF m pc L S) :=
  o_specB X argsL (Q := fun v h' L => Q v h' ∧ Fr Z.heap.size L ∧ Ext Z.heap h') (Con.back X hC w3 w4 hf hl) (fun _ _ _ q => q.2) hy1 w1 w2 w3 hy hd has hL hlen hS (Nat.le_refl _) hc hs hp (fun v T' h' L' locs' X' hQ => K v T' h' locs' X' hQ.1)
theorem o_virt (X : On l Z p e R s m args below meth c y code maxL ret T h locs cells slots) {C : String} {y' : MethodName} {index q : Nat} {bytes : ByteArray} {maxL' : Nat} {ret' : Option FieldType} {rm : Room} {as : Array Value} {Q : Option Value → Heap → Prop} (argsL : List Value) {a : Addr} {rest : List Value} (E : Exa Z h a C) (hC : Con l Z y' bytes maxL' ret' rm as h Q)
    (w1 : (Jvm.Cond.methodLink y.cls index y').before a0 Z = true) (w2 : (Jvm.Cond.declares y').before a0 Z = true) (w3 : (Jvm.Cond.selects C y' y').before a0 Z = true) (w4 : (Jvm.Cond.instanceMethod y').before a0 Z = true) (w5 : (Jvm.Cond.code y' bytes maxL' ret').before a0 Z = true) (w6 : (Jvm.Cond.initialized y'.cls).before a0 Z = true) (hy : y'.cls ≠ "java/lang/invoke/MethodHandle" ∧ y'.cls ≠ "java/lang/invoke/VarHandle")
    (hd : decode code pc = .ok (.invokevirtual index, 3)) (has : (.ref a :: argsL).toArray = as) (hL : L.size = maxL) (hlen : ∀ sig, parseMethodDescriptor y'.desc = some sig → argsL.length = sig.parameters.length) (hS : S = argsL.reverse ++ .ref a :: rest) (hf : rm.frames + 1 ≤ R.frames) (hl : (rest.map fun v => v.category).sum + (maxL' + 11) + rm.locals ≤ R.locals) (hc : cells + rm.cells ≤ R.cells) (hs : slots + rm.slots ≤ R.slots) (hp : pc + 3 = q)
    (K : ∀ (v : Option Value) (T' : State) (h' : Heap) (locs' : List Loc), On l Z p e R s m args below meth c y code maxL ret T' h' locs' (cells + rm.cells) (slots + rm.slots) → Q v h' → Goes p e below F T' (mkF m q L (v.toList ++ rest))) : Goes p e below F T (mkF m pc L S) :=
  o_virtB X argsL (Q := fun v h' L => Q v h' ∧ Fr Z.heap.size L ∧ Ext Z.heap h') E (Con.back X hC w5 w6 hf hl) (fun _ _ _ q => q.2) w1 w2 w3 w4 hy hd has hL hlen hS (Nat.le_refl _) hc hs hp (fun v T' h' L' locs' X' hQ => K v T' h' locs' X' hQ.1)
theorem o_stat (X : On l Z p e R s m args below meth c y code maxL ret T h locs cells slots) {y' : MethodName} {index q : Nat} {bytes : ByteArray} {maxL' : Nat} {ret' : Option FieldType} {rm : Room} {as : Array Value} {Q : Option Value → Heap → Prop} (argsL : List Value) {rest : List Value} (hC : Con l Z y' bytes maxL' ret' rm as h Q)
    (w1 : (Jvm.Cond.methodLink y.cls index y').before a0 Z = true) (w2 : (Jvm.Cond.static y').before a0 Z = true) (w3 : (Jvm.Cond.initialized y'.cls).before a0 Z = true) (w4 : (Jvm.Cond.code y' bytes maxL' ret').before a0 Z = true) (hy : y'.cls ≠ "java/lang/invoke/MethodHandle" ∧ y'.cls ≠ "java/lang/invoke/VarHandle")
    (hd : decode code pc = .ok (.invokestatic index, 3)) (has : argsL.toArray = as) (hL : L.size = maxL) (hlen : ∀ sig, parseMethodDescriptor y'.desc = some sig → argsL.length = sig.parameters.length) (hS : S = argsL.reverse ++ rest) (hf : rm.frames + 1 ≤ R.frames) (hl : (rest.map fun v => v.category).sum + (maxL' + 11) + rm.locals ≤ R.locals) (hc : cells + rm.cells ≤ R.cells) (hs : slots + rm.slots ≤ R.slots) (hp : pc + 3 = q)
    (K : ∀ (v : Option Value) (T' : State) (h' : Heap) (locs' : List Loc), On l Z p e R s m args below meth c y code maxL ret T' h' locs' (cells + rm.cells) (slots + rm.slots) → Q v h' → Goes p e below F T' (mkF m q L (v.toList ++ rest))) : Goes p e below F T (mkF m pc L S) :=
  o_statB X argsL (Q := fun v h' L => Q v h' ∧ Fr Z.heap.size L ∧ Ext Z.heap h') (Con.back X hC w4 w3 hf hl) (fun _ _ _ q => q.2) w1 w2 w3 w4 hy hd has hL hlen hS (Nat.le_refl _) hc hs hp (fun v T' h' L' locs' X' hQ => K v T' h' locs' X' hQ.1)
end OwnKit
end Jvm.Pilot.@@N@@

namespace Jvm.Pilot.@@N@@
open Jvm Jvm.ClassFile Sem Op Lib Jvm.Free Jvm.Stand Jvm.LawKit Jvm.RoadKit Bundle Jvm.Pilot.@@N@@.Jvm.D
section OwnCol
variable {l : Launch} {Z : State} {p : Program} {e : Env} {R : Room} {s : State} {m : MethodId} {args : Array Value} {below : List Frame} {meth : Method} {c : Code} {y : MethodName} {code : ByteArray} {maxL : Nat} {ret : Option FieldType} {T : State} {h : Heap} {locs : List Loc} {cells slots : Nat} {F : State → Outcome → Prop} {pc : Nat} {L L' : Array Slot} {S : List Value} {a0 : Array Value}
theorem o_anew (X : On l Z p e R s m args below meth c y code maxL ret T h locs cells slots) {C ad : String} {index : Nat} {n : Int32} {cap q : Nat} (N : Nat) (w1 : (Jvm.Cond.classLink y.cls index C).before a0 Z = true) (w2 : (Jvm.Cond.arrayOver (.object C)).before a0 Z = true) (had : "[" ++ (FieldType.object C).toString = ad) (hd : decode code pc = .ok (.anewarray index, 3)) (hn : ¬ n < 0) (hcap : n.toNatClampNeg ≤ cap) (hb8 : cap * 8 ≤ 536870912) (hc : cells + 1 ≤ R.cells) (hl : slots + cap ≤ R.slots) (hp : pc + 3 = q)
    (K : ∀ (T' : State) (h' : Heap) (a : Addr) (k : ClassId), a = h.size → On l Z p e R s m args below meth c y code maxL ret T' h' locs (cells + 1) (slots + cap) → Ext h h' → Arv Z h' a k (.object C) n (List.replicate N .null) .null → Exa Z h' a ad → Ovr Z k C → Z.heap.size ≤ a → Goes p e below F T' (mkF m q L (.ref a :: S))) : Goes p e below F T (mkF m pc L (.int n :: S)) := by
  subst hp
  obtain ⟨T', h', k, X', e', E', A', Ex, O', st⟩ := newRE X.1 X.2.1.1 (show Z.Warmed39 s.vm from X.2.1.2.2.1) X.2.1.2.2.2.1 w1 w2 X.2.2.1 (g := mkF m pc L (.int n :: S)) rfl (hb X.2.1.2.1 hd) rfl hn hcap hb8 hc hl had
  exact Goes.step st (K T' h' h.size k rfl (X.later X' e' X.2.2.2.1 (ext_trans X.ext E')) E' ((Arv.new A' hn).pad (pad_rep [] _ N)) Ex O' X.size)
theorem o_aastore (X : On l Z p e R s m args below meth c y code maxL ret T h locs cells slots) {a : Addr} {k : ClassId} {ty : FieldType} {n j : Int32} {v : Value} {vs : List Value} {dv : Value} {q : Nat} (i : Nat) (A : Arv Z h a k ty n vs dv) (ha : Z.heap.size ≤ a) (hty : ty.isReference = true) (hfit : fits ty v = true) (Sx : Sto Z h a v) (hj : ¬ j < 0 ∧ j < n) (hi : j.toNatClampNeg = i) (hlt : i < vs.length) (hd : decode code pc = .ok (.aastore, 1)) (hp : pc + 1 = q)
    (K : ∀ (T' : State) (h' : Heap) (locs' : List Loc), On l Z p e R s m args below meth c y code maxL ret T' h' locs' cells slots → Wr h h' a i v → Arv Z h' a k ty n (vs.set i v) dv → Goes p e below F T' (mkF m q L S)) : Goes p e below F T (mkF m pc L (v :: .int j :: .ref a :: S)) := by
  subst hp
  obtain ⟨cl, Ar, q1, Sz, Nn, H, G⟩ := A
  obtain ⟨T', h', X', e', W', st⟩ := stR X.1 X.2.1.1 (show Z.Warmed39 s.vm from X.2.1.2.2.1) X.2.2.1 Ar (j := j) (inb_of Sz hj) hty Sx (g := mkF m pc L (v :: .int j :: .ref a :: S)) rfl rfl (hb X.2.1.2.1 hd)
  exact Goes.step st (K T' h' _ (X.later X' e' (Fr.snoc X' X.2.2.2.1 ha) (ext_wr X.ext W' ha)) (hi ▸ W') (Arv.set Ar q1 Sz Nn H G hfit W' i hi hlt))
theorem sto_of {Z : State} {h : Heap} {a x : Addr} {k : ClassId} {ty : FieldType} {C D : String} {n : Int32} {vs : List Value} {dv : Value} {a0 : Array Value} (A : Arv Z h a k ty n vs dv) (O : Ovr Z k C) (E : Exa Z h x D) (w : (Jvm.Cond.castable D C).before a0 Z = true) : Sto Z h a (.ref x) := by
  obtain ⟨cl, Ar, q1, -⟩ := A
  exact Sto.ofV Ar q1 O (Ins.of_exa E w)
theorem o_cast (X : On l Z p e R s m args below meth c y code maxL ret T h locs cells slots) {K' : String} {index q : Nat} {a : Addr} (I : Ins Z h a K' true) (w : (Jvm.Cond.classLink y.cls index K').before a0 Z = true) (hd : decode code pc = .ok (.checkcast index, 3)) (hp : pc + 3 = q)
    (K : ∀ T' : State, On l Z p e R s m args below meth c y code maxL ret T' h locs cells slots → Goes p e below F T' (mkF m q L (.ref a :: S))) : Goes p e below F T (mkF m pc L (.ref a :: S)) := by
  subst hp
  obtain ⟨T', X', e', st⟩ := castY X.1 X.2.1.1 (show Z.Warmed39 s.vm from X.2.1.2.2.1) X.2.1.2.2.2.1 w X.2.2.1 I (g := mkF m pc L (.ref a :: S)) rfl rfl (hb X.2.1.2.1 hd)
  exact Goes.step st (K T' (X.later X' e' X.2.2.2.1 X.ext))
theorem o_instY (X : On l Z p e R s m args below meth c y code maxL ret T h locs cells slots) {K' : String} {index q : Nat} {a : Addr} (I : Ins Z h a K' true) (w : (Jvm.Cond.classLink y.cls index K').before a0 Z = true) (hd : decode code pc = .ok (.instanceof index, 3)) (hp : pc + 3 = q)
    (K : ∀ T' : State, On l Z p e R s m args below meth c y code maxL ret T' h locs cells slots → Goes p e below F T' (mkF m q L (.int 1 :: S))) : Goes p e below F T (mkF m pc L (.ref a :: S)) := by
  subst hp
  obtain ⟨T', X', e', st⟩ := instY X.1 X.2.1.1 (show Z.Warmed39 s.vm from X.2.1.2.2.1) X.2.1.2.2.2.1 w X.2.2.1 I (g := mkF m pc L (.ref a :: S)) rfl rfl (hb X.2.1.2.1 hd)
  exact Goes.step st (K T' (X.later X' e' X.2.2.2.1 X.ext))
theorem o_instNo (X : On l Z p e R s m args below meth c y code maxL ret T h locs cells slots) {C K' : String} {index q : Nat} {a : Addr} (E : Exa Z h a C) (N : ∃ c t, Z.vm.findClass C = some c ∧ Z.vm.findClass K' = some t ∧ Z.vm.assignable c t = false) (w : (Jvm.Cond.classLink y.cls index K').before a0 Z = true) (hd : decode code pc = .ok (.instanceof index, 3)) (hp : pc + 3 = q)
    (K : ∀ T' : State, On l Z p e R s m args below meth c y code maxL ret T' h locs cells slots → Goes p e below F T' (mkF m q L (.int 0 :: S))) : Goes p e below F T (mkF m pc L (.ref a :: S)) := by
  subst hp
  obtain ⟨T', X', e', st⟩ := instNo X.1 X.2.1.1 (show Z.Warmed39 s.vm from X.2.1.2.2.1) X.2.1.2.2.2.1 w X.2.2.1 E N (g := mkF m pc L (.ref a :: S)) rfl rfl (hb X.2.1.2.1 hd)
  exact Goes.step st (K T' (X.later X' e' X.2.2.2.1 X.ext))
/-- C's chain of superclasses does not meet the class K, which can be made -/
theorem ns_root {Z : State} {a0 : Array Value} {O K : String} {n : Nat} (w : (Jvm.Cond.noSuperclass O).before a0 Z = true) (wk : (Jvm.Cond.instantiable K n).before a0 Z = true) (hn : O ≠ K) : NS Z O K := by
  obtain ⟨c, k, h1, h2, h3, -, -⟩ := Cond.noSuperclass_spec w
  obtain ⟨t, kt, g1, -⟩ := Cond.instantiable_spec wk
  have ne := ids_ne h1 g1 hn
  refine ⟨c, t, h1, g1, fun fuel => ?_⟩
  cases fuel with
  | zero => rfl
  | succ f => simp [Vm.isSubclassAux, ne, h2, h3]
theorem ns_no {Z : State} {a0 : Array Value} {C S K : String} {n : Nat} (w : (Jvm.Cond.superclass C S).before a0 Z = true) (wk : (Jvm.Cond.instantiable K n).before a0 Z = true) (N : NS Z C K) (hn : C ≠ K) : ∃ c t, Z.vm.findClass C = some c ∧ Z.vm.findClass K = some t ∧ Z.vm.assignable c t = false := by
  obtain ⟨c, t, h0, g0, n3⟩ := N
  obtain ⟨p, k, kp, h1, h2, h3, h4, h5, -, h7⟩ := Cond.superclass_spec h0 w
  obtain ⟨t', kt, g1, g2, g3, g4, -⟩ := Cond.instantiable_spec wk
  cases g0.symm.trans g1
  have ne := ids_ne h0 g0 hn
  have g5 : kt.isInterface = false := by
    cases q : kt.isInterface
    · rfl
    · rw [q] at g4; simp at g4
  refine ⟨c, t, h0, g0, ?_⟩
  show Z.vm.assignableAux (255 + 1) c t = false
  simp [Vm.assignableAux, ne, h2, g2, h5, g3, g5, Vm.isSubclass, n3]
theorem o_ldcM (X : On l Z p e R s m args below meth c y code maxL ret T h locs cells slots) {C : String} {index q : Nat} {mr : Addr} (M : Mir Z C mr) (w : (Jvm.Cond.classLink y.cls index C).before a0 Z = true) (hd : decode code pc = .ok (.ldc index, 2)) (hp : pc + 2 = q)
    (K : ∀ T' : State, On l Z p e R s m args below meth c y code maxL ret T' h locs cells slots → Goes p e below F T' (mkF m q L (.ref mr :: S))) : Goes p e below F T (mkF m pc L S) := by
  subst hp
  obtain ⟨c0, k0, m1, m2, m3, -⟩ := M
  obtain ⟨k', q1, ek⟩ := (show Z.Warmed39 s.vm from X.2.1.2.2.1).alike.2.2 _ _ m2
  have hm : k'.mirror = some mr := by rw [ek]; exact m3
  obtain ⟨vm', X', st⟩ := X.1.ldcMirror X.2.1.1 X.2.1.2.2.2.1 (mvT (s := s) X.2.1.2.2.1 w) (a := mr) (by
    have q2 : s.vm.findClass C = some c0 := by rw [(show Z.Warmed39 s.vm from X.2.1.2.2.1).alike.findClass]; exact m1
    simp only [Term.eval, q2, Option.bind_eq_bind, Option.bind_some, q1, hm, Option.pure_def]) (g := mkF m pc L S) rfl (hb X.2.1.2.1 hd)
  have e' : (T.setVm vm').heap = h := X.2.2.1
  exact Goes.step st (K _ (X.later X' e' X.2.2.2.1 X.ext))
theorem o_gcls (X : On l Z p e R s m args below meth c y code maxL ret T h locs cells slots) {C : String} {index q : Nat} {a mr : Addr} (E : Exa Z h a C) (M : Mir Z C mr) (w1 : (Jvm.Cond.methodLink y.cls index ⟨"java/lang/Object", "getClass", "()Ljava/lang/Class;"⟩).before a0 Z = true) (w2 : (Jvm.Cond.declares ⟨"java/lang/Object", "getClass", "()Ljava/lang/Class;"⟩).before a0 Z = true) (w3 : (Jvm.Cond.noSuperclass "java/lang/Object").before a0 Z = true) (w4 : (Jvm.Cond.selects C ⟨"java/lang/Object", "getClass", "()Ljava/lang/Class;"⟩ ⟨"java/lang/Object", "getClass", "()Ljava/lang/Class;"⟩).before a0 Z = true) (w5 : (Jvm.Cond.instanceMethod ⟨"java/lang/Object", "getClass", "()Ljava/lang/Class;"⟩).before a0 Z = true) (w6 : (Jvm.Cond.native ⟨"java/lang/Object", "getClass", "()Ljava/lang/Class;"⟩).before a0 Z = true)
    (hd : decode code pc = .ok (.invokevirtual index, 3)) (hL : L.size = maxL) (hf : 1 ≤ R.frames) (hl : (S.map fun v => v.category).sum + (nativeFrameWords "java/lang/Object" "getClass" 1 + 11) ≤ R.locals) (hp : pc + 3 = q)
    (K : ∀ T' : State, On l Z p e R s m args below meth c y code maxL ret T' h locs cells slots → Goes p e below F T' (mkF m q L (.ref mr :: S))) : Goes p e below F T (mkF m pc L (.ref a :: S)) := by
  subst hp
  obtain ⟨T', X', e', st⟩ := gcls X.1 X.2.1.1 (show Z.Warmed39 s.vm from X.2.1.2.2.1) X.2.1.2.2.2.1 w1 w2 w3 w4 w5 w6 X.2.2.1 E M (g := mkF m pc L (.ref a :: S)) rfl (hL.trans X.2.1.2.2.2.2.2.2.2.symm) rfl (hb X.2.1.2.1 hd) hf (W := (S.map fun v => v.category).sum) (by show 2 * 0 + _ ≤ _; omega) hl
  exact Goes.step st (K T' (X.later X' e' X.2.2.2.1 X.ext))
theorem o_copy (X : On l Z p e R s m args below meth c y code maxL ret T h locs cells slots) {index q : Nat} {a b : Addr} {k k' : ClassId} {ty ty' : FieldType} {z z' sp dp nn : Int32} {vs vd us vs' : List Value} {dv dd : Value} (A : Arv Z h a k ty z vs dv) (B : Arv Z h b k' ty' z' vd dd) (hty : (ty = ty' ∧ refKind ty = false) ∨ (refKind ty = true ∧ refKind ty' = true ∧ StoL Z h b us)) (hgb : Z.heap.size ≤ b)
    (h1 : ¬ sp < 0) (h2 : ¬ dp < 0) (h3 : ¬ nn < 0) (h4 : sp.toNatClampNeg + nn.toNatClampNeg ≤ z.toNatClampNeg) (h5 : dp.toNatClampNeg + nn.toNatClampNeg ≤ z'.toNatClampNeg) (hus : us = (List.range nn.toNatClampNeg).map fun i => vs.getD (sp.toNatClampNeg + i) dv) (hlv : dp.toNatClampNeg + nn.toNatClampNeg ≤ vd.length) (hvs : vd.take dp.toNatClampNeg ++ us ++ vd.drop (dp.toNatClampNeg + nn.toNatClampNeg) = vs')
    (w1 : (Jvm.Cond.methodLink y.cls index Jvm.Stand.acN).before a0 Z = true) (w2 : (Jvm.Cond.native Jvm.Stand.acN).before a0 Z = true) (w3 : (Jvm.Cond.static Jvm.Stand.acN).before a0 Z = true) (w4 : (Jvm.Cond.initialized "java/lang/System").before a0 Z = true)
    (hd : decode code pc = .ok (.invokestatic index, 3)) (hL : L.size = maxL) (hf : 1 ≤ R.frames) (hl : (S.map fun v => v.category).sum + (nativeFrameWords "java/lang/System" "arraycopy" 5 + 11) ≤ R.locals) (hp : pc + 3 = q)
    (K : ∀ (T' : State) (h' : Heap) (locs' : List Loc), On l Z p e R s m args below meth c y code maxL ret T' h' locs' cells slots → Keep h h' [b] → Arv Z h' b k' ty' z' vs' dd → Goes p e below F T' (mkF m q L S)) : Goes p e below F T (mkF m pc L (.int nn :: .int dp :: .ref b :: .int sp :: .ref a :: S)) := by
  subst hp hvs
  obtain ⟨T', h', Lc, X', e', N', K', A', st⟩ := cpA X.1 X.2.1.1 (show Z.Warmed39 s.vm from X.2.1.2.2.1) X.2.1.2.2.2.1 w1 w2 w3 w4 X.2.2.1 A B hty h1 h2 h3 h4 h5 hus hlv X.2.2.2.1 hgb (g := mkF m pc L (.int nn :: .int dp :: .ref b :: .int sp :: .ref a :: S)) rfl (hL.trans X.2.1.2.2.2.2.2.2.2.symm) rfl (hb X.2.1.2.1 hd) hf (W := (S.map fun v => v.category).sum) (by show 2 * 0 + _ ≤ _; omega) hl
  exact Goes.step st (K T' h' Lc (X.later X' e' N' (ext_keep X.ext K' (allS hgb all0))) K' A')
theorem o_tsw (X : On l Z p e R s m args below meth c y code maxL ret T h locs cells slots) {dflt low high : Int} {offs : Array Int} {len : Nat} {i : Int} {x : Int32} {q : Nat} (hd : decode code pc = .ok (.tableswitch dflt low high offs, len)) (h1 : low ≤ x.toInt) (h2 : x.toInt ≤ high) (hi : offs[(x.toInt - low).toNat]? = some i) (ho : 0 ≤ (pc : Int) + i) (hp : ((pc : Int) + i).toNat = q) (K : Goes p e below F T (mkF m q L S)) : Goes p e below F T (mkF m pc L (.int x :: S)) :=
  Goes.step (fun _ k => Jvm.Free.XS.tswIn X.1.here X.2.1.1 (g := mkF m pc L (.int x :: S)) rfl (pc0 := pc) rfl (hb X.2.1.2.1 hd) rfl (fun q => q.elim (fun r => by omega) (fun r => by omega)) hi ho hp k) K
theorem o_tswD (X : On l Z p e R s m args below meth c y code maxL ret T h locs cells slots) {dflt low high : Int} {offs : Array Int} {len : Nat} {x : Int32} {q : Nat} (hd : decode code pc = .ok (.tableswitch dflt low high offs, len)) (h1 : x.toInt < low ∨ high < x.toInt) (ho : 0 ≤ (pc : Int) + dflt) (hp : ((pc : Int) + dflt).toNat = q) (K : Goes p e below F T (mkF m q L S)) : Goes p e below F T (mkF m pc L (.int x :: S)) :=
  Goes.step (fun _ k => Jvm.Free.XS.tswOut X.1.here X.2.1.1 (g := mkF m pc L (.int x :: S)) rfl (pc0 := pc) rfl (hb X.2.1.2.1 hd) rfl h1 ho hp k) K
theorem o_iface (X : On l Z p e R s m args below meth c y code maxL ret T h locs cells slots) {C : String} {xi y' : MethodName} {index count q : Nat} {bytes : ByteArray} {maxL' : Nat} {ret' : Option FieldType} {rm : Room} {as : Array Value} {Q : Option Value → Heap → Prop} (argsL : List Value) {a : Addr} {rest : List Value} (E : Exa Z h a C) (hC : Con l Z y' bytes maxL' ret' rm as h Q)
    (w1 : (Jvm.Cond.methodLink y.cls index xi).before a0 Z = true) (w2 : (Jvm.Cond.declares xi).before a0 Z = true) (w3 : (Jvm.Cond.interfaceMethod xi.cls xi.cls xi.name xi.desc).before a0 Z = true) (w4 : (Jvm.Cond.selects C xi y').before a0 Z = true) (w5 : (Jvm.Cond.instanceMethod y').before a0 Z = true) (w6 : (Jvm.Cond.publicMethod y').before a0 Z = true) (w7 : (Jvm.Cond.unhidden C xi.name xi.desc).before a0 Z = true) (w8 : (Jvm.Cond.castable C xi.cls).before a0 Z = true) (w9 : (Jvm.Cond.code y' bytes maxL' ret').before a0 Z = true) (w10 : (Jvm.Cond.initialized y'.cls).before a0 Z = true) (hy : xi.cls ≠ "java/lang/invoke/MethodHandle" ∧ xi.cls ≠ "java/lang/invoke/VarHandle")
    (hd : decode code pc = .ok (.invokeinterface index count, 5)) (has : (.ref a :: argsL).toArray = as) (hL : L.size = maxL) (hlen : ∀ sig, parseMethodDescriptor xi.desc = some sig → argsL.length = sig.parameters.length) (hS : S = argsL.reverse ++ .ref a :: rest) (hf : rm.frames + 1 ≤ R.frames) (hl : (rest.map fun v => v.category).sum + (maxL' + 11) + rm.locals ≤ R.locals) (hc : cells + rm.cells ≤ R.cells) (hs : slots + rm.slots ≤ R.slots) (hp : pc + 5 = q)
    (K : ∀ (v : Option Value) (T' : State) (h' : Heap) (locs' : List Loc), On l Z p e R s m args below meth c y code maxL ret T' h' locs' (cells + rm.cells) (slots + rm.slots) → Q v h' → Goes p e below F T' (mkF m q L (v.toList ++ rest))) : Goes p e below F T (mkF m pc L S) := by
  subst hp hS has
  obtain ⟨cB, kB, q1, q2, q3⟩ := isOf (show Z.Warmed39 s.vm from X.2.1.2.2.1) X.2.2.1 E
  obtain ⟨v, vm1, ⟨T', L1, k1, n1⟩, -, X', ⟨Lc, hQ, e2, e3, e4⟩, st⟩ := X.1.interfaceBack X.2.1.1 (xi := xi) (y := y') X.2.1.2.2.2.1 (mvT (s := s) X.2.1.2.2.1 w1) (mvT (s := s) X.2.1.2.2.1 w2) (mvT (s := s) X.2.1.2.2.1 w3 (by simp [Cond.onTables, Cond.keepsFace, Cond.keeps, Cond.steady, Cond.faceAtom]; exact hy)) (mvT (s := s) X.2.1.2.2.1 w4) (mvT (s := s) X.2.1.2.2.1 w5) (mvT (s := s) X.2.1.2.2.1 w6) (mvT (s := s) X.2.1.2.2.1 w7) (mvT (s := s) X.2.1.2.2.1 w8) hy (Con.back X hC w9 w10 hf hl) q1 q2 q3 (g := mkF m pc L (argsL.reverse ++ .ref a :: rest)) rfl (hL.trans X.2.1.2.2.2.2.2.2.2.symm) (Steps.refl _) hlen rfl (by show 2 * 0 + _ ≤ _; omega) (hb X.2.1.2.1 hd) (fun _ _ => ⟨rfl, X.2.2.1, hc, hs⟩)
  dsimp only [Pt.U, Pt.locs, Pt.cells, Pt.slots] at X' hQ e2 e3 e4 st
  subst e2 e3 e4
  exact Goes.step (fun _ k => st.trans k) (K v T' T'.heap _ (X.later X' rfl (Fr.app X.2.2.2.1 hQ.2.1) hQ.2.2) hQ.1)
theorem o_priv (X : On l Z p e R s m args below meth c y code maxL ret T h locs cells slots) {D : String} {y' : MethodName} {index q : Nat} {bytes : ByteArray} {maxL' : Nat} {ret' : Option FieldType} {rm : Room} {as : Array Value} {Q : Option Value → Heap → Prop} (argsL : List Value) {a : Addr} {rest : List Value} (E : Exa Z h a D) (hC : Con l Z y' bytes maxL' ret' rm as h Q)
    (w1 : (Jvm.Cond.methodLink y.cls index y').before a0 Z = true) (w2 : (Jvm.Cond.instanceMethod y').before a0 Z = true) (w3 : (Jvm.Cond.selects y'.cls y' y').before a0 Z = true) (w4 : (Jvm.Cond.privateMethod y').before a0 Z = true) (w5 : (Jvm.Cond.code y' bytes maxL' ret').before a0 Z = true) (w6 : (Jvm.Cond.initialized y'.cls).before a0 Z = true) (hy : y'.cls ≠ "java/lang/invoke/MethodHandle" ∧ y'.cls ≠ "java/lang/invoke/VarHandle")
    (hd : decode code pc = .ok (.invokevirtual index, 3)) (has : (.ref a :: argsL).toArray = as) (hL : L.size = maxL) (hlen : ∀ sig, parseMethodDescriptor y'.desc = some sig → argsL.length = sig.parameters.length) (hS : S = argsL.reverse ++ .ref a :: rest) (hf : rm.frames + 1 ≤ R.frames) (hl : (rest.map fun v => v.category).sum + (maxL' + 11) + rm.locals ≤ R.locals) (hc : cells + rm.cells ≤ R.cells) (hs : slots + rm.slots ≤ R.slots) (hp : pc + 3 = q)
    (K : ∀ (v : Option Value) (T' : State) (h' : Heap) (locs' : List Loc), On l Z p e R s m args below meth c y code maxL ret T' h' locs' (cells + rm.cells) (slots + rm.slots) → Q v h' → Goes p e below F T' (mkF m q L (v.toList ++ rest))) : Goes p e below F T (mkF m pc L S) := by
  subst hp hS has
  obtain ⟨cl, hcl, hst⟩ := E.cell
  obtain ⟨v, vm1, ⟨T', L1, k1, n1⟩, -, X', ⟨Lc, hQ, e2, e3, e4⟩, st⟩ := X.1.privateBack X.2.1.1 (y := y') X.2.1.2.2.2.1 (mvT (s := s) X.2.1.2.2.1 w1) (mvT (s := s) X.2.1.2.2.1 w2) (mvT (s := s) X.2.1.2.2.1 w3) (Cond.privateMethod_at (mvP (show Z.Warmed39 s.vm from X.2.1.2.2.1) w4 (args := #[]))) (mvT (s := s) X.2.1.2.2.1 w5) hy (Con.back X hC w5 w6 hf hl) (g := mkF m pc L (argsL.reverse ++ .ref a :: rest)) rfl (hL.trans X.2.1.2.2.2.2.2.2.2.symm) (Steps.refl _) (a := a) (cell := cl) (by rw [X.2.2.1]; exact hcl) hst hlen rfl (by show 2 * 0 + _ ≤ _; omega) (hb X.2.1.2.1 hd) (fun _ _ => ⟨rfl, X.2.2.1, hc, hs⟩)
  dsimp only [Pt.U, Pt.locs, Pt.cells, Pt.slots] at X' hQ e2 e3 e4 st
  subst e2 e3 e4
  exact Goes.step (fun _ k => st.trans k) (K v T' T'.heap _ (X.later X' rfl (Fr.app X.2.2.2.1 hQ.2.1) hQ.2.2) hQ.1)
theorem o_specN (X : On l Z p e R s m args below meth c y code maxL ret T h locs cells slots) {host : String} {y' : MethodName} {index q : Nat} {bytes : ByteArray} {maxL' : Nat} {rm : Room} {as : Array Value} {Q : Option Value → Heap → Prop} (argsL : List Value) {a : Addr} {rest : List Value} (hC : Con l Z y' bytes maxL' none rm as h Q)
    (hy1 : y'.name = "<init>") (w1 : (Jvm.Cond.methodLinkNest y.cls index y' host).before a0 Z = true) (w2 : (Jvm.Cond.instanceMethod y').before a0 Z = true) (w3 : (Jvm.Cond.code y' bytes maxL' none).before a0 Z = true) (w4 : (Jvm.Cond.initialized y'.cls).before a0 Z = true) (hy : y'.cls ≠ "java/lang/invoke/MethodHandle" ∧ y'.cls ≠ "java/lang/invoke/VarHandle")
    (hd : decode code pc = .ok (.invokespecial index, 3)) (has : (.ref a :: argsL).toArray = as) (hL : L.size = maxL) (hlen : ∀ sig, parseMethodDescriptor y'.desc = some sig → argsL.length = sig.parameters.length) (hS : S = argsL.reverse ++ .ref a :: rest) (hf : rm.frames + 1 ≤ R.frames) (hl : (rest.map fun v => v.category).sum + (maxL' + 11) + rm.locals ≤ R.locals) (hc : cells + rm.cells ≤ R.cells) (hs : slots + rm.slots ≤ R.slots) (hp : pc + 3 = q)
    (K : ∀ (v : Option Value) (T' : State) (h' : Heap) (locs' : List Loc), On l Z p e R s m args below meth c y code maxL ret T' h' locs' (cells + rm.cells) (slots + rm.slots) → Q v h' → Goes p e below F T' (mkF m q L (v.toList ++ rest))) : Goes p e below F T (mkF m pc L S) := by
  subst hp hS has
  obtain ⟨v, vm1, ⟨T', L1, k1, n1⟩, -, X', ⟨Lc, hQ, e2, e3, e4⟩, st⟩ := X.1.specialBackNest X.2.1.1 hy1 X.2.1.2.2.2.1 ((Cond.methodLinkNest_wide (show Z.Warmed39 s.vm from X.2.1.2.2.1) w1 :)) (mvT (s := s) X.2.1.2.2.1 w2) (mvT (s := s) X.2.1.2.2.1 w3) hy (Con.back X hC w3 w4 hf hl) (g := mkF m pc L (argsL.reverse ++ .ref a :: rest)) rfl (hL.trans X.2.1.2.2.2.2.2.2.2.symm) (Steps.refl _) hlen rfl (by show 2 * 0 + _ ≤ _; omega) (hb X.2.1.2.1 hd) (fun _ _ => ⟨rfl, X.2.2.1, hc, hs⟩)
  dsimp only [Pt.U, Pt.locs, Pt.cells, Pt.slots] at X' hQ e2 e3 e4 st
  subst e2 e3 e4
  exact Goes.step (fun _ k => st.trans k) (K v T' T'.heap _ (X.later X' rfl (Fr.app X.2.2.2.1 hQ.2.1) hQ.2.2) hQ.1)
/-- a private method's word for its own class, from the word for a subclass -/
theorem sel_up {Z : State} {a0 : Array Value} {C : String} {y : MethodName} (w1 : (Jvm.Cond.selects C y y).before a0 Z = true) (w2 : (Jvm.Cond.instanceMethod y).before a0 Z = true) (w3 : (Jvm.Cond.privateMethod y).before a0 Z = true) (hy : y.cls ≠ "java/lang/invoke/MethodHandle" ∧ y.cls ≠ "java/lang/invoke/VarHandle") : (Jvm.Cond.selects y.cls y y).before a0 Z = true := by
  obtain ⟨mk, methM, hn, hm, -, -⟩ := Cond.instanceMethod_spec w2
  obtain ⟨c, r, m, q1, q2, q3, q4, kk, q5, q6⟩ := Cond.selects_spec w1
  cases hn.symm.trans q3
  have hf := State.methodFound?_of_named hn hy
  have hc := findClass_of_methodNamed hn
  have hs : selectMethod {} Z.vm mk.cls mk = .method mk := selectMethod_private hm (Cond.privateMethod_at w3 mk methM hn hm)
  simp [Cond.before, Cond.holds, Cond.value, hc, hf, hn, hs, q5, q6]
/-- a method of a class (no interface, by another word) is the one its own class finds -/
theorem same_up {Z : State} {a0 : Array Value} {C : String} {y z : MethodName} (w1 : (Jvm.Cond.selects C z z).before a0 Z = true) (w2 : (Jvm.Cond.instanceMethod y).before a0 Z = true) (hz : z.cls = y.cls) (hy : y.cls ≠ "java/lang/invoke/MethodHandle" ∧ y.cls ≠ "java/lang/invoke/VarHandle") : (Jvm.Cond.sameMethod y.cls y.cls y.name y.desc).before a0 Z = true := by
  obtain ⟨mk, methM, hn, hm, -, -⟩ := Cond.instanceMethod_spec w2
  obtain ⟨c, r, m, q1, q2, q3, q4, kk, q5, q6⟩ := Cond.selects_spec w1
  have hf := State.methodFound?_of_named hn hy
  have hc := findClass_of_methodNamed hn
  have hc2 := findClass_of_methodNamed q3
  rw [hz, hc] at hc2
  have e := Option.some.inj hc2
  rw [← e] at q5
  simp [Cond.before, Cond.holds, Cond.value, hc, hf, show Z.methodNamed? ⟨y.cls, y.name, y.desc⟩ = some mk from hn, q5, q6]
theorem o_super (X : On l Z p e R s m args below meth c y code maxL ret T h locs cells slots) {D : String} {y' : MethodName} {index q : Nat} {bytes : ByteArray} {maxL' : Nat} {ret' : Option FieldType} {rm : Room} {as : Array Value} {Q : Option Value → Heap → Prop} (argsL : List Value) {a : Addr} {rest : List Value} (E : Exa Z h a D) (hC : Con l Z y' bytes maxL' ret' rm as h Q)
    (w1 : (Jvm.Cond.methodLink y.cls index y').before a0 Z = true) (w2 : (Jvm.Cond.sameMethod y'.cls y'.cls y'.name y'.desc).before a0 Z = true) (w3 : (Jvm.Cond.instanceMethod y').before a0 Z = true) (w4 : (Jvm.Cond.superclass y.cls y'.cls).before a0 Z = true) (hn : y'.name ≠ "<init>") (w5 : (Jvm.Cond.code y' bytes maxL' ret').before a0 Z = true) (w6 : (Jvm.Cond.initialized y'.cls).before a0 Z = true)
    (hd : decode code pc = .ok (.invokespecial index, 3)) (has : (.ref a :: argsL).toArray = as) (hL : L.size = maxL) (hlen : ∀ sig, parseMethodDescriptor y'.desc = some sig → argsL.length = sig.parameters.length) (hS : S = argsL.reverse ++ .ref a :: rest) (hf : rm.frames + 1 ≤ R.frames) (hl : (rest.map fun v => v.category).sum + (maxL' + 11) + rm.locals ≤ R.locals) (hc : cells + rm.cells ≤ R.cells) (hs : slots + rm.slots ≤ R.slots) (hp : pc + 3 = q)
    (K : ∀ (v : Option Value) (T' : State) (h' : Heap) (locs' : List Loc), On l Z p e R s m args below meth c y code maxL ret T' h' locs' (cells + rm.cells) (slots + rm.slots) → Q v h' → Goes p e below F T' (mkF m q L (v.toList ++ rest))) : Goes p e below F T (mkF m pc L S) := by
  subst hp hS has
  obtain ⟨v, vm1, ⟨T', L1, k1, n1⟩, -, X', ⟨Lc, hQ, e2, e3, e4⟩, st⟩ := superBack X.1 X.2.1.1 (show Z.Warmed39 s.vm from X.2.1.2.2.1) X.2.1.2.2.2.1 w1 w2 w3 w4 hn (Con.back X hC w5 w6 hf hl) X.2.2.1 (Ins.self E) (g := mkF m pc L (argsL.reverse ++ .ref a :: rest)) rfl (hL.trans X.2.1.2.2.2.2.2.2.2.symm) w5 hlen rfl (by show 2 * 0 + _ ≤ _; omega) (hb X.2.1.2.1 hd) (fun _ _ => ⟨rfl, X.2.2.1, hc, hs⟩)
  dsimp only [Pt.U, Pt.locs, Pt.cells, Pt.slots] at X' hQ e2 e3 e4 st
  subst e2 e3 e4
  exact Goes.step (fun _ k => st.trans k) (K v T' T'.heap _ (X.later X' rfl (Fr.app X.2.2.2.1 hQ.2.1) hQ.2.2) hQ.1)
theorem o_virt2 (X : On l Z p e R s m args below meth c y code maxL ret T h locs cells slots) {C : String} {z' y' : MethodName} {index q : Nat} {bytes : ByteArray} {maxL' : Nat} {ret' : Option FieldType} {rm : Room} {as : Array Value} {Q : Option Value → Heap → Prop} (argsL : List Value) {a : Addr} {rest : List Value} (E : Exa Z h a C) (hC : Con l Z y' bytes maxL' ret' rm as h Q)
    (w1 : (Jvm.Cond.methodLink y.cls index z').before a0 Z = true) (w2 : (Jvm.Cond.declares z').before a0 Z = true) (w3 : (Jvm.Cond.selects C z' y').before a0 Z = true) {D : String} {u : MethodName} (wn : (Jvm.Cond.selects D u u).before a0 Z = true) (hu : u.cls = z'.cls) (w4 : (Jvm.Cond.instanceMethod y').before a0 Z = true) (w5 : (Jvm.Cond.code y' bytes maxL' ret').before a0 Z = true) (w6 : (Jvm.Cond.initialized y'.cls).before a0 Z = true) (hy : z'.cls ≠ "java/lang/invoke/MethodHandle" ∧ z'.cls ≠ "java/lang/invoke/VarHandle")
    (hd : decode code pc = .ok (.invokevirtual index, 3)) (has : (.ref a :: argsL).toArray = as) (hL : L.size = maxL) (hlen : ∀ sig, parseMethodDescriptor z'.desc = some sig → argsL.length = sig.parameters.length) (hS : S = argsL.reverse ++ .ref a :: rest) (hf : rm.frames + 1 ≤ R.frames) (hl : (rest.map fun v => v.category).sum + (maxL' + 11) + rm.locals ≤ R.locals) (hc : cells + rm.cells ≤ R.cells) (hs : slots + rm.slots ≤ R.slots) (hp : pc + 3 = q)
    (K : ∀ (v : Option Value) (T' : State) (h' : Heap) (locs' : List Loc), On l Z p e R s m args below meth c y code maxL ret T' h' locs' (cells + rm.cells) (slots + rm.slots) → Q v h' → Goes p e below F T' (mkF m q L (v.toList ++ rest))) : Goes p e below F T (mkF m pc L S) := by
  subst hp hS has
  obtain ⟨cB, kB, q1, q2, q3⟩ := isOf (show Z.Warmed39 s.vm from X.2.1.2.2.1) X.2.2.1 E
  have hnf : NotFace s z' := by
    intro r0 h0
    obtain ⟨c2, r2, m2, -, -, u3, -, kP, hkP, hkPi⟩ := Cond.selects_spec (mvT (args := #[]) (s := s) X.2.1.2.2.1 wn)
    have e1 := findClass_of_methodNamed h0
    have e2 := findClass_of_methodNamed u3
    rw [hu, e1] at e2
    rw [Option.some.inj e2]
    exact ⟨kP, hkP, hkPi⟩
  obtain ⟨v, vm1, ⟨T', L1, k1, n1⟩, -, X', ⟨Lc, hQ, e2, e3, e4⟩, st⟩ := X.1.virtualBack X.2.1.1 (y := z') (z := y') X.2.1.2.2.2.1 (mvT (s := s) X.2.1.2.2.1 w1) (mvT (s := s) X.2.1.2.2.1 w2) hnf (mvT (s := s) X.2.1.2.2.1 w3) (mvT (s := s) X.2.1.2.2.1 w4) hy (Con.back X hC w5 w6 hf hl) q1 q3 (g := mkF m pc L (argsL.reverse ++ .ref a :: rest)) rfl (hL.trans X.2.1.2.2.2.2.2.2.2.symm) (Steps.refl _) hlen rfl (by show 2 * 0 + _ ≤ _; omega) (hb X.2.1.2.1 hd) (fun _ _ => ⟨rfl, X.2.2.1, hc, hs⟩)
  dsimp only [Pt.U, Pt.locs, Pt.cells, Pt.slots] at X' hQ e2 e3 e4 st
  subst e2 e3 e4
  exact Goes.step (fun _ k => st.trans k) (K v T' T'.heap _ (X.later X' rfl (Fr.app X.2.2.2.1 hQ.2.1) hQ.2.2) hQ.1)
theorem o_virtUp (X : On l Z p e R s m args below meth c y code maxL ret T h locs cells slots) {C owner : String} {z' y' : MethodName} {index q : Nat} {bytes : ByteArray} {maxL' : Nat} {ret' : Option FieldType} {rm : Room} {as : Array Value} {Q : Option Value → Heap → Prop} (argsL : List Value) {a : Addr} {rest : List Value} (E : Exa Z h a C) (hC : Con l Z y' bytes maxL' ret' rm as h Q)
    (w1 : (Jvm.Cond.methodLink y.cls index z').before a0 Z = true) (w2 : (Jvm.Cond.sameMethod z'.cls owner z'.name z'.desc).before a0 Z = true) (w3 : (Jvm.Cond.declares ⟨owner, z'.name, z'.desc⟩).before a0 Z = true) (ho : owner ≠ "java/lang/invoke/MethodHandle" ∧ owner ≠ "java/lang/invoke/VarHandle") (w4 : (Jvm.Cond.selects C z' y').before a0 Z = true) (w5 : (Jvm.Cond.instanceMethod y').before a0 Z = true) (w6 : (Jvm.Cond.code y' bytes maxL' ret').before a0 Z = true) (w7 : (Jvm.Cond.initialized y'.cls).before a0 Z = true) (hy : z'.cls ≠ "java/lang/invoke/MethodHandle" ∧ z'.cls ≠ "java/lang/invoke/VarHandle")
    (hd : decode code pc = .ok (.invokevirtual index, 3)) (has : (.ref a :: argsL).toArray = as) (hL : L.size = maxL) (hlen : ∀ sig, parseMethodDescriptor z'.desc = some sig → argsL.length = sig.parameters.length) (hS : S = argsL.reverse ++ .ref a :: rest) (hf : rm.frames + 1 ≤ R.frames) (hl : (rest.map fun v => v.category).sum + (maxL' + 11) + rm.locals ≤ R.locals) (hc : cells + rm.cells ≤ R.cells) (hs : slots + rm.slots ≤ R.slots) (hp : pc + 3 = q)
    (K : ∀ (v : Option Value) (T' : State) (h' : Heap) (locs' : List Loc), On l Z p e R s m args below meth c y code maxL ret T' h' locs' (cells + rm.cells) (slots + rm.slots) → Q v h' → Goes p e below F T' (mkF m q L (v.toList ++ rest))) : Goes p e below F T (mkF m pc L S) := by
  subst hp hS has
  obtain ⟨cB, kB, q1, q2, q3⟩ := isOf (show Z.Warmed39 s.vm from X.2.1.2.2.1) X.2.2.1 E
  obtain ⟨v, vm1, ⟨T', L1, k1, n1⟩, -, X', ⟨Lc, hQ, e2, e3, e4⟩, st⟩ := X.1.virtualBackUp X.2.1.1 (x := z') (y := y') X.2.1.2.2.2.1 (mvT (s := s) X.2.1.2.2.1 w1) (mv (show Z.Warmed39 s.vm from X.2.1.2.2.1) w2) (mvT (s := s) X.2.1.2.2.1 w3) ho (mvT (s := s) X.2.1.2.2.1 w4) (mvT (s := s) X.2.1.2.2.1 w5) (Con.back X hC w6 w7 hf hl) q1 q3 (g := mkF m pc L (argsL.reverse ++ .ref a :: rest)) rfl (hL.trans X.2.1.2.2.2.2.2.2.2.symm) (Steps.refl _) hlen rfl (by show 2 * 0 + _ ≤ _; omega) (hb X.2.1.2.1 hd) (fun _ _ => ⟨rfl, X.2.2.1, hc, hs⟩)
  dsimp only [Pt.U, Pt.locs, Pt.cells, Pt.slots] at X' hQ e2 e3 e4 st
  subst e2 e3 e4
  exact Goes.step (fun _ k => st.trans k) (K v T' T'.heap _ (X.later X' rfl (Fr.app X.2.2.2.1 hQ.2.1) hQ.2.2) hQ.1)
theorem o_instNull (X : On l Z p e R s m args below meth c y code maxL ret T h locs cells slots) {index q : Nat} (hd : decode code pc = .ok (.instanceof index, 3)) (hp : pc + 3 = q) (K : Goes p e below F T (mkF m q L (.int 0 :: S))) : Goes p e below F T (mkF m pc L (.null :: S)) := by
  subst hp
  exact Goes.step (fun _ k => X.1.instanceofNull X.2.1.1 (g := mkF m pc L (.null :: S)) rfl (rest := S) rfl (hb X.2.1.2.1 hd) _ k) K
end OwnCol
end Jvm.Pilot.@@N@@

namespace Jvm.Pilot.@@N@@
open Jvm Jvm.ClassFile Sem Op Lib Jvm.Free Jvm.Stand Jvm.LawKit Jvm.RoadKit Bundle Jvm.Pilot.@@N@@.Jvm.D
section OwnDbl
variable {l : Launch} {Z : State} {p : Program} {e : Env} {R : Room} {s : State} {m : MethodId} {args : Array Value} {below : List Frame} {meth : Method} {c : Code} {y : MethodName} {code : ByteArray} {maxL : Nat} {ret : Option FieldType} {T : State} {h : Heap} {locs : List Loc} {cells slots : Nat} {F : State → Outcome → Prop} {pc : Nat} {L L' : Array Slot} {S : List Value} {a0 : Array Value}
theorem o_dload (X : On l Z p e R s m args below meth c y code maxL ret T h locs cells slots) {k : Nat} {v : UInt64} {q : Nat} (hd : decode code pc = .ok (.dload k, 2)) (hl : L[k]? = some (.val (.double v))) (hp : pc + 2 = q) (K : Goes p e below F T (mkF m q L (.double v :: S))) : Goes p e below F T (mkF m pc L S) := by
  subst hp
  exact Goes.step (fun _ k => XS.dload X.1.here X.2.1.1 (g := mkF m pc L S) rfl (hb X.2.1.2.1 hd) hl k) K
theorem o_dloadN (X : On l Z p e R s m args below meth c y code maxL ret T h locs cells slots) {k : Fin 4} {v : UInt64} {q : Nat} (hd : decode code pc = .ok (.dload_n k, 1)) (hl : L[k.val]? = some (.val (.double v))) (hp : pc + 1 = q) (K : Goes p e below F T (mkF m q L (.double v :: S))) : Goes p e below F T (mkF m pc L S) := by
  subst hp
  exact Goes.step (fun _ k => XS.dloadN X.1.here X.2.1.1 (g := mkF m pc L S) rfl (hb X.2.1.2.1 hd) hl k) K
theorem o_dstore (X : On l Z p e R s m args below meth c y code maxL ret T h locs cells slots) {k : Nat} {x z : UInt64} {q : Nat} (hd : decode code pc = .ok (.dstore k, 2)) (hz : x = z) (hl : storeLocals L k (.double z) = some L') (hp : pc + 2 = q) (K : Goes p e below F T (mkF m q L' S)) : Goes p e below F T (mkF m pc L (.double x :: S)) := by
  subst hz hp
  exact Goes.step (fun _ k => XS.dstore X.1.here X.2.1.1 (g := mkF m pc L (.double x :: S)) rfl (hb X.2.1.2.1 hd) rfl hl k) K
theorem o_dstoreN (X : On l Z p e R s m args below meth c y code maxL ret T h locs cells slots) {k : Fin 4} {x z : UInt64} {q : Nat} (hd : decode code pc = .ok (.dstore_n k, 1)) (hz : x = z) (hl : storeLocals L k.val (.double z) = some L') (hp : pc + 1 = q) (K : Goes p e below F T (mkF m q L' S)) : Goes p e below F T (mkF m pc L (.double x :: S)) := by
  subst hz hp
  exact Goes.step (fun _ k => XS.dstoreN X.1.here X.2.1.1 (g := mkF m pc L (.double x :: S)) rfl (hb X.2.1.2.1 hd) rfl hl k) K
theorem o_dconst0 (X : On l Z p e R s m args below meth c y code maxL ret T h locs cells slots)  {q : Nat} (hd : decode code pc = .ok (.dconst 0, 1))  (hp : pc + 1 = q) (K : Goes p e below F T (mkF m q L (.double FP.dconst0 :: S))) : Goes p e below F T (mkF m pc L S) := by
  subst hp
  exact Goes.step (fun _ k => XS.dconst0 X.1.here X.2.1.1 (g := mkF m pc L S) rfl (hb X.2.1.2.1 hd) rfl k) K
theorem o_dconst1 (X : On l Z p e R s m args below meth c y code maxL ret T h locs cells slots)  {q : Nat} (hd : decode code pc = .ok (.dconst 1, 1))  (hp : pc + 1 = q) (K : Goes p e below F T (mkF m q L (.double FP.dconst1 :: S))) : Goes p e below F T (mkF m pc L S) := by
  subst hp
  exact Goes.step (fun _ k => XS.dconst1 X.1.here X.2.1.1 (g := mkF m pc L S) rfl (hb X.2.1.2.1 hd) rfl k) K
theorem o_i2d (X : On l Z p e R s m args below meth c y code maxL ret T h locs cells slots) {x : Int32} {w : UInt64} {q : Nat} (hd : decode code pc = .ok (.i2d, 1)) (hw : FP.i2d x = w) (hp : pc + 1 = q) (K : Goes p e below F T (mkF m q L (.double w :: S))) : Goes p e below F T (mkF m pc L (.int x :: S)) := by
  subst hw hp
  exact Goes.step (fun _ k => XS.i2dS X.1.here X.2.1.1 (g := mkF m pc L (.int x :: S)) rfl (hb X.2.1.2.1 hd) rfl rfl k) K
theorem o_l2d (X : On l Z p e R s m args below meth c y code maxL ret T h locs cells slots) {x : Int64} {w : UInt64} {q : Nat} (hd : decode code pc = .ok (.l2d, 1)) (hw : FP.l2d x = w) (hp : pc + 1 = q) (K : Goes p e below F T (mkF m q L (.double w :: S))) : Goes p e below F T (mkF m pc L (.long x :: S)) := by
  subst hw hp
  exact Goes.step (fun _ k => XS.l2dS X.1.here X.2.1.1 (g := mkF m pc L (.long x :: S)) rfl (hb X.2.1.2.1 hd) rfl rfl k) K
theorem o_dneg (X : On l Z p e R s m args below meth c y code maxL ret T h locs cells slots) {x w : UInt64} {q : Nat} (hd : decode code pc = .ok (.dneg, 1)) (hw : FP.dneg x = w) (hp : pc + 1 = q) (K : Goes p e below F T (mkF m q L (.double w :: S))) : Goes p e below F T (mkF m pc L (.double x :: S)) := by
  subst hw hp
  exact Goes.step (fun _ k => XS.dnegS X.1.here X.2.1.1 (g := mkF m pc L (.double x :: S)) rfl (hb X.2.1.2.1 hd) rfl rfl k) K
theorem o_dcmp (X : On l Z p e R s m args below meth c y code maxL ret T h locs cells slots) {k : CmpOp} {x z : UInt64} {w : Int32} {q : Nat} (hd : decode code pc = .ok (.dcmp k, 1)) (hw : cmpValue (FP.dcmp x z) k = w) (hp : pc + 1 = q) (K : Goes p e below F T (mkF m q L (.int w :: S))) : Goes p e below F T (mkF m pc L (.double z :: .double x :: S)) := by
  subst hw hp
  exact Goes.step (fun _ k => XS.dcmpS X.1.here X.2.1.1 (g := mkF m pc L (.double z :: .double x :: S)) rfl (hb X.2.1.2.1 hd) rfl rfl k) K
theorem o_dadd (X : On l Z p e R s m args below meth c y code maxL ret T h locs cells slots) {x z w : UInt64} {q : Nat} (hd : decode code pc = .ok (.dadd, 1)) (hn : Jvm.Free.Fl.NoNaN64 (FP.dadd x z)) (hw : FP.dadd x z = w) (hp : pc + 1 = q) (K : Goes p e below F T (mkF m q L (.double w :: S))) : Goes p e below F T (mkF m pc L (.double z :: .double x :: S)) := by
  subst hw hp
  exact Goes.step (fun _ k => XS.daddS X.1.here X.2.1.1 (g := mkF m pc L (.double z :: .double x :: S)) rfl (hb X.2.1.2.1 hd) rfl hn rfl k) K
theorem o_dsub (X : On l Z p e R s m args below meth c y code maxL ret T h locs cells slots) {x z w : UInt64} {q : Nat} (hd : decode code pc = .ok (.dsub, 1)) (hn : Jvm.Free.Fl.NoNaN64 (FP.dsub x z)) (hw : FP.dsub x z = w) (hp : pc + 1 = q) (K : Goes p e below F T (mkF m q L (.double w :: S))) : Goes p e below F T (mkF m pc L (.double z :: .double x :: S)) := by
  subst hw hp
  exact Goes.step (fun _ k => XS.dsubS X.1.here X.2.1.1 (g := mkF m pc L (.double z :: .double x :: S)) rfl (hb X.2.1.2.1 hd) rfl hn rfl k) K
theorem o_dmul (X : On l Z p e R s m args below meth c y code maxL ret T h locs cells slots) {x z w : UInt64} {q : Nat} (hd : decode code pc = .ok (.dmul, 1)) (hn : Jvm.Free.Fl.NoNaN64 (FP.dmul x z)) (hw : FP.dmul x z = w) (hp : pc + 1 = q) (K : Goes p e below F T (mkF m q L (.double w :: S))) : Goes p e below F T (mkF m pc L (.double z :: .double x :: S)) := by
  subst hw hp
  exact Goes.step (fun _ k => XS.dmulS X.1.here X.2.1.1 (g := mkF m pc L (.double z :: .double x :: S)) rfl (hb X.2.1.2.1 hd) rfl hn rfl k) K
theorem o_ddiv (X : On l Z p e R s m args below meth c y code maxL ret T h locs cells slots) {x z w : UInt64} {q : Nat} (hd : decode code pc = .ok (.ddiv, 1)) (hn : Jvm.Free.Fl.NoNaN64 (FP.ddiv x z)) (hw : FP.ddiv x z = w) (hp : pc + 1 = q) (K : Goes p e below F T (mkF m q L (.double w :: S))) : Goes p e below F T (mkF m pc L (.double z :: .double x :: S)) := by
  subst hw hp
  exact Goes.step (fun _ k => XS.ddivS X.1.here X.2.1.1 (g := mkF m pc L (.double z :: .double x :: S)) rfl (hb X.2.1.2.1 hd) rfl hn rfl k) K
theorem o_ldcD (X : On l Z p e R s m args below meth c y code maxL ret T h locs cells slots) {index : Nat} {v : UInt64} {q : Nat} (w : (Jvm.Cond.constantDouble y.cls index v).before a0 Z = true) (hd : decode code pc = .ok (.ldc2_w index, 3)) (hp : pc + 3 = q) (K : Goes p e below F T (mkF m q L (.double v :: S))) : Goes p e below F T (mkF m pc L S) := by
  subst hp
  exact Goes.step (X.1.ldc2DoubleC X.2.1.1 X.2.1.2.2.2.1 (mvT (s := s) X.2.1.2.2.1 w) (g := mkF m pc L S) rfl (hb X.2.1.2.1 hd)) K
theorem o_lsw (X : On l Z p e R s m args below meth c y code maxL ret T h locs cells slots) {dflt : Int} {ps : Array (Int × Int)} {len : Nat} {a i : Int} {x : Int32} {q : Nat} (hd : decode code pc = .ok (.lookupswitch dflt ps, len)) (hso : (ps.toList.zip (ps.toList.drop 1)).all (fun (a, next) => a.1 < next.1) = true) (hi : ps.find? (·.1 == x.toInt) = some (a, i)) (ho : 0 ≤ (pc : Int) + i) (hp : ((pc : Int) + i).toNat = q) (K : Goes p e below F T (mkF m q L S)) : Goes p e below F T (mkF m pc L (.int x :: S)) := by
  subst hp
  exact Goes.step (X.1.lookupswitchHit X.2.1.1 (g := mkF m pc L (.int x :: S)) rfl rfl (hb X.2.1.2.1 hd) hso hi ho) K
theorem o_retD (X : On l Z p e R s m args below meth c y code maxL (some .double) T h locs cells slots) {Q : Option Value → Heap → Prop} {rc rs : Nat} {z : UInt64} (hd : decode code pc = .ok (.dreturn, 1)) (hQ : Q (some (.double z)) h) (hc : cells ≤ rc) (hs : slots ≤ rs) : Goes p e below (FinQ Z s Q rc rs) T (mkF m pc L (.double z :: S)) := by
  obtain ⟨X1, C1, e1, N1, E1⟩ := X
  obtain ⟨fs, hr, hrun, hended, hW, hsame⟩ := X1.leave (v := some (.double z)) (fun h => by rw [C1.2.2.2.2.1] at h; cases h) C1.2.2.2.2.2.1
  refine ⟨_, _, retOut X1 C1.1 C1.2.2.2.2.1 rfl (Or.inr (Or.inr (Or.inl ⟨rfl, rfl, z, rfl⟩))) (hb C1.2.1 hd) hr, hrun, hended, _, _, rfl, ⟨?_, N1, ?_⟩, ⟨_, rfl⟩, hW, hsame.mono hc hs⟩
  · show Q _ T.heap
    rw [e1]; exact hQ
  · show Ext Z.heap T.heap
    rw [e1]; exact E1
theorem o_absD (X : On l Z p e R s m args below meth c y code maxL ret T h locs cells slots) {index : Nat} {x w : UInt64} {q : Nat} (w1 : (Jvm.Cond.methodLink y.cls index Jvm.Free.Fl.Abs.absDN).before a0 Z = true) (w2 : (Jvm.Cond.static Jvm.Free.Fl.Abs.absDN).before a0 Z = true) (w3 : (Jvm.Cond.initialized "java/lang/Math").before a0 Z = true) (w4 : (Jvm.Cond.code Jvm.Free.Fl.Abs.absDN Jvm.Free.Fl.Abs.absDCode 2 (some .double)).before a0 Z = true) (hx1 : Jvm.Free.Fl.NoNaN64 x) (hw : (x &&& 0x7fffffffffffffff) = w)
    (hd : decode code pc = .ok (.invokestatic index, 3)) (hL : L.size = maxL) (hf : 1 ≤ R.frames) (hl : (S.map fun v => v.category).sum + 13 ≤ R.locals) (hc : cells ≤ R.cells) (hs : slots ≤ R.slots) (hp : pc + 3 = q) (K : ∀ T' : State, On l Z p e R s m args below meth c y code maxL ret T' h locs cells slots → Goes p e below F T' (mkF m q L (.double w :: S))) : Goes p e below F T (mkF m pc L (.double x :: S)) := by
  subst hp
  obtain ⟨T', X', e', st⟩ := natS X.1 X.2.1.1 (show Z.Warmed39 s.vm from X.2.1.2.2.1) X.2.1.2.2.2.1 w1 w2 w3 w4 (by decide) X.2.2.1 (W := (S.map fun v => v.category).sum) (fun hcode => Jvm.Free.Fl.Abs.absD_pays (sargs := args) x hcode hf hl) (g := mkF m pc L (.double x :: S)) rfl (hL.trans X.2.1.2.2.2.2.2.2.2.symm) (argsL := [.double x]) (rest := S) (lenOf (by decide +kernel : parseMethodDescriptor "(D)D" = some ⟨[.double], some .double⟩) rfl) rfl (by show 2 * 0 + _ ≤ _; omega) (hb X.2.1.2.1 hd) hc hs ⟨rfl, hx1⟩ (congrArg Value.double hw)
  exact Goes.step st (K T' (X.later X' e' X.2.2.2.1 X.ext))
theorem o_maxD (X : On l Z p e R s m args below meth c y code maxL ret T h locs cells slots) {index : Nat} {x z w : UInt64} {q : Nat} (w1 : (Jvm.Cond.methodLink y.cls index Jvm.Free.Fl.Abs.maxDN).before a0 Z = true) (w2 : (Jvm.Cond.static Jvm.Free.Fl.Abs.maxDN).before a0 Z = true) (w3 : (Jvm.Cond.initialized "java/lang/Math").before a0 Z = true) (w4 : (Jvm.Cond.code Jvm.Free.Fl.Abs.maxDN Jvm.Free.Fl.Abs.maxDCode 4 (some .double)).before a0 Z = true) (hx1 : Jvm.Free.Fl.NoNaN64 x) (hx2 : Jvm.Free.Fl.NoNaN64 z) (hw : (Jvm.Native.java_lang_Math.nans.pick64 true x z) = w)
    (hd : decode code pc = .ok (.invokestatic index, 3)) (hL : L.size = maxL) (hf : 1 ≤ R.frames) (hl : (S.map fun v => v.category).sum + 15 ≤ R.locals) (hc : cells ≤ R.cells) (hs : slots ≤ R.slots) (hp : pc + 3 = q) (K : ∀ T' : State, On l Z p e R s m args below meth c y code maxL ret T' h locs cells slots → Goes p e below F T' (mkF m q L (.double w :: S))) : Goes p e below F T (mkF m pc L (.double z :: .double x :: S)) := by
  subst hp
  obtain ⟨T', X', e', st⟩ := natS X.1 X.2.1.1 (show Z.Warmed39 s.vm from X.2.1.2.2.1) X.2.1.2.2.2.1 w1 w2 w3 w4 (by decide) X.2.2.1 (W := (S.map fun v => v.category).sum) (fun hcode => Jvm.Free.Fl.Abs.maxD_pays (sargs := args) x z hcode hf hl) (g := mkF m pc L (.double z :: .double x :: S)) rfl (hL.trans X.2.1.2.2.2.2.2.2.2.symm) (argsL := [.double x, .double z]) (rest := S) (lenOf (by decide +kernel : parseMethodDescriptor "(DD)D" = some ⟨[.double, .double], some .double⟩) rfl) rfl (by show 2 * 0 + _ ≤ _; omega) (hb X.2.1.2.1 hd) hc hs ⟨rfl, hx1, hx2⟩ (congrArg Value.double hw)
  exact Goes.step st (K T' (X.later X' e' X.2.2.2.1 X.ext))
theorem o_minD (X : On l Z p e R s m args below meth c y code maxL ret T h locs cells slots) {index : Nat} {x z w : UInt64} {q : Nat} (w1 : (Jvm.Cond.methodLink y.cls index Jvm.Free.Fl.Abs.minDN).before a0 Z = true) (w2 : (Jvm.Cond.static Jvm.Free.Fl.Abs.minDN).before a0 Z = true) (w3 : (Jvm.Cond.initialized "java/lang/Math").before a0 Z = true) (w4 : (Jvm.Cond.code Jvm.Free.Fl.Abs.minDN Jvm.Free.Fl.Abs.minDCode 4 (some .double)).before a0 Z = true) (hx1 : Jvm.Free.Fl.NoNaN64 x) (hx2 : Jvm.Free.Fl.NoNaN64 z) (hw : (Jvm.Native.java_lang_Math.nans.pick64 false x z) = w)
    (hd : decode code pc = .ok (.invokestatic index, 3)) (hL : L.size = maxL) (hf : 1 ≤ R.frames) (hl : (S.map fun v => v.category).sum + 15 ≤ R.locals) (hc : cells ≤ R.cells) (hs : slots ≤ R.slots) (hp : pc + 3 = q) (K : ∀ T' : State, On l Z p e R s m args below meth c y code maxL ret T' h locs cells slots → Goes p e below F T' (mkF m q L (.double w :: S))) : Goes p e below F T (mkF m pc L (.double z :: .double x :: S)) := by
  subst hp
  obtain ⟨T', X', e', st⟩ := natS X.1 X.2.1.1 (show Z.Warmed39 s.vm from X.2.1.2.2.1) X.2.1.2.2.2.1 w1 w2 w3 w4 (by decide) X.2.2.1 (W := (S.map fun v => v.category).sum) (fun hcode => Jvm.Free.Fl.Abs.minD_pays (sargs := args) x z hcode hf hl) (g := mkF m pc L (.double z :: .double x :: S)) rfl (hL.trans X.2.1.2.2.2.2.2.2.2.symm) (argsL := [.double x, .double z]) (rest := S) (lenOf (by decide +kernel : parseMethodDescriptor "(DD)D" = some ⟨[.double, .double], some .double⟩) rfl) rfl (by show 2 * 0 + _ ≤ _; omega) (hb X.2.1.2.1 hd) hc hs ⟨rfl, hx1, hx2⟩ (congrArg Value.double hw)
  exact Goes.step st (K T' (X.later X' e' X.2.2.2.1 X.ext))
theorem o_rawL (X : On l Z p e R s m args below meth c y code maxL ret T h locs cells slots) {index q : Nat} {x : UInt64} (w1 : (Jvm.Cond.methodLink y.cls index Jvm.doubleToRawLongBitsName).before a0 Z = true) (w2 : (Jvm.Cond.native Jvm.doubleToRawLongBitsName).before a0 Z = true) (w3 : (Jvm.Cond.static Jvm.doubleToRawLongBitsName).before a0 Z = true) (w4 : (Jvm.Cond.initialized "java/lang/Double").before a0 Z = true)
    (hd : decode code pc = .ok (.invokestatic index, 3)) (hL : L.size = maxL) (hf : 1 ≤ R.frames) (hl : (S.map fun v => v.category).sum + (nativeFrameWords "java/lang/Double" "doubleToRawLongBits" 2 + 11) ≤ R.locals) (hp : pc + 3 = q) (K : ∀ T' : State, On l Z p e R s m args below meth c y code maxL ret T' h locs cells slots → Goes p e below F T' (mkF m q L (.long x.toInt64 :: S))) : Goes p e below F T (mkF m pc L (.double x :: S)) := by
  subst hp
  obtain ⟨vm', X', st⟩ := X.1.doubleToRawLongBits X.2.1.1 X.2.1.2.2.2.1 (mvT (s := s) X.2.1.2.2.1 w1) (mvT (s := s) X.2.1.2.2.1 w2) (mvT (s := s) X.2.1.2.2.1 w3) (mvT (s := s) X.2.1.2.2.1 w4) (g := mkF m pc L (.double x :: S)) rfl (hL.trans X.2.1.2.2.2.2.2.2.2.symm) (rest := S) rfl (hb X.2.1.2.1 hd) hf (by show 2 * 0 + _ + _ ≤ _; omega)
  have e' : (T.setVm vm').heap = h := X.2.2.1
  exact Goes.step st (K _ (X.later X' e' X.2.2.2.1 X.ext))
end OwnDbl
end Jvm.Pilot.@@N@@
namespace Jvm.Pilot.@@N@@
section OwnFp
open Jvm.FP.Core
/-- two to a whole power -/
theorem tw_pos (q : Int) : (0 : Rat) < (2 : Rat) ^ q := Rat.zpow_pos (by decide)
theorem tw_ne (q : Int) : (2 : Rat) ^ q ≠ 0 := fun h => by have := tw_pos q; rw [h] at this; exact absurd this (by decide)
theorem tw_add (a b : Int) : (2 : Rat) ^ (a + b) = (2 : Rat) ^ a * (2 : Rat) ^ b := Rat.zpow_add (by decide) a b
theorem tw_nat (k : Nat) : (2 : Rat) ^ (k : Int) = ((2 ^ k : Nat) : Rat) := by rw [Rat.zpow_natCast, Rat.natCast_pow]; rfl
theorem tw_sub {a b : Int} (h : b ≤ a) : ((2 ^ (a - b).toNat : Nat) : Rat) * (2 : Rat) ^ b = (2 : Rat) ^ a := by
  rw [← tw_nat, ← tw_add]
  congr 1
  omega
theorem inU (c : Nat) {q e0 : Int} (h : e0 ≤ q) : ((inUnits c q e0 : Nat) : Rat) * (2 : Rat) ^ e0 = (c : Rat) * (2 : Rat) ^ q := by
  unfold inUnits
  rw [Rat.natCast_mul, Rat.mul_assoc, tw_sub h]
theorem mulR {a b : Rat} (q : Int) (h : a * (2 : Rat) ^ q = b * (2 : Rat) ^ q) : a = b := by
  have := tw_ne q
  grind
/-- rounding: the exact value c * 2^q, of 53 digits at the most, is kept -/
theorem rr_exact {s : Bool} {A B c : Nat} {e q : Int} (hB : 0 < B) (hc : c < 2 ^ 53) (hq : -1074 ≤ q) (hq2 : q ≤ 960) (hv : (A : Rat) * (2 : Rat) ^ e = (c : Rat) * (2 : Rat) ^ q * (B : Rat)) :
    ∃ (c' : Nat) (q' : Int), roundRatio b64 s A B e = .fin s c' q' ∧ (c' : Rat) * (2 : Rat) ^ q' = (c : Rat) * (2 : Rat) ^ q := by
  have hqm : b64.qmin = -1074 := by decide
  have hqx : b64.qmax = 971 := by decide
  obtain ⟨e0, h1, h2, h3⟩ : ∃ e0 : Int, e0 < -1074 ∧ e0 ≤ e ∧ e0 ≤ q := ⟨min (min (-1075) e) q, by omega, by omega, by omega⟩
  -- in units of 2^e0
  have eq : inUnits A e e0 = inUnits c q e0 * B := by
    have a1 := inU A h2
    have a2 := inU c h3
    have : ((inUnits A e e0 : Nat) : Rat) = ((inUnits c q e0 * B : Nat) : Rat) := by
      apply mulR e0
      rw [Rat.natCast_mul]
      grind
    exact Rat.natCast_inj.mp this
  have hd0 : distance A B e c q e0 = 0 := by
    unfold distance
    rw [eq]
    simp
  cases hr : roundRatio b64 s A B e with
  | nan =>
    exfalso
    unfold roundRatio at hr
    split at hr
    · cases hr
    · unfold roundAt settle bound at hr
      split at hr <;> split at hr <;> cases hr
  | inf t =>
    exfalso
    have ht : t = s := by
      unfold roundRatio at hr
      split at hr
      · cases hr
      · unfold roundAt settle bound at hr
        split at hr <;> split at hr <;> cases hr <;> rfl
    subst ht
    have := (roundRatio_inf good_b64 (s := t) (A := A) (B := B) (e := e) (e0 := e0) hB (by omega) h2).mp hr
    rw [eq, hqx] at this
    have p53 : b64.p = 53 := rfl
    rw [p53] at this
    have k1 : (2 ^ (53 + 1) - 1) * 2 ^ ((971 : Int) - 1 - e0).toNat ≤ inUnits c q e0 := Nat.le_of_mul_le_mul_right this hB
    have k2 : inUnits c q e0 < 2 ^ 53 * 2 ^ ((971 : Int) - 1 - e0).toNat := by
      unfold inUnits
      exact Nat.lt_of_lt_of_le (Nat.mul_lt_mul_of_pos_right hc (Nat.two_pow_pos _)) (Nat.mul_le_mul_left _ (Nat.pow_le_pow_right (by decide) (by omega)))
    have k3 : 2 ^ 53 * 2 ^ ((971 : Int) - 1 - e0).toNat ≤ (2 ^ (53 + 1) - 1) * 2 ^ ((971 : Int) - 1 - e0).toNat := Nat.mul_le_mul_right _ (by decide)
    omega
  | fin t c' q' =>
    have n1 := roundRatio_nearest good_b64 (e0 := e0) hB hr (c' := c) (q' := q) hc (by omega) (by omega) h2
    rw [hd0] at n1
    have n2 : distance A B e c' q' e0 = 0 := Nat.le_zero.mp n1
    have hf := roundRatio_fits good_b64 s A hB e
    rw [hr] at hf
    have hq'0 : e0 ≤ q' := by have := hf.2.1; omega
    have ht : t = s := by
      unfold roundRatio at hr
      split at hr
      · cases hr; rfl
      · unfold roundAt settle bound at hr
        split at hr <;> split at hr <;> cases hr <;> rfl
    subst ht
    refine ⟨c', q', rfl, ?_⟩
    unfold distance at n2
    have n3 := Int.natAbs_eq_zero.mp n2
    have n4 : inUnits c q e0 * B = inUnits c' q' e0 * B := by rw [← eq]; omega
    have n5 := Nat.eq_of_mul_eq_mul_right hB n4
    rw [← inU c' hq'0, ← inU c h3, n5]
/-- the double w is finite, and its value is r -/
def IsV (w : UInt64) (r : Rat) : Prop := ∃ s c q, val64 w = .fin s c q ∧ ((signed s c : Int) : Rat) * (2 : Rat) ^ q = r
theorem sgn_cast (s : Bool) (c : Nat) : ((signed s c : Int) : Rat) = if s then -(c : Rat) else (c : Rat) := by
  cases s <;> simp [signed, Rat.intCast_natCast, Rat.intCast_neg]
/-- a value that a double holds: n * 2^q, n of 53 digits at the most -/
def Rep (r : Rat) : Prop := ∃ (n : Int) (q : Int), n.natAbs < 2 ^ 53 ∧ -1074 ≤ q ∧ q ≤ 960 ∧ (n : Rat) * (2 : Rat) ^ q = r
theorem natAbs_cast (n : Int) : ((n.natAbs : Nat) : Rat) = if n < 0 then -(n : Rat) else (n : Rat) := by
  by_cases h : n < 0
  · rw [if_pos h, ← Rat.intCast_natCast, ← Rat.intCast_neg]; congr 1; omega
  · rw [if_neg h, ← Rat.intCast_natCast]; congr 1; omega
/-- rounding keeps a value that a double holds; m its magnitude -/
theorem rr_rep {s : Bool} {A B : Nat} {e : Int} {r : Rat} (hB : 0 < B) (hr : Rep r) (hv : (if s then -((A : Rat) * (2 : Rat) ^ e) else (A : Rat) * (2 : Rat) ^ e) = r * (B : Rat)) :
    ∃ (c : Nat) (q : Int), roundRatio b64 s A B e = .fin s c q ∧ ((signed s c : Int) : Rat) * (2 : Rat) ^ q = r := by
  obtain ⟨n, q, h1, h2, h3, h4⟩ := hr
  have hp := tw_pos q
  have hpe := tw_pos e
  have hBr : (0 : Rat) < (B : Rat) := by exact_mod_cast hB
  have hA : (0 : Rat) ≤ (A : Rat) := by exact_mod_cast Nat.zero_le A
  have hAe : (0 : Rat) ≤ (A : Rat) * (2 : Rat) ^ e := Rat.mul_nonneg hA (Rat.le_of_lt hpe)
  have hP : (0 : Rat) < (2 : Rat) ^ q * (B : Rat) := Rat.mul_pos hp hBr
  have hs1 : s = true → n ≤ 0 := by
    intro hs
    subst hs
    refine Int.not_lt.mp fun h => ?_
    have h5 : (0 : Rat) < (n : Rat) := by exact_mod_cast h
    have h6 := Rat.mul_pos h5 hP
    rw [← h4] at hv
    simp only [if_true] at hv
    grind
  have hs0 : s = false → 0 ≤ n := by
    intro hs
    subst hs
    refine Int.not_lt.mp fun h => ?_
    have h5 : (0 : Rat) < -(n : Rat) := by
      have : (n : Rat) < 0 := by exact_mod_cast h
      grind
    have h6 := Rat.mul_pos h5 hP
    rw [← h4] at hv
    simp only [Bool.false_eq_true, if_false] at hv
    grind
  have hn : ((n.natAbs : Nat) : Rat) = if s then -(n : Rat) else (n : Rat) := by
    rw [natAbs_cast]
    cases s with
    | true =>
      have := hs1 rfl
      by_cases h0 : n < 0
      · rw [if_pos h0]; rfl
      · have : n = 0 := by omega
        subst this; decide
    | false => rw [if_neg (Int.not_lt.mpr (hs0 rfl))]; rfl
  have hm : (A : Rat) * (2 : Rat) ^ e = ((n.natAbs : Nat) : Rat) * (2 : Rat) ^ q * (B : Rat) := by
    rw [hn]
    rw [← h4] at hv
    generalize (n : Rat) = N at hv ⊢
    cases s <;> simp only [if_true, Bool.false_eq_true, if_false] at hv ⊢ <;> grind
  obtain ⟨c, q', k1, k2⟩ := rr_exact (s := s) hB h1 h2 h3 hm
  refine ⟨c, q', k1, ?_⟩
  rw [sgn_cast]
  rw [hn] at k2
  cases s <;> simp only [if_true, Bool.false_eq_true, if_false] at k2 ⊢ <;> grind
theorem IsV.round {s : Bool} {c : Nat} {e : Int} {r : Rat} {w : UInt64} (hw : val64 w = round b64 (.fin s c e)) (hr : Rep r) (hv : ((signed s c : Int) : Rat) * (2 : Rat) ^ e = r) : IsV w r := by
  obtain ⟨c', q, h1, h2⟩ := rr_rep (s := s) (A := c) (B := 1) (e := e) (by decide) hr (by
    rw [sgn_cast] at hv
    have e1 : ((1 : Nat) : Rat) = 1 := rfl
    rw [e1, Rat.mul_one, ← hv]
    cases s <;> simp [Rat.neg_mul])
  exact ⟨s, c', q, hw.trans h1, h2⟩
theorem signed_natAbs (v : Int) (s t : Bool) : (((signed (sumSign s t v) v.natAbs : Int)) : Rat) = (v : Rat) := by
  congr 1
  unfold signed sumSign
  by_cases h : v = 0
  · subst h; simp
  · rw [if_neg h]
    by_cases h2 : v < 0 <;> simp [h2] <;> omega
theorem signed_units (s : Bool) (c : Nat) {q e : Int} (h : e ≤ q) : ((signed s (inUnits c q e) : Int) : Rat) * (2 : Rat) ^ e = ((signed s c : Int) : Rat) * (2 : Rat) ^ q := by
  have k := inU c h
  rw [sgn_cast, sgn_cast]
  cases s <;> simp only [if_true, Bool.false_eq_true, if_false] <;> grind
theorem IsV.add {a b : UInt64} {x y : Rat} (ha : IsV a x) (hb : IsV b y) (hr : Rep (x + y)) : IsV (dadd a b) (x + y) := by
  obtain ⟨s, c, q, h1, h2⟩ := ha
  obtain ⟨t, d, r, h3, h4⟩ := hb
  refine IsV.round (w := dadd a b) (by rw [val64_dadd, h1, h3]; rfl) hr ?_
  rw [signed_natAbs]
  unfold sumUnits
  rw [Rat.intCast_add, Rat.add_mul, signed_units s c (Int.min_le_left q r), signed_units t d (Int.min_le_right q r), h2, h4]
theorem IsV.neg_d {d : Datum} {s : Bool} {c : Nat} {q : Int} {x : Rat} (h1 : d = .fin s c q) (h2 : ((signed s c : Int) : Rat) * (2 : Rat) ^ q = x) : negate d = .fin (!s) c q ∧ ((signed (!s) c : Int) : Rat) * (2 : Rat) ^ q = -x := by
  subst h1 h2
  refine ⟨rfl, ?_⟩
  rw [sgn_cast, sgn_cast]
  cases s <;> simp [Rat.neg_mul]
theorem IsV.sub {a b : UInt64} {x y : Rat} (ha : IsV a x) (hb : IsV b y) (hr : Rep (x - y)) : IsV (dsub a b) (x - y) := by
  obtain ⟨s, c, q, h1, h2⟩ := ha
  obtain ⟨t, d, r, h3, h4⟩ := hb
  obtain ⟨h5, h6⟩ := IsV.neg_d h3 h4
  refine IsV.round (w := dsub a b) (by rw [val64_dsub, h1, h5]; rfl) hr ?_
  rw [signed_natAbs]
  unfold sumUnits
  rw [Rat.intCast_add, Rat.add_mul, signed_units s c (Int.min_le_left q r), signed_units (!t) d (Int.min_le_right q r), h2, h6, Rat.sub_eq_add_neg]
theorem signed_xor (s t : Bool) (c d : Nat) : ((signed (s != t) (c * d) : Int) : Rat) = ((signed s c : Int) : Rat) * ((signed t d : Int) : Rat) := by
  rw [sgn_cast, sgn_cast, sgn_cast, Rat.natCast_mul]
  cases s <;> cases t <;> simp [Rat.neg_mul, Rat.mul_neg]
theorem IsV.mul {a b : UInt64} {x y : Rat} (ha : IsV a x) (hb : IsV b y) (hr : Rep (x * y)) : IsV (dmul a b) (x * y) := by
  obtain ⟨s, c, q, h1, h2⟩ := ha
  obtain ⟨t, d, r, h3, h4⟩ := hb
  refine IsV.round (w := dmul a b) (by rw [val64_dmul, h1, h3]; rfl) hr ?_
  rw [signed_xor, tw_add, ← h2, ← h4]
  grind
theorem IsV.div {a b : UInt64} {x y : Rat} (ha : IsV a x) (hb : IsV b y) (hy : y ≠ 0) (hr : Rep (x / y)) : IsV (ddiv a b) (x / y) := by
  obtain ⟨s, c, q, h1, h2⟩ := ha
  obtain ⟨t, d, r, h3, h4⟩ := hb
  have hd : d ≠ 0 := by
    intro h; subst h
    rw [signed_zero] at h4
    apply hy; rw [← h4]; simp
  have hq : val64 (ddiv a b) = roundRatio b64 (s != t) c d (q - r) := by
    rw [val64_ddiv, h1, h3]
    show (if d = 0 then _ else _) = _
    rw [if_neg hd]
  obtain ⟨c', q', k1, k2⟩ := rr_rep (s := (s != t)) (A := c) (B := d) (e := q - r) (r := x / y) (by omega) hr (by
    have e1 : (2 : Rat) ^ q = (2 : Rat) ^ (q - r) * (2 : Rat) ^ r := by rw [← tw_add]; congr 1; omega
    have n1 := tw_ne r
    have n2 : (d : Rat) ≠ 0 := by
      intro h; apply hd; exact_mod_cast h
    rw [sgn_cast] at h2 h4
    subst h2 h4
    rw [e1]
    cases s <;> cases t <;> simp only [if_true, Bool.false_eq_true, if_false, bne_self_eq_false, Bool.true_bne, Bool.false_bne, Bool.not_true, Bool.not_false] <;> grind)
  exact ⟨_, c', q', hq.trans k1, k2⟩
theorem IsV.neg {a : UInt64} {x : Rat} (ha : IsV a x) : IsV (dneg a) (-x) := by
  obtain ⟨s, c, q, h1, h2⟩ := ha
  obtain ⟨h5, h6⟩ := IsV.neg_d h1 h2
  exact ⟨!s, c, q, by rw [val64_dneg, h1]; rfl, h6⟩
/-- the order of two finite doubles is that of their values -/
theorem IsV.cmp {a b : UInt64} {x y : Rat} (ha : IsV a x) (hb : IsV b y) : dcmp a b = some (if x < y then .lt else if x = y then .eq else .gt) := by
  obtain ⟨s, c, q, h1, h2⟩ := ha
  obtain ⟨t, d, r, h3, h4⟩ := hb
  have hk : dcmp a b = some (compare (signed s (inUnits c q (min q r))) (signed t (inUnits d r (min q r)))) := by
    show order (val64 a) (val64 b) = _
    rw [h1, h3]; rfl
  rw [hk]
  have u1 := signed_units s c (Int.min_le_left q r)
  have u2 := signed_units t d (Int.min_le_right q r)
  rw [h2] at u1
  rw [h4] at u2
  have hp := tw_pos (min q r)
  generalize (2 : Rat) ^ (min q r) = P at u1 u2 hp
  generalize signed s (inUnits c q (min q r)) = m at u1
  generalize signed t (inUnits d r (min q r)) = n at u2
  congr 1
  subst u1 u2
  have l1 : (m : Rat) * P < (n : Rat) * P ↔ m < n := by
    constructor
    · intro h
      refine Int.not_le.mp fun h' => ?_
      have h6 : (n : Rat) ≤ (m : Rat) := by exact_mod_cast h'
      have h7 := Rat.mul_le_mul_of_nonneg_right h6 (Rat.le_of_lt hp)
      grind
    · intro h
      have h6 : (m : Rat) < (n : Rat) := by exact_mod_cast h
      exact Rat.mul_lt_mul_of_pos_right h6 hp
  have l2 : (m : Rat) * P = (n : Rat) * P ↔ m = n := by
    constructor
    · intro h
      have hne : P ≠ 0 := by grind
      have : (m : Rat) = (n : Rat) := by grind
      exact_mod_cast this
    · intro h; rw [h]
  simp only [l1, l2]
  show compareOfLessAndEq m n = _
  rfl
theorem signed_dec (i : Int) : signed (decide (i < 0)) i.natAbs = i := by
  unfold signed
  by_cases h : i < 0 <;> simp [h] <;> omega
theorem Rep.int {i : Int} (h : i.natAbs < 2 ^ 53) : Rep (i : Rat) := ⟨i, 0, h, by decide, by decide, by rw [Rat.zpow_zero, Rat.mul_one]⟩
theorem IsV.l2d {x : Int64} (h : x.toInt.natAbs < 2 ^ 53) : IsV (l2d x) (x.toInt : Rat) :=
  IsV.round (val64_l2d x) (Rep.int h) (by rw [signed_dec, Rat.zpow_zero, Rat.mul_one])
theorem IsV.i2d (x : Int32) : IsV (i2d x) (x.toInt : Rat) :=
  IsV.round (val64_i2d x) (Rep.int (by have := x.toInt_lt; have := x.le_toInt; omega)) (by rw [signed_dec, Rat.zpow_zero, Rat.mul_one])
theorem IsV.zero : IsV FP.dconst0 0 := ⟨false, 0, b64.qmin, val64_dconst0, by rw [signed_zero]; exact Rat.zero_mul _⟩
theorem IsV.one : IsV FP.dconst1 1 := ⟨false, 2 ^ 52, -52, val64_dconst1, by decide +kernel⟩
theorem IsV.nn {w : UInt64} {r : Rat} (h : IsV w r) : Jvm.Free.Fl.NoNaN64 w := by
  obtain ⟨s, c, q, h1, -⟩ := h
  rw [Jvm.Free.Fl.noNaN64_no]
  show decide (val64 w = .nan) = false
  rw [h1]; rfl
theorem val_abs {a : UInt64} {s : Bool} {c : Nat} {q : Int} (h : val64 a = .fin s c q) : val64 (a &&& 0x7fffffffffffffff) = .fin false c q := by
  have hn := Jvm.Free.Fl.abs_toNat a
  have ha := a.toNat_lt
  unfold val64 at h ⊢
  rw [hn]
  have t1 : fieldT b64 (a.toNat % 9223372036854775808) = fieldT b64 a.toNat := by
    show a.toNat % 9223372036854775808 % 4503599627370496 = a.toNat % 4503599627370496
    omega
  have t2 : fieldE b64 (a.toNat % 9223372036854775808) = fieldE b64 a.toNat := by
    show a.toNat % 9223372036854775808 / 4503599627370496 % 2048 = a.toNat / 4503599627370496 % 2048
    omega
  have t3 : fieldS b64 (a.toNat % 9223372036854775808) = false := by
    have : a.toNat % 9223372036854775808 / 4503599627370496 / 2048 % 2 = 0 := by omega
    show (a.toNat % 9223372036854775808 / 4503599627370496 / 2048 % 2 == 1) = false
    rw [this]; rfl
  unfold decode at h ⊢
  rw [t1, t2, t3]
  split at h
  · split at h <;> cases h
  · rename_i g1
    rw [if_neg g1]
    split at h
    · rename_i g2
      rw [if_pos g2]; cases h; rfl
    · rename_i g2
      rw [if_neg g2]; cases h; rfl
theorem IsV.abs {a : UInt64} {x : Rat} (h : IsV a x) : IsV (a &&& 0x7fffffffffffffff) (if x < 0 then -x else x) := by
  obtain ⟨s, c, q, h1, h2⟩ := h
  refine ⟨false, c, q, val_abs h1, ?_⟩
  have hp := tw_pos q
  have hc : (0 : Rat) ≤ (c : Rat) := by exact_mod_cast Nat.zero_le c
  have hcp := Rat.mul_nonneg hc (Rat.le_of_lt hp)
  rw [sgn_cast] at h2 ⊢
  subst h2
  cases s <;> simp only [if_true, Bool.false_eq_true, if_false] <;> split <;> grind
theorem IsV.eqv {a : UInt64} {x y : Rat} (h : IsV a x) (e : x = y) : IsV a y := e ▸ h
theorem IsV.max {a b : UInt64} {x y : Rat} (ha : IsV a x) (hb : IsV b y) : IsV (Jvm.Native.java_lang_Math.nans.pick64 true a b) (if x < y then y else x) := by
  have hc := ha.cmp hb
  unfold Jvm.Native.java_lang_Math.nans.pick64
  rw [show FP.dcmp a b = _ from hc]
  by_cases h1 : x < y
  · simp only [h1, if_true]; exact hb
  · by_cases h2 : x = y
    · subst h2
      simp only [h1, if_false, if_true]
      split
      · exact hb
      · exact ha
    · simp only [h1, h2, if_false, if_true]; exact ha
theorem IsV.cmpV {a b : UInt64} {x y : Rat} (ha : IsV a x) (hb : IsV b y) (k : Jvm.ClassFile.CmpOp) : Jvm.Op.cmpValue (FP.dcmp a b) k = if x < y then (-1 : Int32) else if x = y then 0 else 1 := by
  rw [show FP.dcmp a b = _ from ha.cmp hb]
  by_cases h1 : x < y
  · simp only [h1, if_true]; cases k <;> rfl
  · by_cases h2 : x = y
    · simp only [h1, h2, if_false, if_true]
      subst h2
      simp only [h1, if_false]; cases k <;> rfl
    · simp only [h1, h2, if_false]; cases k <;> rfl
theorem IsV.fneg {a : UInt64} {x : Rat} (h : IsV a x) : IsV (FP.dneg a) (-x) := by
  obtain ⟨s, c, q, h1, h2⟩ := h
  obtain ⟨h5, h6⟩ := IsV.neg_d h1 h2
  have ha := a.toNat_lt
  have hx : (FP.dneg a).toNat = if a.toNat < 9223372036854775808 then a.toNat + 9223372036854775808 else a.toNat - 9223372036854775808 := by
    show (a ^^^ 0x8000000000000000).toNat = _
    have h1 := UInt64.toNat_xor (a := a) (b := 0x8000000000000000)
    have h2 : (a ^^^ 0x8000000000000000).toNat % 9223372036854775808 = a.toNat % 9223372036854775808 := by
      rw [h1]
      show (a.toNat ^^^ 2 ^ 63) % 2 ^ 63 = a.toNat % 2 ^ 63
      rw [Nat.xor_mod_two_pow]
      simp
    have h3 : (a ^^^ 0x8000000000000000).toNat / 9223372036854775808 = 1 - a.toNat / 9223372036854775808 := by
      rw [h1]
      show (a.toNat ^^^ 2 ^ 63) / 2 ^ 63 = 1 - a.toNat / 2 ^ 63
      rw [Nat.xor_div_two_pow]
      have : a.toNat / 2 ^ 63 = 0 ∨ a.toNat / 2 ^ 63 = 1 := by omega
      rcases this with h | h <;> rw [h] <;> decide
    have h4 := (a ^^^ 0x8000000000000000).toNat_lt
    generalize (a ^^^ 0x8000000000000000).toNat = X at *
    split <;> omega
  have hk : val64 (FP.dneg a) = .fin (!s) c q := by
    unfold val64 at h1 ⊢
    have t1 : fieldT b64 (FP.dneg a).toNat = fieldT b64 a.toNat := by
      show (FP.dneg a).toNat % 4503599627370496 = a.toNat % 4503599627370496
      rw [hx]; split <;> omega
    have t2 : fieldE b64 (FP.dneg a).toNat = fieldE b64 a.toNat := by
      show (FP.dneg a).toNat / 4503599627370496 % 2048 = a.toNat / 4503599627370496 % 2048
      rw [hx]; split <;> omega
    have t3 : fieldS b64 (FP.dneg a).toNat = !fieldS b64 a.toNat := by
      show ((FP.dneg a).toNat / 4503599627370496 / 2048 % 2 == 1) = !(a.toNat / 4503599627370496 / 2048 % 2 == 1)
      rw [hx]
      split
      · have e1 : (a.toNat + 9223372036854775808) / 4503599627370496 / 2048 % 2 = 1 := by omega
        have e2 : a.toNat / 4503599627370496 / 2048 % 2 = 0 := by omega
        rw [e1, e2]; rfl
      · have e1 : (a.toNat - 9223372036854775808) / 4503599627370496 / 2048 % 2 = 0 := by omega
        have e2 : a.toNat / 4503599627370496 / 2048 % 2 = 1 := by omega
        rw [e1, e2]; rfl
    unfold decode at h1 ⊢
    rw [t1, t2, t3]
    split at h1
    · split at h1 <;> cases h1
    · rename_i g1
      rw [if_neg g1]
      split at h1
      · rename_i g2
        rw [if_pos g2]; cases h1; rfl
      · rename_i g2
        rw [if_neg g2]; cases h1; rfl
  exact ⟨!s, c, q, hk, h6⟩
/-- what dcmp pushes, by the values -/
abbrev cmpR (x y : Rat) : Int32 := if x < y then (-1 : Int32) else if x = y then 0 else 1
theorem cmpR_lt (x y : Rat) : cmpR x y < 0 ↔ x < y := by
  unfold cmpR
  by_cases h : x < y
  · simp only [h, if_true]; decide
  · by_cases h2 : x = y
    · simp only [h, if_false, h2]
      subst h2; simp only [h, if_false, if_true]; decide
    · simp only [h, h2, if_false]; decide
theorem cmpR_eq (x y : Rat) : cmpR x y = 0 ↔ x = y := by
  unfold cmpR
  by_cases h : x < y
  · have : x ≠ y := by grind
    simp only [h, this, if_true]; decide
  · by_cases h2 : x = y
    · subst h2; simp [h]
    · simp only [h, h2, if_false]; decide
theorem cmpR_gt (x y : Rat) : 0 < cmpR x y ↔ y < x := by
  unfold cmpR
  by_cases h : x < y
  · have : ¬ y < x := by grind
    simp only [h, this, if_true]; decide
  · by_cases h2 : x = y
    · subst h2; simp [h]
    · have : y < x := by grind
      simp only [h, h2, this, if_false]; decide
/-- n / D is a double's value where D is a power of two -/
theorem Rep.dy {n : Int} {D : Rat} (q : Int) (h : n.natAbs < 2 ^ 53) (h1 : -1074 ≤ q) (h2 : q ≤ 960) (hD : (2 : Rat) ^ q * D = 1) : Rep ((n : Rat) / D) := by
  refine ⟨n, q, h, h1, h2, ?_⟩
  generalize (2 : Rat) ^ q = P at hD ⊢
  have : D ≠ 0 := by intro q; rw [q] at hD; grind
  grind
theorem Rep.eqv {x y : Rat} (h : Rep x) (e : x = y) : Rep y := e ▸ h
/-- how far two values lie apart -/
def dst (x y : Rat) : Rat := if x ≤ y then y - x else x - y
/-- v is a double's value, none lies nearer to m, and for an m that isn't tiny v is within 2^-53 of it -/
def Rd (m v : Rat) : Prop := Rep v ∧ (∀ r, Rep r → dst m v ≤ dst m r) ∧ ((2 : Rat) ^ (-1022 : Int) ≤ m → v - m ≤ m / 9007199254740992 ∧ m - v ≤ m / 9007199254740992)
theorem Rd.up {m v r : Rat} (h : Rd m v) (hr : Rep r) (hm : m ≤ r) : v ≤ r := by
  have := h.2.1 r hr
  unfold dst at this
  grind
theorem Rd.dn {m v r : Rat} (h : Rd m v) (hr : Rep r) (hm : r ≤ m) : r ≤ v := by
  have := h.2.1 r hr
  unfold dst at this
  grind
theorem Rd.mono {m v m' v' : Rat} (h : Rd m v) (h' : Rd m' v') (hm : m < m') : v ≤ v' := by
  have a := h.2.1 v' h'.1
  have b := h'.2.1 v h.1
  unfold dst at a b
  grind
theorem Rep.neg {r : Rat} (h : Rep r) : Rep (-r) := by
  obtain ⟨n, q, h1, h2, h3, h4⟩ := h
  exact ⟨-n, q, by omega, h2, h3, by rw [Rat.intCast_neg, ← h4, Rat.neg_mul]⟩
theorem Rep.zero : Rep 0 := ⟨0, 0, by decide, by decide, by decide, by decide +kernel⟩
theorem tw_le {a b : Int} (h : a ≤ b) : (2 : Rat) ^ a ≤ (2 : Rat) ^ b := by
  have e : (2 : Rat) ^ b = (2 : Rat) ^ a * (2 : Rat) ^ ((b - a).toNat : Int) := by rw [← tw_add]; congr 1; omega
  rw [e, tw_nat]
  have h1 : (1 : Rat) ≤ ((2 ^ (b - a).toNat : Nat) : Rat) := by exact_mod_cast Nat.one_le_two_pow
  have h2 := Rat.mul_le_mul_of_nonneg_left h1 (Rat.le_of_lt (tw_pos a))
  rw [Rat.mul_one] at h2
  exact h2
theorem natAbs_castR (n : Int) : ((n.natAbs : Nat) : Rat) = if (n : Rat) < 0 then -(n : Rat) else (n : Rat) := by
  rw [natAbs_cast]
  by_cases h : n < 0
  · have : (n : Rat) < 0 := by exact_mod_cast h
    rw [if_pos h, if_pos this]
  · have : ¬ (n : Rat) < 0 := by intro q; apply h; exact_mod_cast q
    rw [if_neg h, if_neg this]
theorem dst_scale {a b k : Rat} (hk : 0 < k) : dst (a * k) (b * k) = dst a b * k := by
  unfold dst
  by_cases h : a ≤ b
  · have := Rat.mul_le_mul_of_nonneg_right h (Rat.le_of_lt hk)
    rw [if_pos h, if_pos this]; grind
  · have h1 : b < a := by grind
    have h2 := Rat.mul_lt_mul_of_pos_right h1 hk
    have h3 : ¬ a * k ≤ b * k := by grind
    rw [if_neg h, if_neg h3]; grind
set_option maxRecDepth 65536 in
/-- rounding a magnitude m: the nearest double -/
theorem rr_round {s : Bool} {A B : Nat} {e : Int} {m : Rat} (hB : 0 < B) (hm : (A : Rat) * (2 : Rat) ^ e = m * (B : Rat)) (hhi : m ≤ (2 : Rat) ^ (1000 : Int)) :
    ∃ (c : Nat) (q : Int), roundRatio b64 s A B e = .fin s c q ∧ Rd m ((c : Rat) * (2 : Rat) ^ q) := by
  have hqm : b64.qmin = -1074 := by decide
  have hqx : b64.qmax = 971 := by decide
  have p53 : b64.p = 53 := rfl
  have hBr : (0 : Rat) < (B : Rat) := by exact_mod_cast hB
  have hpe := tw_pos e
  have hA0 : (0 : Rat) ≤ (A : Rat) := by exact_mod_cast Nat.zero_le A
  have hm0 : (0 : Rat) ≤ m := by
    have h1 := Rat.mul_nonneg hA0 (Rat.le_of_lt hpe)
    rw [hm] at h1
    refine Rat.not_lt.mp fun q => ?_
    have h2 : 0 < -m := by grind
    have h3 := Rat.mul_pos h2 hBr
    grind
  cases hr : roundRatio b64 s A B e with
  | nan =>
    exfalso
    unfold roundRatio at hr
    split at hr
    · cases hr
    · unfold roundAt settle bound at hr
      split at hr <;> split at hr <;> cases hr
  | inf t =>
    exfalso
    have ht : t = s := by
      unfold roundRatio at hr
      split at hr
      · cases hr
      · unfold roundAt settle bound at hr
        split at hr <;> split at hr <;> cases hr <;> rfl
    subst ht
    obtain ⟨e0, h1, h2⟩ : ∃ e0 : Int, e0 < -1074 ∧ e0 ≤ e := ⟨min (-1075) e, by omega, by omega⟩
    have := (roundRatio_inf good_b64 (s := t) (A := A) (B := B) (e := e) (e0 := e0) hB (by omega) h2).mp hr
    rw [hqx, p53] at this
    have k1 : (((2 ^ (53 + 1) - 1) * 2 ^ ((971 : Int) - 1 - e0).toNat * B : Nat) : Rat) ≤ ((inUnits A e e0 : Nat) : Rat) := Rat.natCast_le_natCast.mpr this
    have k2 := Rat.mul_le_mul_of_nonneg_right k1 (Rat.le_of_lt (tw_pos e0))
    rw [inU A h2, hm, Rat.natCast_mul, Rat.natCast_mul] at k2
    have k3 := tw_sub (a := 971 - 1) (b := e0) (by omega)
    have k4 : (1 : Rat) ≤ ((2 ^ (53 + 1) - 1 : Nat) : Rat) := by decide +kernel
    have k5 : (2 : Rat) ^ (1000 : Int) < ((2 ^ (53 + 1) - 1 : Nat) : Rat) * (2 : Rat) ^ (971 - 1 : Int) := by decide +kernel
    have k6 : ((2 ^ (53 + 1) - 1 : Nat) : Rat) * (2 : Rat) ^ (971 - 1 : Int) * (B : Rat) ≤ m * (B : Rat) := by
      rw [← k3]; grind
    generalize ((2 ^ (53 + 1) - 1 : Nat) : Rat) * (2 : Rat) ^ (971 - 1 : Int) = KK at k5 k6
    generalize (2 : Rat) ^ (1000 : Int) = K1 at hhi k5
    have k8 : m < KK := by grind
    have k7 := Rat.mul_lt_mul_of_pos_right k8 hBr
    grind
  | fin t c q =>
    have ht : t = s := by
      unfold roundRatio at hr
      split at hr
      · cases hr; rfl
      · unfold roundAt settle bound at hr
        split at hr <;> split at hr <;> cases hr <;> rfl
    subst ht
    have hf := roundRatio_fits good_b64 t A hB e
    rw [hr] at hf
    obtain ⟨f1, f2, f3, f4⟩ := hf
    rw [hqm] at f2 f4
    refine ⟨c, q, rfl, ?_⟩
    have near : ∀ (c' : Nat) (q' : Int), c' < 2 ^ 53 → -1074 ≤ q' → dst m ((c : Rat) * (2 : Rat) ^ q) ≤ dst m ((c' : Rat) * (2 : Rat) ^ q') := by
      intro c' q' hc' hq'
      obtain ⟨e0, h1, h2, h3, h4⟩ : ∃ e0 : Int, e0 ≤ -1074 ∧ e0 ≤ e ∧ e0 ≤ q ∧ e0 ≤ q' := ⟨min (min (-1075) e) (min q q'), by omega, by omega, by omega, by omega⟩
      have n1 := roundRatio_nearest good_b64 (e0 := e0) hB hr (c' := c') (q' := q') hc' (by omega) (by omega) h2
      unfold distance at n1
      have a1 := inU A h2
      have a2 := inU c h3
      have a3 := inU c' h4
      rw [hm] at a1
      rw [← a2, ← a3]
      have hp := tw_pos e0
      have n2 : (((inUnits A e e0 : Int) - (inUnits c q e0 : Int) * (B : Int)).natAbs : Int) ≤ (((inUnits A e e0 : Int) - (inUnits c' q' e0 : Int) * (B : Int)).natAbs : Int) := by exact_mod_cast n1
      have n3 : ((((inUnits A e e0 : Int) - (inUnits c q e0 : Int) * (B : Int)).natAbs : Int) : Rat) ≤ ((((inUnits A e e0 : Int) - (inUnits c' q' e0 : Int) * (B : Int)).natAbs : Int) : Rat) := by exact_mod_cast n2
      rw [Rat.intCast_natCast, Rat.intCast_natCast, natAbs_castR, natAbs_castR, Rat.intCast_sub, Rat.intCast_sub, Rat.intCast_mul, Rat.intCast_mul] at n3
      simp only [Rat.intCast_natCast] at n3
      generalize hx : ((inUnits A e e0 : Nat) : Rat) = X at a1 n3
      generalize ((inUnits c q e0 : Nat) : Rat) = Y at n3 ⊢
      generalize ((inUnits c' q' e0 : Nat) : Rat) = Z at n3 ⊢
      generalize (2 : Rat) ^ e0 = P at a1 hp ⊢
      generalize (B : Rat) = b at *
      have hbne : b ≠ 0 := by grind
      obtain ⟨k, hk⟩ : ∃ k : Rat, k = P / b := ⟨_, rfl⟩
      have hP : P = b * k := by rw [hk]; grind
      have hk0 : 0 < k := by
        refine Rat.not_le.mp fun q => ?_
        have := Rat.mul_le_mul_of_nonneg_left q (Rat.le_of_lt hBr)
        grind
      have hmX : m = X * k := by
        subst hP
        have : m * b = X * k * b := by grind
        grind
      have g1 : Y * P = (Y * b) * k := by rw [hP]; grind
      have g2 : Z * P = (Z * b) * k := by rw [hP]; grind
      rw [hmX, g1, g2, dst_scale hk0, dst_scale hk0]
      refine Rat.mul_le_mul_of_nonneg_right ?_ (Rat.le_of_lt hk0)
      unfold dst
      grind
    have hcq := tw_pos q
    have hc0 : (0 : Rat) ≤ (c : Rat) := by exact_mod_cast Nat.zero_le c
    have hv0 := Rat.mul_nonneg hc0 (Rat.le_of_lt hcq)
    -- the value is no greater than 2^1000, so its exponent is small
    have hv1 : (c : Rat) * (2 : Rat) ^ q ≤ (2 : Rat) ^ (1000 : Int) := by
      have n := near (2 ^ 52) 948 (by decide) (by decide)
      have e1 : ((2 ^ 52 : Nat) : Rat) * (2 : Rat) ^ (948 : Int) = (2 : Rat) ^ (1000 : Int) := by decide +kernel
      rw [e1] at n
      generalize (2 : Rat) ^ (1000 : Int) = K1 at hhi n ⊢
      unfold dst at n
      grind
    have hq9 : q ≤ 960 := by
      refine Int.not_lt.mp fun hq => ?_
      have hcan : b64.tails ≤ c := by
        rcases f4 with f4 | f4
        · omega
        · exact f4
      have ht : b64.tails = 2 ^ 52 := by decide
      rw [ht] at hcan
      have c1 : ((2 ^ 52 : Nat) : Rat) ≤ (c : Rat) := Rat.natCast_le_natCast.mpr hcan
      have c2 := tw_le (a := 961) (b := q) (by omega)
      have c3 := Rat.mul_le_mul_of_nonneg_right c1 (Rat.le_of_lt hcq)
      have c4 : (0 : Rat) ≤ ((2 ^ 52 : Nat) : Rat) := by exact_mod_cast Nat.zero_le _
      have c5 := Rat.mul_le_mul_of_nonneg_left c2 c4
      have c6 : (2 : Rat) ^ (1000 : Int) < ((2 ^ 52 : Nat) : Rat) * (2 : Rat) ^ (961 : Int) := by decide +kernel
      generalize ((2 ^ 52 : Nat) : Rat) * (2 : Rat) ^ (961 : Int) = K2 at c5 c6
      generalize (2 : Rat) ^ (1000 : Int) = K1 at hv1 c6
      grind
    refine ⟨⟨(c : Int), q, by rw [p53] at f1; simpa using f1, f2, hq9, by rw [Rat.intCast_natCast]⟩, ?_, ?_⟩
    · intro r hr'
      obtain ⟨n, q', h1, h2, h3, h4⟩ := hr'
      have nz := near 0 0 (by decide) (by decide)
      have nn := near n.natAbs q' h1 h2
      have e0 : ((0 : Nat) : Rat) * (2 : Rat) ^ (0 : Int) = 0 := by decide +kernel
      rw [e0] at nz
      rw [natAbs_castR] at nn
      have hq' := tw_pos q'
      by_cases hn : (n : Rat) < 0
      · have hneg : (n : Rat) * (2 : Rat) ^ q' < 0 := by
          have : 0 < -(n : Rat) := by grind
          have := Rat.mul_pos this hq'
          grind
        rw [h4] at hneg
        unfold dst at nz ⊢
        grind
      · rw [if_neg hn, h4] at nn
        exact nn
    · intro hlo
      have hA : 0 < A := by
        rcases Nat.eq_zero_or_pos A with h | h
        · exfalso
          subst h
          have : (0 : Rat) = m * (B : Rat) := by rw [← hm]; exact (Rat.zero_mul _).symm
          have hmp : 0 < m := by have := tw_pos (-1022); grind
          have := Rat.mul_pos hmp hBr
          grind
        · exact h
      unfold roundRatio at hr
      rw [if_neg (by omega)] at hr
      have g2 := nearest_units_le (f := b64) hA hB e
      have g3 := quantum_not_below (f := b64) hA hB e
      have g1 := quantum_ge b64 A B e
      unfold roundAt at hr
      generalize quantum b64 A B e = Q at hr g1 g2 g3
      rw [hqm] at g1 g3
      have hpQ := tw_pos Q
      have hset := (settle_value good_b64 (e0 := min Q q) g2 hr (by omega)).2
      have v1 := inU c (q := q) (e0 := min Q q) (by omega)
      have v2 := inU (nearest (unitsNum A e Q) (unitsDen B e Q)) (q := Q) (e0 := min Q q) (by omega)
      rw [hset] at v1
      have hval : (c : Rat) * (2 : Rat) ^ q = ((nearest (unitsNum A e Q) (unitsDen B e Q) : Nat) : Rat) * (2 : Rat) ^ Q := by rw [← v1, ← v2]
      have hDpos : 0 < unitsDen B e Q := unitsDen_pos hB e Q
      obtain ⟨s1, s2, -⟩ := nearest_spec (unitsNum A e Q) (unitsDen B e Q) hDpos
      have hU : ((unitsNum A e Q : Nat) : Rat) * (2 : Rat) ^ Q = m * ((unitsDen B e Q : Nat) : Rat) := by
        unfold unitsNum unitsDen
        rw [Rat.natCast_mul, Rat.natCast_mul]
        by_cases hle : Q ≤ e
        · have z : (Q - e).toNat = 0 := by omega
          rw [z, Rat.mul_assoc, tw_sub hle, hm]
          have : ((2 ^ 0 : Nat) : Rat) = 1 := rfl
          rw [this]; grind
        · have z : (e - Q).toNat = 0 := by omega
          have k := tw_sub (a := Q) (b := e) (by omega)
          rw [z, ← k]
          have : ((2 ^ 0 : Nat) : Rat) = 1 := rfl
          rw [this]
          grind
      have t1 : ((2 * unitsNum A e Q : Nat) : Rat) ≤ (((2 * nearest (unitsNum A e Q) (unitsDen B e Q) + 1) * unitsDen B e Q : Nat) : Rat) := Rat.natCast_le_natCast.mpr s1
      have t2 : ((2 * nearest (unitsNum A e Q) (unitsDen B e Q) * unitsDen B e Q : Nat) : Rat) ≤ ((2 * unitsNum A e Q + unitsDen B e Q : Nat) : Rat) := Rat.natCast_le_natCast.mpr s2
      simp only [Rat.natCast_mul, Rat.natCast_add] at t1 t2
      have hDr : (0 : Rat) < ((unitsDen B e Q : Nat) : Rat) := by exact_mod_cast hDpos
      -- half a unit is small
      have hh : (2 : Rat) ^ Q ≤ m / 4503599627370496 := by
        rcases g3 with g3 | g3
        · subst g3
          have e1 : (2 : Rat) ^ (-1022 : Int) = (2 : Rat) ^ (-1074 : Int) * 4503599627370496 := by decide +kernel
          rw [e1] at hlo
          generalize (2 : Rat) ^ (-1074 : Int) = P at hlo ⊢
          grind
        · have g4 : (Q - e + ((b64.p : Int) - 1)) = Q - e + 52 := by rw [p53]; omega
          rw [g4] at g3
          unfold Below at g3
          have g5 := Nat.le_of_not_lt g3
          have g6 : ((B * 2 ^ (Q - e + 52).toNat : Nat) : Rat) ≤ ((A * 2 ^ (-(Q - e + 52)).toNat : Nat) : Rat) := Rat.natCast_le_natCast.mpr g5
          rw [Rat.natCast_mul, Rat.natCast_mul, ← tw_nat, ← tw_nat] at g6
          have hz := tw_pos (e - ((-(Q - e + 52)).toNat : Int))
          have g7 := Rat.mul_le_mul_of_nonneg_right g6 (Rat.le_of_lt hz)
          have x1 : (2 : Rat) ^ (((Q - e + 52).toNat : Nat) : Int) * (2 : Rat) ^ (e - ((-(Q - e + 52)).toNat : Int)) = (2 : Rat) ^ Q * (2 : Rat) ^ (52 : Int) := by
            rw [← tw_add, ← tw_add]; congr 1; omega
          have x2 : (2 : Rat) ^ (((-(Q - e + 52)).toNat : Nat) : Int) * (2 : Rat) ^ (e - ((-(Q - e + 52)).toNat : Int)) = (2 : Rat) ^ e := by
            rw [← tw_add]; congr 1; omega
          rw [Rat.mul_assoc, Rat.mul_assoc, x1, x2, hm] at g7
          have x3 : (2 : Rat) ^ (52 : Int) = 4503599627370496 := by decide +kernel
          rw [x3] at g7
          refine Rat.not_lt.mp fun hq => ?_
          have y1 : m < (2 : Rat) ^ Q * 4503599627370496 := by
            generalize (2 : Rat) ^ Q = P at hq ⊢
            grind
          have y2 := Rat.mul_lt_mul_of_pos_right y1 hBr
          generalize (2 : Rat) ^ Q = P at g7 y2
          grind
      rw [hval]
      generalize ((nearest (unitsNum A e Q) (unitsDen B e Q) : Nat) : Rat) = N at t1 t2 ⊢
      generalize ((unitsNum A e Q : Nat) : Rat) = U at t1 t2 hU
      generalize ((unitsDen B e Q : Nat) : Rat) = D at t1 t2 hU hDr
      generalize (2 : Rat) ^ Q = P at hh hU hpQ ⊢
      have e2 : ((2 : Nat) : Rat) = 2 := rfl
      have e1 : ((1 : Nat) : Rat) = 1 := rfl
      rw [e2] at t1 t2
      rw [e1] at t1
      -- U P = m D ;  2U ≤ (2N+1) D ;  2ND ≤ 2U + D
      have w1 := Rat.mul_le_mul_of_nonneg_right t1 (Rat.le_of_lt hpQ)
      have w2 := Rat.mul_le_mul_of_nonneg_right t2 (Rat.le_of_lt hpQ)
      have w3 : 2 * m * D ≤ (2 * N * P + P) * D := by grind
      have w4 : (2 * N * P) * D ≤ (2 * m + P) * D := by grind
      have w5 : 2 * m ≤ 2 * N * P + P := by
        refine Rat.not_lt.mp fun q => ?_
        have := Rat.mul_lt_mul_of_pos_right q hDr
        grind
      have w6 : 2 * N * P ≤ 2 * m + P := by
        refine Rat.not_lt.mp fun q => ?_
        have := Rat.mul_lt_mul_of_pos_right q hDr
        grind
      constructor <;> grind
theorem dst_neg (a b : Rat) : dst (-a) (-b) = dst a b := by unfold dst; grind
theorem Rd.neg {m v : Rat} (h : Rd m v) (h0 : 0 ≤ m) : Rd (-m) (-v) := by
  refine ⟨h.1.neg, fun r hr => ?_, fun hl => ?_⟩
  · have := h.2.1 (-r) hr.neg
    rw [dst_neg]
    have e : dst m (-r) = dst (-m) r := by rw [← dst_neg]; congr 1; grind
    rw [← e]; exact this
  · exfalso
    have := tw_pos (-1022)
    generalize (2 : Rat) ^ (-1022 : Int) = P at hl this
    grind
theorem rrS {s : Bool} {A B : Nat} {e : Int} {m : Rat} (hB : 0 < B) (hv : (if s then -((A : Rat) * (2 : Rat) ^ e) else (A : Rat) * (2 : Rat) ^ e) = m * (B : Rat)) (hlo : -(2 : Rat) ^ (1000 : Int) ≤ m) (hhi : m ≤ (2 : Rat) ^ (1000 : Int)) :
    ∃ (c : Nat) (q : Int), roundRatio b64 s A B e = .fin s c q ∧ Rd m (((signed s c : Int) : Rat) * (2 : Rat) ^ q) := by
  have hBr : (0 : Rat) < (B : Rat) := by exact_mod_cast hB
  have hA0 : (0 : Rat) ≤ (A : Rat) := by exact_mod_cast Nat.zero_le A
  have hAe := Rat.mul_nonneg hA0 (Rat.le_of_lt (tw_pos e))
  cases s with
  | false =>
    simp only [Bool.false_eq_true, if_false] at hv
    obtain ⟨c, q, h1, h2⟩ := rr_round (s := false) hB hv hhi
    refine ⟨c, q, h1, ?_⟩
    rw [sgn_cast]; exact h2
  | true =>
    simp only [if_true] at hv
    have hm : (A : Rat) * (2 : Rat) ^ e = (-m) * (B : Rat) := by grind
    have h0 : 0 ≤ -m := by
      refine Rat.not_lt.mp fun q => ?_
      have h5 : 0 < m := by grind
      have := Rat.mul_pos h5 hBr
      grind
    obtain ⟨c, q, h1, h2⟩ := rr_round (s := true) hB hm (by generalize (2 : Rat) ^ (1000 : Int) = K at hlo ⊢; grind)
    refine ⟨c, q, h1, ?_⟩
    have h3 := h2.neg h0
    rw [sgn_cast]
    simp only [if_true]
    have e1 : -(c : Rat) * (2 : Rat) ^ q = -((c : Rat) * (2 : Rat) ^ q) := Rat.neg_mul _ _
    have e2 : - -m = m := by grind
    rw [e1]; rw [e2] at h3; exact h3
theorem IsV.rnd {s : Bool} {c : Nat} {e : Int} {m : Rat} {w : UInt64} (hw : val64 w = Jvm.FP.Core.round b64 (.fin s c e)) (hv : ((signed s c : Int) : Rat) * (2 : Rat) ^ e = m) (hlo : -(2 : Rat) ^ (1000 : Int) ≤ m) (hhi : m ≤ (2 : Rat) ^ (1000 : Int)) : ∃ v, IsV w v ∧ Rd m v := by
  obtain ⟨c', q, h1, h2⟩ := rrS (s := s) (A := c) (B := 1) (e := e) (m := m) (by decide) (by
    rw [sgn_cast] at hv
    have e1 : ((1 : Nat) : Rat) = 1 := rfl
    rw [e1, Rat.mul_one, ← hv]
    cases s <;> simp [Rat.neg_mul]) hlo hhi
  exact ⟨_, ⟨s, c', q, hw.trans h1, rfl⟩, h2⟩
theorem IsV.addR {a b : UInt64} {x y : Rat} (ha : IsV a x) (hb : IsV b y) (hlo : -(2 : Rat) ^ (1000 : Int) ≤ x + y) (hhi : x + y ≤ (2 : Rat) ^ (1000 : Int)) : ∃ v, IsV (dadd a b) v ∧ Rd (x + y) v := by
  obtain ⟨s, c, q, h1, h2⟩ := ha
  obtain ⟨t, d, r, h3, h4⟩ := hb
  refine IsV.rnd (w := dadd a b) (by rw [val64_dadd, h1, h3]; rfl) ?_ hlo hhi
  rw [signed_natAbs]
  unfold sumUnits
  rw [Rat.intCast_add, Rat.add_mul, signed_units s c (Int.min_le_left q r), signed_units t d (Int.min_le_right q r), h2, h4]
theorem IsV.subR {a b : UInt64} {x y : Rat} (ha : IsV a x) (hb : IsV b y) (hlo : -(2 : Rat) ^ (1000 : Int) ≤ x - y) (hhi : x - y ≤ (2 : Rat) ^ (1000 : Int)) : ∃ v, IsV (dsub a b) v ∧ Rd (x - y) v := by
  obtain ⟨s, c, q, h1, h2⟩ := ha
  obtain ⟨t, d, r, h3, h4⟩ := hb
  obtain ⟨h5, h6⟩ := IsV.neg_d h3 h4
  refine IsV.rnd (w := dsub a b) (by rw [val64_dsub, h1, h5]; rfl) ?_ hlo hhi
  rw [signed_natAbs]
  unfold sumUnits
  rw [Rat.intCast_add, Rat.add_mul, signed_units s c (Int.min_le_left q r), signed_units (!t) d (Int.min_le_right q r), h2, h6, Rat.sub_eq_add_neg]
theorem IsV.mulR {a b : UInt64} {x y : Rat} (ha : IsV a x) (hb : IsV b y) (hlo : -(2 : Rat) ^ (1000 : Int) ≤ x * y) (hhi : x * y ≤ (2 : Rat) ^ (1000 : Int)) : ∃ v, IsV (dmul a b) v ∧ Rd (x * y) v := by
  obtain ⟨s, c, q, h1, h2⟩ := ha
  obtain ⟨t, d, r, h3, h4⟩ := hb
  refine IsV.rnd (w := dmul a b) (by rw [val64_dmul, h1, h3]; rfl) ?_ hlo hhi
  rw [signed_xor, tw_add, ← h2, ← h4]
  grind
set_option maxRecDepth 65536 in
theorem IsV.divR {a b : UInt64} {x y : Rat} (ha : IsV a x) (hb : IsV b y) (hy : y ≠ 0) (hlo : -(2 : Rat) ^ (1000 : Int) ≤ x / y) (hhi : x / y ≤ (2 : Rat) ^ (1000 : Int)) : ∃ v, IsV (ddiv a b) v ∧ Rd (x / y) v := by
  obtain ⟨s, c, q, h1, h2⟩ := ha
  obtain ⟨t, d, r, h3, h4⟩ := hb
  have hd : d ≠ 0 := by
    intro h; subst h
    rw [signed_zero] at h4
    apply hy; rw [← h4]; simp
  have hq : val64 (ddiv a b) = roundRatio b64 (s != t) c d (q - r) := by
    rw [val64_ddiv, h1, h3]
    show (if d = 0 then _ else _) = _
    rw [if_neg hd]
  obtain ⟨c', q', k1, k2⟩ := rrS (s := (s != t)) (A := c) (B := d) (e := q - r) (m := x / y) (by omega) (by
    have e1 : (2 : Rat) ^ q = (2 : Rat) ^ (q - r) * (2 : Rat) ^ r := by rw [← tw_add]; congr 1; omega
    have n1 := tw_ne r
    have n2 : (d : Rat) ≠ 0 := by
      intro h; apply hd; exact_mod_cast h
    rw [sgn_cast] at h2 h4
    subst h2 h4
    rw [e1]
    cases s <;> cases t <;> simp only [if_true, Bool.false_eq_true, if_false, bne_self_eq_false, Bool.true_bne, Bool.false_bne, Bool.not_true, Bool.not_false] <;> grind) hlo hhi
  exact ⟨_, ⟨_, c', q', hq.trans k1, rfl⟩, k2⟩
theorem IsV.l2dR (x : Int64) : ∃ v, IsV (FP.l2d x) v ∧ Rd (x.toInt : Rat) v := by
  have b1 := x.toInt_lt
  have b2 := x.le_toInt
  have k : ((9223372036854775808 : Int) : Rat) ≤ (2 : Rat) ^ (1000 : Int) := by decide +kernel
  have u1 : (x.toInt : Rat) ≤ ((9223372036854775808 : Int) : Rat) := Rat.intCast_le_intCast.mpr (by omega)
  have u2 : ((-9223372036854775808 : Int) : Rat) ≤ (x.toInt : Rat) := Rat.intCast_le_intCast.mpr (by omega)
  rw [Rat.intCast_neg] at u2
  generalize ((9223372036854775808 : Int) : Rat) = M at k u1 u2
  refine IsV.rnd (val64_l2d x) (by rw [signed_dec, Rat.zpow_zero, Rat.mul_one]) ?_ ?_ <;> generalize (2 : Rat) ^ (1000 : Int) = K at k ⊢ <;> grind
end OwnFp
end Jvm.Pilot.@@N@@

namespace Jvm.Pilot.@@N@@
open Jvm Jvm.ClassFile Sem Op Lib Jvm.Free Jvm.Stand Jvm.LawKit Jvm.RoadKit Bundle Jvm.Pilot.@@N@@.Jvm.D
def W (a0 : Array Value) (Z : State) : Prop := ∀ d ∈ tables_1, d.before a0 Z = true
theorem w0 {a0 : Array Value} {Z : State} (hw : W a0 Z) : (Jvm.Cond.constantLong "com/example/silvafront/silvafront/forest/RoundingFallsBelowPinLaw" (7 : Nat) (4503599627370495 : Int64)).before a0 Z = true := hw _ (List.mem_of_getElem? (i := 0) rfl)
theorem w1 {a0 : Array Value} {Z : State} (hw : W a0 Z) : (Jvm.Cond.methodLink "com/example/silvafront/silvafront/forest/RoundingFallsBelowPinLaw" (21 : Nat) ({ cls := "com/example/silvafront/silvafront/forest/Rounding", name := "fallsBelow", desc := "(DD)Z" } : Jvm.MethodName)).before a0 Z = true := hw _ (List.mem_of_getElem? (i := 1) rfl)
theorem w2 {a0 : Array Value} {Z : State} (hw : W a0 Z) : (Jvm.Cond.static ({ cls := "com/example/silvafront/silvafront/forest/Rounding", name := "fallsBelow", desc := "(DD)Z" } : Jvm.MethodName)).before a0 Z = true := hw _ (List.mem_of_getElem? (i := 2) rfl)
theorem w3 {a0 : Array Value} {Z : State} (hw : W a0 Z) : (Jvm.Cond.initialized "com/example/silvafront/silvafront/forest/Rounding").before a0 Z = true := hw _ (List.mem_of_getElem? (i := 3) rfl)
theorem w4 {a0 : Array Value} {Z : State} (hw : W a0 Z) : (Jvm.Cond.code ({ cls := "com/example/silvafront/silvafront/forest/Rounding", name := "fallsBelow", desc := "(DD)Z" } : Jvm.MethodName) prog_11_method_2_code (4 : Nat) (Option.some Jvm.ClassFile.FieldType.boolean)).before a0 Z = true := hw _ (List.mem_of_getElem? (i := 4) rfl)
theorem w5 {a0 : Array Value} {Z : State} (hw : W a0 Z) : (Jvm.Cond.constantDouble "com/example/silvafront/silvafront/forest/Rounding" (9 : Nat) (4427486594234968593 : UInt64)).before a0 Z = true := hw _ (List.mem_of_getElem? (i := 5) rfl)
theorem w6 {a0 : Array Value} {Z : State} (hw : W a0 Z) : (Jvm.Cond.methodLink "com/example/silvafront/silvafront/forest/Rounding" (11 : Nat) ({ cls := "java/lang/Math", name := "abs", desc := "(D)D" } : Jvm.MethodName)).before a0 Z = true := hw _ (List.mem_of_getElem? (i := 6) rfl)
theorem w7 {a0 : Array Value} {Z : State} (hw : W a0 Z) : (Jvm.Cond.static ({ cls := "java/lang/Math", name := "abs", desc := "(D)D" } : Jvm.MethodName)).before a0 Z = true := hw _ (List.mem_of_getElem? (i := 7) rfl)
theorem w8 {a0 : Array Value} {Z : State} (hw : W a0 Z) : (Jvm.Cond.initialized "java/lang/Math").before a0 Z = true := hw _ (List.mem_of_getElem? (i := 8) rfl)
theorem w9 {a0 : Array Value} {Z : State} (hw : W a0 Z) : (Jvm.Cond.code ({ cls := "java/lang/Math", name := "abs", desc := "(D)D" } : Jvm.MethodName) jdk_29_method_64_code (2 : Nat) (Option.some Jvm.ClassFile.FieldType.double)).before a0 Z = true := hw _ (List.mem_of_getElem? (i := 9) rfl)
theorem w10 {a0 : Array Value} {Z : State} (hw : W a0 Z) : (Jvm.Cond.methodLink "com/example/silvafront/silvafront/forest/Rounding" (17 : Nat) ({ cls := "java/lang/Math", name := "max", desc := "(DD)D" } : Jvm.MethodName)).before a0 Z = true := hw _ (List.mem_of_getElem? (i := 10) rfl)
theorem w11 {a0 : Array Value} {Z : State} (hw : W a0 Z) : (Jvm.Cond.static ({ cls := "java/lang/Math", name := "max", desc := "(DD)D" } : Jvm.MethodName)).before a0 Z = true := hw _ (List.mem_of_getElem? (i := 11) rfl)
theorem w12 {a0 : Array Value} {Z : State} (hw : W a0 Z) : (Jvm.Cond.code ({ cls := "java/lang/Math", name := "max", desc := "(DD)D" } : Jvm.MethodName) jdk_29_method_68_code (4 : Nat) (Option.some Jvm.ClassFile.FieldType.double)).before a0 Z = true := hw _ (List.mem_of_getElem? (i := 12) rfl)
theorem w13 {a0 : Array Value} {Z : State} (hw : W a0 Z) : (Jvm.Cond.methodLink "com/example/silvafront/silvafront/forest/RoundingFallsBelowPinLaw" (13 : Nat) ({ cls := "java/lang/Math", name := "abs", desc := "(J)J" } : Jvm.MethodName)).before a0 Z = true := hw _ (List.mem_of_getElem? (i := 13) rfl)
theorem w14 {a0 : Array Value} {Z : State} (hw : W a0 Z) : (Jvm.Cond.static ({ cls := "java/lang/Math", name := "abs", desc := "(J)J" } : Jvm.MethodName)).before a0 Z = true := hw _ (List.mem_of_getElem? (i := 14) rfl)
theorem w15 {a0 : Array Value} {Z : State} (hw : W a0 Z) : (Jvm.Cond.code ({ cls := "java/lang/Math", name := "abs", desc := "(J)J" } : Jvm.MethodName) jdk_29_method_61_code (2 : Nat) (Option.some Jvm.ClassFile.FieldType.long)).before a0 Z = true := hw _ (List.mem_of_getElem? (i := 15) rfl)
theorem w16 {a0 : Array Value} {Z : State} (hw : W a0 Z) : (Jvm.Cond.methodLink "com/example/silvafront/silvafront/forest/RoundingFallsBelowPinLaw" (27 : Nat) ({ cls := "java/lang/Math", name := "max", desc := "(JJ)J" } : Jvm.MethodName)).before a0 Z = true := hw _ (List.mem_of_getElem? (i := 16) rfl)
theorem w17 {a0 : Array Value} {Z : State} (hw : W a0 Z) : (Jvm.Cond.static ({ cls := "java/lang/Math", name := "max", desc := "(JJ)J" } : Jvm.MethodName)).before a0 Z = true := hw _ (List.mem_of_getElem? (i := 17) rfl)
theorem w18 {a0 : Array Value} {Z : State} (hw : W a0 Z) : (Jvm.Cond.code ({ cls := "java/lang/Math", name := "max", desc := "(JJ)J" } : Jvm.MethodName) jdk_29_method_66_code (4 : Nat) (Option.some Jvm.ClassFile.FieldType.long)).before a0 Z = true := hw _ (List.mem_of_getElem? (i := 18) rfl)
theorem w19 {a0 : Array Value} {Z : State} (hw : W a0 Z) : (Jvm.Cond.constantLong "com/example/silvafront/silvafront/forest/RoundingFallsBelowPinLaw" (11 : Nat) (1000000000000 : Int64)).before a0 Z = true := hw _ (List.mem_of_getElem? (i := 19) rfl)
theorem w20 {a0 : Array Value} {Z : State} (hw : W a0 Z) : (Jvm.Cond.constantLong "com/example/silvafront/silvafront/forest/RoundingFallsBelowPinLaw" (33 : Nat) (4 : Int64)).before a0 Z = true := hw _ (List.mem_of_getElem? (i := 20) rfl)
theorem w21 {a0 : Array Value} {Z : State} (hw : W a0 Z) : (Jvm.Cond.constantDouble "com/example/silvafront/silvafront/forest/RoundingFallsBelowPinLaw" (19 : Nat) (4427038433705197568 : UInt64)).before a0 Z = true := hw _ (List.mem_of_getElem? (i := 21) rfl)
theorem w22 {a0 : Array Value} {Z : State} (hw : W a0 Z) : (Jvm.Cond.constantLong "com/example/silvafront/silvafront/forest/RoundingFallsBelowPinLaw" (31 : Nat) (1099511627776 : Int64)).before a0 Z = true := hw _ (List.mem_of_getElem? (i := 22) rfl)
theorem w23 {a0 : Array Value} {Z : State} (hw : W a0 Z) : (Jvm.Cond.constantLong "com/example/silvafront/silvafront/forest/RoundingFallsBelowPinLaw" (9 : Nat) (1048575 : Int64)).before a0 Z = true := hw _ (List.mem_of_getElem? (i := 23) rfl)
theorem d_jdk_29_method_61_0 : decode jdk_29_method_61_code 0 = .ok (.lload_n 0, 1) := by decide +kernel
theorem d_jdk_29_method_61_1 : decode jdk_29_method_61_code 1 = .ok (.lconst 0, 1) := by decide +kernel
theorem d_jdk_29_method_61_2 : decode jdk_29_method_61_code 2 = .ok (.lcmp, 1) := by decide +kernel
theorem d_jdk_29_method_61_3 : decode jdk_29_method_61_code 3 = .ok (.ifCond .ge 8, 3) := by decide +kernel
theorem d_jdk_29_method_61_6 : decode jdk_29_method_61_code 6 = .ok (.lload_n 0, 1) := by decide +kernel
theorem d_jdk_29_method_61_7 : decode jdk_29_method_61_code 7 = .ok (.lneg, 1) := by decide +kernel
theorem d_jdk_29_method_61_8 : decode jdk_29_method_61_code 8 = .ok (.goto 4, 3) := by decide +kernel
theorem d_jdk_29_method_61_12 : decode jdk_29_method_61_code 12 = .ok (.lreturn, 1) := by decide +kernel
theorem d_jdk_29_method_61_11 : decode jdk_29_method_61_code 11 = .ok (.lload_n 0, 1) := by decide +kernel
theorem d_jdk_29_method_66_0 : decode jdk_29_method_66_code 0 = .ok (.lload_n 0, 1) := by decide +kernel
theorem d_jdk_29_method_66_1 : decode jdk_29_method_66_code 1 = .ok (.lload_n 2, 1) := by decide +kernel
theorem d_jdk_29_method_66_2 : decode jdk_29_method_66_code 2 = .ok (.lcmp, 1) := by decide +kernel
theorem d_jdk_29_method_66_3 : decode jdk_29_method_66_code 3 = .ok (.ifCond .lt 7, 3) := by decide +kernel
theorem d_jdk_29_method_66_10 : decode jdk_29_method_66_code 10 = .ok (.lload_n 2, 1) := by decide +kernel
theorem d_jdk_29_method_66_11 : decode jdk_29_method_66_code 11 = .ok (.lreturn, 1) := by decide +kernel
theorem d_jdk_29_method_66_6 : decode jdk_29_method_66_code 6 = .ok (.lload_n 0, 1) := by decide +kernel
theorem d_jdk_29_method_66_7 : decode jdk_29_method_66_code 7 = .ok (.goto 4, 3) := by decide +kernel
theorem d_prog_11_method_2_0 : decode prog_11_method_2_code 0 = .ok (.dload_n 2, 1) := by decide +kernel
theorem d_prog_11_method_2_1 : decode prog_11_method_2_code 1 = .ok (.dload_n 0, 1) := by decide +kernel
theorem d_prog_11_method_2_2 : decode prog_11_method_2_code 2 = .ok (.dsub, 1) := by decide +kernel
theorem d_prog_11_method_2_3 : decode prog_11_method_2_code 3 = .ok (.ldc2_w 9, 3) := by decide +kernel
theorem d_prog_11_method_2_6 : decode prog_11_method_2_code 6 = .ok (.dconst 1, 1) := by decide +kernel
theorem d_prog_11_method_2_7 : decode prog_11_method_2_code 7 = .ok (.dload_n 0, 1) := by decide +kernel
theorem d_prog_11_method_2_8 : decode prog_11_method_2_code 8 = .ok (.invokestatic 11, 3) := by decide +kernel
theorem d_prog_11_method_2_11 : decode prog_11_method_2_code 11 = .ok (.dload_n 2, 1) := by decide +kernel
theorem d_prog_11_method_2_12 : decode prog_11_method_2_code 12 = .ok (.invokestatic 11, 3) := by decide +kernel
theorem d_prog_11_method_2_15 : decode prog_11_method_2_code 15 = .ok (.invokestatic 17, 3) := by decide +kernel
theorem d_prog_11_method_2_18 : decode prog_11_method_2_code 18 = .ok (.invokestatic 17, 3) := by decide +kernel
theorem d_prog_11_method_2_21 : decode prog_11_method_2_code 21 = .ok (.dmul, 1) := by decide +kernel
theorem d_prog_11_method_2_22 : decode prog_11_method_2_code 22 = .ok (.dcmp .l, 1) := by decide +kernel
theorem d_prog_11_method_2_23 : decode prog_11_method_2_code 23 = .ok (.ifCond .le 7, 3) := by decide +kernel
theorem d_prog_11_method_2_26 : decode prog_11_method_2_code 26 = .ok (.iconst 1, 1) := by decide +kernel
theorem d_prog_11_method_2_27 : decode prog_11_method_2_code 27 = .ok (.goto 4, 3) := by decide +kernel
theorem d_prog_11_method_2_31 : decode prog_11_method_2_code 31 = .ok (.ireturn, 1) := by decide +kernel
theorem d_prog_11_method_2_30 : decode prog_11_method_2_code 30 = .ok (.iconst 0, 1) := by decide +kernel
theorem pd0 : parseMethodDescriptor "(DD)Z" = some ⟨[.double, .double], some .boolean⟩ := by decide +kernel
theorem pd1 : parseMethodDescriptor "(J)J" = some ⟨[.long], some .long⟩ := by decide +kernel
theorem pd2 : parseMethodDescriptor "(JJ)J" = some ⟨[.long, .long], some .long⟩ := by decide +kernel
def KC : Rat := (4951760157141521 : Rat) / 4951760157141521099596496896
theorem own_dl {x : Int32} {d : Int64} (h : ((x &&& (255 : Int32)) - (128 : Int32)).toInt64 = d) : -128 ≤ d.toInt ∧ d.toInt ≤ 127 := by
  have m := c_mask x 255 8 (by decide) (by decide)
  have e1 : (128 : Int32).toInt = 128 := rfl
  have s : ((x &&& (255 : Int32)) - (128 : Int32)).toInt = (x &&& (255 : Int32)).toInt - 128 := by
    rw [Int32.toInt_sub, e1, Int.bmod_eq_of_le] <;> omega
  rw [← h, Int32.toInt_toInt64, s]
  omega
theorem own_mk {x m a : Int64} {k : Nat} (h : x &&& m = a) (hk : k ≤ 63) (hm : m.toBitVec.toNat = 2 ^ k - 1) : 0 ≤ a.toInt ∧ a.toInt < (2 ^ k : Nat) := by
  have q := c_maskL x m k hk hm
  rw [h] at q
  have : (0 : Int) < (2 ^ k : Nat) := by exact_mod_cast Nat.two_pow_pos k
  omega
theorem own_absI {x a : Int64} (h : (if x < 0 then -x else x) = a) (hx : -9223372036854775808 < x.toInt) : a.toInt = x.toInt.natAbs := by
  have e0 : (0 : Int64).toInt = 0 := rfl
  by_cases q : x < 0
  · rw [if_pos q] at h
    rw [Int64.lt_iff_toInt_lt, e0] at q
    rw [← h, Int64.toInt_neg, Int.bmod_eq_of_le] <;> omega
  · rw [if_neg q] at h
    rw [Int64.lt_iff_toInt_lt, e0] at q
    rw [← h]; omega
theorem own_maxI {a b f : Int64} (h : (if a < b then b else a) = f) : f.toInt = max a.toInt b.toInt := by
  by_cases q : a < b
  · rw [if_pos q] at h; subst h; rw [Int64.lt_iff_toInt_lt] at q; omega
  · rw [if_neg q] at h; subst h; rw [Int64.lt_iff_toInt_lt] at q; omega
/-- the law in whole numbers and values: g says whether T < D s -/
theorem own_fin {D S : Int} {sg T : Rat} (hs : 0 < sg) (hS : 1 ≤ S) (hS2 : S ≤ 9007199254740992) (r1 : T - KC * (sg * (S : Rat)) ≤ KC * (sg * (S : Rat)) / 9007199254740992) (r2 : KC * (sg * (S : Rat)) - T ≤ KC * (sg * (S : Rat)) / 9007199254740992) :
    (S + 5 ≤ D * 1000000000000 → T < (D : Rat) * sg) ∧ (D * 1000000000000 + 5 ≤ S → ¬ T < (D : Rat) * sg) := by
  have k1 : KC * 1000000000000 ≤ 1 := by decide +kernel
  have k2 : 1 - 1 / 18014398509481984 ≤ KC * 1000000000000 := by decide +kernel
  have k0 : 0 ≤ KC := by decide +kernel
  have s1 : (1 : Rat) ≤ (S : Rat) := by exact_mod_cast hS
  have s2 : (S : Rat) ≤ 9007199254740992 := Rat.intCast_le_intCast.mpr (by omega : S ≤ (9007199254740992 : Int))
  generalize KC = K at *
  have p0 : 0 < sg * (S : Rat) := Rat.mul_pos hs (by grind)
  have a1 := Rat.mul_le_mul_of_nonneg_right k1 (Rat.le_of_lt p0)
  have a2 := Rat.mul_le_mul_of_nonneg_right k2 (Rat.le_of_lt p0)
  have b1 := Rat.mul_le_mul_of_nonneg_left s2 (Rat.le_of_lt hs)
  constructor
  · intro h
    have h' : ((S + 5 : Int) : Rat) ≤ ((D * 1000000000000 : Int) : Rat) := Rat.intCast_le_intCast.mpr h
    rw [Rat.intCast_add, Rat.intCast_mul] at h'
    have e1 : ((5 : Int) : Rat) = 5 := rfl
    have e2 : ((1000000000000 : Int) : Rat) = 1000000000000 := rfl
    rw [e1, e2] at h'
    have c1 := Rat.mul_le_mul_of_nonneg_left h' (Rat.le_of_lt hs)
    generalize (S : Rat) = s at *
    generalize (D : Rat) = d at *
    generalize hsS : sg * s = P at *
    have d1 : K * P * 1000000000000 ≤ P := by grind
    have d2 : sg * (d * 1000000000000) = d * sg * 1000000000000 := by grind
    have d3 : sg * (s + 5) = P + 5 * sg := by grind
    rw [d2, d3] at c1
    generalize d * sg = X at *
    generalize K * P = m at *
    grind
  · intro h q
    have h' : ((D * 1000000000000 + 5 : Int) : Rat) ≤ ((S : Int) : Rat) := Rat.intCast_le_intCast.mpr h
    rw [Rat.intCast_add, Rat.intCast_mul] at h'
    have e1 : ((5 : Int) : Rat) = 5 := rfl
    have e2 : ((1000000000000 : Int) : Rat) = 1000000000000 := rfl
    rw [e1, e2] at h'
    have c1 := Rat.mul_le_mul_of_nonneg_left h' (Rat.le_of_lt hs)
    generalize (S : Rat) = s at *
    generalize (D : Rat) = d at *
    generalize hsS : sg * s = P at *
    have d2 : sg * (d * 1000000000000 + 5) = d * sg * 1000000000000 + 5 * sg := by grind
    rw [d2] at c1
    have d4 : P - P / 18014398509481984 ≤ K * P * 1000000000000 := by grind
    generalize d * sg = X at *
    generalize K * P = m at *
    have d5 : P ≤ sg * 9007199254740992 := b1
    grind
theorem own_absS {v : Int} {sg : Rat} (hs : 0 < sg) : (if (v : Rat) * sg < 0 then -((v : Rat) * sg) else (v : Rat) * sg) = sg * ((v.natAbs : Int) : Rat) := by
  by_cases h : v < 0
  · have h1 : (v : Rat) < 0 := by exact_mod_cast h
    have h2 : (v : Rat) * sg < 0 := by
      have : 0 < -(v : Rat) := by grind
      have := Rat.mul_pos this hs
      grind
    rw [if_pos h2, show ((v.natAbs : Int)) = -v by omega, Rat.intCast_neg]; grind
  · have h1 : (0 : Rat) ≤ (v : Rat) := by exact_mod_cast Int.not_lt.mp h
    have h2 : ¬ (v : Rat) * sg < 0 := by
      have := Rat.mul_nonneg h1 (Rat.le_of_lt hs)
      grind
    rw [if_neg h2, show ((v.natAbs : Int)) = v by omega]; grind
theorem own_maxS {a b : Int} {sg : Rat} (hs : 0 < sg) : (if sg * (a : Rat) < sg * (b : Rat) then sg * (b : Rat) else sg * (a : Rat)) = sg * ((max a b : Int) : Rat) := by
  by_cases h : a < b
  · have h1 : (a : Rat) < (b : Rat) := by exact_mod_cast h
    have h2 := Rat.mul_lt_mul_of_pos_left h1 hs
    rw [if_pos h2, show max a b = b by omega]
  · have h1 : (b : Rat) ≤ (a : Rat) := by exact_mod_cast Int.not_lt.mp h
    have h2 := Rat.mul_le_mul_of_nonneg_left h1 (Rat.le_of_lt hs)
    have h3 : ¬ sg * (a : Rat) < sg * (b : Rat) := by grind
    rw [if_neg h3, show max a b = a by omega]
/-- the greatest of the three -/
def Mx (v b L : Int) : Int := max L (max (v.natAbs : Int) (b.natAbs : Int))
theorem own_M {v b L : Int} {sg : Rat} (hs : 0 < sg) (hL : sg * (L : Rat) = 1) :
    (if 1 < (if (if (v : Rat) * sg < 0 then -((v : Rat) * sg) else (v : Rat) * sg) < (if (b : Rat) * sg < 0 then -((b : Rat) * sg) else (b : Rat) * sg) then (if (b : Rat) * sg < 0 then -((b : Rat) * sg) else (b : Rat) * sg) else (if (v : Rat) * sg < 0 then -((v : Rat) * sg) else (v : Rat) * sg)) then (if (if (v : Rat) * sg < 0 then -((v : Rat) * sg) else (v : Rat) * sg) < (if (b : Rat) * sg < 0 then -((b : Rat) * sg) else (b : Rat) * sg) then (if (b : Rat) * sg < 0 then -((b : Rat) * sg) else (b : Rat) * sg) else (if (v : Rat) * sg < 0 then -((v : Rat) * sg) else (v : Rat) * sg)) else 1) = sg * ((Mx v b L : Int) : Rat) := by
  rw [own_absS hs, own_absS hs, own_maxS hs]
  unfold Mx
  have k := own_maxS (a := L) (b := max (v.natAbs : Int) (b.natAbs : Int)) hs
  rw [hL] at k
  exact k
theorem own_KM {v b L : Int} {sg : Rat} (hs : 0 < sg) (hL : sg * (L : Rat) = 1) (hb : Mx v b L ≤ 9007199254740992) (h1 : sg ≤ 1) : 1 ≤ sg * ((Mx v b L : Int) : Rat) ∧ sg * ((Mx v b L : Int) : Rat) ≤ 9007199254740992 ∧ (2 : Rat) ^ (-1022 : Int) ≤ KC * (sg * ((Mx v b L : Int) : Rat)) ∧ KC * (sg * ((Mx v b L : Int) : Rat)) ≤ (2 : Rat) ^ (1000 : Int) ∧ -(2 : Rat) ^ (1000 : Int) ≤ KC * (sg * ((Mx v b L : Int) : Rat)) := by
  have a : (L : Rat) ≤ ((Mx v b L : Int) : Rat) := Rat.intCast_le_intCast.mpr (by unfold Mx; omega)
  have a1 := Rat.mul_le_mul_of_nonneg_left a (Rat.le_of_lt hs)
  rw [hL] at a1
  have b1 : ((Mx v b L : Int) : Rat) ≤ 9007199254740992 := Rat.intCast_le_intCast.mpr (by omega : Mx v b L ≤ (9007199254740992 : Int))
  have b0 : (0 : Rat) ≤ ((Mx v b L : Int) : Rat) := by
    have : (0 : Int) ≤ Mx v b L := by unfold Mx; omega
    exact_mod_cast this
  have c1 := Rat.mul_le_mul_of_nonneg_right h1 b0
  generalize sg * ((Mx v b L : Int) : Rat) = P at *
  have hP : P ≤ 9007199254740992 := by grind
  have k0 : 0 ≤ KC := by decide +kernel
  have k1 : KC ≤ 1 := by decide +kernel
  have k2 : (2 : Rat) ^ (-1022 : Int) ≤ KC := by decide +kernel
  have k3 : (9007199254740992 : Rat) ≤ (2 : Rat) ^ (1000 : Int) := by decide +kernel
  have m1 := Rat.mul_le_mul_of_nonneg_left a1 k0
  have m2 := Rat.mul_le_mul_of_nonneg_right k1 (show 0 ≤ P by grind)
  generalize (2 : Rat) ^ (-1022 : Int) = E1 at *
  generalize (2 : Rat) ^ (1000 : Int) = E2 at *
  generalize KC = K at *
  refine ⟨a1, hP, ?_, ?_, ?_⟩ <;> grind
theorem own_E (v b : Int) (sg : Rat) : (b : Rat) * sg - (v : Rat) * sg = ((b - v : Int) : Rat) * sg := by rw [Rat.intCast_sub]; grind
theorem own_rS {n : Int} {sg : Rat} (q : Int) (h : n.natAbs < 2 ^ 53) (h1 : -1074 ≤ q) (h2 : q ≤ 960) (hs : (2 : Rat) ^ q = sg) : Rep ((n : Rat) * sg) := ⟨n, q, h, h1, h2, by rw [hs]⟩
theorem own_g1 {g : Int32} {T E : Rat} (h : (g = 1 ∧ T < E) ∨ (g = 0 ∧ ¬ T < E)) (t : T < E) : g = 1 := by
  rcases h with h | h
  · exact h.1
  · exact absurd t h.2
theorem own_g0 {g : Int32} {T E : Rat} (h : (g = 1 ∧ T < E) ∨ (g = 0 ∧ ¬ T < E)) (t : ¬ T < E) : g = 0 := by
  rcases h with h | h
  · exact absurd h.2 t
  · exact h.1
theorem own_v {b d v : Int64} (hb : b.toInt.natAbs < 4503599627370496) (hd : -128 ≤ d.toInt ∧ d.toInt ≤ 127) (h : b - d = v) : v.toInt = b.toInt - d.toInt := by
  rw [← h, Int64.toInt_sub, Int.bmod_eq_of_le] <;> omega
theorem own_neg {m b : Int64} (hm : 0 ≤ m.toInt ∧ m.toInt < 4503599627370496) (h : -m = b) : b.toInt.natAbs < 4503599627370496 := by
  have : b.toInt = -m.toInt := by rw [← h, Int64.toInt_neg, Int.bmod_eq_of_le] <;> omega
  omega
theorem own_lh {d l : Int64} (hd : -128 ≤ d.toInt ∧ d.toInt ≤ 127) (h : d * (1000000000000 : Int64) = l) : l.toInt = d.toInt * 1000000000000 := by
  have e : (1000000000000 : Int64).toInt = 1000000000000 := rfl
  rw [← h, Int64.toInt_mul, e, Int.bmod_eq_of_le] <;> omega
theorem own_ss {b v s Lc ab av m0 : Int64} (hb : b.toInt.natAbs < 4503599627370496) (hv : v.toInt.natAbs < 9007199254740992) (hL : 1 ≤ Lc.toInt ∧ Lc.toInt ≤ 1099511627776) (h1 : (if b < 0 then -b else b) = ab) (h2 : (if v < 0 then -v else v) = av) (h3 : (if ab < av then av else ab) = m0) (h : (if m0 < Lc then Lc else m0) = s) :
    s.toInt = Mx v.toInt b.toInt Lc.toInt ∧ 1 ≤ s.toInt ∧ s.toInt ≤ 9007199254740992 := by
  have a1 := own_absI h1 (by omega)
  have a2 := own_absI h2 (by omega)
  have m1 := own_maxI h3
  have m2 := own_maxI h
  unfold Mx
  omega
theorem own_cut {l s : Int64} (hl : -128000000000000 ≤ l.toInt ∧ l.toInt ≤ 127000000000000) (hs : 1 ≤ s.toInt ∧ s.toInt ≤ 9007199254740992) (h : 0 < lcmpW (if (l - s) < 0 then -(l - s) else (l - s)) (4 : Int64)) : l.toInt + 5 ≤ s.toInt ∨ s.toInt + 5 ≤ l.toInt := by
  have e4 : (4 : Int64).toInt = 4 := rfl
  have d : (l - s).toInt = l.toInt - s.toInt := by rw [Int64.toInt_sub, Int.bmod_eq_of_le] <;> omega
  have a := own_absI (x := l - s) rfl (by omega)
  have q := (lw_gt _ _).mp h
  rw [Int64.lt_iff_toInt_lt, e4, a, d] at q
  omega
theorem own_md {d dd o m : Int64} {f r q : Int32} (hd : -128 ≤ d.toInt ∧ d.toInt ≤ 127) (h0 : (f >>> ((4 : Int32) &&& 31)) = q) (h1 : d + (((q &&& (3 : Int32)) - (1 : Int32)).toInt64) = dd) (h2 : (r >>> ((11 : Int32) &&& 31)).toInt64 = o) {x : Int64} (h4 : (dd * (1000000000000 : Int64)) + o = x) (h3 : (if x < 0 then -x else x) = m) : 0 ≤ m.toInt ∧ m.toInt < 4503599627370496 := by
  have k := c_mask q 3 2 (by decide) (by decide)
  have e1 : (1 : Int32).toInt = 1 := rfl
  have s1 : ((q &&& (3 : Int32)) - (1 : Int32)).toInt = (q &&& (3 : Int32)).toInt - 1 := by
    rw [Int32.toInt_sub, e1, Int.bmod_eq_of_le] <;> omega
  have s2 : dd.toInt = d.toInt + ((q &&& (3 : Int32)).toInt - 1) := by
    rw [← h1, Int64.toInt_add, c_i2l, s1, Int.bmod_eq_of_le] <;> omega
  have s3 : o.toInt = r.toInt / (2 ^ 11 : Nat) := by rw [← h2, c_i2l]; exact c_ishr r 11 11 (by decide)
  have r1 := r.toInt_lt
  have r2 := r.le_toInt
  have e : (1000000000000 : Int64).toInt = 1000000000000 := rfl
  have s4 : (dd * (1000000000000 : Int64)).toInt = dd.toInt * 1000000000000 := by rw [Int64.toInt_mul, e, Int.bmod_eq_of_le] <;> omega
  have s5 : x.toInt = dd.toInt * 1000000000000 + o.toInt := by rw [← h4, Int64.toInt_add, s4, Int.bmod_eq_of_le] <;> omega
  have a := own_absI h3 (by omega)
  omega

set_option maxRecDepth 65536 in
set_option maxHeartbeats 40000000 in
theorem c_absJ {l : Launch} {Z : State} {a0 : Array Value} (hw : W a0 Z) (x : Int64) (h0 : Heap)  :
    Con l Z (⟨"java/lang/Math", "abs", "(J)J"⟩ : MethodName) jdk_29_method_61_code 2 (some .long) ({ frames := 0, cells := 0, slots := 0, locals := 0 } : Room) #[(.long x)] h0 (fun v h' => ∃ r : Int64, v = some (.long r) ∧ (if x < (0 : Int64) then -x else x) = r ∧ h' = h0) := by
  refine Con.intro (Jvm.Free.JP.mathPlain rfl (by decide +kernel)) ?_
  intro p e s m below meth c T X
  refine Goes.cast (g' := mkF m 0 #[.val (.long x), .second] []) (by first | (simp [entryFrame, mkF, argsToLocals, Value.category]; done) | rfl) ?_
  refine o_lloadN X d_jdk_29_method_61_0 rfl (q := 1) rfl ?_
  refine o_lconst X d_jdk_29_method_61_1 (w := 0) rfl (q := 2) rfl ?_
  refine o_lcmp X d_jdk_29_method_61_2 (w := (lcmpW x (0 : Int64))) rfl (q := 3) rfl ?_
  by_cases hc3 : (lcmpW x (0 : Int64)) < (0 : Int32)
  · refine o_ifN X d_jdk_29_method_61_3 (tlt hc3).2.1 (q := 6) rfl ?_
    refine o_lloadN X d_jdk_29_method_61_6 rfl (q := 7) rfl ?_
    refine o_lneg X d_jdk_29_method_61_7 (w := (-x)) rfl (q := 8) rfl ?_
    refine o_goto X d_jdk_29_method_61_8 (by decide) (q := 12) (by decide) ?_
    exact o_retJ X d_jdk_29_method_61_12 ⟨_, rfl, if_pos ((lw_lt _ _).mp hc3), rfl⟩ (by decide) (by decide)
  · refine o_ifY X d_jdk_29_method_61_3 (flt hc3).2.1 (by decide) (q := 11) (by decide) ?_
    refine o_lloadN X d_jdk_29_method_61_11 rfl (q := 12) rfl ?_
    exact o_retJ X d_jdk_29_method_61_12 ⟨_, rfl, if_neg (fun q => hc3 ((lw_lt _ _).mpr q)), rfl⟩ (by decide) (by decide)
set_option maxRecDepth 65536 in
set_option maxHeartbeats 40000000 in
theorem c_maxJ {l : Launch} {Z : State} {a0 : Array Value} (hw : W a0 Z) (x z : Int64) (h0 : Heap)  :
    Con l Z (⟨"java/lang/Math", "max", "(JJ)J"⟩ : MethodName) jdk_29_method_66_code 4 (some .long) ({ frames := 0, cells := 0, slots := 0, locals := 0 } : Room) #[(.long x), (.long z)] h0 (fun v h' => ∃ r : Int64, v = some (.long r) ∧ (if x < z then z else x) = r ∧ h' = h0) := by
  refine Con.intro (Jvm.Free.JP.mathPlain rfl (by decide +kernel)) ?_
  intro p e s m below meth c T X
  refine Goes.cast (g' := mkF m 0 #[.val (.long x), .second, .val (.long z), .second] []) (by first | (simp [entryFrame, mkF, argsToLocals, Value.category]; done) | rfl) ?_
  refine o_lloadN X d_jdk_29_method_66_0 rfl (q := 1) rfl ?_
  refine o_lloadN X d_jdk_29_method_66_1 rfl (q := 2) rfl ?_
  refine o_lcmp X d_jdk_29_method_66_2 (w := (lcmpW x z)) rfl (q := 3) rfl ?_
  by_cases hc3 : (lcmpW x z) < (0 : Int32)
  · refine o_ifY X d_jdk_29_method_66_3 (tlt hc3).1 (by decide) (q := 10) (by decide) ?_
    refine o_lloadN X d_jdk_29_method_66_10 rfl (q := 11) rfl ?_
    exact o_retJ X d_jdk_29_method_66_11 ⟨_, rfl, if_pos ((lw_lt _ _).mp hc3), rfl⟩ (by decide) (by decide)
  · refine o_ifN X d_jdk_29_method_66_3 (flt hc3).1 (q := 6) rfl ?_
    refine o_lloadN X d_jdk_29_method_66_6 rfl (q := 7) rfl ?_
    refine o_goto X d_jdk_29_method_66_7 (by decide) (q := 11) (by decide) ?_
    exact o_retJ X d_jdk_29_method_66_11 ⟨_, rfl, if_neg (fun q => hc3 ((lw_lt _ _).mpr q)), rfl⟩ (by decide) (by decide)
set_option maxRecDepth 65536 in
set_option maxHeartbeats 40000000 in
theorem c_fb {l : Launch} {Z : State} {a0 : Array Value} (hw : W a0 Z) (dx dy : UInt64) (v_ b_ L_ : Int) (sg : Rat) (h0 : Heap) (hx : IsV dx ((v_ : Rat) * sg)) (hy : IsV dy ((b_ : Rat) * sg)) (hs : 0 < sg) (hL : sg * (L_ : Rat) = 1) (h1 : sg ≤ 1) (hb : Mx v_ b_ L_ ≤ 9007199254740992) (hrep : Rep (((b_ : Rat) * sg) - ((v_ : Rat) * sg))) :
    Con l Z (⟨"com/example/silvafront/silvafront/forest/Rounding", "fallsBelow", "(DD)Z"⟩ : MethodName) prog_11_method_2_code 4 (some .boolean) ({ frames := 1, cells := 0, slots := 0, locals := 21 } : Room) #[(.double dx), (.double dy)] h0 (fun v h' => ∃ (T : Rat) (g : Int32), v = some (.int g) ∧ Rd (KC * (sg * ((Mx v_ b_ L_ : Int) : Rat))) T ∧ ((g = 1 ∧ T < ((b_ : Rat) * sg) - ((v_ : Rat) * sg)) ∨ (g = 0 ∧ ¬ T < ((b_ : Rat) * sg) - ((v_ : Rat) * sg))) ∧ h' = h0) := by
  have hpn : plainName "com/example/silvafront/silvafront/forest/Rounding" = true := by first | (simp [plainName, overriddenIn]; done) | decide +kernel
  refine Con.intro (plainFor_of_name hpn) ?_
  intro p e s m below meth c T X
  refine Goes.cast (g' := mkF m 0 #[.val (.double dx), .second, .val (.double dy), .second] []) (by first | (simp [entryFrame, mkF, argsToLocals, Value.category]; done) | rfl) ?_
  refine o_dloadN X d_prog_11_method_2_0 rfl (q := 1) rfl ?_
  refine o_dloadN X d_prog_11_method_2_1 rfl (q := 2) rfl ?_
  obtain ⟨d1, hd1⟩ : ∃ z : UInt64, FP.dsub dy dx = z := ⟨_, rfl⟩
  have iv1 : IsV d1 (((b_ : Rat) * sg) - ((v_ : Rat) * sg)) := hd1 ▸ (IsV.sub hy hx hrep)
  refine o_dsub X d_prog_11_method_2_2 (hd1.symm ▸ iv1.nn) hd1 (q := 3) rfl ?_
  have iv2 : IsV (4427486594234968593 : UInt64) ((4951760157141521 : Rat) / 4951760157141521099596496896) := ⟨false, 4951760157141521, (-92), by decide +kernel, by decide +kernel⟩
  refine o_ldcD X (w5 hw) d_prog_11_method_2_3 (q := 6) rfl ?_
  refine o_dconst1 X d_prog_11_method_2_6 (q := 7) rfl ?_
  refine o_dloadN X d_prog_11_method_2_7 rfl (q := 8) rfl ?_
  obtain ⟨d3, hd3⟩ : ∃ z : UInt64, (dx &&& 0x7fffffffffffffff) = z := ⟨_, rfl⟩
  have iv3 : IsV d3 (if ((v_ : Rat) * sg) < 0 then -((v_ : Rat) * sg) else ((v_ : Rat) * sg)) := hd3 ▸ (IsV.abs hx)
  refine o_absD X (w6 hw) (w7 hw) (w8 hw) (w9 hw) hx.nn hd3 d_prog_11_method_2_8 rfl (by decide) (Nat.le_of_ble_eq_true rfl) (by decide) (by decide) (q := 11) rfl ?_
  intro T3 X3
  refine o_dloadN X3 d_prog_11_method_2_11 rfl (q := 12) rfl ?_
  obtain ⟨d4, hd4⟩ : ∃ z : UInt64, (dy &&& 0x7fffffffffffffff) = z := ⟨_, rfl⟩
  have iv4 : IsV d4 (if ((b_ : Rat) * sg) < 0 then -((b_ : Rat) * sg) else ((b_ : Rat) * sg)) := hd4 ▸ (IsV.abs hy)
  refine o_absD X3 (w6 hw) (w7 hw) (w8 hw) (w9 hw) hy.nn hd4 d_prog_11_method_2_12 rfl (by decide) (Nat.le_of_ble_eq_true rfl) (by decide) (by decide) (q := 15) rfl ?_
  intro T4 X4
  obtain ⟨d5, hd5⟩ : ∃ z : UInt64, (Jvm.Native.java_lang_Math.nans.pick64 true d3 d4) = z := ⟨_, rfl⟩
  have iv5 : IsV d5 (if (if ((v_ : Rat) * sg) < 0 then -((v_ : Rat) * sg) else ((v_ : Rat) * sg)) < (if ((b_ : Rat) * sg) < 0 then -((b_ : Rat) * sg) else ((b_ : Rat) * sg)) then (if ((b_ : Rat) * sg) < 0 then -((b_ : Rat) * sg) else ((b_ : Rat) * sg)) else (if ((v_ : Rat) * sg) < 0 then -((v_ : Rat) * sg) else ((v_ : Rat) * sg))) := hd5 ▸ (IsV.max iv3 iv4)
  refine o_maxD X4 (w10 hw) (w11 hw) (w8 hw) (w12 hw) iv3.nn iv4.nn hd5 d_prog_11_method_2_15 rfl (by decide) (Nat.le_of_ble_eq_true rfl) (by decide) (by decide) (q := 18) rfl ?_
  intro T5 X5
  obtain ⟨d6, hd6⟩ : ∃ z : UInt64, (Jvm.Native.java_lang_Math.nans.pick64 true FP.dconst1 d5) = z := ⟨_, rfl⟩
  have iv6 : IsV d6 (sg * ((Mx v_ b_ L_ : Int) : Rat)) := hd6 ▸ ((IsV.max IsV.one iv5).eqv (own_M hs hL))
  refine o_maxD X5 (w10 hw) (w11 hw) (w8 hw) (w12 hw) IsV.one.nn iv5.nn hd6 d_prog_11_method_2_18 rfl (by decide) (Nat.le_of_ble_eq_true rfl) (by decide) (by decide) (q := 21) rfl ?_
  intro T6 X6
  have hK := own_KM hs hL hb h1
  obtain ⟨T_, iT, rT⟩ := IsV.mulR (show IsV _ KC from iv2) iv6 hK.2.2.2.2 hK.2.2.2.1
  obtain ⟨d7, hd7⟩ : ∃ z : UInt64, FP.dmul (4427486594234968593 : UInt64) d6 = z := ⟨_, rfl⟩
  have iv7 : IsV d7 T_ := hd7 ▸ iT
  refine o_dmul X6 d_prog_11_method_2_21 (hd7.symm ▸ iv7.nn) hd7 (q := 22) rfl ?_
  refine o_dcmp X6 d_prog_11_method_2_22 (w := (cmpR (((b_ : Rat) * sg) - ((v_ : Rat) * sg)) T_)) (IsV.cmpV iv1 iv7 _) (q := 23) rfl ?_
  by_cases hc23 : (0 : Int32) < (cmpR (((b_ : Rat) * sg) - ((v_ : Rat) * sg)) T_)
  · refine o_ifN X6 d_prog_11_method_2_23 (tlt hc23).2.2.2 (q := 26) rfl ?_
    refine o_iconst X6 d_prog_11_method_2_26 (w := 1) rfl (q := 27) rfl ?_
    refine o_goto X6 d_prog_11_method_2_27 (by decide) (q := 31) (by decide) ?_
    exact o_retN X6 d_prog_11_method_2_31 (by simp) ⟨T_, 1, rfl, rT, Or.inl ⟨rfl, (cmpR_gt _ _).mp hc23⟩, rfl⟩ (by decide) (by decide)
  · refine o_ifY X6 d_prog_11_method_2_23 (flt hc23).2.2.2 (by decide) (q := 30) (by decide) ?_
    refine o_iconst X6 d_prog_11_method_2_30 (w := 0) rfl (q := 31) rfl ?_
    exact o_retN X6 d_prog_11_method_2_31 (by simp) ⟨T_, 0, rfl, rT, Or.inr ⟨rfl, fun q => hc23 ((cmpR_gt _ _).mpr q)⟩, rfl⟩ (by decide) (by decide)
set_option maxRecDepth 65536 in
set_option maxHeartbeats 40000000 in
theorem c_law {l : Launch} {Z : State} {a0 : Array Value} (hw : W a0 Z) (p0 : Int64) (p1 p2 p3 : Int32)  :
    Con l Z x code maxLocals ret room_1 #[(.long p0), (.int p1), (.int p2), (.int p3)] Z.heap (fun v h' => v = some (.int 1)) := by
  have hpn : plainName "com/example/silvafront/silvafront/forest/RoundingFallsBelowPinLaw" = true := by first | (simp [plainName, overriddenIn]; done) | decide +kernel
  refine Con.intro (plainFor_of_name hpn) ?_
  intro p e s m below meth c T X
  refine Goes.cast (g' := mkF m 0 #[.val (.long p0), .second, .val (.int p1), .val (.int p2), .val (.int p3), .unset, .unset, .unset, .unset, .unset, .unset, .unset, .unset, .unset, .unset, .unset, .unset, .unset, .unset, .unset, .unset, .unset, .unset] []) (by first | (simp [entryFrame, mkF, argsToLocals, Value.category, maxLocals]; done) | rfl) ?_
  refine o_iloadN X at_0 rfl (q := 1) rfl ?_
  refine o_sipush X at_1 (w := 255) rfl (q := 4) rfl ?_
  refine o_iand X at_4 (w := (p1 &&& (255 : Int32))) rfl (q := 5) rfl ?_
  refine o_sipush X at_5 (w := 128) rfl (q := 8) rfl ?_
  refine o_isub X at_8 (w := ((p1 &&& (255 : Int32)) - (128 : Int32))) rfl (q := 9) rfl ?_
  refine o_i2l X at_9 (w := (((p1 &&& (255 : Int32)) - (128 : Int32)).toInt64)) rfl (q := 10) rfl ?_
  obtain ⟨dl, h_dl⟩ : ∃ z : Int64, (((p1 &&& (255 : Int32)) - (128 : Int32)).toInt64) = z := ⟨_, rfl⟩
  refine o_lstore X at_10 h_dl (L' := #[.val (.long p0), .second, .val (.int p1), .val (.int p2), .val (.int p3), .val (.long dl), .second, .unset, .unset, .unset, .unset, .unset, .unset, .unset, .unset, .unset, .unset, .unset, .unset, .unset, .unset, .unset, .unset]) rfl (q := 12) rfl ?_
  refine o_iload X at_12 rfl (q := 14) rfl ?_
  refine o_iconst X at_14 (w := 3) rfl (q := 15) rfl ?_
  refine o_iand X at_15 (w := (p3 &&& (3 : Int32))) rfl (q := 16) rfl ?_
  obtain ⟨md, h_md⟩ : ∃ z : Int32, (p3 &&& (3 : Int32)) = z := ⟨_, rfl⟩
  refine o_istore X at_16 h_md (L' := #[.val (.long p0), .second, .val (.int p1), .val (.int p2), .val (.int p3), .val (.long dl), .second, .val (.int md), .unset, .unset, .unset, .unset, .unset, .unset, .unset, .unset, .unset, .unset, .unset, .unset, .unset, .unset, .unset]) rfl (q := 18) rfl ?_
  refine o_iload X at_18 rfl (q := 20) rfl ?_
  refine o_iconst X at_20 (w := 4) rfl (q := 21) rfl ?_
  refine o_iand X at_21 (w := (p3 &&& (4 : Int32))) rfl (q := 22) rfl ?_
  by_cases hc22 : (p3 &&& (4 : Int32)) = (0 : Int32)
  · refine o_ifY X at_22 (teq hc22).1 (by decide) (q := 29) (by decide) ?_
    refine o_iconst X at_29 (w := 0) rfl (q := 30) rfl ?_
    refine o_istore X at_30 rfl (L' := #[.val (.long p0), .second, .val (.int p1), .val (.int p2), .val (.int p3), .val (.long dl), .second, .val (.int md), .val (.int (0 : Int32)), .unset, .unset, .unset, .unset, .unset, .unset, .unset, .unset, .unset, .unset, .unset, .unset, .unset, .unset]) rfl (q := 32) rfl ?_
    refine o_iload X at_32 rfl (q := 34) rfl ?_
    refine o_bipush X at_34 (w := 8) rfl (q := 36) rfl ?_
    refine o_iand X at_36 (w := (p3 &&& (8 : Int32))) rfl (q := 37) rfl ?_
    by_cases hc37 : (p3 &&& (8 : Int32)) = (0 : Int32)
    · refine o_ifY X at_37 (teq hc37).1 (by decide) (q := 44) (by decide) ?_
      refine o_iconst X at_44 (w := 0) rfl (q := 45) rfl ?_
      refine o_istore X at_45 rfl (L' := #[.val (.long p0), .second, .val (.int p1), .val (.int p2), .val (.int p3), .val (.long dl), .second, .val (.int md), .val (.int (0 : Int32)), .val (.int (0 : Int32)), .unset, .unset, .unset, .unset, .unset, .unset, .unset, .unset, .unset, .unset, .unset, .unset, .unset]) rfl (q := 47) rfl ?_
      refine o_iload X at_47 rfl (q := 49) rfl ?_
      by_cases hc49 : md = (0 : Int32)
      · refine o_ifN X at_49 (teq hc49).2 (q := 52) rfl ?_
        refine o_lloadN X at_52 rfl (q := 53) rfl ?_
        refine o_ldcJ X (w0 hw) at_53 (q := 56) rfl ?_
        refine o_land X at_56 (w := (p0 &&& (4503599627370495 : Int64))) rfl (q := 57) rfl ?_
        obtain ⟨mg, h_mg⟩ : ∃ z : Int64, (p0 &&& (4503599627370495 : Int64)) = z := ⟨_, rfl⟩
        refine o_lstore X at_57 h_mg (L' := #[.val (.long p0), .second, .val (.int p1), .val (.int p2), .val (.int p3), .val (.long dl), .second, .val (.int md), .val (.int (0 : Int32)), .val (.int (0 : Int32)), .val (.long mg), .second, .unset, .unset, .unset, .unset, .unset, .unset, .unset, .unset, .unset, .unset, .unset]) rfl (q := 59) rfl ?_
        refine o_goto X at_59 (by decide) (q := 113) (by decide) ?_
        refine o_iload X at_113 rfl (q := 115) rfl ?_
        have hmg : 0 ≤ mg.toInt ∧ mg.toInt < 4503599627370496 := own_mk h_mg (by decide) (k := 52) (by decide)
        refine o_ifY X at_115 (by decide) (by decide) (q := 124) (by decide) ?_
        refine o_lload X at_124 rfl (q := 126) rfl ?_
        obtain ⟨bb, h_bb⟩ : ∃ z : Int64, mg = z := ⟨_, rfl⟩
        refine o_lstore X at_126 h_bb (L' := #[.val (.long p0), .second, .val (.int p1), .val (.int p2), .val (.int p3), .val (.long dl), .second, .val (.int md), .val (.int (0 : Int32)), .val (.int (0 : Int32)), .val (.long mg), .second, .val (.long bb), .second, .unset, .unset, .unset, .unset, .unset, .unset, .unset, .unset, .unset]) rfl (q := 128) rfl ?_
        refine o_lload X at_128 rfl (q := 130) rfl ?_
        refine o_lload X at_130 rfl (q := 132) rfl ?_
        refine o_lsub X at_132 (w := (bb - dl)) rfl (q := 133) rfl ?_
        obtain ⟨vl, h_vl⟩ : ∃ z : Int64, (bb - dl) = z := ⟨_, rfl⟩
        refine o_lstore X at_133 h_vl (L' := #[.val (.long p0), .second, .val (.int p1), .val (.int p2), .val (.int p3), .val (.long dl), .second, .val (.int md), .val (.int (0 : Int32)), .val (.int (0 : Int32)), .val (.long mg), .second, .val (.long bb), .second, .val (.long vl), .second, .unset, .unset, .unset, .unset, .unset, .unset, .unset]) rfl (q := 135) rfl ?_
        refine o_iload X at_135 rfl (q := 137) rfl ?_
        have hbb : bb.toInt.natAbs < 4503599627370496 := by rw [← h_bb]; omega
        have hdl := own_dl h_dl
        have hvl := own_v hbb hdl h_vl
        refine o_ifY X at_137 (by decide) (by decide) (q := 146) (by decide) ?_
        refine o_dconst1 X at_146 (q := 147) rfl ?_
        refine o_dstore X at_147 rfl (L' := #[.val (.long p0), .second, .val (.int p1), .val (.int p2), .val (.int p3), .val (.long dl), .second, .val (.int md), .val (.int (0 : Int32)), .val (.int (0 : Int32)), .val (.long mg), .second, .val (.long bb), .second, .val (.long vl), .second, .val (.double FP.dconst1), .second, .unset, .unset, .unset, .unset, .unset]) rfl (q := 149) rfl ?_
        refine o_lload X at_149 rfl (q := 151) rfl ?_
        obtain ⟨d1, hd1⟩ : ∃ z : UInt64, FP.l2d vl = z := ⟨_, rfl⟩
        have iv1 : IsV d1 ((vl).toInt : Rat) := (hd1 ▸ IsV.l2d (by omega))
        refine o_l2d X at_151 hd1 (q := 152) rfl ?_
        refine o_dload X at_152 rfl (q := 154) rfl ?_
        obtain ⟨d2, hd2⟩ : ∃ z : UInt64, FP.dmul d1 FP.dconst1 = z := ⟨_, rfl⟩
        have iv2 : IsV d2 ((vl.toInt : Rat) * (1 : Rat)) := hd2 ▸ (IsV.mul iv1 IsV.one (own_rS 0 (by omega) (by decide) (by decide) (by decide +kernel)))
        refine o_dmul X at_154 (hd2.symm ▸ iv2.nn) hd2 (q := 155) rfl ?_
        refine o_lload X at_155 rfl (q := 157) rfl ?_
        obtain ⟨d3, hd3⟩ : ∃ z : UInt64, FP.l2d bb = z := ⟨_, rfl⟩
        have iv3 : IsV d3 ((bb).toInt : Rat) := (hd3 ▸ IsV.l2d (by omega))
        refine o_l2d X at_157 hd3 (q := 158) rfl ?_
        refine o_dload X at_158 rfl (q := 160) rfl ?_
        obtain ⟨d4, hd4⟩ : ∃ z : UInt64, FP.dmul d3 FP.dconst1 = z := ⟨_, rfl⟩
        have iv4 : IsV d4 ((bb.toInt : Rat) * (1 : Rat)) := hd4 ▸ (IsV.mul iv3 IsV.one (own_rS 0 (by omega) (by decide) (by decide) (by decide +kernel)))
        refine o_dmul X at_160 (hd4.symm ▸ iv4.nn) hd4 (q := 161) rfl ?_
        refine o_stat X [(.double d2), (.double d4)] (y' := (⟨"com/example/silvafront/silvafront/forest/Rounding", "fallsBelow", "(DD)Z"⟩ : MethodName)) (c_fb hw d2 d4 vl.toInt bb.toInt 1 (1 : Rat) _ iv2 iv4 (by decide +kernel) (by decide +kernel) (by decide +kernel) (by unfold Mx; omega) ((own_rS (n := bb.toInt - vl.toInt) 0 (by omega) (by decide) (by decide) (by decide +kernel)).eqv (own_E _ _ _).symm)) (w1 hw) (w2 hw) (w3 hw) (w4 hw) (by decide) at_161 (rest := []) rfl rfl (lenOf pd0 rfl) rfl (by decide) (Nat.le_of_ble_eq_true rfl) (by decide) (by decide) (q := 164) rfl ?_
        intro v5 T5 h5 l5 X5 q5
        obtain ⟨T_, g_, rfl, rT, hg, e5⟩ := q5
        have e5 := e5.symm
        subst e5
        show Goes p e below _ T5 (mkF m 164 #[.val (.long p0), .second, .val (.int p1), .val (.int p2), .val (.int p3), .val (.long dl), .second, .val (.int md), .val (.int (0 : Int32)), .val (.int (0 : Int32)), .val (.long mg), .second, .val (.long bb), .second, .val (.long vl), .second, .val (.double FP.dconst1), .second, .unset, .unset, .unset, .unset, .unset] [(.int g_)])
        refine o_istore X5 at_164 rfl (L' := #[.val (.long p0), .second, .val (.int p1), .val (.int p2), .val (.int p3), .val (.long dl), .second, .val (.int md), .val (.int (0 : Int32)), .val (.int (0 : Int32)), .val (.long mg), .second, .val (.long bb), .second, .val (.long vl), .second, .val (.double FP.dconst1), .second, .val (.int g_), .unset, .unset, .unset, .unset]) rfl (q := 166) rfl ?_
        refine o_lload X5 at_166 rfl (q := 168) rfl ?_
        refine o_stat X5 [(.long bb)] (y' := (⟨"java/lang/Math", "abs", "(J)J"⟩ : MethodName)) (c_absJ hw bb _) (w13 hw) (w14 hw) (w8 hw) (w15 hw) (by decide) at_168 (rest := []) rfl rfl (lenOf pd1 rfl) rfl (by decide) (Nat.le_of_ble_eq_true rfl) (by decide) (by decide) (q := 171) rfl ?_
        intro v6 T6 h6 l6 X6 q6
        obtain ⟨ab, rfl, h_ab, e6⟩ := q6
        have e6 := e6.symm
        subst e6
        show Goes p e below _ T6 (mkF m 171 #[.val (.long p0), .second, .val (.int p1), .val (.int p2), .val (.int p3), .val (.long dl), .second, .val (.int md), .val (.int (0 : Int32)), .val (.int (0 : Int32)), .val (.long mg), .second, .val (.long bb), .second, .val (.long vl), .second, .val (.double FP.dconst1), .second, .val (.int g_), .unset, .unset, .unset, .unset] [(.long ab)])
        refine o_lload X6 at_171 rfl (q := 173) rfl ?_
        refine o_stat X6 [(.long vl)] (y' := (⟨"java/lang/Math", "abs", "(J)J"⟩ : MethodName)) (c_absJ hw vl _) (w13 hw) (w14 hw) (w8 hw) (w15 hw) (by decide) at_173 (rest := [(.long ab)]) rfl rfl (lenOf pd1 rfl) rfl (by decide) (Nat.le_of_ble_eq_true rfl) (by decide) (by decide) (q := 176) rfl ?_
        intro v7 T7 h7 l7 X7 q7
        obtain ⟨av, rfl, h_av, e7⟩ := q7
        have e7 := e7.symm
        subst e7
        show Goes p e below _ T7 (mkF m 176 #[.val (.long p0), .second, .val (.int p1), .val (.int p2), .val (.int p3), .val (.long dl), .second, .val (.int md), .val (.int (0 : Int32)), .val (.int (0 : Int32)), .val (.long mg), .second, .val (.long bb), .second, .val (.long vl), .second, .val (.double FP.dconst1), .second, .val (.int g_), .unset, .unset, .unset, .unset] [(.long av), (.long ab)])
        refine o_stat X7 [(.long ab), (.long av)] (y' := (⟨"java/lang/Math", "max", "(JJ)J"⟩ : MethodName)) (c_maxJ hw ab av _) (w16 hw) (w17 hw) (w8 hw) (w18 hw) (by decide) at_176 (rest := []) rfl rfl (lenOf pd2 rfl) rfl (by decide) (Nat.le_of_ble_eq_true rfl) (by decide) (by decide) (q := 179) rfl ?_
        intro v8 T8 h8 l8 X8 q8
        obtain ⟨m0, rfl, h_m0, e8⟩ := q8
        have e8 := e8.symm
        subst e8
        show Goes p e below _ T8 (mkF m 179 #[.val (.long p0), .second, .val (.int p1), .val (.int p2), .val (.int p3), .val (.long dl), .second, .val (.int md), .val (.int (0 : Int32)), .val (.int (0 : Int32)), .val (.long mg), .second, .val (.long bb), .second, .val (.long vl), .second, .val (.double FP.dconst1), .second, .val (.int g_), .unset, .unset, .unset, .unset] [(.long m0)])
        refine o_iload X8 at_179 rfl (q := 181) rfl ?_
        refine o_ifY X8 at_181 (by decide) (by decide) (q := 190) (by decide) ?_
        refine o_lconst X8 at_190 (w := 1) rfl (q := 191) rfl ?_
        refine o_stat X8 [(.long m0), (.long (1 : Int64))] (y' := (⟨"java/lang/Math", "max", "(JJ)J"⟩ : MethodName)) (c_maxJ hw m0 (1 : Int64) _) (w16 hw) (w17 hw) (w8 hw) (w18 hw) (by decide) at_191 (rest := []) rfl rfl (lenOf pd2 rfl) rfl (by decide) (Nat.le_of_ble_eq_true rfl) (by decide) (by decide) (q := 194) rfl ?_
        intro v9 T9 h9 l9 X9 q9
        obtain ⟨ms, rfl, h_ms, e9⟩ := q9
        have e9 := e9.symm
        subst e9
        show Goes p e below _ T9 (mkF m 194 #[.val (.long p0), .second, .val (.int p1), .val (.int p2), .val (.int p3), .val (.long dl), .second, .val (.int md), .val (.int (0 : Int32)), .val (.int (0 : Int32)), .val (.long mg), .second, .val (.long bb), .second, .val (.long vl), .second, .val (.double FP.dconst1), .second, .val (.int g_), .unset, .unset, .unset, .unset] [(.long ms)])
        obtain ⟨ss, h_ss⟩ : ∃ z : Int64, ms = z := ⟨_, rfl⟩
        refine o_lstore X9 at_194 h_ss (L' := #[.val (.long p0), .second, .val (.int p1), .val (.int p2), .val (.int p3), .val (.long dl), .second, .val (.int md), .val (.int (0 : Int32)), .val (.int (0 : Int32)), .val (.long mg), .second, .val (.long bb), .second, .val (.long vl), .second, .val (.double FP.dconst1), .second, .val (.int g_), .val (.long ss), .second, .unset, .unset]) rfl (q := 196) rfl ?_
        refine o_lload X9 at_196 rfl (q := 198) rfl ?_
        refine o_ldcJ X9 (w19 hw) at_198 (q := 201) rfl ?_
        refine o_lmul X9 at_201 (w := (dl * (1000000000000 : Int64))) rfl (q := 202) rfl ?_
        obtain ⟨lh, h_lh⟩ : ∃ z : Int64, (dl * (1000000000000 : Int64)) = z := ⟨_, rfl⟩
        refine o_lstore X9 at_202 h_lh (L' := #[.val (.long p0), .second, .val (.int p1), .val (.int p2), .val (.int p3), .val (.long dl), .second, .val (.int md), .val (.int (0 : Int32)), .val (.int (0 : Int32)), .val (.long mg), .second, .val (.long bb), .second, .val (.long vl), .second, .val (.double FP.dconst1), .second, .val (.int g_), .val (.long ss), .second, .val (.long lh), .second]) rfl (q := 204) rfl ?_
        refine o_lload X9 at_204 rfl (q := 206) rfl ?_
        refine o_lload X9 at_206 rfl (q := 208) rfl ?_
        refine o_lsub X9 at_208 (w := (lh - ss)) rfl (q := 209) rfl ?_
        refine o_stat X9 [(.long (lh - ss))] (y' := (⟨"java/lang/Math", "abs", "(J)J"⟩ : MethodName)) (c_absJ hw (lh - ss) _) (w13 hw) (w14 hw) (w8 hw) (w15 hw) (by decide) at_209 (rest := []) rfl rfl (lenOf pd1 rfl) rfl (by decide) (Nat.le_of_ble_eq_true rfl) (by decide) (by decide) (q := 212) rfl ?_
        intro v10 T10 h10 l10 X10 q10
        obtain ⟨a4, rfl, h_a4, e10⟩ := q10
        have e10 := e10.symm
        subst e10
        show Goes p e below _ T10 (mkF m 212 #[.val (.long p0), .second, .val (.int p1), .val (.int p2), .val (.int p3), .val (.long dl), .second, .val (.int md), .val (.int (0 : Int32)), .val (.int (0 : Int32)), .val (.long mg), .second, .val (.long bb), .second, .val (.long vl), .second, .val (.double FP.dconst1), .second, .val (.int g_), .val (.long ss), .second, .val (.long lh), .second] [(.long a4)])
        refine o_ldcJ X10 (w20 hw) at_212 (q := 215) rfl ?_
        refine o_lcmp X10 at_215 (w := (lcmpW a4 (4 : Int64))) rfl (q := 216) rfl ?_
        by_cases hc216 : (0 : Int32) < (lcmpW a4 (4 : Int64))
        · refine o_ifY X10 at_216 (tlt hc216).2.2.1 (by decide) (q := 221) (by decide) ?_
          refine o_iload X10 at_221 rfl (q := 223) rfl ?_
          refine o_lload X10 at_223 rfl (q := 225) rfl ?_
          refine o_lload X10 at_225 rfl (q := 227) rfl ?_
          refine o_lcmp X10 at_227 (w := (lcmpW lh ss)) rfl (q := 228) rfl ?_
          have hss := own_ss hbb (by omega) (Lc := (1 : Int64)) (by decide) h_ab h_av h_m0 (h_ms.trans h_ss)
          have hlh := own_lh hdl h_lh
          have hcut := own_cut (l := lh) (s := ss) (by omega) hss.2 (by rw [h_a4]; exact hc216)
          have hfin := own_fin (D := bb.toInt - vl.toInt) (S := ss.toInt) (sg := (1 : Rat)) (T := T_) (by decide +kernel) hss.2.1 hss.2.2 (by rw [hss.1]; exact (rT.2.2 (own_KM (v := vl.toInt) (b := bb.toInt) (L := 1) (sg := (1 : Rat)) (by decide +kernel) (by decide +kernel) (by unfold Mx; omega) (by decide +kernel)).2.2.1).1) (by rw [hss.1]; exact (rT.2.2 (own_KM (v := vl.toInt) (b := bb.toInt) (L := 1) (sg := (1 : Rat)) (by decide +kernel) (by decide +kernel) (by unfold Mx; omega) (by decide +kernel)).2.2.1).2)
          rw [own_E] at hg
          by_cases hc228 : (0 : Int32) < (lcmpW lh ss)
          · refine o_ifN X10 at_228 (tlt hc228).2.2.2 (q := 231) rfl ?_
            refine o_iconst X10 at_231 (w := 1) rfl (q := 232) rfl ?_
            refine o_goto X10 at_232 (by decide) (q := 236) (by decide) ?_
            refine o_icmpN X10 at_236 (teq (own_g1 hg (hfin.1 (by have q := (lw_gt _ _).mp hc228; rw [Int64.lt_iff_toInt_lt] at q; omega)))).2 (q := 239) rfl ?_
            refine o_iconst X10 at_239 (w := 1) rfl (q := 240) rfl ?_
            refine o_goto X10 at_240 (by decide) (q := 244) (by decide) ?_
            exact o_retN X10 at_244 (by simp) rfl (by decide) (by decide)
          · refine o_ifY X10 at_228 (flt hc228).2.2.2 (by decide) (q := 235) (by decide) ?_
            refine o_iconst X10 at_235 (w := 0) rfl (q := 236) rfl ?_
            refine o_icmpN X10 at_236 (teq (own_g0 hg (hfin.2 (by have q : ¬ ss < lh := fun z => hc228 ((lw_gt _ _).mpr z); rw [Int64.lt_iff_toInt_lt] at q; omega)))).2 (q := 239) rfl ?_
            refine o_iconst X10 at_239 (w := 1) rfl (q := 240) rfl ?_
            refine o_goto X10 at_240 (by decide) (q := 244) (by decide) ?_
            exact o_retN X10 at_244 (by simp) rfl (by decide) (by decide)
        · refine o_ifN X10 at_216 (flt hc216).2.2.1 (q := 219) rfl ?_
          refine o_iconst X10 at_219 (w := 1) rfl (q := 220) rfl ?_
          exact o_retN X10 at_220 (by simp) rfl (by decide) (by decide)
      · refine o_ifY X at_49 (feq hc49).2 (by decide) (q := 62) (by decide) ?_
        refine o_iload X at_62 rfl (q := 64) rfl ?_
        refine o_iconst X at_64 (w := 1) rfl (q := 65) rfl ?_
        by_cases hc65 : md = (1 : Int32)
        · refine o_icmpN X at_65 (teq hc65).2 (q := 68) rfl ?_
          refine o_lloadN X at_68 rfl (q := 69) rfl ?_
          refine o_ldcJ X (w23 hw) at_69 (q := 72) rfl ?_
          refine o_land X at_72 (w := (p0 &&& (1048575 : Int64))) rfl (q := 73) rfl ?_
          obtain ⟨mg, h_mg⟩ : ∃ z : Int64, (p0 &&& (1048575 : Int64)) = z := ⟨_, rfl⟩
          refine o_lstore X at_73 h_mg (L' := #[.val (.long p0), .second, .val (.int p1), .val (.int p2), .val (.int p3), .val (.long dl), .second, .val (.int md), .val (.int (0 : Int32)), .val (.int (0 : Int32)), .val (.long mg), .second, .unset, .unset, .unset, .unset, .unset, .unset, .unset, .unset, .unset, .unset, .unset]) rfl (q := 75) rfl ?_
          refine o_goto X at_75 (by decide) (q := 113) (by decide) ?_
          refine o_iload X at_113 rfl (q := 115) rfl ?_
          have hmg : 0 ≤ mg.toInt ∧ mg.toInt < 4503599627370496 := (fun q : 0 ≤ mg.toInt ∧ mg.toInt < (2 ^ 20 : Nat) => (⟨q.1, by omega⟩ : 0 ≤ mg.toInt ∧ mg.toInt < 4503599627370496)) (own_mk h_mg (by decide) (k := 20) (by decide))
          refine o_ifY X at_115 (by decide) (by decide) (q := 124) (by decide) ?_
          refine o_lload X at_124 rfl (q := 126) rfl ?_
          obtain ⟨bb, h_bb⟩ : ∃ z : Int64, mg = z := ⟨_, rfl⟩
          refine o_lstore X at_126 h_bb (L' := #[.val (.long p0), .second, .val (.int p1), .val (.int p2), .val (.int p3), .val (.long dl), .second, .val (.int md), .val (.int (0 : Int32)), .val (.int (0 : Int32)), .val (.long mg), .second, .val (.long bb), .second, .unset, .unset, .unset, .unset, .unset, .unset, .unset, .unset, .unset]) rfl (q := 128) rfl ?_
          refine o_lload X at_128 rfl (q := 130) rfl ?_
          refine o_lload X at_130 rfl (q := 132) rfl ?_
          refine o_lsub X at_132 (w := (bb - dl)) rfl (q := 133) rfl ?_
          obtain ⟨vl, h_vl⟩ : ∃ z : Int64, (bb - dl) = z := ⟨_, rfl⟩
          refine o_lstore X at_133 h_vl (L' := #[.val (.long p0), .second, .val (.int p1), .val (.int p2), .val (.int p3), .val (.long dl), .second, .val (.int md), .val (.int (0 : Int32)), .val (.int (0 : Int32)), .val (.long mg), .second, .val (.long bb), .second, .val (.long vl), .second, .unset, .unset, .unset, .unset, .unset, .unset, .unset]) rfl (q := 135) rfl ?_
          refine o_iload X at_135 rfl (q := 137) rfl ?_
          have hbb : bb.toInt.natAbs < 4503599627370496 := by rw [← h_bb]; omega
          have hdl := own_dl h_dl
          have hvl := own_v hbb hdl h_vl
          refine o_ifY X at_137 (by decide) (by decide) (q := 146) (by decide) ?_
          refine o_dconst1 X at_146 (q := 147) rfl ?_
          refine o_dstore X at_147 rfl (L' := #[.val (.long p0), .second, .val (.int p1), .val (.int p2), .val (.int p3), .val (.long dl), .second, .val (.int md), .val (.int (0 : Int32)), .val (.int (0 : Int32)), .val (.long mg), .second, .val (.long bb), .second, .val (.long vl), .second, .val (.double FP.dconst1), .second, .unset, .unset, .unset, .unset, .unset]) rfl (q := 149) rfl ?_
          refine o_lload X at_149 rfl (q := 151) rfl ?_
          obtain ⟨d11, hd11⟩ : ∃ z : UInt64, FP.l2d vl = z := ⟨_, rfl⟩
          have iv11 : IsV d11 ((vl).toInt : Rat) := (hd11 ▸ IsV.l2d (by omega))
          refine o_l2d X at_151 hd11 (q := 152) rfl ?_
          refine o_dload X at_152 rfl (q := 154) rfl ?_
          obtain ⟨d12, hd12⟩ : ∃ z : UInt64, FP.dmul d11 FP.dconst1 = z := ⟨_, rfl⟩
          have iv12 : IsV d12 ((vl.toInt : Rat) * (1 : Rat)) := hd12 ▸ (IsV.mul iv11 IsV.one (own_rS 0 (by omega) (by decide) (by decide) (by decide +kernel)))
          refine o_dmul X at_154 (hd12.symm ▸ iv12.nn) hd12 (q := 155) rfl ?_
          refine o_lload X at_155 rfl (q := 157) rfl ?_
          obtain ⟨d13, hd13⟩ : ∃ z : UInt64, FP.l2d bb = z := ⟨_, rfl⟩
          have iv13 : IsV d13 ((bb).toInt : Rat) := (hd13 ▸ IsV.l2d (by omega))
          refine o_l2d X at_157 hd13 (q := 158) rfl ?_
          refine o_dload X at_158 rfl (q := 160) rfl ?_
          obtain ⟨d14, hd14⟩ : ∃ z : UInt64, FP.dmul d13 FP.dconst1 = z := ⟨_, rfl⟩
          have iv14 : IsV d14 ((bb.toInt : Rat) * (1 : Rat)) := hd14 ▸ (IsV.mul iv13 IsV.one (own_rS 0 (by omega) (by decide) (by decide) (by decide +kernel)))
          refine o_dmul X at_160 (hd14.symm ▸ iv14.nn) hd14 (q := 161) rfl ?_
          refine o_stat X [(.double d12), (.double d14)] (y' := (⟨"com/example/silvafront/silvafront/forest/Rounding", "fallsBelow", "(DD)Z"⟩ : MethodName)) (c_fb hw d12 d14 vl.toInt bb.toInt 1 (1 : Rat) _ iv12 iv14 (by decide +kernel) (by decide +kernel) (by decide +kernel) (by unfold Mx; omega) ((own_rS (n := bb.toInt - vl.toInt) 0 (by omega) (by decide) (by decide) (by decide +kernel)).eqv (own_E _ _ _).symm)) (w1 hw) (w2 hw) (w3 hw) (w4 hw) (by decide) at_161 (rest := []) rfl rfl (lenOf pd0 rfl) rfl (by decide) (Nat.le_of_ble_eq_true rfl) (by decide) (by decide) (q := 164) rfl ?_
          intro v15 T15 h15 l15 X15 q15
          obtain ⟨T_, g_, rfl, rT, hg, e15⟩ := q15
          have e15 := e15.symm
          subst e15
          show Goes p e below _ T15 (mkF m 164 #[.val (.long p0), .second, .val (.int p1), .val (.int p2), .val (.int p3), .val (.long dl), .second, .val (.int md), .val (.int (0 : Int32)), .val (.int (0 : Int32)), .val (.long mg), .second, .val (.long bb), .second, .val (.long vl), .second, .val (.double FP.dconst1), .second, .unset, .unset, .unset, .unset, .unset] [(.int g_)])
          refine o_istore X15 at_164 rfl (L' := #[.val (.long p0), .second, .val (.int p1), .val (.int p2), .val (.int p3), .val (.long dl), .second, .val (.int md), .val (.int (0 : Int32)), .val (.int (0 : Int32)), .val (.long mg), .second, .val (.long bb), .second, .val (.long vl), .second, .val (.double FP.dconst1), .second, .val (.int g_), .unset, .unset, .unset, .unset]) rfl (q := 166) rfl ?_
          refine o_lload X15 at_166 rfl (q := 168) rfl ?_
          refine o_stat X15 [(.long bb)] (y' := (⟨"java/lang/Math", "abs", "(J)J"⟩ : MethodName)) (c_absJ hw bb _) (w13 hw) (w14 hw) (w8 hw) (w15 hw) (by decide) at_168 (rest := []) rfl rfl (lenOf pd1 rfl) rfl (by decide) (Nat.le_of_ble_eq_true rfl) (by decide) (by decide) (q := 171) rfl ?_
          intro v16 T16 h16 l16 X16 q16
          obtain ⟨ab, rfl, h_ab, e16⟩ := q16
          have e16 := e16.symm
          subst e16
          show Goes p e below _ T16 (mkF m 171 #[.val (.long p0), .second, .val (.int p1), .val (.int p2), .val (.int p3), .val (.long dl), .second, .val (.int md), .val (.int (0 : Int32)), .val (.int (0 : Int32)), .val (.long mg), .second, .val (.long bb), .second, .val (.long vl), .second, .val (.double FP.dconst1), .second, .val (.int g_), .unset, .unset, .unset, .unset] [(.long ab)])
          refine o_lload X16 at_171 rfl (q := 173) rfl ?_
          refine o_stat X16 [(.long vl)] (y' := (⟨"java/lang/Math", "abs", "(J)J"⟩ : MethodName)) (c_absJ hw vl _) (w13 hw) (w14 hw) (w8 hw) (w15 hw) (by decide) at_173 (rest := [(.long ab)]) rfl rfl (lenOf pd1 rfl) rfl (by decide) (Nat.le_of_ble_eq_true rfl) (by decide) (by decide) (q := 176) rfl ?_
          intro v17 T17 h17 l17 X17 q17
          obtain ⟨av, rfl, h_av, e17⟩ := q17
          have e17 := e17.symm
          subst e17
          show Goes p e below _ T17 (mkF m 176 #[.val (.long p0), .second, .val (.int p1), .val (.int p2), .val (.int p3), .val (.long dl), .second, .val (.int md), .val (.int (0 : Int32)), .val (.int (0 : Int32)), .val (.long mg), .second, .val (.long bb), .second, .val (.long vl), .second, .val (.double FP.dconst1), .second, .val (.int g_), .unset, .unset, .unset, .unset] [(.long av), (.long ab)])
          refine o_stat X17 [(.long ab), (.long av)] (y' := (⟨"java/lang/Math", "max", "(JJ)J"⟩ : MethodName)) (c_maxJ hw ab av _) (w16 hw) (w17 hw) (w8 hw) (w18 hw) (by decide) at_176 (rest := []) rfl rfl (lenOf pd2 rfl) rfl (by decide) (Nat.le_of_ble_eq_true rfl) (by decide) (by decide) (q := 179) rfl ?_
          intro v18 T18 h18 l18 X18 q18
          obtain ⟨m0, rfl, h_m0, e18⟩ := q18
          have e18 := e18.symm
          subst e18
          show Goes p e below _ T18 (mkF m 179 #[.val (.long p0), .second, .val (.int p1), .val (.int p2), .val (.int p3), .val (.long dl), .second, .val (.int md), .val (.int (0 : Int32)), .val (.int (0 : Int32)), .val (.long mg), .second, .val (.long bb), .second, .val (.long vl), .second, .val (.double FP.dconst1), .second, .val (.int g_), .unset, .unset, .unset, .unset] [(.long m0)])
          refine o_iload X18 at_179 rfl (q := 181) rfl ?_
          refine o_ifY X18 at_181 (by decide) (by decide) (q := 190) (by decide) ?_
          refine o_lconst X18 at_190 (w := 1) rfl (q := 191) rfl ?_
          refine o_stat X18 [(.long m0), (.long (1 : Int64))] (y' := (⟨"java/lang/Math", "max", "(JJ)J"⟩ : MethodName)) (c_maxJ hw m0 (1 : Int64) _) (w16 hw) (w17 hw) (w8 hw) (w18 hw) (by decide) at_191 (rest := []) rfl rfl (lenOf pd2 rfl) rfl (by decide) (Nat.le_of_ble_eq_true rfl) (by decide) (by decide) (q := 194) rfl ?_
          intro v19 T19 h19 l19 X19 q19
          obtain ⟨ms, rfl, h_ms, e19⟩ := q19
          have e19 := e19.symm
          subst e19
          show Goes p e below _ T19 (mkF m 194 #[.val (.long p0), .second, .val (.int p1), .val (.int p2), .val (.int p3), .val (.long dl), .second, .val (.int md), .val (.int (0 : Int32)), .val (.int (0 : Int32)), .val (.long mg), .second, .val (.long bb), .second, .val (.long vl), .second, .val (.double FP.dconst1), .second, .val (.int g_), .unset, .unset, .unset, .unset] [(.long ms)])
          obtain ⟨ss, h_ss⟩ : ∃ z : Int64, ms = z := ⟨_, rfl⟩
          refine o_lstore X19 at_194 h_ss (L' := #[.val (.long p0), .second, .val (.int p1), .val (.int p2), .val (.int p3), .val (.long dl), .second, .val (.int md), .val (.int (0 : Int32)), .val (.int (0 : Int32)), .val (.long mg), .second, .val (.long bb), .second, .val (.long vl), .second, .val (.double FP.dconst1), .second, .val (.int g_), .val (.long ss), .second, .unset, .unset]) rfl (q := 196) rfl ?_
          refine o_lload X19 at_196 rfl (q := 198) rfl ?_
          refine o_ldcJ X19 (w19 hw) at_198 (q := 201) rfl ?_
          refine o_lmul X19 at_201 (w := (dl * (1000000000000 : Int64))) rfl (q := 202) rfl ?_
          obtain ⟨lh, h_lh⟩ : ∃ z : Int64, (dl * (1000000000000 : Int64)) = z := ⟨_, rfl⟩
          refine o_lstore X19 at_202 h_lh (L' := #[.val (.long p0), .second, .val (.int p1), .val (.int p2), .val (.int p3), .val (.long dl), .second, .val (.int md), .val (.int (0 : Int32)), .val (.int (0 : Int32)), .val (.long mg), .second, .val (.long bb), .second, .val (.long vl), .second, .val (.double FP.dconst1), .second, .val (.int g_), .val (.long ss), .second, .val (.long lh), .second]) rfl (q := 204) rfl ?_
          refine o_lload X19 at_204 rfl (q := 206) rfl ?_
          refine o_lload X19 at_206 rfl (q := 208) rfl ?_
          refine o_lsub X19 at_208 (w := (lh - ss)) rfl (q := 209) rfl ?_
          refine o_stat X19 [(.long (lh - ss))] (y' := (⟨"java/lang/Math", "abs", "(J)J"⟩ : MethodName)) (c_absJ hw (lh - ss) _) (w13 hw) (w14 hw) (w8 hw) (w15 hw) (by decide) at_209 (rest := []) rfl rfl (lenOf pd1 rfl) rfl (by decide) (Nat.le_of_ble_eq_true rfl) (by decide) (by decide) (q := 212) rfl ?_
          intro v20 T20 h20 l20 X20 q20
          obtain ⟨a4, rfl, h_a4, e20⟩ := q20
          have e20 := e20.symm
          subst e20
          show Goes p e below _ T20 (mkF m 212 #[.val (.long p0), .second, .val (.int p1), .val (.int p2), .val (.int p3), .val (.long dl), .second, .val (.int md), .val (.int (0 : Int32)), .val (.int (0 : Int32)), .val (.long mg), .second, .val (.long bb), .second, .val (.long vl), .second, .val (.double FP.dconst1), .second, .val (.int g_), .val (.long ss), .second, .val (.long lh), .second] [(.long a4)])
          refine o_ldcJ X20 (w20 hw) at_212 (q := 215) rfl ?_
          refine o_lcmp X20 at_215 (w := (lcmpW a4 (4 : Int64))) rfl (q := 216) rfl ?_
          by_cases hc216 : (0 : Int32) < (lcmpW a4 (4 : Int64))
          · refine o_ifY X20 at_216 (tlt hc216).2.2.1 (by decide) (q := 221) (by decide) ?_
            refine o_iload X20 at_221 rfl (q := 223) rfl ?_
            refine o_lload X20 at_223 rfl (q := 225) rfl ?_
            refine o_lload X20 at_225 rfl (q := 227) rfl ?_
            refine o_lcmp X20 at_227 (w := (lcmpW lh ss)) rfl (q := 228) rfl ?_
            have hss := own_ss hbb (by omega) (Lc := (1 : Int64)) (by decide) h_ab h_av h_m0 (h_ms.trans h_ss)
            have hlh := own_lh hdl h_lh
            have hcut := own_cut (l := lh) (s := ss) (by omega) hss.2 (by rw [h_a4]; exact hc216)
            have hfin := own_fin (D := bb.toInt - vl.toInt) (S := ss.toInt) (sg := (1 : Rat)) (T := T_) (by decide +kernel) hss.2.1 hss.2.2 (by rw [hss.1]; exact (rT.2.2 (own_KM (v := vl.toInt) (b := bb.toInt) (L := 1) (sg := (1 : Rat)) (by decide +kernel) (by decide +kernel) (by unfold Mx; omega) (by decide +kernel)).2.2.1).1) (by rw [hss.1]; exact (rT.2.2 (own_KM (v := vl.toInt) (b := bb.toInt) (L := 1) (sg := (1 : Rat)) (by decide +kernel) (by decide +kernel) (by unfold Mx; omega) (by decide +kernel)).2.2.1).2)
            rw [own_E] at hg
            by_cases hc228 : (0 : Int32) < (lcmpW lh ss)
            · refine o_ifN X20 at_228 (tlt hc228).2.2.2 (q := 231) rfl ?_
              refine o_iconst X20 at_231 (w := 1) rfl (q := 232) rfl ?_
              refine o_goto X20 at_232 (by decide) (q := 236) (by decide) ?_
              refine o_icmpN X20 at_236 (teq (own_g1 hg (hfin.1 (by have q := (lw_gt _ _).mp hc228; rw [Int64.lt_iff_toInt_lt] at q; omega)))).2 (q := 239) rfl ?_
              refine o_iconst X20 at_239 (w := 1) rfl (q := 240) rfl ?_
              refine o_goto X20 at_240 (by decide) (q := 244) (by decide) ?_
              exact o_retN X20 at_244 (by simp) rfl (by decide) (by decide)
            · refine o_ifY X20 at_228 (flt hc228).2.2.2 (by decide) (q := 235) (by decide) ?_
              refine o_iconst X20 at_235 (w := 0) rfl (q := 236) rfl ?_
              refine o_icmpN X20 at_236 (teq (own_g0 hg (hfin.2 (by have q : ¬ ss < lh := fun z => hc228 ((lw_gt _ _).mpr z); rw [Int64.lt_iff_toInt_lt] at q; omega)))).2 (q := 239) rfl ?_
              refine o_iconst X20 at_239 (w := 1) rfl (q := 240) rfl ?_
              refine o_goto X20 at_240 (by decide) (q := 244) (by decide) ?_
              exact o_retN X20 at_244 (by simp) rfl (by decide) (by decide)
          · refine o_ifN X20 at_216 (flt hc216).2.2.1 (q := 219) rfl ?_
            refine o_iconst X20 at_219 (w := 1) rfl (q := 220) rfl ?_
            exact o_retN X20 at_220 (by simp) rfl (by decide) (by decide)
        · refine o_icmpY X at_65 (feq hc65).2 (by decide) (q := 78) (by decide) ?_
          refine o_lload X at_78 rfl (q := 80) rfl ?_
          refine o_iload X at_80 rfl (q := 82) rfl ?_
          refine o_iconst X at_82 (w := 4) rfl (q := 83) rfl ?_
          refine o_ishr X at_83 (w := (p3 >>> ((4 : Int32) &&& 31))) rfl (q := 84) rfl ?_
          refine o_iconst X at_84 (w := 3) rfl (q := 85) rfl ?_
          refine o_iand X at_85 (w := ((p3 >>> ((4 : Int32) &&& 31)) &&& (3 : Int32))) rfl (q := 86) rfl ?_
          refine o_iconst X at_86 (w := 1) rfl (q := 87) rfl ?_
          refine o_isub X at_87 (w := (((p3 >>> ((4 : Int32) &&& 31)) &&& (3 : Int32)) - (1 : Int32))) rfl (q := 88) rfl ?_
          refine o_i2l X at_88 (w := ((((p3 >>> ((4 : Int32) &&& 31)) &&& (3 : Int32)) - (1 : Int32)).toInt64)) rfl (q := 89) rfl ?_
          refine o_ladd X at_89 (w := (dl + ((((p3 >>> ((4 : Int32) &&& 31)) &&& (3 : Int32)) - (1 : Int32)).toInt64))) rfl (q := 90) rfl ?_
          obtain ⟨dd_, h_dd_⟩ : ∃ z : Int64, (dl + ((((p3 >>> ((4 : Int32) &&& 31)) &&& (3 : Int32)) - (1 : Int32)).toInt64)) = z := ⟨_, rfl⟩
          refine o_lstore X at_90 h_dd_ (L' := #[.val (.long p0), .second, .val (.int p1), .val (.int p2), .val (.int p3), .val (.long dl), .second, .val (.int md), .val (.int (0 : Int32)), .val (.int (0 : Int32)), .unset, .unset, .val (.long dd_), .second, .unset, .unset, .unset, .unset, .unset, .unset, .unset, .unset, .unset]) rfl (q := 92) rfl ?_
          refine o_iloadN X at_92 rfl (q := 93) rfl ?_
          refine o_bipush X at_93 (w := 11) rfl (q := 95) rfl ?_
          refine o_ishr X at_95 (w := (p2 >>> ((11 : Int32) &&& 31))) rfl (q := 96) rfl ?_
          refine o_i2l X at_96 (w := ((p2 >>> ((11 : Int32) &&& 31)).toInt64)) rfl (q := 97) rfl ?_
          obtain ⟨of_, h_of_⟩ : ∃ z : Int64, ((p2 >>> ((11 : Int32) &&& 31)).toInt64) = z := ⟨_, rfl⟩
          refine o_lstore X at_97 h_of_ (L' := #[.val (.long p0), .second, .val (.int p1), .val (.int p2), .val (.int p3), .val (.long dl), .second, .val (.int md), .val (.int (0 : Int32)), .val (.int (0 : Int32)), .unset, .unset, .val (.long dd_), .second, .val (.long of_), .second, .unset, .unset, .unset, .unset, .unset, .unset, .unset]) rfl (q := 99) rfl ?_
          refine o_lload X at_99 rfl (q := 101) rfl ?_
          refine o_ldcJ X (w19 hw) at_101 (q := 104) rfl ?_
          refine o_lmul X at_104 (w := (dd_ * (1000000000000 : Int64))) rfl (q := 105) rfl ?_
          refine o_lload X at_105 rfl (q := 107) rfl ?_
          refine o_ladd X at_107 (w := ((dd_ * (1000000000000 : Int64)) + of_)) rfl (q := 108) rfl ?_
          refine o_stat X [(.long ((dd_ * (1000000000000 : Int64)) + of_))] (y' := (⟨"java/lang/Math", "abs", "(J)J"⟩ : MethodName)) (c_absJ hw ((dd_ * (1000000000000 : Int64)) + of_) _) (w13 hw) (w14 hw) (w8 hw) (w15 hw) (by decide) at_108 (rest := []) rfl rfl (lenOf pd1 rfl) rfl (by decide) (Nat.le_of_ble_eq_true rfl) (by decide) (by decide) (q := 111) rfl ?_
          intro v21 T21 h21 l21 X21 q21
          obtain ⟨m2, rfl, h_m2, e21⟩ := q21
          have e21 := e21.symm
          subst e21
          show Goes p e below _ T21 (mkF m 111 #[.val (.long p0), .second, .val (.int p1), .val (.int p2), .val (.int p3), .val (.long dl), .second, .val (.int md), .val (.int (0 : Int32)), .val (.int (0 : Int32)), .unset, .unset, .val (.long dd_), .second, .val (.long of_), .second, .unset, .unset, .unset, .unset, .unset, .unset, .unset] [(.long m2)])
          obtain ⟨mg, h_mg⟩ : ∃ z : Int64, m2 = z := ⟨_, rfl⟩
          refine o_lstore X21 at_111 h_mg (L' := #[.val (.long p0), .second, .val (.int p1), .val (.int p2), .val (.int p3), .val (.long dl), .second, .val (.int md), .val (.int (0 : Int32)), .val (.int (0 : Int32)), .val (.long mg), .second, .val (.long dd_), .second, .val (.long of_), .second, .unset, .unset, .unset, .unset, .unset, .unset, .unset]) rfl (q := 113) rfl ?_
          refine o_iload X21 at_113 rfl (q := 115) rfl ?_
          have hmg : 0 ≤ mg.toInt ∧ mg.toInt < 4503599627370496 := h_mg ▸ own_md (own_dl h_dl) rfl h_dd_ h_of_ rfl h_m2
          refine o_ifY X21 at_115 (by decide) (by decide) (q := 124) (by decide) ?_
          refine o_lload X21 at_124 rfl (q := 126) rfl ?_
          obtain ⟨bb, h_bb⟩ : ∃ z : Int64, mg = z := ⟨_, rfl⟩
          refine o_lstore X21 at_126 h_bb (L' := #[.val (.long p0), .second, .val (.int p1), .val (.int p2), .val (.int p3), .val (.long dl), .second, .val (.int md), .val (.int (0 : Int32)), .val (.int (0 : Int32)), .val (.long mg), .second, .val (.long bb), .second, .val (.long of_), .second, .unset, .unset, .unset, .unset, .unset, .unset, .unset]) rfl (q := 128) rfl ?_
          refine o_lload X21 at_128 rfl (q := 130) rfl ?_
          refine o_lload X21 at_130 rfl (q := 132) rfl ?_
          refine o_lsub X21 at_132 (w := (bb - dl)) rfl (q := 133) rfl ?_
          obtain ⟨vl, h_vl⟩ : ∃ z : Int64, (bb - dl) = z := ⟨_, rfl⟩
          refine o_lstore X21 at_133 h_vl (L' := #[.val (.long p0), .second, .val (.int p1), .val (.int p2), .val (.int p3), .val (.long dl), .second, .val (.int md), .val (.int (0 : Int32)), .val (.int (0 : Int32)), .val (.long mg), .second, .val (.long bb), .second, .val (.long vl), .second, .unset, .unset, .unset, .unset, .unset, .unset, .unset]) rfl (q := 135) rfl ?_
          refine o_iload X21 at_135 rfl (q := 137) rfl ?_
          have hbb : bb.toInt.natAbs < 4503599627370496 := by rw [← h_bb]; omega
          have hdl := own_dl h_dl
          have hvl := own_v hbb hdl h_vl
          refine o_ifY X21 at_137 (by decide) (by decide) (q := 146) (by decide) ?_
          refine o_dconst1 X21 at_146 (q := 147) rfl ?_
          refine o_dstore X21 at_147 rfl (L' := #[.val (.long p0), .second, .val (.int p1), .val (.int p2), .val (.int p3), .val (.long dl), .second, .val (.int md), .val (.int (0 : Int32)), .val (.int (0 : Int32)), .val (.long mg), .second, .val (.long bb), .second, .val (.long vl), .second, .val (.double FP.dconst1), .second, .unset, .unset, .unset, .unset, .unset]) rfl (q := 149) rfl ?_
          refine o_lload X21 at_149 rfl (q := 151) rfl ?_
          obtain ⟨d22, hd22⟩ : ∃ z : UInt64, FP.l2d vl = z := ⟨_, rfl⟩
          have iv22 : IsV d22 ((vl).toInt : Rat) := (hd22 ▸ IsV.l2d (by omega))
          refine o_l2d X21 at_151 hd22 (q := 152) rfl ?_
          refine o_dload X21 at_152 rfl (q := 154) rfl ?_
          obtain ⟨d23, hd23⟩ : ∃ z : UInt64, FP.dmul d22 FP.dconst1 = z := ⟨_, rfl⟩
          have iv23 : IsV d23 ((vl.toInt : Rat) * (1 : Rat)) := hd23 ▸ (IsV.mul iv22 IsV.one (own_rS 0 (by omega) (by decide) (by decide) (by decide +kernel)))
          refine o_dmul X21 at_154 (hd23.symm ▸ iv23.nn) hd23 (q := 155) rfl ?_
          refine o_lload X21 at_155 rfl (q := 157) rfl ?_
          obtain ⟨d24, hd24⟩ : ∃ z : UInt64, FP.l2d bb = z := ⟨_, rfl⟩
          have iv24 : IsV d24 ((bb).toInt : Rat) := (hd24 ▸ IsV.l2d (by omega))
          refine o_l2d X21 at_157 hd24 (q := 158) rfl ?_
          refine o_dload X21 at_158 rfl (q := 160) rfl ?_
          obtain ⟨d25, hd25⟩ : ∃ z : UInt64, FP.dmul d24 FP.dconst1 = z := ⟨_, rfl⟩
          have iv25 : IsV d25 ((bb.toInt : Rat) * (1 : Rat)) := hd25 ▸ (IsV.mul iv24 IsV.one (own_rS 0 (by omega) (by decide) (by decide) (by decide +kernel)))
          refine o_dmul X21 at_160 (hd25.symm ▸ iv25.nn) hd25 (q := 161) rfl ?_
          refine o_stat X21 [(.double d23), (.double d25)] (y' := (⟨"com/example/silvafront/silvafront/forest/Rounding", "fallsBelow", "(DD)Z"⟩ : MethodName)) (c_fb hw d23 d25 vl.toInt bb.toInt 1 (1 : Rat) _ iv23 iv25 (by decide +kernel) (by decide +kernel) (by decide +kernel) (by unfold Mx; omega) ((own_rS (n := bb.toInt - vl.toInt) 0 (by omega) (by decide) (by decide) (by decide +kernel)).eqv (own_E _ _ _).symm)) (w1 hw) (w2 hw) (w3 hw) (w4 hw) (by decide) at_161 (rest := []) rfl rfl (lenOf pd0 rfl) rfl (by decide) (Nat.le_of_ble_eq_true rfl) (by decide) (by decide) (q := 164) rfl ?_
          intro v26 T26 h26 l26 X26 q26
          obtain ⟨T_, g_, rfl, rT, hg, e26⟩ := q26
          have e26 := e26.symm
          subst e26
          show Goes p e below _ T26 (mkF m 164 #[.val (.long p0), .second, .val (.int p1), .val (.int p2), .val (.int p3), .val (.long dl), .second, .val (.int md), .val (.int (0 : Int32)), .val (.int (0 : Int32)), .val (.long mg), .second, .val (.long bb), .second, .val (.long vl), .second, .val (.double FP.dconst1), .second, .unset, .unset, .unset, .unset, .unset] [(.int g_)])
          refine o_istore X26 at_164 rfl (L' := #[.val (.long p0), .second, .val (.int p1), .val (.int p2), .val (.int p3), .val (.long dl), .second, .val (.int md), .val (.int (0 : Int32)), .val (.int (0 : Int32)), .val (.long mg), .second, .val (.long bb), .second, .val (.long vl), .second, .val (.double FP.dconst1), .second, .val (.int g_), .unset, .unset, .unset, .unset]) rfl (q := 166) rfl ?_
          refine o_lload X26 at_166 rfl (q := 168) rfl ?_
          refine o_stat X26 [(.long bb)] (y' := (⟨"java/lang/Math", "abs", "(J)J"⟩ : MethodName)) (c_absJ hw bb _) (w13 hw) (w14 hw) (w8 hw) (w15 hw) (by decide) at_168 (rest := []) rfl rfl (lenOf pd1 rfl) rfl (by decide) (Nat.le_of_ble_eq_true rfl) (by decide) (by decide) (q := 171) rfl ?_
          intro v27 T27 h27 l27 X27 q27
          obtain ⟨ab, rfl, h_ab, e27⟩ := q27
          have e27 := e27.symm
          subst e27
          show Goes p e below _ T27 (mkF m 171 #[.val (.long p0), .second, .val (.int p1), .val (.int p2), .val (.int p3), .val (.long dl), .second, .val (.int md), .val (.int (0 : Int32)), .val (.int (0 : Int32)), .val (.long mg), .second, .val (.long bb), .second, .val (.long vl), .second, .val (.double FP.dconst1), .second, .val (.int g_), .unset, .unset, .unset, .unset] [(.long ab)])
          refine o_lload X27 at_171 rfl (q := 173) rfl ?_
          refine o_stat X27 [(.long vl)] (y' := (⟨"java/lang/Math", "abs", "(J)J"⟩ : MethodName)) (c_absJ hw vl _) (w13 hw) (w14 hw) (w8 hw) (w15 hw) (by decide) at_173 (rest := [(.long ab)]) rfl rfl (lenOf pd1 rfl) rfl (by decide) (Nat.le_of_ble_eq_true rfl) (by decide) (by decide) (q := 176) rfl ?_
          intro v28 T28 h28 l28 X28 q28
          obtain ⟨av, rfl, h_av, e28⟩ := q28
          have e28 := e28.symm
          subst e28
          show Goes p e below _ T28 (mkF m 176 #[.val (.long p0), .second, .val (.int p1), .val (.int p2), .val (.int p3), .val (.long dl), .second, .val (.int md), .val (.int (0 : Int32)), .val (.int (0 : Int32)), .val (.long mg), .second, .val (.long bb), .second, .val (.long vl), .second, .val (.double FP.dconst1), .second, .val (.int g_), .unset, .unset, .unset, .unset] [(.long av), (.long ab)])
          refine o_stat X28 [(.long ab), (.long av)] (y' := (⟨"java/lang/Math", "max", "(JJ)J"⟩ : MethodName)) (c_maxJ hw ab av _) (w16 hw) (w17 hw) (w8 hw) (w18 hw) (by decide) at_176 (rest := []) rfl rfl (lenOf pd2 rfl) rfl (by decide) (Nat.le_of_ble_eq_true rfl) (by decide) (by decide) (q := 179) rfl ?_
          intro v29 T29 h29 l29 X29 q29
          obtain ⟨m0, rfl, h_m0, e29⟩ := q29
          have e29 := e29.symm
          subst e29
          show Goes p e below _ T29 (mkF m 179 #[.val (.long p0), .second, .val (.int p1), .val (.int p2), .val (.int p3), .val (.long dl), .second, .val (.int md), .val (.int (0 : Int32)), .val (.int (0 : Int32)), .val (.long mg), .second, .val (.long bb), .second, .val (.long vl), .second, .val (.double FP.dconst1), .second, .val (.int g_), .unset, .unset, .unset, .unset] [(.long m0)])
          refine o_iload X29 at_179 rfl (q := 181) rfl ?_
          refine o_ifY X29 at_181 (by decide) (by decide) (q := 190) (by decide) ?_
          refine o_lconst X29 at_190 (w := 1) rfl (q := 191) rfl ?_
          refine o_stat X29 [(.long m0), (.long (1 : Int64))] (y' := (⟨"java/lang/Math", "max", "(JJ)J"⟩ : MethodName)) (c_maxJ hw m0 (1 : Int64) _) (w16 hw) (w17 hw) (w8 hw) (w18 hw) (by decide) at_191 (rest := []) rfl rfl (lenOf pd2 rfl) rfl (by decide) (Nat.le_of_ble_eq_true rfl) (by decide) (by decide) (q := 194) rfl ?_
          intro v30 T30 h30 l30 X30 q30
          obtain ⟨ms, rfl, h_ms, e30⟩ := q30
          have e30 := e30.symm
          subst e30
          show Goes p e below _ T30 (mkF m 194 #[.val (.long p0), .second, .val (.int p1), .val (.int p2), .val (.int p3), .val (.long dl), .second, .val (.int md), .val (.int (0 : Int32)), .val (.int (0 : Int32)), .val (.long mg), .second, .val (.long bb), .second, .val (.long vl), .second, .val (.double FP.dconst1), .second, .val (.int g_), .unset, .unset, .unset, .unset] [(.long ms)])
          obtain ⟨ss, h_ss⟩ : ∃ z : Int64, ms = z := ⟨_, rfl⟩
          refine o_lstore X30 at_194 h_ss (L' := #[.val (.long p0), .second, .val (.int p1), .val (.int p2), .val (.int p3), .val (.long dl), .second, .val (.int md), .val (.int (0 : Int32)), .val (.int (0 : Int32)), .val (.long mg), .second, .val (.long bb), .second, .val (.long vl), .second, .val (.double FP.dconst1), .second, .val (.int g_), .val (.long ss), .second, .unset, .unset]) rfl (q := 196) rfl ?_
          refine o_lload X30 at_196 rfl (q := 198) rfl ?_
          refine o_ldcJ X30 (w19 hw) at_198 (q := 201) rfl ?_
          refine o_lmul X30 at_201 (w := (dl * (1000000000000 : Int64))) rfl (q := 202) rfl ?_
          obtain ⟨lh, h_lh⟩ : ∃ z : Int64, (dl * (1000000000000 : Int64)) = z := ⟨_, rfl⟩
          refine o_lstore X30 at_202 h_lh (L' := #[.val (.long p0), .second, .val (.int p1), .val (.int p2), .val (.int p3), .val (.long dl), .second, .val (.int md), .val (.int (0 : Int32)), .val (.int (0 : Int32)), .val (.long mg), .second, .val (.long bb), .second, .val (.long vl), .second, .val (.double FP.dconst1), .second, .val (.int g_), .val (.long ss), .second, .val (.long lh), .second]) rfl (q := 204) rfl ?_
          refine o_lload X30 at_204 rfl (q := 206) rfl ?_
          refine o_lload X30 at_206 rfl (q := 208) rfl ?_
          refine o_lsub X30 at_208 (w := (lh - ss)) rfl (q := 209) rfl ?_
          refine o_stat X30 [(.long (lh - ss))] (y' := (⟨"java/lang/Math", "abs", "(J)J"⟩ : MethodName)) (c_absJ hw (lh - ss) _) (w13 hw) (w14 hw) (w8 hw) (w15 hw) (by decide) at_209 (rest := []) rfl rfl (lenOf pd1 rfl) rfl (by decide) (Nat.le_of_ble_eq_true rfl) (by decide) (by decide) (q := 212) rfl ?_
          intro v31 T31 h31 l31 X31 q31
          obtain ⟨a4, rfl, h_a4, e31⟩ := q31
          have e31 := e31.symm
          subst e31
          show Goes p e below _ T31 (mkF m 212 #[.val (.long p0), .second, .val (.int p1), .val (.int p2), .val (.int p3), .val (.long dl), .second, .val (.int md), .val (.int (0 : Int32)), .val (.int (0 : Int32)), .val (.long mg), .second, .val (.long bb), .second, .val (.long vl), .second, .val (.double FP.dconst1), .second, .val (.int g_), .val (.long ss), .second, .val (.long lh), .second] [(.long a4)])
          refine o_ldcJ X31 (w20 hw) at_212 (q := 215) rfl ?_
          refine o_lcmp X31 at_215 (w := (lcmpW a4 (4 : Int64))) rfl (q := 216) rfl ?_
          by_cases hc216 : (0 : Int32) < (lcmpW a4 (4 : Int64))
          · refine o_ifY X31 at_216 (tlt hc216).2.2.1 (by decide) (q := 221) (by decide) ?_
            refine o_iload X31 at_221 rfl (q := 223) rfl ?_
            refine o_lload X31 at_223 rfl (q := 225) rfl ?_
            refine o_lload X31 at_225 rfl (q := 227) rfl ?_
            refine o_lcmp X31 at_227 (w := (lcmpW lh ss)) rfl (q := 228) rfl ?_
            have hss := own_ss hbb (by omega) (Lc := (1 : Int64)) (by decide) h_ab h_av h_m0 (h_ms.trans h_ss)
            have hlh := own_lh hdl h_lh
            have hcut := own_cut (l := lh) (s := ss) (by omega) hss.2 (by rw [h_a4]; exact hc216)
            have hfin := own_fin (D := bb.toInt - vl.toInt) (S := ss.toInt) (sg := (1 : Rat)) (T := T_) (by decide +kernel) hss.2.1 hss.2.2 (by rw [hss.1]; exact (rT.2.2 (own_KM (v := vl.toInt) (b := bb.toInt) (L := 1) (sg := (1 : Rat)) (by decide +kernel) (by decide +kernel) (by unfold Mx; omega) (by decide +kernel)).2.2.1).1) (by rw [hss.1]; exact (rT.2.2 (own_KM (v := vl.toInt) (b := bb.toInt) (L := 1) (sg := (1 : Rat)) (by decide +kernel) (by decide +kernel) (by unfold Mx; omega) (by decide +kernel)).2.2.1).2)
            rw [own_E] at hg
            by_cases hc228 : (0 : Int32) < (lcmpW lh ss)
            · refine o_ifN X31 at_228 (tlt hc228).2.2.2 (q := 231) rfl ?_
              refine o_iconst X31 at_231 (w := 1) rfl (q := 232) rfl ?_
              refine o_goto X31 at_232 (by decide) (q := 236) (by decide) ?_
              refine o_icmpN X31 at_236 (teq (own_g1 hg (hfin.1 (by have q := (lw_gt _ _).mp hc228; rw [Int64.lt_iff_toInt_lt] at q; omega)))).2 (q := 239) rfl ?_
              refine o_iconst X31 at_239 (w := 1) rfl (q := 240) rfl ?_
              refine o_goto X31 at_240 (by decide) (q := 244) (by decide) ?_
              exact o_retN X31 at_244 (by simp) rfl (by decide) (by decide)
            · refine o_ifY X31 at_228 (flt hc228).2.2.2 (by decide) (q := 235) (by decide) ?_
              refine o_iconst X31 at_235 (w := 0) rfl (q := 236) rfl ?_
              refine o_icmpN X31 at_236 (teq (own_g0 hg (hfin.2 (by have q : ¬ ss < lh := fun z => hc228 ((lw_gt _ _).mpr z); rw [Int64.lt_iff_toInt_lt] at q; omega)))).2 (q := 239) rfl ?_
              refine o_iconst X31 at_239 (w := 1) rfl (q := 240) rfl ?_
              refine o_goto X31 at_240 (by decide) (q := 244) (by decide) ?_
              exact o_retN X31 at_244 (by simp) rfl (by decide) (by decide)
          · refine o_ifN X31 at_216 (flt hc216).2.2.1 (q := 219) rfl ?_
            refine o_iconst X31 at_219 (w := 1) rfl (q := 220) rfl ?_
            exact o_retN X31 at_220 (by simp) rfl (by decide) (by decide)
    · refine o_ifN X at_37 (feq hc37).1 (q := 40) rfl ?_
      refine o_iconst X at_40 (w := 1) rfl (q := 41) rfl ?_
      refine o_goto X at_41 (by decide) (q := 45) (by decide) ?_
      refine o_istore X at_45 rfl (L' := #[.val (.long p0), .second, .val (.int p1), .val (.int p2), .val (.int p3), .val (.long dl), .second, .val (.int md), .val (.int (0 : Int32)), .val (.int (1 : Int32)), .unset, .unset, .unset, .unset, .unset, .unset, .unset, .unset, .unset, .unset, .unset, .unset, .unset]) rfl (q := 47) rfl ?_
      refine o_iload X at_47 rfl (q := 49) rfl ?_
      by_cases hc49 : md = (0 : Int32)
      · refine o_ifN X at_49 (teq hc49).2 (q := 52) rfl ?_
        refine o_lloadN X at_52 rfl (q := 53) rfl ?_
        refine o_ldcJ X (w0 hw) at_53 (q := 56) rfl ?_
        refine o_land X at_56 (w := (p0 &&& (4503599627370495 : Int64))) rfl (q := 57) rfl ?_
        obtain ⟨mg, h_mg⟩ : ∃ z : Int64, (p0 &&& (4503599627370495 : Int64)) = z := ⟨_, rfl⟩
        refine o_lstore X at_57 h_mg (L' := #[.val (.long p0), .second, .val (.int p1), .val (.int p2), .val (.int p3), .val (.long dl), .second, .val (.int md), .val (.int (0 : Int32)), .val (.int (1 : Int32)), .val (.long mg), .second, .unset, .unset, .unset, .unset, .unset, .unset, .unset, .unset, .unset, .unset, .unset]) rfl (q := 59) rfl ?_
        refine o_goto X at_59 (by decide) (q := 113) (by decide) ?_
        refine o_iload X at_113 rfl (q := 115) rfl ?_
        have hmg : 0 ≤ mg.toInt ∧ mg.toInt < 4503599627370496 := own_mk h_mg (by decide) (k := 52) (by decide)
        refine o_ifN X at_115 (by decide) (q := 118) rfl ?_
        refine o_lload X at_118 rfl (q := 120) rfl ?_
        refine o_lneg X at_120 (w := (-mg)) rfl (q := 121) rfl ?_
        refine o_goto X at_121 (by decide) (q := 126) (by decide) ?_
        obtain ⟨bb, h_bb⟩ : ∃ z : Int64, (-mg) = z := ⟨_, rfl⟩
        refine o_lstore X at_126 h_bb (L' := #[.val (.long p0), .second, .val (.int p1), .val (.int p2), .val (.int p3), .val (.long dl), .second, .val (.int md), .val (.int (0 : Int32)), .val (.int (1 : Int32)), .val (.long mg), .second, .val (.long bb), .second, .unset, .unset, .unset, .unset, .unset, .unset, .unset, .unset, .unset]) rfl (q := 128) rfl ?_
        refine o_lload X at_128 rfl (q := 130) rfl ?_
        refine o_lload X at_130 rfl (q := 132) rfl ?_
        refine o_lsub X at_132 (w := (bb - dl)) rfl (q := 133) rfl ?_
        obtain ⟨vl, h_vl⟩ : ∃ z : Int64, (bb - dl) = z := ⟨_, rfl⟩
        refine o_lstore X at_133 h_vl (L' := #[.val (.long p0), .second, .val (.int p1), .val (.int p2), .val (.int p3), .val (.long dl), .second, .val (.int md), .val (.int (0 : Int32)), .val (.int (1 : Int32)), .val (.long mg), .second, .val (.long bb), .second, .val (.long vl), .second, .unset, .unset, .unset, .unset, .unset, .unset, .unset]) rfl (q := 135) rfl ?_
        refine o_iload X at_135 rfl (q := 137) rfl ?_
        have hbb : bb.toInt.natAbs < 4503599627370496 := own_neg hmg h_bb
        have hdl := own_dl h_dl
        have hvl := own_v hbb hdl h_vl
        refine o_ifY X at_137 (by decide) (by decide) (q := 146) (by decide) ?_
        refine o_dconst1 X at_146 (q := 147) rfl ?_
        refine o_dstore X at_147 rfl (L' := #[.val (.long p0), .second, .val (.int p1), .val (.int p2), .val (.int p3), .val (.long dl), .second, .val (.int md), .val (.int (0 : Int32)), .val (.int (1 : Int32)), .val (.long mg), .second, .val (.long bb), .second, .val (.long vl), .second, .val (.double FP.dconst1), .second, .unset, .unset, .unset, .unset, .unset]) rfl (q := 149) rfl ?_
        refine o_lload X at_149 rfl (q := 151) rfl ?_
        obtain ⟨d32, hd32⟩ : ∃ z : UInt64, FP.l2d vl = z := ⟨_, rfl⟩
        have iv32 : IsV d32 ((vl).toInt : Rat) := (hd32 ▸ IsV.l2d (by omega))
        refine o_l2d X at_151 hd32 (q := 152) rfl ?_
        refine o_dload X at_152 rfl (q := 154) rfl ?_
        obtain ⟨d33, hd33⟩ : ∃ z : UInt64, FP.dmul d32 FP.dconst1 = z := ⟨_, rfl⟩
        have iv33 : IsV d33 ((vl.toInt : Rat) * (1 : Rat)) := hd33 ▸ (IsV.mul iv32 IsV.one (own_rS 0 (by omega) (by decide) (by decide) (by decide +kernel)))
        refine o_dmul X at_154 (hd33.symm ▸ iv33.nn) hd33 (q := 155) rfl ?_
        refine o_lload X at_155 rfl (q := 157) rfl ?_
        obtain ⟨d34, hd34⟩ : ∃ z : UInt64, FP.l2d bb = z := ⟨_, rfl⟩
        have iv34 : IsV d34 ((bb).toInt : Rat) := (hd34 ▸ IsV.l2d (by omega))
        refine o_l2d X at_157 hd34 (q := 158) rfl ?_
        refine o_dload X at_158 rfl (q := 160) rfl ?_
        obtain ⟨d35, hd35⟩ : ∃ z : UInt64, FP.dmul d34 FP.dconst1 = z := ⟨_, rfl⟩
        have iv35 : IsV d35 ((bb.toInt : Rat) * (1 : Rat)) := hd35 ▸ (IsV.mul iv34 IsV.one (own_rS 0 (by omega) (by decide) (by decide) (by decide +kernel)))
        refine o_dmul X at_160 (hd35.symm ▸ iv35.nn) hd35 (q := 161) rfl ?_
        refine o_stat X [(.double d33), (.double d35)] (y' := (⟨"com/example/silvafront/silvafront/forest/Rounding", "fallsBelow", "(DD)Z"⟩ : MethodName)) (c_fb hw d33 d35 vl.toInt bb.toInt 1 (1 : Rat) _ iv33 iv35 (by decide +kernel) (by decide +kernel) (by decide +kernel) (by unfold Mx; omega) ((own_rS (n := bb.toInt - vl.toInt) 0 (by omega) (by decide) (by decide) (by decide +kernel)).eqv (own_E _ _ _).symm)) (w1 hw) (w2 hw) (w3 hw) (w4 hw) (by decide) at_161 (rest := []) rfl rfl (lenOf pd0 rfl) rfl (by decide) (Nat.le_of_ble_eq_true rfl) (by decide) (by decide) (q := 164) rfl ?_
        intro v36 T36 h36 l36 X36 q36
        obtain ⟨T_, g_, rfl, rT, hg, e36⟩ := q36
        have e36 := e36.symm
        subst e36
        show Goes p e below _ T36 (mkF m 164 #[.val (.long p0), .second, .val (.int p1), .val (.int p2), .val (.int p3), .val (.long dl), .second, .val (.int md), .val (.int (0 : Int32)), .val (.int (1 : Int32)), .val (.long mg), .second, .val (.long bb), .second, .val (.long vl), .second, .val (.double FP.dconst1), .second, .unset, .unset, .unset, .unset, .unset] [(.int g_)])
        refine o_istore X36 at_164 rfl (L' := #[.val (.long p0), .second, .val (.int p1), .val (.int p2), .val (.int p3), .val (.long dl), .second, .val (.int md), .val (.int (0 : Int32)), .val (.int (1 : Int32)), .val (.long mg), .second, .val (.long bb), .second, .val (.long vl), .second, .val (.double FP.dconst1), .second, .val (.int g_), .unset, .unset, .unset, .unset]) rfl (q := 166) rfl ?_
        refine o_lload X36 at_166 rfl (q := 168) rfl ?_
        refine o_stat X36 [(.long bb)] (y' := (⟨"java/lang/Math", "abs", "(J)J"⟩ : MethodName)) (c_absJ hw bb _) (w13 hw) (w14 hw) (w8 hw) (w15 hw) (by decide) at_168 (rest := []) rfl rfl (lenOf pd1 rfl) rfl (by decide) (Nat.le_of_ble_eq_true rfl) (by decide) (by decide) (q := 171) rfl ?_
        intro v37 T37 h37 l37 X37 q37
        obtain ⟨ab, rfl, h_ab, e37⟩ := q37
        have e37 := e37.symm
        subst e37
        show Goes p e below _ T37 (mkF m 171 #[.val (.long p0), .second, .val (.int p1), .val (.int p2), .val (.int p3), .val (.long dl), .second, .val (.int md), .val (.int (0 : Int32)), .val (.int (1 : Int32)), .val (.long mg), .second, .val (.long bb), .second, .val (.long vl), .second, .val (.double FP.dconst1), .second, .val (.int g_), .unset, .unset, .unset, .unset] [(.long ab)])
        refine o_lload X37 at_171 rfl (q := 173) rfl ?_
        refine o_stat X37 [(.long vl)] (y' := (⟨"java/lang/Math", "abs", "(J)J"⟩ : MethodName)) (c_absJ hw vl _) (w13 hw) (w14 hw) (w8 hw) (w15 hw) (by decide) at_173 (rest := [(.long ab)]) rfl rfl (lenOf pd1 rfl) rfl (by decide) (Nat.le_of_ble_eq_true rfl) (by decide) (by decide) (q := 176) rfl ?_
        intro v38 T38 h38 l38 X38 q38
        obtain ⟨av, rfl, h_av, e38⟩ := q38
        have e38 := e38.symm
        subst e38
        show Goes p e below _ T38 (mkF m 176 #[.val (.long p0), .second, .val (.int p1), .val (.int p2), .val (.int p3), .val (.long dl), .second, .val (.int md), .val (.int (0 : Int32)), .val (.int (1 : Int32)), .val (.long mg), .second, .val (.long bb), .second, .val (.long vl), .second, .val (.double FP.dconst1), .second, .val (.int g_), .unset, .unset, .unset, .unset] [(.long av), (.long ab)])
        refine o_stat X38 [(.long ab), (.long av)] (y' := (⟨"java/lang/Math", "max", "(JJ)J"⟩ : MethodName)) (c_maxJ hw ab av _) (w16 hw) (w17 hw) (w8 hw) (w18 hw) (by decide) at_176 (rest := []) rfl rfl (lenOf pd2 rfl) rfl (by decide) (Nat.le_of_ble_eq_true rfl) (by decide) (by decide) (q := 179) rfl ?_
        intro v39 T39 h39 l39 X39 q39
        obtain ⟨m0, rfl, h_m0, e39⟩ := q39
        have e39 := e39.symm
        subst e39
        show Goes p e below _ T39 (mkF m 179 #[.val (.long p0), .second, .val (.int p1), .val (.int p2), .val (.int p3), .val (.long dl), .second, .val (.int md), .val (.int (0 : Int32)), .val (.int (1 : Int32)), .val (.long mg), .second, .val (.long bb), .second, .val (.long vl), .second, .val (.double FP.dconst1), .second, .val (.int g_), .unset, .unset, .unset, .unset] [(.long m0)])
        refine o_iload X39 at_179 rfl (q := 181) rfl ?_
        refine o_ifY X39 at_181 (by decide) (by decide) (q := 190) (by decide) ?_
        refine o_lconst X39 at_190 (w := 1) rfl (q := 191) rfl ?_
        refine o_stat X39 [(.long m0), (.long (1 : Int64))] (y' := (⟨"java/lang/Math", "max", "(JJ)J"⟩ : MethodName)) (c_maxJ hw m0 (1 : Int64) _) (w16 hw) (w17 hw) (w8 hw) (w18 hw) (by decide) at_191 (rest := []) rfl rfl (lenOf pd2 rfl) rfl (by decide) (Nat.le_of_ble_eq_true rfl) (by decide) (by decide) (q := 194) rfl ?_
        intro v40 T40 h40 l40 X40 q40
        obtain ⟨ms, rfl, h_ms, e40⟩ := q40
        have e40 := e40.symm
        subst e40
        show Goes p e below _ T40 (mkF m 194 #[.val (.long p0), .second, .val (.int p1), .val (.int p2), .val (.int p3), .val (.long dl), .second, .val (.int md), .val (.int (0 : Int32)), .val (.int (1 : Int32)), .val (.long mg), .second, .val (.long bb), .second, .val (.long vl), .second, .val (.double FP.dconst1), .second, .val (.int g_), .unset, .unset, .unset, .unset] [(.long ms)])
        obtain ⟨ss, h_ss⟩ : ∃ z : Int64, ms = z := ⟨_, rfl⟩
        refine o_lstore X40 at_194 h_ss (L' := #[.val (.long p0), .second, .val (.int p1), .val (.int p2), .val (.int p3), .val (.long dl), .second, .val (.int md), .val (.int (0 : Int32)), .val (.int (1 : Int32)), .val (.long mg), .second, .val (.long bb), .second, .val (.long vl), .second, .val (.double FP.dconst1), .second, .val (.int g_), .val (.long ss), .second, .unset, .unset]) rfl (q := 196) rfl ?_
        refine o_lload X40 at_196 rfl (q := 198) rfl ?_
        refine o_ldcJ X40 (w19 hw) at_198 (q := 201) rfl ?_
        refine o_lmul X40 at_201 (w := (dl * (1000000000000 : Int64))) rfl (q := 202) rfl ?_
        obtain ⟨lh, h_lh⟩ : ∃ z : Int64, (dl * (1000000000000 : Int64)) = z := ⟨_, rfl⟩
        refine o_lstore X40 at_202 h_lh (L' := #[.val (.long p0), .second, .val (.int p1), .val (.int p2), .val (.int p3), .val (.long dl), .second, .val (.int md), .val (.int (0 : Int32)), .val (.int (1 : Int32)), .val (.long mg), .second, .val (.long bb), .second, .val (.long vl), .second, .val (.double FP.dconst1), .second, .val (.int g_), .val (.long ss), .second, .val (.long lh), .second]) rfl (q := 204) rfl ?_
        refine o_lload X40 at_204 rfl (q := 206) rfl ?_
        refine o_lload X40 at_206 rfl (q := 208) rfl ?_
        refine o_lsub X40 at_208 (w := (lh - ss)) rfl (q := 209) rfl ?_
        refine o_stat X40 [(.long (lh - ss))] (y' := (⟨"java/lang/Math", "abs", "(J)J"⟩ : MethodName)) (c_absJ hw (lh - ss) _) (w13 hw) (w14 hw) (w8 hw) (w15 hw) (by decide) at_209 (rest := []) rfl rfl (lenOf pd1 rfl) rfl (by decide) (Nat.le_of_ble_eq_true rfl) (by decide) (by decide) (q := 212) rfl ?_
        intro v41 T41 h41 l41 X41 q41
        obtain ⟨a4, rfl, h_a4, e41⟩ := q41
        have e41 := e41.symm
        subst e41
        show Goes p e below _ T41 (mkF m 212 #[.val (.long p0), .second, .val (.int p1), .val (.int p2), .val (.int p3), .val (.long dl), .second, .val (.int md), .val (.int (0 : Int32)), .val (.int (1 : Int32)), .val (.long mg), .second, .val (.long bb), .second, .val (.long vl), .second, .val (.double FP.dconst1), .second, .val (.int g_), .val (.long ss), .second, .val (.long lh), .second] [(.long a4)])
        refine o_ldcJ X41 (w20 hw) at_212 (q := 215) rfl ?_
        refine o_lcmp X41 at_215 (w := (lcmpW a4 (4 : Int64))) rfl (q := 216) rfl ?_
        by_cases hc216 : (0 : Int32) < (lcmpW a4 (4 : Int64))
        · refine o_ifY X41 at_216 (tlt hc216).2.2.1 (by decide) (q := 221) (by decide) ?_
          refine o_iload X41 at_221 rfl (q := 223) rfl ?_
          refine o_lload X41 at_223 rfl (q := 225) rfl ?_
          refine o_lload X41 at_225 rfl (q := 227) rfl ?_
          refine o_lcmp X41 at_227 (w := (lcmpW lh ss)) rfl (q := 228) rfl ?_
          have hss := own_ss hbb (by omega) (Lc := (1 : Int64)) (by decide) h_ab h_av h_m0 (h_ms.trans h_ss)
          have hlh := own_lh hdl h_lh
          have hcut := own_cut (l := lh) (s := ss) (by omega) hss.2 (by rw [h_a4]; exact hc216)
          have hfin := own_fin (D := bb.toInt - vl.toInt) (S := ss.toInt) (sg := (1 : Rat)) (T := T_) (by decide +kernel) hss.2.1 hss.2.2 (by rw [hss.1]; exact (rT.2.2 (own_KM (v := vl.toInt) (b := bb.toInt) (L := 1) (sg := (1 : Rat)) (by decide +kernel) (by decide +kernel) (by unfold Mx; omega) (by decide +kernel)).2.2.1).1) (by rw [hss.1]; exact (rT.2.2 (own_KM (v := vl.toInt) (b := bb.toInt) (L := 1) (sg := (1 : Rat)) (by decide +kernel) (by decide +kernel) (by unfold Mx; omega) (by decide +kernel)).2.2.1).2)
          rw [own_E] at hg
          by_cases hc228 : (0 : Int32) < (lcmpW lh ss)
          · refine o_ifN X41 at_228 (tlt hc228).2.2.2 (q := 231) rfl ?_
            refine o_iconst X41 at_231 (w := 1) rfl (q := 232) rfl ?_
            refine o_goto X41 at_232 (by decide) (q := 236) (by decide) ?_
            refine o_icmpN X41 at_236 (teq (own_g1 hg (hfin.1 (by have q := (lw_gt _ _).mp hc228; rw [Int64.lt_iff_toInt_lt] at q; omega)))).2 (q := 239) rfl ?_
            refine o_iconst X41 at_239 (w := 1) rfl (q := 240) rfl ?_
            refine o_goto X41 at_240 (by decide) (q := 244) (by decide) ?_
            exact o_retN X41 at_244 (by simp) rfl (by decide) (by decide)
          · refine o_ifY X41 at_228 (flt hc228).2.2.2 (by decide) (q := 235) (by decide) ?_
            refine o_iconst X41 at_235 (w := 0) rfl (q := 236) rfl ?_
            refine o_icmpN X41 at_236 (teq (own_g0 hg (hfin.2 (by have q : ¬ ss < lh := fun z => hc228 ((lw_gt _ _).mpr z); rw [Int64.lt_iff_toInt_lt] at q; omega)))).2 (q := 239) rfl ?_
            refine o_iconst X41 at_239 (w := 1) rfl (q := 240) rfl ?_
            refine o_goto X41 at_240 (by decide) (q := 244) (by decide) ?_
            exact o_retN X41 at_244 (by simp) rfl (by decide) (by decide)
        · refine o_ifN X41 at_216 (flt hc216).2.2.1 (q := 219) rfl ?_
          refine o_iconst X41 at_219 (w := 1) rfl (q := 220) rfl ?_
          exact o_retN X41 at_220 (by simp) rfl (by decide) (by decide)
      · refine o_ifY X at_49 (feq hc49).2 (by decide) (q := 62) (by decide) ?_
        refine o_iload X at_62 rfl (q := 64) rfl ?_
        refine o_iconst X at_64 (w := 1) rfl (q := 65) rfl ?_
        by_cases hc65 : md = (1 : Int32)
        · refine o_icmpN X at_65 (teq hc65).2 (q := 68) rfl ?_
          refine o_lloadN X at_68 rfl (q := 69) rfl ?_
          refine o_ldcJ X (w23 hw) at_69 (q := 72) rfl ?_
          refine o_land X at_72 (w := (p0 &&& (1048575 : Int64))) rfl (q := 73) rfl ?_
          obtain ⟨mg, h_mg⟩ : ∃ z : Int64, (p0 &&& (1048575 : Int64)) = z := ⟨_, rfl⟩
          refine o_lstore X at_73 h_mg (L' := #[.val (.long p0), .second, .val (.int p1), .val (.int p2), .val (.int p3), .val (.long dl), .second, .val (.int md), .val (.int (0 : Int32)), .val (.int (1 : Int32)), .val (.long mg), .second, .unset, .unset, .unset, .unset, .unset, .unset, .unset, .unset, .unset, .unset, .unset]) rfl (q := 75) rfl ?_
          refine o_goto X at_75 (by decide) (q := 113) (by decide) ?_
          refine o_iload X at_113 rfl (q := 115) rfl ?_
          have hmg : 0 ≤ mg.toInt ∧ mg.toInt < 4503599627370496 := (fun q : 0 ≤ mg.toInt ∧ mg.toInt < (2 ^ 20 : Nat) => (⟨q.1, by omega⟩ : 0 ≤ mg.toInt ∧ mg.toInt < 4503599627370496)) (own_mk h_mg (by decide) (k := 20) (by decide))
          refine o_ifN X at_115 (by decide) (q := 118) rfl ?_
          refine o_lload X at_118 rfl (q := 120) rfl ?_
          refine o_lneg X at_120 (w := (-mg)) rfl (q := 121) rfl ?_
          refine o_goto X at_121 (by decide) (q := 126) (by decide) ?_
          obtain ⟨bb, h_bb⟩ : ∃ z : Int64, (-mg) = z := ⟨_, rfl⟩
          refine o_lstore X at_126 h_bb (L' := #[.val (.long p0), .second, .val (.int p1), .val (.int p2), .val (.int p3), .val (.long dl), .second, .val (.int md), .val (.int (0 : Int32)), .val (.int (1 : Int32)), .val (.long mg), .second, .val (.long bb), .second, .unset, .unset, .unset, .unset, .unset, .unset, .unset, .unset, .unset]) rfl (q := 128) rfl ?_
          refine o_lload X at_128 rfl (q := 130) rfl ?_
          refine o_lload X at_130 rfl (q := 132) rfl ?_
          refine o_lsub X at_132 (w := (bb - dl)) rfl (q := 133) rfl ?_
          obtain ⟨vl, h_vl⟩ : ∃ z : Int64, (bb - dl) = z := ⟨_, rfl⟩
          refine o_lstore X at_133 h_vl (L' := #[.val (.long p0), .second, .val (.int p1), .val (.int p2), .val (.int p3), .val (.long dl), .second, .val (.int md), .val (.int (0 : Int32)), .val (.int (1 : Int32)), .val (.long mg), .second, .val (.long bb), .second, .val (.long vl), .second, .unset, .unset, .unset, .unset, .unset, .unset, .unset]) rfl (q := 135) rfl ?_
          refine o_iload X at_135 rfl (q := 137) rfl ?_
          have hbb : bb.toInt.natAbs < 4503599627370496 := own_neg hmg h_bb
          have hdl := own_dl h_dl
          have hvl := own_v hbb hdl h_vl
          refine o_ifY X at_137 (by decide) (by decide) (q := 146) (by decide) ?_
          refine o_dconst1 X at_146 (q := 147) rfl ?_
          refine o_dstore X at_147 rfl (L' := #[.val (.long p0), .second, .val (.int p1), .val (.int p2), .val (.int p3), .val (.long dl), .second, .val (.int md), .val (.int (0 : Int32)), .val (.int (1 : Int32)), .val (.long mg), .second, .val (.long bb), .second, .val (.long vl), .second, .val (.double FP.dconst1), .second, .unset, .unset, .unset, .unset, .unset]) rfl (q := 149) rfl ?_
          refine o_lload X at_149 rfl (q := 151) rfl ?_
          obtain ⟨d42, hd42⟩ : ∃ z : UInt64, FP.l2d vl = z := ⟨_, rfl⟩
          have iv42 : IsV d42 ((vl).toInt : Rat) := (hd42 ▸ IsV.l2d (by omega))
          refine o_l2d X at_151 hd42 (q := 152) rfl ?_
          refine o_dload X at_152 rfl (q := 154) rfl ?_
          obtain ⟨d43, hd43⟩ : ∃ z : UInt64, FP.dmul d42 FP.dconst1 = z := ⟨_, rfl⟩
          have iv43 : IsV d43 ((vl.toInt : Rat) * (1 : Rat)) := hd43 ▸ (IsV.mul iv42 IsV.one (own_rS 0 (by omega) (by decide) (by decide) (by decide +kernel)))
          refine o_dmul X at_154 (hd43.symm ▸ iv43.nn) hd43 (q := 155) rfl ?_
          refine o_lload X at_155 rfl (q := 157) rfl ?_
          obtain ⟨d44, hd44⟩ : ∃ z : UInt64, FP.l2d bb = z := ⟨_, rfl⟩
          have iv44 : IsV d44 ((bb).toInt : Rat) := (hd44 ▸ IsV.l2d (by omega))
          refine o_l2d X at_157 hd44 (q := 158) rfl ?_
          refine o_dload X at_158 rfl (q := 160) rfl ?_
          obtain ⟨d45, hd45⟩ : ∃ z : UInt64, FP.dmul d44 FP.dconst1 = z := ⟨_, rfl⟩
          have iv45 : IsV d45 ((bb.toInt : Rat) * (1 : Rat)) := hd45 ▸ (IsV.mul iv44 IsV.one (own_rS 0 (by omega) (by decide) (by decide) (by decide +kernel)))
          refine o_dmul X at_160 (hd45.symm ▸ iv45.nn) hd45 (q := 161) rfl ?_
          refine o_stat X [(.double d43), (.double d45)] (y' := (⟨"com/example/silvafront/silvafront/forest/Rounding", "fallsBelow", "(DD)Z"⟩ : MethodName)) (c_fb hw d43 d45 vl.toInt bb.toInt 1 (1 : Rat) _ iv43 iv45 (by decide +kernel) (by decide +kernel) (by decide +kernel) (by unfold Mx; omega) ((own_rS (n := bb.toInt - vl.toInt) 0 (by omega) (by decide) (by decide) (by decide +kernel)).eqv (own_E _ _ _).symm)) (w1 hw) (w2 hw) (w3 hw) (w4 hw) (by decide) at_161 (rest := []) rfl rfl (lenOf pd0 rfl) rfl (by decide) (Nat.le_of_ble_eq_true rfl) (by decide) (by decide) (q := 164) rfl ?_
          intro v46 T46 h46 l46 X46 q46
          obtain ⟨T_, g_, rfl, rT, hg, e46⟩ := q46
          have e46 := e46.symm
          subst e46
          show Goes p e below _ T46 (mkF m 164 #[.val (.long p0), .second, .val (.int p1), .val (.int p2), .val (.int p3), .val (.long dl), .second, .val (.int md), .val (.int (0 : Int32)), .val (.int (1 : Int32)), .val (.long mg), .second, .val (.long bb), .second, .val (.long vl), .second, .val (.double FP.dconst1), .second, .unset, .unset, .unset, .unset, .unset] [(.int g_)])
          refine o_istore X46 at_164 rfl (L' := #[.val (.long p0), .second, .val (.int p1), .val (.int p2), .val (.int p3), .val (.long dl), .second, .val (.int md), .val (.int (0 : Int32)), .val (.int (1 : Int32)), .val (.long mg), .second, .val (.long bb), .second, .val (.long vl), .second, .val (.double FP.dconst1), .second, .val (.int g_), .unset, .unset, .unset, .unset]) rfl (q := 166) rfl ?_
          refine o_lload X46 at_166 rfl (q := 168) rfl ?_
          refine o_stat X46 [(.long bb)] (y' := (⟨"java/lang/Math", "abs", "(J)J"⟩ : MethodName)) (c_absJ hw bb _) (w13 hw) (w14 hw) (w8 hw) (w15 hw) (by decide) at_168 (rest := []) rfl rfl (lenOf pd1 rfl) rfl (by decide) (Nat.le_of_ble_eq_true rfl) (by decide) (by decide) (q := 171) rfl ?_
          intro v47 T47 h47 l47 X47 q47
          obtain ⟨ab, rfl, h_ab, e47⟩ := q47
          have e47 := e47.symm
          subst e47
          show Goes p e below _ T47 (mkF m 171 #[.val (.long p0), .second, .val (.int p1), .val (.int p2), .val (.int p3), .val (.long dl), .second, .val (.int md), .val (.int (0 : Int32)), .val (.int (1 : Int32)), .val (.long mg), .second, .val (.long bb), .second, .val (.long vl), .second, .val (.double FP.dconst1), .second, .val (.int g_), .unset, .unset, .unset, .unset] [(.long ab)])
          refine o_lload X47 at_171 rfl (q := 173) rfl ?_
          refine o_stat X47 [(.long vl)] (y' := (⟨"java/lang/Math", "abs", "(J)J"⟩ : MethodName)) (c_absJ hw vl _) (w13 hw) (w14 hw) (w8 hw) (w15 hw) (by decide) at_173 (rest := [(.long ab)]) rfl rfl (lenOf pd1 rfl) rfl (by decide) (Nat.le_of_ble_eq_true rfl) (by decide) (by decide) (q := 176) rfl ?_
          intro v48 T48 h48 l48 X48 q48
          obtain ⟨av, rfl, h_av, e48⟩ := q48
          have e48 := e48.symm
          subst e48
          show Goes p e below _ T48 (mkF m 176 #[.val (.long p0), .second, .val (.int p1), .val (.int p2), .val (.int p3), .val (.long dl), .second, .val (.int md), .val (.int (0 : Int32)), .val (.int (1 : Int32)), .val (.long mg), .second, .val (.long bb), .second, .val (.long vl), .second, .val (.double FP.dconst1), .second, .val (.int g_), .unset, .unset, .unset, .unset] [(.long av), (.long ab)])
          refine o_stat X48 [(.long ab), (.long av)] (y' := (⟨"java/lang/Math", "max", "(JJ)J"⟩ : MethodName)) (c_maxJ hw ab av _) (w16 hw) (w17 hw) (w8 hw) (w18 hw) (by decide) at_176 (rest := []) rfl rfl (lenOf pd2 rfl) rfl (by decide) (Nat.le_of_ble_eq_true rfl) (by decide) (by decide) (q := 179) rfl ?_
          intro v49 T49 h49 l49 X49 q49
          obtain ⟨m0, rfl, h_m0, e49⟩ := q49
          have e49 := e49.symm
          subst e49
          show Goes p e below _ T49 (mkF m 179 #[.val (.long p0), .second, .val (.int p1), .val (.int p2), .val (.int p3), .val (.long dl), .second, .val (.int md), .val (.int (0 : Int32)), .val (.int (1 : Int32)), .val (.long mg), .second, .val (.long bb), .second, .val (.long vl), .second, .val (.double FP.dconst1), .second, .val (.int g_), .unset, .unset, .unset, .unset] [(.long m0)])
          refine o_iload X49 at_179 rfl (q := 181) rfl ?_
          refine o_ifY X49 at_181 (by decide) (by decide) (q := 190) (by decide) ?_
          refine o_lconst X49 at_190 (w := 1) rfl (q := 191) rfl ?_
          refine o_stat X49 [(.long m0), (.long (1 : Int64))] (y' := (⟨"java/lang/Math", "max", "(JJ)J"⟩ : MethodName)) (c_maxJ hw m0 (1 : Int64) _) (w16 hw) (w17 hw) (w8 hw) (w18 hw) (by decide) at_191 (rest := []) rfl rfl (lenOf pd2 rfl) rfl (by decide) (Nat.le_of_ble_eq_true rfl) (by decide) (by decide) (q := 194) rfl ?_
          intro v50 T50 h50 l50 X50 q50
          obtain ⟨ms, rfl, h_ms, e50⟩ := q50
          have e50 := e50.symm
          subst e50
          show Goes p e below _ T50 (mkF m 194 #[.val (.long p0), .second, .val (.int p1), .val (.int p2), .val (.int p3), .val (.long dl), .second, .val (.int md), .val (.int (0 : Int32)), .val (.int (1 : Int32)), .val (.long mg), .second, .val (.long bb), .second, .val (.long vl), .second, .val (.double FP.dconst1), .second, .val (.int g_), .unset, .unset, .unset, .unset] [(.long ms)])
          obtain ⟨ss, h_ss⟩ : ∃ z : Int64, ms = z := ⟨_, rfl⟩
          refine o_lstore X50 at_194 h_ss (L' := #[.val (.long p0), .second, .val (.int p1), .val (.int p2), .val (.int p3), .val (.long dl), .second, .val (.int md), .val (.int (0 : Int32)), .val (.int (1 : Int32)), .val (.long mg), .second, .val (.long bb), .second, .val (.long vl), .second, .val (.double FP.dconst1), .second, .val (.int g_), .val (.long ss), .second, .unset, .unset]) rfl (q := 196) rfl ?_
          refine o_lload X50 at_196 rfl (q := 198) rfl ?_
          refine o_ldcJ X50 (w19 hw) at_198 (q := 201) rfl ?_
          refine o_lmul X50 at_201 (w := (dl * (1000000000000 : Int64))) rfl (q := 202) rfl ?_
          obtain ⟨lh, h_lh⟩ : ∃ z : Int64, (dl * (1000000000000 : Int64)) = z := ⟨_, rfl⟩
          refine o_lstore X50 at_202 h_lh (L' := #[.val (.long p0), .second, .val (.int p1), .val (.int p2), .val (.int p3), .val (.long dl), .second, .val (.int md), .val (.int (0 : Int32)), .val (.int (1 : Int32)), .val (.long mg), .second, .val (.long bb), .second, .val (.long vl), .second, .val (.double FP.dconst1), .second, .val (.int g_), .val (.long ss), .second, .val (.long lh), .second]) rfl (q := 204) rfl ?_
          refine o_lload X50 at_204 rfl (q := 206) rfl ?_
          refine o_lload X50 at_206 rfl (q := 208) rfl ?_
          refine o_lsub X50 at_208 (w := (lh - ss)) rfl (q := 209) rfl ?_
          refine o_stat X50 [(.long (lh - ss))] (y' := (⟨"java/lang/Math", "abs", "(J)J"⟩ : MethodName)) (c_absJ hw (lh - ss) _) (w13 hw) (w14 hw) (w8 hw) (w15 hw) (by decide) at_209 (rest := []) rfl rfl (lenOf pd1 rfl) rfl (by decide) (Nat.le_of_ble_eq_true rfl) (by decide) (by decide) (q := 212) rfl ?_
          intro v51 T51 h51 l51 X51 q51
          obtain ⟨a4, rfl, h_a4, e51⟩ := q51
          have e51 := e51.symm
          subst e51
          show Goes p e below _ T51 (mkF m 212 #[.val (.long p0), .second, .val (.int p1), .val (.int p2), .val (.int p3), .val (.long dl), .second, .val (.int md), .val (.int (0 : Int32)), .val (.int (1 : Int32)), .val (.long mg), .second, .val (.long bb), .second, .val (.long vl), .second, .val (.double FP.dconst1), .second, .val (.int g_), .val (.long ss), .second, .val (.long lh), .second] [(.long a4)])
          refine o_ldcJ X51 (w20 hw) at_212 (q := 215) rfl ?_
          refine o_lcmp X51 at_215 (w := (lcmpW a4 (4 : Int64))) rfl (q := 216) rfl ?_
          by_cases hc216 : (0 : Int32) < (lcmpW a4 (4 : Int64))
          · refine o_ifY X51 at_216 (tlt hc216).2.2.1 (by decide) (q := 221) (by decide) ?_
            refine o_iload X51 at_221 rfl (q := 223) rfl ?_
            refine o_lload X51 at_223 rfl (q := 225) rfl ?_
            refine o_lload X51 at_225 rfl (q := 227) rfl ?_
            refine o_lcmp X51 at_227 (w := (lcmpW lh ss)) rfl (q := 228) rfl ?_
            have hss := own_ss hbb (by omega) (Lc := (1 : Int64)) (by decide) h_ab h_av h_m0 (h_ms.trans h_ss)
            have hlh := own_lh hdl h_lh
            have hcut := own_cut (l := lh) (s := ss) (by omega) hss.2 (by rw [h_a4]; exact hc216)
            have hfin := own_fin (D := bb.toInt - vl.toInt) (S := ss.toInt) (sg := (1 : Rat)) (T := T_) (by decide +kernel) hss.2.1 hss.2.2 (by rw [hss.1]; exact (rT.2.2 (own_KM (v := vl.toInt) (b := bb.toInt) (L := 1) (sg := (1 : Rat)) (by decide +kernel) (by decide +kernel) (by unfold Mx; omega) (by decide +kernel)).2.2.1).1) (by rw [hss.1]; exact (rT.2.2 (own_KM (v := vl.toInt) (b := bb.toInt) (L := 1) (sg := (1 : Rat)) (by decide +kernel) (by decide +kernel) (by unfold Mx; omega) (by decide +kernel)).2.2.1).2)
            rw [own_E] at hg
            by_cases hc228 : (0 : Int32) < (lcmpW lh ss)
            · refine o_ifN X51 at_228 (tlt hc228).2.2.2 (q := 231) rfl ?_
              refine o_iconst X51 at_231 (w := 1) rfl (q := 232) rfl ?_
              refine o_goto X51 at_232 (by decide) (q := 236) (by decide) ?_
              refine o_icmpN X51 at_236 (teq (own_g1 hg (hfin.1 (by have q := (lw_gt _ _).mp hc228; rw [Int64.lt_iff_toInt_lt] at q; omega)))).2 (q := 239) rfl ?_
              refine o_iconst X51 at_239 (w := 1) rfl (q := 240) rfl ?_
              refine o_goto X51 at_240 (by decide) (q := 244) (by decide) ?_
              exact o_retN X51 at_244 (by simp) rfl (by decide) (by decide)
            · refine o_ifY X51 at_228 (flt hc228).2.2.2 (by decide) (q := 235) (by decide) ?_
              refine o_iconst X51 at_235 (w := 0) rfl (q := 236) rfl ?_
              refine o_icmpN X51 at_236 (teq (own_g0 hg (hfin.2 (by have q : ¬ ss < lh := fun z => hc228 ((lw_gt _ _).mpr z); rw [Int64.lt_iff_toInt_lt] at q; omega)))).2 (q := 239) rfl ?_
              refine o_iconst X51 at_239 (w := 1) rfl (q := 240) rfl ?_
              refine o_goto X51 at_240 (by decide) (q := 244) (by decide) ?_
              exact o_retN X51 at_244 (by simp) rfl (by decide) (by decide)
          · refine o_ifN X51 at_216 (flt hc216).2.2.1 (q := 219) rfl ?_
            refine o_iconst X51 at_219 (w := 1) rfl (q := 220) rfl ?_
            exact o_retN X51 at_220 (by simp) rfl (by decide) (by decide)
        · refine o_icmpY X at_65 (feq hc65).2 (by decide) (q := 78) (by decide) ?_
          refine o_lload X at_78 rfl (q := 80) rfl ?_
          refine o_iload X at_80 rfl (q := 82) rfl ?_
          refine o_iconst X at_82 (w := 4) rfl (q := 83) rfl ?_
          refine o_ishr X at_83 (w := (p3 >>> ((4 : Int32) &&& 31))) rfl (q := 84) rfl ?_
          refine o_iconst X at_84 (w := 3) rfl (q := 85) rfl ?_
          refine o_iand X at_85 (w := ((p3 >>> ((4 : Int32) &&& 31)) &&& (3 : Int32))) rfl (q := 86) rfl ?_
          refine o_iconst X at_86 (w := 1) rfl (q := 87) rfl ?_
          refine o_isub X at_87 (w := (((p3 >>> ((4 : Int32) &&& 31)) &&& (3 : Int32)) - (1 : Int32))) rfl (q := 88) rfl ?_
          refine o_i2l X at_88 (w := ((((p3 >>> ((4 : Int32) &&& 31)) &&& (3 : Int32)) - (1 : Int32)).toInt64)) rfl (q := 89) rfl ?_
          refine o_ladd X at_89 (w := (dl + ((((p3 >>> ((4 : Int32) &&& 31)) &&& (3 : Int32)) - (1 : Int32)).toInt64))) rfl (q := 90) rfl ?_
          obtain ⟨dd_, h_dd_⟩ : ∃ z : Int64, (dl + ((((p3 >>> ((4 : Int32) &&& 31)) &&& (3 : Int32)) - (1 : Int32)).toInt64)) = z := ⟨_, rfl⟩
          refine o_lstore X at_90 h_dd_ (L' := #[.val (.long p0), .second, .val (.int p1), .val (.int p2), .val (.int p3), .val (.long dl), .second, .val (.int md), .val (.int (0 : Int32)), .val (.int (1 : Int32)), .unset, .unset, .val (.long dd_), .second, .unset, .unset, .unset, .unset, .unset, .unset, .unset, .unset, .unset]) rfl (q := 92) rfl ?_
          refine o_iloadN X at_92 rfl (q := 93) rfl ?_
          refine o_bipush X at_93 (w := 11) rfl (q := 95) rfl ?_
          refine o_ishr X at_95 (w := (p2 >>> ((11 : Int32) &&& 31))) rfl (q := 96) rfl ?_
          refine o_i2l X at_96 (w := ((p2 >>> ((11 : Int32) &&& 31)).toInt64)) rfl (q := 97) rfl ?_
          obtain ⟨of_, h_of_⟩ : ∃ z : Int64, ((p2 >>> ((11 : Int32) &&& 31)).toInt64) = z := ⟨_, rfl⟩
          refine o_lstore X at_97 h_of_ (L' := #[.val (.long p0), .second, .val (.int p1), .val (.int p2), .val (.int p3), .val (.long dl), .second, .val (.int md), .val (.int (0 : Int32)), .val (.int (1 : Int32)), .unset, .unset, .val (.long dd_), .second, .val (.long of_), .second, .unset, .unset, .unset, .unset, .unset, .unset, .unset]) rfl (q := 99) rfl ?_
          refine o_lload X at_99 rfl (q := 101) rfl ?_
          refine o_ldcJ X (w19 hw) at_101 (q := 104) rfl ?_
          refine o_lmul X at_104 (w := (dd_ * (1000000000000 : Int64))) rfl (q := 105) rfl ?_
          refine o_lload X at_105 rfl (q := 107) rfl ?_
          refine o_ladd X at_107 (w := ((dd_ * (1000000000000 : Int64)) + of_)) rfl (q := 108) rfl ?_
          refine o_stat X [(.long ((dd_ * (1000000000000 : Int64)) + of_))] (y' := (⟨"java/lang/Math", "abs", "(J)J"⟩ : MethodName)) (c_absJ hw ((dd_ * (1000000000000 : Int64)) + of_) _) (w13 hw) (w14 hw) (w8 hw) (w15 hw) (by decide) at_108 (rest := []) rfl rfl (lenOf pd1 rfl) rfl (by decide) (Nat.le_of_ble_eq_true rfl) (by decide) (by decide) (q := 111) rfl ?_
          intro v52 T52 h52 l52 X52 q52
          obtain ⟨m2, rfl, h_m2, e52⟩ := q52
          have e52 := e52.symm
          subst e52
          show Goes p e below _ T52 (mkF m 111 #[.val (.long p0), .second, .val (.int p1), .val (.int p2), .val (.int p3), .val (.long dl), .second, .val (.int md), .val (.int (0 : Int32)), .val (.int (1 : Int32)), .unset, .unset, .val (.long dd_), .second, .val (.long of_), .second, .unset, .unset, .unset, .unset, .unset, .unset, .unset] [(.long m2)])
          obtain ⟨mg, h_mg⟩ : ∃ z : Int64, m2 = z := ⟨_, rfl⟩
          refine o_lstore X52 at_111 h_mg (L' := #[.val (.long p0), .second, .val (.int p1), .val (.int p2), .val (.int p3), .val (.long dl), .second, .val (.int md), .val (.int (0 : Int32)), .val (.int (1 : Int32)), .val (.long mg), .second, .val (.long dd_), .second, .val (.long of_), .second, .unset, .unset, .unset, .unset, .unset, .unset, .unset]) rfl (q := 113) rfl ?_
          refine o_iload X52 at_113 rfl (q := 115) rfl ?_
          have hmg : 0 ≤ mg.toInt ∧ mg.toInt < 4503599627370496 := h_mg ▸ own_md (own_dl h_dl) rfl h_dd_ h_of_ rfl h_m2
          refine o_ifN X52 at_115 (by decide) (q := 118) rfl ?_
          refine o_lload X52 at_118 rfl (q := 120) rfl ?_
          refine o_lneg X52 at_120 (w := (-mg)) rfl (q := 121) rfl ?_
          refine o_goto X52 at_121 (by decide) (q := 126) (by decide) ?_
          obtain ⟨bb, h_bb⟩ : ∃ z : Int64, (-mg) = z := ⟨_, rfl⟩
          refine o_lstore X52 at_126 h_bb (L' := #[.val (.long p0), .second, .val (.int p1), .val (.int p2), .val (.int p3), .val (.long dl), .second, .val (.int md), .val (.int (0 : Int32)), .val (.int (1 : Int32)), .val (.long mg), .second, .val (.long bb), .second, .val (.long of_), .second, .unset, .unset, .unset, .unset, .unset, .unset, .unset]) rfl (q := 128) rfl ?_
          refine o_lload X52 at_128 rfl (q := 130) rfl ?_
          refine o_lload X52 at_130 rfl (q := 132) rfl ?_
          refine o_lsub X52 at_132 (w := (bb - dl)) rfl (q := 133) rfl ?_
          obtain ⟨vl, h_vl⟩ : ∃ z : Int64, (bb - dl) = z := ⟨_, rfl⟩
          refine o_lstore X52 at_133 h_vl (L' := #[.val (.long p0), .second, .val (.int p1), .val (.int p2), .val (.int p3), .val (.long dl), .second, .val (.int md), .val (.int (0 : Int32)), .val (.int (1 : Int32)), .val (.long mg), .second, .val (.long bb), .second, .val (.long vl), .second, .unset, .unset, .unset, .unset, .unset, .unset, .unset]) rfl (q := 135) rfl ?_
          refine o_iload X52 at_135 rfl (q := 137) rfl ?_
          have hbb : bb.toInt.natAbs < 4503599627370496 := own_neg hmg h_bb
          have hdl := own_dl h_dl
          have hvl := own_v hbb hdl h_vl
          refine o_ifY X52 at_137 (by decide) (by decide) (q := 146) (by decide) ?_
          refine o_dconst1 X52 at_146 (q := 147) rfl ?_
          refine o_dstore X52 at_147 rfl (L' := #[.val (.long p0), .second, .val (.int p1), .val (.int p2), .val (.int p3), .val (.long dl), .second, .val (.int md), .val (.int (0 : Int32)), .val (.int (1 : Int32)), .val (.long mg), .second, .val (.long bb), .second, .val (.long vl), .second, .val (.double FP.dconst1), .second, .unset, .unset, .unset, .unset, .unset]) rfl (q := 149) rfl ?_
          refine o_lload X52 at_149 rfl (q := 151) rfl ?_
          obtain ⟨d53, hd53⟩ : ∃ z : UInt64, FP.l2d vl = z := ⟨_, rfl⟩
          have iv53 : IsV d53 ((vl).toInt : Rat) := (hd53 ▸ IsV.l2d (by omega))
          refine o_l2d X52 at_151 hd53 (q := 152) rfl ?_
          refine o_dload X52 at_152 rfl (q := 154) rfl ?_
          obtain ⟨d54, hd54⟩ : ∃ z : UInt64, FP.dmul d53 FP.dconst1 = z := ⟨_, rfl⟩
          have iv54 : IsV d54 ((vl.toInt : Rat) * (1 : Rat)) := hd54 ▸ (IsV.mul iv53 IsV.one (own_rS 0 (by omega) (by decide) (by decide) (by decide +kernel)))
          refine o_dmul X52 at_154 (hd54.symm ▸ iv54.nn) hd54 (q := 155) rfl ?_
          refine o_lload X52 at_155 rfl (q := 157) rfl ?_
          obtain ⟨d55, hd55⟩ : ∃ z : UInt64, FP.l2d bb = z := ⟨_, rfl⟩
          have iv55 : IsV d55 ((bb).toInt : Rat) := (hd55 ▸ IsV.l2d (by omega))
          refine o_l2d X52 at_157 hd55 (q := 158) rfl ?_
          refine o_dload X52 at_158 rfl (q := 160) rfl ?_
          obtain ⟨d56, hd56⟩ : ∃ z : UInt64, FP.dmul d55 FP.dconst1 = z := ⟨_, rfl⟩
          have iv56 : IsV d56 ((bb.toInt : Rat) * (1 : Rat)) := hd56 ▸ (IsV.mul iv55 IsV.one (own_rS 0 (by omega) (by decide) (by decide) (by decide +kernel)))
          refine o_dmul X52 at_160 (hd56.symm ▸ iv56.nn) hd56 (q := 161) rfl ?_
          refine o_stat X52 [(.double d54), (.double d56)] (y' := (⟨"com/example/silvafront/silvafront/forest/Rounding", "fallsBelow", "(DD)Z"⟩ : MethodName)) (c_fb hw d54 d56 vl.toInt bb.toInt 1 (1 : Rat) _ iv54 iv56 (by decide +kernel) (by decide +kernel) (by decide +kernel) (by unfold Mx; omega) ((own_rS (n := bb.toInt - vl.toInt) 0 (by omega) (by decide) (by decide) (by decide +kernel)).eqv (own_E _ _ _).symm)) (w1 hw) (w2 hw) (w3 hw) (w4 hw) (by decide) at_161 (rest := []) rfl rfl (lenOf pd0 rfl) rfl (by decide) (Nat.le_of_ble_eq_true rfl) (by decide) (by decide) (q := 164) rfl ?_
          intro v57 T57 h57 l57 X57 q57
          obtain ⟨T_, g_, rfl, rT, hg, e57⟩ := q57
          have e57 := e57.symm
          subst e57
          show Goes p e below _ T57 (mkF m 164 #[.val (.long p0), .second, .val (.int p1), .val (.int p2), .val (.int p3), .val (.long dl), .second, .val (.int md), .val (.int (0 : Int32)), .val (.int (1 : Int32)), .val (.long mg), .second, .val (.long bb), .second, .val (.long vl), .second, .val (.double FP.dconst1), .second, .unset, .unset, .unset, .unset, .unset] [(.int g_)])
          refine o_istore X57 at_164 rfl (L' := #[.val (.long p0), .second, .val (.int p1), .val (.int p2), .val (.int p3), .val (.long dl), .second, .val (.int md), .val (.int (0 : Int32)), .val (.int (1 : Int32)), .val (.long mg), .second, .val (.long bb), .second, .val (.long vl), .second, .val (.double FP.dconst1), .second, .val (.int g_), .unset, .unset, .unset, .unset]) rfl (q := 166) rfl ?_
          refine o_lload X57 at_166 rfl (q := 168) rfl ?_
          refine o_stat X57 [(.long bb)] (y' := (⟨"java/lang/Math", "abs", "(J)J"⟩ : MethodName)) (c_absJ hw bb _) (w13 hw) (w14 hw) (w8 hw) (w15 hw) (by decide) at_168 (rest := []) rfl rfl (lenOf pd1 rfl) rfl (by decide) (Nat.le_of_ble_eq_true rfl) (by decide) (by decide) (q := 171) rfl ?_
          intro v58 T58 h58 l58 X58 q58
          obtain ⟨ab, rfl, h_ab, e58⟩ := q58
          have e58 := e58.symm
          subst e58
          show Goes p e below _ T58 (mkF m 171 #[.val (.long p0), .second, .val (.int p1), .val (.int p2), .val (.int p3), .val (.long dl), .second, .val (.int md), .val (.int (0 : Int32)), .val (.int (1 : Int32)), .val (.long mg), .second, .val (.long bb), .second, .val (.long vl), .second, .val (.double FP.dconst1), .second, .val (.int g_), .unset, .unset, .unset, .unset] [(.long ab)])
          refine o_lload X58 at_171 rfl (q := 173) rfl ?_
          refine o_stat X58 [(.long vl)] (y' := (⟨"java/lang/Math", "abs", "(J)J"⟩ : MethodName)) (c_absJ hw vl _) (w13 hw) (w14 hw) (w8 hw) (w15 hw) (by decide) at_173 (rest := [(.long ab)]) rfl rfl (lenOf pd1 rfl) rfl (by decide) (Nat.le_of_ble_eq_true rfl) (by decide) (by decide) (q := 176) rfl ?_
          intro v59 T59 h59 l59 X59 q59
          obtain ⟨av, rfl, h_av, e59⟩ := q59
          have e59 := e59.symm
          subst e59
          show Goes p e below _ T59 (mkF m 176 #[.val (.long p0), .second, .val (.int p1), .val (.int p2), .val (.int p3), .val (.long dl), .second, .val (.int md), .val (.int (0 : Int32)), .val (.int (1 : Int32)), .val (.long mg), .second, .val (.long bb), .second, .val (.long vl), .second, .val (.double FP.dconst1), .second, .val (.int g_), .unset, .unset, .unset, .unset] [(.long av), (.long ab)])
          refine o_stat X59 [(.long ab), (.long av)] (y' := (⟨"java/lang/Math", "max", "(JJ)J"⟩ : MethodName)) (c_maxJ hw ab av _) (w16 hw) (w17 hw) (w8 hw) (w18 hw) (by decide) at_176 (rest := []) rfl rfl (lenOf pd2 rfl) rfl (by decide) (Nat.le_of_ble_eq_true rfl) (by decide) (by decide) (q := 179) rfl ?_
          intro v60 T60 h60 l60 X60 q60
          obtain ⟨m0, rfl, h_m0, e60⟩ := q60
          have e60 := e60.symm
          subst e60
          show Goes p e below _ T60 (mkF m 179 #[.val (.long p0), .second, .val (.int p1), .val (.int p2), .val (.int p3), .val (.long dl), .second, .val (.int md), .val (.int (0 : Int32)), .val (.int (1 : Int32)), .val (.long mg), .second, .val (.long bb), .second, .val (.long vl), .second, .val (.double FP.dconst1), .second, .val (.int g_), .unset, .unset, .unset, .unset] [(.long m0)])
          refine o_iload X60 at_179 rfl (q := 181) rfl ?_
          refine o_ifY X60 at_181 (by decide) (by decide) (q := 190) (by decide) ?_
          refine o_lconst X60 at_190 (w := 1) rfl (q := 191) rfl ?_
          refine o_stat X60 [(.long m0), (.long (1 : Int64))] (y' := (⟨"java/lang/Math", "max", "(JJ)J"⟩ : MethodName)) (c_maxJ hw m0 (1 : Int64) _) (w16 hw) (w17 hw) (w8 hw) (w18 hw) (by decide) at_191 (rest := []) rfl rfl (lenOf pd2 rfl) rfl (by decide) (Nat.le_of_ble_eq_true rfl) (by decide) (by decide) (q := 194) rfl ?_
          intro v61 T61 h61 l61 X61 q61
          obtain ⟨ms, rfl, h_ms, e61⟩ := q61
          have e61 := e61.symm
          subst e61
          show Goes p e below _ T61 (mkF m 194 #[.val (.long p0), .second, .val (.int p1), .val (.int p2), .val (.int p3), .val (.long dl), .second, .val (.int md), .val (.int (0 : Int32)), .val (.int (1 : Int32)), .val (.long mg), .second, .val (.long bb), .second, .val (.long vl), .second, .val (.double FP.dconst1), .second, .val (.int g_), .unset, .unset, .unset, .unset] [(.long ms)])
          obtain ⟨ss, h_ss⟩ : ∃ z : Int64, ms = z := ⟨_, rfl⟩
          refine o_lstore X61 at_194 h_ss (L' := #[.val (.long p0), .second, .val (.int p1), .val (.int p2), .val (.int p3), .val (.long dl), .second, .val (.int md), .val (.int (0 : Int32)), .val (.int (1 : Int32)), .val (.long mg), .second, .val (.long bb), .second, .val (.long vl), .second, .val (.double FP.dconst1), .second, .val (.int g_), .val (.long ss), .second, .unset, .unset]) rfl (q := 196) rfl ?_
          refine o_lload X61 at_196 rfl (q := 198) rfl ?_
          refine o_ldcJ X61 (w19 hw) at_198 (q := 201) rfl ?_
          refine o_lmul X61 at_201 (w := (dl * (1000000000000 : Int64))) rfl (q := 202) rfl ?_
          obtain ⟨lh, h_lh⟩ : ∃ z : Int64, (dl * (1000000000000 : Int64)) = z := ⟨_, rfl⟩
          refine o_lstore X61 at_202 h_lh (L' := #[.val (.long p0), .second, .val (.int p1), .val (.int p2), .val (.int p3), .val (.long dl), .second, .val (.int md), .val (.int (0 : Int32)), .val (.int (1 : Int32)), .val (.long mg), .second, .val (.long bb), .second, .val (.long vl), .second, .val (.double FP.dconst1), .second, .val (.int g_), .val (.long ss), .second, .val (.long lh), .second]) rfl (q := 204) rfl ?_
          refine o_lload X61 at_204 rfl (q := 206) rfl ?_
          refine o_lload X61 at_206 rfl (q := 208) rfl ?_
          refine o_lsub X61 at_208 (w := (lh - ss)) rfl (q := 209) rfl ?_
          refine o_stat X61 [(.long (lh - ss))] (y' := (⟨"java/lang/Math", "abs", "(J)J"⟩ : MethodName)) (c_absJ hw (lh - ss) _) (w13 hw) (w14 hw) (w8 hw) (w15 hw) (by decide) at_209 (rest := []) rfl rfl (lenOf pd1 rfl) rfl (by decide) (Nat.le_of_ble_eq_true rfl) (by decide) (by decide) (q := 212) rfl ?_
          intro v62 T62 h62 l62 X62 q62
          obtain ⟨a4, rfl, h_a4, e62⟩ := q62
          have e62 := e62.symm
          subst e62
          show Goes p e below _ T62 (mkF m 212 #[.val (.long p0), .second, .val (.int p1), .val (.int p2), .val (.int p3), .val (.long dl), .second, .val (.int md), .val (.int (0 : Int32)), .val (.int (1 : Int32)), .val (.long mg), .second, .val (.long bb), .second, .val (.long vl), .second, .val (.double FP.dconst1), .second, .val (.int g_), .val (.long ss), .second, .val (.long lh), .second] [(.long a4)])
          refine o_ldcJ X62 (w20 hw) at_212 (q := 215) rfl ?_
          refine o_lcmp X62 at_215 (w := (lcmpW a4 (4 : Int64))) rfl (q := 216) rfl ?_
          by_cases hc216 : (0 : Int32) < (lcmpW a4 (4 : Int64))
          · refine o_ifY X62 at_216 (tlt hc216).2.2.1 (by decide) (q := 221) (by decide) ?_
            refine o_iload X62 at_221 rfl (q := 223) rfl ?_
            refine o_lload X62 at_223 rfl (q := 225) rfl ?_
            refine o_lload X62 at_225 rfl (q := 227) rfl ?_
            refine o_lcmp X62 at_227 (w := (lcmpW lh ss)) rfl (q := 228) rfl ?_
            have hss := own_ss hbb (by omega) (Lc := (1 : Int64)) (by decide) h_ab h_av h_m0 (h_ms.trans h_ss)
            have hlh := own_lh hdl h_lh
            have hcut := own_cut (l := lh) (s := ss) (by omega) hss.2 (by rw [h_a4]; exact hc216)
            have hfin := own_fin (D := bb.toInt - vl.toInt) (S := ss.toInt) (sg := (1 : Rat)) (T := T_) (by decide +kernel) hss.2.1 hss.2.2 (by rw [hss.1]; exact (rT.2.2 (own_KM (v := vl.toInt) (b := bb.toInt) (L := 1) (sg := (1 : Rat)) (by decide +kernel) (by decide +kernel) (by unfold Mx; omega) (by decide +kernel)).2.2.1).1) (by rw [hss.1]; exact (rT.2.2 (own_KM (v := vl.toInt) (b := bb.toInt) (L := 1) (sg := (1 : Rat)) (by decide +kernel) (by decide +kernel) (by unfold Mx; omega) (by decide +kernel)).2.2.1).2)
            rw [own_E] at hg
            by_cases hc228 : (0 : Int32) < (lcmpW lh ss)
            · refine o_ifN X62 at_228 (tlt hc228).2.2.2 (q := 231) rfl ?_
              refine o_iconst X62 at_231 (w := 1) rfl (q := 232) rfl ?_
              refine o_goto X62 at_232 (by decide) (q := 236) (by decide) ?_
              refine o_icmpN X62 at_236 (teq (own_g1 hg (hfin.1 (by have q := (lw_gt _ _).mp hc228; rw [Int64.lt_iff_toInt_lt] at q; omega)))).2 (q := 239) rfl ?_
              refine o_iconst X62 at_239 (w := 1) rfl (q := 240) rfl ?_
              refine o_goto X62 at_240 (by decide) (q := 244) (by decide) ?_
              exact o_retN X62 at_244 (by simp) rfl (by decide) (by decide)
            · refine o_ifY X62 at_228 (flt hc228).2.2.2 (by decide) (q := 235) (by decide) ?_
              refine o_iconst X62 at_235 (w := 0) rfl (q := 236) rfl ?_
              refine o_icmpN X62 at_236 (teq (own_g0 hg (hfin.2 (by have q : ¬ ss < lh := fun z => hc228 ((lw_gt _ _).mpr z); rw [Int64.lt_iff_toInt_lt] at q; omega)))).2 (q := 239) rfl ?_
              refine o_iconst X62 at_239 (w := 1) rfl (q := 240) rfl ?_
              refine o_goto X62 at_240 (by decide) (q := 244) (by decide) ?_
              exact o_retN X62 at_244 (by simp) rfl (by decide) (by decide)
          · refine o_ifN X62 at_216 (flt hc216).2.2.1 (q := 219) rfl ?_
            refine o_iconst X62 at_219 (w := 1) rfl (q := 220) rfl ?_
            exact o_retN X62 at_220 (by simp) rfl (by decide) (by decide)
  · refine o_ifN X at_22 (feq hc22).1 (q := 25) rfl ?_
    refine o_iconst X at_25 (w := 1) rfl (q := 26) rfl ?_
    refine o_goto X at_26 (by decide) (q := 30) (by decide) ?_
    refine o_istore X at_30 rfl (L' := #[.val (.long p0), .second, .val (.int p1), .val (.int p2), .val (.int p3), .val (.long dl), .second, .val (.int md), .val (.int (1 : Int32)), .unset, .unset, .unset, .unset, .unset, .unset, .unset, .unset, .unset, .unset, .unset, .unset, .unset, .unset]) rfl (q := 32) rfl ?_
    refine o_iload X at_32 rfl (q := 34) rfl ?_
    refine o_bipush X at_34 (w := 8) rfl (q := 36) rfl ?_
    refine o_iand X at_36 (w := (p3 &&& (8 : Int32))) rfl (q := 37) rfl ?_
    by_cases hc37 : (p3 &&& (8 : Int32)) = (0 : Int32)
    · refine o_ifY X at_37 (teq hc37).1 (by decide) (q := 44) (by decide) ?_
      refine o_iconst X at_44 (w := 0) rfl (q := 45) rfl ?_
      refine o_istore X at_45 rfl (L' := #[.val (.long p0), .second, .val (.int p1), .val (.int p2), .val (.int p3), .val (.long dl), .second, .val (.int md), .val (.int (1 : Int32)), .val (.int (0 : Int32)), .unset, .unset, .unset, .unset, .unset, .unset, .unset, .unset, .unset, .unset, .unset, .unset, .unset]) rfl (q := 47) rfl ?_
      refine o_iload X at_47 rfl (q := 49) rfl ?_
      by_cases hc49 : md = (0 : Int32)
      · refine o_ifN X at_49 (teq hc49).2 (q := 52) rfl ?_
        refine o_lloadN X at_52 rfl (q := 53) rfl ?_
        refine o_ldcJ X (w0 hw) at_53 (q := 56) rfl ?_
        refine o_land X at_56 (w := (p0 &&& (4503599627370495 : Int64))) rfl (q := 57) rfl ?_
        obtain ⟨mg, h_mg⟩ : ∃ z : Int64, (p0 &&& (4503599627370495 : Int64)) = z := ⟨_, rfl⟩
        refine o_lstore X at_57 h_mg (L' := #[.val (.long p0), .second, .val (.int p1), .val (.int p2), .val (.int p3), .val (.long dl), .second, .val (.int md), .val (.int (1 : Int32)), .val (.int (0 : Int32)), .val (.long mg), .second, .unset, .unset, .unset, .unset, .unset, .unset, .unset, .unset, .unset, .unset, .unset]) rfl (q := 59) rfl ?_
        refine o_goto X at_59 (by decide) (q := 113) (by decide) ?_
        refine o_iload X at_113 rfl (q := 115) rfl ?_
        have hmg : 0 ≤ mg.toInt ∧ mg.toInt < 4503599627370496 := own_mk h_mg (by decide) (k := 52) (by decide)
        refine o_ifY X at_115 (by decide) (by decide) (q := 124) (by decide) ?_
        refine o_lload X at_124 rfl (q := 126) rfl ?_
        obtain ⟨bb, h_bb⟩ : ∃ z : Int64, mg = z := ⟨_, rfl⟩
        refine o_lstore X at_126 h_bb (L' := #[.val (.long p0), .second, .val (.int p1), .val (.int p2), .val (.int p3), .val (.long dl), .second, .val (.int md), .val (.int (1 : Int32)), .val (.int (0 : Int32)), .val (.long mg), .second, .val (.long bb), .second, .unset, .unset, .unset, .unset, .unset, .unset, .unset, .unset, .unset]) rfl (q := 128) rfl ?_
        refine o_lload X at_128 rfl (q := 130) rfl ?_
        refine o_lload X at_130 rfl (q := 132) rfl ?_
        refine o_lsub X at_132 (w := (bb - dl)) rfl (q := 133) rfl ?_
        obtain ⟨vl, h_vl⟩ : ∃ z : Int64, (bb - dl) = z := ⟨_, rfl⟩
        refine o_lstore X at_133 h_vl (L' := #[.val (.long p0), .second, .val (.int p1), .val (.int p2), .val (.int p3), .val (.long dl), .second, .val (.int md), .val (.int (1 : Int32)), .val (.int (0 : Int32)), .val (.long mg), .second, .val (.long bb), .second, .val (.long vl), .second, .unset, .unset, .unset, .unset, .unset, .unset, .unset]) rfl (q := 135) rfl ?_
        refine o_iload X at_135 rfl (q := 137) rfl ?_
        have hbb : bb.toInt.natAbs < 4503599627370496 := by rw [← h_bb]; omega
        have hdl := own_dl h_dl
        have hvl := own_v hbb hdl h_vl
        refine o_ifN X at_137 (by decide) (q := 140) rfl ?_
        have iv63 : IsV (4427038433705197568 : UInt64) ((1 : Rat) / 1099511627776) := ⟨false, 4503599627370496, (-92), by decide +kernel, by decide +kernel⟩
        refine o_ldcD X (w21 hw) at_140 (q := 143) rfl ?_
        refine o_goto X at_143 (by decide) (q := 147) (by decide) ?_
        refine o_dstore X at_147 rfl (L' := #[.val (.long p0), .second, .val (.int p1), .val (.int p2), .val (.int p3), .val (.long dl), .second, .val (.int md), .val (.int (1 : Int32)), .val (.int (0 : Int32)), .val (.long mg), .second, .val (.long bb), .second, .val (.long vl), .second, .val (.double (4427038433705197568 : UInt64)), .second, .unset, .unset, .unset, .unset, .unset]) rfl (q := 149) rfl ?_
        refine o_lload X at_149 rfl (q := 151) rfl ?_
        obtain ⟨d64, hd64⟩ : ∃ z : UInt64, FP.l2d vl = z := ⟨_, rfl⟩
        have iv64 : IsV d64 ((vl).toInt : Rat) := (hd64 ▸ IsV.l2d (by omega))
        refine o_l2d X at_151 hd64 (q := 152) rfl ?_
        refine o_dload X at_152 rfl (q := 154) rfl ?_
        obtain ⟨d65, hd65⟩ : ∃ z : UInt64, FP.dmul d64 (4427038433705197568 : UInt64) = z := ⟨_, rfl⟩
        have iv65 : IsV d65 ((vl.toInt : Rat) * ((1 : Rat) / 1099511627776)) := hd65 ▸ (IsV.mul iv64 iv63 (own_rS (-40) (by omega) (by decide) (by decide) (by decide +kernel)))
        refine o_dmul X at_154 (hd65.symm ▸ iv65.nn) hd65 (q := 155) rfl ?_
        refine o_lload X at_155 rfl (q := 157) rfl ?_
        obtain ⟨d66, hd66⟩ : ∃ z : UInt64, FP.l2d bb = z := ⟨_, rfl⟩
        have iv66 : IsV d66 ((bb).toInt : Rat) := (hd66 ▸ IsV.l2d (by omega))
        refine o_l2d X at_157 hd66 (q := 158) rfl ?_
        refine o_dload X at_158 rfl (q := 160) rfl ?_
        obtain ⟨d67, hd67⟩ : ∃ z : UInt64, FP.dmul d66 (4427038433705197568 : UInt64) = z := ⟨_, rfl⟩
        have iv67 : IsV d67 ((bb.toInt : Rat) * ((1 : Rat) / 1099511627776)) := hd67 ▸ (IsV.mul iv66 iv63 (own_rS (-40) (by omega) (by decide) (by decide) (by decide +kernel)))
        refine o_dmul X at_160 (hd67.symm ▸ iv67.nn) hd67 (q := 161) rfl ?_
        refine o_stat X [(.double d65), (.double d67)] (y' := (⟨"com/example/silvafront/silvafront/forest/Rounding", "fallsBelow", "(DD)Z"⟩ : MethodName)) (c_fb hw d65 d67 vl.toInt bb.toInt 1099511627776 ((1 : Rat) / 1099511627776) _ iv65 iv67 (by decide +kernel) (by decide +kernel) (by decide +kernel) (by unfold Mx; omega) ((own_rS (n := bb.toInt - vl.toInt) (-40) (by omega) (by decide) (by decide) (by decide +kernel)).eqv (own_E _ _ _).symm)) (w1 hw) (w2 hw) (w3 hw) (w4 hw) (by decide) at_161 (rest := []) rfl rfl (lenOf pd0 rfl) rfl (by decide) (Nat.le_of_ble_eq_true rfl) (by decide) (by decide) (q := 164) rfl ?_
        intro v68 T68 h68 l68 X68 q68
        obtain ⟨T_, g_, rfl, rT, hg, e68⟩ := q68
        have e68 := e68.symm
        subst e68
        show Goes p e below _ T68 (mkF m 164 #[.val (.long p0), .second, .val (.int p1), .val (.int p2), .val (.int p3), .val (.long dl), .second, .val (.int md), .val (.int (1 : Int32)), .val (.int (0 : Int32)), .val (.long mg), .second, .val (.long bb), .second, .val (.long vl), .second, .val (.double (4427038433705197568 : UInt64)), .second, .unset, .unset, .unset, .unset, .unset] [(.int g_)])
        refine o_istore X68 at_164 rfl (L' := #[.val (.long p0), .second, .val (.int p1), .val (.int p2), .val (.int p3), .val (.long dl), .second, .val (.int md), .val (.int (1 : Int32)), .val (.int (0 : Int32)), .val (.long mg), .second, .val (.long bb), .second, .val (.long vl), .second, .val (.double (4427038433705197568 : UInt64)), .second, .val (.int g_), .unset, .unset, .unset, .unset]) rfl (q := 166) rfl ?_
        refine o_lload X68 at_166 rfl (q := 168) rfl ?_
        refine o_stat X68 [(.long bb)] (y' := (⟨"java/lang/Math", "abs", "(J)J"⟩ : MethodName)) (c_absJ hw bb _) (w13 hw) (w14 hw) (w8 hw) (w15 hw) (by decide) at_168 (rest := []) rfl rfl (lenOf pd1 rfl) rfl (by decide) (Nat.le_of_ble_eq_true rfl) (by decide) (by decide) (q := 171) rfl ?_
        intro v69 T69 h69 l69 X69 q69
        obtain ⟨ab, rfl, h_ab, e69⟩ := q69
        have e69 := e69.symm
        subst e69
        show Goes p e below _ T69 (mkF m 171 #[.val (.long p0), .second, .val (.int p1), .val (.int p2), .val (.int p3), .val (.long dl), .second, .val (.int md), .val (.int (1 : Int32)), .val (.int (0 : Int32)), .val (.long mg), .second, .val (.long bb), .second, .val (.long vl), .second, .val (.double (4427038433705197568 : UInt64)), .second, .val (.int g_), .unset, .unset, .unset, .unset] [(.long ab)])
        refine o_lload X69 at_171 rfl (q := 173) rfl ?_
        refine o_stat X69 [(.long vl)] (y' := (⟨"java/lang/Math", "abs", "(J)J"⟩ : MethodName)) (c_absJ hw vl _) (w13 hw) (w14 hw) (w8 hw) (w15 hw) (by decide) at_173 (rest := [(.long ab)]) rfl rfl (lenOf pd1 rfl) rfl (by decide) (Nat.le_of_ble_eq_true rfl) (by decide) (by decide) (q := 176) rfl ?_
        intro v70 T70 h70 l70 X70 q70
        obtain ⟨av, rfl, h_av, e70⟩ := q70
        have e70 := e70.symm
        subst e70
        show Goes p e below _ T70 (mkF m 176 #[.val (.long p0), .second, .val (.int p1), .val (.int p2), .val (.int p3), .val (.long dl), .second, .val (.int md), .val (.int (1 : Int32)), .val (.int (0 : Int32)), .val (.long mg), .second, .val (.long bb), .second, .val (.long vl), .second, .val (.double (4427038433705197568 : UInt64)), .second, .val (.int g_), .unset, .unset, .unset, .unset] [(.long av), (.long ab)])
        refine o_stat X70 [(.long ab), (.long av)] (y' := (⟨"java/lang/Math", "max", "(JJ)J"⟩ : MethodName)) (c_maxJ hw ab av _) (w16 hw) (w17 hw) (w8 hw) (w18 hw) (by decide) at_176 (rest := []) rfl rfl (lenOf pd2 rfl) rfl (by decide) (Nat.le_of_ble_eq_true rfl) (by decide) (by decide) (q := 179) rfl ?_
        intro v71 T71 h71 l71 X71 q71
        obtain ⟨m0, rfl, h_m0, e71⟩ := q71
        have e71 := e71.symm
        subst e71
        show Goes p e below _ T71 (mkF m 179 #[.val (.long p0), .second, .val (.int p1), .val (.int p2), .val (.int p3), .val (.long dl), .second, .val (.int md), .val (.int (1 : Int32)), .val (.int (0 : Int32)), .val (.long mg), .second, .val (.long bb), .second, .val (.long vl), .second, .val (.double (4427038433705197568 : UInt64)), .second, .val (.int g_), .unset, .unset, .unset, .unset] [(.long m0)])
        refine o_iload X71 at_179 rfl (q := 181) rfl ?_
        refine o_ifN X71 at_181 (by decide) (q := 184) rfl ?_
        refine o_ldcJ X71 (w22 hw) at_184 (q := 187) rfl ?_
        refine o_goto X71 at_187 (by decide) (q := 191) (by decide) ?_
        refine o_stat X71 [(.long m0), (.long (1099511627776 : Int64))] (y' := (⟨"java/lang/Math", "max", "(JJ)J"⟩ : MethodName)) (c_maxJ hw m0 (1099511627776 : Int64) _) (w16 hw) (w17 hw) (w8 hw) (w18 hw) (by decide) at_191 (rest := []) rfl rfl (lenOf pd2 rfl) rfl (by decide) (Nat.le_of_ble_eq_true rfl) (by decide) (by decide) (q := 194) rfl ?_
        intro v72 T72 h72 l72 X72 q72
        obtain ⟨ms, rfl, h_ms, e72⟩ := q72
        have e72 := e72.symm
        subst e72
        show Goes p e below _ T72 (mkF m 194 #[.val (.long p0), .second, .val (.int p1), .val (.int p2), .val (.int p3), .val (.long dl), .second, .val (.int md), .val (.int (1 : Int32)), .val (.int (0 : Int32)), .val (.long mg), .second, .val (.long bb), .second, .val (.long vl), .second, .val (.double (4427038433705197568 : UInt64)), .second, .val (.int g_), .unset, .unset, .unset, .unset] [(.long ms)])
        obtain ⟨ss, h_ss⟩ : ∃ z : Int64, ms = z := ⟨_, rfl⟩
        refine o_lstore X72 at_194 h_ss (L' := #[.val (.long p0), .second, .val (.int p1), .val (.int p2), .val (.int p3), .val (.long dl), .second, .val (.int md), .val (.int (1 : Int32)), .val (.int (0 : Int32)), .val (.long mg), .second, .val (.long bb), .second, .val (.long vl), .second, .val (.double (4427038433705197568 : UInt64)), .second, .val (.int g_), .val (.long ss), .second, .unset, .unset]) rfl (q := 196) rfl ?_
        refine o_lload X72 at_196 rfl (q := 198) rfl ?_
        refine o_ldcJ X72 (w19 hw) at_198 (q := 201) rfl ?_
        refine o_lmul X72 at_201 (w := (dl * (1000000000000 : Int64))) rfl (q := 202) rfl ?_
        obtain ⟨lh, h_lh⟩ : ∃ z : Int64, (dl * (1000000000000 : Int64)) = z := ⟨_, rfl⟩
        refine o_lstore X72 at_202 h_lh (L' := #[.val (.long p0), .second, .val (.int p1), .val (.int p2), .val (.int p3), .val (.long dl), .second, .val (.int md), .val (.int (1 : Int32)), .val (.int (0 : Int32)), .val (.long mg), .second, .val (.long bb), .second, .val (.long vl), .second, .val (.double (4427038433705197568 : UInt64)), .second, .val (.int g_), .val (.long ss), .second, .val (.long lh), .second]) rfl (q := 204) rfl ?_
        refine o_lload X72 at_204 rfl (q := 206) rfl ?_
        refine o_lload X72 at_206 rfl (q := 208) rfl ?_
        refine o_lsub X72 at_208 (w := (lh - ss)) rfl (q := 209) rfl ?_
        refine o_stat X72 [(.long (lh - ss))] (y' := (⟨"java/lang/Math", "abs", "(J)J"⟩ : MethodName)) (c_absJ hw (lh - ss) _) (w13 hw) (w14 hw) (w8 hw) (w15 hw) (by decide) at_209 (rest := []) rfl rfl (lenOf pd1 rfl) rfl (by decide) (Nat.le_of_ble_eq_true rfl) (by decide) (by decide) (q := 212) rfl ?_
        intro v73 T73 h73 l73 X73 q73
        obtain ⟨a4, rfl, h_a4, e73⟩ := q73
        have e73 := e73.symm
        subst e73
        show Goes p e below _ T73 (mkF m 212 #[.val (.long p0), .second, .val (.int p1), .val (.int p2), .val (.int p3), .val (.long dl), .second, .val (.int md), .val (.int (1 : Int32)), .val (.int (0 : Int32)), .val (.long mg), .second, .val (.long bb), .second, .val (.long vl), .second, .val (.double (4427038433705197568 : UInt64)), .second, .val (.int g_), .val (.long ss), .second, .val (.long lh), .second] [(.long a4)])
        refine o_ldcJ X73 (w20 hw) at_212 (q := 215) rfl ?_
        refine o_lcmp X73 at_215 (w := (lcmpW a4 (4 : Int64))) rfl (q := 216) rfl ?_
        by_cases hc216 : (0 : Int32) < (lcmpW a4 (4 : Int64))
        · refine o_ifY X73 at_216 (tlt hc216).2.2.1 (by decide) (q := 221) (by decide) ?_
          refine o_iload X73 at_221 rfl (q := 223) rfl ?_
          refine o_lload X73 at_223 rfl (q := 225) rfl ?_
          refine o_lload X73 at_225 rfl (q := 227) rfl ?_
          refine o_lcmp X73 at_227 (w := (lcmpW lh ss)) rfl (q := 228) rfl ?_
          have hss := own_ss hbb (by omega) (Lc := (1099511627776 : Int64)) (by decide) h_ab h_av h_m0 (h_ms.trans h_ss)
          have hlh := own_lh hdl h_lh
          have hcut := own_cut (l := lh) (s := ss) (by omega) hss.2 (by rw [h_a4]; exact hc216)
          have hfin := own_fin (D := bb.toInt - vl.toInt) (S := ss.toInt) (sg := ((1 : Rat) / 1099511627776)) (T := T_) (by decide +kernel) hss.2.1 hss.2.2 (by rw [hss.1]; exact (rT.2.2 (own_KM (v := vl.toInt) (b := bb.toInt) (L := 1099511627776) (sg := ((1 : Rat) / 1099511627776)) (by decide +kernel) (by decide +kernel) (by unfold Mx; omega) (by decide +kernel)).2.2.1).1) (by rw [hss.1]; exact (rT.2.2 (own_KM (v := vl.toInt) (b := bb.toInt) (L := 1099511627776) (sg := ((1 : Rat) / 1099511627776)) (by decide +kernel) (by decide +kernel) (by unfold Mx; omega) (by decide +kernel)).2.2.1).2)
          rw [own_E] at hg
          by_cases hc228 : (0 : Int32) < (lcmpW lh ss)
          · refine o_ifN X73 at_228 (tlt hc228).2.2.2 (q := 231) rfl ?_
            refine o_iconst X73 at_231 (w := 1) rfl (q := 232) rfl ?_
            refine o_goto X73 at_232 (by decide) (q := 236) (by decide) ?_
            refine o_icmpN X73 at_236 (teq (own_g1 hg (hfin.1 (by have q := (lw_gt _ _).mp hc228; rw [Int64.lt_iff_toInt_lt] at q; omega)))).2 (q := 239) rfl ?_
            refine o_iconst X73 at_239 (w := 1) rfl (q := 240) rfl ?_
            refine o_goto X73 at_240 (by decide) (q := 244) (by decide) ?_
            exact o_retN X73 at_244 (by simp) rfl (by decide) (by decide)
          · refine o_ifY X73 at_228 (flt hc228).2.2.2 (by decide) (q := 235) (by decide) ?_
            refine o_iconst X73 at_235 (w := 0) rfl (q := 236) rfl ?_
            refine o_icmpN X73 at_236 (teq (own_g0 hg (hfin.2 (by have q : ¬ ss < lh := fun z => hc228 ((lw_gt _ _).mpr z); rw [Int64.lt_iff_toInt_lt] at q; omega)))).2 (q := 239) rfl ?_
            refine o_iconst X73 at_239 (w := 1) rfl (q := 240) rfl ?_
            refine o_goto X73 at_240 (by decide) (q := 244) (by decide) ?_
            exact o_retN X73 at_244 (by simp) rfl (by decide) (by decide)
        · refine o_ifN X73 at_216 (flt hc216).2.2.1 (q := 219) rfl ?_
          refine o_iconst X73 at_219 (w := 1) rfl (q := 220) rfl ?_
          exact o_retN X73 at_220 (by simp) rfl (by decide) (by decide)
      · refine o_ifY X at_49 (feq hc49).2 (by decide) (q := 62) (by decide) ?_
        refine o_iload X at_62 rfl (q := 64) rfl ?_
        refine o_iconst X at_64 (w := 1) rfl (q := 65) rfl ?_
        by_cases hc65 : md = (1 : Int32)
        · refine o_icmpN X at_65 (teq hc65).2 (q := 68) rfl ?_
          refine o_lloadN X at_68 rfl (q := 69) rfl ?_
          refine o_ldcJ X (w23 hw) at_69 (q := 72) rfl ?_
          refine o_land X at_72 (w := (p0 &&& (1048575 : Int64))) rfl (q := 73) rfl ?_
          obtain ⟨mg, h_mg⟩ : ∃ z : Int64, (p0 &&& (1048575 : Int64)) = z := ⟨_, rfl⟩
          refine o_lstore X at_73 h_mg (L' := #[.val (.long p0), .second, .val (.int p1), .val (.int p2), .val (.int p3), .val (.long dl), .second, .val (.int md), .val (.int (1 : Int32)), .val (.int (0 : Int32)), .val (.long mg), .second, .unset, .unset, .unset, .unset, .unset, .unset, .unset, .unset, .unset, .unset, .unset]) rfl (q := 75) rfl ?_
          refine o_goto X at_75 (by decide) (q := 113) (by decide) ?_
          refine o_iload X at_113 rfl (q := 115) rfl ?_
          have hmg : 0 ≤ mg.toInt ∧ mg.toInt < 4503599627370496 := (fun q : 0 ≤ mg.toInt ∧ mg.toInt < (2 ^ 20 : Nat) => (⟨q.1, by omega⟩ : 0 ≤ mg.toInt ∧ mg.toInt < 4503599627370496)) (own_mk h_mg (by decide) (k := 20) (by decide))
          refine o_ifY X at_115 (by decide) (by decide) (q := 124) (by decide) ?_
          refine o_lload X at_124 rfl (q := 126) rfl ?_
          obtain ⟨bb, h_bb⟩ : ∃ z : Int64, mg = z := ⟨_, rfl⟩
          refine o_lstore X at_126 h_bb (L' := #[.val (.long p0), .second, .val (.int p1), .val (.int p2), .val (.int p3), .val (.long dl), .second, .val (.int md), .val (.int (1 : Int32)), .val (.int (0 : Int32)), .val (.long mg), .second, .val (.long bb), .second, .unset, .unset, .unset, .unset, .unset, .unset, .unset, .unset, .unset]) rfl (q := 128) rfl ?_
          refine o_lload X at_128 rfl (q := 130) rfl ?_
          refine o_lload X at_130 rfl (q := 132) rfl ?_
          refine o_lsub X at_132 (w := (bb - dl)) rfl (q := 133) rfl ?_
          obtain ⟨vl, h_vl⟩ : ∃ z : Int64, (bb - dl) = z := ⟨_, rfl⟩
          refine o_lstore X at_133 h_vl (L' := #[.val (.long p0), .second, .val (.int p1), .val (.int p2), .val (.int p3), .val (.long dl), .second, .val (.int md), .val (.int (1 : Int32)), .val (.int (0 : Int32)), .val (.long mg), .second, .val (.long bb), .second, .val (.long vl), .second, .unset, .unset, .unset, .unset, .unset, .unset, .unset]) rfl (q := 135) rfl ?_
          refine o_iload X at_135 rfl (q := 137) rfl ?_
          have hbb : bb.toInt.natAbs < 4503599627370496 := by rw [← h_bb]; omega
          have hdl := own_dl h_dl
          have hvl := own_v hbb hdl h_vl
          refine o_ifN X at_137 (by decide) (q := 140) rfl ?_
          have iv74 : IsV (4427038433705197568 : UInt64) ((1 : Rat) / 1099511627776) := ⟨false, 4503599627370496, (-92), by decide +kernel, by decide +kernel⟩
          refine o_ldcD X (w21 hw) at_140 (q := 143) rfl ?_
          refine o_goto X at_143 (by decide) (q := 147) (by decide) ?_
          refine o_dstore X at_147 rfl (L' := #[.val (.long p0), .second, .val (.int p1), .val (.int p2), .val (.int p3), .val (.long dl), .second, .val (.int md), .val (.int (1 : Int32)), .val (.int (0 : Int32)), .val (.long mg), .second, .val (.long bb), .second, .val (.long vl), .second, .val (.double (4427038433705197568 : UInt64)), .second, .unset, .unset, .unset, .unset, .unset]) rfl (q := 149) rfl ?_
          refine o_lload X at_149 rfl (q := 151) rfl ?_
          obtain ⟨d75, hd75⟩ : ∃ z : UInt64, FP.l2d vl = z := ⟨_, rfl⟩
          have iv75 : IsV d75 ((vl).toInt : Rat) := (hd75 ▸ IsV.l2d (by omega))
          refine o_l2d X at_151 hd75 (q := 152) rfl ?_
          refine o_dload X at_152 rfl (q := 154) rfl ?_
          obtain ⟨d76, hd76⟩ : ∃ z : UInt64, FP.dmul d75 (4427038433705197568 : UInt64) = z := ⟨_, rfl⟩
          have iv76 : IsV d76 ((vl.toInt : Rat) * ((1 : Rat) / 1099511627776)) := hd76 ▸ (IsV.mul iv75 iv74 (own_rS (-40) (by omega) (by decide) (by decide) (by decide +kernel)))
          refine o_dmul X at_154 (hd76.symm ▸ iv76.nn) hd76 (q := 155) rfl ?_
          refine o_lload X at_155 rfl (q := 157) rfl ?_
          obtain ⟨d77, hd77⟩ : ∃ z : UInt64, FP.l2d bb = z := ⟨_, rfl⟩
          have iv77 : IsV d77 ((bb).toInt : Rat) := (hd77 ▸ IsV.l2d (by omega))
          refine o_l2d X at_157 hd77 (q := 158) rfl ?_
          refine o_dload X at_158 rfl (q := 160) rfl ?_
          obtain ⟨d78, hd78⟩ : ∃ z : UInt64, FP.dmul d77 (4427038433705197568 : UInt64) = z := ⟨_, rfl⟩
          have iv78 : IsV d78 ((bb.toInt : Rat) * ((1 : Rat) / 1099511627776)) := hd78 ▸ (IsV.mul iv77 iv74 (own_rS (-40) (by omega) (by decide) (by decide) (by decide +kernel)))
          refine o_dmul X at_160 (hd78.symm ▸ iv78.nn) hd78 (q := 161) rfl ?_
          refine o_stat X [(.double d76), (.double d78)] (y' := (⟨"com/example/silvafront/silvafront/forest/Rounding", "fallsBelow", "(DD)Z"⟩ : MethodName)) (c_fb hw d76 d78 vl.toInt bb.toInt 1099511627776 ((1 : Rat) / 1099511627776) _ iv76 iv78 (by decide +kernel) (by decide +kernel) (by decide +kernel) (by unfold Mx; omega) ((own_rS (n := bb.toInt - vl.toInt) (-40) (by omega) (by decide) (by decide) (by decide +kernel)).eqv (own_E _ _ _).symm)) (w1 hw) (w2 hw) (w3 hw) (w4 hw) (by decide) at_161 (rest := []) rfl rfl (lenOf pd0 rfl) rfl (by decide) (Nat.le_of_ble_eq_true rfl) (by decide) (by decide) (q := 164) rfl ?_
          intro v79 T79 h79 l79 X79 q79
          obtain ⟨T_, g_, rfl, rT, hg, e79⟩ := q79
          have e79 := e79.symm
          subst e79
          show Goes p e below _ T79 (mkF m 164 #[.val (.long p0), .second, .val (.int p1), .val (.int p2), .val (.int p3), .val (.long dl), .second, .val (.int md), .val (.int (1 : Int32)), .val (.int (0 : Int32)), .val (.long mg), .second, .val (.long bb), .second, .val (.long vl), .second, .val (.double (4427038433705197568 : UInt64)), .second, .unset, .unset, .unset, .unset, .unset] [(.int g_)])
          refine o_istore X79 at_164 rfl (L' := #[.val (.long p0), .second, .val (.int p1), .val (.int p2), .val (.int p3), .val (.long dl), .second, .val (.int md), .val (.int (1 : Int32)), .val (.int (0 : Int32)), .val (.long mg), .second, .val (.long bb), .second, .val (.long vl), .second, .val (.double (4427038433705197568 : UInt64)), .second, .val (.int g_), .unset, .unset, .unset, .unset]) rfl (q := 166) rfl ?_
          refine o_lload X79 at_166 rfl (q := 168) rfl ?_
          refine o_stat X79 [(.long bb)] (y' := (⟨"java/lang/Math", "abs", "(J)J"⟩ : MethodName)) (c_absJ hw bb _) (w13 hw) (w14 hw) (w8 hw) (w15 hw) (by decide) at_168 (rest := []) rfl rfl (lenOf pd1 rfl) rfl (by decide) (Nat.le_of_ble_eq_true rfl) (by decide) (by decide) (q := 171) rfl ?_
          intro v80 T80 h80 l80 X80 q80
          obtain ⟨ab, rfl, h_ab, e80⟩ := q80
          have e80 := e80.symm
          subst e80
          show Goes p e below _ T80 (mkF m 171 #[.val (.long p0), .second, .val (.int p1), .val (.int p2), .val (.int p3), .val (.long dl), .second, .val (.int md), .val (.int (1 : Int32)), .val (.int (0 : Int32)), .val (.long mg), .second, .val (.long bb), .second, .val (.long vl), .second, .val (.double (4427038433705197568 : UInt64)), .second, .val (.int g_), .unset, .unset, .unset, .unset] [(.long ab)])
          refine o_lload X80 at_171 rfl (q := 173) rfl ?_
          refine o_stat X80 [(.long vl)] (y' := (⟨"java/lang/Math", "abs", "(J)J"⟩ : MethodName)) (c_absJ hw vl _) (w13 hw) (w14 hw) (w8 hw) (w15 hw) (by decide) at_173 (rest := [(.long ab)]) rfl rfl (lenOf pd1 rfl) rfl (by decide) (Nat.le_of_ble_eq_true rfl) (by decide) (by decide) (q := 176) rfl ?_
          intro v81 T81 h81 l81 X81 q81
          obtain ⟨av, rfl, h_av, e81⟩ := q81
          have e81 := e81.symm
          subst e81
          show Goes p e below _ T81 (mkF m 176 #[.val (.long p0), .second, .val (.int p1), .val (.int p2), .val (.int p3), .val (.long dl), .second, .val (.int md), .val (.int (1 : Int32)), .val (.int (0 : Int32)), .val (.long mg), .second, .val (.long bb), .second, .val (.long vl), .second, .val (.double (4427038433705197568 : UInt64)), .second, .val (.int g_), .unset, .unset, .unset, .unset] [(.long av), (.long ab)])
          refine o_stat X81 [(.long ab), (.long av)] (y' := (⟨"java/lang/Math", "max", "(JJ)J"⟩ : MethodName)) (c_maxJ hw ab av _) (w16 hw) (w17 hw) (w8 hw) (w18 hw) (by decide) at_176 (rest := []) rfl rfl (lenOf pd2 rfl) rfl (by decide) (Nat.le_of_ble_eq_true rfl) (by decide) (by decide) (q := 179) rfl ?_
          intro v82 T82 h82 l82 X82 q82
          obtain ⟨m0, rfl, h_m0, e82⟩ := q82
          have e82 := e82.symm
          subst e82
          show Goes p e below _ T82 (mkF m 179 #[.val (.long p0), .second, .val (.int p1), .val (.int p2), .val (.int p3), .val (.long dl), .second, .val (.int md), .val (.int (1 : Int32)), .val (.int (0 : Int32)), .val (.long mg), .second, .val (.long bb), .second, .val (.long vl), .second, .val (.double (4427038433705197568 : UInt64)), .second, .val (.int g_), .unset, .unset, .unset, .unset] [(.long m0)])
          refine o_iload X82 at_179 rfl (q := 181) rfl ?_
          refine o_ifN X82 at_181 (by decide) (q := 184) rfl ?_
          refine o_ldcJ X82 (w22 hw) at_184 (q := 187) rfl ?_
          refine o_goto X82 at_187 (by decide) (q := 191) (by decide) ?_
          refine o_stat X82 [(.long m0), (.long (1099511627776 : Int64))] (y' := (⟨"java/lang/Math", "max", "(JJ)J"⟩ : MethodName)) (c_maxJ hw m0 (1099511627776 : Int64) _) (w16 hw) (w17 hw) (w8 hw) (w18 hw) (by decide) at_191 (rest := []) rfl rfl (lenOf pd2 rfl) rfl (by decide) (Nat.le_of_ble_eq_true rfl) (by decide) (by decide) (q := 194) rfl ?_
          intro v83 T83 h83 l83 X83 q83
          obtain ⟨ms, rfl, h_ms, e83⟩ := q83
          have e83 := e83.symm
          subst e83
          show Goes p e below _ T83 (mkF m 194 #[.val (.long p0), .second, .val (.int p1), .val (.int p2), .val (.int p3), .val (.long dl), .second, .val (.int md), .val (.int (1 : Int32)), .val (.int (0 : Int32)), .val (.long mg), .second, .val (.long bb), .second, .val (.long vl), .second, .val (.double (4427038433705197568 : UInt64)), .second, .val (.int g_), .unset, .unset, .unset, .unset] [(.long ms)])
          obtain ⟨ss, h_ss⟩ : ∃ z : Int64, ms = z := ⟨_, rfl⟩
          refine o_lstore X83 at_194 h_ss (L' := #[.val (.long p0), .second, .val (.int p1), .val (.int p2), .val (.int p3), .val (.long dl), .second, .val (.int md), .val (.int (1 : Int32)), .val (.int (0 : Int32)), .val (.long mg), .second, .val (.long bb), .second, .val (.long vl), .second, .val (.double (4427038433705197568 : UInt64)), .second, .val (.int g_), .val (.long ss), .second, .unset, .unset]) rfl (q := 196) rfl ?_
          refine o_lload X83 at_196 rfl (q := 198) rfl ?_
          refine o_ldcJ X83 (w19 hw) at_198 (q := 201) rfl ?_
          refine o_lmul X83 at_201 (w := (dl * (1000000000000 : Int64))) rfl (q := 202) rfl ?_
          obtain ⟨lh, h_lh⟩ : ∃ z : Int64, (dl * (1000000000000 : Int64)) = z := ⟨_, rfl⟩
          refine o_lstore X83 at_202 h_lh (L' := #[.val (.long p0), .second, .val (.int p1), .val (.int p2), .val (.int p3), .val (.long dl), .second, .val (.int md), .val (.int (1 : Int32)), .val (.int (0 : Int32)), .val (.long mg), .second, .val (.long bb), .second, .val (.long vl), .second, .val (.double (4427038433705197568 : UInt64)), .second, .val (.int g_), .val (.long ss), .second, .val (.long lh), .second]) rfl (q := 204) rfl ?_
          refine o_lload X83 at_204 rfl (q := 206) rfl ?_
          refine o_lload X83 at_206 rfl (q := 208) rfl ?_
          refine o_lsub X83 at_208 (w := (lh - ss)) rfl (q := 209) rfl ?_
          refine o_stat X83 [(.long (lh - ss))] (y' := (⟨"java/lang/Math", "abs", "(J)J"⟩ : MethodName)) (c_absJ hw (lh - ss) _) (w13 hw) (w14 hw) (w8 hw) (w15 hw) (by decide) at_209 (rest := []) rfl rfl (lenOf pd1 rfl) rfl (by decide) (Nat.le_of_ble_eq_true rfl) (by decide) (by decide) (q := 212) rfl ?_
          intro v84 T84 h84 l84 X84 q84
          obtain ⟨a4, rfl, h_a4, e84⟩ := q84
          have e84 := e84.symm
          subst e84
          show Goes p e below _ T84 (mkF m 212 #[.val (.long p0), .second, .val (.int p1), .val (.int p2), .val (.int p3), .val (.long dl), .second, .val (.int md), .val (.int (1 : Int32)), .val (.int (0 : Int32)), .val (.long mg), .second, .val (.long bb), .second, .val (.long vl), .second, .val (.double (4427038433705197568 : UInt64)), .second, .val (.int g_), .val (.long ss), .second, .val (.long lh), .second] [(.long a4)])
          refine o_ldcJ X84 (w20 hw) at_212 (q := 215) rfl ?_
          refine o_lcmp X84 at_215 (w := (lcmpW a4 (4 : Int64))) rfl (q := 216) rfl ?_
          by_cases hc216 : (0 : Int32) < (lcmpW a4 (4 : Int64))
          · refine o_ifY X84 at_216 (tlt hc216).2.2.1 (by decide) (q := 221) (by decide) ?_
            refine o_iload X84 at_221 rfl (q := 223) rfl ?_
            refine o_lload X84 at_223 rfl (q := 225) rfl ?_
            refine o_lload X84 at_225 rfl (q := 227) rfl ?_
            refine o_lcmp X84 at_227 (w := (lcmpW lh ss)) rfl (q := 228) rfl ?_
            have hss := own_ss hbb (by omega) (Lc := (1099511627776 : Int64)) (by decide) h_ab h_av h_m0 (h_ms.trans h_ss)
            have hlh := own_lh hdl h_lh
            have hcut := own_cut (l := lh) (s := ss) (by omega) hss.2 (by rw [h_a4]; exact hc216)
            have hfin := own_fin (D := bb.toInt - vl.toInt) (S := ss.toInt) (sg := ((1 : Rat) / 1099511627776)) (T := T_) (by decide +kernel) hss.2.1 hss.2.2 (by rw [hss.1]; exact (rT.2.2 (own_KM (v := vl.toInt) (b := bb.toInt) (L := 1099511627776) (sg := ((1 : Rat) / 1099511627776)) (by decide +kernel) (by decide +kernel) (by unfold Mx; omega) (by decide +kernel)).2.2.1).1) (by rw [hss.1]; exact (rT.2.2 (own_KM (v := vl.toInt) (b := bb.toInt) (L := 1099511627776) (sg := ((1 : Rat) / 1099511627776)) (by decide +kernel) (by decide +kernel) (by unfold Mx; omega) (by decide +kernel)).2.2.1).2)
            rw [own_E] at hg
            by_cases hc228 : (0 : Int32) < (lcmpW lh ss)
            · refine o_ifN X84 at_228 (tlt hc228).2.2.2 (q := 231) rfl ?_
              refine o_iconst X84 at_231 (w := 1) rfl (q := 232) rfl ?_
              refine o_goto X84 at_232 (by decide) (q := 236) (by decide) ?_
              refine o_icmpN X84 at_236 (teq (own_g1 hg (hfin.1 (by have q := (lw_gt _ _).mp hc228; rw [Int64.lt_iff_toInt_lt] at q; omega)))).2 (q := 239) rfl ?_
              refine o_iconst X84 at_239 (w := 1) rfl (q := 240) rfl ?_
              refine o_goto X84 at_240 (by decide) (q := 244) (by decide) ?_
              exact o_retN X84 at_244 (by simp) rfl (by decide) (by decide)
            · refine o_ifY X84 at_228 (flt hc228).2.2.2 (by decide) (q := 235) (by decide) ?_
              refine o_iconst X84 at_235 (w := 0) rfl (q := 236) rfl ?_
              refine o_icmpN X84 at_236 (teq (own_g0 hg (hfin.2 (by have q : ¬ ss < lh := fun z => hc228 ((lw_gt _ _).mpr z); rw [Int64.lt_iff_toInt_lt] at q; omega)))).2 (q := 239) rfl ?_
              refine o_iconst X84 at_239 (w := 1) rfl (q := 240) rfl ?_
              refine o_goto X84 at_240 (by decide) (q := 244) (by decide) ?_
              exact o_retN X84 at_244 (by simp) rfl (by decide) (by decide)
          · refine o_ifN X84 at_216 (flt hc216).2.2.1 (q := 219) rfl ?_
            refine o_iconst X84 at_219 (w := 1) rfl (q := 220) rfl ?_
            exact o_retN X84 at_220 (by simp) rfl (by decide) (by decide)
        · refine o_icmpY X at_65 (feq hc65).2 (by decide) (q := 78) (by decide) ?_
          refine o_lload X at_78 rfl (q := 80) rfl ?_
          refine o_iload X at_80 rfl (q := 82) rfl ?_
          refine o_iconst X at_82 (w := 4) rfl (q := 83) rfl ?_
          refine o_ishr X at_83 (w := (p3 >>> ((4 : Int32) &&& 31))) rfl (q := 84) rfl ?_
          refine o_iconst X at_84 (w := 3) rfl (q := 85) rfl ?_
          refine o_iand X at_85 (w := ((p3 >>> ((4 : Int32) &&& 31)) &&& (3 : Int32))) rfl (q := 86) rfl ?_
          refine o_iconst X at_86 (w := 1) rfl (q := 87) rfl ?_
          refine o_isub X at_87 (w := (((p3 >>> ((4 : Int32) &&& 31)) &&& (3 : Int32)) - (1 : Int32))) rfl (q := 88) rfl ?_
          refine o_i2l X at_88 (w := ((((p3 >>> ((4 : Int32) &&& 31)) &&& (3 : Int32)) - (1 : Int32)).toInt64)) rfl (q := 89) rfl ?_
          refine o_ladd X at_89 (w := (dl + ((((p3 >>> ((4 : Int32) &&& 31)) &&& (3 : Int32)) - (1 : Int32)).toInt64))) rfl (q := 90) rfl ?_
          obtain ⟨dd_, h_dd_⟩ : ∃ z : Int64, (dl + ((((p3 >>> ((4 : Int32) &&& 31)) &&& (3 : Int32)) - (1 : Int32)).toInt64)) = z := ⟨_, rfl⟩
          refine o_lstore X at_90 h_dd_ (L' := #[.val (.long p0), .second, .val (.int p1), .val (.int p2), .val (.int p3), .val (.long dl), .second, .val (.int md), .val (.int (1 : Int32)), .val (.int (0 : Int32)), .unset, .unset, .val (.long dd_), .second, .unset, .unset, .unset, .unset, .unset, .unset, .unset, .unset, .unset]) rfl (q := 92) rfl ?_
          refine o_iloadN X at_92 rfl (q := 93) rfl ?_
          refine o_bipush X at_93 (w := 11) rfl (q := 95) rfl ?_
          refine o_ishr X at_95 (w := (p2 >>> ((11 : Int32) &&& 31))) rfl (q := 96) rfl ?_
          refine o_i2l X at_96 (w := ((p2 >>> ((11 : Int32) &&& 31)).toInt64)) rfl (q := 97) rfl ?_
          obtain ⟨of_, h_of_⟩ : ∃ z : Int64, ((p2 >>> ((11 : Int32) &&& 31)).toInt64) = z := ⟨_, rfl⟩
          refine o_lstore X at_97 h_of_ (L' := #[.val (.long p0), .second, .val (.int p1), .val (.int p2), .val (.int p3), .val (.long dl), .second, .val (.int md), .val (.int (1 : Int32)), .val (.int (0 : Int32)), .unset, .unset, .val (.long dd_), .second, .val (.long of_), .second, .unset, .unset, .unset, .unset, .unset, .unset, .unset]) rfl (q := 99) rfl ?_
          refine o_lload X at_99 rfl (q := 101) rfl ?_
          refine o_ldcJ X (w19 hw) at_101 (q := 104) rfl ?_
          refine o_lmul X at_104 (w := (dd_ * (1000000000000 : Int64))) rfl (q := 105) rfl ?_
          refine o_lload X at_105 rfl (q := 107) rfl ?_
          refine o_ladd X at_107 (w := ((dd_ * (1000000000000 : Int64)) + of_)) rfl (q := 108) rfl ?_
          refine o_stat X [(.long ((dd_ * (1000000000000 : Int64)) + of_))] (y' := (⟨"java/lang/Math", "abs", "(J)J"⟩ : MethodName)) (c_absJ hw ((dd_ * (1000000000000 : Int64)) + of_) _) (w13 hw) (w14 hw) (w8 hw) (w15 hw) (by decide) at_108 (rest := []) rfl rfl (lenOf pd1 rfl) rfl (by decide) (Nat.le_of_ble_eq_true rfl) (by decide) (by decide) (q := 111) rfl ?_
          intro v85 T85 h85 l85 X85 q85
          obtain ⟨m2, rfl, h_m2, e85⟩ := q85
          have e85 := e85.symm
          subst e85
          show Goes p e below _ T85 (mkF m 111 #[.val (.long p0), .second, .val (.int p1), .val (.int p2), .val (.int p3), .val (.long dl), .second, .val (.int md), .val (.int (1 : Int32)), .val (.int (0 : Int32)), .unset, .unset, .val (.long dd_), .second, .val (.long of_), .second, .unset, .unset, .unset, .unset, .unset, .unset, .unset] [(.long m2)])
          obtain ⟨mg, h_mg⟩ : ∃ z : Int64, m2 = z := ⟨_, rfl⟩
          refine o_lstore X85 at_111 h_mg (L' := #[.val (.long p0), .second, .val (.int p1), .val (.int p2), .val (.int p3), .val (.long dl), .second, .val (.int md), .val (.int (1 : Int32)), .val (.int (0 : Int32)), .val (.long mg), .second, .val (.long dd_), .second, .val (.long of_), .second, .unset, .unset, .unset, .unset, .unset, .unset, .unset]) rfl (q := 113) rfl ?_
          refine o_iload X85 at_113 rfl (q := 115) rfl ?_
          have hmg : 0 ≤ mg.toInt ∧ mg.toInt < 4503599627370496 := h_mg ▸ own_md (own_dl h_dl) rfl h_dd_ h_of_ rfl h_m2
          refine o_ifY X85 at_115 (by decide) (by decide) (q := 124) (by decide) ?_
          refine o_lload X85 at_124 rfl (q := 126) rfl ?_
          obtain ⟨bb, h_bb⟩ : ∃ z : Int64, mg = z := ⟨_, rfl⟩
          refine o_lstore X85 at_126 h_bb (L' := #[.val (.long p0), .second, .val (.int p1), .val (.int p2), .val (.int p3), .val (.long dl), .second, .val (.int md), .val (.int (1 : Int32)), .val (.int (0 : Int32)), .val (.long mg), .second, .val (.long bb), .second, .val (.long of_), .second, .unset, .unset, .unset, .unset, .unset, .unset, .unset]) rfl (q := 128) rfl ?_
          refine o_lload X85 at_128 rfl (q := 130) rfl ?_
          refine o_lload X85 at_130 rfl (q := 132) rfl ?_
          refine o_lsub X85 at_132 (w := (bb - dl)) rfl (q := 133) rfl ?_
          obtain ⟨vl, h_vl⟩ : ∃ z : Int64, (bb - dl) = z := ⟨_, rfl⟩
          refine o_lstore X85 at_133 h_vl (L' := #[.val (.long p0), .second, .val (.int p1), .val (.int p2), .val (.int p3), .val (.long dl), .second, .val (.int md), .val (.int (1 : Int32)), .val (.int (0 : Int32)), .val (.long mg), .second, .val (.long bb), .second, .val (.long vl), .second, .unset, .unset, .unset, .unset, .unset, .unset, .unset]) rfl (q := 135) rfl ?_
          refine o_iload X85 at_135 rfl (q := 137) rfl ?_
          have hbb : bb.toInt.natAbs < 4503599627370496 := by rw [← h_bb]; omega
          have hdl := own_dl h_dl
          have hvl := own_v hbb hdl h_vl
          refine o_ifN X85 at_137 (by decide) (q := 140) rfl ?_
          have iv86 : IsV (4427038433705197568 : UInt64) ((1 : Rat) / 1099511627776) := ⟨false, 4503599627370496, (-92), by decide +kernel, by decide +kernel⟩
          refine o_ldcD X85 (w21 hw) at_140 (q := 143) rfl ?_
          refine o_goto X85 at_143 (by decide) (q := 147) (by decide) ?_
          refine o_dstore X85 at_147 rfl (L' := #[.val (.long p0), .second, .val (.int p1), .val (.int p2), .val (.int p3), .val (.long dl), .second, .val (.int md), .val (.int (1 : Int32)), .val (.int (0 : Int32)), .val (.long mg), .second, .val (.long bb), .second, .val (.long vl), .second, .val (.double (4427038433705197568 : UInt64)), .second, .unset, .unset, .unset, .unset, .unset]) rfl (q := 149) rfl ?_
          refine o_lload X85 at_149 rfl (q := 151) rfl ?_
          obtain ⟨d87, hd87⟩ : ∃ z : UInt64, FP.l2d vl = z := ⟨_, rfl⟩
          have iv87 : IsV d87 ((vl).toInt : Rat) := (hd87 ▸ IsV.l2d (by omega))
          refine o_l2d X85 at_151 hd87 (q := 152) rfl ?_
          refine o_dload X85 at_152 rfl (q := 154) rfl ?_
          obtain ⟨d88, hd88⟩ : ∃ z : UInt64, FP.dmul d87 (4427038433705197568 : UInt64) = z := ⟨_, rfl⟩
          have iv88 : IsV d88 ((vl.toInt : Rat) * ((1 : Rat) / 1099511627776)) := hd88 ▸ (IsV.mul iv87 iv86 (own_rS (-40) (by omega) (by decide) (by decide) (by decide +kernel)))
          refine o_dmul X85 at_154 (hd88.symm ▸ iv88.nn) hd88 (q := 155) rfl ?_
          refine o_lload X85 at_155 rfl (q := 157) rfl ?_
          obtain ⟨d89, hd89⟩ : ∃ z : UInt64, FP.l2d bb = z := ⟨_, rfl⟩
          have iv89 : IsV d89 ((bb).toInt : Rat) := (hd89 ▸ IsV.l2d (by omega))
          refine o_l2d X85 at_157 hd89 (q := 158) rfl ?_
          refine o_dload X85 at_158 rfl (q := 160) rfl ?_
          obtain ⟨d90, hd90⟩ : ∃ z : UInt64, FP.dmul d89 (4427038433705197568 : UInt64) = z := ⟨_, rfl⟩
          have iv90 : IsV d90 ((bb.toInt : Rat) * ((1 : Rat) / 1099511627776)) := hd90 ▸ (IsV.mul iv89 iv86 (own_rS (-40) (by omega) (by decide) (by decide) (by decide +kernel)))
          refine o_dmul X85 at_160 (hd90.symm ▸ iv90.nn) hd90 (q := 161) rfl ?_
          refine o_stat X85 [(.double d88), (.double d90)] (y' := (⟨"com/example/silvafront/silvafront/forest/Rounding", "fallsBelow", "(DD)Z"⟩ : MethodName)) (c_fb hw d88 d90 vl.toInt bb.toInt 1099511627776 ((1 : Rat) / 1099511627776) _ iv88 iv90 (by decide +kernel) (by decide +kernel) (by decide +kernel) (by unfold Mx; omega) ((own_rS (n := bb.toInt - vl.toInt) (-40) (by omega) (by decide) (by decide) (by decide +kernel)).eqv (own_E _ _ _).symm)) (w1 hw) (w2 hw) (w3 hw) (w4 hw) (by decide) at_161 (rest := []) rfl rfl (lenOf pd0 rfl) rfl (by decide) (Nat.le_of_ble_eq_true rfl) (by decide) (by decide) (q := 164) rfl ?_
          intro v91 T91 h91 l91 X91 q91
          obtain ⟨T_, g_, rfl, rT, hg, e91⟩ := q91
          have e91 := e91.symm
          subst e91
          show Goes p e below _ T91 (mkF m 164 #[.val (.long p0), .second, .val (.int p1), .val (.int p2), .val (.int p3), .val (.long dl), .second, .val (.int md), .val (.int (1 : Int32)), .val (.int (0 : Int32)), .val (.long mg), .second, .val (.long bb), .second, .val (.long vl), .second, .val (.double (4427038433705197568 : UInt64)), .second, .unset, .unset, .unset, .unset, .unset] [(.int g_)])
          refine o_istore X91 at_164 rfl (L' := #[.val (.long p0), .second, .val (.int p1), .val (.int p2), .val (.int p3), .val (.long dl), .second, .val (.int md), .val (.int (1 : Int32)), .val (.int (0 : Int32)), .val (.long mg), .second, .val (.long bb), .second, .val (.long vl), .second, .val (.double (4427038433705197568 : UInt64)), .second, .val (.int g_), .unset, .unset, .unset, .unset]) rfl (q := 166) rfl ?_
          refine o_lload X91 at_166 rfl (q := 168) rfl ?_
          refine o_stat X91 [(.long bb)] (y' := (⟨"java/lang/Math", "abs", "(J)J"⟩ : MethodName)) (c_absJ hw bb _) (w13 hw) (w14 hw) (w8 hw) (w15 hw) (by decide) at_168 (rest := []) rfl rfl (lenOf pd1 rfl) rfl (by decide) (Nat.le_of_ble_eq_true rfl) (by decide) (by decide) (q := 171) rfl ?_
          intro v92 T92 h92 l92 X92 q92
          obtain ⟨ab, rfl, h_ab, e92⟩ := q92
          have e92 := e92.symm
          subst e92
          show Goes p e below _ T92 (mkF m 171 #[.val (.long p0), .second, .val (.int p1), .val (.int p2), .val (.int p3), .val (.long dl), .second, .val (.int md), .val (.int (1 : Int32)), .val (.int (0 : Int32)), .val (.long mg), .second, .val (.long bb), .second, .val (.long vl), .second, .val (.double (4427038433705197568 : UInt64)), .second, .val (.int g_), .unset, .unset, .unset, .unset] [(.long ab)])
          refine o_lload X92 at_171 rfl (q := 173) rfl ?_
          refine o_stat X92 [(.long vl)] (y' := (⟨"java/lang/Math", "abs", "(J)J"⟩ : MethodName)) (c_absJ hw vl _) (w13 hw) (w14 hw) (w8 hw) (w15 hw) (by decide) at_173 (rest := [(.long ab)]) rfl rfl (lenOf pd1 rfl) rfl (by decide) (Nat.le_of_ble_eq_true rfl) (by decide) (by decide) (q := 176) rfl ?_
          intro v93 T93 h93 l93 X93 q93
          obtain ⟨av, rfl, h_av, e93⟩ := q93
          have e93 := e93.symm
          subst e93
          show Goes p e below _ T93 (mkF m 176 #[.val (.long p0), .second, .val (.int p1), .val (.int p2), .val (.int p3), .val (.long dl), .second, .val (.int md), .val (.int (1 : Int32)), .val (.int (0 : Int32)), .val (.long mg), .second, .val (.long bb), .second, .val (.long vl), .second, .val (.double (4427038433705197568 : UInt64)), .second, .val (.int g_), .unset, .unset, .unset, .unset] [(.long av), (.long ab)])
          refine o_stat X93 [(.long ab), (.long av)] (y' := (⟨"java/lang/Math", "max", "(JJ)J"⟩ : MethodName)) (c_maxJ hw ab av _) (w16 hw) (w17 hw) (w8 hw) (w18 hw) (by decide) at_176 (rest := []) rfl rfl (lenOf pd2 rfl) rfl (by decide) (Nat.le_of_ble_eq_true rfl) (by decide) (by decide) (q := 179) rfl ?_
          intro v94 T94 h94 l94 X94 q94
          obtain ⟨m0, rfl, h_m0, e94⟩ := q94
          have e94 := e94.symm
          subst e94
          show Goes p e below _ T94 (mkF m 179 #[.val (.long p0), .second, .val (.int p1), .val (.int p2), .val (.int p3), .val (.long dl), .second, .val (.int md), .val (.int (1 : Int32)), .val (.int (0 : Int32)), .val (.long mg), .second, .val (.long bb), .second, .val (.long vl), .second, .val (.double (4427038433705197568 : UInt64)), .second, .val (.int g_), .unset, .unset, .unset, .unset] [(.long m0)])
          refine o_iload X94 at_179 rfl (q := 181) rfl ?_
          refine o_ifN X94 at_181 (by decide) (q := 184) rfl ?_
          refine o_ldcJ X94 (w22 hw) at_184 (q := 187) rfl ?_
          refine o_goto X94 at_187 (by decide) (q := 191) (by decide) ?_
          refine o_stat X94 [(.long m0), (.long (1099511627776 : Int64))] (y' := (⟨"java/lang/Math", "max", "(JJ)J"⟩ : MethodName)) (c_maxJ hw m0 (1099511627776 : Int64) _) (w16 hw) (w17 hw) (w8 hw) (w18 hw) (by decide) at_191 (rest := []) rfl rfl (lenOf pd2 rfl) rfl (by decide) (Nat.le_of_ble_eq_true rfl) (by decide) (by decide) (q := 194) rfl ?_
          intro v95 T95 h95 l95 X95 q95
          obtain ⟨ms, rfl, h_ms, e95⟩ := q95
          have e95 := e95.symm
          subst e95
          show Goes p e below _ T95 (mkF m 194 #[.val (.long p0), .second, .val (.int p1), .val (.int p2), .val (.int p3), .val (.long dl), .second, .val (.int md), .val (.int (1 : Int32)), .val (.int (0 : Int32)), .val (.long mg), .second, .val (.long bb), .second, .val (.long vl), .second, .val (.double (4427038433705197568 : UInt64)), .second, .val (.int g_), .unset, .unset, .unset, .unset] [(.long ms)])
          obtain ⟨ss, h_ss⟩ : ∃ z : Int64, ms = z := ⟨_, rfl⟩
          refine o_lstore X95 at_194 h_ss (L' := #[.val (.long p0), .second, .val (.int p1), .val (.int p2), .val (.int p3), .val (.long dl), .second, .val (.int md), .val (.int (1 : Int32)), .val (.int (0 : Int32)), .val (.long mg), .second, .val (.long bb), .second, .val (.long vl), .second, .val (.double (4427038433705197568 : UInt64)), .second, .val (.int g_), .val (.long ss), .second, .unset, .unset]) rfl (q := 196) rfl ?_
          refine o_lload X95 at_196 rfl (q := 198) rfl ?_
          refine o_ldcJ X95 (w19 hw) at_198 (q := 201) rfl ?_
          refine o_lmul X95 at_201 (w := (dl * (1000000000000 : Int64))) rfl (q := 202) rfl ?_
          obtain ⟨lh, h_lh⟩ : ∃ z : Int64, (dl * (1000000000000 : Int64)) = z := ⟨_, rfl⟩
          refine o_lstore X95 at_202 h_lh (L' := #[.val (.long p0), .second, .val (.int p1), .val (.int p2), .val (.int p3), .val (.long dl), .second, .val (.int md), .val (.int (1 : Int32)), .val (.int (0 : Int32)), .val (.long mg), .second, .val (.long bb), .second, .val (.long vl), .second, .val (.double (4427038433705197568 : UInt64)), .second, .val (.int g_), .val (.long ss), .second, .val (.long lh), .second]) rfl (q := 204) rfl ?_
          refine o_lload X95 at_204 rfl (q := 206) rfl ?_
          refine o_lload X95 at_206 rfl (q := 208) rfl ?_
          refine o_lsub X95 at_208 (w := (lh - ss)) rfl (q := 209) rfl ?_
          refine o_stat X95 [(.long (lh - ss))] (y' := (⟨"java/lang/Math", "abs", "(J)J"⟩ : MethodName)) (c_absJ hw (lh - ss) _) (w13 hw) (w14 hw) (w8 hw) (w15 hw) (by decide) at_209 (rest := []) rfl rfl (lenOf pd1 rfl) rfl (by decide) (Nat.le_of_ble_eq_true rfl) (by decide) (by decide) (q := 212) rfl ?_
          intro v96 T96 h96 l96 X96 q96
          obtain ⟨a4, rfl, h_a4, e96⟩ := q96
          have e96 := e96.symm
          subst e96
          show Goes p e below _ T96 (mkF m 212 #[.val (.long p0), .second, .val (.int p1), .val (.int p2), .val (.int p3), .val (.long dl), .second, .val (.int md), .val (.int (1 : Int32)), .val (.int (0 : Int32)), .val (.long mg), .second, .val (.long bb), .second, .val (.long vl), .second, .val (.double (4427038433705197568 : UInt64)), .second, .val (.int g_), .val (.long ss), .second, .val (.long lh), .second] [(.long a4)])
          refine o_ldcJ X96 (w20 hw) at_212 (q := 215) rfl ?_
          refine o_lcmp X96 at_215 (w := (lcmpW a4 (4 : Int64))) rfl (q := 216) rfl ?_
          by_cases hc216 : (0 : Int32) < (lcmpW a4 (4 : Int64))
          · refine o_ifY X96 at_216 (tlt hc216).2.2.1 (by decide) (q := 221) (by decide) ?_
            refine o_iload X96 at_221 rfl (q := 223) rfl ?_
            refine o_lload X96 at_223 rfl (q := 225) rfl ?_
            refine o_lload X96 at_225 rfl (q := 227) rfl ?_
            refine o_lcmp X96 at_227 (w := (lcmpW lh ss)) rfl (q := 228) rfl ?_
            have hss := own_ss hbb (by omega) (Lc := (1099511627776 : Int64)) (by decide) h_ab h_av h_m0 (h_ms.trans h_ss)
            have hlh := own_lh hdl h_lh
            have hcut := own_cut (l := lh) (s := ss) (by omega) hss.2 (by rw [h_a4]; exact hc216)
            have hfin := own_fin (D := bb.toInt - vl.toInt) (S := ss.toInt) (sg := ((1 : Rat) / 1099511627776)) (T := T_) (by decide +kernel) hss.2.1 hss.2.2 (by rw [hss.1]; exact (rT.2.2 (own_KM (v := vl.toInt) (b := bb.toInt) (L := 1099511627776) (sg := ((1 : Rat) / 1099511627776)) (by decide +kernel) (by decide +kernel) (by unfold Mx; omega) (by decide +kernel)).2.2.1).1) (by rw [hss.1]; exact (rT.2.2 (own_KM (v := vl.toInt) (b := bb.toInt) (L := 1099511627776) (sg := ((1 : Rat) / 1099511627776)) (by decide +kernel) (by decide +kernel) (by unfold Mx; omega) (by decide +kernel)).2.2.1).2)
            rw [own_E] at hg
            by_cases hc228 : (0 : Int32) < (lcmpW lh ss)
            · refine o_ifN X96 at_228 (tlt hc228).2.2.2 (q := 231) rfl ?_
              refine o_iconst X96 at_231 (w := 1) rfl (q := 232) rfl ?_
              refine o_goto X96 at_232 (by decide) (q := 236) (by decide) ?_
              refine o_icmpN X96 at_236 (teq (own_g1 hg (hfin.1 (by have q := (lw_gt _ _).mp hc228; rw [Int64.lt_iff_toInt_lt] at q; omega)))).2 (q := 239) rfl ?_
              refine o_iconst X96 at_239 (w := 1) rfl (q := 240) rfl ?_
              refine o_goto X96 at_240 (by decide) (q := 244) (by decide) ?_
              exact o_retN X96 at_244 (by simp) rfl (by decide) (by decide)
            · refine o_ifY X96 at_228 (flt hc228).2.2.2 (by decide) (q := 235) (by decide) ?_
              refine o_iconst X96 at_235 (w := 0) rfl (q := 236) rfl ?_
              refine o_icmpN X96 at_236 (teq (own_g0 hg (hfin.2 (by have q : ¬ ss < lh := fun z => hc228 ((lw_gt _ _).mpr z); rw [Int64.lt_iff_toInt_lt] at q; omega)))).2 (q := 239) rfl ?_
              refine o_iconst X96 at_239 (w := 1) rfl (q := 240) rfl ?_
              refine o_goto X96 at_240 (by decide) (q := 244) (by decide) ?_
              exact o_retN X96 at_244 (by simp) rfl (by decide) (by decide)
          · refine o_ifN X96 at_216 (flt hc216).2.2.1 (q := 219) rfl ?_
            refine o_iconst X96 at_219 (w := 1) rfl (q := 220) rfl ?_
            exact o_retN X96 at_220 (by simp) rfl (by decide) (by decide)
    · refine o_ifN X at_37 (feq hc37).1 (q := 40) rfl ?_
      refine o_iconst X at_40 (w := 1) rfl (q := 41) rfl ?_
      refine o_goto X at_41 (by decide) (q := 45) (by decide) ?_
      refine o_istore X at_45 rfl (L' := #[.val (.long p0), .second, .val (.int p1), .val (.int p2), .val (.int p3), .val (.long dl), .second, .val (.int md), .val (.int (1 : Int32)), .val (.int (1 : Int32)), .unset, .unset, .unset, .unset, .unset, .unset, .unset, .unset, .unset, .unset, .unset, .unset, .unset]) rfl (q := 47) rfl ?_
      refine o_iload X at_47 rfl (q := 49) rfl ?_
      by_cases hc49 : md = (0 : Int32)
      · refine o_ifN X at_49 (teq hc49).2 (q := 52) rfl ?_
        refine o_lloadN X at_52 rfl (q := 53) rfl ?_
        refine o_ldcJ X (w0 hw) at_53 (q := 56) rfl ?_
        refine o_land X at_56 (w := (p0 &&& (4503599627370495 : Int64))) rfl (q := 57) rfl ?_
        obtain ⟨mg, h_mg⟩ : ∃ z : Int64, (p0 &&& (4503599627370495 : Int64)) = z := ⟨_, rfl⟩
        refine o_lstore X at_57 h_mg (L' := #[.val (.long p0), .second, .val (.int p1), .val (.int p2), .val (.int p3), .val (.long dl), .second, .val (.int md), .val (.int (1 : Int32)), .val (.int (1 : Int32)), .val (.long mg), .second, .unset, .unset, .unset, .unset, .unset, .unset, .unset, .unset, .unset, .unset, .unset]) rfl (q := 59) rfl ?_
        refine o_goto X at_59 (by decide) (q := 113) (by decide) ?_
        refine o_iload X at_113 rfl (q := 115) rfl ?_
        have hmg : 0 ≤ mg.toInt ∧ mg.toInt < 4503599627370496 := own_mk h_mg (by decide) (k := 52) (by decide)
        refine o_ifN X at_115 (by decide) (q := 118) rfl ?_
        refine o_lload X at_118 rfl (q := 120) rfl ?_
        refine o_lneg X at_120 (w := (-mg)) rfl (q := 121) rfl ?_
        refine o_goto X at_121 (by decide) (q := 126) (by decide) ?_
        obtain ⟨bb, h_bb⟩ : ∃ z : Int64, (-mg) = z := ⟨_, rfl⟩
        refine o_lstore X at_126 h_bb (L' := #[.val (.long p0), .second, .val (.int p1), .val (.int p2), .val (.int p3), .val (.long dl), .second, .val (.int md), .val (.int (1 : Int32)), .val (.int (1 : Int32)), .val (.long mg), .second, .val (.long bb), .second, .unset, .unset, .unset, .unset, .unset, .unset, .unset, .unset, .unset]) rfl (q := 128) rfl ?_
        refine o_lload X at_128 rfl (q := 130) rfl ?_
        refine o_lload X at_130 rfl (q := 132) rfl ?_
        refine o_lsub X at_132 (w := (bb - dl)) rfl (q := 133) rfl ?_
        obtain ⟨vl, h_vl⟩ : ∃ z : Int64, (bb - dl) = z := ⟨_, rfl⟩
        refine o_lstore X at_133 h_vl (L' := #[.val (.long p0), .second, .val (.int p1), .val (.int p2), .val (.int p3), .val (.long dl), .second, .val (.int md), .val (.int (1 : Int32)), .val (.int (1 : Int32)), .val (.long mg), .second, .val (.long bb), .second, .val (.long vl), .second, .unset, .unset, .unset, .unset, .unset, .unset, .unset]) rfl (q := 135) rfl ?_
        refine o_iload X at_135 rfl (q := 137) rfl ?_
        have hbb : bb.toInt.natAbs < 4503599627370496 := own_neg hmg h_bb
        have hdl := own_dl h_dl
        have hvl := own_v hbb hdl h_vl
        refine o_ifN X at_137 (by decide) (q := 140) rfl ?_
        have iv97 : IsV (4427038433705197568 : UInt64) ((1 : Rat) / 1099511627776) := ⟨false, 4503599627370496, (-92), by decide +kernel, by decide +kernel⟩
        refine o_ldcD X (w21 hw) at_140 (q := 143) rfl ?_
        refine o_goto X at_143 (by decide) (q := 147) (by decide) ?_
        refine o_dstore X at_147 rfl (L' := #[.val (.long p0), .second, .val (.int p1), .val (.int p2), .val (.int p3), .val (.long dl), .second, .val (.int md), .val (.int (1 : Int32)), .val (.int (1 : Int32)), .val (.long mg), .second, .val (.long bb), .second, .val (.long vl), .second, .val (.double (4427038433705197568 : UInt64)), .second, .unset, .unset, .unset, .unset, .unset]) rfl (q := 149) rfl ?_
        refine o_lload X at_149 rfl (q := 151) rfl ?_
        obtain ⟨d98, hd98⟩ : ∃ z : UInt64, FP.l2d vl = z := ⟨_, rfl⟩
        have iv98 : IsV d98 ((vl).toInt : Rat) := (hd98 ▸ IsV.l2d (by omega))
        refine o_l2d X at_151 hd98 (q := 152) rfl ?_
        refine o_dload X at_152 rfl (q := 154) rfl ?_
        obtain ⟨d99, hd99⟩ : ∃ z : UInt64, FP.dmul d98 (4427038433705197568 : UInt64) = z := ⟨_, rfl⟩
        have iv99 : IsV d99 ((vl.toInt : Rat) * ((1 : Rat) / 1099511627776)) := hd99 ▸ (IsV.mul iv98 iv97 (own_rS (-40) (by omega) (by decide) (by decide) (by decide +kernel)))
        refine o_dmul X at_154 (hd99.symm ▸ iv99.nn) hd99 (q := 155) rfl ?_
        refine o_lload X at_155 rfl (q := 157) rfl ?_
        obtain ⟨d100, hd100⟩ : ∃ z : UInt64, FP.l2d bb = z := ⟨_, rfl⟩
        have iv100 : IsV d100 ((bb).toInt : Rat) := (hd100 ▸ IsV.l2d (by omega))
        refine o_l2d X at_157 hd100 (q := 158) rfl ?_
        refine o_dload X at_158 rfl (q := 160) rfl ?_
        obtain ⟨d101, hd101⟩ : ∃ z : UInt64, FP.dmul d100 (4427038433705197568 : UInt64) = z := ⟨_, rfl⟩
        have iv101 : IsV d101 ((bb.toInt : Rat) * ((1 : Rat) / 1099511627776)) := hd101 ▸ (IsV.mul iv100 iv97 (own_rS (-40) (by omega) (by decide) (by decide) (by decide +kernel)))
        refine o_dmul X at_160 (hd101.symm ▸ iv101.nn) hd101 (q := 161) rfl ?_
        refine o_stat X [(.double d99), (.double d101)] (y' := (⟨"com/example/silvafront/silvafront/forest/Rounding", "fallsBelow", "(DD)Z"⟩ : MethodName)) (c_fb hw d99 d101 vl.toInt bb.toInt 1099511627776 ((1 : Rat) / 1099511627776) _ iv99 iv101 (by decide +kernel) (by decide +kernel) (by decide +kernel) (by unfold Mx; omega) ((own_rS (n := bb.toInt - vl.toInt) (-40) (by omega) (by decide) (by decide) (by decide +kernel)).eqv (own_E _ _ _).symm)) (w1 hw) (w2 hw) (w3 hw) (w4 hw) (by decide) at_161 (rest := []) rfl rfl (lenOf pd0 rfl) rfl (by decide) (Nat.le_of_ble_eq_true rfl) (by decide) (by decide) (q := 164) rfl ?_
        intro v102 T102 h102 l102 X102 q102
        obtain ⟨T_, g_, rfl, rT, hg, e102⟩ := q102
        have e102 := e102.symm
        subst e102
        show Goes p e below _ T102 (mkF m 164 #[.val (.long p0), .second, .val (.int p1), .val (.int p2), .val (.int p3), .val (.long dl), .second, .val (.int md), .val (.int (1 : Int32)), .val (.int (1 : Int32)), .val (.long mg), .second, .val (.long bb), .second, .val (.long vl), .second, .val (.double (4427038433705197568 : UInt64)), .second, .unset, .unset, .unset, .unset, .unset] [(.int g_)])
        refine o_istore X102 at_164 rfl (L' := #[.val (.long p0), .second, .val (.int p1), .val (.int p2), .val (.int p3), .val (.long dl), .second, .val (.int md), .val (.int (1 : Int32)), .val (.int (1 : Int32)), .val (.long mg), .second, .val (.long bb), .second, .val (.long vl), .second, .val (.double (4427038433705197568 : UInt64)), .second, .val (.int g_), .unset, .unset, .unset, .unset]) rfl (q := 166) rfl ?_
        refine o_lload X102 at_166 rfl (q := 168) rfl ?_
        refine o_stat X102 [(.long bb)] (y' := (⟨"java/lang/Math", "abs", "(J)J"⟩ : MethodName)) (c_absJ hw bb _) (w13 hw) (w14 hw) (w8 hw) (w15 hw) (by decide) at_168 (rest := []) rfl rfl (lenOf pd1 rfl) rfl (by decide) (Nat.le_of_ble_eq_true rfl) (by decide) (by decide) (q := 171) rfl ?_
        intro v103 T103 h103 l103 X103 q103
        obtain ⟨ab, rfl, h_ab, e103⟩ := q103
        have e103 := e103.symm
        subst e103
        show Goes p e below _ T103 (mkF m 171 #[.val (.long p0), .second, .val (.int p1), .val (.int p2), .val (.int p3), .val (.long dl), .second, .val (.int md), .val (.int (1 : Int32)), .val (.int (1 : Int32)), .val (.long mg), .second, .val (.long bb), .second, .val (.long vl), .second, .val (.double (4427038433705197568 : UInt64)), .second, .val (.int g_), .unset, .unset, .unset, .unset] [(.long ab)])
        refine o_lload X103 at_171 rfl (q := 173) rfl ?_
        refine o_stat X103 [(.long vl)] (y' := (⟨"java/lang/Math", "abs", "(J)J"⟩ : MethodName)) (c_absJ hw vl _) (w13 hw) (w14 hw) (w8 hw) (w15 hw) (by decide) at_173 (rest := [(.long ab)]) rfl rfl (lenOf pd1 rfl) rfl (by decide) (Nat.le_of_ble_eq_true rfl) (by decide) (by decide) (q := 176) rfl ?_
        intro v104 T104 h104 l104 X104 q104
        obtain ⟨av, rfl, h_av, e104⟩ := q104
        have e104 := e104.symm
        subst e104
        show Goes p e below _ T104 (mkF m 176 #[.val (.long p0), .second, .val (.int p1), .val (.int p2), .val (.int p3), .val (.long dl), .second, .val (.int md), .val (.int (1 : Int32)), .val (.int (1 : Int32)), .val (.long mg), .second, .val (.long bb), .second, .val (.long vl), .second, .val (.double (4427038433705197568 : UInt64)), .second, .val (.int g_), .unset, .unset, .unset, .unset] [(.long av), (.long ab)])
        refine o_stat X104 [(.long ab), (.long av)] (y' := (⟨"java/lang/Math", "max", "(JJ)J"⟩ : MethodName)) (c_maxJ hw ab av _) (w16 hw) (w17 hw) (w8 hw) (w18 hw) (by decide) at_176 (rest := []) rfl rfl (lenOf pd2 rfl) rfl (by decide) (Nat.le_of_ble_eq_true rfl) (by decide) (by decide) (q := 179) rfl ?_
        intro v105 T105 h105 l105 X105 q105
        obtain ⟨m0, rfl, h_m0, e105⟩ := q105
        have e105 := e105.symm
        subst e105
        show Goes p e below _ T105 (mkF m 179 #[.val (.long p0), .second, .val (.int p1), .val (.int p2), .val (.int p3), .val (.long dl), .second, .val (.int md), .val (.int (1 : Int32)), .val (.int (1 : Int32)), .val (.long mg), .second, .val (.long bb), .second, .val (.long vl), .second, .val (.double (4427038433705197568 : UInt64)), .second, .val (.int g_), .unset, .unset, .unset, .unset] [(.long m0)])
        refine o_iload X105 at_179 rfl (q := 181) rfl ?_
        refine o_ifN X105 at_181 (by decide) (q := 184) rfl ?_
        refine o_ldcJ X105 (w22 hw) at_184 (q := 187) rfl ?_
        refine o_goto X105 at_187 (by decide) (q := 191) (by decide) ?_
        refine o_stat X105 [(.long m0), (.long (1099511627776 : Int64))] (y' := (⟨"java/lang/Math", "max", "(JJ)J"⟩ : MethodName)) (c_maxJ hw m0 (1099511627776 : Int64) _) (w16 hw) (w17 hw) (w8 hw) (w18 hw) (by decide) at_191 (rest := []) rfl rfl (lenOf pd2 rfl) rfl (by decide) (Nat.le_of_ble_eq_true rfl) (by decide) (by decide) (q := 194) rfl ?_
        intro v106 T106 h106 l106 X106 q106
        obtain ⟨ms, rfl, h_ms, e106⟩ := q106
        have e106 := e106.symm
        subst e106
        show Goes p e below _ T106 (mkF m 194 #[.val (.long p0), .second, .val (.int p1), .val (.int p2), .val (.int p3), .val (.long dl), .second, .val (.int md), .val (.int (1 : Int32)), .val (.int (1 : Int32)), .val (.long mg), .second, .val (.long bb), .second, .val (.long vl), .second, .val (.double (4427038433705197568 : UInt64)), .second, .val (.int g_), .unset, .unset, .unset, .unset] [(.long ms)])
        obtain ⟨ss, h_ss⟩ : ∃ z : Int64, ms = z := ⟨_, rfl⟩
        refine o_lstore X106 at_194 h_ss (L' := #[.val (.long p0), .second, .val (.int p1), .val (.int p2), .val (.int p3), .val (.long dl), .second, .val (.int md), .val (.int (1 : Int32)), .val (.int (1 : Int32)), .val (.long mg), .second, .val (.long bb), .second, .val (.long vl), .second, .val (.double (4427038433705197568 : UInt64)), .second, .val (.int g_), .val (.long ss), .second, .unset, .unset]) rfl (q := 196) rfl ?_
        refine o_lload X106 at_196 rfl (q := 198) rfl ?_
        refine o_ldcJ X106 (w19 hw) at_198 (q := 201) rfl ?_
        refine o_lmul X106 at_201 (w := (dl * (1000000000000 : Int64))) rfl (q := 202) rfl ?_
        obtain ⟨lh, h_lh⟩ : ∃ z : Int64, (dl * (1000000000000 : Int64)) = z := ⟨_, rfl⟩
        refine o_lstore X106 at_202 h_lh (L' := #[.val (.long p0), .second, .val (.int p1), .val (.int p2), .val (.int p3), .val (.long dl), .second, .val (.int md), .val (.int (1 : Int32)), .val (.int (1 : Int32)), .val (.long mg), .second, .val (.long bb), .second, .val (.long vl), .second, .val (.double (4427038433705197568 : UInt64)), .second, .val (.int g_), .val (.long ss), .second, .val (.long lh), .second]) rfl (q := 204) rfl ?_
        refine o_lload X106 at_204 rfl (q := 206) rfl ?_
        refine o_lload X106 at_206 rfl (q := 208) rfl ?_
        refine o_lsub X106 at_208 (w := (lh - ss)) rfl (q := 209) rfl ?_
        refine o_stat X106 [(.long (lh - ss))] (y' := (⟨"java/lang/Math", "abs", "(J)J"⟩ : MethodName)) (c_absJ hw (lh - ss) _) (w13 hw) (w14 hw) (w8 hw) (w15 hw) (by decide) at_209 (rest := []) rfl rfl (lenOf pd1 rfl) rfl (by decide) (Nat.le_of_ble_eq_true rfl) (by decide) (by decide) (q := 212) rfl ?_
        intro v107 T107 h107 l107 X107 q107
        obtain ⟨a4, rfl, h_a4, e107⟩ := q107
        have e107 := e107.symm
        subst e107
        show Goes p e below _ T107 (mkF m 212 #[.val (.long p0), .second, .val (.int p1), .val (.int p2), .val (.int p3), .val (.long dl), .second, .val (.int md), .val (.int (1 : Int32)), .val (.int (1 : Int32)), .val (.long mg), .second, .val (.long bb), .second, .val (.long vl), .second, .val (.double (4427038433705197568 : UInt64)), .second, .val (.int g_), .val (.long ss), .second, .val (.long lh), .second] [(.long a4)])
        refine o_ldcJ X107 (w20 hw) at_212 (q := 215) rfl ?_
        refine o_lcmp X107 at_215 (w := (lcmpW a4 (4 : Int64))) rfl (q := 216) rfl ?_
        by_cases hc216 : (0 : Int32) < (lcmpW a4 (4 : Int64))
        · refine o_ifY X107 at_216 (tlt hc216).2.2.1 (by decide) (q := 221) (by decide) ?_
          refine o_iload X107 at_221 rfl (q := 223) rfl ?_
          refine o_lload X107 at_223 rfl (q := 225) rfl ?_
          refine o_lload X107 at_225 rfl (q := 227) rfl ?_
          refine o_lcmp X107 at_227 (w := (lcmpW lh ss)) rfl (q := 228) rfl ?_
          have hss := own_ss hbb (by omega) (Lc := (1099511627776 : Int64)) (by decide) h_ab h_av h_m0 (h_ms.trans h_ss)
          have hlh := own_lh hdl h_lh
          have hcut := own_cut (l := lh) (s := ss) (by omega) hss.2 (by rw [h_a4]; exact hc216)
          have hfin := own_fin (D := bb.toInt - vl.toInt) (S := ss.toInt) (sg := ((1 : Rat) / 1099511627776)) (T := T_) (by decide +kernel) hss.2.1 hss.2.2 (by rw [hss.1]; exact (rT.2.2 (own_KM (v := vl.toInt) (b := bb.toInt) (L := 1099511627776) (sg := ((1 : Rat) / 1099511627776)) (by decide +kernel) (by decide +kernel) (by unfold Mx; omega) (by decide +kernel)).2.2.1).1) (by rw [hss.1]; exact (rT.2.2 (own_KM (v := vl.toInt) (b := bb.toInt) (L := 1099511627776) (sg := ((1 : Rat) / 1099511627776)) (by decide +kernel) (by decide +kernel) (by unfold Mx; omega) (by decide +kernel)).2.2.1).2)
          rw [own_E] at hg
          by_cases hc228 : (0 : Int32) < (lcmpW lh ss)
          · refine o_ifN X107 at_228 (tlt hc228).2.2.2 (q := 231) rfl ?_
            refine o_iconst X107 at_231 (w := 1) rfl (q := 232) rfl ?_
            refine o_goto X107 at_232 (by decide) (q := 236) (by decide) ?_
            refine o_icmpN X107 at_236 (teq (own_g1 hg (hfin.1 (by have q := (lw_gt _ _).mp hc228; rw [Int64.lt_iff_toInt_lt] at q; omega)))).2 (q := 239) rfl ?_
            refine o_iconst X107 at_239 (w := 1) rfl (q := 240) rfl ?_
            refine o_goto X107 at_240 (by decide) (q := 244) (by decide) ?_
            exact o_retN X107 at_244 (by simp) rfl (by decide) (by decide)
          · refine o_ifY X107 at_228 (flt hc228).2.2.2 (by decide) (q := 235) (by decide) ?_
            refine o_iconst X107 at_235 (w := 0) rfl (q := 236) rfl ?_
            refine o_icmpN X107 at_236 (teq (own_g0 hg (hfin.2 (by have q : ¬ ss < lh := fun z => hc228 ((lw_gt _ _).mpr z); rw [Int64.lt_iff_toInt_lt] at q; omega)))).2 (q := 239) rfl ?_
            refine o_iconst X107 at_239 (w := 1) rfl (q := 240) rfl ?_
            refine o_goto X107 at_240 (by decide) (q := 244) (by decide) ?_
            exact o_retN X107 at_244 (by simp) rfl (by decide) (by decide)
        · refine o_ifN X107 at_216 (flt hc216).2.2.1 (q := 219) rfl ?_
          refine o_iconst X107 at_219 (w := 1) rfl (q := 220) rfl ?_
          exact o_retN X107 at_220 (by simp) rfl (by decide) (by decide)
      · refine o_ifY X at_49 (feq hc49).2 (by decide) (q := 62) (by decide) ?_
        refine o_iload X at_62 rfl (q := 64) rfl ?_
        refine o_iconst X at_64 (w := 1) rfl (q := 65) rfl ?_
        by_cases hc65 : md = (1 : Int32)
        · refine o_icmpN X at_65 (teq hc65).2 (q := 68) rfl ?_
          refine o_lloadN X at_68 rfl (q := 69) rfl ?_
          refine o_ldcJ X (w23 hw) at_69 (q := 72) rfl ?_
          refine o_land X at_72 (w := (p0 &&& (1048575 : Int64))) rfl (q := 73) rfl ?_
          obtain ⟨mg, h_mg⟩ : ∃ z : Int64, (p0 &&& (1048575 : Int64)) = z := ⟨_, rfl⟩
          refine o_lstore X at_73 h_mg (L' := #[.val (.long p0), .second, .val (.int p1), .val (.int p2), .val (.int p3), .val (.long dl), .second, .val (.int md), .val (.int (1 : Int32)), .val (.int (1 : Int32)), .val (.long mg), .second, .unset, .unset, .unset, .unset, .unset, .unset, .unset, .unset, .unset, .unset, .unset]) rfl (q := 75) rfl ?_
          refine o_goto X at_75 (by decide) (q := 113) (by decide) ?_
          refine o_iload X at_113 rfl (q := 115) rfl ?_
          have hmg : 0 ≤ mg.toInt ∧ mg.toInt < 4503599627370496 := (fun q : 0 ≤ mg.toInt ∧ mg.toInt < (2 ^ 20 : Nat) => (⟨q.1, by omega⟩ : 0 ≤ mg.toInt ∧ mg.toInt < 4503599627370496)) (own_mk h_mg (by decide) (k := 20) (by decide))
          refine o_ifN X at_115 (by decide) (q := 118) rfl ?_
          refine o_lload X at_118 rfl (q := 120) rfl ?_
          refine o_lneg X at_120 (w := (-mg)) rfl (q := 121) rfl ?_
          refine o_goto X at_121 (by decide) (q := 126) (by decide) ?_
          obtain ⟨bb, h_bb⟩ : ∃ z : Int64, (-mg) = z := ⟨_, rfl⟩
          refine o_lstore X at_126 h_bb (L' := #[.val (.long p0), .second, .val (.int p1), .val (.int p2), .val (.int p3), .val (.long dl), .second, .val (.int md), .val (.int (1 : Int32)), .val (.int (1 : Int32)), .val (.long mg), .second, .val (.long bb), .second, .unset, .unset, .unset, .unset, .unset, .unset, .unset, .unset, .unset]) rfl (q := 128) rfl ?_
          refine o_lload X at_128 rfl (q := 130) rfl ?_
          refine o_lload X at_130 rfl (q := 132) rfl ?_
          refine o_lsub X at_132 (w := (bb - dl)) rfl (q := 133) rfl ?_
          obtain ⟨vl, h_vl⟩ : ∃ z : Int64, (bb - dl) = z := ⟨_, rfl⟩
          refine o_lstore X at_133 h_vl (L' := #[.val (.long p0), .second, .val (.int p1), .val (.int p2), .val (.int p3), .val (.long dl), .second, .val (.int md), .val (.int (1 : Int32)), .val (.int (1 : Int32)), .val (.long mg), .second, .val (.long bb), .second, .val (.long vl), .second, .unset, .unset, .unset, .unset, .unset, .unset, .unset]) rfl (q := 135) rfl ?_
          refine o_iload X at_135 rfl (q := 137) rfl ?_
          have hbb : bb.toInt.natAbs < 4503599627370496 := own_neg hmg h_bb
          have hdl := own_dl h_dl
          have hvl := own_v hbb hdl h_vl
          refine o_ifN X at_137 (by decide) (q := 140) rfl ?_
          have iv108 : IsV (4427038433705197568 : UInt64) ((1 : Rat) / 1099511627776) := ⟨false, 4503599627370496, (-92), by decide +kernel, by decide +kernel⟩
          refine o_ldcD X (w21 hw) at_140 (q := 143) rfl ?_
          refine o_goto X at_143 (by decide) (q := 147) (by decide) ?_
          refine o_dstore X at_147 rfl (L' := #[.val (.long p0), .second, .val (.int p1), .val (.int p2), .val (.int p3), .val (.long dl), .second, .val (.int md), .val (.int (1 : Int32)), .val (.int (1 : Int32)), .val (.long mg), .second, .val (.long bb), .second, .val (.long vl), .second, .val (.double (4427038433705197568 : UInt64)), .second, .unset, .unset, .unset, .unset, .unset]) rfl (q := 149) rfl ?_
          refine o_lload X at_149 rfl (q := 151) rfl ?_
          obtain ⟨d109, hd109⟩ : ∃ z : UInt64, FP.l2d vl = z := ⟨_, rfl⟩
          have iv109 : IsV d109 ((vl).toInt : Rat) := (hd109 ▸ IsV.l2d (by omega))
          refine o_l2d X at_151 hd109 (q := 152) rfl ?_
          refine o_dload X at_152 rfl (q := 154) rfl ?_
          obtain ⟨d110, hd110⟩ : ∃ z : UInt64, FP.dmul d109 (4427038433705197568 : UInt64) = z := ⟨_, rfl⟩
          have iv110 : IsV d110 ((vl.toInt : Rat) * ((1 : Rat) / 1099511627776)) := hd110 ▸ (IsV.mul iv109 iv108 (own_rS (-40) (by omega) (by decide) (by decide) (by decide +kernel)))
          refine o_dmul X at_154 (hd110.symm ▸ iv110.nn) hd110 (q := 155) rfl ?_
          refine o_lload X at_155 rfl (q := 157) rfl ?_
          obtain ⟨d111, hd111⟩ : ∃ z : UInt64, FP.l2d bb = z := ⟨_, rfl⟩
          have iv111 : IsV d111 ((bb).toInt : Rat) := (hd111 ▸ IsV.l2d (by omega))
          refine o_l2d X at_157 hd111 (q := 158) rfl ?_
          refine o_dload X at_158 rfl (q := 160) rfl ?_
          obtain ⟨d112, hd112⟩ : ∃ z : UInt64, FP.dmul d111 (4427038433705197568 : UInt64) = z := ⟨_, rfl⟩
          have iv112 : IsV d112 ((bb.toInt : Rat) * ((1 : Rat) / 1099511627776)) := hd112 ▸ (IsV.mul iv111 iv108 (own_rS (-40) (by omega) (by decide) (by decide) (by decide +kernel)))
          refine o_dmul X at_160 (hd112.symm ▸ iv112.nn) hd112 (q := 161) rfl ?_
          refine o_stat X [(.double d110), (.double d112)] (y' := (⟨"com/example/silvafront/silvafront/forest/Rounding", "fallsBelow", "(DD)Z"⟩ : MethodName)) (c_fb hw d110 d112 vl.toInt bb.toInt 1099511627776 ((1 : Rat) / 1099511627776) _ iv110 iv112 (by decide +kernel) (by decide +kernel) (by decide +kernel) (by unfold Mx; omega) ((own_rS (n := bb.toInt - vl.toInt) (-40) (by omega) (by decide) (by decide) (by decide +kernel)).eqv (own_E _ _ _).symm)) (w1 hw) (w2 hw) (w3 hw) (w4 hw) (by decide) at_161 (rest := []) rfl rfl (lenOf pd0 rfl) rfl (by decide) (Nat.le_of_ble_eq_true rfl) (by decide) (by decide) (q := 164) rfl ?_
          intro v113 T113 h113 l113 X113 q113
          obtain ⟨T_, g_, rfl, rT, hg, e113⟩ := q113
          have e113 := e113.symm
          subst e113
          show Goes p e below _ T113 (mkF m 164 #[.val (.long p0), .second, .val (.int p1), .val (.int p2), .val (.int p3), .val (.long dl), .second, .val (.int md), .val (.int (1 : Int32)), .val (.int (1 : Int32)), .val (.long mg), .second, .val (.long bb), .second, .val (.long vl), .second, .val (.double (4427038433705197568 : UInt64)), .second, .unset, .unset, .unset, .unset, .unset] [(.int g_)])
          refine o_istore X113 at_164 rfl (L' := #[.val (.long p0), .second, .val (.int p1), .val (.int p2), .val (.int p3), .val (.long dl), .second, .val (.int md), .val (.int (1 : Int32)), .val (.int (1 : Int32)), .val (.long mg), .second, .val (.long bb), .second, .val (.long vl), .second, .val (.double (4427038433705197568 : UInt64)), .second, .val (.int g_), .unset, .unset, .unset, .unset]) rfl (q := 166) rfl ?_
          refine o_lload X113 at_166 rfl (q := 168) rfl ?_
          refine o_stat X113 [(.long bb)] (y' := (⟨"java/lang/Math", "abs", "(J)J"⟩ : MethodName)) (c_absJ hw bb _) (w13 hw) (w14 hw) (w8 hw) (w15 hw) (by decide) at_168 (rest := []) rfl rfl (lenOf pd1 rfl) rfl (by decide) (Nat.le_of_ble_eq_true rfl) (by decide) (by decide) (q := 171) rfl ?_
          intro v114 T114 h114 l114 X114 q114
          obtain ⟨ab, rfl, h_ab, e114⟩ := q114
          have e114 := e114.symm
          subst e114
          show Goes p e below _ T114 (mkF m 171 #[.val (.long p0), .second, .val (.int p1), .val (.int p2), .val (.int p3), .val (.long dl), .second, .val (.int md), .val (.int (1 : Int32)), .val (.int (1 : Int32)), .val (.long mg), .second, .val (.long bb), .second, .val (.long vl), .second, .val (.double (4427038433705197568 : UInt64)), .second, .val (.int g_), .unset, .unset, .unset, .unset] [(.long ab)])
          refine o_lload X114 at_171 rfl (q := 173) rfl ?_
          refine o_stat X114 [(.long vl)] (y' := (⟨"java/lang/Math", "abs", "(J)J"⟩ : MethodName)) (c_absJ hw vl _) (w13 hw) (w14 hw) (w8 hw) (w15 hw) (by decide) at_173 (rest := [(.long ab)]) rfl rfl (lenOf pd1 rfl) rfl (by decide) (Nat.le_of_ble_eq_true rfl) (by decide) (by decide) (q := 176) rfl ?_
          intro v115 T115 h115 l115 X115 q115
          obtain ⟨av, rfl, h_av, e115⟩ := q115
          have e115 := e115.symm
          subst e115
          show Goes p e below _ T115 (mkF m 176 #[.val (.long p0), .second, .val (.int p1), .val (.int p2), .val (.int p3), .val (.long dl), .second, .val (.int md), .val (.int (1 : Int32)), .val (.int (1 : Int32)), .val (.long mg), .second, .val (.long bb), .second, .val (.long vl), .second, .val (.double (4427038433705197568 : UInt64)), .second, .val (.int g_), .unset, .unset, .unset, .unset] [(.long av), (.long ab)])
          refine o_stat X115 [(.long ab), (.long av)] (y' := (⟨"java/lang/Math", "max", "(JJ)J"⟩ : MethodName)) (c_maxJ hw ab av _) (w16 hw) (w17 hw) (w8 hw) (w18 hw) (by decide) at_176 (rest := []) rfl rfl (lenOf pd2 rfl) rfl (by decide) (Nat.le_of_ble_eq_true rfl) (by decide) (by decide) (q := 179) rfl ?_
          intro v116 T116 h116 l116 X116 q116
          obtain ⟨m0, rfl, h_m0, e116⟩ := q116
          have e116 := e116.symm
          subst e116
          show Goes p e below _ T116 (mkF m 179 #[.val (.long p0), .second, .val (.int p1), .val (.int p2), .val (.int p3), .val (.long dl), .second, .val (.int md), .val (.int (1 : Int32)), .val (.int (1 : Int32)), .val (.long mg), .second, .val (.long bb), .second, .val (.long vl), .second, .val (.double (4427038433705197568 : UInt64)), .second, .val (.int g_), .unset, .unset, .unset, .unset] [(.long m0)])
          refine o_iload X116 at_179 rfl (q := 181) rfl ?_
          refine o_ifN X116 at_181 (by decide) (q := 184) rfl ?_
          refine o_ldcJ X116 (w22 hw) at_184 (q := 187) rfl ?_
          refine o_goto X116 at_187 (by decide) (q := 191) (by decide) ?_
          refine o_stat X116 [(.long m0), (.long (1099511627776 : Int64))] (y' := (⟨"java/lang/Math", "max", "(JJ)J"⟩ : MethodName)) (c_maxJ hw m0 (1099511627776 : Int64) _) (w16 hw) (w17 hw) (w8 hw) (w18 hw) (by decide) at_191 (rest := []) rfl rfl (lenOf pd2 rfl) rfl (by decide) (Nat.le_of_ble_eq_true rfl) (by decide) (by decide) (q := 194) rfl ?_
          intro v117 T117 h117 l117 X117 q117
          obtain ⟨ms, rfl, h_ms, e117⟩ := q117
          have e117 := e117.symm
          subst e117
          show Goes p e below _ T117 (mkF m 194 #[.val (.long p0), .second, .val (.int p1), .val (.int p2), .val (.int p3), .val (.long dl), .second, .val (.int md), .val (.int (1 : Int32)), .val (.int (1 : Int32)), .val (.long mg), .second, .val (.long bb), .second, .val (.long vl), .second, .val (.double (4427038433705197568 : UInt64)), .second, .val (.int g_), .unset, .unset, .unset, .unset] [(.long ms)])
          obtain ⟨ss, h_ss⟩ : ∃ z : Int64, ms = z := ⟨_, rfl⟩
          refine o_lstore X117 at_194 h_ss (L' := #[.val (.long p0), .second, .val (.int p1), .val (.int p2), .val (.int p3), .val (.long dl), .second, .val (.int md), .val (.int (1 : Int32)), .val (.int (1 : Int32)), .val (.long mg), .second, .val (.long bb), .second, .val (.long vl), .second, .val (.double (4427038433705197568 : UInt64)), .second, .val (.int g_), .val (.long ss), .second, .unset, .unset]) rfl (q := 196) rfl ?_
          refine o_lload X117 at_196 rfl (q := 198) rfl ?_
          refine o_ldcJ X117 (w19 hw) at_198 (q := 201) rfl ?_
          refine o_lmul X117 at_201 (w := (dl * (1000000000000 : Int64))) rfl (q := 202) rfl ?_
          obtain ⟨lh, h_lh⟩ : ∃ z : Int64, (dl * (1000000000000 : Int64)) = z := ⟨_, rfl⟩
          refine o_lstore X117 at_202 h_lh (L' := #[.val (.long p0), .second, .val (.int p1), .val (.int p2), .val (.int p3), .val (.long dl), .second, .val (.int md), .val (.int (1 : Int32)), .val (.int (1 : Int32)), .val (.long mg), .second, .val (.long bb), .second, .val (.long vl), .second, .val (.double (4427038433705197568 : UInt64)), .second, .val (.int g_), .val (.long ss), .second, .val (.long lh), .second]) rfl (q := 204) rfl ?_
          refine o_lload X117 at_204 rfl (q := 206) rfl ?_
          refine o_lload X117 at_206 rfl (q := 208) rfl ?_
          refine o_lsub X117 at_208 (w := (lh - ss)) rfl (q := 209) rfl ?_
          refine o_stat X117 [(.long (lh - ss))] (y' := (⟨"java/lang/Math", "abs", "(J)J"⟩ : MethodName)) (c_absJ hw (lh - ss) _) (w13 hw) (w14 hw) (w8 hw) (w15 hw) (by decide) at_209 (rest := []) rfl rfl (lenOf pd1 rfl) rfl (by decide) (Nat.le_of_ble_eq_true rfl) (by decide) (by decide) (q := 212) rfl ?_
          intro v118 T118 h118 l118 X118 q118
          obtain ⟨a4, rfl, h_a4, e118⟩ := q118
          have e118 := e118.symm
          subst e118
          show Goes p e below _ T118 (mkF m 212 #[.val (.long p0), .second, .val (.int p1), .val (.int p2), .val (.int p3), .val (.long dl), .second, .val (.int md), .val (.int (1 : Int32)), .val (.int (1 : Int32)), .val (.long mg), .second, .val (.long bb), .second, .val (.long vl), .second, .val (.double (4427038433705197568 : UInt64)), .second, .val (.int g_), .val (.long ss), .second, .val (.long lh), .second] [(.long a4)])
          refine o_ldcJ X118 (w20 hw) at_212 (q := 215) rfl ?_
          refine o_lcmp X118 at_215 (w := (lcmpW a4 (4 : Int64))) rfl (q := 216) rfl ?_
          by_cases hc216 : (0 : Int32) < (lcmpW a4 (4 : Int64))
          · refine o_ifY X118 at_216 (tlt hc216).2.2.1 (by decide) (q := 221) (by decide) ?_
            refine o_iload X118 at_221 rfl (q := 223) rfl ?_
            refine o_lload X118 at_223 rfl (q := 225) rfl ?_
            refine o_lload X118 at_225 rfl (q := 227) rfl ?_
            refine o_lcmp X118 at_227 (w := (lcmpW lh ss)) rfl (q := 228) rfl ?_
            have hss := own_ss hbb (by omega) (Lc := (1099511627776 : Int64)) (by decide) h_ab h_av h_m0 (h_ms.trans h_ss)
            have hlh := own_lh hdl h_lh
            have hcut := own_cut (l := lh) (s := ss) (by omega) hss.2 (by rw [h_a4]; exact hc216)
            have hfin := own_fin (D := bb.toInt - vl.toInt) (S := ss.toInt) (sg := ((1 : Rat) / 1099511627776)) (T := T_) (by decide +kernel) hss.2.1 hss.2.2 (by rw [hss.1]; exact (rT.2.2 (own_KM (v := vl.toInt) (b := bb.toInt) (L := 1099511627776) (sg := ((1 : Rat) / 1099511627776)) (by decide +kernel) (by decide +kernel) (by unfold Mx; omega) (by decide +kernel)).2.2.1).1) (by rw [hss.1]; exact (rT.2.2 (own_KM (v := vl.toInt) (b := bb.toInt) (L := 1099511627776) (sg := ((1 : Rat) / 1099511627776)) (by decide +kernel) (by decide +kernel) (by unfold Mx; omega) (by decide +kernel)).2.2.1).2)
            rw [own_E] at hg
            by_cases hc228 : (0 : Int32) < (lcmpW lh ss)
            · refine o_ifN X118 at_228 (tlt hc228).2.2.2 (q := 231) rfl ?_
              refine o_iconst X118 at_231 (w := 1) rfl (q := 232) rfl ?_
              refine o_goto X118 at_232 (by decide) (q := 236) (by decide) ?_
              refine o_icmpN X118 at_236 (teq (own_g1 hg (hfin.1 (by have q := (lw_gt _ _).mp hc228; rw [Int64.lt_iff_toInt_lt] at q; omega)))).2 (q := 239) rfl ?_
              refine o_iconst X118 at_239 (w := 1) rfl (q := 240) rfl ?_
              refine o_goto X118 at_240 (by decide) (q := 244) (by decide) ?_
              exact o_retN X118 at_244 (by simp) rfl (by decide) (by decide)
            · refine o_ifY X118 at_228 (flt hc228).2.2.2 (by decide) (q := 235) (by decide) ?_
              refine o_iconst X118 at_235 (w := 0) rfl (q := 236) rfl ?_
              refine o_icmpN X118 at_236 (teq (own_g0 hg (hfin.2 (by have q : ¬ ss < lh := fun z => hc228 ((lw_gt _ _).mpr z); rw [Int64.lt_iff_toInt_lt] at q; omega)))).2 (q := 239) rfl ?_
              refine o_iconst X118 at_239 (w := 1) rfl (q := 240) rfl ?_
              refine o_goto X118 at_240 (by decide) (q := 244) (by decide) ?_
              exact o_retN X118 at_244 (by simp) rfl (by decide) (by decide)
          · refine o_ifN X118 at_216 (flt hc216).2.2.1 (q := 219) rfl ?_
            refine o_iconst X118 at_219 (w := 1) rfl (q := 220) rfl ?_
            exact o_retN X118 at_220 (by simp) rfl (by decide) (by decide)
        · refine o_icmpY X at_65 (feq hc65).2 (by decide) (q := 78) (by decide) ?_
          refine o_lload X at_78 rfl (q := 80) rfl ?_
          refine o_iload X at_80 rfl (q := 82) rfl ?_
          refine o_iconst X at_82 (w := 4) rfl (q := 83) rfl ?_
          refine o_ishr X at_83 (w := (p3 >>> ((4 : Int32) &&& 31))) rfl (q := 84) rfl ?_
          refine o_iconst X at_84 (w := 3) rfl (q := 85) rfl ?_
          refine o_iand X at_85 (w := ((p3 >>> ((4 : Int32) &&& 31)) &&& (3 : Int32))) rfl (q := 86) rfl ?_
          refine o_iconst X at_86 (w := 1) rfl (q := 87) rfl ?_
          refine o_isub X at_87 (w := (((p3 >>> ((4 : Int32) &&& 31)) &&& (3 : Int32)) - (1 : Int32))) rfl (q := 88) rfl ?_
          refine o_i2l X at_88 (w := ((((p3 >>> ((4 : Int32) &&& 31)) &&& (3 : Int32)) - (1 : Int32)).toInt64)) rfl (q := 89) rfl ?_
          refine o_ladd X at_89 (w := (dl + ((((p3 >>> ((4 : Int32) &&& 31)) &&& (3 : Int32)) - (1 : Int32)).toInt64))) rfl (q := 90) rfl ?_
          obtain ⟨dd_, h_dd_⟩ : ∃ z : Int64, (dl + ((((p3 >>> ((4 : Int32) &&& 31)) &&& (3 : Int32)) - (1 : Int32)).toInt64)) = z := ⟨_, rfl⟩
          refine o_lstore X at_90 h_dd_ (L' := #[.val (.long p0), .second, .val (.int p1), .val (.int p2), .val (.int p3), .val (.long dl), .second, .val (.int md), .val (.int (1 : Int32)), .val (.int (1 : Int32)), .unset, .unset, .val (.long dd_), .second, .unset, .unset, .unset, .unset, .unset, .unset, .unset, .unset, .unset]) rfl (q := 92) rfl ?_
          refine o_iloadN X at_92 rfl (q := 93) rfl ?_
          refine o_bipush X at_93 (w := 11) rfl (q := 95) rfl ?_
          refine o_ishr X at_95 (w := (p2 >>> ((11 : Int32) &&& 31))) rfl (q := 96) rfl ?_
          refine o_i2l X at_96 (w := ((p2 >>> ((11 : Int32) &&& 31)).toInt64)) rfl (q := 97) rfl ?_
          obtain ⟨of_, h_of_⟩ : ∃ z : Int64, ((p2 >>> ((11 : Int32) &&& 31)).toInt64) = z := ⟨_, rfl⟩
          refine o_lstore X at_97 h_of_ (L' := #[.val (.long p0), .second, .val (.int p1), .val (.int p2), .val (.int p3), .val (.long dl), .second, .val (.int md), .val (.int (1 : Int32)), .val (.int (1 : Int32)), .unset, .unset, .val (.long dd_), .second, .val (.long of_), .second, .unset, .unset, .unset, .unset, .unset, .unset, .unset]) rfl (q := 99) rfl ?_
          refine o_lload X at_99 rfl (q := 101) rfl ?_
          refine o_ldcJ X (w19 hw) at_101 (q := 104) rfl ?_
          refine o_lmul X at_104 (w := (dd_ * (1000000000000 : Int64))) rfl (q := 105) rfl ?_
          refine o_lload X at_105 rfl (q := 107) rfl ?_
          refine o_ladd X at_107 (w := ((dd_ * (1000000000000 : Int64)) + of_)) rfl (q := 108) rfl ?_
          refine o_stat X [(.long ((dd_ * (1000000000000 : Int64)) + of_))] (y' := (⟨"java/lang/Math", "abs", "(J)J"⟩ : MethodName)) (c_absJ hw ((dd_ * (1000000000000 : Int64)) + of_) _) (w13 hw) (w14 hw) (w8 hw) (w15 hw) (by decide) at_108 (rest := []) rfl rfl (lenOf pd1 rfl) rfl (by decide) (Nat.le_of_ble_eq_true rfl) (by decide) (by decide) (q := 111) rfl ?_
          intro v119 T119 h119 l119 X119 q119
          obtain ⟨m2, rfl, h_m2, e119⟩ := q119
          have e119 := e119.symm
          subst e119
          show Goes p e below _ T119 (mkF m 111 #[.val (.long p0), .second, .val (.int p1), .val (.int p2), .val (.int p3), .val (.long dl), .second, .val (.int md), .val (.int (1 : Int32)), .val (.int (1 : Int32)), .unset, .unset, .val (.long dd_), .second, .val (.long of_), .second, .unset, .unset, .unset, .unset, .unset, .unset, .unset] [(.long m2)])
          obtain ⟨mg, h_mg⟩ : ∃ z : Int64, m2 = z := ⟨_, rfl⟩
          refine o_lstore X119 at_111 h_mg (L' := #[.val (.long p0), .second, .val (.int p1), .val (.int p2), .val (.int p3), .val (.long dl), .second, .val (.int md), .val (.int (1 : Int32)), .val (.int (1 : Int32)), .val (.long mg), .second, .val (.long dd_), .second, .val (.long of_), .second, .unset, .unset, .unset, .unset, .unset, .unset, .unset]) rfl (q := 113) rfl ?_
          refine o_iload X119 at_113 rfl (q := 115) rfl ?_
          have hmg : 0 ≤ mg.toInt ∧ mg.toInt < 4503599627370496 := h_mg ▸ own_md (own_dl h_dl) rfl h_dd_ h_of_ rfl h_m2
          refine o_ifN X119 at_115 (by decide) (q := 118) rfl ?_
          refine o_lload X119 at_118 rfl (q := 120) rfl ?_
          refine o_lneg X119 at_120 (w := (-mg)) rfl (q := 121) rfl ?_
          refine o_goto X119 at_121 (by decide) (q := 126) (by decide) ?_
          obtain ⟨bb, h_bb⟩ : ∃ z : Int64, (-mg) = z := ⟨_, rfl⟩
          refine o_lstore X119 at_126 h_bb (L' := #[.val (.long p0), .second, .val (.int p1), .val (.int p2), .val (.int p3), .val (.long dl), .second, .val (.int md), .val (.int (1 : Int32)), .val (.int (1 : Int32)), .val (.long mg), .second, .val (.long bb), .second, .val (.long of_), .second, .unset, .unset, .unset, .unset, .unset, .unset, .unset]) rfl (q := 128) rfl ?_
          refine o_lload X119 at_128 rfl (q := 130) rfl ?_
          refine o_lload X119 at_130 rfl (q := 132) rfl ?_
          refine o_lsub X119 at_132 (w := (bb - dl)) rfl (q := 133) rfl ?_
          obtain ⟨vl, h_vl⟩ : ∃ z : Int64, (bb - dl) = z := ⟨_, rfl⟩
          refine o_lstore X119 at_133 h_vl (L' := #[.val (.long p0), .second, .val (.int p1), .val (.int p2), .val (.int p3), .val (.long dl), .second, .val (.int md), .val (.int (1 : Int32)), .val (.int (1 : Int32)), .val (.long mg), .second, .val (.long bb), .second, .val (.long vl), .second, .unset, .unset, .unset, .unset, .unset, .unset, .unset]) rfl (q := 135) rfl ?_
          refine o_iload X119 at_135 rfl (q := 137) rfl ?_
          have hbb : bb.toInt.natAbs < 4503599627370496 := own_neg hmg h_bb
          have hdl := own_dl h_dl
          have hvl := own_v hbb hdl h_vl
          refine o_ifN X119 at_137 (by decide) (q := 140) rfl ?_
          have iv120 : IsV (4427038433705197568 : UInt64) ((1 : Rat) / 1099511627776) := ⟨false, 4503599627370496, (-92), by decide +kernel, by decide +kernel⟩
          refine o_ldcD X119 (w21 hw) at_140 (q := 143) rfl ?_
          refine o_goto X119 at_143 (by decide) (q := 147) (by decide) ?_
          refine o_dstore X119 at_147 rfl (L' := #[.val (.long p0), .second, .val (.int p1), .val (.int p2), .val (.int p3), .val (.long dl), .second, .val (.int md), .val (.int (1 : Int32)), .val (.int (1 : Int32)), .val (.long mg), .second, .val (.long bb), .second, .val (.long vl), .second, .val (.double (4427038433705197568 : UInt64)), .second, .unset, .unset, .unset, .unset, .unset]) rfl (q := 149) rfl ?_
          refine o_lload X119 at_149 rfl (q := 151) rfl ?_
          obtain ⟨d121, hd121⟩ : ∃ z : UInt64, FP.l2d vl = z := ⟨_, rfl⟩
          have iv121 : IsV d121 ((vl).toInt : Rat) := (hd121 ▸ IsV.l2d (by omega))
          refine o_l2d X119 at_151 hd121 (q := 152) rfl ?_
          refine o_dload X119 at_152 rfl (q := 154) rfl ?_
          obtain ⟨d122, hd122⟩ : ∃ z : UInt64, FP.dmul d121 (4427038433705197568 : UInt64) = z := ⟨_, rfl⟩
          have iv122 : IsV d122 ((vl.toInt : Rat) * ((1 : Rat) / 1099511627776)) := hd122 ▸ (IsV.mul iv121 iv120 (own_rS (-40) (by omega) (by decide) (by decide) (by decide +kernel)))
          refine o_dmul X119 at_154 (hd122.symm ▸ iv122.nn) hd122 (q := 155) rfl ?_
          refine o_lload X119 at_155 rfl (q := 157) rfl ?_
          obtain ⟨d123, hd123⟩ : ∃ z : UInt64, FP.l2d bb = z := ⟨_, rfl⟩
          have iv123 : IsV d123 ((bb).toInt : Rat) := (hd123 ▸ IsV.l2d (by omega))
          refine o_l2d X119 at_157 hd123 (q := 158) rfl ?_
          refine o_dload X119 at_158 rfl (q := 160) rfl ?_
          obtain ⟨d124, hd124⟩ : ∃ z : UInt64, FP.dmul d123 (4427038433705197568 : UInt64) = z := ⟨_, rfl⟩
          have iv124 : IsV d124 ((bb.toInt : Rat) * ((1 : Rat) / 1099511627776)) := hd124 ▸ (IsV.mul iv123 iv120 (own_rS (-40) (by omega) (by decide) (by decide) (by decide +kernel)))
          refine o_dmul X119 at_160 (hd124.symm ▸ iv124.nn) hd124 (q := 161) rfl ?_
          refine o_stat X119 [(.double d122), (.double d124)] (y' := (⟨"com/example/silvafront/silvafront/forest/Rounding", "fallsBelow", "(DD)Z"⟩ : MethodName)) (c_fb hw d122 d124 vl.toInt bb.toInt 1099511627776 ((1 : Rat) / 1099511627776) _ iv122 iv124 (by decide +kernel) (by decide +kernel) (by decide +kernel) (by unfold Mx; omega) ((own_rS (n := bb.toInt - vl.toInt) (-40) (by omega) (by decide) (by decide) (by decide +kernel)).eqv (own_E _ _ _).symm)) (w1 hw) (w2 hw) (w3 hw) (w4 hw) (by decide) at_161 (rest := []) rfl rfl (lenOf pd0 rfl) rfl (by decide) (Nat.le_of_ble_eq_true rfl) (by decide) (by decide) (q := 164) rfl ?_
          intro v125 T125 h125 l125 X125 q125
          obtain ⟨T_, g_, rfl, rT, hg, e125⟩ := q125
          have e125 := e125.symm
          subst e125
          show Goes p e below _ T125 (mkF m 164 #[.val (.long p0), .second, .val (.int p1), .val (.int p2), .val (.int p3), .val (.long dl), .second, .val (.int md), .val (.int (1 : Int32)), .val (.int (1 : Int32)), .val (.long mg), .second, .val (.long bb), .second, .val (.long vl), .second, .val (.double (4427038433705197568 : UInt64)), .second, .unset, .unset, .unset, .unset, .unset] [(.int g_)])
          refine o_istore X125 at_164 rfl (L' := #[.val (.long p0), .second, .val (.int p1), .val (.int p2), .val (.int p3), .val (.long dl), .second, .val (.int md), .val (.int (1 : Int32)), .val (.int (1 : Int32)), .val (.long mg), .second, .val (.long bb), .second, .val (.long vl), .second, .val (.double (4427038433705197568 : UInt64)), .second, .val (.int g_), .unset, .unset, .unset, .unset]) rfl (q := 166) rfl ?_
          refine o_lload X125 at_166 rfl (q := 168) rfl ?_
          refine o_stat X125 [(.long bb)] (y' := (⟨"java/lang/Math", "abs", "(J)J"⟩ : MethodName)) (c_absJ hw bb _) (w13 hw) (w14 hw) (w8 hw) (w15 hw) (by decide) at_168 (rest := []) rfl rfl (lenOf pd1 rfl) rfl (by decide) (Nat.le_of_ble_eq_true rfl) (by decide) (by decide) (q := 171) rfl ?_
          intro v126 T126 h126 l126 X126 q126
          obtain ⟨ab, rfl, h_ab, e126⟩ := q126
          have e126 := e126.symm
          subst e126
          show Goes p e below _ T126 (mkF m 171 #[.val (.long p0), .second, .val (.int p1), .val (.int p2), .val (.int p3), .val (.long dl), .second, .val (.int md), .val (.int (1 : Int32)), .val (.int (1 : Int32)), .val (.long mg), .second, .val (.long bb), .second, .val (.long vl), .second, .val (.double (4427038433705197568 : UInt64)), .second, .val (.int g_), .unset, .unset, .unset, .unset] [(.long ab)])
          refine o_lload X126 at_171 rfl (q := 173) rfl ?_
          refine o_stat X126 [(.long vl)] (y' := (⟨"java/lang/Math", "abs", "(J)J"⟩ : MethodName)) (c_absJ hw vl _) (w13 hw) (w14 hw) (w8 hw) (w15 hw) (by decide) at_173 (rest := [(.long ab)]) rfl rfl (lenOf pd1 rfl) rfl (by decide) (Nat.le_of_ble_eq_true rfl) (by decide) (by decide) (q := 176) rfl ?_
          intro v127 T127 h127 l127 X127 q127
          obtain ⟨av, rfl, h_av, e127⟩ := q127
          have e127 := e127.symm
          subst e127
          show Goes p e below _ T127 (mkF m 176 #[.val (.long p0), .second, .val (.int p1), .val (.int p2), .val (.int p3), .val (.long dl), .second, .val (.int md), .val (.int (1 : Int32)), .val (.int (1 : Int32)), .val (.long mg), .second, .val (.long bb), .second, .val (.long vl), .second, .val (.double (4427038433705197568 : UInt64)), .second, .val (.int g_), .unset, .unset, .unset, .unset] [(.long av), (.long ab)])
          refine o_stat X127 [(.long ab), (.long av)] (y' := (⟨"java/lang/Math", "max", "(JJ)J"⟩ : MethodName)) (c_maxJ hw ab av _) (w16 hw) (w17 hw) (w8 hw) (w18 hw) (by decide) at_176 (rest := []) rfl rfl (lenOf pd2 rfl) rfl (by decide) (Nat.le_of_ble_eq_true rfl) (by decide) (by decide) (q := 179) rfl ?_
          intro v128 T128 h128 l128 X128 q128
          obtain ⟨m0, rfl, h_m0, e128⟩ := q128
          have e128 := e128.symm
          subst e128
          show Goes p e below _ T128 (mkF m 179 #[.val (.long p0), .second, .val (.int p1), .val (.int p2), .val (.int p3), .val (.long dl), .second, .val (.int md), .val (.int (1 : Int32)), .val (.int (1 : Int32)), .val (.long mg), .second, .val (.long bb), .second, .val (.long vl), .second, .val (.double (4427038433705197568 : UInt64)), .second, .val (.int g_), .unset, .unset, .unset, .unset] [(.long m0)])
          refine o_iload X128 at_179 rfl (q := 181) rfl ?_
          refine o_ifN X128 at_181 (by decide) (q := 184) rfl ?_
          refine o_ldcJ X128 (w22 hw) at_184 (q := 187) rfl ?_
          refine o_goto X128 at_187 (by decide) (q := 191) (by decide) ?_
          refine o_stat X128 [(.long m0), (.long (1099511627776 : Int64))] (y' := (⟨"java/lang/Math", "max", "(JJ)J"⟩ : MethodName)) (c_maxJ hw m0 (1099511627776 : Int64) _) (w16 hw) (w17 hw) (w8 hw) (w18 hw) (by decide) at_191 (rest := []) rfl rfl (lenOf pd2 rfl) rfl (by decide) (Nat.le_of_ble_eq_true rfl) (by decide) (by decide) (q := 194) rfl ?_
          intro v129 T129 h129 l129 X129 q129
          obtain ⟨ms, rfl, h_ms, e129⟩ := q129
          have e129 := e129.symm
          subst e129
          show Goes p e below _ T129 (mkF m 194 #[.val (.long p0), .second, .val (.int p1), .val (.int p2), .val (.int p3), .val (.long dl), .second, .val (.int md), .val (.int (1 : Int32)), .val (.int (1 : Int32)), .val (.long mg), .second, .val (.long bb), .second, .val (.long vl), .second, .val (.double (4427038433705197568 : UInt64)), .second, .val (.int g_), .unset, .unset, .unset, .unset] [(.long ms)])
          obtain ⟨ss, h_ss⟩ : ∃ z : Int64, ms = z := ⟨_, rfl⟩
          refine o_lstore X129 at_194 h_ss (L' := #[.val (.long p0), .second, .val (.int p1), .val (.int p2), .val (.int p3), .val (.long dl), .second, .val (.int md), .val (.int (1 : Int32)), .val (.int (1 : Int32)), .val (.long mg), .second, .val (.long bb), .second, .val (.long vl), .second, .val (.double (4427038433705197568 : UInt64)), .second, .val (.int g_), .val (.long ss), .second, .unset, .unset]) rfl (q := 196) rfl ?_
          refine o_lload X129 at_196 rfl (q := 198) rfl ?_
          refine o_ldcJ X129 (w19 hw) at_198 (q := 201) rfl ?_
          refine o_lmul X129 at_201 (w := (dl * (1000000000000 : Int64))) rfl (q := 202) rfl ?_
          obtain ⟨lh, h_lh⟩ : ∃ z : Int64, (dl * (1000000000000 : Int64)) = z := ⟨_, rfl⟩
          refine o_lstore X129 at_202 h_lh (L' := #[.val (.long p0), .second, .val (.int p1), .val (.int p2), .val (.int p3), .val (.long dl), .second, .val (.int md), .val (.int (1 : Int32)), .val (.int (1 : Int32)), .val (.long mg), .second, .val (.long bb), .second, .val (.long vl), .second, .val (.double (4427038433705197568 : UInt64)), .second, .val (.int g_), .val (.long ss), .second, .val (.long lh), .second]) rfl (q := 204) rfl ?_
          refine o_lload X129 at_204 rfl (q := 206) rfl ?_
          refine o_lload X129 at_206 rfl (q := 208) rfl ?_
          refine o_lsub X129 at_208 (w := (lh - ss)) rfl (q := 209) rfl ?_
          refine o_stat X129 [(.long (lh - ss))] (y' := (⟨"java/lang/Math", "abs", "(J)J"⟩ : MethodName)) (c_absJ hw (lh - ss) _) (w13 hw) (w14 hw) (w8 hw) (w15 hw) (by decide) at_209 (rest := []) rfl rfl (lenOf pd1 rfl) rfl (by decide) (Nat.le_of_ble_eq_true rfl) (by decide) (by decide) (q := 212) rfl ?_
          intro v130 T130 h130 l130 X130 q130
          obtain ⟨a4, rfl, h_a4, e130⟩ := q130
          have e130 := e130.symm
          subst e130
          show Goes p e below _ T130 (mkF m 212 #[.val (.long p0), .second, .val (.int p1), .val (.int p2), .val (.int p3), .val (.long dl), .second, .val (.int md), .val (.int (1 : Int32)), .val (.int (1 : Int32)), .val (.long mg), .second, .val (.long bb), .second, .val (.long vl), .second, .val (.double (4427038433705197568 : UInt64)), .second, .val (.int g_), .val (.long ss), .second, .val (.long lh), .second] [(.long a4)])
          refine o_ldcJ X130 (w20 hw) at_212 (q := 215) rfl ?_
          refine o_lcmp X130 at_215 (w := (lcmpW a4 (4 : Int64))) rfl (q := 216) rfl ?_
          by_cases hc216 : (0 : Int32) < (lcmpW a4 (4 : Int64))
          · refine o_ifY X130 at_216 (tlt hc216).2.2.1 (by decide) (q := 221) (by decide) ?_
            refine o_iload X130 at_221 rfl (q := 223) rfl ?_
            refine o_lload X130 at_223 rfl (q := 225) rfl ?_
            refine o_lload X130 at_225 rfl (q := 227) rfl ?_
            refine o_lcmp X130 at_227 (w := (lcmpW lh ss)) rfl (q := 228) rfl ?_
            have hss := own_ss hbb (by omega) (Lc := (1099511627776 : Int64)) (by decide) h_ab h_av h_m0 (h_ms.trans h_ss)
            have hlh := own_lh hdl h_lh
            have hcut := own_cut (l := lh) (s := ss) (by omega) hss.2 (by rw [h_a4]; exact hc216)
            have hfin := own_fin (D := bb.toInt - vl.toInt) (S := ss.toInt) (sg := ((1 : Rat) / 1099511627776)) (T := T_) (by decide +kernel) hss.2.1 hss.2.2 (by rw [hss.1]; exact (rT.2.2 (own_KM (v := vl.toInt) (b := bb.toInt) (L := 1099511627776) (sg := ((1 : Rat) / 1099511627776)) (by decide +kernel) (by decide +kernel) (by unfold Mx; omega) (by decide +kernel)).2.2.1).1) (by rw [hss.1]; exact (rT.2.2 (own_KM (v := vl.toInt) (b := bb.toInt) (L := 1099511627776) (sg := ((1 : Rat) / 1099511627776)) (by decide +kernel) (by decide +kernel) (by unfold Mx; omega) (by decide +kernel)).2.2.1).2)
            rw [own_E] at hg
            by_cases hc228 : (0 : Int32) < (lcmpW lh ss)
            · refine o_ifN X130 at_228 (tlt hc228).2.2.2 (q := 231) rfl ?_
              refine o_iconst X130 at_231 (w := 1) rfl (q := 232) rfl ?_
              refine o_goto X130 at_232 (by decide) (q := 236) (by decide) ?_
              refine o_icmpN X130 at_236 (teq (own_g1 hg (hfin.1 (by have q := (lw_gt _ _).mp hc228; rw [Int64.lt_iff_toInt_lt] at q; omega)))).2 (q := 239) rfl ?_
              refine o_iconst X130 at_239 (w := 1) rfl (q := 240) rfl ?_
              refine o_goto X130 at_240 (by decide) (q := 244) (by decide) ?_
              exact o_retN X130 at_244 (by simp) rfl (by decide) (by decide)
            · refine o_ifY X130 at_228 (flt hc228).2.2.2 (by decide) (q := 235) (by decide) ?_
              refine o_iconst X130 at_235 (w := 0) rfl (q := 236) rfl ?_
              refine o_icmpN X130 at_236 (teq (own_g0 hg (hfin.2 (by have q : ¬ ss < lh := fun z => hc228 ((lw_gt _ _).mpr z); rw [Int64.lt_iff_toInt_lt] at q; omega)))).2 (q := 239) rfl ?_
              refine o_iconst X130 at_239 (w := 1) rfl (q := 240) rfl ?_
              refine o_goto X130 at_240 (by decide) (q := 244) (by decide) ?_
              exact o_retN X130 at_244 (by simp) rfl (by decide) (by decide)
          · refine o_ifN X130 at_216 (flt hc216).2.2.1 (q := 219) rfl ?_
            refine o_iconst X130 at_219 (w := 1) rfl (q := 220) rfl ?_
            exact o_retN X130 at_220 (by simp) rfl (by decide) (by decide)
set_option maxRecDepth 65536 in
set_option maxHeartbeats 40000000 in
theorem comes_1 {Post : Tables → Env → Array Value → State → Outcome → State → Prop} (hpost : ∀ tb e args s v u, (limb_1_1.after args s (.returned v) u = true ∧ limb_1_2.after args s (.returned v) u = true ∧ True) → FrameEnd s (.returned v) u (Jvm.fieldLocs frame_1_writes args s ++ Jvm.arrayLocs frame_1_arrays args s ++ Jvm.staticLocs frame_1_statics s) 0 0 → Post tb e args s (.returned v) u) :
    ArmFor flags0 classFile x code maxLocals ret World_1 tables_1 room_1 Calls_1 rest_1 Pre_1 Post := by
  intro l hfl _ _ p e ha hc hk s m args below hf hA hF happ hP
  obtain ⟨hcalls, hrest, hpre⟩ := hP
  obtain ⟨-, -, -, hnamed, -, -, -, hat⟩ := (Spec.applies_iff hf).mp happ
  obtain ⟨hg, hn⟩ := and_e (Cond.before_iff.mp (show (Jvm.Cond.and given_1 narrow_1).before args s = true from hpre))
  obtain ⟨hcount, hg0⟩ := and_e hg
  obtain ⟨ga0, hg1⟩ := and_e hg0
  obtain ⟨ga1, hg2⟩ := and_e hg1
  obtain ⟨ga2, hg3⟩ := and_e hg2
  obtain ⟨w0, w1, w2, w3, rfl⟩ : ∃ w0 w1 w2 w3 : Value, args = #[w0, w1, w2, w3] := by
    have hs : args.size = 4 := by simpa [Cond.value, given_1] using hcount
    obtain ⟨L⟩ := args
    match L, hs with
    | [w0, w1, w2, w3], _ => exact ⟨w0, w1, w2, w3, rfl⟩
  have hw : W _ s := fun d (hd : d ∈ tables_1) => atoms_spec (ws := Jvm.Cond.code x code maxLocals ret :: tables_1) hat d (List.mem_cons_of_mem _ hd)
  obtain ⟨i0, ei0⟩ := isL_v ga0
  obtain rfl : w0 = (.long i0) := Option.some.inj ei0
  obtain ⟨i1, ei1⟩ := is_v ga1
  obtain rfl : w1 = (.int i1) := Option.some.inj ei1
  obtain ⟨i2, ei2⟩ := is_v ga2
  obtain rfl : w2 = (.int i2) := Option.some.inj ei2
  obtain ⟨i3, ei3⟩ := is_v hg3
  obtain rfl : w3 = (.int i3) := Option.some.inj ei3
  obtain ⟨n, o, h1, h2, h3, v, L, rfl, ⟨hQ, hN, -⟩, hq⟩ := c_law (l := l) hw i0 i1 i2 i3 ⟨Nat.le_refl _, fun _ _ q => q⟩ tables_1 p e ha hc hk s m _ below hf ((Spec.applies_iff_loose hf).mp happ).1 ⟨rfl, State.Warmed39.refl s, rfl⟩ trivial
  subst hQ
  refine ⟨n, _, h1, h2, h3, hpost _ _ _ _ _ _ ⟨Cond.after_iff.mpr rfl, Cond.after_iff.mpr (eq_i res_at (Term.int_eval (1)) rfl), trivial⟩ ⟨hq.1, hq.2.1, (hq.2.2.sift fun y hy => Or.inr (hN y hy)).mono (by decide) (by decide)⟩⟩
theorem main_1_1 : Claimed_1_1 := comes_1 fun _ _ _ _ _ _ h hF => ⟨h.1, hF⟩
theorem main_1_2 : Claimed_1_2 := comes_1 fun _ _ _ _ _ _ h hF => ⟨h.2.1, hF⟩
end Jvm.Pilot.@@N@@
namespace Jvm.Pilot.@@N@@
open Jvm Jvm.ClassFile Sem Op Lib Jvm.Free Jvm.Stand Jvm.Pilot.@@N@@.Jvm.D
/-! MADE BY PROGRAM (witnessworld.py) out of the Statement's table words and the real class files: 10 classes; the members and pool entries that the words name. The judged class is class 1, her method 1. -/
namespace start1
open Jvm.ClassFile
def u (s : String) : CpInfo := .utf8 (stringToUtf16 s)
/-- a pool by its gaps: so many unusable entries, then the entry; so many at the end -/
def gap : Nat → List CpInfo → List CpInfo
  | 0, r => r
  | n + 1, r => .unusable :: gap n r
def poolList (es : List (Nat × CpInfo)) (last : Nat) : List CpInfo := es.foldr (fun e r => gap e.1 (e.2 :: r)) (gap last [])
def pool (es : List (Nat × CpInfo)) (last : Nat) : Array CpInfo := ⟨poolList es last⟩
def fileOf (pool : Array CpInfo) (this : Nat) (attrs : Array Attribute := #[]) (ms : Array MethodInfo := #[]) (fl : Nat := 33) (sup : Nat := 0) (ifs : Array Nat := #[]) (fds : Array FieldInfo := #[]) : ClassFile where
  minorVersion := 0
  majorVersion := 65
  constantPool := pool
  accessFlags := fl
  thisClass := this
  superClass := sup
  interfaces := ifs
  fields := fds
  methods := ms
  attributes := attrs
def plain (name : String) (sup : Option ClassId) : Class where
  name := name
  kind := .ordinary
  loader := none
  accessFlags := 33
  super := sup
  interfaces := #[]
  cf := none
  fields := #[]
  methods := #[]
  instanceTypes := #[]
  staticTypes := #[]
  resolved := #[]
  callSites := []
  init := .initialized
  statics := none
  mirror := none

def pool0 : Array CpInfo := pool [(5, u "<init>"), (0, u "()V"), (1, .class_ 10), (1, u "java/lang/Object")] 113

def k0m0 : Method := { name := "<init>", desc := "()V", sig := { parameters := [], returnType := none }, accessFlags := 1, code := none }
/-- java/lang/Object -/
def k0 : Class := { plain "java/lang/Object" none with
  accessFlags := 33
  interfaces := #[]
  cf := some (fileOf pool0 8 #[] #[{ accessFlags := 1, nameIndex := 5, descriptorIndex := 6, attributes := #[] }] 33 0 #[] #[])
  fields := #[]
  methods := #[k0m0]
  instanceTypes := #[]
  staticTypes := #[]
  resolved := Array.replicate 124 none
  statics := none }

def pool1 : Array CpInfo := pool [(2, .class_ 4), (1, u "java/lang/Object"), (0, u "<init>"), (0, u "()V"), (0, .long 4503599627370495), (1, .long 1048575), (1, .long 1000000000000), (1, .methodref 14 15), (0, .class_ 16), (0, .nameAndType 17 18), (0, u "java/lang/Math"), (0, u "abs"), (0, u "(J)J"), (0, .double 4427038433705197568), (1, .methodref 22 23), (0, .class_ 24), (0, .nameAndType 25 26), (0, u "com/example/silvafront/silvafront/forest/Rounding"), (0, u "fallsBelow"), (0, u "(DD)Z"), (0, .methodref 14 28), (0, .nameAndType 29 30), (0, u "max"), (0, u "(JJ)J"), (0, .long 1099511627776), (1, .long 4), (1, .class_ 36), (0, u "com/example/silvafront/silvafront/forest/RoundingFallsBelowPinLaw"), (2, u "law"), (0, u "(JIII)Z")] 3

def k1m0 : Method := { name := "<init>", desc := "()V", sig := { parameters := [], returnType := none }, accessFlags := 1, code := none }
def k1c1 : Code := { maxStack := 6, maxLocals := 23, code := code, exceptionTable := #[], attributes := #[] }
def k1m1 : Method := { name := "law", desc := "(JIII)Z", sig := { parameters := [.long, .int, .int, .int], returnType := some .boolean }, accessFlags := 9, code := some k1c1 }
/-- com/example/silvafront/silvafront/forest/RoundingFallsBelowPinLaw -/
def k1 : Class := { plain "com/example/silvafront/silvafront/forest/RoundingFallsBelowPinLaw" (some 0) with
  accessFlags := 49
  interfaces := #[]
  cf := some (fileOf pool1 35 #[] #[{ accessFlags := 1, nameIndex := 5, descriptorIndex := 6, attributes := #[] }, { accessFlags := 9, nameIndex := 39, descriptorIndex := 40, attributes := #[] }] 49 2 #[] #[])
  fields := #[]
  methods := #[k1m0, k1m1]
  instanceTypes := #[]
  staticTypes := #[]
  resolved := Array.replicate 44 none
  statics := none }

def pool2 : Array CpInfo := pool [(2, .class_ 4), (1, u "java/lang/Object"), (0, u "<init>"), (0, u "()V"), (0, .class_ 8), (0, u "com/example/silvafront/silvafront/forest/Rounding"), (0, .double 4427486594234968593), (1, .methodref 12 13), (0, .class_ 14), (0, .nameAndType 15 16), (0, u "java/lang/Math"), (0, u "abs"), (0, u "(D)D"), (0, .methodref 12 18), (0, .nameAndType 19 20), (0, u "max"), (0, u "(DD)D"), (0, u "ROUNDING"), (0, u "D"), (3, u "fallsBelow"), (0, u "(DD)Z")] 3

def k2m0 : Method := { name := "<init>", desc := "()V", sig := { parameters := [], returnType := none }, accessFlags := 2, code := none }
def k2c1 : Code := { maxStack := 10, maxLocals := 4, code := prog_11_method_2_code, exceptionTable := #[], attributes := #[] }
def k2m1 : Method := { name := "fallsBelow", desc := "(DD)Z", sig := { parameters := [.double, .double], returnType := some .boolean }, accessFlags := 9, code := some k2c1 }
/-- com/example/silvafront/silvafront/forest/Rounding -/
def k2 : Class := { plain "com/example/silvafront/silvafront/forest/Rounding" (some 0) with
  accessFlags := 49
  interfaces := #[]
  cf := some (fileOf pool2 7 #[] #[{ accessFlags := 2, nameIndex := 5, descriptorIndex := 6, attributes := #[] }, { accessFlags := 9, nameIndex := 26, descriptorIndex := 27, attributes := #[] }] 49 2 #[] #[{ accessFlags := 26, nameIndex := 21, descriptorIndex := 22, attributes := #[] }])
  fields := #[{ name := "ROUNDING", type := .double, accessFlags := 26, slot := 0, constantValue := 0 }]
  methods := #[k2m0, k2m1]
  instanceTypes := #[]
  staticTypes := #[.double]
  resolved := Array.replicate 31 none
  statics := none }

def pool3 : Array CpInfo := pool [(1, .class_ 2), (0, u "java/lang/Math"), (1, .class_ 6), (1, u "java/lang/Object"), (0, u "<init>"), (0, u "()V"), (5, u "(D)D"), (37, u "(DD)D"), (45, .class_ 100), (1, u "java/lang/Math$RandomNumberGeneratorHolder"), (20, u "(JJ)J"), (2, u "abs"), (0, u "(J)J"), (46, u "negativeZeroFloatBits"), (0, u "J"), (2, u "negativeZeroDoubleBits"), (21, u "max"), (46, u "$assertionsDisabled"), (0, u "Z"), (91, u "twoToTheDoubleScaleDown"), (0, u "D"), (4, u "twoToTheDoubleScaleUp"), (9, u "E"), (3, u "PI"), (2, u "TAU"), (2, u "DEGREES_TO_RADIANS"), (0, u "RADIANS_TO_DEGREES")] 94

def k3m0 : Method := { name := "<init>", desc := "()V", sig := { parameters := [], returnType := none }, accessFlags := 2, code := none }
def k3c1 : Code := { maxStack := 4, maxLocals := 2, code := jdk_29_method_61_code, exceptionTable := #[], attributes := #[] }
def k3m1 : Method := { name := "abs", desc := "(J)J", sig := { parameters := [.long], returnType := some .long }, accessFlags := 9, code := some k3c1 }
def k3c2 : Code := { maxStack := 4, maxLocals := 2, code := jdk_29_method_64_code, exceptionTable := #[], attributes := #[] }
def k3m2 : Method := { name := "abs", desc := "(D)D", sig := { parameters := [.double], returnType := some .double }, accessFlags := 9, code := some k3c2 }
def k3c3 : Code := { maxStack := 4, maxLocals := 4, code := jdk_29_method_66_code, exceptionTable := #[], attributes := #[] }
def k3m3 : Method := { name := "max", desc := "(JJ)J", sig := { parameters := [.long, .long], returnType := some .long }, accessFlags := 9, code := some k3c3 }
def k3c4 : Code := { maxStack := 4, maxLocals := 4, code := jdk_29_method_68_code, exceptionTable := #[], attributes := #[] }
def k3m4 : Method := { name := "max", desc := "(DD)D", sig := { parameters := [.double, .double], returnType := some .double }, accessFlags := 9, code := some k3c4 }
/-- java/lang/Math -/
def k3 : Class := { plain "java/lang/Math" (some 0) with
  accessFlags := 49
  interfaces := #[]
  cf := some (fileOf pool3 1 #[.nestMembers #[98]] #[{ accessFlags := 2, nameIndex := 7, descriptorIndex := 8, attributes := #[] }, { accessFlags := 9, nameIndex := 124, descriptorIndex := 125, attributes := #[] }, { accessFlags := 9, nameIndex := 124, descriptorIndex := 14, attributes := #[] }, { accessFlags := 9, nameIndex := 198, descriptorIndex := 121, attributes := #[] }, { accessFlags := 9, nameIndex := 198, descriptorIndex := 52, attributes := #[] }] 49 4 #[] #[{ accessFlags := 25, nameIndex := 354, descriptorIndex := 339, attributes := #[] }, { accessFlags := 25, nameIndex := 358, descriptorIndex := 339, attributes := #[] }, { accessFlags := 25, nameIndex := 361, descriptorIndex := 339, attributes := #[] }, { accessFlags := 26, nameIndex := 364, descriptorIndex := 339, attributes := #[] }, { accessFlags := 26, nameIndex := 365, descriptorIndex := 339, attributes := #[] }, { accessFlags := 26, nameIndex := 172, descriptorIndex := 173, attributes := #[] }, { accessFlags := 26, nameIndex := 176, descriptorIndex := 173, attributes := #[] }, { accessFlags := 8, nameIndex := 344, descriptorIndex := 339, attributes := #[] }, { accessFlags := 8, nameIndex := 338, descriptorIndex := 339, attributes := #[] }, { accessFlags := 4120, nameIndex := 245, descriptorIndex := 246, attributes := #[] }])
  fields := #[{ name := "E", type := .double, accessFlags := 25, slot := 0, constantValue := 0 }, { name := "PI", type := .double, accessFlags := 25, slot := 1, constantValue := 0 }, { name := "TAU", type := .double, accessFlags := 25, slot := 2, constantValue := 0 }, { name := "DEGREES_TO_RADIANS", type := .double, accessFlags := 26, slot := 3, constantValue := 0 }, { name := "RADIANS_TO_DEGREES", type := .double, accessFlags := 26, slot := 4, constantValue := 0 }, { name := "negativeZeroFloatBits", type := .long, accessFlags := 26, slot := 5, constantValue := 0 }, { name := "negativeZeroDoubleBits", type := .long, accessFlags := 26, slot := 6, constantValue := 0 }, { name := "twoToTheDoubleScaleUp", type := .double, accessFlags := 8, slot := 7, constantValue := 0 }, { name := "twoToTheDoubleScaleDown", type := .double, accessFlags := 8, slot := 8, constantValue := 0 }, { name := "$assertionsDisabled", type := .boolean, accessFlags := 4120, slot := 9, constantValue := 0 }]
  methods := #[k3m0, k3m1, k3m2, k3m3, k3m4]
  instanceTypes := #[]
  staticTypes := #[.double, .double, .double, .double, .double, .long, .long, .double, .double, .boolean]
  resolved := Array.replicate 460 none
  statics := none }

def pool4 : Array CpInfo := pool [(1, u "java/lang/Cloneable"), (0, .class_ 1), (0, u "java/lang/Object"), (0, .class_ 3)] 3

/-- java/lang/Cloneable -/
def k4 : Class := { plain "java/lang/Cloneable" (some 0) with
  accessFlags := 1537
  interfaces := #[]
  cf := some (fileOf pool4 2 #[] #[] 1537 4 #[] #[])
  fields := #[]
  methods := #[]
  instanceTypes := #[]
  staticTypes := #[]
  resolved := Array.replicate 8 none
  statics := none }

def pool5 : Array CpInfo := pool [(1, u "java/io/Serializable"), (0, .class_ 1), (0, u "java/lang/Object"), (0, .class_ 3)] 3

/-- java/io/Serializable -/
def k5 : Class := { plain "java/io/Serializable" (some 0) with
  accessFlags := 1537
  interfaces := #[]
  cf := some (fileOf pool5 2 #[] #[] 1537 4 #[] #[])
  fields := #[]
  methods := #[]
  instanceTypes := #[]
  staticTypes := #[]
  resolved := Array.replicate 8 none
  statics := none }

/-- the primitive byte -/
def k6 : Class := { plain "byte" none with kind := .primitive 'B', accessFlags := 0x411 }
/-- [B -/
def k7 : Class := { plain "[B" (some 0) with kind := .array 6 .byte, interfaces := #[4, 5], accessFlags := 1041 }

/-- the primitive int -/
def k8 : Class := { plain "int" none with kind := .primitive 'I', accessFlags := 0x411 }
/-- [I -/
def k9 : Class := { plain "[I" (some 0) with kind := .array 8 .int, interfaces := #[4, 5], accessFlags := 1041 }

def heap : Heap := #[]
def classes : Array Class := #[k0, k1, k2, k3, k4, k5, k6, k7, k8, k9]
def interned : List (Array UInt16 × Addr) := []
def slotsUsed : Nat := 0
def theMethod : MethodId := ⟨1, 1⟩
def args0 : Array Value := #[.long 5, .int 6, .int 7, .int 1]
def aboutOver (below : List Frame) : State where
  vm := { classes := classes, interned := interned.toArray }
  heap := heap
  slotsUsed := slotsUsed
  threads := #[{ frames := .invoking theMethod args0 :: below }]
def below0 : List Frame := [.native { method := ⟨0, 0⟩, args := #[] }]
def about1 : State := aboutOver below0
def p0 : Program := .bare "" "" ""
def e0 : Env := launch0.env 0 0 0
theorem w_frames : about1.frames = Frame.invoking theMethod args0 :: below0 := rfl
set_option maxRecDepth 65536 in
theorem w_args : argsFit about1.vm theMethod args0 = true := by decide +kernel
set_option maxRecDepth 65536 in
theorem w_heap : heapFits about1 = true := by decide +kernel
set_option maxRecDepth 65536 in
theorem w_runnable : about1.curStatus? = some .runnable := by decide +kernel
set_option maxRecDepth 65536 in
theorem w_alone : about1.alone = true := by decide +kernel
set_option maxRecDepth 65536 in
theorem w_named : about1.methodNamed? x = some theMethod := by decide +kernel
set_option maxRecDepth 65536 in
theorem w_hears : about1.hears theMethod below0 = true := by decide +kernel
set_option maxRecDepth 65536 in
theorem w_ripe : about1.ripe theMethod args0 below0 = true := by decide +kernel
theorem w_running : about1.status = .running := rfl
set_option maxRecDepth 65536 in
theorem w_room : about1.hasRoom e0.platform room_1 = true :=
  launch0.hasRoom_least _ room_1 (by decide +kernel) (by decide +kernel) (by decide +kernel) (by decide +kernel) (by decide +kernel) (by decide +kernel)
theorem allAtoms_all (ts : List Jvm.Cond) (a : Array Jvm.Value) (st : Jvm.State) : (allAtoms ts).before a st = ts.all (fun c => c.before a st) := by
  induction ts with
  | nil => rfl
  | cons c t ih =>
    show (Jvm.Cond.and c (allAtoms t)).before a st = _
    rw [Jvm.Cond.before_and, ih, List.all_cons]
def words1 : List Jvm.Cond := Jvm.Cond.code x code maxLocals ret :: tables_1
/-- a 'code' word, met by the world's own term for the bytes: nothing is compared byte by byte -/
theorem code_word {y : MethodName} {bytes : ByteArray} {mx : Nat} {rt : Option FieldType} {a : Array Value} {s : State} {m : MethodId} {meth : Method} {c : Code} (h1 : s.methodNamed? y = some m) (h2 : s.vm.method? m = some meth) (h3 : meth.code = some c) (h4 : c.code = bytes)
    (h5 : (c.maxLocals == mx && c.exceptionTable.isEmpty && decide (c.maxStack ≤ mostOperands) && decide (meth.sig.returnType = rt) && !meth.locks && decide (parseMethodDescriptor y.desc = some meth.sig)) = true) : (Jvm.Cond.code y bytes mx rt).before a s = true := by
  simp only [Bool.and_eq_true, beq_iff_eq, Bool.not_eq_true', decide_eq_true_eq] at h5
  obtain ⟨⟨⟨⟨⟨g1, g2⟩, g3⟩, g4⟩, g5⟩, g6⟩ := h5
  simp [Cond.before, Cond.holds, Cond.value, h1, h2, h3, h4, g1, g2, g3, g4, g5, g6]
def isCode : Jvm.Cond → Bool
  | .code _ _ _ _ => true
  | _ => false
theorem all_split {L : List Jvm.Cond} {P : Jvm.Cond → Bool} (h1 : L.all (fun c => isCode c || P c) = true) (h2 : ∀ c ∈ L.filter isCode, P c = true) : L.all P = true := by
  refine List.all_eq_true.mpr fun c hc => ?_
  have h := List.all_eq_true.mp h1 c hc
  rcases Bool.eq_false_or_eq_true (isCode c) with hi | hi
  · exact h2 c (List.mem_filter.mpr ⟨hc, hi⟩)
  · simpa [hi] using h
set_option maxRecDepth 65536 in
theorem w_c0 : (Jvm.Cond.code x code maxLocals ret).before args0 about1 = true := code_word (m := ⟨1, 1⟩) (meth := k1m1) (c := k1c1) (by decide +kernel) rfl rfl rfl (by decide +kernel)
set_option maxRecDepth 65536 in
theorem w_c1 : (Jvm.Cond.code ({ cls := "com/example/silvafront/silvafront/forest/Rounding", name := "fallsBelow", desc := "(DD)Z" } : Jvm.MethodName) prog_11_method_2_code (4 : Nat) (Option.some Jvm.ClassFile.FieldType.boolean)).before args0 about1 = true := code_word (m := ⟨2, 1⟩) (meth := k2m1) (c := k2c1) (by decide +kernel) rfl rfl rfl (by decide +kernel)
set_option maxRecDepth 65536 in
theorem w_c2 : (Jvm.Cond.code ({ cls := "java/lang/Math", name := "abs", desc := "(D)D" } : Jvm.MethodName) jdk_29_method_64_code (2 : Nat) (Option.some Jvm.ClassFile.FieldType.double)).before args0 about1 = true := code_word (m := ⟨3, 2⟩) (meth := k3m2) (c := k3c2) (by decide +kernel) rfl rfl rfl (by decide +kernel)
set_option maxRecDepth 65536 in
theorem w_c3 : (Jvm.Cond.code ({ cls := "java/lang/Math", name := "max", desc := "(DD)D" } : Jvm.MethodName) jdk_29_method_68_code (4 : Nat) (Option.some Jvm.ClassFile.FieldType.double)).before args0 about1 = true := code_word (m := ⟨3, 4⟩) (meth := k3m4) (c := k3c4) (by decide +kernel) rfl rfl rfl (by decide +kernel)
set_option maxRecDepth 65536 in
theorem w_c4 : (Jvm.Cond.code ({ cls := "java/lang/Math", name := "abs", desc := "(J)J" } : Jvm.MethodName) jdk_29_method_61_code (2 : Nat) (Option.some Jvm.ClassFile.FieldType.long)).before args0 about1 = true := code_word (m := ⟨3, 1⟩) (meth := k3m1) (c := k3c1) (by decide +kernel) rfl rfl rfl (by decide +kernel)
set_option maxRecDepth 65536 in
theorem w_c5 : (Jvm.Cond.code ({ cls := "java/lang/Math", name := "max", desc := "(JJ)J" } : Jvm.MethodName) jdk_29_method_66_code (4 : Nat) (Option.some Jvm.ClassFile.FieldType.long)).before args0 about1 = true := code_word (m := ⟨3, 3⟩) (meth := k3m3) (c := k3c3) (by decide +kernel) rfl rfl rfl (by decide +kernel)
def codes1 : List Jvm.Cond := [Jvm.Cond.code x code maxLocals ret, Jvm.Cond.code ({ cls := "com/example/silvafront/silvafront/forest/Rounding", name := "fallsBelow", desc := "(DD)Z" } : Jvm.MethodName) prog_11_method_2_code (4 : Nat) (Option.some Jvm.ClassFile.FieldType.boolean), Jvm.Cond.code ({ cls := "java/lang/Math", name := "abs", desc := "(D)D" } : Jvm.MethodName) jdk_29_method_64_code (2 : Nat) (Option.some Jvm.ClassFile.FieldType.double), Jvm.Cond.code ({ cls := "java/lang/Math", name := "max", desc := "(DD)D" } : Jvm.MethodName) jdk_29_method_68_code (4 : Nat) (Option.some Jvm.ClassFile.FieldType.double), Jvm.Cond.code ({ cls := "java/lang/Math", name := "abs", desc := "(J)J" } : Jvm.MethodName) jdk_29_method_61_code (2 : Nat) (Option.some Jvm.ClassFile.FieldType.long), Jvm.Cond.code ({ cls := "java/lang/Math", name := "max", desc := "(JJ)J" } : Jvm.MethodName) jdk_29_method_66_code (4 : Nat) (Option.some Jvm.ClassFile.FieldType.long)]
set_option maxRecDepth 65536 in
theorem codes_eq : words1.filter isCode = codes1 := rfl
theorem w_codes : ∀ c ∈ words1.filter isCode, c.before args0 about1 = true := by
  rw [codes_eq]
  intro c hc
  simp only [codes1, List.mem_cons, List.not_mem_nil, or_false] at hc
  rcases hc with rfl | rfl | rfl | rfl | rfl | rfl
  · exact w_c0
  · exact w_c1
  · exact w_c2
  · exact w_c3
  · exact w_c4
  · exact w_c5
set_option maxRecDepth 65536 in
theorem w_t1 : (words1.take 24).all (fun c => isCode c || c.before args0 about1) = true := by decide +kernel
set_option maxRecDepth 65536 in
theorem w_t2 : (words1.drop 24).all (fun c => isCode c || c.before args0 about1) = true := by decide +kernel
theorem w_tables : (allAtoms (Jvm.Cond.code x code maxLocals ret :: tables_1)).before args0 about1 = true := by
  rw [allAtoms_all]
  show words1.all (fun c => c.before args0 about1) = true
  refine all_split ?_ w_codes
  rw [← List.take_append_drop 24 words1, List.all_append, w_t1, w_t2]
  rfl
set_option maxRecDepth 65536 in
theorem w_case : (Jvm.Cond.and given_1 narrow_1).before args0 about1 = true := by decide +kernel
theorem w_applies : (headSpec (Jvm.Cond.code x code maxLocals ret :: tables_1) room_1).applies x e0.platform about1 = true :=
  (Spec.applies_iff w_frames).mpr ⟨w_running, w_runnable, w_alone, w_named, w_hears, w_ripe, w_room, w_tables⟩
theorem atStart : AtStart classFile x code maxLocals ret World_1 tables_1 room_1 Calls_1 rest_1 Pre_1 launch0 p0 e0 about1 theMethod args0 below0 :=
  ⟨lists_1, trivial, launch0.admits_env _ _ _, launch0.least_env, fairChoices_fair.cas, fairChoices_fair.clock, w_frames, w_args, w_heap, w_applies, trivial, trivial, w_case⟩
end start1
theorem witness_1 : WitnessClaimed_1 := ⟨start1.p0, start1.e0, start1.about1, start1.theMethod, start1.args0, start1.below0, start1.atStart⟩
end Jvm.Pilot.@@N@@
