import JvmDerived
import JvmDerived.Pilot.@@N@@Statement
import JvmDerived.Pilot.@@N@@Code
set_option linter.unusedVariables false
set_option linter.unusedSimpArgs false

namespace Jvm.Pilot.@@N@@
open Jvm Jvm.ClassFile Sem Op Lib Jvm.Free Jvm.Stand Jvm.LawKit Jvm.RoadKit Bundle Jvm.Pilot.@@N@@.Jvm.D
section OwnKit
/-- where a walk stands: the library's Stand, and what stays the same throughout -/
def On (l : Launch) (Z : State) (p : Program) (e : Env) (R : Room) (s : State) (m : MethodId) (args : Array Value) (below : List Frame) (meth : Method) (c : Code) (y : MethodName) (code : ByteArray) (maxL : Nat) (ret : Option FieldType) (T : State) (h : Heap) (locs : List Loc) (cells slots : Nat) : Prop :=
  Stand p l e R s m args below meth c T locs cells slots ∧ (p.tables.exec = Jvm.exec ∧ c.code = code ∧ Z.Warmed39 s.vm ∧ s.vm.findClass y.cls = some m.cls ∧ meth.sig.returnType = ret ∧ meth.locks = false ∧ meth.name = y.name ∧ c.maxLocals = maxL) ∧ T.heap = h ∧ Fr Z.heap.size locs ∧ Ext Z.heap h
/-- the run from here ends as F says -/
def Goes (p : Program) (e : Env) (below : List Frame) (F : State → Outcome → Prop) (T : State) (g : JFrame) : Prop :=
  ∃ s₂ o, Steps p.tables e below (T.setTop g) s₂ ∧ s₂.status = .running ∧ Ended s₂ below o ∧ F s₂ o
def FinQ (Z s : State) (Q : Option Value → Heap → Prop) (rc rs : Nat) (s₂ : State) (o : Outcome) : Prop :=
  ∃ v L, o = .returned v ∧ (Q v s₂.heap ∧ Fr Z.heap.size L ∧ Ext Z.heap s₂.heap) ∧ FrameEnd s o s₂ L rc rs
/-- a method's contract: called with these arguments on this heap it returns, and Q holds -/
def Con (l : Launch) (Z : State) (y : MethodName) (code : ByteArray) (maxL : Nat) (ret : Option FieldType) (rm : Room) (as : Array Value) (h : Heap) (Q : Option Value → Heap → Prop) : Prop :=
  Ext Z.heap h → ∀ ws : List Jvm.Cond, MetFree l y (head1 (Jvm.Cond.code y code maxL ret :: ws) rm) (fun a U => a = as ∧ Z.Warmed39 U.vm ∧ U.heap = h) (fun _ _ _ _ _ => True) (fun _ U o U' => ∃ v L, o = .returned v ∧ (Q v U'.heap ∧ Fr Z.heap.size L ∧ Ext Z.heap U'.heap) ∧ FrameEnd U o U' L rm.cells rm.slots)
theorem Goes.step {p : Program} {e : Env} {below : List Frame} {F : State → Outcome → Prop} {T T' : State} {g g' : JFrame} (st : ∀ t, Steps p.tables e below (T'.setTop g') t → Steps p.tables e below (T.setTop g) t) (k : Goes p e below F T' g') : Goes p e below F T g := by
  obtain ⟨s₂, o, h1, h2⟩ := k
  exact ⟨s₂, o, st _ h1, h2⟩
theorem Goes.cast {p : Program} {e : Env} {below : List Frame} {F : State → Outcome → Prop} {T : State} {g g' : JFrame} (q : g = g') (k : Goes p e below F T g') : Goes p e below F T g := q ▸ k
theorem Goes.mono {p : Program} {e : Env} {below : List Frame} {F F' : State → Outcome → Prop} {T : State} {g : JFrame} (q : ∀ s o, F s o → F' s o) (k : Goes p e below F T g) : Goes p e below F' T g := by
  obtain ⟨s₂, o, h1, h2, h3, h4⟩ := k
  exact ⟨s₂, o, h1, h2, h3, q _ _ h4⟩
variable {l : Launch} {Z : State} {p : Program} {e : Env} {R : Room} {s : State} {m : MethodId} {args : Array Value} {below : List Frame} {meth : Method} {c : Code} {y : MethodName} {code : ByteArray} {maxL : Nat} {ret : Option FieldType} {T : State} {h : Heap} {locs : List Loc} {cells slots : Nat} {F : State → Outcome → Prop} {pc : Nat} {L L' : Array Slot} {S : List Value} {a0 : Array Value}
theorem Con.intro {rm : Room} {as : Array Value} {Q : Option Value → Heap → Prop} (hp : plainFor y = true)
    (body : ∀ (p : Program) (e : Env) (s : State) (m : MethodId) (below : List Frame) (meth : Method) (c : Code) (T : State), On l Z p e rm s m as below meth c y code maxL ret T h [] 0 0 → Goes p e below (FinQ Z s Q rm.cells rm.slots) T (entryFrame m as maxL)) : Con l Z y code maxL ret rm as h Q := by
  intro hE ws
  refine MetFree.of_bodySF hp hisR ?_
  intro p e s m args below meth c s₁ Bd hml0 hP hK
  obtain ⟨rfl, hZ, hh⟩ := hP
  have hnm := (name_of_methodNamed Bd.named Bd.method).1
  obtain ⟨s₂, o, k1, k2, k3, k4⟩ := body p e s m below meth c s₁ ⟨Stand.of_body Bd, ⟨Bd.exec, Bd.bytes, hZ, findClass_of_methodNamed Bd.named, Bd.returns, Bd.notSynchronized, hnm, hml0⟩, by rw [← hh, Bd.state]; rfl, Fr.nil _, hE⟩
  exact ⟨s₂, o, k1, k2, k3, k4⟩
theorem Con.mono {rm : Room} {as : Array Value} {Q Q' : Option Value → Heap → Prop} (hC : Con l Z y code maxL ret rm as h Q) (hq : ∀ v h', Q v h' → Q' v h') : Con l Z y code maxL ret rm as h Q' := by
  intro hE ws p e ha hc hk s m args below hf happ hP hK
  obtain ⟨n, o, h1, h2, h3, v, L, h4, ⟨h5, h6⟩, h7⟩ := hC hE ws p e ha hc hk s m args below hf happ hP hK
  exact ⟨n, o, h1, h2, h3, v, L, h4, ⟨hq _ _ h5, h6⟩, h7⟩
theorem On.size (X : On l Z p e R s m args below meth c y code maxL ret T h locs cells slots) : Z.heap.size ≤ h.size := X.2.2.2.2.1
theorem On.ext (X : On l Z p e R s m args below meth c y code maxL ret T h locs cells slots) : Ext Z.heap h := X.2.2.2.2
theorem On.sta (X : On l Z p e R s m args below meth c y code maxL ret T h locs cells slots) {C n d : String} {v : Value} (S : Sta Z Z.heap C n d v) : Sta Z h C n d v := S.ext X.ext
theorem ext_wr {Z : State} {h h' : Heap} {a : Addr} {sl : Nat} {v : Value} (E : Ext Z.heap h) (W : Wr h h' a sl v) (q : Z.heap.size ≤ a) : Ext Z.heap h' := (Old.wr (Z := Z) (n0 := Z.heap.size) ⟨rfl, E⟩ W q).2
theorem ext_keep {Z : State} {h h' : Heap} {ws : List Addr} (E : Ext Z.heap h) (K : Keep h h' ws) (q : ∀ x ∈ ws, Z.heap.size ≤ x) : Ext Z.heap h' := (Old.keep (Z := Z) (n0 := Z.heap.size) ⟨rfl, E⟩ K q).2
theorem ext_trans {h h' h'' : Heap} (E : Ext h h') (E' : Ext h' h'') : Ext h h'' := ⟨Nat.le_trans E.1 E'.1, fun a c q => E'.2 a c (E.2 a c q)⟩
theorem keep_ext {h h' : Heap} (E : Ext h h') : Keep h h' [] := (Keep.refl h []).ext E
theorem ext_of_keep {h h' : Heap} (K : Keep h h' []) : Ext h h' := ⟨K.1, fun a c q => K.2.1 a c q nin0⟩
theorem On.later (X : On l Z p e R s m args below meth c y code maxL ret T h locs cells slots) {T' : State} {h' : Heap} {locs' : List Loc} {cells' slots' : Nat} (X' : Stand p l e R s m args below meth c T' locs' cells' slots') (e' : T'.heap = h') (N' : Fr Z.heap.size locs') (E' : Ext Z.heap h') : On l Z p e R s m args below meth c y code maxL ret T' h' locs' cells' slots' := ⟨X', X.2.1, e', N', E'⟩
theorem On.alike (X : On l Z p e R s m args below meth c y code maxL ret T h locs cells slots) : Z.vm.Alike s.vm := X.2.1.2.2.1.alike
theorem o_iload (X : On l Z p e R s m args below meth c y code maxL ret T h locs cells slots) {k : Nat} {v : Int32} {q : Nat} (hd : decode code pc = .ok (.iload k, 2)) (hl : L[k]? = some (.val (.int v))) (hp : pc + 2 = q) (K : Goes p e below F T (mkF m q L (.int v :: S))) : Goes p e below F T (mkF m pc L S) := by
  subst hp
  exact Goes.step (fun _ k => XS.iload X.1.here X.2.1.1 (g := mkF m pc L S) rfl (hb X.2.1.2.1 hd) hl k) K
theorem o_iloadN (X : On l Z p e R s m args below meth c y code maxL ret T h locs cells slots) {k : Fin 4} {v : Int32} {q : Nat} (hd : decode code pc = .ok (.iload_n k, 1)) (hl : L[k.val]? = some (.val (.int v))) (hp : pc + 1 = q) (K : Goes p e below F T (mkF m q L (.int v :: S))) : Goes p e below F T (mkF m pc L S) := by
  subst hp
  exact Goes.step (fun _ k => XS.iloadN X.1.here X.2.1.1 (g := mkF m pc L S) rfl (hb X.2.1.2.1 hd) hl k) K
theorem o_lload (X : On l Z p e R s m args below meth c y code maxL ret T h locs cells slots) {k : Nat} {v : Int64} {q : Nat} (hd : decode code pc = .ok (.lload k, 2)) (hl : L[k]? = some (.val (.long v))) (hp : pc + 2 = q) (K : Goes p e below F T (mkF m q L (.long v :: S))) : Goes p e below F T (mkF m pc L S) := by
  subst hp
  exact Goes.step (fun _ k => XS.lload X.1.here X.2.1.1 (g := mkF m pc L S) rfl (hb X.2.1.2.1 hd) hl k) K
theorem o_lloadN (X : On l Z p e R s m args below meth c y code maxL ret T h locs cells slots) {k : Fin 4} {v : Int64} {q : Nat} (hd : decode code pc = .ok (.lload_n k, 1)) (hl : L[k.val]? = some (.val (.long v))) (hp : pc + 1 = q) (K : Goes p e below F T (mkF m q L (.long v :: S))) : Goes p e below F T (mkF m pc L S) := by
  subst hp
  exact Goes.step (fun _ k => XS.lloadN X.1.here X.2.1.1 (g := mkF m pc L S) rfl (hb X.2.1.2.1 hd) hl k) K
theorem o_aload (X : On l Z p e R s m args below meth c y code maxL ret T h locs cells slots) {k : Nat} {v : Value} {q : Nat} (hd : decode code pc = .ok (.aload k, 2)) (hl : L[k]? = some (.val v)) (hv : v.isRef = true) (hp : pc + 2 = q) (K : Goes p e below F T (mkF m q L (v :: S))) : Goes p e below F T (mkF m pc L S) := by
  subst hp
  exact Goes.step (fun _ k => XS.aload X.1.here X.2.1.1 (g := mkF m pc L S) rfl (hb X.2.1.2.1 hd) hl hv k) K
theorem o_aloadN (X : On l Z p e R s m args below meth c y code maxL ret T h locs cells slots) {k : Fin 4} {v : Value} {q : Nat} (hd : decode code pc = .ok (.aload_n k, 1)) (hl : L[k.val]? = some (.val v)) (hv : v.isRef = true) (hp : pc + 1 = q) (K : Goes p e below F T (mkF m q L (v :: S))) : Goes p e below F T (mkF m pc L S) := by
  subst hp
  exact Goes.step (fun _ k => XS.aloadN X.1.here X.2.1.1 (g := mkF m pc L S) rfl (hb X.2.1.2.1 hd) hl hv k) K
theorem o_istore (X : On l Z p e R s m args below meth c y code maxL ret T h locs cells slots) {k : Nat} {x z : Int32} {q : Nat} (hd : decode code pc = .ok (.istore k, 2)) (hz : x = z) (hl : storeLocals L k (.int z) = some L') (hp : pc + 2 = q) (K : Goes p e below F T (mkF m q L' S)) : Goes p e below F T (mkF m pc L (.int x :: S)) := by
  subst hz hp
  exact Goes.step (fun _ k => XS.istore X.1.here X.2.1.1 (g := mkF m pc L (.int x :: S)) rfl (hb X.2.1.2.1 hd) rfl hl k) K
theorem o_istoreN (X : On l Z p e R s m args below meth c y code maxL ret T h locs cells slots) {k : Fin 4} {x z : Int32} {q : Nat} (hd : decode code pc = .ok (.istore_n k, 1)) (hz : x = z) (hl : storeLocals L k.val (.int z) = some L') (hp : pc + 1 = q) (K : Goes p e below F T (mkF m q L' S)) : Goes p e below F T (mkF m pc L (.int x :: S)) := by
  subst hz hp
  exact Goes.step (fun _ k => XS.istoreN X.1.here X.2.1.1 (g := mkF m pc L (.int x :: S)) rfl (hb X.2.1.2.1 hd) rfl hl k) K
theorem o_lstore (X : On l Z p e R s m args below meth c y code maxL ret T h locs cells slots) {k : Nat} {x z : Int64} {q : Nat} (hd : decode code pc = .ok (.lstore k, 2)) (hz : x = z) (hl : storeLocals L k (.long z) = some L') (hp : pc + 2 = q) (K : Goes p e below F T (mkF m q L' S)) : Goes p e below F T (mkF m pc L (.long x :: S)) := by
  subst hz hp
  exact Goes.step (fun _ k => XS.lstore X.1.here X.2.1.1 (g := mkF m pc L (.long x :: S)) rfl (hb X.2.1.2.1 hd) rfl hl k) K
theorem o_lstoreN (X : On l Z p e R s m args below meth c y code maxL ret T h locs cells slots) {k : Fin 4} {x z : Int64} {q : Nat} (hd : decode code pc = .ok (.lstore_n k, 1)) (hz : x = z) (hl : storeLocals L k.val (.long z) = some L') (hp : pc + 1 = q) (K : Goes p e below F T (mkF m q L' S)) : Goes p e below F T (mkF m pc L (.long x :: S)) := by
  subst hz hp
  exact Goes.step (fun _ k => XS.lstoreN X.1.here X.2.1.1 (g := mkF m pc L (.long x :: S)) rfl (hb X.2.1.2.1 hd) rfl hl k) K
theorem o_astore (X : On l Z p e R s m args below meth c y code maxL ret T h locs cells slots) {k : Nat} {x : Value} {q : Nat} (hd : decode code pc = .ok (.astore k, 2)) (hv : x.isRef = true) (hl : storeLocals L k x = some L') (hp : pc + 2 = q) (K : Goes p e below F T (mkF m q L' S)) : Goes p e below F T (mkF m pc L (x :: S)) := by
  subst hp
  exact Goes.step (fun _ k => XS.astore X.1.here X.2.1.1 (g := mkF m pc L (x :: S)) rfl (hb X.2.1.2.1 hd) rfl hv hl k) K
theorem o_astoreN (X : On l Z p e R s m args below meth c y code maxL ret T h locs cells slots) {k : Fin 4} {x : Value} {q : Nat} (hd : decode code pc = .ok (.astore_n k, 1)) (hv : x.isRef = true) (hl : storeLocals L k.val x = some L') (hp : pc + 1 = q) (K : Goes p e below F T (mkF m q L' S)) : Goes p e below F T (mkF m pc L (x :: S)) := by
  subst hp
  exact Goes.step (fun _ k => XS.astoreN X.1.here X.2.1.1 (g := mkF m pc L (x :: S)) rfl (hb X.2.1.2.1 hd) rfl hv hl k) K
theorem o_iconst (X : On l Z p e R s m args below meth c y code maxL ret T h locs cells slots) {i : Int} {w : Int32} {q : Nat} (hd : decode code pc = .ok (.iconst i, 1)) (hw : Int32.ofInt i = w) (hp : pc + 1 = q) (K : Goes p e below F T (mkF m q L (.int w :: S))) : Goes p e below F T (mkF m pc L S) := by
  subst hw hp
  exact Goes.step (fun _ k => XS.iconst X.1.here X.2.1.1 (g := mkF m pc L S) rfl (hb X.2.1.2.1 hd) k) K
theorem o_bipush (X : On l Z p e R s m args below meth c y code maxL ret T h locs cells slots) {i : Int} {w : Int32} {q : Nat} (hd : decode code pc = .ok (.bipush i, 2)) (hw : (Int8.ofInt i).toInt32 = w) (hp : pc + 2 = q) (K : Goes p e below F T (mkF m q L (.int w :: S))) : Goes p e below F T (mkF m pc L S) := by
  subst hw hp
  exact Goes.step (fun _ k => XS.bipush X.1.here X.2.1.1 (g := mkF m pc L S) rfl (hb X.2.1.2.1 hd) k) K
theorem o_sipush (X : On l Z p e R s m args below meth c y code maxL ret T h locs cells slots) {i : Int} {w : Int32} {q : Nat} (hd : decode code pc = .ok (.sipush i, 3)) (hw : (Int16.ofInt i).toInt32 = w) (hp : pc + 3 = q) (K : Goes p e below F T (mkF m q L (.int w :: S))) : Goes p e below F T (mkF m pc L S) := by
  subst hw hp
  exact Goes.step (fun _ k => XS.sipush X.1.here X.2.1.1 (g := mkF m pc L S) rfl (hb X.2.1.2.1 hd) k) K
theorem o_lconst (X : On l Z p e R s m args below meth c y code maxL ret T h locs cells slots) {i : Fin 2} {w : Int64} {q : Nat} (hd : decode code pc = .ok (.lconst i, 1)) (hw : Int64.ofNat i = w) (hp : pc + 1 = q) (K : Goes p e below F T (mkF m q L (.long w :: S))) : Goes p e below F T (mkF m pc L S) := by
  subst hw hp
  exact Goes.step (fun _ k => XS.lconst X.1.here X.2.1.1 (g := mkF m pc L S) rfl (hb X.2.1.2.1 hd) k) K
theorem o_null (X : On l Z p e R s m args below meth c y code maxL ret T h locs cells slots)  {q : Nat} (hd : decode code pc = .ok (.aconst_null, 1)) (hp : pc + 1 = q) (K : Goes p e below F T (mkF m q L (.null :: S))) : Goes p e below F T (mkF m pc L S) := by
  subst hp
  exact Goes.step (fun _ k => XS.aconstNull X.1.here X.2.1.1 (g := mkF m pc L S) rfl (hb X.2.1.2.1 hd)  k) K
theorem o_iadd (X : On l Z p e R s m args below meth c y code maxL ret T h locs cells slots) {x : Int32} {z : Int32} {w : Int32} {q : Nat} (hd : decode code pc = .ok (.iadd, 1)) (hw : x + z = w) (hp : pc + 1 = q) (K : Goes p e below F T (mkF m q L (.int w :: S))) : Goes p e below F T (mkF m pc L (.int z :: .int x :: S)) := by
  subst hw hp
  exact Goes.step (fun _ k => XS.iadd X.1.here X.2.1.1 (g := mkF m pc L (.int z :: .int x :: S)) rfl (hb X.2.1.2.1 hd) rfl  k) K
theorem o_isub (X : On l Z p e R s m args below meth c y code maxL ret T h locs cells slots) {x : Int32} {z : Int32} {w : Int32} {q : Nat} (hd : decode code pc = .ok (.isub, 1)) (hw : x - z = w) (hp : pc + 1 = q) (K : Goes p e below F T (mkF m q L (.int w :: S))) : Goes p e below F T (mkF m pc L (.int z :: .int x :: S)) := by
  subst hw hp
  exact Goes.step (fun _ k => XS.isub X.1.here X.2.1.1 (g := mkF m pc L (.int z :: .int x :: S)) rfl (hb X.2.1.2.1 hd) rfl  k) K
theorem o_imul (X : On l Z p e R s m args below meth c y code maxL ret T h locs cells slots) {x : Int32} {z : Int32} {w : Int32} {q : Nat} (hd : decode code pc = .ok (.imul, 1)) (hw : x * z = w) (hp : pc + 1 = q) (K : Goes p e below F T (mkF m q L (.int w :: S))) : Goes p e below F T (mkF m pc L (.int z :: .int x :: S)) := by
  subst hw hp
  exact Goes.step (fun _ k => XS.imul X.1.here X.2.1.1 (g := mkF m pc L (.int z :: .int x :: S)) rfl (hb X.2.1.2.1 hd) rfl  k) K
theorem o_iand (X : On l Z p e R s m args below meth c y code maxL ret T h locs cells slots) {x : Int32} {z : Int32} {w : Int32} {q : Nat} (hd : decode code pc = .ok (.iand, 1)) (hw : x &&& z = w) (hp : pc + 1 = q) (K : Goes p e below F T (mkF m q L (.int w :: S))) : Goes p e below F T (mkF m pc L (.int z :: .int x :: S)) := by
  subst hw hp
  exact Goes.step (fun _ k => XS.iand X.1.here X.2.1.1 (g := mkF m pc L (.int z :: .int x :: S)) rfl (hb X.2.1.2.1 hd) rfl  k) K
theorem o_ior (X : On l Z p e R s m args below meth c y code maxL ret T h locs cells slots) {x : Int32} {z : Int32} {w : Int32} {q : Nat} (hd : decode code pc = .ok (.ior, 1)) (hw : x ||| z = w) (hp : pc + 1 = q) (K : Goes p e below F T (mkF m q L (.int w :: S))) : Goes p e below F T (mkF m pc L (.int z :: .int x :: S)) := by
  subst hw hp
  exact Goes.step (fun _ k => XS.ior X.1.here X.2.1.1 (g := mkF m pc L (.int z :: .int x :: S)) rfl (hb X.2.1.2.1 hd) rfl  k) K
theorem o_ixor (X : On l Z p e R s m args below meth c y code maxL ret T h locs cells slots) {x : Int32} {z : Int32} {w : Int32} {q : Nat} (hd : decode code pc = .ok (.ixor, 1)) (hw : x ^^^ z = w) (hp : pc + 1 = q) (K : Goes p e below F T (mkF m q L (.int w :: S))) : Goes p e below F T (mkF m pc L (.int z :: .int x :: S)) := by
  subst hw hp
  exact Goes.step (fun _ k => XS.ixor X.1.here X.2.1.1 (g := mkF m pc L (.int z :: .int x :: S)) rfl (hb X.2.1.2.1 hd) rfl  k) K
theorem o_ishl (X : On l Z p e R s m args below meth c y code maxL ret T h locs cells slots) {x : Int32} {z : Int32} {w : Int32} {q : Nat} (hd : decode code pc = .ok (.ishl, 1)) (hw : x <<< (z &&& 31) = w) (hp : pc + 1 = q) (K : Goes p e below F T (mkF m q L (.int w :: S))) : Goes p e below F T (mkF m pc L (.int z :: .int x :: S)) := by
  subst hw hp
  exact Goes.step (fun _ k => XS.ishl X.1.here X.2.1.1 (g := mkF m pc L (.int z :: .int x :: S)) rfl (hb X.2.1.2.1 hd) rfl  k) K
theorem o_ishr (X : On l Z p e R s m args below meth c y code maxL ret T h locs cells slots) {x : Int32} {z : Int32} {w : Int32} {q : Nat} (hd : decode code pc = .ok (.ishr, 1)) (hw : x >>> (z &&& 31) = w) (hp : pc + 1 = q) (K : Goes p e below F T (mkF m q L (.int w :: S))) : Goes p e below F T (mkF m pc L (.int z :: .int x :: S)) := by
  subst hw hp
  exact Goes.step (fun _ k => XS.ishr X.1.here X.2.1.1 (g := mkF m pc L (.int z :: .int x :: S)) rfl (hb X.2.1.2.1 hd) rfl  k) K
theorem o_iushr (X : On l Z p e R s m args below meth c y code maxL ret T h locs cells slots) {x : Int32} {z : Int32} {w : Int32} {q : Nat} (hd : decode code pc = .ok (.iushr, 1)) (hw : (x.toUInt32 >>> (z &&& 31).toUInt32).toInt32 = w) (hp : pc + 1 = q) (K : Goes p e below F T (mkF m q L (.int w :: S))) : Goes p e below F T (mkF m pc L (.int z :: .int x :: S)) := by
  subst hw hp
  exact Goes.step (fun _ k => XS.iushr X.1.here X.2.1.1 (g := mkF m pc L (.int z :: .int x :: S)) rfl (hb X.2.1.2.1 hd) rfl  k) K
theorem o_ladd (X : On l Z p e R s m args below meth c y code maxL ret T h locs cells slots) {x : Int64} {z : Int64} {w : Int64} {q : Nat} (hd : decode code pc = .ok (.ladd, 1)) (hw : x + z = w) (hp : pc + 1 = q) (K : Goes p e below F T (mkF m q L (.long w :: S))) : Goes p e below F T (mkF m pc L (.long z :: .long x :: S)) := by
  subst hw hp
  exact Goes.step (fun _ k => XS.ladd X.1.here X.2.1.1 (g := mkF m pc L (.long z :: .long x :: S)) rfl (hb X.2.1.2.1 hd) rfl  k) K
theorem o_lsub (X : On l Z p e R s m args below meth c y code maxL ret T h locs cells slots) {x : Int64} {z : Int64} {w : Int64} {q : Nat} (hd : decode code pc = .ok (.lsub, 1)) (hw : x - z = w) (hp : pc + 1 = q) (K : Goes p e below F T (mkF m q L (.long w :: S))) : Goes p e below F T (mkF m pc L (.long z :: .long x :: S)) := by
  subst hw hp
  exact Goes.step (fun _ k => XS.lsub X.1.here X.2.1.1 (g := mkF m pc L (.long z :: .long x :: S)) rfl (hb X.2.1.2.1 hd) rfl  k) K
theorem o_lmul (X : On l Z p e R s m args below meth c y code maxL ret T h locs cells slots) {x : Int64} {z : Int64} {w : Int64} {q : Nat} (hd : decode code pc = .ok (.lmul, 1)) (hw : x * z = w) (hp : pc + 1 = q) (K : Goes p e below F T (mkF m q L (.long w :: S))) : Goes p e below F T (mkF m pc L (.long z :: .long x :: S)) := by
  subst hw hp
  exact Goes.step (fun _ k => XS.lmul X.1.here X.2.1.1 (g := mkF m pc L (.long z :: .long x :: S)) rfl (hb X.2.1.2.1 hd) rfl  k) K
theorem o_land (X : On l Z p e R s m args below meth c y code maxL ret T h locs cells slots) {x : Int64} {z : Int64} {w : Int64} {q : Nat} (hd : decode code pc = .ok (.land, 1)) (hw : x &&& z = w) (hp : pc + 1 = q) (K : Goes p e below F T (mkF m q L (.long w :: S))) : Goes p e below F T (mkF m pc L (.long z :: .long x :: S)) := by
  subst hw hp
  exact Goes.step (fun _ k => XS.land X.1.here X.2.1.1 (g := mkF m pc L (.long z :: .long x :: S)) rfl (hb X.2.1.2.1 hd) rfl  k) K
theorem o_lor (X : On l Z p e R s m args below meth c y code maxL ret T h locs cells slots) {x : Int64} {z : Int64} {w : Int64} {q : Nat} (hd : decode code pc = .ok (.lor, 1)) (hw : x ||| z = w) (hp : pc + 1 = q) (K : Goes p e below F T (mkF m q L (.long w :: S))) : Goes p e below F T (mkF m pc L (.long z :: .long x :: S)) := by
  subst hw hp
  exact Goes.step (fun _ k => XS.lor X.1.here X.2.1.1 (g := mkF m pc L (.long z :: .long x :: S)) rfl (hb X.2.1.2.1 hd) rfl  k) K
theorem o_lxor (X : On l Z p e R s m args below meth c y code maxL ret T h locs cells slots) {x : Int64} {z : Int64} {w : Int64} {q : Nat} (hd : decode code pc = .ok (.lxor, 1)) (hw : x ^^^ z = w) (hp : pc + 1 = q) (K : Goes p e below F T (mkF m q L (.long w :: S))) : Goes p e below F T (mkF m pc L (.long z :: .long x :: S)) := by
  subst hw hp
  exact Goes.step (fun _ k => XS.lxor X.1.here X.2.1.1 (g := mkF m pc L (.long z :: .long x :: S)) rfl (hb X.2.1.2.1 hd) rfl  k) K
theorem o_lshl (X : On l Z p e R s m args below meth c y code maxL ret T h locs cells slots) {x : Int64} {z : Int32} {w : Int64} {q : Nat} (hd : decode code pc = .ok (.lshl, 1)) (hw : x <<< (z &&& 0x3f).toInt64 = w) (hp : pc + 1 = q) (K : Goes p e below F T (mkF m q L (.long w :: S))) : Goes p e below F T (mkF m pc L (.int z :: .long x :: S)) := by
  subst hw hp
  exact Goes.step (fun _ k => XS.lshl X.1.here X.2.1.1 (g := mkF m pc L (.int z :: .long x :: S)) rfl (hb X.2.1.2.1 hd) rfl  k) K
theorem o_lshr (X : On l Z p e R s m args below meth c y code maxL ret T h locs cells slots) {x : Int64} {z : Int32} {w : Int64} {q : Nat} (hd : decode code pc = .ok (.lshr, 1)) (hw : x >>> (z &&& 0x3f).toInt64 = w) (hp : pc + 1 = q) (K : Goes p e below F T (mkF m q L (.long w :: S))) : Goes p e below F T (mkF m pc L (.int z :: .long x :: S)) := by
  subst hw hp
  exact Goes.step (fun _ k => XS.lshr X.1.here X.2.1.1 (g := mkF m pc L (.int z :: .long x :: S)) rfl (hb X.2.1.2.1 hd) rfl  k) K
theorem o_lushr (X : On l Z p e R s m args below meth c y code maxL ret T h locs cells slots) {x : Int64} {z : Int32} {w : Int64} {q : Nat} (hd : decode code pc = .ok (.lushr, 1)) (hw : (x.toUInt64 >>> (z &&& 0x3f).toInt64.toUInt64).toInt64 = w) (hp : pc + 1 = q) (K : Goes p e below F T (mkF m q L (.long w :: S))) : Goes p e below F T (mkF m pc L (.int z :: .long x :: S)) := by
  subst hw hp
  exact Goes.step (fun _ k => XS.lushr X.1.here X.2.1.1 (g := mkF m pc L (.int z :: .long x :: S)) rfl (hb X.2.1.2.1 hd) rfl  k) K
theorem o_idiv (X : On l Z p e R s m args below meth c y code maxL ret T h locs cells slots) {x : Int32} {z : Int32} {w : Int32} {q : Nat} (hd : decode code pc = .ok (.idiv, 1)) (hn : z ≠ 0) (hw : x / z = w) (hp : pc + 1 = q) (K : Goes p e below F T (mkF m q L (.int w :: S))) : Goes p e below F T (mkF m pc L (.int z :: .int x :: S)) := by
  subst hw hp
  exact Goes.step (fun _ k => XS.idiv X.1.here X.2.1.1 (g := mkF m pc L (.int z :: .int x :: S)) rfl (hb X.2.1.2.1 hd) rfl hn k) K
theorem o_irem (X : On l Z p e R s m args below meth c y code maxL ret T h locs cells slots) {x : Int32} {z : Int32} {w : Int32} {q : Nat} (hd : decode code pc = .ok (.irem, 1)) (hn : z ≠ 0) (hw : x % z = w) (hp : pc + 1 = q) (K : Goes p e below F T (mkF m q L (.int w :: S))) : Goes p e below F T (mkF m pc L (.int z :: .int x :: S)) := by
  subst hw hp
  exact Goes.step (fun _ k => iremM (g := mkF m pc L (.int z :: .int x :: S)) X.1 X.2.1.1 rfl (hb X.2.1.2.1 hd) rfl hn k) K
theorem o_lcmp (X : On l Z p e R s m args below meth c y code maxL ret T h locs cells slots) {x : Int64} {z : Int64} {w : Int32} {q : Nat} (hd : decode code pc = .ok (.lcmp, 1)) (hw : lcmpW x z = w) (hp : pc + 1 = q) (K : Goes p e below F T (mkF m q L (.int w :: S))) : Goes p e below F T (mkF m pc L (.long z :: .long x :: S)) := by
  subst hw hp
  exact Goes.step (fun _ k => XS.lcmp X.1.here X.2.1.1 (g := mkF m pc L (.long z :: .long x :: S)) rfl (hb X.2.1.2.1 hd) rfl  k) K
theorem o_ineg (X : On l Z p e R s m args below meth c y code maxL ret T h locs cells slots) {x : Int32} {w : Int32} {q : Nat} (hd : decode code pc = .ok (.ineg, 1)) (hw : -x = w) (hp : pc + 1 = q) (K : Goes p e below F T (mkF m q L (.int w :: S))) : Goes p e below F T (mkF m pc L (.int x :: S)) := by
  subst hw hp
  exact Goes.step (fun _ k => XS.ineg X.1.here X.2.1.1 (g := mkF m pc L (.int x :: S)) rfl (hb X.2.1.2.1 hd) rfl k) K
theorem o_lneg (X : On l Z p e R s m args below meth c y code maxL ret T h locs cells slots) {x : Int64} {w : Int64} {q : Nat} (hd : decode code pc = .ok (.lneg, 1)) (hw : -x = w) (hp : pc + 1 = q) (K : Goes p e below F T (mkF m q L (.long w :: S))) : Goes p e below F T (mkF m pc L (.long x :: S)) := by
  subst hw hp
  exact Goes.step (fun _ k => XS.lneg X.1.here X.2.1.1 (g := mkF m pc L (.long x :: S)) rfl (hb X.2.1.2.1 hd) rfl k) K
theorem o_i2l (X : On l Z p e R s m args below meth c y code maxL ret T h locs cells slots) {x : Int32} {w : Int64} {q : Nat} (hd : decode code pc = .ok (.i2l, 1)) (hw : x.toInt64 = w) (hp : pc + 1 = q) (K : Goes p e below F T (mkF m q L (.long w :: S))) : Goes p e below F T (mkF m pc L (.int x :: S)) := by
  subst hw hp
  exact Goes.step (fun _ k => XS.i2l X.1.here X.2.1.1 (g := mkF m pc L (.int x :: S)) rfl (hb X.2.1.2.1 hd) rfl k) K
theorem o_l2i (X : On l Z p e R s m args below meth c y code maxL ret T h locs cells slots) {x : Int64} {w : Int32} {q : Nat} (hd : decode code pc = .ok (.l2i, 1)) (hw : x.toInt32 = w) (hp : pc + 1 = q) (K : Goes p e below F T (mkF m q L (.int w :: S))) : Goes p e below F T (mkF m pc L (.long x :: S)) := by
  subst hw hp
  exact Goes.step (fun _ k => XS.l2i X.1.here X.2.1.1 (g := mkF m pc L (.long x :: S)) rfl (hb X.2.1.2.1 hd) rfl k) K
theorem o_i2b (X : On l Z p e R s m args below meth c y code maxL ret T h locs cells slots) {x : Int32} {w : Int32} {q : Nat} (hd : decode code pc = .ok (.i2b, 1)) (hw : x.toInt8.toInt32 = w) (hp : pc + 1 = q) (K : Goes p e below F T (mkF m q L (.int w :: S))) : Goes p e below F T (mkF m pc L (.int x :: S)) := by
  subst hw hp
  exact Goes.step (fun _ k => XS.i2b X.1.here X.2.1.1 (g := mkF m pc L (.int x :: S)) rfl (hb X.2.1.2.1 hd) rfl k) K
theorem o_i2c (X : On l Z p e R s m args below meth c y code maxL ret T h locs cells slots) {x : Int32} {w : Int32} {q : Nat} (hd : decode code pc = .ok (.i2c, 1)) (hw : x.toUInt32.toUInt16.toUInt32.toInt32 = w) (hp : pc + 1 = q) (K : Goes p e below F T (mkF m q L (.int w :: S))) : Goes p e below F T (mkF m pc L (.int x :: S)) := by
  subst hw hp
  exact Goes.step (fun _ k => XS.i2c X.1.here X.2.1.1 (g := mkF m pc L (.int x :: S)) rfl (hb X.2.1.2.1 hd) rfl k) K
theorem o_i2s (X : On l Z p e R s m args below meth c y code maxL ret T h locs cells slots) {x : Int32} {w : Int32} {q : Nat} (hd : decode code pc = .ok (.i2s, 1)) (hw : x.toInt16.toInt32 = w) (hp : pc + 1 = q) (K : Goes p e below F T (mkF m q L (.int w :: S))) : Goes p e below F T (mkF m pc L (.int x :: S)) := by
  subst hw hp
  exact Goes.step (fun _ k => XS.i2s X.1.here X.2.1.1 (g := mkF m pc L (.int x :: S)) rfl (hb X.2.1.2.1 hd) rfl k) K
theorem o_dup (X : On l Z p e R s m args below meth c y code maxL ret T h locs cells slots) {x : Value} {q : Nat} (hd : decode code pc = .ok (.dup, 1)) (hc : x.category = 1) (hp : pc + 1 = q) (K : Goes p e below F T (mkF m q L (x :: x :: S))) : Goes p e below F T (mkF m pc L (x :: S)) := by
  subst hp
  exact Goes.step (fun _ k => XS.dup X.1.here X.2.1.1 (g := mkF m pc L (x :: S)) rfl (hb X.2.1.2.1 hd) rfl hc k) K
theorem o_pop (X : On l Z p e R s m args below meth c y code maxL ret T h locs cells slots) {x : Value} {q : Nat} (hd : decode code pc = .ok (.pop, 1)) (hc : x.category = 1) (hp : pc + 1 = q) (K : Goes p e below F T (mkF m q L S)) : Goes p e below F T (mkF m pc L (x :: S)) := by
  subst hp
  exact Goes.step (fun _ k => XS.pop X.1.here X.2.1.1 (g := mkF m pc L (x :: S)) rfl (hb X.2.1.2.1 hd) rfl hc k) K
theorem o_dupX1 (X : On l Z p e R s m args below meth c y code maxL ret T h locs cells slots) {x z : Value} {q : Nat} (hd : decode code pc = .ok (.dup_x1, 1)) (hc : x.category = 1) (hc' : z.category = 1) (hp : pc + 1 = q) (K : Goes p e below F T (mkF m q L (x :: z :: x :: S))) : Goes p e below F T (mkF m pc L (x :: z :: S)) := by
  subst hp
  exact Goes.step (fun _ k => XS.dupX1 X.1.here X.2.1.1 (g := mkF m pc L (x :: z :: S)) rfl (hb X.2.1.2.1 hd) rfl hc hc' k) K
theorem o_dup2 (X : On l Z p e R s m args below meth c y code maxL ret T h locs cells slots) {x z : Value} {q : Nat} (hd : decode code pc = .ok (.dup2, 1)) (hc : x.category = 1) (hc' : z.category = 1) (hp : pc + 1 = q) (K : Goes p e below F T (mkF m q L (x :: z :: x :: z :: S))) : Goes p e below F T (mkF m pc L (x :: z :: S)) := by
  subst hp
  exact Goes.step (fun _ k => Jvm.Free.XT.dup2 X.1.here X.2.1.1 (g := mkF m pc L (x :: z :: S)) rfl (hb X.2.1.2.1 hd) rfl hc hc' k) K
theorem o_iinc (X : On l Z p e R s m args below meth c y code maxL ret T h locs cells slots) {k : Nat} {i : Int} {x z : Int32} {q : Nat} (hd : decode code pc = .ok (.iinc k i, 3)) (hl : L[k]? = some (.val (.int x))) (hz : x + Int32.ofInt i = z) (hl' : storeLocals L k (.int z) = some L') (hp : pc + 3 = q) (K : Goes p e below F T (mkF m q L' S)) : Goes p e below F T (mkF m pc L S) := by
  subst hz hp
  exact Goes.step (fun _ k => XS.iinc X.1.here X.2.1.1 (g := mkF m pc L S) rfl (hb X.2.1.2.1 hd) hl hl' k) K
theorem o_goto (X : On l Z p e R s m args below meth c y code maxL ret T h locs cells slots) {i : Int} {q : Nat} (hd : decode code pc = .ok (.goto i, 3)) (ho : 0 ≤ (pc : Int) + i) (hp : ((pc : Int) + i).toNat = q) (K : Goes p e below F T (mkF m q L S)) : Goes p e below F T (mkF m pc L S) := Goes.step (fun _ k => XS.goto X.1.here X.2.1.1 (g := mkF m pc L S) (pc0 := pc) rfl rfl (hb X.2.1.2.1 hd) ho hp k) K
theorem o_ifY (X : On l Z p e R s m args below meth c y code maxL ret T h locs cells slots) {cd : ClassFile.Cond} {i : Int} {x : Int32} {q : Nat} (hd : decode code pc = .ok (.ifCond cd i, 3)) (hc : if_icmp.holds cd x 0 = true) (ho : 0 ≤ (pc : Int) + i) (hp : ((pc : Int) + i).toNat = q) (K : Goes p e below F T (mkF m q L S)) : Goes p e below F T (mkF m pc L (.int x :: S)) := Goes.step (fun _ k => XS.ifYes X.1.here X.2.1.1 (g := mkF m pc L (.int x :: S)) rfl (pc0 := pc) rfl (hb X.2.1.2.1 hd) rfl ((if0 _ _).trans hc) ho hp k) K
theorem o_ifN (X : On l Z p e R s m args below meth c y code maxL ret T h locs cells slots) {cd : ClassFile.Cond} {i : Int} {x : Int32} {q : Nat} (hd : decode code pc = .ok (.ifCond cd i, 3)) (hc : if_icmp.holds cd x 0 = false) (hp : pc + 3 = q) (K : Goes p e below F T (mkF m q L S)) : Goes p e below F T (mkF m pc L (.int x :: S)) := by
  subst hp
  exact Goes.step (fun _ k => XS.ifNo X.1.here X.2.1.1 (g := mkF m pc L (.int x :: S)) rfl (hb X.2.1.2.1 hd) rfl ((if0 _ _).trans hc) k) K
theorem o_icmpY (X : On l Z p e R s m args below meth c y code maxL ret T h locs cells slots) {cd : ClassFile.Cond} {i : Int} {x z : Int32} {q : Nat} (hd : decode code pc = .ok (.if_icmp cd i, 3)) (hc : if_icmp.holds cd x z = true) (ho : 0 ≤ (pc : Int) + i) (hp : ((pc : Int) + i).toNat = q) (K : Goes p e below F T (mkF m q L S)) : Goes p e below F T (mkF m pc L (.int z :: .int x :: S)) := Goes.step (fun _ k => XS.icmpYes X.1.here X.2.1.1 (g := mkF m pc L (.int z :: .int x :: S)) rfl (pc0 := pc) rfl (hb X.2.1.2.1 hd) rfl hc ho hp k) K
theorem o_icmpN (X : On l Z p e R s m args below meth c y code maxL ret T h locs cells slots) {cd : ClassFile.Cond} {i : Int} {x z : Int32} {q : Nat} (hd : decode code pc = .ok (.if_icmp cd i, 3)) (hc : if_icmp.holds cd x z = false) (hp : pc + 3 = q) (K : Goes p e below F T (mkF m q L S)) : Goes p e below F T (mkF m pc L (.int z :: .int x :: S)) := by
  subst hp
  exact Goes.step (fun _ k => XS.icmpNo X.1.here X.2.1.1 (g := mkF m pc L (.int z :: .int x :: S)) rfl (hb X.2.1.2.1 hd) rfl hc k) K
theorem o_ifnullY (X : On l Z p e R s m args below meth c y code maxL ret T h locs cells slots) {i : Int} {q : Nat} (hd : decode code pc = .ok (.ifnull i, 3)) (ho : 0 ≤ (pc : Int) + i) (hp : ((pc : Int) + i).toNat = q) (K : Goes p e below F T (mkF m q L S)) : Goes p e below F T (mkF m pc L (.null :: S)) := Goes.step (fun _ k => XS.ifnullYes X.1.here X.2.1.1 (g := mkF m pc L (.null :: S)) rfl (pc0 := pc) rfl (hb X.2.1.2.1 hd) rfl ho hp k) K
theorem o_ifnullN (X : On l Z p e R s m args below meth c y code maxL ret T h locs cells slots) {i : Int} {q : Nat} {b : Addr} (hd : decode code pc = .ok (.ifnull i, 3)) (hp : pc + 3 = q) (K : Goes p e below F T (mkF m q L S)) : Goes p e below F T (mkF m pc L ((.ref b) :: S)) := by
  subst hp
  exact Goes.step (fun _ k => XS.ifnullNo X.1.here X.2.1.1 (g := mkF m pc L ((.ref b) :: S)) rfl (hb X.2.1.2.1 hd) rfl k) K
theorem o_ifnonnullY (X : On l Z p e R s m args below meth c y code maxL ret T h locs cells slots) {i : Int} {q : Nat} {b : Addr} (hd : decode code pc = .ok (.ifnonnull i, 3)) (ho : 0 ≤ (pc : Int) + i) (hp : ((pc : Int) + i).toNat = q) (K : Goes p e below F T (mkF m q L S)) : Goes p e below F T (mkF m pc L ((.ref b) :: S)) := Goes.step (fun _ k => XS.ifnonnullYes X.1.here X.2.1.1 (g := mkF m pc L ((.ref b) :: S)) rfl (pc0 := pc) rfl (hb X.2.1.2.1 hd) rfl ho hp k) K
theorem o_ifnonnullN (X : On l Z p e R s m args below meth c y code maxL ret T h locs cells slots) {i : Int} {q : Nat} (hd : decode code pc = .ok (.ifnonnull i, 3)) (hp : pc + 3 = q) (K : Goes p e below F T (mkF m q L S)) : Goes p e below F T (mkF m pc L (.null :: S)) := by
  subst hp
  exact Goes.step (fun _ k => XS.ifnonnullNo X.1.here X.2.1.1 (g := mkF m pc L (.null :: S)) rfl (hb X.2.1.2.1 hd) rfl k) K
theorem o_acmp (X : On l Z p e R s m args below meth c y code maxL ret T h locs cells slots) {cd : ACond} {i : Int} {x z : Value} {q : Nat} {same : Bool} (hd : decode code pc = .ok (.if_acmp cd i, 3)) (h1 : x.isRef = true) (h2 : z.isRef = true) (hq : decide (x = z) = same) (ho : 0 ≤ (pc : Int) + i) (hp : q = if acV cd same = true then ((pc : Int) + i).toNat else pc + 3) (K : Goes p e below F T (mkF m q L S)) : Goes p e below F T (mkF m pc L (z :: x :: S)) := Goes.step (fun _ k => Jvm.RoadKit.acmp (g := mkF m pc L (z :: x :: S)) X.1 X.2.1.1 rfl h1 h2 (pc0 := pc) rfl (hb X.2.1.2.1 hd) rfl hq ho hp k) K
theorem o_ldcI (X : On l Z p e R s m args below meth c y code maxL ret T h locs cells slots) {index : Nat} {v : Int32} {q : Nat} (w : (Jvm.Cond.constant y.cls index v).before a0 Z = true) (hd : decode code pc = .ok (.ldc index, 2)) (hp : pc + 2 = q) (K : Goes p e below F T (mkF m q L (.int v :: S))) : Goes p e below F T (mkF m pc L S) := by
  subst hp
  exact Goes.step (X.1.ldcInt X.2.1.1 X.2.1.2.2.2.1 (mvT X.2.1.2.2.1 w) (g := mkF m pc L S) rfl (hb X.2.1.2.1 hd)) K
theorem o_ldcJ (X : On l Z p e R s m args below meth c y code maxL ret T h locs cells slots) {index : Nat} {v : Int64} {q : Nat} (w : (Jvm.Cond.constantLong y.cls index v).before a0 Z = true) (hd : decode code pc = .ok (.ldc2_w index, 3)) (hp : pc + 3 = q) (K : Goes p e below F T (mkF m q L (.long v :: S))) : Goes p e below F T (mkF m pc L S) := by
  subst hp
  exact Goes.step (X.1.ldc2Long X.2.1.1 X.2.1.2.2.2.1 (mvT X.2.1.2.2.1 w) (g := mkF m pc L S) rfl (hb X.2.1.2.1 hd)) K
theorem o_new (X : On l Z p e R s m args below meth c y code maxL ret T h locs cells slots) {C : String} {index n q : Nat} (w : (Jvm.Cond.classLink y.cls index C).before a0 Z = true) (wi : (Jvm.Cond.instantiable C n).before a0 Z = true) (wz : (Jvm.Cond.initialized C).before a0 Z = true) (hd : decode code pc = .ok (.new index, 3)) (hc : cells + 1 ≤ R.cells) (hl : slots + n ≤ R.slots) (hp : pc + 3 = q)
    (K : ∀ (T' : State) (h' : Heap) (a : Addr), a = h.size → On l Z p e R s m args below meth c y code maxL ret T' h' locs (cells + 1) (slots + n) → Ext h h' → Exa Z h' a C → (∀ {O nm d : String} {ty : FieldType}, Laid Z a0 C O nm d → parseFieldDescriptor d = some ty → Fld Z h' a O nm d (defaultValue ty)) → Z.heap.size ≤ a → Goes p e below F T' (mkF m q L (.ref a :: S))) : Goes p e below F T (mkF m pc L S) := by
  subst hp
  obtain ⟨X1, C1, e1, N1, E1⟩ := X
  obtain ⟨T', h', X', e', E', A', D', -, st⟩ := newO X1 C1.1 C1.2.2.1 C1.2.2.2.1 w wi wz e1 (g := mkF m pc L S) rfl (hb C1.2.1 hd) hc hl
  exact Goes.step st (K T' h' h.size rfl ⟨X', C1, e', N1, ext_trans E1 E'⟩ E' A' D' E1.1)
theorem o_newarr (X : On l Z p e R s m args below meth c y code maxL ret T h locs cells slots) {aty : ArrayType} {n : Int32} {cap q : Nat} (N : Nat) (w : (Jvm.Cond.arrayClass (newarray.typeOf aty)).before a0 Z = true) (hd : decode code pc = .ok (.newarray aty, 2)) (hn : ¬ n < 0) (hcap : n.toNatClampNeg ≤ cap) (hb8 : cap * 8 ≤ 536870912) (hc : cells + 1 ≤ R.cells) (hl : slots + cap ≤ R.slots) (hp : pc + 2 = q)
    (K : ∀ (T' : State) (h' : Heap) (a : Addr) (k : ClassId), a = h.size → On l Z p e R s m args below meth c y code maxL ret T' h' locs (cells + 1) (slots + cap) → Ext h h' → Arv Z h' a k (newarray.typeOf aty) n (List.replicate N (defaultValue (newarray.typeOf aty))) (defaultValue (newarray.typeOf aty)) → Z.heap.size ≤ a → Goes p e below F T' (mkF m q L (.ref a :: S))) : Goes p e below F T (mkF m pc L (.int n :: S)) := by
  subst hp
  obtain ⟨X1, C1, e1, N1, E1⟩ := X
  obtain ⟨T', h', k, X', e', E', A', st⟩ := newP X1 C1.1 C1.2.2.1 w e1 (g := mkF m pc L (.int n :: S)) rfl (hb C1.2.1 hd) rfl hn hcap hb8 hc hl
  exact Goes.step st (K T' h' h.size k rfl ⟨X', C1, e', N1, ext_trans E1 E'⟩ E' ((Arv.new A' hn).pad (pad_rep [] _ N)) E1.1)
theorem o_getF (X : On l Z p e R s m args below meth c y code maxL ret T h locs cells slots) {R0 O n d host : String} {index q : Nat} {a : Addr} {v : Value} (Fx : Fld Z h a O n d v) (w : (Jvm.Cond.fieldLink y.cls index R0 n d).before a0 Z = true ∨ (Jvm.Cond.fieldLinkNest y.cls index R0 n d host).before a0 Z = true) (via : Via Z R0 O n d) (hd : decode code pc = .ok (.getfield index, 3)) (hp : pc + 3 = q)
    (K : ∀ T' : State, On l Z p e R s m args below meth c y code maxL ret T' h locs cells slots → Goes p e below F T' (mkF m q L (v :: S))) : Goes p e below F T (mkF m pc L (.ref a :: S)) := by
  subst hp
  obtain ⟨X1, C1, e1, N1, E1⟩ := X
  obtain ⟨T', X', e', st⟩ := getF X1 C1.1 C1.2.2.1 C1.2.2.2.1 w via e1 Fx (g := mkF m pc L (.ref a :: S)) rfl rfl (hb C1.2.1 hd)
  exact Goes.step st (K T' ⟨X', C1, e', N1, E1⟩)
theorem o_getS (X : On l Z p e R s m args below meth c y code maxL ret T h locs cells slots) {R0 O n d host : String} {index q : Nat} {v : Value} (Fx : Sta Z Z.heap O n d v) (w : (Jvm.Cond.fieldLink y.cls index R0 n d).before a0 Z = true ∨ (Jvm.Cond.fieldLinkNest y.cls index R0 n d host).before a0 Z = true) (via : Via Z R0 O n d) (hd : decode code pc = .ok (.getstatic index, 3)) (hp : pc + 3 = q)
    (K : ∀ T' : State, On l Z p e R s m args below meth c y code maxL ret T' h locs cells slots → Goes p e below F T' (mkF m q L (v :: S))) : Goes p e below F T (mkF m pc L S) := by
  subst hp
  obtain ⟨X1, C1, e1, N1, E1⟩ := X
  obtain ⟨T', X', e', st⟩ := getS2 X1 C1.1 C1.2.2.1 C1.2.2.2.1 w via e1 (Fx.ext E1) (g := mkF m pc L S) rfl (hb C1.2.1 hd)
  exact Goes.step st (K T' ⟨X', C1, e', N1, E1⟩)
theorem o_putF (X : On l Z p e R s m args below meth c y code maxL ret T h locs cells slots) {R0 O n d host C : String} {index kk q : Nat} {ty : FieldType} {a : Addr} {v old : Value} (Fx : Fld Z h a O n d old) (E : Exa Z h a C) (ha : Z.heap.size ≤ a) (w : (Jvm.Cond.fieldLink y.cls index R0 n d).before a0 Z = true ∨ (Jvm.Cond.fieldLinkNest y.cls index R0 n d host).before a0 Z = true) (via : Via Z R0 O n d)
    (Lw : (Jvm.Cond.lays C O n d).before a0 Z = true ∨ ((Jvm.Cond.laysFinal C O n d).before a0 Z = true ∧ y.cls = O ∧ y.name = "<init>")) (wi : (Jvm.Cond.instantiable C kk).before a0 Z = true) (hty : parseFieldDescriptor d = some ty) (hn : narrow ty v = v) (hf : fits ty v = true) (hd : decode code pc = .ok (.putfield index, 3)) (hp : pc + 3 = q)
    (K : ∀ (T' : State) (h' : Heap) (locs' : List Loc), On l Z p e R s m args below meth c y code maxL ret T' h' locs' cells slots → Wr h h' a (Jvm.RoadKit.slotOf Z O n d) v → Fld Z h' a O n d v → Goes p e below F T' (mkF m q L S)) : Goes p e below F T (mkF m pc L (v :: .ref a :: S)) := by
  subst hp
  obtain ⟨X1, C1, e1, N1, E1⟩ := X
  obtain ⟨T', h', X', e', W', st⟩ := putF X1 C1.1 C1.2.2.1 C1.2.2.2.1 w via e1 Fx E (Lw.imp_right fun q => ⟨q.1, q.2.1, C1.2.2.2.2.2.2.1.trans q.2.2⟩) wi hty hn hf (g := mkF m pc L (v :: .ref a :: S)) rfl rfl (hb C1.2.1 hd)
  exact Goes.step st (K T' h' _ ⟨X', C1, e', Fr.snoc X' N1 ha, ext_wr E1 W' ha⟩ W' (Fx.same W'))
theorem o_len (X : On l Z p e R s m args below meth c y code maxL ret T h locs cells slots) {a : Addr} {k : ClassId} {ty : FieldType} {n : Int32} {vs : List Value} {dv : Value} {q : Nat} (A : Arv Z h a k ty n vs dv) (hd : decode code pc = .ok (.arraylength, 1)) (hp : pc + 1 = q) (K : Goes p e below F T (mkF m q L (.int n :: S))) : Goes p e below F T (mkF m pc L (.ref a :: S)) := by
  subst hp
  obtain ⟨X1, C1, e1, N1, E1⟩ := X
  obtain ⟨cl, Ar, -, Sz, Nn, -⟩ := A
  refine Goes.step (X1.arraylength C1.1 (by rw [e1]; exact Ar.1) (State.isArrayOf_alike C1.2.2.1.alike Ar.2.1) (g := mkF m pc L (.ref a :: S)) rfl rfl (hb C1.2.1 hd)) ?_
  rw [len_of Sz Nn]
  exact K
theorem o_iaload (X : On l Z p e R s m args below meth c y code maxL ret T h locs cells slots) {a : Addr} {k : ClassId} {n j : Int32} {vs : List Value} {dv v : Value} {q : Nat} (A : Arv Z h a k .int n vs dv) (hj : ¬ j < 0 ∧ j < n) (hv : vs.getD j.toNatClampNeg dv = v) (hd : decode code pc = .ok (.iaload, 1)) (hp : pc + 1 = q) (K : Goes p e below F T (mkF m q L (v :: S))) : Goes p e below F T (mkF m pc L (.int j :: .ref a :: S)) := by
  subst hp
  obtain ⟨X1, C1, e1, N1, E1⟩ := X
  obtain ⟨cl, Ar, -, Sz, Nn, H, -⟩ := A
  have hin := inb_of Sz hj
  exact Goes.step (X1.iaload C1.1 (j := j) (v := v) (by rw [e1]; exact Ar.1) (State.isArrayOf_alike C1.2.2.1.alike Ar.2.1) Ar.2.2 hin (H.at hin hv) (g := mkF m pc L (.int j :: .ref a :: S)) rfl rfl (hb C1.2.1 hd)) K
theorem o_laload (X : On l Z p e R s m args below meth c y code maxL ret T h locs cells slots) {a : Addr} {k : ClassId} {n j : Int32} {vs : List Value} {dv v : Value} {q : Nat} (A : Arv Z h a k .long n vs dv) (hj : ¬ j < 0 ∧ j < n) (hv : vs.getD j.toNatClampNeg dv = v) (hd : decode code pc = .ok (.laload, 1)) (hp : pc + 1 = q) (K : Goes p e below F T (mkF m q L (v :: S))) : Goes p e below F T (mkF m pc L (.int j :: .ref a :: S)) := by
  subst hp
  obtain ⟨X1, C1, e1, N1, E1⟩ := X
  obtain ⟨cl, Ar, -, Sz, Nn, H, -⟩ := A
  have hin := inb_of Sz hj
  exact Goes.step (X1.laload C1.1 (j := j) (v := v) (by rw [e1]; exact Ar.1) (State.isArrayOf_alike C1.2.2.1.alike Ar.2.1) Ar.2.2 hin (H.at hin hv) (g := mkF m pc L (.int j :: .ref a :: S)) rfl rfl (hb C1.2.1 hd)) K
theorem o_caload (X : On l Z p e R s m args below meth c y code maxL ret T h locs cells slots) {a : Addr} {k : ClassId} {n j : Int32} {vs : List Value} {dv v : Value} {q : Nat} (A : Arv Z h a k .char n vs dv) (hj : ¬ j < 0 ∧ j < n) (hv : vs.getD j.toNatClampNeg dv = v) (hd : decode code pc = .ok (.caload, 1)) (hp : pc + 1 = q) (K : Goes p e below F T (mkF m q L (v :: S))) : Goes p e below F T (mkF m pc L (.int j :: .ref a :: S)) := by
  subst hp
  obtain ⟨X1, C1, e1, N1, E1⟩ := X
  obtain ⟨cl, Ar, -, Sz, Nn, H, -⟩ := A
  have hin := inb_of Sz hj
  exact Goes.step (X1.caload C1.1 (j := j) (v := v) (by rw [e1]; exact Ar.1) (State.isArrayOf_alike C1.2.2.1.alike Ar.2.1) Ar.2.2 hin (H.at hin hv) (g := mkF m pc L (.int j :: .ref a :: S)) rfl rfl (hb C1.2.1 hd)) K
theorem o_baload (X : On l Z p e R s m args below meth c y code maxL ret T h locs cells slots) {a : Addr} {k : ClassId} {n j : Int32} {vs : List Value} {dv v : Value} {q : Nat} (A : Arv Z h a k .byte n vs dv) (hj : ¬ j < 0 ∧ j < n) (hv : vs.getD j.toNatClampNeg dv = v) (hd : decode code pc = .ok (.baload, 1)) (hp : pc + 1 = q) (K : Goes p e below F T (mkF m q L (v :: S))) : Goes p e below F T (mkF m pc L (.int j :: .ref a :: S)) := by
  subst hp
  obtain ⟨X1, C1, e1, N1, E1⟩ := X
  obtain ⟨cl, Ar, -, Sz, Nn, H, -⟩ := A
  have hin := inb_of Sz hj
  exact Goes.step (X1.baloadBytes C1.1 (j := j) (v := v) (by rw [e1]; exact Ar.1) (State.isArrayOf_alike C1.2.2.1.alike Ar.2.1) Ar.2.2 hin (H.at hin hv) (g := mkF m pc L (.int j :: .ref a :: S)) rfl rfl (hb C1.2.1 hd)) K
theorem o_aaload (X : On l Z p e R s m args below meth c y code maxL ret T h locs cells slots) {a : Addr} {k : ClassId} {ty : FieldType} {n j : Int32} {vs : List Value} {dv v : Value} {q : Nat} (A : Arv Z h a k ty n vs dv) (hty : ty.isReference = true) (hj : ¬ j < 0 ∧ j < n) (hv : vs.getD j.toNatClampNeg dv = v) (hd : decode code pc = .ok (.aaload, 1)) (hp : pc + 1 = q) (K : Goes p e below F T (mkF m q L (v :: S))) : Goes p e below F T (mkF m pc L (.int j :: .ref a :: S)) := by
  subst hp
  obtain ⟨X1, C1, e1, N1, E1⟩ := X
  obtain ⟨cl, Ar, -, Sz, Nn, H, -⟩ := A
  have hin := inb_of Sz hj
  exact Goes.step (X1.aaload C1.1 (j := j) (v := v) (by rw [e1]; exact Ar.1) (State.isArrayOf_alike C1.2.2.1.alike Ar.2.1) hty Ar.2.2 hin (H.at hin hv) (g := mkF m pc L (.int j :: .ref a :: S)) rfl rfl (hb C1.2.1 hd)) K
theorem o_iastore (X : On l Z p e R s m args below meth c y code maxL ret T h locs cells slots) {a : Addr} {k : ClassId} {n j : Int32} {x : Int32} {v : Value} {vs : List Value} {dv : Value} {q : Nat} (i : Nat) (A : Arv Z h a k .int n vs dv) (ha : Z.heap.size ≤ a) (hj : ¬ j < 0 ∧ j < n) (hi : j.toNatClampNeg = i) (hlt : i < vs.length) (hv : (.int x : Value) = v) (hd : decode code pc = .ok (.iastore, 1)) (hp : pc + 1 = q)
    (K : ∀ (T' : State) (h' : Heap) (locs' : List Loc), On l Z p e R s m args below meth c y code maxL ret T' h' locs' cells slots → Wr h h' a i v → Arv Z h' a k .int n (vs.set i v) dv → Goes p e below F T' (mkF m q L S)) : Goes p e below F T (mkF m pc L (.int x :: .int j :: .ref a :: S)) := by
  subst hp hv
  obtain ⟨X1, C1, e1, N1, E1⟩ := X
  obtain ⟨cl, Ar, q1, Sz, Nn, H, G⟩ := A
  obtain ⟨T', h', X', e', W', st⟩ := stI X1 C1.1 C1.2.2.1 e1 Ar (j := j) (inb_of Sz hj) (g := mkF m pc L (.int x :: .int j :: .ref a :: S)) rfl rfl (hb C1.2.1 hd)
  exact Goes.step st (K T' h' _ ⟨X', C1, e', Fr.snoc X' N1 ha, ext_wr E1 W' ha⟩ (hi ▸ W') (Arv.set Ar q1 Sz Nn H G rfl W' i hi hlt))
theorem o_lastore (X : On l Z p e R s m args below meth c y code maxL ret T h locs cells slots) {a : Addr} {k : ClassId} {n j : Int32} {x : Int64} {v : Value} {vs : List Value} {dv : Value} {q : Nat} (i : Nat) (A : Arv Z h a k .long n vs dv) (ha : Z.heap.size ≤ a) (hj : ¬ j < 0 ∧ j < n) (hi : j.toNatClampNeg = i) (hlt : i < vs.length) (hv : (.long x : Value) = v) (hd : decode code pc = .ok (.lastore, 1)) (hp : pc + 1 = q)
    (K : ∀ (T' : State) (h' : Heap) (locs' : List Loc), On l Z p e R s m args below meth c y code maxL ret T' h' locs' cells slots → Wr h h' a i v → Arv Z h' a k .long n (vs.set i v) dv → Goes p e below F T' (mkF m q L S)) : Goes p e below F T (mkF m pc L (.long x :: .int j :: .ref a :: S)) := by
  subst hp hv
  obtain ⟨X1, C1, e1, N1, E1⟩ := X
  obtain ⟨cl, Ar, q1, Sz, Nn, H, G⟩ := A
  obtain ⟨T', h', X', e', W', st⟩ := stJ X1 C1.1 C1.2.2.1 e1 Ar (j := j) (inb_of Sz hj) (g := mkF m pc L (.long x :: .int j :: .ref a :: S)) rfl rfl (hb C1.2.1 hd)
  exact Goes.step st (K T' h' _ ⟨X', C1, e', Fr.snoc X' N1 ha, ext_wr E1 W' ha⟩ (hi ▸ W') (Arv.set Ar q1 Sz Nn H G rfl W' i hi hlt))
theorem o_castore (X : On l Z p e R s m args below meth c y code maxL ret T h locs cells slots) {a : Addr} {k : ClassId} {n j : Int32} {x : Int32} {v : Value} {vs : List Value} {dv : Value} {q : Nat} (i : Nat) (A : Arv Z h a k .char n vs dv) (ha : Z.heap.size ≤ a) (hj : ¬ j < 0 ∧ j < n) (hi : j.toNatClampNeg = i) (hlt : i < vs.length) (hv : (.int (nar .char x) : Value) = v) (hd : decode code pc = .ok (.castore, 1)) (hp : pc + 1 = q)
    (K : ∀ (T' : State) (h' : Heap) (locs' : List Loc), On l Z p e R s m args below meth c y code maxL ret T' h' locs' cells slots → Wr h h' a i v → Arv Z h' a k .char n (vs.set i v) dv → Goes p e below F T' (mkF m q L S)) : Goes p e below F T (mkF m pc L (.int x :: .int j :: .ref a :: S)) := by
  subst hp hv
  obtain ⟨X1, C1, e1, N1, E1⟩ := X
  obtain ⟨cl, Ar, q1, Sz, Nn, H, G⟩ := A
  obtain ⟨T', h', X', e', W', st⟩ := stC X1 C1.1 C1.2.2.1 e1 Ar (j := j) (inb_of Sz hj) (g := mkF m pc L (.int x :: .int j :: .ref a :: S)) rfl rfl (hb C1.2.1 hd)
  exact Goes.step st (K T' h' _ ⟨X', C1, e', Fr.snoc X' N1 ha, ext_wr E1 W' ha⟩ (hi ▸ W') (Arv.set Ar q1 Sz Nn H G (fits_nar_char x) W' i hi hlt))
theorem o_bastore (X : On l Z p e R s m args below meth c y code maxL ret T h locs cells slots) {a : Addr} {k : ClassId} {n j : Int32} {x : Int32} {v : Value} {vs : List Value} {dv : Value} {q : Nat} (i : Nat) (A : Arv Z h a k .byte n vs dv) (ha : Z.heap.size ≤ a) (hj : ¬ j < 0 ∧ j < n) (hi : j.toNatClampNeg = i) (hlt : i < vs.length) (hv : (.int (nar .byte x) : Value) = v) (hd : decode code pc = .ok (.bastore, 1)) (hp : pc + 1 = q)
    (K : ∀ (T' : State) (h' : Heap) (locs' : List Loc), On l Z p e R s m args below meth c y code maxL ret T' h' locs' cells slots → Wr h h' a i v → Arv Z h' a k .byte n (vs.set i v) dv → Goes p e below F T' (mkF m q L S)) : Goes p e below F T (mkF m pc L (.int x :: .int j :: .ref a :: S)) := by
  subst hp hv
  obtain ⟨X1, C1, e1, N1, E1⟩ := X
  obtain ⟨cl, Ar, q1, Sz, Nn, H, G⟩ := A
  obtain ⟨T', h', X', e', W', st⟩ := stB X1 C1.1 C1.2.2.1 e1 Ar (j := j) (inb_of Sz hj) (g := mkF m pc L (.int x :: .int j :: .ref a :: S)) rfl rfl (hb C1.2.1 hd)
  exact Goes.step st (K T' h' _ ⟨X', C1, e', Fr.snoc X' N1 ha, ext_wr E1 W' ha⟩ (hi ▸ W') (Arv.set Ar q1 Sz Nn H G (fits_nar_byte x) W' i hi hlt))
theorem o_ret (X : On l Z p e R s m args below meth c y code maxL none T h locs cells slots) {Q : Option Value → Heap → Prop} {rc rs : Nat} (hd : decode code pc = .ok (.return_, 1)) (hQ : Q none h) (hc : cells ≤ rc) (hs : slots ≤ rs) : Goes p e below (FinQ Z s Q rc rs) T (mkF m pc L []) := by
  obtain ⟨X1, C1, e1, N1, E1⟩ := X
  obtain ⟨fs, hr, hrun, hended, hW, hsame⟩ := X1.leave (v := none) (fun _ => rfl) C1.2.2.2.2.2.1
  refine ⟨_, _, X1.returnOut C1.1 C1.2.2.2.2.1 (hb C1.2.1 hd) hr, hrun, hended, _, _, rfl, ⟨?_, N1, ?_⟩, ⟨_, rfl⟩, hW, hsame.mono hc hs⟩
  · show Q none T.heap
    rw [e1]; exact hQ
  · show Ext Z.heap T.heap
    rw [e1]; exact E1
theorem o_retI (X : On l Z p e R s m args below meth c y code maxL (some .int) T h locs cells slots) {Q : Option Value → Heap → Prop} {rc rs : Nat} {z : Int32} (hd : decode code pc = .ok (.ireturn, 1)) (hQ : Q (some (.int z)) h) (hc : cells ≤ rc) (hs : slots ≤ rs) : Goes p e below (FinQ Z s Q rc rs) T (mkF m pc L (.int z :: S)) := by
  obtain ⟨X1, C1, e1, N1, E1⟩ := X
  obtain ⟨fs, hr, hrun, hended, hW, hsame⟩ := X1.leave (v := some (.int z)) (fun h => by rw [C1.2.2.2.2.1] at h; cases h) C1.2.2.2.2.2.1
  refine ⟨_, _, retOut X1 C1.1 C1.2.2.2.2.1 rfl (Or.inl ⟨rfl, Or.inl rfl, z, rfl⟩) (hb C1.2.1 hd) hr, hrun, hended, _, _, rfl, ⟨?_, N1, ?_⟩, ⟨_, rfl⟩, hW, hsame.mono hc hs⟩
  · show Q _ T.heap
    rw [e1]; exact hQ
  · show Ext Z.heap T.heap
    rw [e1]; exact E1
theorem o_retN {t : FieldType} (X : On l Z p e R s m args below meth c y code maxL (some t) T h locs cells slots) {Q : Option Value → Heap → Prop} {rc rs : Nat} {z : Int32} (hd : decode code pc = .ok (.ireturn, 1)) (ht : t = .boolean ∨ t = .byte ∨ t = .char ∨ t = .short) (hQ : Q (some (.int (nar t z))) h) (hc : cells ≤ rc) (hs : slots ≤ rs) : Goes p e below (FinQ Z s Q rc rs) T (mkF m pc L (.int z :: S)) := by
  obtain ⟨X1, C1, e1, N1, E1⟩ := X
  obtain ⟨fs, hr, hrun, hended, hW, hsame⟩ := X1.leave (v := some (.int (nar t z))) (fun h => by rw [C1.2.2.2.2.1] at h; cases h) C1.2.2.2.2.2.1
  refine ⟨_, _, retN X1 C1.1 C1.2.2.2.2.1 ht (hb C1.2.1 hd) hr, hrun, hended, _, _, rfl, ⟨?_, N1, ?_⟩, ⟨_, rfl⟩, hW, hsame.mono hc hs⟩
  · show Q _ T.heap
    rw [e1]; exact hQ
  · show Ext Z.heap T.heap
    rw [e1]; exact E1
theorem o_retR {t : FieldType} (X : On l Z p e R s m args below meth c y code maxL (some t) T h locs cells slots) {Q : Option Value → Heap → Prop} {rc rs : Nat} {v : Value} (hd : decode code pc = .ok (.areturn, 1)) (ht : t.isReference = true) (hv : v.isRef = true) (hn : narrow t v = v) (hQ : Q (some v) h) (hc : cells ≤ rc) (hs : slots ≤ rs) : Goes p e below (FinQ Z s Q rc rs) T (mkF m pc L (v :: S)) := by
  obtain ⟨X1, C1, e1, N1, E1⟩ := X
  obtain ⟨fs, hr, hrun, hended, hW, hsame⟩ := X1.leave (v := some v) (fun h => by rw [C1.2.2.2.2.1] at h; cases h) C1.2.2.2.2.2.1
  refine ⟨_, _, retOut X1 C1.1 C1.2.2.2.2.1 hn (Or.inr (Or.inr (Or.inr (Or.inr ⟨rfl, ht, hv⟩)))) (hb C1.2.1 hd) hr, hrun, hended, _, _, rfl, ⟨?_, N1, ?_⟩, ⟨_, rfl⟩, hW, hsame.mono hc hs⟩
  · show Q _ T.heap
    rw [e1]; exact hQ
  · show Ext Z.heap T.heap
    rw [e1]; exact E1
theorem o_retJ (X : On l Z p e R s m args below meth c y code maxL (some .long) T h locs cells slots) {Q : Option Value → Heap → Prop} {rc rs : Nat} {z : Int64} (hd : decode code pc = .ok (.lreturn, 1)) (hQ : Q (some (.long z)) h) (hc : cells ≤ rc) (hs : slots ≤ rs) : Goes p e below (FinQ Z s Q rc rs) T (mkF m pc L (.long z :: S)) := by
  obtain ⟨X1, C1, e1, N1, E1⟩ := X
  obtain ⟨fs, hr, hrun, hended, hW, hsame⟩ := X1.leave (v := some (.long z)) (fun h => by rw [C1.2.2.2.2.1] at h; cases h) C1.2.2.2.2.2.1
  refine ⟨_, _, retOut X1 C1.1 C1.2.2.2.2.1 rfl (Or.inr (Or.inl ⟨rfl, rfl, z, rfl⟩)) (hb C1.2.1 hd) hr, hrun, hended, _, _, rfl, ⟨?_, N1, ?_⟩, ⟨_, rfl⟩, hW, hsame.mono hc hs⟩
  · show Q _ T.heap
    rw [e1]; exact hQ
  · show Ext Z.heap T.heap
    rw [e1]; exact E1
theorem o_initO (X : On l Z p e R s m args below meth c y code maxL ret T h locs cells slots) {idx q : Nat} {a : Addr} (w1 : (Jvm.Cond.methodLink y.cls idx Lib.objectInit).before a0 Z = true) (w2 : (Jvm.Cond.instanceMethod Lib.objectInit).before a0 Z = true) (w3 : (Jvm.Cond.code Lib.objectInit ⟨#[0xb1]⟩ 1 none).before a0 Z = true) (hd : decode code pc = .ok (.invokespecial idx, 3)) (hL : L.size = maxL) (hf : 1 ≤ R.frames) (hl : (S.map fun v => v.category).sum + 12 ≤ R.locals) (hp : pc + 3 = q)
    (K : ∀ T' : State, On l Z p e R s m args below meth c y code maxL ret T' h locs cells slots → Goes p e below F T' (mkF m q L S)) : Goes p e below F T (mkF m pc L (.ref a :: S)) := by
  subst hp
  obtain ⟨X1, C1, e1, N1, E1⟩ := X
  obtain ⟨T', X', e', st⟩ := initO X1 C1.1 C1.2.2.1 C1.2.2.2.1 w1 w2 w3 e1 (g := mkF m pc L (.ref a :: S)) rfl (hL.trans C1.2.2.2.2.2.2.2.symm) rfl (hb C1.2.1 hd) hf (W := (S.map fun v => v.category).sum) (by show 2 * 0 + _ ≤ _; omega) hl
  exact Goes.step st (K T' ⟨X', C1, e', N1, E1⟩)
/-- a call that some Back pays: what its Post says of the heap behind -/
theorem o_specB (X : On l Z p e R s m args below meth c y code maxL ret T h locs cells slots) {y' : MethodName} {index W q : Nat} {bytes : ByteArray} {maxL' : Nat} {Q : Option Value → Heap → List Loc → Prop} {rc rs : Nat} {as : Array Value} (argsL : List Value) {a : Addr} {rest : List Value}
    (hK : Back l R p e below s args y' 3 W (fun A b => b = as ∧ A.U.heap = h ∧ A.cells + rc ≤ R.cells ∧ A.slots + rs ≤ R.slots) (fun A _ v B => ∃ L, Q v B.U.heap L ∧ B.locs = A.locs ++ L ∧ B.cells = A.cells + rc ∧ B.slots = A.slots + rs))
    (hq : ∀ v h' L, Q v h' L → Fr Z.heap.size L ∧ Ext Z.heap h')
    (hy1 : y'.name = "<init>") (w1 : (Jvm.Cond.methodLink y.cls index y').before a0 Z = true) (w2 : (Jvm.Cond.instanceMethod y').before a0 Z = true) (w3 : (Jvm.Cond.code y' bytes maxL' none).before a0 Z = true) (hy : y'.cls ≠ "java/lang/invoke/MethodHandle" ∧ y'.cls ≠ "java/lang/invoke/VarHandle")
    (hd : decode code pc = .ok (.invokespecial index, 3)) (has : (.ref a :: argsL).toArray = as) (hL : L.size = maxL) (hlen : ∀ sig, parseMethodDescriptor y'.desc = some sig → argsL.length = sig.parameters.length) (hS : S = argsL.reverse ++ .ref a :: rest) (hW : (rest.map fun v => v.category).sum ≤ W) (hc : cells + rc ≤ R.cells) (hs : slots + rs ≤ R.slots) (hp : pc + 3 = q)
    (K : ∀ (v : Option Value) (T' : State) (h' : Heap) (L' locs' : List Loc), On l Z p e R s m args below meth c y code maxL ret T' h' locs' (cells + rc) (slots + rs) → Q v h' L' → Goes p e below F T' (mkF m q L (v.toList ++ rest))) : Goes p e below F T (mkF m pc L S) := by
  subst hp hS has
  obtain ⟨X1, C1, e1, N1, E1⟩ := X
  obtain ⟨v, vm1, ⟨T', L1, k1, n1⟩, -, X', ⟨Lc, hQ, e2, e3, e4⟩, st⟩ := X1.specialBack C1.1 hy1 C1.2.2.2.1 (mvT C1.2.2.1 w1) (mvT C1.2.2.1 w2) (mvT C1.2.2.1 w3) hy hK (g := mkF m pc L (argsL.reverse ++ .ref a :: rest)) rfl (hL.trans C1.2.2.2.2.2.2.2.symm) (Steps.refl _) hlen rfl (by show 2 * 0 + _ ≤ _; omega) (hb C1.2.1 hd) (fun _ _ => ⟨rfl, e1, hc, hs⟩)
  dsimp only [Pt.U, Pt.locs, Pt.cells, Pt.slots] at X' hQ e2 e3 e4 st
  subst e2 e3 e4
  obtain ⟨f1, f2⟩ := hq _ _ _ hQ
  exact Goes.step (fun _ k => st.trans k) (K v T' T'.heap Lc _ ⟨X', C1, rfl, Fr.app N1 f1, f2⟩ hQ)
theorem o_virtB (X : On l Z p e R s m args below meth c y code maxL ret T h locs cells slots) {C : String} {y' : MethodName} {index W q : Nat} {Q : Option Value → Heap → List Loc → Prop} {rc rs : Nat} {as : Array Value} (argsL : List Value) {a : Addr} {rest : List Value} (E : Exa Z h a C)
    (hK : Back l R p e below s args y' 3 W (fun A b => b = as ∧ A.U.heap = h ∧ A.cells + rc ≤ R.cells ∧ A.slots + rs ≤ R.slots) (fun A _ v B => ∃ L, Q v B.U.heap L ∧ B.locs = A.locs ++ L ∧ B.cells = A.cells + rc ∧ B.slots = A.slots + rs))
    (hq : ∀ v h' L, Q v h' L → Fr Z.heap.size L ∧ Ext Z.heap h')
    (w1 : (Jvm.Cond.methodLink y.cls index y').before a0 Z = true) (w2 : (Jvm.Cond.declares y').before a0 Z = true) (w3 : (Jvm.Cond.selects C y' y').before a0 Z = true) (w4 : (Jvm.Cond.instanceMethod y').before a0 Z = true) (hy : y'.cls ≠ "java/lang/invoke/MethodHandle" ∧ y'.cls ≠ "java/lang/invoke/VarHandle")
    (hd : decode code pc = .ok (.invokevirtual index, 3)) (has : (.ref a :: argsL).toArray = as) (hL : L.size = maxL) (hlen : ∀ sig, parseMethodDescriptor y'.desc = some sig → argsL.length = sig.parameters.length) (hS : S = argsL.reverse ++ .ref a :: rest) (hW : (rest.map fun v => v.category).sum ≤ W) (hc : cells + rc ≤ R.cells) (hs : slots + rs ≤ R.slots) (hp : pc + 3 = q)
    (K : ∀ (v : Option Value) (T' : State) (h' : Heap) (L' locs' : List Loc), On l Z p e R s m args below meth c y code maxL ret T' h' locs' (cells + rc) (slots + rs) → Q v h' L' → Goes p e below F T' (mkF m q L (v.toList ++ rest))) : Goes p e below F T (mkF m pc L S) := by
  subst hp hS has
  obtain ⟨X1, C1, e1, N1, E1⟩ := X
  obtain ⟨cB, kB, q1, q2, q3⟩ := isOf C1.2.2.1 e1 E
  obtain ⟨v, vm1, ⟨T', L1, k1, n1⟩, -, X', ⟨Lc, hQ, e2, e3, e4⟩, st⟩ := X1.virtualBack C1.1 (y := y') (z := y') C1.2.2.2.1 (mvT C1.2.2.1 w1) (mvT C1.2.2.1 w2) (notFace_of_selects (args := #[]) (mvT C1.2.2.1 w3)) (mvT C1.2.2.1 w3) (mvT C1.2.2.1 w4) hy hK q1 q3 (g := mkF m pc L (argsL.reverse ++ .ref a :: rest)) rfl (hL.trans C1.2.2.2.2.2.2.2.symm) (Steps.refl _) hlen rfl (by show 2 * 0 + _ ≤ _; omega) (hb C1.2.1 hd) (fun _ _ => ⟨rfl, e1, hc, hs⟩)
  dsimp only [Pt.U, Pt.locs, Pt.cells, Pt.slots] at X' hQ e2 e3 e4 st
  subst e2 e3 e4
  obtain ⟨f1, f2⟩ := hq _ _ _ hQ
  exact Goes.step (fun _ k => st.trans k) (K v T' T'.heap Lc _ ⟨X', C1, rfl, Fr.app N1 f1, f2⟩ hQ)
theorem o_statB (X : On l Z p e R s m args below meth c y code maxL ret T h locs cells slots) {y' : MethodName} {index W q : Nat} {bytes : ByteArray} {maxL' : Nat} {ret' : Option FieldType} {Q : Option Value → Heap → List Loc → Prop} {rc rs : Nat} {as : Array Value} (argsL : List Value) {rest : List Value}
    (hK : Back l R p e below s args y' 3 W (fun A b => b = as ∧ A.U.heap = h ∧ A.cells + rc ≤ R.cells ∧ A.slots + rs ≤ R.slots) (fun A _ v B => ∃ L, Q v B.U.heap L ∧ B.locs = A.locs ++ L ∧ B.cells = A.cells + rc ∧ B.slots = A.slots + rs))
    (hq : ∀ v h' L, Q v h' L → Fr Z.heap.size L ∧ Ext Z.heap h')
    (w1 : (Jvm.Cond.methodLink y.cls index y').before a0 Z = true) (w2 : (Jvm.Cond.static y').before a0 Z = true) (w3 : (Jvm.Cond.initialized y'.cls).before a0 Z = true) (w4 : (Jvm.Cond.code y' bytes maxL' ret').before a0 Z = true) (hy : y'.cls ≠ "java/lang/invoke/MethodHandle" ∧ y'.cls ≠ "java/lang/invoke/VarHandle")
    (hd : decode code pc = .ok (.invokestatic index, 3)) (has : argsL.toArray = as) (hL : L.size = maxL) (hlen : ∀ sig, parseMethodDescriptor y'.desc = some sig → argsL.length = sig.parameters.length) (hS : S = argsL.reverse ++ rest) (hW : (rest.map fun v => v.category).sum ≤ W) (hc : cells + rc ≤ R.cells) (hs : slots + rs ≤ R.slots) (hp : pc + 3 = q)
    (K : ∀ (v : Option Value) (T' : State) (h' : Heap) (L' locs' : List Loc), On l Z p e R s m args below meth c y code maxL ret T' h' locs' (cells + rc) (slots + rs) → Q v h' L' → Goes p e below F T' (mkF m q L (v.toList ++ rest))) : Goes p e below F T (mkF m pc L S) := by
  subst hp hS has
  obtain ⟨X1, C1, e1, N1, E1⟩ := X
  obtain ⟨v, vm1, ⟨T', L1, k1, n1⟩, -, X', ⟨Lc, hQ, e2, e3, e4⟩, st⟩ := Jvm.LawKit.callS X1 C1.1 C1.2.2.2.1 (mvT C1.2.2.1 w1) (mvT C1.2.2.1 w2) (mvT C1.2.2.1 w3) (mvT C1.2.2.1 w4) hy hK (g := mkF m pc L (argsL.reverse ++ rest)) rfl (hL.trans C1.2.2.2.2.2.2.2.symm) hlen rfl (by show 2 * 0 + _ ≤ _; omega) (hb C1.2.1 hd) (fun _ _ => ⟨rfl, e1, hc, hs⟩)
  dsimp only [Pt.U, Pt.locs, Pt.cells, Pt.slots] at X' hQ e2 e3 e4 st
  subst e2 e3 e4
  obtain ⟨f1, f2⟩ := hq _ _ _ hQ
  exact Goes.step st (K v T' T'.heap Lc _ ⟨X', C1, rfl, Fr.app N1 f1, f2⟩ hQ)
/-- a contract as a Back -/
theorem Con.back {y' : MethodName} {bytes : ByteArray} {maxL' : Nat} {ret' : Option FieldType} {rm : Room} {as : Array Value} {Q : Option Value → Heap → Prop} {len W : Nat} (X : On l Z p e R s m args below meth c y code maxL ret T h locs cells slots) (hC : Con l Z y' bytes maxL' ret' rm as h Q) (w4 : (Jvm.Cond.code y' bytes maxL' ret').before a0 Z = true) (w3 : (Jvm.Cond.initialized y'.cls).before a0 Z = true) (hf : rm.frames + 1 ≤ R.frames) (hl : W + (maxL' + 11) + rm.locals ≤ R.locals) :
    Back l R p e below s args y' len W (fun A b => b = as ∧ A.U.heap = h ∧ A.cells + rm.cells ≤ R.cells ∧ A.slots + rm.slots ≤ R.slots) (fun A _ v B => ∃ L, (Q v B.U.heap ∧ Fr Z.heap.size L ∧ Ext Z.heap B.U.heap) ∧ B.locs = A.locs ++ L ∧ B.cells = A.cells + rm.cells ∧ B.slots = A.slots + rm.slots) :=
  backOf (Q := fun v h' L => Q v h' ∧ Fr Z.heap.size L ∧ Ext Z.heap h') (hC X.ext []) X.2.1.2.2.1 w4 w3 hf hl
theorem o_spec (X : On l Z p e R s m args below meth c y code maxL ret T h locs cells slots) {y' : MethodName} {index q : Nat} {bytes : ByteArray} {maxL' : Nat} {rm : Room} {as : Array Value} {Q : Option Value → Heap → Prop} (argsL : List Value) {a : Addr} {rest : List Value} (hC : Con l Z y' bytes maxL' none rm as h Q)
    (hy1 : y'.name = "<init>") (w1 : (Jvm.Cond.methodLink y.cls index y').before a0 Z = true) (w2 : (Jvm.Cond.instanceMethod y').before a0 Z = true) (w3 : (Jvm.Cond.code y' bytes maxL' none).before a0 Z = true) (w4 : (Jvm.Cond.initialized y'.cls).before a0 Z = true) (hy : y'.cls ≠ "java/lang/invoke/MethodHandle" ∧ y'.cls ≠ "java/lang/invoke/VarHandle")
    (hd : decode code pc = .ok (.invokespecial index, 3)) (has : (.ref a :: argsL).toArray = as) (hL : L.size = maxL) (hlen : ∀ sig, parseMethodDescriptor y'.desc = some sig → argsL.length = sig.parameters.length) (hS : S = argsL.reverse ++ .ref a :: rest) (hf : rm.frames + 1 ≤ R.frames) (hl : (rest.map fun v => v.category).sum + (maxL' + 11) + rm.locals ≤ R.locals) (hc : cells + rm.cells ≤ R.cells) (hs : slots + rm.slots ≤ R.slots) (hp : pc + 3 = q)
    (K : ∀ (v : Option Value) (T' : State) (h' : Heap) (locs' : List Loc), On l Z p e R s m args below meth c y code maxL ret T' h' locs' (cells + rm.cells) (slots + rm.slots) → Q v h' → Goes p e below F T' (mkF m q L (v.toList ++ rest))) : Goes p e below F T (mkF m pc L S) :=
  o_specB X argsL (Q := fun v h' L => Q v h' ∧ Fr Z.heap.size L ∧ Ext Z.heap h') (Con.back X hC w3 w4 hf hl) (fun _ _ _ q => q.2) hy1 w1 w2 w3 hy hd has hL hlen hS (Nat.le_refl _) hc hs hp (fun v T' h' L' locs' X' hQ => K v T' h' locs' X' hQ.1)
theorem o_virt (X : On l Z p e R s m args below meth c y code maxL ret T h locs cells slots) {C : String} {y' : MethodName} {index q : Nat} {bytes : ByteArray} {maxL' : Nat} {ret' : Option FieldType} {rm : Room} {as : Array Value} {Q : Option Value → Heap → Prop} (argsL : List Value) {a : Addr} {rest : List Value} (E : Exa Z h a C) (hC : Con l Z y' bytes maxL' ret' rm as h Q)
    (w1 : (Jvm.Cond.methodLink y.cls index y').before a0 Z = true) (w2 : (Jvm.Cond.declares y').before a0 Z = true) (w3 : (Jvm.Cond.selects C y' y').before a0 Z = true) (w4 : (Jvm.Cond.instanceMethod y').before a0 Z = true) (w5 : (Jvm.Cond.code y' bytes maxL' ret').before a0 Z = true) (w6 : (Jvm.Cond.initialized y'.cls).before a0 Z = true) (hy : y'.cls ≠ "java/lang/invoke/MethodHandle" ∧ y'.cls ≠ "java/lang/invoke/VarHandle")
    (hd : decode code pc = .ok (.invokevirtual index, 3)) (has : (.ref a :: argsL).toArray = as) (hL : L.size = maxL) (hlen : ∀ sig, parseMethodDescriptor y'.desc = some sig → argsL.length = sig.parameters.length) (hS : S = argsL.reverse ++ .ref a :: rest) (hf : rm.frames + 1 ≤ R.frames) (hl : (rest.map fun v => v.category).sum + (maxL' + 11) + rm.locals ≤ R.locals) (hc : cells + rm.cells ≤ R.cells) (hs : slots + rm.slots ≤ R.slots) (hp : pc + 3 = q)
    (K : ∀ (v : Option Value) (T' : State) (h' : Heap) (locs' : List Loc), On l Z p e R s m args below meth c y code maxL ret T' h' locs' (cells + rm.cells) (slots + rm.slots) → Q v h' → Goes p e below F T' (mkF m q L (v.toList ++ rest))) : Goes p e below F T (mkF m pc L S) :=
  o_virtB X argsL (Q := fun v h' L => Q v h' ∧ Fr Z.heap.size L ∧ Ext Z.heap h') E (Con.back X hC w5 w6 hf hl) (fun _ _ _ q => q.2) w1 w2 w3 w4 hy hd has hL hlen hS (Nat.le_refl _) hc hs hp (fun v T' h' L' locs' X' hQ => K v T' h' locs' X' hQ.1)
theorem o_stat (X : On l Z p e R s m args below meth c y code maxL ret T h locs cells slots) {y' : MethodName} {index q : Nat} {bytes : ByteArray} {maxL' : Nat} {ret' : Option FieldType} {rm : Room} {as : Array Value} {Q : Option Value → Heap → Prop} (argsL : List Value) {rest : List Value} (hC : Con l Z y' bytes maxL' ret' rm as h Q)
    (w1 : (Jvm.Cond.methodLink y.cls index y').before a0 Z = true) (w2 : (Jvm.Cond.static y').before a0 Z = true) (w3 : (Jvm.Cond.initialized y'.cls).before a0 Z = true) (w4 : (Jvm.Cond.code y' bytes maxL' ret').before a0 Z = true) (hy : y'.cls ≠ "java/lang/invoke/MethodHandle" ∧ y'.cls ≠ "java/lang/invoke/VarHandle")
    (hd : decode code pc = .ok (.invokestatic index, 3)) (has : argsL.toArray = as) (hL : L.size = maxL) (hlen : ∀ sig, parseMethodDescriptor y'.desc = some sig → argsL.length = sig.parameters.length) (hS : S = argsL.reverse ++ rest) (hf : rm.frames + 1 ≤ R.frames) (hl : (rest.map fun v => v.category).sum + (maxL' + 11) + rm.locals ≤ R.locals) (hc : cells + rm.cells ≤ R.cells) (hs : slots + rm.slots ≤ R.slots) (hp : pc + 3 = q)
    (K : ∀ (v : Option Value) (T' : State) (h' : Heap) (locs' : List Loc), On l Z p e R s m args below meth c y code maxL ret T' h' locs' (cells + rm.cells) (slots + rm.slots) → Q v h' → Goes p e below F T' (mkF m q L (v.toList ++ rest))) : Goes p e below F T (mkF m pc L S) :=
  o_statB X argsL (Q := fun v h' L => Q v h' ∧ Fr Z.heap.size L ∧ Ext Z.heap h') (Con.back X hC w4 w3 hf hl) (fun _ _ _ q => q.2) w1 w2 w3 w4 hy hd has hL hlen hS (Nat.le_refl _) hc hs hp (fun v T' h' L' locs' X' hQ => K v T' h' locs' X' hQ.1)
end OwnKit
end Jvm.Pilot.@@N@@

namespace Jvm.Pilot.@@N@@
open Jvm Jvm.ClassFile Sem Op Lib Jvm.Free Jvm.Stand Jvm.LawKit Jvm.RoadKit Bundle Jvm.Pilot.@@N@@.Jvm.D
section OwnCol
variable {l : Launch} {Z : State} {p : Program} {e : Env} {R : Room} {s : State} {m : MethodId} {args : Array Value} {below : List Frame} {meth : Method} {c : Code} {y : MethodName} {code : ByteArray} {maxL : Nat} {ret : Option FieldType} {T : State} {h : Heap} {locs : List Loc} {cells slots : Nat} {F : State → Outcome → Prop} {pc : Nat} {L L' : Array Slot} {S : List Value} {a0 : Array Value}
theorem o_anew (X : On l Z p e R s m args below meth c y code maxL ret T h locs cells slots) {C ad : String} {index : Nat} {n : Int32} {cap q : Nat} (N : Nat) (w1 : (Jvm.Cond.classLink y.cls index C).before a0 Z = true) (w2 : (Jvm.Cond.arrayOver (.object C)).before a0 Z = true) (had : "[" ++ (FieldType.object C).toString = ad) (hd : decode code pc = .ok (.anewarray index, 3)) (hn : ¬ n < 0) (hcap : n.toNatClampNeg ≤ cap) (hb8 : cap * 8 ≤ 536870912) (hc : cells + 1 ≤ R.cells) (hl : slots + cap ≤ R.slots) (hp : pc + 3 = q)
    (K : ∀ (T' : State) (h' : Heap) (a : Addr) (k : ClassId), a = h.size → On l Z p e R s m args below meth c y code maxL ret T' h' locs (cells + 1) (slots + cap) → Ext h h' → Arv Z h' a k (.object C) n (List.replicate N .null) .null → Exa Z h' a ad → Ovr Z k C → Z.heap.size ≤ a → Goes p e below F T' (mkF m q L (.ref a :: S))) : Goes p e below F T (mkF m pc L (.int n :: S)) := by
  subst hp
  obtain ⟨T', h', k, X', e', E', A', Ex, O', st⟩ := newRE X.1 X.2.1.1 (show Z.Warmed39 s.vm from X.2.1.2.2.1) X.2.1.2.2.2.1 w1 w2 X.2.2.1 (g := mkF m pc L (.int n :: S)) rfl (hb X.2.1.2.1 hd) rfl hn hcap hb8 hc hl had
  exact Goes.step st (K T' h' h.size k rfl (X.later X' e' X.2.2.2.1 (ext_trans X.ext E')) E' ((Arv.new A' hn).pad (pad_rep [] _ N)) Ex O' X.size)
theorem o_aastore (X : On l Z p e R s m args below meth c y code maxL ret T h locs cells slots) {a : Addr} {k : ClassId} {ty : FieldType} {n j : Int32} {v : Value} {vs : List Value} {dv : Value} {q : Nat} (i : Nat) (A : Arv Z h a k ty n vs dv) (ha : Z.heap.size ≤ a) (hty : ty.isReference = true) (hfit : fits ty v = true) (Sx : Sto Z h a v) (hj : ¬ j < 0 ∧ j < n) (hi : j.toNatClampNeg = i) (hlt : i < vs.length) (hd : decode code pc = .ok (.aastore, 1)) (hp : pc + 1 = q)
    (K : ∀ (T' : State) (h' : Heap) (locs' : List Loc), On l Z p e R s m args below meth c y code maxL ret T' h' locs' cells slots → Wr h h' a i v → Arv Z h' a k ty n (vs.set i v) dv → Goes p e below F T' (mkF m q L S)) : Goes p e below F T (mkF m pc L (v :: .int j :: .ref a :: S)) := by
  subst hp
  obtain ⟨cl, Ar, q1, Sz, Nn, H, G⟩ := A
  obtain ⟨T', h', X', e', W', st⟩ := stR X.1 X.2.1.1 (show Z.Warmed39 s.vm from X.2.1.2.2.1) X.2.2.1 Ar (j := j) (inb_of Sz hj) hty Sx (g := mkF m pc L (v :: .int j :: .ref a :: S)) rfl rfl (hb X.2.1.2.1 hd)
  exact Goes.step st (K T' h' _ (X.later X' e' (Fr.snoc X' X.2.2.2.1 ha) (ext_wr X.ext W' ha)) (hi ▸ W') (Arv.set Ar q1 Sz Nn H G hfit W' i hi hlt))
theorem sto_of {Z : State} {h : Heap} {a x : Addr} {k : ClassId} {ty : FieldType} {C D : String} {n : Int32} {vs : List Value} {dv : Value} {a0 : Array Value} (A : Arv Z h a k ty n vs dv) (O : Ovr Z k C) (E : Exa Z h x D) (w : (Jvm.Cond.castable D C).before a0 Z = true) : Sto Z h a (.ref x) := by
  obtain ⟨cl, Ar, q1, -⟩ := A
  exact Sto.ofV Ar q1 O (Ins.of_exa E w)
theorem o_cast (X : On l Z p e R s m args below meth c y code maxL ret T h locs cells slots) {K' : String} {index q : Nat} {a : Addr} (I : Ins Z h a K' true) (w : (Jvm.Cond.classLink y.cls index K').before a0 Z = true) (hd : decode code pc = .ok (.checkcast index, 3)) (hp : pc + 3 = q)
    (K : ∀ T' : State, On l Z p e R s m args below meth c y code maxL ret T' h locs cells slots → Goes p e below F T' (mkF m q L (.ref a :: S))) : Goes p e below F T (mkF m pc L (.ref a :: S)) := by
  subst hp
  obtain ⟨T', X', e', st⟩ := castY X.1 X.2.1.1 (show Z.Warmed39 s.vm from X.2.1.2.2.1) X.2.1.2.2.2.1 w X.2.2.1 I (g := mkF m pc L (.ref a :: S)) rfl rfl (hb X.2.1.2.1 hd)
  exact Goes.step st (K T' (X.later X' e' X.2.2.2.1 X.ext))
theorem o_instY (X : On l Z p e R s m args below meth c y code maxL ret T h locs cells slots) {K' : String} {index q : Nat} {a : Addr} (I : Ins Z h a K' true) (w : (Jvm.Cond.classLink y.cls index K').before a0 Z = true) (hd : decode code pc = .ok (.instanceof index, 3)) (hp : pc + 3 = q)
    (K : ∀ T' : State, On l Z p e R s m args below meth c y code maxL ret T' h locs cells slots → Goes p e below F T' (mkF m q L (.int 1 :: S))) : Goes p e below F T (mkF m pc L (.ref a :: S)) := by
  subst hp
  obtain ⟨T', X', e', st⟩ := instY X.1 X.2.1.1 (show Z.Warmed39 s.vm from X.2.1.2.2.1) X.2.1.2.2.2.1 w X.2.2.1 I (g := mkF m pc L (.ref a :: S)) rfl rfl (hb X.2.1.2.1 hd)
  exact Goes.step st (K T' (X.later X' e' X.2.2.2.1 X.ext))
theorem o_instNo (X : On l Z p e R s m args below meth c y code maxL ret T h locs cells slots) {C K' : String} {index q : Nat} {a : Addr} (E : Exa Z h a C) (N : ∃ c t, Z.vm.findClass C = some c ∧ Z.vm.findClass K' = some t ∧ Z.vm.assignable c t = false) (w : (Jvm.Cond.classLink y.cls index K').before a0 Z = true) (hd : decode code pc = .ok (.instanceof index, 3)) (hp : pc + 3 = q)
    (K : ∀ T' : State, On l Z p e R s m args below meth c y code maxL ret T' h locs cells slots → Goes p e below F T' (mkF m q L (.int 0 :: S))) : Goes p e below F T (mkF m pc L (.ref a :: S)) := by
  subst hp
  obtain ⟨T', X', e', st⟩ := instNo X.1 X.2.1.1 (show Z.Warmed39 s.vm from X.2.1.2.2.1) X.2.1.2.2.2.1 w X.2.2.1 E N (g := mkF m pc L (.ref a :: S)) rfl rfl (hb X.2.1.2.1 hd)
  exact Goes.step st (K T' (X.later X' e' X.2.2.2.1 X.ext))
/-- C's chain of superclasses does not meet the class K, which can be made -/
theorem ns_root {Z : State} {a0 : Array Value} {O K : String} {n : Nat} (w : (Jvm.Cond.noSuperclass O).before a0 Z = true) (wk : (Jvm.Cond.instantiable K n).before a0 Z = true) (hn : O ≠ K) : NS Z O K := by
  obtain ⟨c, k, h1, h2, h3, -, -⟩ := Cond.noSuperclass_spec w
  obtain ⟨t, kt, g1, -⟩ := Cond.instantiable_spec wk
  have ne := ids_ne h1 g1 hn
  refine ⟨c, t, h1, g1, fun fuel => ?_⟩
  cases fuel with
  | zero => rfl
  | succ f => simp [Vm.isSubclassAux, ne, h2, h3]
theorem ns_no {Z : State} {a0 : Array Value} {C S K : String} {n : Nat} (w : (Jvm.Cond.superclass C S).before a0 Z = true) (wk : (Jvm.Cond.instantiable K n).before a0 Z = true) (N : NS Z C K) (hn : C ≠ K) : ∃ c t, Z.vm.findClass C = some c ∧ Z.vm.findClass K = some t ∧ Z.vm.assignable c t = false := by
  obtain ⟨c, t, h0, g0, n3⟩ := N
  obtain ⟨p, k, kp, h1, h2, h3, h4, h5, -, h7⟩ := Cond.superclass_spec h0 w
  obtain ⟨t', kt, g1, g2, g3, g4, -⟩ := Cond.instantiable_spec wk
  cases g0.symm.trans g1
  have ne := ids_ne h0 g0 hn
  have g5 : kt.isInterface = false := by
    cases q : kt.isInterface
    · rfl
    · rw [q] at g4; simp at g4
  refine ⟨c, t, h0, g0, ?_⟩
  show Z.vm.assignableAux (255 + 1) c t = false
  simp [Vm.assignableAux, ne, h2, g2, h5, g3, g5, Vm.isSubclass, n3]
theorem o_ldcM (X : On l Z p e R s m args below meth c y code maxL ret T h locs cells slots) {C : String} {index q : Nat} {mr : Addr} (M : Mir Z C mr) (w : (Jvm.Cond.classLink y.cls index C).before a0 Z = true) (hd : decode code pc = .ok (.ldc index, 2)) (hp : pc + 2 = q)
    (K : ∀ T' : State, On l Z p e R s m args below meth c y code maxL ret T' h locs cells slots → Goes p e below F T' (mkF m q L (.ref mr :: S))) : Goes p e below F T (mkF m pc L S) := by
  subst hp
  obtain ⟨c0, k0, m1, m2, m3, -⟩ := M
  obtain ⟨k', q1, ek⟩ := (show Z.Warmed39 s.vm from X.2.1.2.2.1).alike.2.2 _ _ m2
  have hm : k'.mirror = some mr := by rw [ek]; exact m3
  obtain ⟨vm', X', st⟩ := X.1.ldcMirror X.2.1.1 X.2.1.2.2.2.1 (mvT (s := s) X.2.1.2.2.1 w) (a := mr) (by
    have q2 : s.vm.findClass C = some c0 := by rw [(show Z.Warmed39 s.vm from X.2.1.2.2.1).alike.findClass]; exact m1
    simp only [Term.eval, q2, Option.bind_eq_bind, Option.bind_some, q1, hm, Option.pure_def]) (g := mkF m pc L S) rfl (hb X.2.1.2.1 hd)
  have e' : (T.setVm vm').heap = h := X.2.2.1
  exact Goes.step st (K _ (X.later X' e' X.2.2.2.1 X.ext))
theorem o_gcls (X : On l Z p e R s m args below meth c y code maxL ret T h locs cells slots) {C : String} {index q : Nat} {a mr : Addr} (E : Exa Z h a C) (M : Mir Z C mr) (w1 : (Jvm.Cond.methodLink y.cls index ⟨"java/lang/Object", "getClass", "()Ljava/lang/Class;"⟩).before a0 Z = true) (w2 : (Jvm.Cond.declares ⟨"java/lang/Object", "getClass", "()Ljava/lang/Class;"⟩).before a0 Z = true) (w3 : (Jvm.Cond.noSuperclass "java/lang/Object").before a0 Z = true) (w4 : (Jvm.Cond.selects C ⟨"java/lang/Object", "getClass", "()Ljava/lang/Class;"⟩ ⟨"java/lang/Object", "getClass", "()Ljava/lang/Class;"⟩).before a0 Z = true) (w5 : (Jvm.Cond.instanceMethod ⟨"java/lang/Object", "getClass", "()Ljava/lang/Class;"⟩).before a0 Z = true) (w6 : (Jvm.Cond.native ⟨"java/lang/Object", "getClass", "()Ljava/lang/Class;"⟩).before a0 Z = true)
    (hd : decode code pc = .ok (.invokevirtual index, 3)) (hL : L.size = maxL) (hf : 1 ≤ R.frames) (hl : (S.map fun v => v.category).sum + (nativeFrameWords "java/lang/Object" "getClass" 1 + 11) ≤ R.locals) (hp : pc + 3 = q)
    (K : ∀ T' : State, On l Z p e R s m args below meth c y code maxL ret T' h locs cells slots → Goes p e below F T' (mkF m q L (.ref mr :: S))) : Goes p e below F T (mkF m pc L (.ref a :: S)) := by
  subst hp
  obtain ⟨T', X', e', st⟩ := gcls X.1 X.2.1.1 (show Z.Warmed39 s.vm from X.2.1.2.2.1) X.2.1.2.2.2.1 w1 w2 w3 w4 w5 w6 X.2.2.1 E M (g := mkF m pc L (.ref a :: S)) rfl (hL.trans X.2.1.2.2.2.2.2.2.2.symm) rfl (hb X.2.1.2.1 hd) hf (W := (S.map fun v => v.category).sum) (by show 2 * 0 + _ ≤ _; omega) hl
  exact Goes.step st (K T' (X.later X' e' X.2.2.2.1 X.ext))
theorem o_copy (X : On l Z p e R s m args below meth c y code maxL ret T h locs cells slots) {index q : Nat} {a b : Addr} {k k' : ClassId} {ty ty' : FieldType} {z z' sp dp nn : Int32} {vs vd us vs' : List Value} {dv dd : Value} (A : Arv Z h a k ty z vs dv) (B : Arv Z h b k' ty' z' vd dd) (hty : (ty = ty' ∧ refKind ty = false) ∨ (refKind ty = true ∧ refKind ty' = true ∧ StoL Z h b us)) (hgb : Z.heap.size ≤ b)
    (h1 : ¬ sp < 0) (h2 : ¬ dp < 0) (h3 : ¬ nn < 0) (h4 : sp.toNatClampNeg + nn.toNatClampNeg ≤ z.toNatClampNeg) (h5 : dp.toNatClampNeg + nn.toNatClampNeg ≤ z'.toNatClampNeg) (hus : us = (List.range nn.toNatClampNeg).map fun i => vs.getD (sp.toNatClampNeg + i) dv) (hlv : dp.toNatClampNeg + nn.toNatClampNeg ≤ vd.length) (hvs : vd.take dp.toNatClampNeg ++ us ++ vd.drop (dp.toNatClampNeg + nn.toNatClampNeg) = vs')
    (w1 : (Jvm.Cond.methodLink y.cls index Jvm.Stand.acN).before a0 Z = true) (w2 : (Jvm.Cond.native Jvm.Stand.acN).before a0 Z = true) (w3 : (Jvm.Cond.static Jvm.Stand.acN).before a0 Z = true) (w4 : (Jvm.Cond.initialized "java/lang/System").before a0 Z = true)
    (hd : decode code pc = .ok (.invokestatic index, 3)) (hL : L.size = maxL) (hf : 1 ≤ R.frames) (hl : (S.map fun v => v.category).sum + (nativeFrameWords "java/lang/System" "arraycopy" 5 + 11) ≤ R.locals) (hp : pc + 3 = q)
    (K : ∀ (T' : State) (h' : Heap) (locs' : List Loc), On l Z p e R s m args below meth c y code maxL ret T' h' locs' cells slots → Keep h h' [b] → Arv Z h' b k' ty' z' vs' dd → Goes p e below F T' (mkF m q L S)) : Goes p e below F T (mkF m pc L (.int nn :: .int dp :: .ref b :: .int sp :: .ref a :: S)) := by
  subst hp hvs
  obtain ⟨T', h', Lc, X', e', N', K', A', st⟩ := cpA X.1 X.2.1.1 (show Z.Warmed39 s.vm from X.2.1.2.2.1) X.2.1.2.2.2.1 w1 w2 w3 w4 X.2.2.1 A B hty h1 h2 h3 h4 h5 hus hlv X.2.2.2.1 hgb (g := mkF m pc L (.int nn :: .int dp :: .ref b :: .int sp :: .ref a :: S)) rfl (hL.trans X.2.1.2.2.2.2.2.2.2.symm) rfl (hb X.2.1.2.1 hd) hf (W := (S.map fun v => v.category).sum) (by show 2 * 0 + _ ≤ _; omega) hl
  exact Goes.step st (K T' h' Lc (X.later X' e' N' (ext_keep X.ext K' (allS hgb all0))) K' A')
theorem o_tsw (X : On l Z p e R s m args below meth c y code maxL ret T h locs cells slots) {dflt low high : Int} {offs : Array Int} {len : Nat} {i : Int} {x : Int32} {q : Nat} (hd : decode code pc = .ok (.tableswitch dflt low high offs, len)) (h1 : low ≤ x.toInt) (h2 : x.toInt ≤ high) (hi : offs[(x.toInt - low).toNat]? = some i) (ho : 0 ≤ (pc : Int) + i) (hp : ((pc : Int) + i).toNat = q) (K : Goes p e below F T (mkF m q L S)) : Goes p e below F T (mkF m pc L (.int x :: S)) :=
  Goes.step (fun _ k => Jvm.Free.XS.tswIn X.1.here X.2.1.1 (g := mkF m pc L (.int x :: S)) rfl (pc0 := pc) rfl (hb X.2.1.2.1 hd) rfl (fun q => q.elim (fun r => by omega) (fun r => by omega)) hi ho hp k) K
theorem o_tswD (X : On l Z p e R s m args below meth c y code maxL ret T h locs cells slots) {dflt low high : Int} {offs : Array Int} {len : Nat} {x : Int32} {q : Nat} (hd : decode code pc = .ok (.tableswitch dflt low high offs, len)) (h1 : x.toInt < low ∨ high < x.toInt) (ho : 0 ≤ (pc : Int) + dflt) (hp : ((pc : Int) + dflt).toNat = q) (K : Goes p e below F T (mkF m q L S)) : Goes p e below F T (mkF m pc L (.int x :: S)) :=
  Goes.step (fun _ k => Jvm.Free.XS.tswOut X.1.here X.2.1.1 (g := mkF m pc L (.int x :: S)) rfl (pc0 := pc) rfl (hb X.2.1.2.1 hd) rfl h1 ho hp k) K
theorem o_iface (X : On l Z p e R s m args below meth c y code maxL ret T h locs cells slots) {C : String} {xi y' : MethodName} {index count q : Nat} {bytes : ByteArray} {maxL' : Nat} {ret' : Option FieldType} {rm : Room} {as : Array Value} {Q : Option Value → Heap → Prop} (argsL : List Value) {a : Addr} {rest : List Value} (E : Exa Z h a C) (hC : Con l Z y' bytes maxL' ret' rm as h Q)
    (w1 : (Jvm.Cond.methodLink y.cls index xi).before a0 Z = true) (w2 : (Jvm.Cond.declares xi).before a0 Z = true) (w3 : (Jvm.Cond.interfaceMethod xi.cls xi.cls xi.name xi.desc).before a0 Z = true) (w4 : (Jvm.Cond.selects C xi y').before a0 Z = true) (w5 : (Jvm.Cond.instanceMethod y').before a0 Z = true) (w6 : (Jvm.Cond.publicMethod y').before a0 Z = true) (w7 : (Jvm.Cond.unhidden C xi.name xi.desc).before a0 Z = true) (w8 : (Jvm.Cond.castable C xi.cls).before a0 Z = true) (w9 : (Jvm.Cond.code y' bytes maxL' ret').before a0 Z = true) (w10 : (Jvm.Cond.initialized y'.cls).before a0 Z = true) (hy : xi.cls ≠ "java/lang/invoke/MethodHandle" ∧ xi.cls ≠ "java/lang/invoke/VarHandle")
    (hd : decode code pc = .ok (.invokeinterface index count, 5)) (has : (.ref a :: argsL).toArray = as) (hL : L.size = maxL) (hlen : ∀ sig, parseMethodDescriptor xi.desc = some sig → argsL.length = sig.parameters.length) (hS : S = argsL.reverse ++ .ref a :: rest) (hf : rm.frames + 1 ≤ R.frames) (hl : (rest.map fun v => v.category).sum + (maxL' + 11) + rm.locals ≤ R.locals) (hc : cells + rm.cells ≤ R.cells) (hs : slots + rm.slots ≤ R.slots) (hp : pc + 5 = q)
    (K : ∀ (v : Option Value) (T' : State) (h' : Heap) (locs' : List Loc), On l Z p e R s m args below meth c y code maxL ret T' h' locs' (cells + rm.cells) (slots + rm.slots) → Q v h' → Goes p e below F T' (mkF m q L (v.toList ++ rest))) : Goes p e below F T (mkF m pc L S) := by
  subst hp hS has
  obtain ⟨cB, kB, q1, q2, q3⟩ := isOf (show Z.Warmed39 s.vm from X.2.1.2.2.1) X.2.2.1 E
  obtain ⟨v, vm1, ⟨T', L1, k1, n1⟩, -, X', ⟨Lc, hQ, e2, e3, e4⟩, st⟩ := X.1.interfaceBack X.2.1.1 (xi := xi) (y := y') X.2.1.2.2.2.1 (mvT (s := s) X.2.1.2.2.1 w1) (mvT (s := s) X.2.1.2.2.1 w2) (mvT (s := s) X.2.1.2.2.1 w3 (by simp [Cond.onTables, Cond.keepsFace, Cond.keeps, Cond.steady, Cond.faceAtom]; exact hy)) (mvT (s := s) X.2.1.2.2.1 w4) (mvT (s := s) X.2.1.2.2.1 w5) (mvT (s := s) X.2.1.2.2.1 w6) (mvT (s := s) X.2.1.2.2.1 w7) (mvT (s := s) X.2.1.2.2.1 w8) hy (Con.back X hC w9 w10 hf hl) q1 q2 q3 (g := mkF m pc L (argsL.reverse ++ .ref a :: rest)) rfl (hL.trans X.2.1.2.2.2.2.2.2.2.symm) (Steps.refl _) hlen rfl (by show 2 * 0 + _ ≤ _; omega) (hb X.2.1.2.1 hd) (fun _ _ => ⟨rfl, X.2.2.1, hc, hs⟩)
  dsimp only [Pt.U, Pt.locs, Pt.cells, Pt.slots] at X' hQ e2 e3 e4 st
  subst e2 e3 e4
  exact Goes.step (fun _ k => st.trans k) (K v T' T'.heap _ (X.later X' rfl (Fr.app X.2.2.2.1 hQ.2.1) hQ.2.2) hQ.1)
theorem o_priv (X : On l Z p e R s m args below meth c y code maxL ret T h locs cells slots) {D : String} {y' : MethodName} {index q : Nat} {bytes : ByteArray} {maxL' : Nat} {ret' : Option FieldType} {rm : Room} {as : Array Value} {Q : Option Value → Heap → Prop} (argsL : List Value) {a : Addr} {rest : List Value} (E : Exa Z h a D) (hC : Con l Z y' bytes maxL' ret' rm as h Q)
    (w1 : (Jvm.Cond.methodLink y.cls index y').before a0 Z = true) (w2 : (Jvm.Cond.instanceMethod y').before a0 Z = true) (w3 : (Jvm.Cond.selects y'.cls y' y').before a0 Z = true) (w4 : (Jvm.Cond.privateMethod y').before a0 Z = true) (w5 : (Jvm.Cond.code y' bytes maxL' ret').before a0 Z = true) (w6 : (Jvm.Cond.initialized y'.cls).before a0 Z = true) (hy : y'.cls ≠ "java/lang/invoke/MethodHandle" ∧ y'.cls ≠ "java/lang/invoke/VarHandle")
    (hd : decode code pc = .ok (.invokevirtual index, 3)) (has : (.ref a :: argsL).toArray = as) (hL : L.size = maxL) (hlen : ∀ sig, parseMethodDescriptor y'.desc = some sig → argsL.length = sig.parameters.length) (hS : S = argsL.reverse ++ .ref a :: rest) (hf : rm.frames + 1 ≤ R.frames) (hl : (rest.map fun v => v.category).sum + (maxL' + 11) + rm.locals ≤ R.locals) (hc : cells + rm.cells ≤ R.cells) (hs : slots + rm.slots ≤ R.slots) (hp : pc + 3 = q)
    (K : ∀ (v : Option Value) (T' : State) (h' : Heap) (locs' : List Loc), On l Z p e R s m args below meth c y code maxL ret T' h' locs' (cells + rm.cells) (slots + rm.slots) → Q v h' → Goes p e below F T' (mkF m q L (v.toList ++ rest))) : Goes p e below F T (mkF m pc L S) := by
  subst hp hS has
  obtain ⟨cl, hcl, hst⟩ := E.cell
  obtain ⟨v, vm1, ⟨T', L1, k1, n1⟩, -, X', ⟨Lc, hQ, e2, e3, e4⟩, st⟩ := X.1.privateBack X.2.1.1 (y := y') X.2.1.2.2.2.1 (mvT (s := s) X.2.1.2.2.1 w1) (mvT (s := s) X.2.1.2.2.1 w2) (mvT (s := s) X.2.1.2.2.1 w3) (Cond.privateMethod_at (mvP (show Z.Warmed39 s.vm from X.2.1.2.2.1) w4 (args := #[]))) (mvT (s := s) X.2.1.2.2.1 w5) hy (Con.back X hC w5 w6 hf hl) (g := mkF m pc L (argsL.reverse ++ .ref a :: rest)) rfl (hL.trans X.2.1.2.2.2.2.2.2.2.symm) (Steps.refl _) (a := a) (cell := cl) (by rw [X.2.2.1]; exact hcl) hst hlen rfl (by show 2 * 0 + _ ≤ _; omega) (hb X.2.1.2.1 hd) (fun _ _ => ⟨rfl, X.2.2.1, hc, hs⟩)
  dsimp only [Pt.U, Pt.locs, Pt.cells, Pt.slots] at X' hQ e2 e3 e4 st
  subst e2 e3 e4
  exact Goes.step (fun _ k => st.trans k) (K v T' T'.heap _ (X.later X' rfl (Fr.app X.2.2.2.1 hQ.2.1) hQ.2.2) hQ.1)
theorem o_specN (X : On l Z p e R s m args below meth c y code maxL ret T h locs cells slots) {host : String} {y' : MethodName} {index q : Nat} {bytes : ByteArray} {maxL' : Nat} {rm : Room} {as : Array Value} {Q : Option Value → Heap → Prop} (argsL : List Value) {a : Addr} {rest : List Value} (hC : Con l Z y' bytes maxL' none rm as h Q)
    (hy1 : y'.name = "<init>") (w1 : (Jvm.Cond.methodLinkNest y.cls index y' host).before a0 Z = true) (w2 : (Jvm.Cond.instanceMethod y').before a0 Z = true) (w3 : (Jvm.Cond.code y' bytes maxL' none).before a0 Z = true) (w4 : (Jvm.Cond.initialized y'.cls).before a0 Z = true) (hy : y'.cls ≠ "java/lang/invoke/MethodHandle" ∧ y'.cls ≠ "java/lang/invoke/VarHandle")
    (hd : decode code pc = .ok (.invokespecial index, 3)) (has : (.ref a :: argsL).toArray = as) (hL : L.size = maxL) (hlen : ∀ sig, parseMethodDescriptor y'.desc = some sig → argsL.length = sig.parameters.length) (hS : S = argsL.reverse ++ .ref a :: rest) (hf : rm.frames + 1 ≤ R.frames) (hl : (rest.map fun v => v.category).sum + (maxL' + 11) + rm.locals ≤ R.locals) (hc : cells + rm.cells ≤ R.cells) (hs : slots + rm.slots ≤ R.slots) (hp : pc + 3 = q)
    (K : ∀ (v : Option Value) (T' : State) (h' : Heap) (locs' : List Loc), On l Z p e R s m args below meth c y code maxL ret T' h' locs' (cells + rm.cells) (slots + rm.slots) → Q v h' → Goes p e below F T' (mkF m q L (v.toList ++ rest))) : Goes p e below F T (mkF m pc L S) := by
  subst hp hS has
  obtain ⟨v, vm1, ⟨T', L1, k1, n1⟩, -, X', ⟨Lc, hQ, e2, e3, e4⟩, st⟩ := X.1.specialBackNest X.2.1.1 hy1 X.2.1.2.2.2.1 ((Cond.methodLinkNest_wide (show Z.Warmed39 s.vm from X.2.1.2.2.1) w1 :)) (mvT (s := s) X.2.1.2.2.1 w2) (mvT (s := s) X.2.1.2.2.1 w3) hy (Con.back X hC w3 w4 hf hl) (g := mkF m pc L (argsL.reverse ++ .ref a :: rest)) rfl (hL.trans X.2.1.2.2.2.2.2.2.2.symm) (Steps.refl _) hlen rfl (by show 2 * 0 + _ ≤ _; omega) (hb X.2.1.2.1 hd) (fun _ _ => ⟨rfl, X.2.2.1, hc, hs⟩)
  dsimp only [Pt.U, Pt.locs, Pt.cells, Pt.slots] at X' hQ e2 e3 e4 st
  subst e2 e3 e4
  exact Goes.step (fun _ k => st.trans k) (K v T' T'.heap _ (X.later X' rfl (Fr.app X.2.2.2.1 hQ.2.1) hQ.2.2) hQ.1)
/-- a private method's word for its own class, from the word for a subclass -/
theorem sel_up {Z : State} {a0 : Array Value} {C : String} {y : MethodName} (w1 : (Jvm.Cond.selects C y y).before a0 Z = true) (w2 : (Jvm.Cond.instanceMethod y).before a0 Z = true) (w3 : (Jvm.Cond.privateMethod y).before a0 Z = true) (hy : y.cls ≠ "java/lang/invoke/MethodHandle" ∧ y.cls ≠ "java/lang/invoke/VarHandle") : (Jvm.Cond.selects y.cls y y).before a0 Z = true := by
  obtain ⟨mk, methM, hn, hm, -, -⟩ := Cond.instanceMethod_spec w2
  obtain ⟨c, r, m, q1, q2, q3, q4, kk, q5, q6⟩ := Cond.selects_spec w1
  cases hn.symm.trans q3
  have hf := State.methodFound?_of_named hn hy
  have hc := findClass_of_methodNamed hn
  have hs : selectMethod {} Z.vm mk.cls mk = .method mk := selectMethod_private hm (Cond.privateMethod_at w3 mk methM hn hm)
  simp [Cond.before, Cond.holds, Cond.value, hc, hf, hn, hs, q5, q6]
/-- a method of a class (no interface, by another word) is the one its own class finds -/
theorem same_up {Z : State} {a0 : Array Value} {C : String} {y z : MethodName} (w1 : (Jvm.Cond.selects C z z).before a0 Z = true) (w2 : (Jvm.Cond.instanceMethod y).before a0 Z = true) (hz : z.cls = y.cls) (hy : y.cls ≠ "java/lang/invoke/MethodHandle" ∧ y.cls ≠ "java/lang/invoke/VarHandle") : (Jvm.Cond.sameMethod y.cls y.cls y.name y.desc).before a0 Z = true := by
  obtain ⟨mk, methM, hn, hm, -, -⟩ := Cond.instanceMethod_spec w2
  obtain ⟨c, r, m, q1, q2, q3, q4, kk, q5, q6⟩ := Cond.selects_spec w1
  have hf := State.methodFound?_of_named hn hy
  have hc := findClass_of_methodNamed hn
  have hc2 := findClass_of_methodNamed q3
  rw [hz, hc] at hc2
  have e := Option.some.inj hc2
  rw [← e] at q5
  simp [Cond.before, Cond.holds, Cond.value, hc, hf, show Z.methodNamed? ⟨y.cls, y.name, y.desc⟩ = some mk from hn, q5, q6]
theorem o_super (X : On l Z p e R s m args below meth c y code maxL ret T h locs cells slots) {D : String} {y' : MethodName} {index q : Nat} {bytes : ByteArray} {maxL' : Nat} {ret' : Option FieldType} {rm : Room} {as : Array Value} {Q : Option Value → Heap → Prop} (argsL : List Value) {a : Addr} {rest : List Value} (E : Exa Z h a D) (hC : Con l Z y' bytes maxL' ret' rm as h Q)
    (w1 : (Jvm.Cond.methodLink y.cls index y').before a0 Z = true) (w2 : (Jvm.Cond.sameMethod y'.cls y'.cls y'.name y'.desc).before a0 Z = true) (w3 : (Jvm.Cond.instanceMethod y').before a0 Z = true) (w4 : (Jvm.Cond.superclass y.cls y'.cls).before a0 Z = true) (hn : y'.name ≠ "<init>") (w5 : (Jvm.Cond.code y' bytes maxL' ret').before a0 Z = true) (w6 : (Jvm.Cond.initialized y'.cls).before a0 Z = true)
    (hd : decode code pc = .ok (.invokespecial index, 3)) (has : (.ref a :: argsL).toArray = as) (hL : L.size = maxL) (hlen : ∀ sig, parseMethodDescriptor y'.desc = some sig → argsL.length = sig.parameters.length) (hS : S = argsL.reverse ++ .ref a :: rest) (hf : rm.frames + 1 ≤ R.frames) (hl : (rest.map fun v => v.category).sum + (maxL' + 11) + rm.locals ≤ R.locals) (hc : cells + rm.cells ≤ R.cells) (hs : slots + rm.slots ≤ R.slots) (hp : pc + 3 = q)
    (K : ∀ (v : Option Value) (T' : State) (h' : Heap) (locs' : List Loc), On l Z p e R s m args below meth c y code maxL ret T' h' locs' (cells + rm.cells) (slots + rm.slots) → Q v h' → Goes p e below F T' (mkF m q L (v.toList ++ rest))) : Goes p e below F T (mkF m pc L S) := by
  subst hp hS has
  obtain ⟨v, vm1, ⟨T', L1, k1, n1⟩, -, X', ⟨Lc, hQ, e2, e3, e4⟩, st⟩ := superBack X.1 X.2.1.1 (show Z.Warmed39 s.vm from X.2.1.2.2.1) X.2.1.2.2.2.1 w1 w2 w3 w4 hn (Con.back X hC w5 w6 hf hl) X.2.2.1 (Ins.self E) (g := mkF m pc L (argsL.reverse ++ .ref a :: rest)) rfl (hL.trans X.2.1.2.2.2.2.2.2.2.symm) w5 hlen rfl (by show 2 * 0 + _ ≤ _; omega) (hb X.2.1.2.1 hd) (fun _ _ => ⟨rfl, X.2.2.1, hc, hs⟩)
  dsimp only [Pt.U, Pt.locs, Pt.cells, Pt.slots] at X' hQ e2 e3 e4 st
  subst e2 e3 e4
  exact Goes.step (fun _ k => st.trans k) (K v T' T'.heap _ (X.later X' rfl (Fr.app X.2.2.2.1 hQ.2.1) hQ.2.2) hQ.1)
theorem o_virt2 (X : On l Z p e R s m args below meth c y code maxL ret T h locs cells slots) {C : String} {z' y' : MethodName} {index q : Nat} {bytes : ByteArray} {maxL' : Nat} {ret' : Option FieldType} {rm : Room} {as : Array Value} {Q : Option Value → Heap → Prop} (argsL : List Value) {a : Addr} {rest : List Value} (E : Exa Z h a C) (hC : Con l Z y' bytes maxL' ret' rm as h Q)
    (w1 : (Jvm.Cond.methodLink y.cls index z').before a0 Z = true) (w2 : (Jvm.Cond.declares z').before a0 Z = true) (w3 : (Jvm.Cond.selects C z' y').before a0 Z = true) {D : String} {u : MethodName} (wn : (Jvm.Cond.selects D u u).before a0 Z = true) (hu : u.cls = z'.cls) (w4 : (Jvm.Cond.instanceMethod y').before a0 Z = true) (w5 : (Jvm.Cond.code y' bytes maxL' ret').before a0 Z = true) (w6 : (Jvm.Cond.initialized y'.cls).before a0 Z = true) (hy : z'.cls ≠ "java/lang/invoke/MethodHandle" ∧ z'.cls ≠ "java/lang/invoke/VarHandle")
    (hd : decode code pc = .ok (.invokevirtual index, 3)) (has : (.ref a :: argsL).toArray = as) (hL : L.size = maxL) (hlen : ∀ sig, parseMethodDescriptor z'.desc = some sig → argsL.length = sig.parameters.length) (hS : S = argsL.reverse ++ .ref a :: rest) (hf : rm.frames + 1 ≤ R.frames) (hl : (rest.map fun v => v.category).sum + (maxL' + 11) + rm.locals ≤ R.locals) (hc : cells + rm.cells ≤ R.cells) (hs : slots + rm.slots ≤ R.slots) (hp : pc + 3 = q)
    (K : ∀ (v : Option Value) (T' : State) (h' : Heap) (locs' : List Loc), On l Z p e R s m args below meth c y code maxL ret T' h' locs' (cells + rm.cells) (slots + rm.slots) → Q v h' → Goes p e below F T' (mkF m q L (v.toList ++ rest))) : Goes p e below F T (mkF m pc L S) := by
  subst hp hS has
  obtain ⟨cB, kB, q1, q2, q3⟩ := isOf (show Z.Warmed39 s.vm from X.2.1.2.2.1) X.2.2.1 E
  have hnf : NotFace s z' := by
    intro r0 h0
    obtain ⟨c2, r2, m2, -, -, u3, -, kP, hkP, hkPi⟩ := Cond.selects_spec (mvT (args := #[]) (s := s) X.2.1.2.2.1 wn)
    have e1 := findClass_of_methodNamed h0
    have e2 := findClass_of_methodNamed u3
    rw [hu, e1] at e2
    rw [Option.some.inj e2]
    exact ⟨kP, hkP, hkPi⟩
  obtain ⟨v, vm1, ⟨T', L1, k1, n1⟩, -, X', ⟨Lc, hQ, e2, e3, e4⟩, st⟩ := X.1.virtualBack X.2.1.1 (y := z') (z := y') X.2.1.2.2.2.1 (mvT (s := s) X.2.1.2.2.1 w1) (mvT (s := s) X.2.1.2.2.1 w2) hnf (mvT (s := s) X.2.1.2.2.1 w3) (mvT (s := s) X.2.1.2.2.1 w4) hy (Con.back X hC w5 w6 hf hl) q1 q3 (g := mkF m pc L (argsL.reverse ++ .ref a :: rest)) rfl (hL.trans X.2.1.2.2.2.2.2.2.2.symm) (Steps.refl _) hlen rfl (by show 2 * 0 + _ ≤ _; omega) (hb X.2.1.2.1 hd) (fun _ _ => ⟨rfl, X.2.2.1, hc, hs⟩)
  dsimp only [Pt.U, Pt.locs, Pt.cells, Pt.slots] at X' hQ e2 e3 e4 st
  subst e2 e3 e4
  exact Goes.step (fun _ k => st.trans k) (K v T' T'.heap _ (X.later X' rfl (Fr.app X.2.2.2.1 hQ.2.1) hQ.2.2) hQ.1)
theorem o_virtUp (X : On l Z p e R s m args below meth c y code maxL ret T h locs cells slots) {C owner : String} {z' y' : MethodName} {index q : Nat} {bytes : ByteArray} {maxL' : Nat} {ret' : Option FieldType} {rm : Room} {as : Array Value} {Q : Option Value → Heap → Prop} (argsL : List Value) {a : Addr} {rest : List Value} (E : Exa Z h a C) (hC : Con l Z y' bytes maxL' ret' rm as h Q)
    (w1 : (Jvm.Cond.methodLink y.cls index z').before a0 Z = true) (w2 : (Jvm.Cond.sameMethod z'.cls owner z'.name z'.desc).before a0 Z = true) (w3 : (Jvm.Cond.declares ⟨owner, z'.name, z'.desc⟩).before a0 Z = true) (ho : owner ≠ "java/lang/invoke/MethodHandle" ∧ owner ≠ "java/lang/invoke/VarHandle") (w4 : (Jvm.Cond.selects C z' y').before a0 Z = true) (w5 : (Jvm.Cond.instanceMethod y').before a0 Z = true) (w6 : (Jvm.Cond.code y' bytes maxL' ret').before a0 Z = true) (w7 : (Jvm.Cond.initialized y'.cls).before a0 Z = true) (hy : z'.cls ≠ "java/lang/invoke/MethodHandle" ∧ z'.cls ≠ "java/lang/invoke/VarHandle")
    (hd : decode code pc = .ok (.invokevirtual index, 3)) (has : (.ref a :: argsL).toArray = as) (hL : L.size = maxL) (hlen : ∀ sig, parseMethodDescriptor z'.desc = some sig → argsL.length = sig.parameters.length) (hS : S = argsL.reverse ++ .ref a :: rest) (hf : rm.frames + 1 ≤ R.frames) (hl : (rest.map fun v => v.category).sum + (maxL' + 11) + rm.locals ≤ R.locals) (hc : cells + rm.cells ≤ R.cells) (hs : slots + rm.slots ≤ R.slots) (hp : pc + 3 = q)
    (K : ∀ (v : Option Value) (T' : State) (h' : Heap) (locs' : List Loc), On l Z p e R s m args below meth c y code maxL ret T' h' locs' (cells + rm.cells) (slots + rm.slots) → Q v h' → Goes p e below F T' (mkF m q L (v.toList ++ rest))) : Goes p e below F T (mkF m pc L S) := by
  subst hp hS has
  obtain ⟨cB, kB, q1, q2, q3⟩ := isOf (show Z.Warmed39 s.vm from X.2.1.2.2.1) X.2.2.1 E
  obtain ⟨v, vm1, ⟨T', L1, k1, n1⟩, -, X', ⟨Lc, hQ, e2, e3, e4⟩, st⟩ := X.1.virtualBackUp X.2.1.1 (x := z') (y := y') X.2.1.2.2.2.1 (mvT (s := s) X.2.1.2.2.1 w1) (mv (show Z.Warmed39 s.vm from X.2.1.2.2.1) w2) (mvT (s := s) X.2.1.2.2.1 w3) ho (mvT (s := s) X.2.1.2.2.1 w4) (mvT (s := s) X.2.1.2.2.1 w5) (Con.back X hC w6 w7 hf hl) q1 q3 (g := mkF m pc L (argsL.reverse ++ .ref a :: rest)) rfl (hL.trans X.2.1.2.2.2.2.2.2.2.symm) (Steps.refl _) hlen rfl (by show 2 * 0 + _ ≤ _; omega) (hb X.2.1.2.1 hd) (fun _ _ => ⟨rfl, X.2.2.1, hc, hs⟩)
  dsimp only [Pt.U, Pt.locs, Pt.cells, Pt.slots] at X' hQ e2 e3 e4 st
  subst e2 e3 e4
  exact Goes.step (fun _ k => st.trans k) (K v T' T'.heap _ (X.later X' rfl (Fr.app X.2.2.2.1 hQ.2.1) hQ.2.2) hQ.1)
theorem o_instNull (X : On l Z p e R s m args below meth c y code maxL ret T h locs cells slots) {index q : Nat} (hd : decode code pc = .ok (.instanceof index, 3)) (hp : pc + 3 = q) (K : Goes p e below F T (mkF m q L (.int 0 :: S))) : Goes p e below F T (mkF m pc L (.null :: S)) := by
  subst hp
  exact Goes.step (fun _ k => X.1.instanceofNull X.2.1.1 (g := mkF m pc L (.null :: S)) rfl (rest := S) rfl (hb X.2.1.2.1 hd) _ k) K
end OwnCol
end Jvm.Pilot.@@N@@

namespace Jvm.Pilot.@@N@@
open Jvm Jvm.ClassFile Sem Op Lib Jvm.Free Jvm.Stand Jvm.LawKit Jvm.RoadKit Bundle Jvm.Pilot.@@N@@.Jvm.D
section OwnDbl
variable {l : Launch} {Z : State} {p : Program} {e : Env} {R : Room} {s : State} {m : MethodId} {args : Array Value} {below : List Frame} {meth : Method} {c : Code} {y : MethodName} {code : ByteArray} {maxL : Nat} {ret : Option FieldType} {T : State} {h : Heap} {locs : List Loc} {cells slots : Nat} {F : State → Outcome → Prop} {pc : Nat} {L L' : Array Slot} {S : List Value} {a0 : Array Value}
theorem o_dload (X : On l Z p e R s m args below meth c y code maxL ret T h locs cells slots) {k : Nat} {v : UInt64} {q : Nat} (hd : decode code pc = .ok (.dload k, 2)) (hl : L[k]? = some (.val (.double v))) (hp : pc + 2 = q) (K : Goes p e below F T (mkF m q L (.double v :: S))) : Goes p e below F T (mkF m pc L S) := by
  subst hp
  exact Goes.step (fun _ k => XS.dload X.1.here X.2.1.1 (g := mkF m pc L S) rfl (hb X.2.1.2.1 hd) hl k) K
theorem o_dloadN (X : On l Z p e R s m args below meth c y code maxL ret T h locs cells slots) {k : Fin 4} {v : UInt64} {q : Nat} (hd : decode code pc = .ok (.dload_n k, 1)) (hl : L[k.val]? = some (.val (.double v))) (hp : pc + 1 = q) (K : Goes p e below F T (mkF m q L (.double v :: S))) : Goes p e below F T (mkF m pc L S) := by
  subst hp
  exact Goes.step (fun _ k => XS.dloadN X.1.here X.2.1.1 (g := mkF m pc L S) rfl (hb X.2.1.2.1 hd) hl k) K
theorem o_dstore (X : On l Z p e R s m args below meth c y code maxL ret T h locs cells slots) {k : Nat} {x z : UInt64} {q : Nat} (hd : decode code pc = .ok (.dstore k, 2)) (hz : x = z) (hl : storeLocals L k (.double z) = some L') (hp : pc + 2 = q) (K : Goes p e below F T (mkF m q L' S)) : Goes p e below F T (mkF m pc L (.double x :: S)) := by
  subst hz hp
  exact Goes.step (fun _ k => XS.dstore X.1.here X.2.1.1 (g := mkF m pc L (.double x :: S)) rfl (hb X.2.1.2.1 hd) rfl hl k) K
theorem o_dstoreN (X : On l Z p e R s m args below meth c y code maxL ret T h locs cells slots) {k : Fin 4} {x z : UInt64} {q : Nat} (hd : decode code pc = .ok (.dstore_n k, 1)) (hz : x = z) (hl : storeLocals L k.val (.double z) = some L') (hp : pc + 1 = q) (K : Goes p e below F T (mkF m q L' S)) : Goes p e below F T (mkF m pc L (.double x :: S)) := by
  subst hz hp
  exact Goes.step (fun _ k => XS.dstoreN X.1.here X.2.1.1 (g := mkF m pc L (.double x :: S)) rfl (hb X.2.1.2.1 hd) rfl hl k) K
theorem o_dconst0 (X : On l Z p e R s m args below meth c y code maxL ret T h locs cells slots)  {q : Nat} (hd : decode code pc = .ok (.dconst 0, 1))  (hp : pc + 1 = q) (K : Goes p e below F T (mkF m q L (.double FP.dconst0 :: S))) : Goes p e below F T (mkF m pc L S) := by
  subst hp
  exact Goes.step (fun _ k => XS.dconst0 X.1.here X.2.1.1 (g := mkF m pc L S) rfl (hb X.2.1.2.1 hd) rfl k) K
theorem o_dconst1 (X : On l Z p e R s m args below meth c y code maxL ret T h locs cells slots)  {q : Nat} (hd : decode code pc = .ok (.dconst 1, 1))  (hp : pc + 1 = q) (K : Goes p e below F T (mkF m q L (.double FP.dconst1 :: S))) : Goes p e below F T (mkF m pc L S) := by
  subst hp
  exact Goes.step (fun _ k => XS.dconst1 X.1.here X.2.1.1 (g := mkF m pc L S) rfl (hb X.2.1.2.1 hd) rfl k) K
theorem o_i2d (X : On l Z p e R s m args below meth c y code maxL ret T h locs cells slots) {x : Int32} {w : UInt64} {q : Nat} (hd : decode code pc = .ok (.i2d, 1)) (hw : FP.i2d x = w) (hp : pc + 1 = q) (K : Goes p e below F T (mkF m q L (.double w :: S))) : Goes p e below F T (mkF m pc L (.int x :: S)) := by
  subst hw hp
  exact Goes.step (fun _ k => XS.i2dS X.1.here X.2.1.1 (g := mkF m pc L (.int x :: S)) rfl (hb X.2.1.2.1 hd) rfl rfl k) K
theorem o_l2d (X : On l Z p e R s m args below meth c y code maxL ret T h locs cells slots) {x : Int64} {w : UInt64} {q : Nat} (hd : decode code pc = .ok (.l2d, 1)) (hw : FP.l2d x = w) (hp : pc + 1 = q) (K : Goes p e below F T (mkF m q L (.double w :: S))) : Goes p e below F T (mkF m pc L (.long x :: S)) := by
  subst hw hp
  exact Goes.step (fun _ k => XS.l2dS X.1.here X.2.1.1 (g := mkF m pc L (.long x :: S)) rfl (hb X.2.1.2.1 hd) rfl rfl k) K
theorem o_dneg (X : On l Z p e R s m args below meth c y code maxL ret T h locs cells slots) {x w : UInt64} {q : Nat} (hd : decode code pc = .ok (.dneg, 1)) (hw : FP.dneg x = w) (hp : pc + 1 = q) (K : Goes p e below F T (mkF m q L (.double w :: S))) : Goes p e below F T (mkF m pc L (.double x :: S)) := by
  subst hw hp
  exact Goes.step (fun _ k => XS.dnegS X.1.here X.2.1.1 (g := mkF m pc L (.double x :: S)) rfl (hb X.2.1.2.1 hd) rfl rfl k) K
theorem o_dcmp (X : On l Z p e R s m args below meth c y code maxL ret T h locs cells slots) {k : CmpOp} {x z : UInt64} {w : Int32} {q : Nat} (hd : decode code pc = .ok (.dcmp k, 1)) (hw : cmpValue (FP.dcmp x z) k = w) (hp : pc + 1 = q) (K : Goes p e below F T (mkF m q L (.int w :: S))) : Goes p e below F T (mkF m pc L (.double z :: .double x :: S)) := by
  subst hw hp
  exact Goes.step (fun _ k => XS.dcmpS X.1.here X.2.1.1 (g := mkF m pc L (.double z :: .double x :: S)) rfl (hb X.2.1.2.1 hd) rfl rfl k) K
theorem o_dadd (X : On l Z p e R s m args below meth c y code maxL ret T h locs cells slots) {x z w : UInt64} {q : Nat} (hd : decode code pc = .ok (.dadd, 1)) (hn : Jvm.Free.Fl.NoNaN64 (FP.dadd x z)) (hw : FP.dadd x z = w) (hp : pc + 1 = q) (K : Goes p e below F T (mkF m q L (.double w :: S))) : Goes p e below F T (mkF m pc L (.double z :: .double x :: S)) := by
  subst hw hp
  exact Goes.step (fun _ k => XS.daddS X.1.here X.2.1.1 (g := mkF m pc L (.double z :: .double x :: S)) rfl (hb X.2.1.2.1 hd) rfl hn rfl k) K
theorem o_dsub (X : On l Z p e R s m args below meth c y code maxL ret T h locs cells slots) {x z w : UInt64} {q : Nat} (hd : decode code pc = .ok (.dsub, 1)) (hn : Jvm.Free.Fl.NoNaN64 (FP.dsub x z)) (hw : FP.dsub x z = w) (hp : pc + 1 = q) (K : Goes p e below F T (mkF m q L (.double w :: S))) : Goes p e below F T (mkF m pc L (.double z :: .double x :: S)) := by
  subst hw hp
  exact Goes.step (fun _ k => XS.dsubS X.1.here X.2.1.1 (g := mkF m pc L (.double z :: .double x :: S)) rfl (hb X.2.1.2.1 hd) rfl hn rfl k) K
theorem o_dmul (X : On l Z p e R s m args below meth c y code maxL ret T h locs cells slots) {x z w : UInt64} {q : Nat} (hd : decode code pc = .ok (.dmul, 1)) (hn : Jvm.Free.Fl.NoNaN64 (FP.dmul x z)) (hw : FP.dmul x z = w) (hp : pc + 1 = q) (K : Goes p e below F T (mkF m q L (.double w :: S))) : Goes p e below F T (mkF m pc L (.double z :: .double x :: S)) := by
  subst hw hp
  exact Goes.step (fun _ k => XS.dmulS X.1.here X.2.1.1 (g := mkF m pc L (.double z :: .double x :: S)) rfl (hb X.2.1.2.1 hd) rfl hn rfl k) K
theorem o_ddiv (X : On l Z p e R s m args below meth c y code maxL ret T h locs cells slots) {x z w : UInt64} {q : Nat} (hd : decode code pc = .ok (.ddiv, 1)) (hn : Jvm.Free.Fl.NoNaN64 (FP.ddiv x z)) (hw : FP.ddiv x z = w) (hp : pc + 1 = q) (K : Goes p e below F T (mkF m q L (.double w :: S))) : Goes p e below F T (mkF m pc L (.double z :: .double x :: S)) := by
  subst hw hp
  exact Goes.step (fun _ k => XS.ddivS X.1.here X.2.1.1 (g := mkF m pc L (.double z :: .double x :: S)) rfl (hb X.2.1.2.1 hd) rfl hn rfl k) K
theorem o_ldcD (X : On l Z p e R s m args below meth c y code maxL ret T h locs cells slots) {index : Nat} {v : UInt64} {q : Nat} (w : (Jvm.Cond.constantDouble y.cls index v).before a0 Z = true) (hd : decode code pc = .ok (.ldc2_w index, 3)) (hp : pc + 3 = q) (K : Goes p e below F T (mkF m q L (.double v :: S))) : Goes p e below F T (mkF m pc L S) := by
  subst hp
  exact Goes.step (X.1.ldc2DoubleC X.2.1.1 X.2.1.2.2.2.1 (mvT (s := s) X.2.1.2.2.1 w) (g := mkF m pc L S) rfl (hb X.2.1.2.1 hd)) K
theorem o_lsw (X : On l Z p e R s m args below meth c y code maxL ret T h locs cells slots) {dflt : Int} {ps : Array (Int × Int)} {len : Nat} {a i : Int} {x : Int32} {q : Nat} (hd : decode code pc = .ok (.lookupswitch dflt ps, len)) (hso : (ps.toList.zip (ps.toList.drop 1)).all (fun (a, next) => a.1 < next.1) = true) (hi : ps.find? (·.1 == x.toInt) = some (a, i)) (ho : 0 ≤ (pc : Int) + i) (hp : ((pc : Int) + i).toNat = q) (K : Goes p e below F T (mkF m q L S)) : Goes p e below F T (mkF m pc L (.int x :: S)) := by
  subst hp
  exact Goes.step (X.1.lookupswitchHit X.2.1.1 (g := mkF m pc L (.int x :: S)) rfl rfl (hb X.2.1.2.1 hd) hso hi ho) K
theorem o_retD (X : On l Z p e R s m args below meth c y code maxL (some .double) T h locs cells slots) {Q : Option Value → Heap → Prop} {rc rs : Nat} {z : UInt64} (hd : decode code pc = .ok (.dreturn, 1)) (hQ : Q (some (.double z)) h) (hc : cells ≤ rc) (hs : slots ≤ rs) : Goes p e below (FinQ Z s Q rc rs) T (mkF m pc L (.double z :: S)) := by
  obtain ⟨X1, C1, e1, N1, E1⟩ := X
  obtain ⟨fs, hr, hrun, hended, hW, hsame⟩ := X1.leave (v := some (.double z)) (fun h => by rw [C1.2.2.2.2.1] at h; cases h) C1.2.2.2.2.2.1
  refine ⟨_, _, retOut X1 C1.1 C1.2.2.2.2.1 rfl (Or.inr (Or.inr (Or.inl ⟨rfl, rfl, z, rfl⟩))) (hb C1.2.1 hd) hr, hrun, hended, _, _, rfl, ⟨?_, N1, ?_⟩, ⟨_, rfl⟩, hW, hsame.mono hc hs⟩
  · show Q _ T.heap
    rw [e1]; exact hQ
  · show Ext Z.heap T.heap
    rw [e1]; exact E1
theorem o_absD (X : On l Z p e R s m args below meth c y code maxL ret T h locs cells slots) {index : Nat} {x w : UInt64} {q : Nat} (w1 : (Jvm.Cond.methodLink y.cls index Jvm.Free.Fl.Abs.absDN).before a0 Z = true) (w2 : (Jvm.Cond.static Jvm.Free.Fl.Abs.absDN).before a0 Z = true) (w3 : (Jvm.Cond.initialized "java/lang/Math").before a0 Z = true) (w4 : (Jvm.Cond.code Jvm.Free.Fl.Abs.absDN Jvm.Free.Fl.Abs.absDCode 2 (some .double)).before a0 Z = true) (hx1 : Jvm.Free.Fl.NoNaN64 x) (hw : (x &&& 0x7fffffffffffffff) = w)
    (hd : decode code pc = .ok (.invokestatic index, 3)) (hL : L.size = maxL) (hf : 1 ≤ R.frames) (hl : (S.map fun v => v.category).sum + 13 ≤ R.locals) (hc : cells ≤ R.cells) (hs : slots ≤ R.slots) (hp : pc + 3 = q) (K : ∀ T' : State, On l Z p e R s m args below meth c y code maxL ret T' h locs cells slots → Goes p e below F T' (mkF m q L (.double w :: S))) : Goes p e below F T (mkF m pc L (.double x :: S)) := by
  subst hp
  obtain ⟨T', X', e', st⟩ := natS X.1 X.2.1.1 (show Z.Warmed39 s.vm from X.2.1.2.2.1) X.2.1.2.2.2.1 w1 w2 w3 w4 (by decide) X.2.2.1 (W := (S.map fun v => v.category).sum) (fun hcode => Jvm.Free.Fl.Abs.absD_pays (sargs := args) x hcode hf hl) (g := mkF m pc L (.double x :: S)) rfl (hL.trans X.2.1.2.2.2.2.2.2.2.symm) (argsL := [.double x]) (rest := S) (lenOf (by decide +kernel : parseMethodDescriptor "(D)D" = some ⟨[.double], some .double⟩) rfl) rfl (by show 2 * 0 + _ ≤ _; omega) (hb X.2.1.2.1 hd) hc hs ⟨rfl, hx1⟩ (congrArg Value.double hw)
  exact Goes.step st (K T' (X.later X' e' X.2.2.2.1 X.ext))
theorem o_maxD (X : On l Z p e R s m args below meth c y code maxL ret T h locs cells slots) {index : Nat} {x z w : UInt64} {q : Nat} (w1 : (Jvm.Cond.methodLink y.cls index Jvm.Free.Fl.Abs.maxDN).before a0 Z = true) (w2 : (Jvm.Cond.static Jvm.Free.Fl.Abs.maxDN).before a0 Z = true) (w3 : (Jvm.Cond.initialized "java/lang/Math").before a0 Z = true) (w4 : (Jvm.Cond.code Jvm.Free.Fl.Abs.maxDN Jvm.Free.Fl.Abs.maxDCode 4 (some .double)).before a0 Z = true) (hx1 : Jvm.Free.Fl.NoNaN64 x) (hx2 : Jvm.Free.Fl.NoNaN64 z) (hw : (Jvm.Native.java_lang_Math.nans.pick64 true x z) = w)
    (hd : decode code pc = .ok (.invokestatic index, 3)) (hL : L.size = maxL) (hf : 1 ≤ R.frames) (hl : (S.map fun v => v.category).sum + 15 ≤ R.locals) (hc : cells ≤ R.cells) (hs : slots ≤ R.slots) (hp : pc + 3 = q) (K : ∀ T' : State, On l Z p e R s m args below meth c y code maxL ret T' h locs cells slots → Goes p e below F T' (mkF m q L (.double w :: S))) : Goes p e below F T (mkF m pc L (.double z :: .double x :: S)) := by
  subst hp
  obtain ⟨T', X', e', st⟩ := natS X.1 X.2.1.1 (show Z.Warmed39 s.vm from X.2.1.2.2.1) X.2.1.2.2.2.1 w1 w2 w3 w4 (by decide) X.2.2.1 (W := (S.map fun v => v.category).sum) (fun hcode => Jvm.Free.Fl.Abs.maxD_pays (sargs := args) x z hcode hf hl) (g := mkF m pc L (.double z :: .double x :: S)) rfl (hL.trans X.2.1.2.2.2.2.2.2.2.symm) (argsL := [.double x, .double z]) (rest := S) (lenOf (by decide +kernel : parseMethodDescriptor "(DD)D" = some ⟨[.double, .double], some .double⟩) rfl) rfl (by show 2 * 0 + _ ≤ _; omega) (hb X.2.1.2.1 hd) hc hs ⟨rfl, hx1, hx2⟩ (congrArg Value.double hw)
  exact Goes.step st (K T' (X.later X' e' X.2.2.2.1 X.ext))
theorem o_minD (X : On l Z p e R s m args below meth c y code maxL ret T h locs cells slots) {index : Nat} {x z w : UInt64} {q : Nat} (w1 : (Jvm.Cond.methodLink y.cls index Jvm.Free.Fl.Abs.minDN).before a0 Z = true) (w2 : (Jvm.Cond.static Jvm.Free.Fl.Abs.minDN).before a0 Z = true) (w3 : (Jvm.Cond.initialized "java/lang/Math").before a0 Z = true) (w4 : (Jvm.Cond.code Jvm.Free.Fl.Abs.minDN Jvm.Free.Fl.Abs.minDCode 4 (some .double)).before a0 Z = true) (hx1 : Jvm.Free.Fl.NoNaN64 x) (hx2 : Jvm.Free.Fl.NoNaN64 z) (hw : (Jvm.Native.java_lang_Math.nans.pick64 false x z) = w)
    (hd : decode code pc = .ok (.invokestatic index, 3)) (hL : L.size = maxL) (hf : 1 ≤ R.frames) (hl : (S.map fun v => v.category).sum + 15 ≤ R.locals) (hc : cells ≤ R.cells) (hs : slots ≤ R.slots) (hp : pc + 3 = q) (K : ∀ T' : State, On l Z p e R s m args below meth c y code maxL ret T' h locs cells slots → Goes p e below F T' (mkF m q L (.double w :: S))) : Goes p e below F T (mkF m pc L (.double z :: .double x :: S)) := by
  subst hp
  obtain ⟨T', X', e', st⟩ := natS X.1 X.2.1.1 (show Z.Warmed39 s.vm from X.2.1.2.2.1) X.2.1.2.2.2.1 w1 w2 w3 w4 (by decide) X.2.2.1 (W := (S.map fun v => v.category).sum) (fun hcode => Jvm.Free.Fl.Abs.minD_pays (sargs := args) x z hcode hf hl) (g := mkF m pc L (.double z :: .double x :: S)) rfl (hL.trans X.2.1.2.2.2.2.2.2.2.symm) (argsL := [.double x, .double z]) (rest := S) (lenOf (by decide +kernel : parseMethodDescriptor "(DD)D" = some ⟨[.double, .double], some .double⟩) rfl) rfl (by show 2 * 0 + _ ≤ _; omega) (hb X.2.1.2.1 hd) hc hs ⟨rfl, hx1, hx2⟩ (congrArg Value.double hw)
  exact Goes.step st (K T' (X.later X' e' X.2.2.2.1 X.ext))
theorem o_rawL (X : On l Z p e R s m args below meth c y code maxL ret T h locs cells slots) {index q : Nat} {x : UInt64} (w1 : (Jvm.Cond.methodLink y.cls index Jvm.doubleToRawLongBitsName).before a0 Z = true) (w2 : (Jvm.Cond.native Jvm.doubleToRawLongBitsName).before a0 Z = true) (w3 : (Jvm.Cond.static Jvm.doubleToRawLongBitsName).before a0 Z = true) (w4 : (Jvm.Cond.initialized "java/lang/Double").before a0 Z = true)
    (hd : decode code pc = .ok (.invokestatic index, 3)) (hL : L.size = maxL) (hf : 1 ≤ R.frames) (hl : (S.map fun v => v.category).sum + (nativeFrameWords "java/lang/Double" "doubleToRawLongBits" 2 + 11) ≤ R.locals) (hp : pc + 3 = q) (K : ∀ T' : State, On l Z p e R s m args below meth c y code maxL ret T' h locs cells slots → Goes p e below F T' (mkF m q L (.long x.toInt64 :: S))) : Goes p e below F T (mkF m pc L (.double x :: S)) := by
  subst hp
  obtain ⟨vm', X', st⟩ := X.1.doubleToRawLongBits X.2.1.1 X.2.1.2.2.2.1 (mvT (s := s) X.2.1.2.2.1 w1) (mvT (s := s) X.2.1.2.2.1 w2) (mvT (s := s) X.2.1.2.2.1 w3) (mvT (s := s) X.2.1.2.2.1 w4) (g := mkF m pc L (.double x :: S)) rfl (hL.trans X.2.1.2.2.2.2.2.2.2.symm) (rest := S) rfl (hb X.2.1.2.1 hd) hf (by show 2 * 0 + _ + _ ≤ _; omega)
  have e' : (T.setVm vm').heap = h := X.2.2.1
  exact Goes.step st (K _ (X.later X' e' X.2.2.2.1 X.ext))
end OwnDbl
end Jvm.Pilot.@@N@@
namespace Jvm.Pilot.@@N@@
section OwnFp
open Jvm.FP.Core
/-- two to a whole power -/
theorem tw_pos (q : Int) : (0 : Rat) < (2 : Rat) ^ q := Rat.zpow_pos (by decide)
theorem tw_ne (q : Int) : (2 : Rat) ^ q ≠ 0 := fun h => by have := tw_pos q; rw [h] at this; exact absurd this (by decide)
theorem tw_add (a b : Int) : (2 : Rat) ^ (a + b) = (2 : Rat) ^ a * (2 : Rat) ^ b := Rat.zpow_add (by decide) a b
theorem tw_nat (k : Nat) : (2 : Rat) ^ (k : Int) = ((2 ^ k : Nat) : Rat) := by rw [Rat.zpow_natCast, Rat.natCast_pow]; rfl
theorem tw_sub {a b : Int} (h : b ≤ a) : ((2 ^ (a - b).toNat : Nat) : Rat) * (2 : Rat) ^ b = (2 : Rat) ^ a := by
  rw [← tw_nat, ← tw_add]
  congr 1
  omega
theorem inU (c : Nat) {q e0 : Int} (h : e0 ≤ q) : ((inUnits c q e0 : Nat) : Rat) * (2 : Rat) ^ e0 = (c : Rat) * (2 : Rat) ^ q := by
  unfold inUnits
  rw [Rat.natCast_mul, Rat.mul_assoc, tw_sub h]
theorem mulR {a b : Rat} (q : Int) (h : a * (2 : Rat) ^ q = b * (2 : Rat) ^ q) : a = b := by
  have := tw_ne q
  grind
/-- rounding: the exact value c * 2^q, of 53 digits at the most, is kept -/
theorem rr_exact {s : Bool} {A B c : Nat} {e q : Int} (hB : 0 < B) (hc : c < 2 ^ 53) (hq : -1074 ≤ q) (hq2 : q ≤ 960) (hv : (A : Rat) * (2 : Rat) ^ e = (c : Rat) * (2 : Rat) ^ q * (B : Rat)) :
    ∃ (c' : Nat) (q' : Int), roundRatio b64 s A B e = .fin s c' q' ∧ (c' : Rat) * (2 : Rat) ^ q' = (c : Rat) * (2 : Rat) ^ q := by
  have hqm : b64.qmin = -1074 := by decide
  have hqx : b64.qmax = 971 := by decide
  obtain ⟨e0, h1, h2, h3⟩ : ∃ e0 : Int, e0 < -1074 ∧ e0 ≤ e ∧ e0 ≤ q := ⟨min (min (-1075) e) q, by omega, by omega, by omega⟩
  -- in units of 2^e0
  have eq : inUnits A e e0 = inUnits c q e0 * B := by
    have a1 := inU A h2
    have a2 := inU c h3
    have : ((inUnits A e e0 : Nat) : Rat) = ((inUnits c q e0 * B : Nat) : Rat) := by
      apply mulR e0
      rw [Rat.natCast_mul]
      grind
    exact Rat.natCast_inj.mp this
  have hd0 : distance A B e c q e0 = 0 := by
    unfold distance
    rw [eq]
    simp
  cases hr : roundRatio b64 s A B e with
  | nan =>
    exfalso
    unfold roundRatio at hr
    split at hr
    · cases hr
    · unfold roundAt settle bound at hr
      split at hr <;> split at hr <;> cases hr
  | inf t =>
    exfalso
    have ht : t = s := by
      unfold roundRatio at hr
      split at hr
      · cases hr
      · unfold roundAt settle bound at hr
        split at hr <;> split at hr <;> cases hr <;> rfl
    subst ht
    have := (roundRatio_inf good_b64 (s := t) (A := A) (B := B) (e := e) (e0 := e0) hB (by omega) h2).mp hr
    rw [eq, hqx] at this
    have p53 : b64.p = 53 := rfl
    rw [p53] at this
    have k1 : (2 ^ (53 + 1) - 1) * 2 ^ ((971 : Int) - 1 - e0).toNat ≤ inUnits c q e0 := Nat.le_of_mul_le_mul_right this hB
    have k2 : inUnits c q e0 < 2 ^ 53 * 2 ^ ((971 : Int) - 1 - e0).toNat := by
      unfold inUnits
      exact Nat.lt_of_lt_of_le (Nat.mul_lt_mul_of_pos_right hc (Nat.two_pow_pos _)) (Nat.mul_le_mul_left _ (Nat.pow_le_pow_right (by decide) (by omega)))
    have k3 : 2 ^ 53 * 2 ^ ((971 : Int) - 1 - e0).toNat ≤ (2 ^ (53 + 1) - 1) * 2 ^ ((971 : Int) - 1 - e0).toNat := Nat.mul_le_mul_right _ (by decide)
    omega
  | fin t c' q' =>
    have n1 := roundRatio_nearest good_b64 (e0 := e0) hB hr (c' := c) (q' := q) hc (by omega) (by omega) h2
    rw [hd0] at n1
    have n2 : distance A B e c' q' e0 = 0 := Nat.le_zero.mp n1
    have hf := roundRatio_fits good_b64 s A hB e
    rw [hr] at hf
    have hq'0 : e0 ≤ q' := by have := hf.2.1; omega
    have ht : t = s := by
      unfold roundRatio at hr
      split at hr
      · cases hr; rfl
      · unfold roundAt settle bound at hr
        split at hr <;> split at hr <;> cases hr <;> rfl
    subst ht
    refine ⟨c', q', rfl, ?_⟩
    unfold distance at n2
    have n3 := Int.natAbs_eq_zero.mp n2
    have n4 : inUnits c q e0 * B = inUnits c' q' e0 * B := by rw [← eq]; omega
    have n5 := Nat.eq_of_mul_eq_mul_right hB n4
    rw [← inU c' hq'0, ← inU c h3, n5]
/-- the double w is finite, and its value is r -/
def IsV (w : UInt64) (r : Rat) : Prop := ∃ s c q, val64 w = .fin s c q ∧ ((signed s c : Int) : Rat) * (2 : Rat) ^ q = r
theorem sgn_cast (s : Bool) (c : Nat) : ((signed s c : Int) : Rat) = if s then -(c : Rat) else (c : Rat) := by
  cases s <;> simp [signed, Rat.intCast_natCast, Rat.intCast_neg]
/-- a value that a double holds: n * 2^q, n of 53 digits at the most -/
def Rep (r : Rat) : Prop := ∃ (n : Int) (q : Int), n.natAbs < 2 ^ 53 ∧ -1074 ≤ q ∧ q ≤ 960 ∧ (n : Rat) * (2 : Rat) ^ q = r
theorem natAbs_cast (n : Int) : ((n.natAbs : Nat) : Rat) = if n < 0 then -(n : Rat) else (n : Rat) := by
  by_cases h : n < 0
  · rw [if_pos h, ← Rat.intCast_natCast, ← Rat.intCast_neg]; congr 1; omega
  · rw [if_neg h, ← Rat.intCast_natCast]; congr 1; omega
/-- rounding keeps a value that a double holds; m its magnitude -/
theorem rr_rep {s : Bool} {A B : Nat} {e : Int} {r : Rat} (hB : 0 < B) (hr : Rep r) (hv : (if s then -((A : Rat) * (2 : Rat) ^ e) else (A : Rat) * (2 : Rat) ^ e) = r * (B : Rat)) :
    ∃ (c : Nat) (q : Int), roundRatio b64 s A B e = .fin s c q ∧ ((signed s c : Int) : Rat) * (2 : Rat) ^ q = r := by
  obtain ⟨n, q, h1, h2, h3, h4⟩ := hr
  have hp := tw_pos q
  have hpe := tw_pos e
  have hBr : (0 : Rat) < (B : Rat) := by exact_mod_cast hB
  have hA : (0 : Rat) ≤ (A : Rat) := by exact_mod_cast Nat.zero_le A
  have hAe : (0 : Rat) ≤ (A : Rat) * (2 : Rat) ^ e := Rat.mul_nonneg hA (Rat.le_of_lt hpe)
  have hP : (0 : Rat) < (2 : Rat) ^ q * (B : Rat) := Rat.mul_pos hp hBr
  have hs1 : s = true → n ≤ 0 := by
    intro hs
    subst hs
    refine Int.not_lt.mp fun h => ?_
    have h5 : (0 : Rat) < (n : Rat) := by exact_mod_cast h
    have h6 := Rat.mul_pos h5 hP
    rw [← h4] at hv
    simp only [if_true] at hv
    grind
  have hs0 : s = false → 0 ≤ n := by
    intro hs
    subst hs
    refine Int.not_lt.mp fun h => ?_
    have h5 : (0 : Rat) < -(n : Rat) := by
      have : (n : Rat) < 0 := by exact_mod_cast h
      grind
    have h6 := Rat.mul_pos h5 hP
    rw [← h4] at hv
    simp only [Bool.false_eq_true, if_false] at hv
    grind
  have hn : ((n.natAbs : Nat) : Rat) = if s then -(n : Rat) else (n : Rat) := by
    rw [natAbs_cast]
    cases s with
    | true =>
      have := hs1 rfl
      by_cases h0 : n < 0
      · rw [if_pos h0]; rfl
      · have : n = 0 := by omega
        subst this; decide
    | false => rw [if_neg (Int.not_lt.mpr (hs0 rfl))]; rfl
  have hm : (A : Rat) * (2 : Rat) ^ e = ((n.natAbs : Nat) : Rat) * (2 : Rat) ^ q * (B : Rat) := by
    rw [hn]
    rw [← h4] at hv
    generalize (n : Rat) = N at hv ⊢
    cases s <;> simp only [if_true, Bool.false_eq_true, if_false] at hv ⊢ <;> grind
  obtain ⟨c, q', k1, k2⟩ := rr_exact (s := s) hB h1 h2 h3 hm
  refine ⟨c, q', k1, ?_⟩
  rw [sgn_cast]
  rw [hn] at k2
  cases s <;> simp only [if_true, Bool.false_eq_true, if_false] at k2 ⊢ <;> grind
theorem IsV.round {s : Bool} {c : Nat} {e : Int} {r : Rat} {w : UInt64} (hw : val64 w = round b64 (.fin s c e)) (hr : Rep r) (hv : ((signed s c : Int) : Rat) * (2 : Rat) ^ e = r) : IsV w r := by
  obtain ⟨c', q, h1, h2⟩ := rr_rep (s := s) (A := c) (B := 1) (e := e) (by decide) hr (by
    rw [sgn_cast] at hv
    have e1 : ((1 : Nat) : Rat) = 1 := rfl
    rw [e1, Rat.mul_one, ← hv]
    cases s <;> simp [Rat.neg_mul])
  exact ⟨s, c', q, hw.trans h1, h2⟩
theorem signed_natAbs (v : Int) (s t : Bool) : (((signed (sumSign s t v) v.natAbs : Int)) : Rat) = (v : Rat) := by
  congr 1
  unfold signed sumSign
  by_cases h : v = 0
  · subst h; simp
  · rw [if_neg h]
    by_cases h2 : v < 0 <;> simp [h2] <;> omega
theorem signed_units (s : Bool) (c : Nat) {q e : Int} (h : e ≤ q) : ((signed s (inUnits c q e) : Int) : Rat) * (2 : Rat) ^ e = ((signed s c : Int) : Rat) * (2 : Rat) ^ q := by
  have k := inU c h
  rw [sgn_cast, sgn_cast]
  cases s <;> simp only [if_true, Bool.false_eq_true, if_false] <;> grind
theorem IsV.add {a b : UInt64} {x y : Rat} (ha : IsV a x) (hb : IsV b y) (hr : Rep (x + y)) : IsV (dadd a b) (x + y) := by
  obtain ⟨s, c, q, h1, h2⟩ := ha
  obtain ⟨t, d, r, h3, h4⟩ := hb
  refine IsV.round (w := dadd a b) (by rw [val64_dadd, h1, h3]; rfl) hr ?_
  rw [signed_natAbs]
  unfold sumUnits
  rw [Rat.intCast_add, Rat.add_mul, signed_units s c (Int.min_le_left q r), signed_units t d (Int.min_le_right q r), h2, h4]
theorem IsV.neg_d {d : Datum} {s : Bool} {c : Nat} {q : Int} {x : Rat} (h1 : d = .fin s c q) (h2 : ((signed s c : Int) : Rat) * (2 : Rat) ^ q = x) : negate d = .fin (!s) c q ∧ ((signed (!s) c : Int) : Rat) * (2 : Rat) ^ q = -x := by
  subst h1 h2
  refine ⟨rfl, ?_⟩
  rw [sgn_cast, sgn_cast]
  cases s <;> simp [Rat.neg_mul]
theorem IsV.sub {a b : UInt64} {x y : Rat} (ha : IsV a x) (hb : IsV b y) (hr : Rep (x - y)) : IsV (dsub a b) (x - y) := by
  obtain ⟨s, c, q, h1, h2⟩ := ha
  obtain ⟨t, d, r, h3, h4⟩ := hb
  obtain ⟨h5, h6⟩ := IsV.neg_d h3 h4
  refine IsV.round (w := dsub a b) (by rw [val64_dsub, h1, h5]; rfl) hr ?_
  rw [signed_natAbs]
  unfold sumUnits
  rw [Rat.intCast_add, Rat.add_mul, signed_units s c (Int.min_le_left q r), signed_units (!t) d (Int.min_le_right q r), h2, h6, Rat.sub_eq_add_neg]
theorem signed_xor (s t : Bool) (c d : Nat) : ((signed (s != t) (c * d) : Int) : Rat) = ((signed s c : Int) : Rat) * ((signed t d : Int) : Rat) := by
  rw [sgn_cast, sgn_cast, sgn_cast, Rat.natCast_mul]
  cases s <;> cases t <;> simp [Rat.neg_mul, Rat.mul_neg]
theorem IsV.mul {a b : UInt64} {x y : Rat} (ha : IsV a x) (hb : IsV b y) (hr : Rep (x * y)) : IsV (dmul a b) (x * y) := by
  obtain ⟨s, c, q, h1, h2⟩ := ha
  obtain ⟨t, d, r, h3, h4⟩ := hb
  refine IsV.round (w := dmul a b) (by rw [val64_dmul, h1, h3]; rfl) hr ?_
  rw [signed_xor, tw_add, ← h2, ← h4]
  grind
theorem IsV.div {a b : UInt64} {x y : Rat} (ha : IsV a x) (hb : IsV b y) (hy : y ≠ 0) (hr : Rep (x / y)) : IsV (ddiv a b) (x / y) := by
  obtain ⟨s, c, q, h1, h2⟩ := ha
  obtain ⟨t, d, r, h3, h4⟩ := hb
  have hd : d ≠ 0 := by
    intro h; subst h
    rw [signed_zero] at h4
    apply hy; rw [← h4]; simp
  have hq : val64 (ddiv a b) = roundRatio b64 (s != t) c d (q - r) := by
    rw [val64_ddiv, h1, h3]
    show (if d = 0 then _ else _) = _
    rw [if_neg hd]
  obtain ⟨c', q', k1, k2⟩ := rr_rep (s := (s != t)) (A := c) (B := d) (e := q - r) (r := x / y) (by omega) hr (by
    have e1 : (2 : Rat) ^ q = (2 : Rat) ^ (q - r) * (2 : Rat) ^ r := by rw [← tw_add]; congr 1; omega
    have n1 := tw_ne r
    have n2 : (d : Rat) ≠ 0 := by
      intro h; apply hd; exact_mod_cast h
    rw [sgn_cast] at h2 h4
    subst h2 h4
    rw [e1]
    cases s <;> cases t <;> simp only [if_true, Bool.false_eq_true, if_false, bne_self_eq_false, Bool.true_bne, Bool.false_bne, Bool.not_true, Bool.not_false] <;> grind)
  exact ⟨_, c', q', hq.trans k1, k2⟩
theorem IsV.neg {a : UInt64} {x : Rat} (ha : IsV a x) : IsV (dneg a) (-x) := by
  obtain ⟨s, c, q, h1, h2⟩ := ha
  obtain ⟨h5, h6⟩ := IsV.neg_d h1 h2
  exact ⟨!s, c, q, by rw [val64_dneg, h1]; rfl, h6⟩
/-- the order of two finite doubles is that of their values -/
theorem IsV.cmp {a b : UInt64} {x y : Rat} (ha : IsV a x) (hb : IsV b y) : dcmp a b = some (if x < y then .lt else if x = y then .eq else .gt) := by
  obtain ⟨s, c, q, h1, h2⟩ := ha
  obtain ⟨t, d, r, h3, h4⟩ := hb
  have hk : dcmp a b = some (compare (signed s (inUnits c q (min q r))) (signed t (inUnits d r (min q r)))) := by
    show order (val64 a) (val64 b) = _
    rw [h1, h3]; rfl
  rw [hk]
  have u1 := signed_units s c (Int.min_le_left q r)
  have u2 := signed_units t d (Int.min_le_right q r)
  rw [h2] at u1
  rw [h4] at u2
  have hp := tw_pos (min q r)
  generalize (2 : Rat) ^ (min q r) = P at u1 u2 hp
  generalize signed s (inUnits c q (min q r)) = m at u1
  generalize signed t (inUnits d r (min q r)) = n at u2
  congr 1
  subst u1 u2
  have l1 : (m : Rat) * P < (n : Rat) * P ↔ m < n := by
    constructor
    · intro h
      refine Int.not_le.mp fun h' => ?_
      have h6 : (n : Rat) ≤ (m : Rat) := by exact_mod_cast h'
      have h7 := Rat.mul_le_mul_of_nonneg_right h6 (Rat.le_of_lt hp)
      grind
    · intro h
      have h6 : (m : Rat) < (n : Rat) := by exact_mod_cast h
      exact Rat.mul_lt_mul_of_pos_right h6 hp
  have l2 : (m : Rat) * P = (n : Rat) * P ↔ m = n := by
    constructor
    · intro h
      have hne : P ≠ 0 := by grind
      have : (m : Rat) = (n : Rat) := by grind
      exact_mod_cast this
    · intro h; rw [h]
  simp only [l1, l2]
  show compareOfLessAndEq m n = _
  rfl
theorem signed_dec (i : Int) : signed (decide (i < 0)) i.natAbs = i := by
  unfold signed
  by_cases h : i < 0 <;> simp [h] <;> omega
theorem Rep.int {i : Int} (h : i.natAbs < 2 ^ 53) : Rep (i : Rat) := ⟨i, 0, h, by decide, by decide, by rw [Rat.zpow_zero, Rat.mul_one]⟩
theorem IsV.l2d {x : Int64} (h : x.toInt.natAbs < 2 ^ 53) : IsV (l2d x) (x.toInt : Rat) :=
  IsV.round (val64_l2d x) (Rep.int h) (by rw [signed_dec, Rat.zpow_zero, Rat.mul_one])
theorem IsV.i2d (x : Int32) : IsV (i2d x) (x.toInt : Rat) :=
  IsV.round (val64_i2d x) (Rep.int (by have := x.toInt_lt; have := x.le_toInt; omega)) (by rw [signed_dec, Rat.zpow_zero, Rat.mul_one])
theorem IsV.zero : IsV FP.dconst0 0 := ⟨false, 0, b64.qmin, val64_dconst0, by rw [signed_zero]; exact Rat.zero_mul _⟩
theorem IsV.one : IsV FP.dconst1 1 := ⟨false, 2 ^ 52, -52, val64_dconst1, by decide +kernel⟩
theorem IsV.nn {w : UInt64} {r : Rat} (h : IsV w r) : Jvm.Free.Fl.NoNaN64 w := by
  obtain ⟨s, c, q, h1, -⟩ := h
  rw [Jvm.Free.Fl.noNaN64_no]
  show decide (val64 w = .nan) = false
  rw [h1]; rfl
theorem val_abs {a : UInt64} {s : Bool} {c : Nat} {q : Int} (h : val64 a = .fin s c q) : val64 (a &&& 0x7fffffffffffffff) = .fin false c q := by
  have hn := Jvm.Free.Fl.abs_toNat a
  have ha := a.toNat_lt
  unfold val64 at h ⊢
  rw [hn]
  have t1 : fieldT b64 (a.toNat % 9223372036854775808) = fieldT b64 a.toNat := by
    show a.toNat % 9223372036854775808 % 4503599627370496 = a.toNat % 4503599627370496
    omega
  have t2 : fieldE b64 (a.toNat % 9223372036854775808) = fieldE b64 a.toNat := by
    show a.toNat % 9223372036854775808 / 4503599627370496 % 2048 = a.toNat / 4503599627370496 % 2048
    omega
  have t3 : fieldS b64 (a.toNat % 9223372036854775808) = false := by
    have : a.toNat % 9223372036854775808 / 4503599627370496 / 2048 % 2 = 0 := by omega
    show (a.toNat % 9223372036854775808 / 4503599627370496 / 2048 % 2 == 1) = false
    rw [this]; rfl
  unfold decode at h ⊢
  rw [t1, t2, t3]
  split at h
  · split at h <;> cases h
  · rename_i g1
    rw [if_neg g1]
    split at h
    · rename_i g2
      rw [if_pos g2]; cases h; rfl
    · rename_i g2
      rw [if_neg g2]; cases h; rfl
theorem IsV.abs {a : UInt64} {x : Rat} (h : IsV a x) : IsV (a &&& 0x7fffffffffffffff) (if x < 0 then -x else x) := by
  obtain ⟨s, c, q, h1, h2⟩ := h
  refine ⟨false, c, q, val_abs h1, ?_⟩
  have hp := tw_pos q
  have hc : (0 : Rat) ≤ (c : Rat) := by exact_mod_cast Nat.zero_le c
  have hcp := Rat.mul_nonneg hc (Rat.le_of_lt hp)
  rw [sgn_cast] at h2 ⊢
  subst h2
  cases s <;> simp only [if_true, Bool.false_eq_true, if_false] <;> split <;> grind
theorem IsV.eqv {a : UInt64} {x y : Rat} (h : IsV a x) (e : x = y) : IsV a y := e ▸ h
theorem IsV.max {a b : UInt64} {x y : Rat} (ha : IsV a x) (hb : IsV b y) : IsV (Jvm.Native.java_lang_Math.nans.pick64 true a b) (if x < y then y else x) := by
  have hc := ha.cmp hb
  unfold Jvm.Native.java_lang_Math.nans.pick64
  rw [show FP.dcmp a b = _ from hc]
  by_cases h1 : x < y
  · simp only [h1, if_true]; exact hb
  · by_cases h2 : x = y
    · subst h2
      simp only [h1, if_false, if_true]
      split
      · exact hb
      · exact ha
    · simp only [h1, h2, if_false, if_true]; exact ha
theorem IsV.cmpV {a b : UInt64} {x y : Rat} (ha : IsV a x) (hb : IsV b y) (k : Jvm.ClassFile.CmpOp) : Jvm.Op.cmpValue (FP.dcmp a b) k = if x < y then (-1 : Int32) else if x = y then 0 else 1 := by
  rw [show FP.dcmp a b = _ from ha.cmp hb]
  by_cases h1 : x < y
  · simp only [h1, if_true]; cases k <;> rfl
  · by_cases h2 : x = y
    · simp only [h1, h2, if_false, if_true]
      subst h2
      simp only [h1, if_false]; cases k <;> rfl
    · simp only [h1, h2, if_false]; cases k <;> rfl
theorem IsV.fneg {a : UInt64} {x : Rat} (h : IsV a x) : IsV (FP.dneg a) (-x) := by
  obtain ⟨s, c, q, h1, h2⟩ := h
  obtain ⟨h5, h6⟩ := IsV.neg_d h1 h2
  have ha := a.toNat_lt
  have hx : (FP.dneg a).toNat = if a.toNat < 9223372036854775808 then a.toNat + 9223372036854775808 else a.toNat - 9223372036854775808 := by
    show (a ^^^ 0x8000000000000000).toNat = _
    have h1 := UInt64.toNat_xor (a := a) (b := 0x8000000000000000)
    have h2 : (a ^^^ 0x8000000000000000).toNat % 9223372036854775808 = a.toNat % 9223372036854775808 := by
      rw [h1]
      show (a.toNat ^^^ 2 ^ 63) % 2 ^ 63 = a.toNat % 2 ^ 63
      rw [Nat.xor_mod_two_pow]
      simp
    have h3 : (a ^^^ 0x8000000000000000).toNat / 9223372036854775808 = 1 - a.toNat / 9223372036854775808 := by
      rw [h1]
      show (a.toNat ^^^ 2 ^ 63) / 2 ^ 63 = 1 - a.toNat / 2 ^ 63
      rw [Nat.xor_div_two_pow]
      have : a.toNat / 2 ^ 63 = 0 ∨ a.toNat / 2 ^ 63 = 1 := by omega
      rcases this with h | h <;> rw [h] <;> decide
    have h4 := (a ^^^ 0x8000000000000000).toNat_lt
    generalize (a ^^^ 0x8000000000000000).toNat = X at *
    split <;> omega
  have hk : val64 (FP.dneg a) = .fin (!s) c q := by
    unfold val64 at h1 ⊢
    have t1 : fieldT b64 (FP.dneg a).toNat = fieldT b64 a.toNat := by
      show (FP.dneg a).toNat % 4503599627370496 = a.toNat % 4503599627370496
      rw [hx]; split <;> omega
    have t2 : fieldE b64 (FP.dneg a).toNat = fieldE b64 a.toNat := by
      show (FP.dneg a).toNat / 4503599627370496 % 2048 = a.toNat / 4503599627370496 % 2048
      rw [hx]; split <;> omega
    have t3 : fieldS b64 (FP.dneg a).toNat = !fieldS b64 a.toNat := by
      show ((FP.dneg a).toNat / 4503599627370496 / 2048 % 2 == 1) = !(a.toNat / 4503599627370496 / 2048 % 2 == 1)
      rw [hx]
      split
      · have e1 : (a.toNat + 9223372036854775808) / 4503599627370496 / 2048 % 2 = 1 := by omega
        have e2 : a.toNat / 4503599627370496 / 2048 % 2 = 0 := by omega
        rw [e1, e2]; rfl
      · have e1 : (a.toNat - 9223372036854775808) / 4503599627370496 / 2048 % 2 = 0 := by omega
        have e2 : a.toNat / 4503599627370496 / 2048 % 2 = 1 := by omega
        rw [e1, e2]; rfl
    unfold decode at h1 ⊢
    rw [t1, t2, t3]
    split at h1
    · split at h1 <;> cases h1
    · rename_i g1
      rw [if_neg g1]
      split at h1
      · rename_i g2
        rw [if_pos g2]; cases h1; rfl
      · rename_i g2
        rw [if_neg g2]; cases h1; rfl
  exact ⟨!s, c, q, hk, h6⟩
/-- what dcmp pushes, by the values -/
abbrev cmpR (x y : Rat) : Int32 := if x < y then (-1 : Int32) else if x = y then 0 else 1
theorem cmpR_lt (x y : Rat) : cmpR x y < 0 ↔ x < y := by
  unfold cmpR
  by_cases h : x < y
  · simp only [h, if_true]; decide
  · by_cases h2 : x = y
    · simp only [h, if_false, h2]
      subst h2; simp only [h, if_false, if_true]; decide
    · simp only [h, h2, if_false]; decide
theorem cmpR_eq (x y : Rat) : cmpR x y = 0 ↔ x = y := by
  unfold cmpR
  by_cases h : x < y
  · have : x ≠ y := by grind
    simp only [h, this, if_true]; decide
  · by_cases h2 : x = y
    · subst h2; simp [h]
    · simp only [h, h2, if_false]; decide
theorem cmpR_gt (x y : Rat) : 0 < cmpR x y ↔ y < x := by
  unfold cmpR
  by_cases h : x < y
  · have : ¬ y < x := by grind
    simp only [h, this, if_true]; decide
  · by_cases h2 : x = y
    · subst h2; simp [h]
    · have : y < x := by grind
      simp only [h, h2, this, if_false]; decide
/-- n / D is a double's value where D is a power of two -/
theorem Rep.dy {n : Int} {D : Rat} (q : Int) (h : n.natAbs < 2 ^ 53) (h1 : -1074 ≤ q) (h2 : q ≤ 960) (hD : (2 : Rat) ^ q * D = 1) : Rep ((n : Rat) / D) := by
  refine ⟨n, q, h, h1, h2, ?_⟩
  generalize (2 : Rat) ^ q = P at hD ⊢
  have : D ≠ 0 := by intro q; rw [q] at hD; grind
  grind
theorem Rep.eqv {x y : Rat} (h : Rep x) (e : x = y) : Rep y := e ▸ h
end OwnFp
end Jvm.Pilot.@@N@@

namespace Jvm.Pilot.@@N@@
open Jvm Jvm.ClassFile Sem Op Lib Jvm.Free Jvm.Stand Jvm.LawKit Jvm.RoadKit Bundle Jvm.Pilot.@@N@@.Jvm.D
def W (a0 : Array Value) (Z : State) : Prop := ∀ d ∈ tables_1, d.before a0 Z = true
theorem w0 {a0 : Array Value} {Z : State} (hw : W a0 Z) : (Jvm.Cond.classLink "com/example/parkville/parkville/PNormEqualsPinLaw" (8 : Nat) "com/example/parkville/parkville/PNorm").before a0 Z = true := hw _ (List.mem_of_getElem? (i := 0) rfl)
theorem w1 {a0 : Array Value} {Z : State} (hw : W a0 Z) : (Jvm.Cond.instantiable "com/example/parkville/parkville/PNorm" (1 : Nat)).before a0 Z = true := hw _ (List.mem_of_getElem? (i := 1) rfl)
theorem w2 {a0 : Array Value} {Z : State} (hw : W a0 Z) : (Jvm.Cond.initialized "com/example/parkville/parkville/PNorm").before a0 Z = true := hw _ (List.mem_of_getElem? (i := 2) rfl)
theorem w3 {a0 : Array Value} {Z : State} (hw : W a0 Z) : (Jvm.Cond.constantDouble "com/example/parkville/parkville/PNormEqualsPinLaw" (13 : Nat) (4616189618054758400 : UInt64)).before a0 Z = true := hw _ (List.mem_of_getElem? (i := 3) rfl)
theorem w4 {a0 : Array Value} {Z : State} (hw : W a0 Z) : (Jvm.Cond.methodLink "com/example/parkville/parkville/PNormEqualsPinLaw" (15 : Nat) ({ cls := "com/example/parkville/parkville/PNorm", name := "<init>", desc := "(D)V" } : Jvm.MethodName)).before a0 Z = true := hw _ (List.mem_of_getElem? (i := 4) rfl)
theorem w5 {a0 : Array Value} {Z : State} (hw : W a0 Z) : (Jvm.Cond.instanceMethod ({ cls := "com/example/parkville/parkville/PNorm", name := "<init>", desc := "(D)V" } : Jvm.MethodName)).before a0 Z = true := hw _ (List.mem_of_getElem? (i := 5) rfl)
theorem w6 {a0 : Array Value} {Z : State} (hw : W a0 Z) : (Jvm.Cond.code ({ cls := "com/example/parkville/parkville/PNorm", name := "<init>", desc := "(D)V" } : Jvm.MethodName) prog_11_method_1_code (3 : Nat) (Option.none : Option Jvm.ClassFile.FieldType)).before a0 Z = true := hw _ (List.mem_of_getElem? (i := 6) rfl)
theorem w7 {a0 : Array Value} {Z : State} (hw : W a0 Z) : (Jvm.Cond.methodLink "com/example/parkville/parkville/PNorm" (1 : Nat) ({ cls := "java/lang/Object", name := "<init>", desc := "()V" } : Jvm.MethodName)).before a0 Z = true := hw _ (List.mem_of_getElem? (i := 7) rfl)
theorem w8 {a0 : Array Value} {Z : State} (hw : W a0 Z) : (Jvm.Cond.instanceMethod ({ cls := "java/lang/Object", name := "<init>", desc := "()V" } : Jvm.MethodName)).before a0 Z = true := hw _ (List.mem_of_getElem? (i := 8) rfl)
theorem w9 {a0 : Array Value} {Z : State} (hw : W a0 Z) : (Jvm.Cond.code ({ cls := "java/lang/Object", name := "<init>", desc := "()V" } : Jvm.MethodName) object_method_1_code (1 : Nat) (Option.none : Option Jvm.ClassFile.FieldType)).before a0 Z = true := hw _ (List.mem_of_getElem? (i := 9) rfl)
theorem w10 {a0 : Array Value} {Z : State} (hw : W a0 Z) : (Jvm.Cond.fieldLink "com/example/parkville/parkville/PNorm" (16 : Nat) "com/example/parkville/parkville/PNorm" "p" "D").before a0 Z = true := hw _ (List.mem_of_getElem? (i := 10) rfl)
theorem w11 {a0 : Array Value} {Z : State} (hw : W a0 Z) : (Jvm.Cond.laysFinal "com/example/parkville/parkville/PNorm" "com/example/parkville/parkville/PNorm" "p" "D").before a0 Z = true := hw _ (List.mem_of_getElem? (i := 11) rfl)
theorem w12 {a0 : Array Value} {Z : State} (hw : W a0 Z) : (Jvm.Cond.fieldLink "com/example/parkville/parkville/PNormEqualsPinLaw" (7 : Nat) "com/example/parkville/parkville/PNorm" "STRICT" "Lcom/example/parkville/parkville/PNorm;").before a0 Z = true := hw _ (List.mem_of_getElem? (i := 12) rfl)
theorem w13 {a0 : Array Value} {Z : State} (hw : W a0 Z) : (Jvm.Cond.laysStatic "com/example/parkville/parkville/PNorm" "STRICT" "Lcom/example/parkville/parkville/PNorm;").before a0 Z = true := hw _ (List.mem_of_getElem? (i := 13) rfl)
theorem w14 {a0 : Array Value} {Z : State} (hw : W a0 Z) : (Jvm.Cond.methodLink "com/example/parkville/parkville/PNormEqualsPinLaw" (24 : Nat) ({ cls := "com/example/parkville/parkville/PNorm", name := "equals", desc := "(Ljava/lang/Object;)Z" } : Jvm.MethodName)).before a0 Z = true := hw _ (List.mem_of_getElem? (i := 14) rfl)
theorem w15 {a0 : Array Value} {Z : State} (hw : W a0 Z) : (Jvm.Cond.declares ({ cls := "com/example/parkville/parkville/PNorm", name := "equals", desc := "(Ljava/lang/Object;)Z" } : Jvm.MethodName)).before a0 Z = true := hw _ (List.mem_of_getElem? (i := 15) rfl)
theorem w16 {a0 : Array Value} {Z : State} (hw : W a0 Z) : (Jvm.Cond.instanceMethod ({ cls := "com/example/parkville/parkville/PNorm", name := "equals", desc := "(Ljava/lang/Object;)Z" } : Jvm.MethodName)).before a0 Z = true := hw _ (List.mem_of_getElem? (i := 16) rfl)
theorem w17 {a0 : Array Value} {Z : State} (hw : W a0 Z) : (Jvm.Cond.selects "com/example/parkville/parkville/PNorm" ({ cls := "com/example/parkville/parkville/PNorm", name := "equals", desc := "(Ljava/lang/Object;)Z" } : Jvm.MethodName) ({ cls := "com/example/parkville/parkville/PNorm", name := "equals", desc := "(Ljava/lang/Object;)Z" } : Jvm.MethodName)).before a0 Z = true := hw _ (List.mem_of_getElem? (i := 17) rfl)
theorem w18 {a0 : Array Value} {Z : State} (hw : W a0 Z) : (Jvm.Cond.code ({ cls := "com/example/parkville/parkville/PNorm", name := "equals", desc := "(Ljava/lang/Object;)Z" } : Jvm.MethodName) prog_11_method_10_code (3 : Nat) (Option.some Jvm.ClassFile.FieldType.boolean)).before a0 Z = true := hw _ (List.mem_of_getElem? (i := 18) rfl)
theorem w19 {a0 : Array Value} {Z : State} (hw : W a0 Z) : (Jvm.Cond.classLink "com/example/parkville/parkville/PNorm" (17 : Nat) "com/example/parkville/parkville/PNorm").before a0 Z = true := hw _ (List.mem_of_getElem? (i := 19) rfl)
theorem w21 {a0 : Array Value} {Z : State} (hw : W a0 Z) : (Jvm.Cond.methodLink "com/example/parkville/parkville/PNorm" (88 : Nat) ({ cls := "java/lang/Double", name := "compare", desc := "(DD)I" } : Jvm.MethodName)).before a0 Z = true := hw _ (List.mem_of_getElem? (i := 21) rfl)
theorem w22 {a0 : Array Value} {Z : State} (hw : W a0 Z) : (Jvm.Cond.static ({ cls := "java/lang/Double", name := "compare", desc := "(DD)I" } : Jvm.MethodName)).before a0 Z = true := hw _ (List.mem_of_getElem? (i := 22) rfl)
theorem w23 {a0 : Array Value} {Z : State} (hw : W a0 Z) : (Jvm.Cond.initialized "java/lang/Double").before a0 Z = true := hw _ (List.mem_of_getElem? (i := 23) rfl)
theorem w24 {a0 : Array Value} {Z : State} (hw : W a0 Z) : (Jvm.Cond.code ({ cls := "java/lang/Double", name := "compare", desc := "(DD)I" } : Jvm.MethodName) jdk_117_method_27_code (8 : Nat) (Option.some Jvm.ClassFile.FieldType.int)).before a0 Z = true := hw _ (List.mem_of_getElem? (i := 24) rfl)
theorem w25 {a0 : Array Value} {Z : State} (hw : W a0 Z) : (Jvm.Cond.methodLink "java/lang/Double" (46 : Nat) ({ cls := "java/lang/Double", name := "doubleToLongBits", desc := "(D)J" } : Jvm.MethodName)).before a0 Z = true := hw _ (List.mem_of_getElem? (i := 25) rfl)
theorem w26 {a0 : Array Value} {Z : State} (hw : W a0 Z) : (Jvm.Cond.static ({ cls := "java/lang/Double", name := "doubleToLongBits", desc := "(D)J" } : Jvm.MethodName)).before a0 Z = true := hw _ (List.mem_of_getElem? (i := 26) rfl)
theorem w27 {a0 : Array Value} {Z : State} (hw : W a0 Z) : (Jvm.Cond.code ({ cls := "java/lang/Double", name := "doubleToLongBits", desc := "(D)J" } : Jvm.MethodName) jdk_117_method_23_code (2 : Nat) (Option.some Jvm.ClassFile.FieldType.long)).before a0 Z = true := hw _ (List.mem_of_getElem? (i := 27) rfl)
theorem w28 {a0 : Array Value} {Z : State} (hw : W a0 Z) : (Jvm.Cond.methodLink "java/lang/Double" (122 : Nat) ({ cls := "java/lang/Double", name := "isNaN", desc := "(D)Z" } : Jvm.MethodName)).before a0 Z = true := hw _ (List.mem_of_getElem? (i := 28) rfl)
theorem w29 {a0 : Array Value} {Z : State} (hw : W a0 Z) : (Jvm.Cond.static ({ cls := "java/lang/Double", name := "isNaN", desc := "(D)Z" } : Jvm.MethodName)).before a0 Z = true := hw _ (List.mem_of_getElem? (i := 29) rfl)
theorem w30 {a0 : Array Value} {Z : State} (hw : W a0 Z) : (Jvm.Cond.code ({ cls := "java/lang/Double", name := "isNaN", desc := "(D)Z" } : Jvm.MethodName) jdk_117_method_6_code (2 : Nat) (Option.some Jvm.ClassFile.FieldType.boolean)).before a0 Z = true := hw _ (List.mem_of_getElem? (i := 30) rfl)
theorem w31 {a0 : Array Value} {Z : State} (hw : W a0 Z) : (Jvm.Cond.methodLink "java/lang/Double" (134 : Nat) ({ cls := "java/lang/Double", name := "doubleToRawLongBits", desc := "(D)J" } : Jvm.MethodName)).before a0 Z = true := hw _ (List.mem_of_getElem? (i := 31) rfl)
theorem w32 {a0 : Array Value} {Z : State} (hw : W a0 Z) : (Jvm.Cond.static ({ cls := "java/lang/Double", name := "doubleToRawLongBits", desc := "(D)J" } : Jvm.MethodName)).before a0 Z = true := hw _ (List.mem_of_getElem? (i := 32) rfl)
theorem w33 {a0 : Array Value} {Z : State} (hw : W a0 Z) : (Jvm.Cond.native ({ cls := "java/lang/Double", name := "doubleToRawLongBits", desc := "(D)J" } : Jvm.MethodName)).before a0 Z = true := hw _ (List.mem_of_getElem? (i := 33) rfl)
theorem w34 {a0 : Array Value} {Z : State} (hw : W a0 Z) : (Jvm.Cond.methodLink "com/example/parkville/parkville/PNormEqualsPinLaw" (18 : Nat) ({ cls := "java/lang/Integer", name := "valueOf", desc := "(I)Ljava/lang/Integer;" } : Jvm.MethodName)).before a0 Z = true := hw _ (List.mem_of_getElem? (i := 34) rfl)
theorem w35 {a0 : Array Value} {Z : State} (hw : W a0 Z) : (Jvm.Cond.static ({ cls := "java/lang/Integer", name := "valueOf", desc := "(I)Ljava/lang/Integer;" } : Jvm.MethodName)).before a0 Z = true := hw _ (List.mem_of_getElem? (i := 35) rfl)
theorem w36 {a0 : Array Value} {Z : State} (hw : W a0 Z) : (Jvm.Cond.initialized "java/lang/Integer").before a0 Z = true := hw _ (List.mem_of_getElem? (i := 36) rfl)
theorem w37 {a0 : Array Value} {Z : State} (hw : W a0 Z) : (Jvm.Cond.code ({ cls := "java/lang/Integer", name := "valueOf", desc := "(I)Ljava/lang/Integer;" } : Jvm.MethodName) jdk_33_method_22_code (1 : Nat) (Option.some (Jvm.ClassFile.FieldType.object "java/lang/Integer"))).before a0 Z = true := hw _ (List.mem_of_getElem? (i := 37) rfl)
theorem w38 {a0 : Array Value} {Z : State} (hw : W a0 Z) : (Jvm.Cond.fieldLink "java/lang/Integer" (191 : Nat) "java/lang/Integer$IntegerCache" "high" "I").before a0 Z = true := hw _ (List.mem_of_getElem? (i := 38) rfl)
theorem w39 {a0 : Array Value} {Z : State} (hw : W a0 Z) : (Jvm.Cond.initialized "java/lang/Integer$IntegerCache").before a0 Z = true := hw _ (List.mem_of_getElem? (i := 39) rfl)
theorem w40 {a0 : Array Value} {Z : State} (hw : W a0 Z) : (Jvm.Cond.fieldLink "java/lang/Integer" (195 : Nat) "java/lang/Integer$IntegerCache" "cache" "[Ljava/lang/Integer;").before a0 Z = true := hw _ (List.mem_of_getElem? (i := 40) rfl)
theorem w41 {a0 : Array Value} {Z : State} (hw : W a0 Z) : (Jvm.Cond.superclass "java/lang/Integer" "java/lang/Number").before a0 Z = true := hw _ (List.mem_of_getElem? (i := 41) rfl)
theorem w42 {a0 : Array Value} {Z : State} (hw : W a0 Z) : (Jvm.Cond.superclass "java/lang/Number" "java/lang/Object").before a0 Z = true := hw _ (List.mem_of_getElem? (i := 42) rfl)
theorem w43 {a0 : Array Value} {Z : State} (hw : W a0 Z) : (Jvm.Cond.noSuperclass "java/lang/Object").before a0 Z = true := hw _ (List.mem_of_getElem? (i := 43) rfl)
theorem w44 {a0 : Array Value} {Z : State} (hw : W a0 Z) : (Jvm.Cond.classLink "java/lang/Integer" (1 : Nat) "java/lang/Integer").before a0 Z = true := hw _ (List.mem_of_getElem? (i := 44) rfl)
theorem w45 {a0 : Array Value} {Z : State} (hw : W a0 Z) : (Jvm.Cond.instantiable "java/lang/Integer" (1 : Nat)).before a0 Z = true := hw _ (List.mem_of_getElem? (i := 45) rfl)
theorem w46 {a0 : Array Value} {Z : State} (hw : W a0 Z) : (Jvm.Cond.methodLink "java/lang/Integer" (199 : Nat) ({ cls := "java/lang/Integer", name := "<init>", desc := "(I)V" } : Jvm.MethodName)).before a0 Z = true := hw _ (List.mem_of_getElem? (i := 46) rfl)
theorem w47 {a0 : Array Value} {Z : State} (hw : W a0 Z) : (Jvm.Cond.instanceMethod ({ cls := "java/lang/Integer", name := "<init>", desc := "(I)V" } : Jvm.MethodName)).before a0 Z = true := hw _ (List.mem_of_getElem? (i := 47) rfl)
theorem w49 {a0 : Array Value} {Z : State} (hw : W a0 Z) : (Jvm.Cond.code ({ cls := "java/lang/Integer", name := "<init>", desc := "(I)V" } : Jvm.MethodName) jdk_33_method_23_code (2 : Nat) (Option.none : Option Jvm.ClassFile.FieldType)).before a0 Z = true := hw _ (List.mem_of_getElem? (i := 49) rfl)
theorem w50 {a0 : Array Value} {Z : State} (hw : W a0 Z) : (Jvm.Cond.methodLink "java/lang/Integer" (202 : Nat) ({ cls := "java/lang/Number", name := "<init>", desc := "()V" } : Jvm.MethodName)).before a0 Z = true := hw _ (List.mem_of_getElem? (i := 50) rfl)
theorem w51 {a0 : Array Value} {Z : State} (hw : W a0 Z) : (Jvm.Cond.instanceMethod ({ cls := "java/lang/Number", name := "<init>", desc := "()V" } : Jvm.MethodName)).before a0 Z = true := hw _ (List.mem_of_getElem? (i := 51) rfl)
theorem w54 {a0 : Array Value} {Z : State} (hw : W a0 Z) : (Jvm.Cond.initialized "java/lang/Number").before a0 Z = true := hw _ (List.mem_of_getElem? (i := 54) rfl)
theorem w55 {a0 : Array Value} {Z : State} (hw : W a0 Z) : (Jvm.Cond.code ({ cls := "java/lang/Number", name := "<init>", desc := "()V" } : Jvm.MethodName) jdk_18_method_1_code (1 : Nat) (Option.none : Option Jvm.ClassFile.FieldType)).before a0 Z = true := hw _ (List.mem_of_getElem? (i := 55) rfl)
theorem w56 {a0 : Array Value} {Z : State} (hw : W a0 Z) : (Jvm.Cond.methodLink "java/lang/Number" (1 : Nat) ({ cls := "java/lang/Object", name := "<init>", desc := "()V" } : Jvm.MethodName)).before a0 Z = true := hw _ (List.mem_of_getElem? (i := 56) rfl)
theorem w57 {a0 : Array Value} {Z : State} (hw : W a0 Z) : (Jvm.Cond.fieldLink "java/lang/Integer" (205 : Nat) "java/lang/Integer" "value" "I").before a0 Z = true := hw _ (List.mem_of_getElem? (i := 57) rfl)
theorem w58 {a0 : Array Value} {Z : State} (hw : W a0 Z) : (Jvm.Cond.laysFinal "java/lang/Integer" "java/lang/Integer" "value" "I").before a0 Z = true := hw _ (List.mem_of_getElem? (i := 58) rfl)
theorem d_jdk_117_method_6_0 : decode jdk_117_method_6_code 0 = .ok (.dload_n 0, 1) := by decide +kernel
theorem d_jdk_117_method_6_1 : decode jdk_117_method_6_code 1 = .ok (.dload_n 0, 1) := by decide +kernel
theorem d_jdk_117_method_6_2 : decode jdk_117_method_6_code 2 = .ok (.dcmp .l, 1) := by decide +kernel
theorem d_jdk_117_method_6_3 : decode jdk_117_method_6_code 3 = .ok (.ifCond .eq 7, 3) := by decide +kernel
theorem d_jdk_117_method_6_10 : decode jdk_117_method_6_code 10 = .ok (.iconst 0, 1) := by decide +kernel
theorem d_jdk_117_method_6_11 : decode jdk_117_method_6_code 11 = .ok (.ireturn, 1) := by decide +kernel
theorem d_jdk_117_method_23_0 : decode jdk_117_method_23_code 0 = .ok (.dload_n 0, 1) := by decide +kernel
theorem d_jdk_117_method_23_1 : decode jdk_117_method_23_code 1 = .ok (.invokestatic 122, 3) := by decide +kernel
theorem d_jdk_117_method_23_4 : decode jdk_117_method_23_code 4 = .ok (.ifCond .ne 8, 3) := by decide +kernel
theorem d_jdk_117_method_23_7 : decode jdk_117_method_23_code 7 = .ok (.dload_n 0, 1) := by decide +kernel
theorem d_jdk_117_method_23_8 : decode jdk_117_method_23_code 8 = .ok (.invokestatic 134, 3) := by decide +kernel
theorem d_jdk_117_method_23_11 : decode jdk_117_method_23_code 11 = .ok (.lreturn, 1) := by decide +kernel
theorem d_jdk_117_method_27_0 : decode jdk_117_method_27_code 0 = .ok (.dload_n 0, 1) := by decide +kernel
theorem d_jdk_117_method_27_1 : decode jdk_117_method_27_code 1 = .ok (.dload_n 2, 1) := by decide +kernel
theorem d_jdk_117_method_27_2 : decode jdk_117_method_27_code 2 = .ok (.dcmp .g, 1) := by decide +kernel
theorem d_jdk_117_method_27_3 : decode jdk_117_method_27_code 3 = .ok (.ifCond .ge 5, 3) := by decide +kernel
theorem d_jdk_117_method_27_8 : decode jdk_117_method_27_code 8 = .ok (.dload_n 0, 1) := by decide +kernel
theorem d_jdk_117_method_27_9 : decode jdk_117_method_27_code 9 = .ok (.dload_n 2, 1) := by decide +kernel
theorem d_jdk_117_method_27_10 : decode jdk_117_method_27_code 10 = .ok (.dcmp .l, 1) := by decide +kernel
theorem d_jdk_117_method_27_11 : decode jdk_117_method_27_code 11 = .ok (.ifCond .le 5, 3) := by decide +kernel
theorem d_jdk_117_method_27_16 : decode jdk_117_method_27_code 16 = .ok (.dload_n 0, 1) := by decide +kernel
theorem d_jdk_117_method_27_17 : decode jdk_117_method_27_code 17 = .ok (.invokestatic 46, 3) := by decide +kernel
theorem d_jdk_117_method_27_20 : decode jdk_117_method_27_code 20 = .ok (.lstore 4, 2) := by decide +kernel
theorem d_jdk_117_method_27_22 : decode jdk_117_method_27_code 22 = .ok (.dload_n 2, 1) := by decide +kernel
theorem d_jdk_117_method_27_23 : decode jdk_117_method_27_code 23 = .ok (.invokestatic 46, 3) := by decide +kernel
theorem d_jdk_117_method_27_26 : decode jdk_117_method_27_code 26 = .ok (.lstore 6, 2) := by decide +kernel
theorem d_jdk_117_method_27_28 : decode jdk_117_method_27_code 28 = .ok (.lload 4, 2) := by decide +kernel
theorem d_jdk_117_method_27_30 : decode jdk_117_method_27_code 30 = .ok (.lload 6, 2) := by decide +kernel
theorem d_jdk_117_method_27_32 : decode jdk_117_method_27_code 32 = .ok (.lcmp, 1) := by decide +kernel
theorem d_jdk_117_method_27_33 : decode jdk_117_method_27_code 33 = .ok (.ifCond .ne 7, 3) := by decide +kernel
theorem d_jdk_117_method_27_36 : decode jdk_117_method_27_code 36 = .ok (.iconst 0, 1) := by decide +kernel
theorem d_jdk_117_method_27_37 : decode jdk_117_method_27_code 37 = .ok (.goto 16, 3) := by decide +kernel
theorem d_jdk_117_method_27_53 : decode jdk_117_method_27_code 53 = .ok (.ireturn, 1) := by decide +kernel
theorem d_jdk_117_method_27_6 : decode jdk_117_method_27_code 6 = .ok (.iconst (-1), 1) := by decide +kernel
theorem d_jdk_117_method_27_7 : decode jdk_117_method_27_code 7 = .ok (.ireturn, 1) := by decide +kernel
theorem d_jdk_117_method_27_14 : decode jdk_117_method_27_code 14 = .ok (.iconst 1, 1) := by decide +kernel
theorem d_jdk_117_method_27_15 : decode jdk_117_method_27_code 15 = .ok (.ireturn, 1) := by decide +kernel
theorem d_prog_11_method_1_0 : decode prog_11_method_1_code 0 = .ok (.aload_n 0, 1) := by decide +kernel
theorem d_prog_11_method_1_1 : decode prog_11_method_1_code 1 = .ok (.invokespecial 1, 3) := by decide +kernel
theorem d_prog_11_method_1_4 : decode prog_11_method_1_code 4 = .ok (.dload_n 1, 1) := by decide +kernel
theorem d_prog_11_method_1_5 : decode prog_11_method_1_code 5 = .ok (.dconst 1, 1) := by decide +kernel
theorem d_prog_11_method_1_6 : decode prog_11_method_1_code 6 = .ok (.dcmp .l, 1) := by decide +kernel
theorem d_prog_11_method_1_7 : decode prog_11_method_1_code 7 = .ok (.ifCond .ge 17, 3) := by decide +kernel
theorem d_prog_11_method_1_24 : decode prog_11_method_1_code 24 = .ok (.aload_n 0, 1) := by decide +kernel
theorem d_prog_11_method_1_25 : decode prog_11_method_1_code 25 = .ok (.dload_n 1, 1) := by decide +kernel
theorem d_prog_11_method_1_26 : decode prog_11_method_1_code 26 = .ok (.putfield 16, 3) := by decide +kernel
theorem d_prog_11_method_1_29 : decode prog_11_method_1_code 29 = .ok (.return_, 1) := by decide +kernel
theorem d_prog_11_method_10_0 : decode prog_11_method_10_code 0 = .ok (.aload_n 1, 1) := by decide +kernel
theorem d_prog_11_method_10_1 : decode prog_11_method_10_code 1 = .ok (.instanceof 17, 3) := by decide +kernel
theorem d_prog_11_method_10_4 : decode prog_11_method_10_code 4 = .ok (.ifCond .eq 26, 3) := by decide +kernel
theorem d_prog_11_method_10_30 : decode prog_11_method_10_code 30 = .ok (.iconst 0, 1) := by decide +kernel
theorem d_prog_11_method_10_31 : decode prog_11_method_10_code 31 = .ok (.ireturn, 1) := by decide +kernel
theorem d_prog_11_method_10_7 : decode prog_11_method_10_code 7 = .ok (.aload_n 1, 1) := by decide +kernel
theorem d_prog_11_method_10_8 : decode prog_11_method_10_code 8 = .ok (.checkcast 17, 3) := by decide +kernel
theorem d_prog_11_method_10_11 : decode prog_11_method_10_code 11 = .ok (.astore_n 2, 1) := by decide +kernel
theorem d_prog_11_method_10_12 : decode prog_11_method_10_code 12 = .ok (.aload_n 0, 1) := by decide +kernel
theorem d_prog_11_method_10_13 : decode prog_11_method_10_code 13 = .ok (.getfield 16, 3) := by decide +kernel
theorem d_prog_11_method_10_16 : decode prog_11_method_10_code 16 = .ok (.aload_n 2, 1) := by decide +kernel
theorem d_prog_11_method_10_17 : decode prog_11_method_10_code 17 = .ok (.getfield 16, 3) := by decide +kernel
theorem d_prog_11_method_10_20 : decode prog_11_method_10_code 20 = .ok (.invokestatic 88, 3) := by decide +kernel
theorem d_prog_11_method_10_23 : decode prog_11_method_10_code 23 = .ok (.ifCond .ne 7, 3) := by decide +kernel
theorem d_prog_11_method_10_26 : decode prog_11_method_10_code 26 = .ok (.iconst 1, 1) := by decide +kernel
theorem d_prog_11_method_10_27 : decode prog_11_method_10_code 27 = .ok (.goto 4, 3) := by decide +kernel
theorem d_jdk_18_method_1_0 : decode jdk_18_method_1_code 0 = .ok (.aload_n 0, 1) := by decide +kernel
theorem d_jdk_18_method_1_1 : decode jdk_18_method_1_code 1 = .ok (.invokespecial 1, 3) := by decide +kernel
theorem d_jdk_18_method_1_4 : decode jdk_18_method_1_code 4 = .ok (.return_, 1) := by decide +kernel
theorem d_jdk_33_method_23_0 : decode jdk_33_method_23_code 0 = .ok (.aload_n 0, 1) := by decide +kernel
theorem d_jdk_33_method_23_1 : decode jdk_33_method_23_code 1 = .ok (.invokespecial 202, 3) := by decide +kernel
theorem d_jdk_33_method_23_4 : decode jdk_33_method_23_code 4 = .ok (.aload_n 0, 1) := by decide +kernel
theorem d_jdk_33_method_23_5 : decode jdk_33_method_23_code 5 = .ok (.iload_n 1, 1) := by decide +kernel
theorem d_jdk_33_method_23_6 : decode jdk_33_method_23_code 6 = .ok (.putfield 205, 3) := by decide +kernel
theorem d_jdk_33_method_23_9 : decode jdk_33_method_23_code 9 = .ok (.return_, 1) := by decide +kernel
theorem d_jdk_33_method_22_0 : decode jdk_33_method_22_code 0 = .ok (.iload_n 0, 1) := by decide +kernel
theorem d_jdk_33_method_22_1 : decode jdk_33_method_22_code 1 = .ok (.bipush (-128), 2) := by decide +kernel
theorem d_jdk_33_method_22_3 : decode jdk_33_method_22_code 3 = .ok (.if_icmp .lt 20, 3) := by decide +kernel
theorem d_jdk_33_method_22_23 : decode jdk_33_method_22_code 23 = .ok (.new 1, 3) := by decide +kernel
theorem d_jdk_33_method_22_26 : decode jdk_33_method_22_code 26 = .ok (.dup, 1) := by decide +kernel
theorem d_jdk_33_method_22_27 : decode jdk_33_method_22_code 27 = .ok (.iload_n 0, 1) := by decide +kernel
theorem d_jdk_33_method_22_28 : decode jdk_33_method_22_code 28 = .ok (.invokespecial 199, 3) := by decide +kernel
theorem d_jdk_33_method_22_31 : decode jdk_33_method_22_code 31 = .ok (.areturn, 1) := by decide +kernel
theorem d_jdk_33_method_22_6 : decode jdk_33_method_22_code 6 = .ok (.iload_n 0, 1) := by decide +kernel
theorem d_jdk_33_method_22_7 : decode jdk_33_method_22_code 7 = .ok (.getstatic 191, 3) := by decide +kernel
theorem d_jdk_33_method_22_10 : decode jdk_33_method_22_code 10 = .ok (.if_icmp .gt 13, 3) := by decide +kernel
theorem d_jdk_33_method_22_13 : decode jdk_33_method_22_code 13 = .ok (.getstatic 195, 3) := by decide +kernel
theorem d_jdk_33_method_22_16 : decode jdk_33_method_22_code 16 = .ok (.iload_n 0, 1) := by decide +kernel
theorem d_jdk_33_method_22_17 : decode jdk_33_method_22_code 17 = .ok (.sipush 128, 3) := by decide +kernel
theorem d_jdk_33_method_22_20 : decode jdk_33_method_22_code 20 = .ok (.iadd, 1) := by decide +kernel
theorem d_jdk_33_method_22_21 : decode jdk_33_method_22_code 21 = .ok (.aaload, 1) := by decide +kernel
theorem d_jdk_33_method_22_22 : decode jdk_33_method_22_code 22 = .ok (.areturn, 1) := by decide +kernel
theorem pd0 : parseMethodDescriptor "(D)Z" = some ⟨[.double], some .boolean⟩ := by decide +kernel
theorem pd1 : parseMethodDescriptor "(D)J" = some ⟨[.double], some .long⟩ := by decide +kernel
theorem pd2 : parseMethodDescriptor "(DD)I" = some ⟨[.double, .double], some .int⟩ := by decide +kernel
theorem pd3 : parseMethodDescriptor "()V" = some ⟨[], none⟩ := by decide +kernel
theorem pd4 : parseMethodDescriptor "(I)V" = some ⟨[.int], none⟩ := by decide +kernel
theorem pd5 : parseMethodDescriptor "(D)V" = some ⟨[.double], none⟩ := by decide +kernel
theorem pd6 : parseMethodDescriptor "(Ljava/lang/Object;)Z" = some ⟨[(.object "java/lang/Object")], some .boolean⟩ := by decide +kernel
theorem pd7 : parseMethodDescriptor "(I)Ljava/lang/Integer;" = some ⟨[.int], some (.object "java/lang/Integer")⟩ := by decide +kernel
theorem own_cache {Z : State} {args : Array Value} {t : Term} {C K : String} {c : Cond} (hx : (Cond.arrayOf t (.object K)).before args Z = true) (he : (Cond.exactly t C).before args Z = true) (hl : (Cond.eq (Term.length t) (Term.int 256)).before args Z = true) (ha : (Cond.all t (Cond.and (Cond.exactly (Term.elem t (Term.index 0)) K) c)).before args Z = true) (hti : ∀ i, t.eval args Z none [i] Z = t.eval args Z none [] Z) :
    ∃ a k vs, t.eval args Z none [] Z = some (.ref a) ∧ Arv Z Z.heap a k (.object K) 256 vs .null ∧ ∀ j : Nat, j < 256 → ∃ b, vs.getD j .null = .ref b ∧ Exa Z Z.heap b K := by
  obtain ⟨a, c', cell, k, e1, e2, e3, e4, e5, e6, e7⟩ := Cond.exactly_spec he
  obtain ⟨cc, A⟩ := Arr.start e1 (Cond.before_iff.mp hx)
  have hv := Cond.before_iff.mp hl
  have harr := IntBox.arrayAt_of A.1 A.2.1 A.2.2
  have hz : cc.slots.size = 256 := by
    cases q : (Term.length t).eval args Z none [] Z with
    | none => simp [Cond.value, q] at hv
    | some v =>
      obtain ⟨a', c2, h1, h2, h3, h4⟩ := length_spec q
      cases e1.symm.trans h1
      have hc : c2 = cc := Option.some.inj (h2.symm.trans harr)
      subst hc h4
      rw [Cond.eq_ints q (Term.int_eval 256)] at hv
      have h5 := of_decide_eq_true (Option.some.inj hv)
      have h6 : (c2.slots.size.toInt32).toInt = c2.slots.size := Int32.toInt_ofNat_of_lt h3
      rw [h5] at h6
      have : (256 : Int32).toInt = 256 := rfl
      omega
  have hE := Cond.all_elim e1 harr (Cond.before_iff.mp ha)
  have hg : ∀ j : Nat, j < 256 → ∃ b, cc.slots[j]? = some (.ref b) ∧ Exa Z Z.heap b K := by
    intro j hj
    obtain ⟨h1, -⟩ := and_e (hE j (by omega))
    obtain ⟨b, c3, cell3, k3, f1, f2, f3, f4, f5, f6, f7⟩ := Cond.exactly_spec (show (Cond.exactly (Term.elem t (Term.index 0)) K).holds args Z none Z [j] = true by simpa [Cond.holds] using h1)
    have hn0 : ¬ (Nat.toInt32 j) < 0 := fun q => by
      rw [Int32.lt_iff_toInt_lt, show (Nat.toInt32 j).toInt = j from Int32.toInt_ofNat_of_lt (by omega)] at q
      have e0 : (0 : Int32).toInt = 0 := rfl
      omega
    have hcl : (Nat.toInt32 j).toNatClampNeg = j := by rw [Int32.toNatClampNeg, show (Nat.toInt32 j).toInt = j from Int32.toInt_ofNat_of_lt (by omega)]; rfl
    have ev : (Term.elem t (Term.index 0)).eval args Z none [j] Z = cc.slots[j]? := by
      simp only [Term.eval, hti, e1, Option.bind_eq_bind, Option.bind_some, List.getElem?_cons_zero, Option.map_some, hn0, if_false, harr, hcl]
    rw [ev] at f1
    subst f6
    exact ⟨b, f1, cell3, k3, f3, f2, f4, f5, f7⟩
  have hget : ∀ j : Nat, j < 256 → cc.slots[j]? = some (cc.slots.toList.getD j .null) := by
    intro j hj
    have h1 : j < cc.slots.toList.length := by simp; omega
    simp [List.getD_eq_getElem?_getD]
    have : j < cc.slots.size := by omega
    simp [this]
  refine ⟨a, cc.cls, cc.slots.toList, e1, ⟨cc, A, rfl, by rw [hz]; decide, by decide, fun j hj => hget j (by omega), fun j hj => ?_⟩, fun j hj => ?_⟩
  · obtain ⟨b, h1, -⟩ := hg j (by omega)
    have h2 := hget j (by omega)
    rw [h1] at h2
    rw [← Option.some.inj h2]; rfl
  · obtain ⟨b, h1, h3⟩ := hg j hj
    have h2 := hget j hj
    rw [h1] at h2
    exact ⟨b, (Option.some.inj h2).symm, h3⟩
theorem own_fldD {Z : State} {args : Array Value} {t : Term} {a : Addr} {C n d : String} {x : Int64} (ht : t.eval args Z none [] Z = some (.ref a)) (h : (Cond.eq (Term.field t C n d) (Term.op1 Jvm.Unary.bitsD (Term.long x))).value args Z none Z [] = some true) : Fld Z Z.heap a C n d (.double x.toUInt64) := by
  have e := fld_at (C := C) (n := n) (dd := d) ht
  have e2 : (Term.op1 Jvm.Unary.bitsD (Term.long x)).eval args Z none [] Z = some (.double x.toUInt64) := by simp [Term.eval, Jvm.Unary.apply]
  cases q : (Term.field t C n d).eval args Z none [] Z with
  | none => simp [Cond.value, q] at h
  | some v =>
    cases v <;> simp [Cond.value, q, e2] at h
    subst h
    exact Fld.start (e.symm.trans q)
theorem own_lcmp (x : Int64) : lcmpW x x = 0 := by simp [lcmpW]
theorem own_c {x k : Int32} (h : (x &&& (4095 : Int32)) = k) : 0 ≤ k.toInt ∧ k.toInt ≤ 4095 := by
  have m := c_mask x 4095 12 (by decide) (by decide)
  rw [h] at m
  omega
theorem own_4 {k : Int32} (h : 0 ≤ k.toInt ∧ k.toInt ≤ 4095) : ((4 : Int32) + k).toInt = 4 + k.toInt := by
  have e : (4 : Int32).toInt = 4 := rfl
  rw [Int32.toInt_add, e, Int.bmod_eq_of_le] <;> omega
theorem own_rep4 {n : Int} (h : 0 ≤ n ∧ n ≤ 4095) : Rep (((4 + n : Int) : Rat) / 4) := Rep.dy (-2) (by omega) (by decide) (by decide) (by decide +kernel)
theorem own_ge1 {n : Int} (h : 0 ≤ n) : ¬ ((((4 + n : Int) : Rat) / 4) < 1) := by
  have k : (4 : Rat) ≤ ((4 + n : Int) : Rat) := by exact_mod_cast (by omega : (4 : Int) ≤ 4 + n)
  grind
theorem own_inj {m n : Int} (h : ((4 + m : Int) : Rat) / 4 = ((4 + n : Int) : Rat) / 4) : m = n := by
  have : ((4 + m : Int) : Rat) = ((4 + n : Int) : Rat) := by grind
  have := Rat.intCast_inj.mp this
  omega
theorem own_dne {a b : UInt64} {x y : Rat} (ha : IsV a x) (hb : IsV b y) (h : x ≠ y) : FP.dcmp a b = some .lt ∨ FP.dcmp a b = some .gt := by
  rw [show FP.dcmp a b = _ from ha.cmp hb]
  by_cases h1 : x < y
  · simp [h1]
  · simp [h1, h]
theorem IsV.fin {a : UInt64} {x : Rat} (h : IsV a x) : Jvm.Free.Fl.Fin64 a := by
  obtain ⟨s, c, q, h1, -⟩ := h
  exact Jvm.Free.Fl.fin64_core.mpr ⟨s, c, q, h1⟩
theorem own_infgt {a : UInt64} {x : Rat} (h : IsV a x) : FP.dcmp 9218868437227405312 a = some .gt := (Jvm.FP.Core.fin_lt_inf (Jvm.Free.Fl.fin64_core.mp h.fin)).2.2.1
theorem own_inflt {a : UInt64} {x : Rat} (h : IsV a x) : FP.dcmp a 9218868437227405312 = some .lt := (Jvm.FP.Core.fin_lt_inf (Jvm.Free.Fl.fin64_core.mp h.fin)).1
theorem own_infnn : Jvm.Free.Fl.NoNaN64 9218868437227405312 := by unfold Jvm.Free.Fl.NoNaN64; decide
theorem own_ine {a b : Int32} (h : ¬ a = b) : a.toInt ≠ b.toInt := fun q => h (Int32.toInt_inj.mp q)
theorem own_cidx {x : Int32} (h1 : ¬ x < (-128 : Int32)) (h2 : ¬ (127 : Int32) < x) : (¬ (x + (128 : Int32)) < 0 ∧ (x + (128 : Int32)) < (256 : Int32)) ∧ (x + (128 : Int32)).toNatClampNeg < 256 := by
  have e1 : (-128 : Int32).toInt = -128 := rfl
  have e2 : (127 : Int32).toInt = 127 := rfl
  have e3 : (128 : Int32).toInt = 128 := rfl
  have e4 : (256 : Int32).toInt = 256 := rfl
  have e0 : (0 : Int32).toInt = 0 := rfl
  rw [Int32.lt_iff_toInt_lt] at h1 h2
  have a : (x + (128 : Int32)).toInt = x.toInt + 128 := by rw [Int32.toInt_add, e3, Int.bmod_eq_of_le] <;> omega
  refine ⟨⟨?_, ?_⟩, ?_⟩
  · rw [Int32.lt_iff_toInt_lt, a]; omega
  · rw [Int32.lt_iff_toInt_lt, a]; omega
  · rw [Int32.toNatClampNeg, a]; omega
theorem own_ne_ord {Z : State} {args : Array Value} {t u : Term} {a b : Addr} {C n d : String} {x y : Int32} (ht : t.eval args Z none [] Z = some (.ref a)) (hu : u.eval args Z none [] Z = some (.ref b)) (h1 : (Cond.eq (Term.field t C n d) (Term.int x)).value args Z none Z [] = some true) (h2 : (Cond.eq (Term.field u C n d) (Term.int y)).value args Z none Z [] = some true) (hxy : x ≠ y) : a ≠ b := by
  intro e
  subst e
  have e : (Term.field t C n d).eval args Z none [] Z = (Term.field u C n d).eval args Z none [] Z := by simp only [Term.eval, ht, hu]
  cases q : (Term.field u C n d).eval args Z none [] Z with
  | none => simp [Cond.value, q] at h2
  | some v =>
    rw [q] at e
    have e1 : v = .int x := by
      cases v <;> simp [Cond.value, e, Term.int_eval] at h1
      rw [h1]
    have e2 : v = .int y := by
      cases v <;> simp [Cond.value, q, Term.int_eval] at h2
      rw [h2]
    cases e1.symm.trans e2
    exact hxy rfl
theorem own_arvI {Z : State} {args : Array Value} {t : Term} {C : String} {N : Int32} (tab : List Int32) (hx : (Cond.arrayOf t .int).before args Z = true) (he : (Cond.exactly t C).before args Z = true) (hl : (Cond.eq (Term.length t) (Term.int N)).before args Z = true) (hN : N.toNatClampNeg = tab.length) (hN0 : ¬ N < 0) (hb : tab.length < 2147483648) (hE : ∀ i, i < tab.length → (Cond.eq (Term.elem t (Term.int (Int32.ofNat i))) (Term.int (tab.getD i 0))).before args Z = true) :
    ∃ a k, t.eval args Z none [] Z = some (.ref a) ∧ Arv Z Z.heap a k .int N (tab.map Value.int) (.int 0) ∧ Exa Z Z.heap a C := by
  obtain ⟨a, c', cell, k, e1, e2, e3, e4, e5, e6, e7⟩ := Cond.exactly_spec he
  obtain ⟨c, A⟩ := Arr.start e1 (Cond.before_iff.mp hx)
  have hv := Cond.before_iff.mp hl
  have hz : c.slots.size = N.toNatClampNeg := by
    cases q : (Term.length t).eval args Z none [] Z with
    | none => simp [Cond.value, q] at hv
    | some v =>
      obtain ⟨a', c2, h1, h2, h3, h4⟩ := length_spec q
      cases e1.symm.trans h1
      have hc : c2 = c := Option.some.inj (h2.symm.trans (IntBox.arrayAt_of A.1 A.2.1 A.2.2))
      subst hc h4
      rw [Cond.eq_ints q (Term.int_eval N)] at hv
      have h5 := of_decide_eq_true (Option.some.inj hv)
      rw [← h5]
      have h6 : (c2.slots.size.toInt32).toInt = c2.slots.size := Int32.toInt_ofNat_of_lt h3
      rw [Int32.toNatClampNeg, h6]; rfl
  have hg : ∀ i, i < c.slots.size → c.slots[i]? = some (.int (tab.getD i 0)) := by
    intro i hi
    have hi' : i < tab.length := by rw [← hN, ← hz]; exact hi
    have he := Cond.before_iff.mp (hE i hi')
    have hn0 : ¬ Int32.ofNat i < 0 := fun q => by
      rw [Int32.lt_iff_toInt_lt, Int32.toInt_ofNat_of_lt (by omega)] at q
      have e0 : (0 : Int32).toInt = 0 := rfl
      omega
    have hcl : (Int32.ofNat i).toNatClampNeg = i := by rw [Int32.toNatClampNeg, Int32.toInt_ofNat_of_lt (by omega)]; rfl
    have ev : (Term.elem t (Term.int (Int32.ofNat i))).eval args Z none [] Z = c.slots[i]? := by
      simp only [Term.eval, e1, Option.bind_eq_bind, Option.bind_some, hn0, if_false, IntBox.arrayAt_of A.1 A.2.1 A.2.2, hcl]
    cases q : c.slots[i]? with
    | none => rw [q] at ev; simp [Cond.value, ev] at he
    | some v =>
      rw [q] at ev
      cases v <;> simp [Cond.value, ev, Term.int_eval] at he
      rw [he]
      simp [List.getD_eq_getElem?_getD]
  have hget : ∀ i, i < c.slots.size → (tab.map Value.int).getD i (.int 0) = .int (tab.getD i 0) := by
    intro i hi
    have hi' : i < tab.length := by rw [← hN, ← hz]; exact hi
    simp [List.getD_eq_getElem?_getD, hi']
  exact ⟨a, c.cls, e1, ⟨c, A, rfl, hz, hN0, fun i hi => by rw [hg i hi, hget i hi], fun i hi => by rw [hget i hi]; rfl⟩, Exa.start e1 (Cond.before_iff.mp he)⟩
theorem own_fldI {Z : State} {args : Array Value} {t : Term} {a : Addr} {C n d : String} {x : Int32} (ht : t.eval args Z none [] Z = some (.ref a)) (h : (Cond.eq (Term.field t C n d) (Term.int x)).value args Z none Z [] = some true) : Fld Z Z.heap a C n d (.int x) := by
  have e := fld_at (C := C) (n := n) (dd := d) ht
  cases q : (Term.field t C n d).eval args Z none [] Z with
  | none => simp [Cond.value, q] at h
  | some v =>
    cases v <;> simp [Cond.value, q, Term.int_eval] at h
    subst h
    exact Fld.start (e.symm.trans q)
theorem own_evI {Z : State} {args : Array Value} {t : Term} {x : Int32} (h : (Cond.eq t (Term.int x)).value args Z none Z [] = some true) : t.eval args Z none [] Z = some (.int x) := by
  cases q : t.eval args Z none [] Z with
  | none => simp [Cond.value, q] at h
  | some v =>
    cases v <;> simp [Cond.value, q, Term.int_eval] at h
    rw [h]

set_option maxRecDepth 65536 in
set_option maxHeartbeats 40000000 in
theorem c_nan {l : Launch} {Z : State} {a0 : Array Value} (hw : W a0 Z) (d : UInt64) (h0 : Heap) (nn : Jvm.Free.Fl.NoNaN64 d) :
    Con l Z (⟨"java/lang/Double", "isNaN", "(D)Z"⟩ : MethodName) jdk_117_method_6_code 2 (some .boolean) ({ frames := 0, cells := 0, slots := 0, locals := 0 } : Room) #[(.double d)] h0 (fun v h' => v = some (.int 0) ∧ h' = h0) := by
  have hpn : plainName "java/lang/Double" = true := by first | (simp [plainName, overriddenIn]; done) | decide +kernel
  refine Con.intro (plainFor_of_name hpn) ?_
  intro p e s m below meth c T X
  refine Goes.cast (g' := mkF m 0 #[.val (.double d), .second] []) (by first | (simp [entryFrame, mkF, argsToLocals, Value.category]; done) | rfl) ?_
  refine o_dloadN X d_jdk_117_method_6_0 rfl (q := 1) rfl ?_
  refine o_dloadN X d_jdk_117_method_6_1 rfl (q := 2) rfl ?_
  refine o_dcmp X d_jdk_117_method_6_2 (w := (0 : Int32)) (dcmpV_self nn _) (q := 3) rfl ?_
  refine o_ifY X d_jdk_117_method_6_3 (by decide) (by decide) (q := 10) (by decide) ?_
  refine o_iconst X d_jdk_117_method_6_10 (w := 0) rfl (q := 11) rfl ?_
  exact o_retN X d_jdk_117_method_6_11 (by simp) ⟨rfl, rfl⟩ (by decide) (by decide)
set_option maxRecDepth 65536 in
set_option maxHeartbeats 40000000 in
theorem c_dlb {l : Launch} {Z : State} {a0 : Array Value} (hw : W a0 Z) (d : UInt64) (h0 : Heap) (nn : Jvm.Free.Fl.NoNaN64 d) :
    Con l Z (⟨"java/lang/Double", "doubleToLongBits", "(D)J"⟩ : MethodName) jdk_117_method_23_code 2 (some .long) ({ frames := 1, cells := 0, slots := 0, locals := 15 } : Room) #[(.double d)] h0 (fun v h' => v = some (.long d.toInt64) ∧ h' = h0) := by
  have hpn : plainName "java/lang/Double" = true := by first | (simp [plainName, overriddenIn]; done) | decide +kernel
  refine Con.intro (plainFor_of_name hpn) ?_
  intro p e s m below meth c T X
  refine Goes.cast (g' := mkF m 0 #[.val (.double d), .second] []) (by first | (simp [entryFrame, mkF, argsToLocals, Value.category]; done) | rfl) ?_
  refine o_dloadN X d_jdk_117_method_23_0 rfl (q := 1) rfl ?_
  refine o_stat X [(.double d)] (y' := (⟨"java/lang/Double", "isNaN", "(D)Z"⟩ : MethodName)) (c_nan hw d _ nn) (w28 hw) (w29 hw) (w23 hw) (w30 hw) (by decide) d_jdk_117_method_23_1 (rest := []) rfl rfl (lenOf pd0 rfl) rfl (by decide) (Nat.le_of_ble_eq_true rfl) (by decide) (by decide) (q := 4) rfl ?_
  intro v1 T1 h1 l1 X1 q1
  obtain ⟨rfl, e1⟩ := q1
  have e1 := e1.symm
  subst e1
  show Goes p e below _ T1 (mkF m 4 #[.val (.double d), .second] [(.int (0 : Int32))])
  refine o_ifN X1 d_jdk_117_method_23_4 (by decide) (q := 7) rfl ?_
  refine o_dloadN X1 d_jdk_117_method_23_7 rfl (q := 8) rfl ?_
  refine o_rawL X1 (w31 hw) (w33 hw) (w32 hw) (w23 hw) d_jdk_117_method_23_8 rfl (by decide) (Nat.le_of_ble_eq_true rfl) (q := 11) rfl ?_
  intro T2 X2
  exact o_retJ X2 d_jdk_117_method_23_11 ⟨rfl, rfl⟩ (by decide) (by decide)
set_option maxRecDepth 65536 in
set_option maxHeartbeats 40000000 in
theorem c_dcE {l : Launch} {Z : State} {a0 : Array Value} (hw : W a0 Z) (d : UInt64) (h0 : Heap) (nn : Jvm.Free.Fl.NoNaN64 d) :
    Con l Z (⟨"java/lang/Double", "compare", "(DD)I"⟩ : MethodName) jdk_117_method_27_code 8 (some .int) ({ frames := 2, cells := 0, slots := 0, locals := 28 } : Room) #[(.double d), (.double d)] h0 (fun v h' => v = some (.int 0) ∧ h' = h0) := by
  have hpn : plainName "java/lang/Double" = true := by first | (simp [plainName, overriddenIn]; done) | decide +kernel
  refine Con.intro (plainFor_of_name hpn) ?_
  intro p e s m below meth c T X
  refine Goes.cast (g' := mkF m 0 #[.val (.double d), .second, .val (.double d), .second, .unset, .unset, .unset, .unset] []) (by first | (simp [entryFrame, mkF, argsToLocals, Value.category]; done) | rfl) ?_
  refine o_dloadN X d_jdk_117_method_27_0 rfl (q := 1) rfl ?_
  refine o_dloadN X d_jdk_117_method_27_1 rfl (q := 2) rfl ?_
  refine o_dcmp X d_jdk_117_method_27_2 (w := (0 : Int32)) (dcmpV_self nn _) (q := 3) rfl ?_
  refine o_ifY X d_jdk_117_method_27_3 (by decide) (by decide) (q := 8) (by decide) ?_
  refine o_dloadN X d_jdk_117_method_27_8 rfl (q := 9) rfl ?_
  refine o_dloadN X d_jdk_117_method_27_9 rfl (q := 10) rfl ?_
  refine o_dcmp X d_jdk_117_method_27_10 (w := (0 : Int32)) (dcmpV_self nn _) (q := 11) rfl ?_
  refine o_ifY X d_jdk_117_method_27_11 (by decide) (by decide) (q := 16) (by decide) ?_
  refine o_dloadN X d_jdk_117_method_27_16 rfl (q := 17) rfl ?_
  refine o_stat X [(.double d)] (y' := (⟨"java/lang/Double", "doubleToLongBits", "(D)J"⟩ : MethodName)) (c_dlb hw d _ nn) (w25 hw) (w26 hw) (w23 hw) (w27 hw) (by decide) d_jdk_117_method_27_17 (rest := []) rfl rfl (lenOf pd1 rfl) rfl (by decide) (Nat.le_of_ble_eq_true rfl) (by decide) (by decide) (q := 20) rfl ?_
  intro v1 T1 h1 l1 X1 q1
  obtain ⟨rfl, e1⟩ := q1
  have e1 := e1.symm
  subst e1
  show Goes p e below _ T1 (mkF m 20 #[.val (.double d), .second, .val (.double d), .second, .unset, .unset, .unset, .unset] [(.long d.toInt64)])
  refine o_lstore X1 d_jdk_117_method_27_20 rfl (L' := #[.val (.double d), .second, .val (.double d), .second, .val (.long d.toInt64), .second, .unset, .unset]) rfl (q := 22) rfl ?_
  refine o_dloadN X1 d_jdk_117_method_27_22 rfl (q := 23) rfl ?_
  refine o_stat X1 [(.double d)] (y' := (⟨"java/lang/Double", "doubleToLongBits", "(D)J"⟩ : MethodName)) (c_dlb hw d _ nn) (w25 hw) (w26 hw) (w23 hw) (w27 hw) (by decide) d_jdk_117_method_27_23 (rest := []) rfl rfl (lenOf pd1 rfl) rfl (by decide) (Nat.le_of_ble_eq_true rfl) (by decide) (by decide) (q := 26) rfl ?_
  intro v2 T2 h2 l2 X2 q2
  obtain ⟨rfl, e2⟩ := q2
  have e2 := e2.symm
  subst e2
  show Goes p e below _ T2 (mkF m 26 #[.val (.double d), .second, .val (.double d), .second, .val (.long d.toInt64), .second, .unset, .unset] [(.long d.toInt64)])
  refine o_lstore X2 d_jdk_117_method_27_26 rfl (L' := #[.val (.double d), .second, .val (.double d), .second, .val (.long d.toInt64), .second, .val (.long d.toInt64), .second]) rfl (q := 28) rfl ?_
  refine o_lload X2 d_jdk_117_method_27_28 rfl (q := 30) rfl ?_
  refine o_lload X2 d_jdk_117_method_27_30 rfl (q := 32) rfl ?_
  refine o_lcmp X2 d_jdk_117_method_27_32 (w := (lcmpW d.toInt64 d.toInt64)) rfl (q := 33) rfl ?_
  refine o_ifN X2 d_jdk_117_method_27_33 (teq (own_lcmp _)).2 (q := 36) rfl ?_
  refine o_iconst X2 d_jdk_117_method_27_36 (w := 0) rfl (q := 37) rfl ?_
  refine o_goto X2 d_jdk_117_method_27_37 (by decide) (q := 53) (by decide) ?_
  exact o_retI X2 d_jdk_117_method_27_53 ⟨rfl, rfl⟩ (by decide) (by decide)
set_option maxRecDepth 65536 in
set_option maxHeartbeats 40000000 in
theorem c_dcL {l : Launch} {Z : State} {a0 : Array Value} (hw : W a0 Z) (d d' : UInt64) (h0 : Heap) (hlt : FP.dcmp d d' = some .lt) :
    Con l Z (⟨"java/lang/Double", "compare", "(DD)I"⟩ : MethodName) jdk_117_method_27_code 8 (some .int) ({ frames := 0, cells := 0, slots := 0, locals := 0 } : Room) #[(.double d), (.double d')] h0 (fun v h' => v = some (.int (-1 : Int32)) ∧ h' = h0) := by
  have hpn : plainName "java/lang/Double" = true := by first | (simp [plainName, overriddenIn]; done) | decide +kernel
  refine Con.intro (plainFor_of_name hpn) ?_
  intro p e s m below meth c T X
  refine Goes.cast (g' := mkF m 0 #[.val (.double d), .second, .val (.double d'), .second, .unset, .unset, .unset, .unset] []) (by first | (simp [entryFrame, mkF, argsToLocals, Value.category]; done) | rfl) ?_
  refine o_dloadN X d_jdk_117_method_27_0 rfl (q := 1) rfl ?_
  refine o_dloadN X d_jdk_117_method_27_1 rfl (q := 2) rfl ?_
  refine o_dcmp X d_jdk_117_method_27_2 (w := (-1 : Int32)) (by rw [hlt]; rfl) (q := 3) rfl ?_
  refine o_ifN X d_jdk_117_method_27_3 (by decide) (q := 6) rfl ?_
  refine o_iconst X d_jdk_117_method_27_6 (w := -1) rfl (q := 7) rfl ?_
  exact o_retI X d_jdk_117_method_27_7 ⟨rfl, rfl⟩ (by decide) (by decide)
set_option maxRecDepth 65536 in
set_option maxHeartbeats 40000000 in
theorem c_dcG {l : Launch} {Z : State} {a0 : Array Value} (hw : W a0 Z) (d d' : UInt64) (h0 : Heap) (hlt : FP.dcmp d d' = some .gt) :
    Con l Z (⟨"java/lang/Double", "compare", "(DD)I"⟩ : MethodName) jdk_117_method_27_code 8 (some .int) ({ frames := 0, cells := 0, slots := 0, locals := 0 } : Room) #[(.double d), (.double d')] h0 (fun v h' => v = some (.int (1 : Int32)) ∧ h' = h0) := by
  have hpn : plainName "java/lang/Double" = true := by first | (simp [plainName, overriddenIn]; done) | decide +kernel
  refine Con.intro (plainFor_of_name hpn) ?_
  intro p e s m below meth c T X
  refine Goes.cast (g' := mkF m 0 #[.val (.double d), .second, .val (.double d'), .second, .unset, .unset, .unset, .unset] []) (by first | (simp [entryFrame, mkF, argsToLocals, Value.category]; done) | rfl) ?_
  refine o_dloadN X d_jdk_117_method_27_0 rfl (q := 1) rfl ?_
  refine o_dloadN X d_jdk_117_method_27_1 rfl (q := 2) rfl ?_
  refine o_dcmp X d_jdk_117_method_27_2 (w := (1 : Int32)) (by rw [hlt]; rfl) (q := 3) rfl ?_
  refine o_ifY X d_jdk_117_method_27_3 (by decide) (by decide) (q := 8) (by decide) ?_
  refine o_dloadN X d_jdk_117_method_27_8 rfl (q := 9) rfl ?_
  refine o_dloadN X d_jdk_117_method_27_9 rfl (q := 10) rfl ?_
  refine o_dcmp X d_jdk_117_method_27_10 (w := (1 : Int32)) (by rw [hlt]; rfl) (q := 11) rfl ?_
  refine o_ifN X d_jdk_117_method_27_11 (by decide) (q := 14) rfl ?_
  refine o_iconst X d_jdk_117_method_27_14 (w := 1) rfl (q := 15) rfl ?_
  exact o_retI X d_jdk_117_method_27_15 ⟨rfl, rfl⟩ (by decide) (by decide)
set_option maxRecDepth 65536 in
set_option maxHeartbeats 40000000 in
theorem c_pn {l : Launch} {Z : State} {a0 : Array Value} (hw : W a0 Z) (a : Addr) (d : UInt64) (r : Rat) (h0 : Heap) (E : Exa Z h0 a "com/example/parkville/parkville/PNorm") (ga : Z.heap.size ≤ a) (Fp : Fld Z h0 a "com/example/parkville/parkville/PNorm" "p" "D" (.double (0 : UInt64))) (hv : IsV d r) (hr : ¬ r < 1) :
    Con l Z (⟨"com/example/parkville/parkville/PNorm", "<init>", "(D)V"⟩ : MethodName) prog_11_method_1_code 3 none ({ frames := 1, cells := 0, slots := 0, locals := 12 } : Room) #[(.ref a), (.double d)] h0 (fun v h' => v = none ∧ Keep h0 h' [a] ∧ Fld Z h' a "com/example/parkville/parkville/PNorm" "p" "D" (.double d)) := by
  have hpn : plainName "com/example/parkville/parkville/PNorm" = true := by first | (simp [plainName, overriddenIn]; done) | decide +kernel
  refine Con.intro (plainFor_of_name hpn) ?_
  intro p e s m below meth c T X
  refine Goes.cast (g' := mkF m 0 #[.val (.ref a), .val (.double d), .second] []) (by first | (simp [entryFrame, mkF, argsToLocals, Value.category]; done) | rfl) ?_
  refine o_aloadN X d_prog_11_method_1_0 rfl rfl (q := 1) rfl ?_
  refine o_initO X (w7 hw) (w8 hw) (w9 hw) d_prog_11_method_1_1 rfl (by decide) (Nat.le_of_ble_eq_true rfl) (q := 4) rfl ?_
  intro T1 X1
  refine o_dloadN X1 d_prog_11_method_1_4 rfl (q := 5) rfl ?_
  refine o_dconst1 X1 d_prog_11_method_1_5 (q := 6) rfl ?_
  refine o_dcmp X1 d_prog_11_method_1_6 (w := (cmpR r (1 : Rat))) (IsV.cmpV hv IsV.one _) (q := 7) rfl ?_
  refine o_ifY X1 d_prog_11_method_1_7 (flt (fun q => hr ((cmpR_lt _ _).mp q))).2.1 (by decide) (q := 24) (by decide) ?_
  refine o_aloadN X1 d_prog_11_method_1_24 rfl rfl (q := 25) rfl ?_
  refine o_dloadN X1 d_prog_11_method_1_25 rfl (q := 26) rfl ?_
  refine o_putF X1 Fp E ga (host := "") (Or.inl (w10 hw)) Via.refl (Or.inr ⟨(w11 hw), rfl, rfl⟩) (w1 hw) (ty := .double) (by decide) rfl rfl d_prog_11_method_1_26 (q := 29) rfl ?_
  intro T2 h2 l2 X2 W2 F2
  have k3 := Keep.wr (Keep.refl h0 [a]) W2 (Or.inl (by simp))
  exact o_ret X2 d_prog_11_method_1_29 ⟨rfl, k3, F2⟩ (by decide) (by decide)
set_option maxRecDepth 65536 in
set_option maxHeartbeats 40000000 in
theorem c_eqN {l : Launch} {Z : State} {a0 : Array Value} (hw : W a0 Z) (a : Addr) (h0 : Heap)  :
    Con l Z (⟨"com/example/parkville/parkville/PNorm", "equals", "(Ljava/lang/Object;)Z"⟩ : MethodName) prog_11_method_10_code 3 (some .boolean) ({ frames := 0, cells := 0, slots := 0, locals := 0 } : Room) #[(.ref a), .null] h0 (fun v h' => v = some (.int 0) ∧ h' = h0) := by
  have hpn : plainName "com/example/parkville/parkville/PNorm" = true := by first | (simp [plainName, overriddenIn]; done) | decide +kernel
  refine Con.intro (plainFor_of_name hpn) ?_
  intro p e s m below meth c T X
  refine Goes.cast (g' := mkF m 0 #[.val (.ref a), .val .null, .unset] []) (by first | (simp [entryFrame, mkF, argsToLocals, Value.category]; done) | rfl) ?_
  refine o_aloadN X d_prog_11_method_10_0 rfl rfl (q := 1) rfl ?_
  refine o_instNull X d_prog_11_method_10_1 (q := 4) rfl ?_
  refine o_ifY X d_prog_11_method_10_4 (by decide) (by decide) (q := 30) (by decide) ?_
  refine o_iconst X d_prog_11_method_10_30 (w := 0) rfl (q := 31) rfl ?_
  exact o_retN X d_prog_11_method_10_31 (by simp) ⟨rfl, rfl⟩ (by decide) (by decide)
set_option maxRecDepth 65536 in
set_option maxHeartbeats 40000000 in
theorem c_eqI {l : Launch} {Z : State} {a0 : Array Value} (hw : W a0 Z) (a b : Addr) (h0 : Heap) (Eb : Exa Z h0 b "java/lang/Integer") :
    Con l Z (⟨"com/example/parkville/parkville/PNorm", "equals", "(Ljava/lang/Object;)Z"⟩ : MethodName) prog_11_method_10_code 3 (some .boolean) ({ frames := 0, cells := 0, slots := 0, locals := 0 } : Room) #[(.ref a), (.ref b)] h0 (fun v h' => v = some (.int 0) ∧ h' = h0) := by
  have hpn : plainName "com/example/parkville/parkville/PNorm" = true := by first | (simp [plainName, overriddenIn]; done) | decide +kernel
  refine Con.intro (plainFor_of_name hpn) ?_
  intro p e s m below meth c T X
  refine Goes.cast (g' := mkF m 0 #[.val (.ref a), .val (.ref b), .unset] []) (by first | (simp [entryFrame, mkF, argsToLocals, Value.category]; done) | rfl) ?_
  refine o_aloadN X d_prog_11_method_10_0 rfl rfl (q := 1) rfl ?_
  refine o_instNo X Eb (ns_no (w41 hw) (w1 hw) (NS.step (w41 hw) (NS.step (w42 hw) (ns_root (w43 hw) (w1 hw) (by decide)) (by decide)) (by decide)) (by decide)) (w19 hw) d_prog_11_method_10_1 (q := 4) rfl ?_
  intro T1 X1
  refine o_ifY X1 d_prog_11_method_10_4 (by decide) (by decide) (q := 30) (by decide) ?_
  refine o_iconst X1 d_prog_11_method_10_30 (w := 0) rfl (q := 31) rfl ?_
  exact o_retN X1 d_prog_11_method_10_31 (by simp) ⟨rfl, rfl⟩ (by decide) (by decide)
set_option maxRecDepth 65536 in
set_option maxHeartbeats 40000000 in
theorem c_eqE {l : Launch} {Z : State} {a0 : Array Value} (hw : W a0 Z) (a b : Addr) (d : UInt64) (h0 : Heap) (Eb : Exa Z h0 b "com/example/parkville/parkville/PNorm") (Fa : Fld Z h0 a "com/example/parkville/parkville/PNorm" "p" "D" (.double d)) (Fb : Fld Z h0 b "com/example/parkville/parkville/PNorm" "p" "D" (.double d)) (nn : Jvm.Free.Fl.NoNaN64 d) :
    Con l Z (⟨"com/example/parkville/parkville/PNorm", "equals", "(Ljava/lang/Object;)Z"⟩ : MethodName) prog_11_method_10_code 3 (some .boolean) ({ frames := 3, cells := 0, slots := 0, locals := 47 } : Room) #[(.ref a), (.ref b)] h0 (fun v h' => v = some (.int 1) ∧ h' = h0) := by
  have hpn : plainName "com/example/parkville/parkville/PNorm" = true := by first | (simp [plainName, overriddenIn]; done) | decide +kernel
  refine Con.intro (plainFor_of_name hpn) ?_
  intro p e s m below meth c T X
  refine Goes.cast (g' := mkF m 0 #[.val (.ref a), .val (.ref b), .unset] []) (by first | (simp [entryFrame, mkF, argsToLocals, Value.category]; done) | rfl) ?_
  refine o_aloadN X d_prog_11_method_10_0 rfl rfl (q := 1) rfl ?_
  refine o_instY X (Ins.self Eb) (w19 hw) d_prog_11_method_10_1 (q := 4) rfl ?_
  intro T1 X1
  refine o_ifN X1 d_prog_11_method_10_4 (by decide) (q := 7) rfl ?_
  refine o_aloadN X1 d_prog_11_method_10_7 rfl rfl (q := 8) rfl ?_
  refine o_cast X1 (Ins.self Eb) (w19 hw) d_prog_11_method_10_8 (q := 11) rfl ?_
  intro T2 X2
  refine o_astoreN X2 d_prog_11_method_10_11 rfl (L' := #[.val (.ref a), .val (.ref b), .val (.ref b)]) rfl (q := 12) rfl ?_
  refine o_aloadN X2 d_prog_11_method_10_12 rfl rfl (q := 13) rfl ?_
  refine o_getF X2 Fa (host := "") (Or.inl (w10 hw)) Via.refl d_prog_11_method_10_13 (q := 16) rfl ?_
  intro T3 X3
  refine o_aloadN X3 d_prog_11_method_10_16 rfl rfl (q := 17) rfl ?_
  refine o_getF X3 Fb (host := "") (Or.inl (w10 hw)) Via.refl d_prog_11_method_10_17 (q := 20) rfl ?_
  intro T4 X4
  refine o_stat X4 [(.double d), (.double d)] (y' := (⟨"java/lang/Double", "compare", "(DD)I"⟩ : MethodName)) (c_dcE hw d _ nn) (w21 hw) (w22 hw) (w23 hw) (w24 hw) (by decide) d_prog_11_method_10_20 (rest := []) rfl rfl (lenOf pd2 rfl) rfl (by decide) (Nat.le_of_ble_eq_true rfl) (by decide) (by decide) (q := 23) rfl ?_
  intro v5 T5 h5 l5 X5 q5
  obtain ⟨rfl, e5⟩ := q5
  have e5 := e5.symm
  subst e5
  show Goes p e below _ T5 (mkF m 23 #[.val (.ref a), .val (.ref b), .val (.ref b)] [(.int (0 : Int32))])
  refine o_ifN X5 d_prog_11_method_10_23 (by decide) (q := 26) rfl ?_
  refine o_iconst X5 d_prog_11_method_10_26 (w := 1) rfl (q := 27) rfl ?_
  refine o_goto X5 d_prog_11_method_10_27 (by decide) (q := 31) (by decide) ?_
  exact o_retN X5 d_prog_11_method_10_31 (by simp) ⟨rfl, rfl⟩ (by decide) (by decide)
set_option maxRecDepth 65536 in
set_option maxHeartbeats 40000000 in
theorem c_eqL {l : Launch} {Z : State} {a0 : Array Value} (hw : W a0 Z) (a b : Addr) (d d' : UInt64) (h0 : Heap) (Eb : Exa Z h0 b "com/example/parkville/parkville/PNorm") (Fa : Fld Z h0 a "com/example/parkville/parkville/PNorm" "p" "D" (.double d)) (Fb : Fld Z h0 b "com/example/parkville/parkville/PNorm" "p" "D" (.double d')) (hlt : FP.dcmp d d' = some .lt) :
    Con l Z (⟨"com/example/parkville/parkville/PNorm", "equals", "(Ljava/lang/Object;)Z"⟩ : MethodName) prog_11_method_10_code 3 (some .boolean) ({ frames := 1, cells := 0, slots := 0, locals := 19 } : Room) #[(.ref a), (.ref b)] h0 (fun v h' => v = some (.int 0) ∧ h' = h0) := by
  have hpn : plainName "com/example/parkville/parkville/PNorm" = true := by first | (simp [plainName, overriddenIn]; done) | decide +kernel
  refine Con.intro (plainFor_of_name hpn) ?_
  intro p e s m below meth c T X
  refine Goes.cast (g' := mkF m 0 #[.val (.ref a), .val (.ref b), .unset] []) (by first | (simp [entryFrame, mkF, argsToLocals, Value.category]; done) | rfl) ?_
  refine o_aloadN X d_prog_11_method_10_0 rfl rfl (q := 1) rfl ?_
  refine o_instY X (Ins.self Eb) (w19 hw) d_prog_11_method_10_1 (q := 4) rfl ?_
  intro T1 X1
  refine o_ifN X1 d_prog_11_method_10_4 (by decide) (q := 7) rfl ?_
  refine o_aloadN X1 d_prog_11_method_10_7 rfl rfl (q := 8) rfl ?_
  refine o_cast X1 (Ins.self Eb) (w19 hw) d_prog_11_method_10_8 (q := 11) rfl ?_
  intro T2 X2
  refine o_astoreN X2 d_prog_11_method_10_11 rfl (L' := #[.val (.ref a), .val (.ref b), .val (.ref b)]) rfl (q := 12) rfl ?_
  refine o_aloadN X2 d_prog_11_method_10_12 rfl rfl (q := 13) rfl ?_
  refine o_getF X2 Fa (host := "") (Or.inl (w10 hw)) Via.refl d_prog_11_method_10_13 (q := 16) rfl ?_
  intro T3 X3
  refine o_aloadN X3 d_prog_11_method_10_16 rfl rfl (q := 17) rfl ?_
  refine o_getF X3 Fb (host := "") (Or.inl (w10 hw)) Via.refl d_prog_11_method_10_17 (q := 20) rfl ?_
  intro T4 X4
  refine o_stat X4 [(.double d), (.double d')] (y' := (⟨"java/lang/Double", "compare", "(DD)I"⟩ : MethodName)) (c_dcL hw d d' _ hlt) (w21 hw) (w22 hw) (w23 hw) (w24 hw) (by decide) d_prog_11_method_10_20 (rest := []) rfl rfl (lenOf pd2 rfl) rfl (by decide) (Nat.le_of_ble_eq_true rfl) (by decide) (by decide) (q := 23) rfl ?_
  intro v5 T5 h5 l5 X5 q5
  obtain ⟨rfl, e5⟩ := q5
  have e5 := e5.symm
  subst e5
  show Goes p e below _ T5 (mkF m 23 #[.val (.ref a), .val (.ref b), .val (.ref b)] [(.int (-1 : Int32))])
  refine o_ifY X5 d_prog_11_method_10_23 (by decide) (by decide) (q := 30) (by decide) ?_
  refine o_iconst X5 d_prog_11_method_10_30 (w := 0) rfl (q := 31) rfl ?_
  exact o_retN X5 d_prog_11_method_10_31 (by simp) ⟨rfl, rfl⟩ (by decide) (by decide)
set_option maxRecDepth 65536 in
set_option maxHeartbeats 40000000 in
theorem c_eqG {l : Launch} {Z : State} {a0 : Array Value} (hw : W a0 Z) (a b : Addr) (d d' : UInt64) (h0 : Heap) (Eb : Exa Z h0 b "com/example/parkville/parkville/PNorm") (Fa : Fld Z h0 a "com/example/parkville/parkville/PNorm" "p" "D" (.double d)) (Fb : Fld Z h0 b "com/example/parkville/parkville/PNorm" "p" "D" (.double d')) (hlt : FP.dcmp d d' = some .gt) :
    Con l Z (⟨"com/example/parkville/parkville/PNorm", "equals", "(Ljava/lang/Object;)Z"⟩ : MethodName) prog_11_method_10_code 3 (some .boolean) ({ frames := 1, cells := 0, slots := 0, locals := 19 } : Room) #[(.ref a), (.ref b)] h0 (fun v h' => v = some (.int 0) ∧ h' = h0) := by
  have hpn : plainName "com/example/parkville/parkville/PNorm" = true := by first | (simp [plainName, overriddenIn]; done) | decide +kernel
  refine Con.intro (plainFor_of_name hpn) ?_
  intro p e s m below meth c T X
  refine Goes.cast (g' := mkF m 0 #[.val (.ref a), .val (.ref b), .unset] []) (by first | (simp [entryFrame, mkF, argsToLocals, Value.category]; done) | rfl) ?_
  refine o_aloadN X d_prog_11_method_10_0 rfl rfl (q := 1) rfl ?_
  refine o_instY X (Ins.self Eb) (w19 hw) d_prog_11_method_10_1 (q := 4) rfl ?_
  intro T1 X1
  refine o_ifN X1 d_prog_11_method_10_4 (by decide) (q := 7) rfl ?_
  refine o_aloadN X1 d_prog_11_method_10_7 rfl rfl (q := 8) rfl ?_
  refine o_cast X1 (Ins.self Eb) (w19 hw) d_prog_11_method_10_8 (q := 11) rfl ?_
  intro T2 X2
  refine o_astoreN X2 d_prog_11_method_10_11 rfl (L' := #[.val (.ref a), .val (.ref b), .val (.ref b)]) rfl (q := 12) rfl ?_
  refine o_aloadN X2 d_prog_11_method_10_12 rfl rfl (q := 13) rfl ?_
  refine o_getF X2 Fa (host := "") (Or.inl (w10 hw)) Via.refl d_prog_11_method_10_13 (q := 16) rfl ?_
  intro T3 X3
  refine o_aloadN X3 d_prog_11_method_10_16 rfl rfl (q := 17) rfl ?_
  refine o_getF X3 Fb (host := "") (Or.inl (w10 hw)) Via.refl d_prog_11_method_10_17 (q := 20) rfl ?_
  intro T4 X4
  refine o_stat X4 [(.double d), (.double d')] (y' := (⟨"java/lang/Double", "compare", "(DD)I"⟩ : MethodName)) (c_dcG hw d d' _ hlt) (w21 hw) (w22 hw) (w23 hw) (w24 hw) (by decide) d_prog_11_method_10_20 (rest := []) rfl rfl (lenOf pd2 rfl) rfl (by decide) (Nat.le_of_ble_eq_true rfl) (by decide) (by decide) (q := 23) rfl ?_
  intro v5 T5 h5 l5 X5 q5
  obtain ⟨rfl, e5⟩ := q5
  have e5 := e5.symm
  subst e5
  show Goes p e below _ T5 (mkF m 23 #[.val (.ref a), .val (.ref b), .val (.ref b)] [(.int (1 : Int32))])
  refine o_ifY X5 d_prog_11_method_10_23 (by decide) (by decide) (q := 30) (by decide) ?_
  refine o_iconst X5 d_prog_11_method_10_30 (w := 0) rfl (q := 31) rfl ?_
  exact o_retN X5 d_prog_11_method_10_31 (by simp) ⟨rfl, rfl⟩ (by decide) (by decide)
theorem c_eqD {l : Launch} {Z : State} {a0 : Array Value} (hw : W a0 Z) (a b : Addr) (d d' : UInt64) (h0 : Heap) (Eb : Exa Z h0 b "com/example/parkville/parkville/PNorm") (Fa : Fld Z h0 a "com/example/parkville/parkville/PNorm" "p" "D" (.double d)) (Fb : Fld Z h0 b "com/example/parkville/parkville/PNorm" "p" "D" (.double d')) (hne : FP.dcmp d d' = some .lt ∨ FP.dcmp d d' = some .gt) :
    Con l Z (⟨"com/example/parkville/parkville/PNorm", "equals", "(Ljava/lang/Object;)Z"⟩ : MethodName) prog_11_method_10_code 3 (some .boolean) ({ frames := 1, cells := 0, slots := 0, locals := 19 } : Room) #[(.ref a), (.ref b)] h0 (fun v h' => v = some (.int 0) ∧ h' = h0) := by
  rcases hne with h | h
  · exact c_eqL hw a b d d' h0 Eb Fa Fb h
  · exact c_eqG hw a b d d' h0 Eb Fa Fb h
set_option maxRecDepth 65536 in
set_option maxHeartbeats 40000000 in
theorem c_num {l : Launch} {Z : State} {a0 : Array Value} (hw : W a0 Z) (a : Addr) (h0 : Heap)  :
    Con l Z (⟨"java/lang/Number", "<init>", "()V"⟩ : MethodName) jdk_18_method_1_code 1 none ({ frames := 1, cells := 0, slots := 0, locals := 12 } : Room) #[(.ref a)] h0 (fun v h' => v = none ∧ h' = h0) := by
  have hpn : plainName "java/lang/Number" = true := by first | (simp [plainName, overriddenIn]; done) | decide +kernel
  refine Con.intro (plainFor_of_name hpn) ?_
  intro p e s m below meth c T X
  refine Goes.cast (g' := mkF m 0 #[.val (.ref a)] []) (by first | (simp [entryFrame, mkF, argsToLocals, Value.category]; done) | rfl) ?_
  refine o_aloadN X d_jdk_18_method_1_0 rfl rfl (q := 1) rfl ?_
  refine o_initO X (w56 hw) (w8 hw) (w9 hw) d_jdk_18_method_1_1 rfl (by decide) (Nat.le_of_ble_eq_true rfl) (q := 4) rfl ?_
  intro T1 X1
  exact o_ret X1 d_jdk_18_method_1_4 ⟨rfl, rfl⟩ (by decide) (by decide)
set_option maxRecDepth 65536 in
set_option maxHeartbeats 40000000 in
theorem c_int {l : Launch} {Z : State} {a0 : Array Value} (hw : W a0 Z) (a : Addr) (n : Int32) (h0 : Heap) (E : Exa Z h0 a "java/lang/Integer") (ga : Z.heap.size ≤ a) (Fi : Fld Z h0 a "java/lang/Integer" "value" "I" (.int (0 : Int32))) :
    Con l Z (⟨"java/lang/Integer", "<init>", "(I)V"⟩ : MethodName) jdk_33_method_23_code 2 none ({ frames := 2, cells := 0, slots := 0, locals := 24 } : Room) #[(.ref a), (.int n)] h0 (fun v h' => v = none ∧ Keep h0 h' [a]) := by
  have hpn : plainName "java/lang/Integer" = true := by first | (simp [plainName, overriddenIn]; done) | decide +kernel
  refine Con.intro (plainFor_of_name hpn) ?_
  intro p e s m below meth c T X
  refine Goes.cast (g' := mkF m 0 #[.val (.ref a), .val (.int n)] []) (by first | (simp [entryFrame, mkF, argsToLocals, Value.category]; done) | rfl) ?_
  refine o_aloadN X d_jdk_33_method_23_0 rfl rfl (q := 1) rfl ?_
  refine o_spec X [] (y' := (⟨"java/lang/Number", "<init>", "()V"⟩ : MethodName)) (c_num hw a _) rfl (w50 hw) (w51 hw) (w55 hw) (w54 hw) (by decide) d_jdk_33_method_23_1 (rest := []) rfl rfl (lenOf pd3 rfl) rfl (by decide) (Nat.le_of_ble_eq_true rfl) (by decide) (by decide) (q := 4) rfl ?_
  intro v1 T1 h1 l1 X1 q1
  obtain ⟨rfl, e1⟩ := q1
  have e1 := e1.symm
  subst e1
  show Goes p e below _ T1 (mkF m 4 #[.val (.ref a), .val (.int n)] [])
  refine o_aloadN X1 d_jdk_33_method_23_4 rfl rfl (q := 5) rfl ?_
  refine o_iloadN X1 d_jdk_33_method_23_5 rfl (q := 6) rfl ?_
  refine o_putF X1 Fi E ga (host := "") (Or.inl (w57 hw)) Via.refl (Or.inr ⟨(w58 hw), rfl, rfl⟩) (w45 hw) (ty := .int) (by decide) rfl rfl d_jdk_33_method_23_6 (q := 9) rfl ?_
  intro T2 h2 l2 X2 W2 F2
  have k3 := Keep.wr (Keep.refl h0 [a]) W2 (Or.inl (by simp))
  exact o_ret X2 d_jdk_33_method_23_9 ⟨rfl, k3⟩ (by decide) (by decide)
set_option maxRecDepth 65536 in
set_option maxHeartbeats 40000000 in
theorem c_vof {l : Launch} {Z : State} {a0 : Array Value} (hw : W a0 Z) (n : Int32) (h0 : Heap) {ca_ : Addr} {kc : ClassId} {vsC : List Value} (SHI : Sta Z Z.heap "java/lang/Integer$IntegerCache" "high" "I" (.int 127)) (SCA : Sta Z Z.heap "java/lang/Integer$IntegerCache" "cache" "[Ljava/lang/Integer;" (.ref ca_)) (VCA : Arv Z Z.heap ca_ kc (.object "java/lang/Integer") 256 vsC .null) (HCA : ∀ j : Nat, j < 256 → ∃ b, vsC.getD j .null = .ref b ∧ Exa Z Z.heap b "java/lang/Integer") :
    Con l Z (⟨"java/lang/Integer", "valueOf", "(I)Ljava/lang/Integer;"⟩ : MethodName) jdk_33_method_22_code 1 (some (.object "java/lang/Integer")) ({ frames := 3, cells := 1, slots := 1, locals := 38 } : Room) #[(.int n)] h0 (fun v h' => ∃ r : Addr, v = some (.ref r) ∧ Keep h0 h' [] ∧ Exa Z h' r "java/lang/Integer") := by
  have hpn : plainName "java/lang/Integer" = true := by first | (simp [plainName, overriddenIn]; done) | decide +kernel
  refine Con.intro (plainFor_of_name hpn) ?_
  intro p e s m below meth c T X
  refine Goes.cast (g' := mkF m 0 #[.val (.int n)] []) (by first | (simp [entryFrame, mkF, argsToLocals, Value.category]; done) | rfl) ?_
  refine o_iloadN X d_jdk_33_method_22_0 rfl (q := 1) rfl ?_
  refine o_bipush X d_jdk_33_method_22_1 (w := -128) rfl (q := 3) rfl ?_
  by_cases hc3 : n < (-128 : Int32)
  · refine o_icmpY X d_jdk_33_method_22_3 (tlt hc3).1 (by decide) (q := 23) (by decide) ?_
    refine o_new X (w44 hw) (w45 hw) (w36 hw) d_jdk_33_method_22_23 (by decide) (by decide) (q := 26) rfl ?_
    intro T1 h1 b1 gb1 X1 E1 A1 D1 g0_b1
    have f2 : Fld Z h1 b1 "java/lang/Integer" "value" "I" (.int (0 : Int32)) := D1 (Or.inr (w58 hw)) (ty := .int) (by decide)
    refine o_dup X1 d_jdk_33_method_22_26 rfl (q := 27) rfl ?_
    refine o_iloadN X1 d_jdk_33_method_22_27 rfl (q := 28) rfl ?_
    refine o_spec X1 [(.int n)] (y' := (⟨"java/lang/Integer", "<init>", "(I)V"⟩ : MethodName)) (c_int hw b1 n _ A1 g0_b1 f2) rfl (w46 hw) (w47 hw) (w49 hw) (w36 hw) (by decide) d_jdk_33_method_22_28 (rest := [(.ref b1)]) rfl rfl (lenOf pd4 rfl) rfl (by decide) (Nat.le_of_ble_eq_true rfl) (by decide) (by decide) (q := 31) rfl ?_
    intro v3 T3 h3 l3 X3 q3
    obtain ⟨rfl, K3⟩ := q3
    show Goes p e below _ T3 (mkF m 31 #[.val (.int n)] [(.ref b1)])
    have sz4 := Nat.le_trans (Keep.refl h0 []).1 (Nat.le_of_eq gb1.symm)
    have k5 := Keep.ext (Keep.refl h0 []) E1
    have k6 := Keep.trans k5 K3 (allS (Or.inr sz4) all0)
    have f7 := (A1.keep K3)
    exact o_retR X3 d_jdk_33_method_22_31 rfl rfl rfl ⟨b1, rfl, k6, f7⟩ (by decide) (by decide)
  · refine o_icmpN X d_jdk_33_method_22_3 (flt hc3).1 (q := 6) rfl ?_
    refine o_iloadN X d_jdk_33_method_22_6 rfl (q := 7) rfl ?_
    refine o_getS X SHI (host := "") (Or.inl (w38 hw)) Via.refl d_jdk_33_method_22_7 (q := 10) rfl ?_
    intro T8 X8
    by_cases hc10 : (127 : Int32) < n
    · refine o_icmpY X8 d_jdk_33_method_22_10 (tlt hc10).2.2.1 (by decide) (q := 23) (by decide) ?_
      refine o_new X8 (w44 hw) (w45 hw) (w36 hw) d_jdk_33_method_22_23 (by decide) (by decide) (q := 26) rfl ?_
      intro T9 h9 b9 gb9 X9 E9 A9 D9 g0_b9
      have f10 : Fld Z h9 b9 "java/lang/Integer" "value" "I" (.int (0 : Int32)) := D9 (Or.inr (w58 hw)) (ty := .int) (by decide)
      refine o_dup X9 d_jdk_33_method_22_26 rfl (q := 27) rfl ?_
      refine o_iloadN X9 d_jdk_33_method_22_27 rfl (q := 28) rfl ?_
      refine o_spec X9 [(.int n)] (y' := (⟨"java/lang/Integer", "<init>", "(I)V"⟩ : MethodName)) (c_int hw b9 n _ A9 g0_b9 f10) rfl (w46 hw) (w47 hw) (w49 hw) (w36 hw) (by decide) d_jdk_33_method_22_28 (rest := [(.ref b9)]) rfl rfl (lenOf pd4 rfl) rfl (by decide) (Nat.le_of_ble_eq_true rfl) (by decide) (by decide) (q := 31) rfl ?_
      intro v11 T11 h11 l11 X11 q11
      obtain ⟨rfl, K11⟩ := q11
      show Goes p e below _ T11 (mkF m 31 #[.val (.int n)] [(.ref b9)])
      have sz12 := Nat.le_trans (Keep.refl h0 []).1 (Nat.le_of_eq gb9.symm)
      have k13 := Keep.ext (Keep.refl h0 []) E9
      have k14 := Keep.trans k13 K11 (allS (Or.inr sz12) all0)
      have f15 := (A9.keep K11)
      exact o_retR X11 d_jdk_33_method_22_31 rfl rfl rfl ⟨b9, rfl, k14, f15⟩ (by decide) (by decide)
    · refine o_icmpN X8 d_jdk_33_method_22_10 (flt hc10).2.2.1 (q := 13) rfl ?_
      refine o_getS X8 SCA (host := "") (Or.inl (w40 hw)) Via.refl d_jdk_33_method_22_13 (q := 16) rfl ?_
      intro T16 X16
      refine o_iloadN X16 d_jdk_33_method_22_16 rfl (q := 17) rfl ?_
      refine o_sipush X16 d_jdk_33_method_22_17 (w := 128) rfl (q := 20) rfl ?_
      refine o_iadd X16 d_jdk_33_method_22_20 (w := (n + (128 : Int32))) rfl (q := 21) rfl ?_
      have hci := own_cidx hc3 hc10
      obtain ⟨el, hel, Eel⟩ := HCA _ hci.2
      refine o_aaload X16 (VCA.ext X16.ext) rfl hci.1 (v := .ref el) hel d_jdk_33_method_22_21 (q := 22) rfl ?_
      exact o_retR X16 d_jdk_33_method_22_22 rfl rfl rfl ⟨el, rfl, (Keep.refl h0 []), (Eel.ext X16.ext)⟩ (by decide) (by decide)
set_option maxRecDepth 65536 in
set_option maxHeartbeats 40000000 in
theorem c_law {l : Launch} {Z : State} {a0 : Array Value} (hw : W a0 Z) (p0 p1 p2 : Int32) {st : Addr} (SST : Sta Z Z.heap "com/example/parkville/parkville/PNorm" "STRICT" "Lcom/example/parkville/parkville/PNorm;" (.ref st)) (EST : Exa Z Z.heap st "com/example/parkville/parkville/PNorm") (FST : Fld Z Z.heap st "com/example/parkville/parkville/PNorm" "p" "D" (.double (9218868437227405312 : UInt64))) {ca_ : Addr} {kc : ClassId} {vsC : List Value} (SHI : Sta Z Z.heap "java/lang/Integer$IntegerCache" "high" "I" (.int 127)) (SCA : Sta Z Z.heap "java/lang/Integer$IntegerCache" "cache" "[Ljava/lang/Integer;" (.ref ca_)) (VCA : Arv Z Z.heap ca_ kc (.object "java/lang/Integer") 256 vsC .null) (HCA : ∀ j : Nat, j < 256 → ∃ b, vsC.getD j .null = .ref b ∧ Exa Z Z.heap b "java/lang/Integer") :
    Con l Z x code maxLocals ret room_1 #[(.int p0), (.int p1), (.int p2)] Z.heap (fun v h' => v = some (.int 1)) := by
  have hpn : plainName "com/example/parkville/parkville/PNormEqualsPinLaw" = true := by first | (simp [plainName, overriddenIn]; done) | decide +kernel
  refine Con.intro (plainFor_of_name hpn) ?_
  intro p e s m below meth c T X
  refine Goes.cast (g' := mkF m 0 #[.val (.int p0), .val (.int p1), .val (.int p2), .unset, .unset, .unset, .unset, .unset, .unset, .unset, .unset, .unset, .unset] []) (by first | (simp [entryFrame, mkF, argsToLocals, Value.category, maxLocals]; done) | rfl) ?_
  refine o_iloadN X at_0 rfl (q := 1) rfl ?_
  refine o_iconst X at_1 (w := 1) rfl (q := 2) rfl ?_
  refine o_iand X at_2 (w := (p2 &&& (1 : Int32))) rfl (q := 3) rfl ?_
  by_cases hc3 : (p2 &&& (1 : Int32)) = (0 : Int32)
  · refine o_ifY X at_3 (teq hc3).1 (by decide) (q := 10) (by decide) ?_
    refine o_iconst X at_10 (w := 0) rfl (q := 11) rfl ?_
    refine o_istoreN X at_11 rfl (L' := #[.val (.int p0), .val (.int p1), .val (.int p2), .val (.int (0 : Int32)), .unset, .unset, .unset, .unset, .unset, .unset, .unset, .unset, .unset]) rfl (q := 12) rfl ?_
    refine o_iloadN X at_12 rfl (q := 13) rfl ?_
    refine o_iconst X at_13 (w := 2) rfl (q := 14) rfl ?_
    refine o_iand X at_14 (w := (p2 &&& (2 : Int32))) rfl (q := 15) rfl ?_
    by_cases hc15 : (p2 &&& (2 : Int32)) = (0 : Int32)
    · refine o_ifY X at_15 (teq hc15).1 (by decide) (q := 22) (by decide) ?_
      refine o_iconst X at_22 (w := 0) rfl (q := 23) rfl ?_
      refine o_istore X at_23 rfl (L' := #[.val (.int p0), .val (.int p1), .val (.int p2), .val (.int (0 : Int32)), .val (.int (0 : Int32)), .unset, .unset, .unset, .unset, .unset, .unset, .unset, .unset]) rfl (q := 25) rfl ?_
      refine o_iloadN X at_25 rfl (q := 26) rfl ?_
      refine o_iconst X at_26 (w := 2) rfl (q := 27) rfl ?_
      refine o_iushr X at_27 (w := ((p2.toUInt32 >>> ((2 : Int32) &&& 31).toUInt32).toInt32)) rfl (q := 28) rfl ?_
      refine o_iconst X at_28 (w := 3) rfl (q := 29) rfl ?_
      refine o_iand X at_29 (w := (((p2.toUInt32 >>> ((2 : Int32) &&& 31).toUInt32).toInt32) &&& (3 : Int32))) rfl (q := 30) rfl ?_
      obtain ⟨kd, h_kd⟩ : ∃ z : Int32, (((p2.toUInt32 >>> ((2 : Int32) &&& 31).toUInt32).toInt32) &&& (3 : Int32)) = z := ⟨_, rfl⟩
      refine o_istore X at_30 h_kd (L' := #[.val (.int p0), .val (.int p1), .val (.int p2), .val (.int (0 : Int32)), .val (.int (0 : Int32)), .val (.int kd), .unset, .unset, .unset, .unset, .unset, .unset, .unset]) rfl (q := 32) rfl ?_
      refine o_iloadN X at_32 rfl (q := 33) rfl ?_
      refine o_bipush X at_33 (w := 16) rfl (q := 35) rfl ?_
      refine o_iand X at_35 (w := (p2 &&& (16 : Int32))) rfl (q := 36) rfl ?_
      by_cases hc36 : (p2 &&& (16 : Int32)) = (0 : Int32)
      · refine o_ifY X at_36 (teq hc36).1 (by decide) (q := 43) (by decide) ?_
        refine o_iconst X at_43 (w := 0) rfl (q := 44) rfl ?_
        refine o_istore X at_44 rfl (L' := #[.val (.int p0), .val (.int p1), .val (.int p2), .val (.int (0 : Int32)), .val (.int (0 : Int32)), .val (.int kd), .val (.int (0 : Int32)), .unset, .unset, .unset, .unset, .unset, .unset]) rfl (q := 46) rfl ?_
        refine o_iloadN X at_46 rfl (q := 47) rfl ?_
        refine o_sipush X at_47 (w := 4095) rfl (q := 50) rfl ?_
        refine o_iand X at_50 (w := (p0 &&& (4095 : Int32))) rfl (q := 51) rfl ?_
        obtain ⟨ca, h_ca⟩ : ∃ z : Int32, (p0 &&& (4095 : Int32)) = z := ⟨_, rfl⟩
        refine o_istore X at_51 h_ca (L' := #[.val (.int p0), .val (.int p1), .val (.int p2), .val (.int (0 : Int32)), .val (.int (0 : Int32)), .val (.int kd), .val (.int (0 : Int32)), .val (.int ca), .unset, .unset, .unset, .unset, .unset]) rfl (q := 53) rfl ?_
        refine o_iload X at_53 rfl (q := 55) rfl ?_
        refine o_ifY X at_55 (by decide) (by decide) (q := 63) (by decide) ?_
        refine o_iloadN X at_63 rfl (q := 64) rfl ?_
        refine o_sipush X at_64 (w := 4095) rfl (q := 67) rfl ?_
        refine o_iand X at_67 (w := (p1 &&& (4095 : Int32))) rfl (q := 68) rfl ?_
        refine o_istore X at_68 rfl (L' := #[.val (.int p0), .val (.int p1), .val (.int p2), .val (.int (0 : Int32)), .val (.int (0 : Int32)), .val (.int kd), .val (.int (0 : Int32)), .val (.int ca), .val (.int (p1 &&& (4095 : Int32))), .unset, .unset, .unset, .unset]) rfl (q := 70) rfl ?_
        refine o_iloadN X at_70 rfl (q := 71) rfl ?_
        refine o_ifY X at_71 (by decide) (by decide) (q := 80) (by decide) ?_
        refine o_new X (w0 hw) (w1 hw) (w2 hw) at_80 (by decide) (by decide) (q := 83) rfl ?_
        intro T1 h1 b1 gb1 X1 E1 A1 D1 g0_b1
        have f2 : Fld Z h1 b1 "com/example/parkville/parkville/PNorm" "p" "D" (.double (0 : UInt64)) := D1 (Or.inr (w11 hw)) (ty := .double) (by decide)
        refine o_dup X1 at_83 rfl (q := 84) rfl ?_
        refine o_iconst X1 at_84 (w := 4) rfl (q := 85) rfl ?_
        refine o_iload X1 at_85 rfl (q := 87) rfl ?_
        refine o_iadd X1 at_87 (w := ((4 : Int32) + ca)) rfl (q := 88) rfl ?_
        obtain ⟨d3, hd3⟩ : ∃ z : UInt64, FP.i2d ((4 : Int32) + ca) = z := ⟨_, rfl⟩
        have iv3 : IsV d3 ((4 + (ca).toInt : Int) : Rat) := ((hd3 ▸ IsV.i2d _) : IsV d3 ((((4 : Int32) + ca)).toInt : Rat)).eqv (congrArg (fun z : Int => (z : Rat)) (own_4 (own_c h_ca)))
        refine o_i2d X1 at_88 hd3 (q := 89) rfl ?_
        have iv4 : IsV (4616189618054758400 : UInt64) (4 : Rat) := ⟨false, 4503599627370496, (-50), by decide +kernel, by decide +kernel⟩
        refine o_ldcD X1 (w3 hw) at_89 (q := 92) rfl ?_
        obtain ⟨d5, hd5⟩ : ∃ z : UInt64, FP.ddiv d3 (4616189618054758400 : UInt64) = z := ⟨_, rfl⟩
        have iv5 : IsV d5 (((4 + (ca).toInt : Int) : Rat) / 4) := hd5 ▸ (IsV.div iv3 iv4 (by decide) (own_rep4 (own_c h_ca)))
        refine o_ddiv X1 at_92 (hd5.symm ▸ iv5.nn) hd5 (q := 93) rfl ?_
        refine o_spec X1 [(.double d5)] (y' := (⟨"com/example/parkville/parkville/PNorm", "<init>", "(D)V"⟩ : MethodName)) (c_pn hw b1 d5 (((4 + (ca).toInt : Int) : Rat) / 4) _ A1 g0_b1 f2 iv5 (own_ge1 (own_c h_ca).1)) rfl (w4 hw) (w5 hw) (w6 hw) (w2 hw) (by decide) at_93 (rest := [(.ref b1)]) rfl rfl (lenOf pd5 rfl) rfl (by decide) (Nat.le_of_ble_eq_true rfl) (by decide) (by decide) (q := 96) rfl ?_
        intro v6 T6 h6 l6 X6 q6
        obtain ⟨rfl, K6, Fp6⟩ := q6
        show Goes p e below _ T6 (mkF m 96 #[.val (.int p0), .val (.int p1), .val (.int p2), .val (.int (0 : Int32)), .val (.int (0 : Int32)), .val (.int kd), .val (.int (0 : Int32)), .val (.int ca), .val (.int (p1 &&& (4095 : Int32))), .unset, .unset, .unset, .unset] [(.ref b1)])
        refine o_astore X6 at_96 rfl (L' := #[.val (.int p0), .val (.int p1), .val (.int p2), .val (.int (0 : Int32)), .val (.int (0 : Int32)), .val (.int kd), .val (.int (0 : Int32)), .val (.int ca), .val (.int (p1 &&& (4095 : Int32))), .val (.ref b1), .unset, .unset, .unset]) rfl (q := 98) rfl ?_
        refine o_iload X6 at_98 rfl (q := 100) rfl ?_
        refine o_ifY X6 at_100 (by decide) (by decide) (q := 109) (by decide) ?_
        refine o_new X6 (w0 hw) (w1 hw) (w2 hw) at_109 (by decide) (by decide) (q := 112) rfl ?_
        intro T7 h7 b7 gb7 X7 E7 A7 D7 g0_b7
        have f8 : Fld Z h7 b7 "com/example/parkville/parkville/PNorm" "p" "D" (.double (0 : UInt64)) := D7 (Or.inr (w11 hw)) (ty := .double) (by decide)
        refine o_dup X7 at_112 rfl (q := 113) rfl ?_
        refine o_iconst X7 at_113 (w := 4) rfl (q := 114) rfl ?_
        refine o_iload X7 at_114 rfl (q := 116) rfl ?_
        refine o_iadd X7 at_116 (w := ((4 : Int32) + (p1 &&& (4095 : Int32)))) rfl (q := 117) rfl ?_
        obtain ⟨d9, hd9⟩ : ∃ z : UInt64, FP.i2d ((4 : Int32) + (p1 &&& (4095 : Int32))) = z := ⟨_, rfl⟩
        have iv9 : IsV d9 ((4 + ((p1 &&& (4095 : Int32))).toInt : Int) : Rat) := ((hd9 ▸ IsV.i2d _) : IsV d9 ((((4 : Int32) + (p1 &&& (4095 : Int32)))).toInt : Rat)).eqv (congrArg (fun z : Int => (z : Rat)) (own_4 (own_c rfl)))
        refine o_i2d X7 at_117 hd9 (q := 118) rfl ?_
        have iv10 : IsV (4616189618054758400 : UInt64) (4 : Rat) := ⟨false, 4503599627370496, (-50), by decide +kernel, by decide +kernel⟩
        refine o_ldcD X7 (w3 hw) at_118 (q := 121) rfl ?_
        obtain ⟨d11, hd11⟩ : ∃ z : UInt64, FP.ddiv d9 (4616189618054758400 : UInt64) = z := ⟨_, rfl⟩
        have iv11 : IsV d11 (((4 + ((p1 &&& (4095 : Int32))).toInt : Int) : Rat) / 4) := hd11 ▸ (IsV.div iv9 iv10 (by decide) (own_rep4 (own_c rfl)))
        refine o_ddiv X7 at_121 (hd11.symm ▸ iv11.nn) hd11 (q := 122) rfl ?_
        refine o_spec X7 [(.double d11)] (y' := (⟨"com/example/parkville/parkville/PNorm", "<init>", "(D)V"⟩ : MethodName)) (c_pn hw b7 d11 (((4 + ((p1 &&& (4095 : Int32))).toInt : Int) : Rat) / 4) _ A7 g0_b7 f8 iv11 (own_ge1 (own_c rfl).1)) rfl (w4 hw) (w5 hw) (w6 hw) (w2 hw) (by decide) at_122 (rest := [(.ref b7)]) rfl rfl (lenOf pd5 rfl) rfl (by decide) (Nat.le_of_ble_eq_true rfl) (by decide) (by decide) (q := 125) rfl ?_
        intro v12 T12 h12 l12 X12 q12
        obtain ⟨rfl, K12, Fp12⟩ := q12
        show Goes p e below _ T12 (mkF m 125 #[.val (.int p0), .val (.int p1), .val (.int p2), .val (.int (0 : Int32)), .val (.int (0 : Int32)), .val (.int kd), .val (.int (0 : Int32)), .val (.int ca), .val (.int (p1 &&& (4095 : Int32))), .val (.ref b1), .unset, .unset, .unset] [(.ref b7)])
        refine o_astore X12 at_125 rfl (L' := #[.val (.int p0), .val (.int p1), .val (.int p2), .val (.int (0 : Int32)), .val (.int (0 : Int32)), .val (.int kd), .val (.int (0 : Int32)), .val (.int ca), .val (.int (p1 &&& (4095 : Int32))), .val (.ref b1), .val (.ref b7), .unset, .unset]) rfl (q := 127) rfl ?_
        refine o_iload X12 at_127 rfl (q := 129) rfl ?_
        by_cases hc129 : kd = (0 : Int32)
        · refine o_ifN X12 at_129 (teq hc129).2 (q := 132) rfl ?_
          refine o_aload X12 at_132 rfl rfl (q := 134) rfl ?_
          refine o_astore X12 at_134 rfl (L' := #[.val (.int p0), .val (.int p1), .val (.int p2), .val (.int (0 : Int32)), .val (.int (0 : Int32)), .val (.int kd), .val (.int (0 : Int32)), .val (.int ca), .val (.int (p1 &&& (4095 : Int32))), .val (.ref b1), .val (.ref b7), .val (.ref b7), .unset]) rfl (q := 136) rfl ?_
          refine o_iloadN X12 at_136 rfl (q := 137) rfl ?_
          refine o_iload X12 at_137 rfl (q := 139) rfl ?_
          refine o_icmpN X12 at_139 (by decide) (q := 142) rfl ?_
          refine o_iloadN X12 at_142 rfl (q := 143) rfl ?_
          refine o_ifN X12 at_143 (by decide) (q := 146) rfl ?_
          refine o_iload X12 at_146 rfl (q := 148) rfl ?_
          refine o_iload X12 at_148 rfl (q := 150) rfl ?_
          by_cases hc150 : ca = (p1 &&& (4095 : Int32))
          · refine o_icmpN X12 at_150 (teq hc150).2 (q := 153) rfl ?_
            refine o_iconst X12 at_153 (w := 1) rfl (q := 154) rfl ?_
            refine o_goto X12 at_154 (by decide) (q := 158) (by decide) ?_
            refine o_istore X12 at_158 rfl (L' := #[.val (.int p0), .val (.int p1), .val (.int p2), .val (.int (0 : Int32)), .val (.int (0 : Int32)), .val (.int kd), .val (.int (0 : Int32)), .val (.int ca), .val (.int (p1 &&& (4095 : Int32))), .val (.ref b1), .val (.ref b7), .val (.ref b7), .val (.int (1 : Int32))]) rfl (q := 160) rfl ?_
            refine o_goto X12 at_160 (by decide) (q := 203) (by decide) ?_
            refine o_aload X12 at_203 rfl rfl (q := 205) rfl ?_
            refine o_aload X12 at_205 rfl rfl (q := 207) rfl ?_
            have heq : d5 = d11 := by
              rw [← hd5, ← hd11, ← hd3, ← hd9, hc150]
            have f13 := (A7.keep K12)
            have f14 := ((Fp6.ext E7).keep K12 (ninS (Nat.ne_of_lt (Nat.lt_of_lt_of_le Fp6.lt (Nat.le_of_eq gb7.symm))) nin0))
            have f16 := (((A1.keep K6).ext E7).keep K12)
            refine o_virt X12 [(.ref b7)] (y' := (⟨"com/example/parkville/parkville/PNorm", "equals", "(Ljava/lang/Object;)Z"⟩ : MethodName)) f16 (c_eqE hw b1 b7 d5 _ f13 f14 (heq ▸ Fp12) iv5.nn) (w14 hw) (w15 hw) (w17 hw) (w16 hw) (w18 hw) (w2 hw) (by decide) at_207 (rest := []) rfl rfl (lenOf pd6 rfl) rfl (by decide) (Nat.le_of_ble_eq_true rfl) (by decide) (by decide) (q := 210) rfl ?_
            intro v15 T15 h15 l15 X15 q15
            obtain ⟨rfl, e15⟩ := q15
            have e15 := e15.symm
            subst e15
            show Goes p e below _ T15 (mkF m 210 #[.val (.int p0), .val (.int p1), .val (.int p2), .val (.int (0 : Int32)), .val (.int (0 : Int32)), .val (.int kd), .val (.int (0 : Int32)), .val (.int ca), .val (.int (p1 &&& (4095 : Int32))), .val (.ref b1), .val (.ref b7), .val (.ref b7), .val (.int (1 : Int32))] [(.int (1 : Int32))])
            refine o_iload X15 at_210 rfl (q := 212) rfl ?_
            refine o_icmpN X15 at_212 (by decide) (q := 215) rfl ?_
            refine o_iconst X15 at_215 (w := 1) rfl (q := 216) rfl ?_
            refine o_goto X15 at_216 (by decide) (q := 220) (by decide) ?_
            exact o_retN X15 at_220 (by simp) rfl (by decide) (by decide)
          · refine o_icmpY X12 at_150 (feq hc150).2 (by decide) (q := 157) (by decide) ?_
            refine o_iconst X12 at_157 (w := 0) rfl (q := 158) rfl ?_
            refine o_istore X12 at_158 rfl (L' := #[.val (.int p0), .val (.int p1), .val (.int p2), .val (.int (0 : Int32)), .val (.int (0 : Int32)), .val (.int kd), .val (.int (0 : Int32)), .val (.int ca), .val (.int (p1 &&& (4095 : Int32))), .val (.ref b1), .val (.ref b7), .val (.ref b7), .val (.int (0 : Int32))]) rfl (q := 160) rfl ?_
            refine o_goto X12 at_160 (by decide) (q := 203) (by decide) ?_
            refine o_aload X12 at_203 rfl rfl (q := 205) rfl ?_
            refine o_aload X12 at_205 rfl rfl (q := 207) rfl ?_
            have f17 := (A7.keep K12)
            have f18 := ((Fp6.ext E7).keep K12 (ninS (Nat.ne_of_lt (Nat.lt_of_lt_of_le Fp6.lt (Nat.le_of_eq gb7.symm))) nin0))
            have f20 := (((A1.keep K6).ext E7).keep K12)
            refine o_virt X12 [(.ref b7)] (y' := (⟨"com/example/parkville/parkville/PNorm", "equals", "(Ljava/lang/Object;)Z"⟩ : MethodName)) f20 (c_eqD hw b1 b7 d5 d11 _ f17 f18 Fp12 (own_dne iv5 iv11 (fun q => own_ine hc150 (own_inj q)))) (w14 hw) (w15 hw) (w17 hw) (w16 hw) (w18 hw) (w2 hw) (by decide) at_207 (rest := []) rfl rfl (lenOf pd6 rfl) rfl (by decide) (Nat.le_of_ble_eq_true rfl) (by decide) (by decide) (q := 210) rfl ?_
            intro v19 T19 h19 l19 X19 q19
            obtain ⟨rfl, e19⟩ := q19
            have e19 := e19.symm
            subst e19
            show Goes p e below _ T19 (mkF m 210 #[.val (.int p0), .val (.int p1), .val (.int p2), .val (.int (0 : Int32)), .val (.int (0 : Int32)), .val (.int kd), .val (.int (0 : Int32)), .val (.int ca), .val (.int (p1 &&& (4095 : Int32))), .val (.ref b1), .val (.ref b7), .val (.ref b7), .val (.int (0 : Int32))] [(.int (0 : Int32))])
            refine o_iload X19 at_210 rfl (q := 212) rfl ?_
            refine o_icmpN X19 at_212 (by decide) (q := 215) rfl ?_
            refine o_iconst X19 at_215 (w := 1) rfl (q := 216) rfl ?_
            refine o_goto X19 at_216 (by decide) (q := 220) (by decide) ?_
            exact o_retN X19 at_220 (by simp) rfl (by decide) (by decide)
        · refine o_ifY X12 at_129 (feq hc129).2 (by decide) (q := 163) (by decide) ?_
          refine o_iload X12 at_163 rfl (q := 165) rfl ?_
          refine o_iconst X12 at_165 (w := 1) rfl (q := 166) rfl ?_
          by_cases hc166 : kd = (1 : Int32)
          · refine o_icmpN X12 at_166 (teq hc166).2 (q := 169) rfl ?_
            refine o_null X12 at_169 (q := 170) rfl ?_
            refine o_astore X12 at_170 rfl (L' := #[.val (.int p0), .val (.int p1), .val (.int p2), .val (.int (0 : Int32)), .val (.int (0 : Int32)), .val (.int kd), .val (.int (0 : Int32)), .val (.int ca), .val (.int (p1 &&& (4095 : Int32))), .val (.ref b1), .val (.ref b7), .val .null, .unset]) rfl (q := 172) rfl ?_
            refine o_iconst X12 at_172 (w := 0) rfl (q := 173) rfl ?_
            refine o_istore X12 at_173 rfl (L' := #[.val (.int p0), .val (.int p1), .val (.int p2), .val (.int (0 : Int32)), .val (.int (0 : Int32)), .val (.int kd), .val (.int (0 : Int32)), .val (.int ca), .val (.int (p1 &&& (4095 : Int32))), .val (.ref b1), .val (.ref b7), .val .null, .val (.int (0 : Int32))]) rfl (q := 175) rfl ?_
            refine o_goto X12 at_175 (by decide) (q := 203) (by decide) ?_
            refine o_aload X12 at_203 rfl rfl (q := 205) rfl ?_
            refine o_aload X12 at_205 rfl rfl (q := 207) rfl ?_
            have f22 := (((A1.keep K6).ext E7).keep K12)
            refine o_virt X12 [.null] (y' := (⟨"com/example/parkville/parkville/PNorm", "equals", "(Ljava/lang/Object;)Z"⟩ : MethodName)) f22 (c_eqN hw b1 _) (w14 hw) (w15 hw) (w17 hw) (w16 hw) (w18 hw) (w2 hw) (by decide) at_207 (rest := []) rfl rfl (lenOf pd6 rfl) rfl (by decide) (Nat.le_of_ble_eq_true rfl) (by decide) (by decide) (q := 210) rfl ?_
            intro v21 T21 h21 l21 X21 q21
            obtain ⟨rfl, e21⟩ := q21
            have e21 := e21.symm
            subst e21
            show Goes p e below _ T21 (mkF m 210 #[.val (.int p0), .val (.int p1), .val (.int p2), .val (.int (0 : Int32)), .val (.int (0 : Int32)), .val (.int kd), .val (.int (0 : Int32)), .val (.int ca), .val (.int (p1 &&& (4095 : Int32))), .val (.ref b1), .val (.ref b7), .val .null, .val (.int (0 : Int32))] [(.int (0 : Int32))])
            refine o_iload X21 at_210 rfl (q := 212) rfl ?_
            refine o_icmpN X21 at_212 (by decide) (q := 215) rfl ?_
            refine o_iconst X21 at_215 (w := 1) rfl (q := 216) rfl ?_
            refine o_goto X21 at_216 (by decide) (q := 220) (by decide) ?_
            exact o_retN X21 at_220 (by simp) rfl (by decide) (by decide)
          · refine o_icmpY X12 at_166 (feq hc166).2 (by decide) (q := 178) (by decide) ?_
            refine o_iload X12 at_178 rfl (q := 180) rfl ?_
            refine o_iconst X12 at_180 (w := 2) rfl (q := 181) rfl ?_
            by_cases hc181 : kd = (2 : Int32)
            · refine o_icmpN X12 at_181 (teq hc181).2 (q := 184) rfl ?_
              refine o_iloadN X12 at_184 rfl (q := 185) rfl ?_
              refine o_stat X12 [(.int p0)] (y' := (⟨"java/lang/Integer", "valueOf", "(I)Ljava/lang/Integer;"⟩ : MethodName)) (c_vof hw p0 _ SHI SCA VCA HCA) (w34 hw) (w35 hw) (w36 hw) (w37 hw) (by decide) at_185 (rest := []) rfl rfl (lenOf pd7 rfl) rfl (by decide) (Nat.le_of_ble_eq_true rfl) (by decide) (by decide) (q := 188) rfl ?_
              intro v23 T23 h23 l23 X23 q23
              obtain ⟨r23, rfl, K23, E23⟩ := q23
              show Goes p e below _ T23 (mkF m 188 #[.val (.int p0), .val (.int p1), .val (.int p2), .val (.int (0 : Int32)), .val (.int (0 : Int32)), .val (.int kd), .val (.int (0 : Int32)), .val (.int ca), .val (.int (p1 &&& (4095 : Int32))), .val (.ref b1), .val (.ref b7), .unset, .unset] [(.ref r23)])
              refine o_astore X23 at_188 rfl (L' := #[.val (.int p0), .val (.int p1), .val (.int p2), .val (.int (0 : Int32)), .val (.int (0 : Int32)), .val (.int kd), .val (.int (0 : Int32)), .val (.int ca), .val (.int (p1 &&& (4095 : Int32))), .val (.ref b1), .val (.ref b7), .val (.ref r23), .unset]) rfl (q := 190) rfl ?_
              refine o_iconst X23 at_190 (w := 0) rfl (q := 191) rfl ?_
              refine o_istore X23 at_191 rfl (L' := #[.val (.int p0), .val (.int p1), .val (.int p2), .val (.int (0 : Int32)), .val (.int (0 : Int32)), .val (.int kd), .val (.int (0 : Int32)), .val (.int ca), .val (.int (p1 &&& (4095 : Int32))), .val (.ref b1), .val (.ref b7), .val (.ref r23), .val (.int (0 : Int32))]) rfl (q := 193) rfl ?_
              refine o_goto X23 at_193 (by decide) (q := 203) (by decide) ?_
              refine o_aload X23 at_203 rfl rfl (q := 205) rfl ?_
              refine o_aload X23 at_205 rfl rfl (q := 207) rfl ?_
              have f25 := ((((A1.keep K6).ext E7).keep K12).keep K23)
              refine o_virt X23 [(.ref r23)] (y' := (⟨"com/example/parkville/parkville/PNorm", "equals", "(Ljava/lang/Object;)Z"⟩ : MethodName)) f25 (c_eqI hw b1 r23 _ E23) (w14 hw) (w15 hw) (w17 hw) (w16 hw) (w18 hw) (w2 hw) (by decide) at_207 (rest := []) rfl rfl (lenOf pd6 rfl) rfl (by decide) (Nat.le_of_ble_eq_true rfl) (by decide) (by decide) (q := 210) rfl ?_
              intro v24 T24 h24 l24 X24 q24
              obtain ⟨rfl, e24⟩ := q24
              have e24 := e24.symm
              subst e24
              show Goes p e below _ T24 (mkF m 210 #[.val (.int p0), .val (.int p1), .val (.int p2), .val (.int (0 : Int32)), .val (.int (0 : Int32)), .val (.int kd), .val (.int (0 : Int32)), .val (.int ca), .val (.int (p1 &&& (4095 : Int32))), .val (.ref b1), .val (.ref b7), .val (.ref r23), .val (.int (0 : Int32))] [(.int (0 : Int32))])
              refine o_iload X24 at_210 rfl (q := 212) rfl ?_
              refine o_icmpN X24 at_212 (by decide) (q := 215) rfl ?_
              refine o_iconst X24 at_215 (w := 1) rfl (q := 216) rfl ?_
              refine o_goto X24 at_216 (by decide) (q := 220) (by decide) ?_
              exact o_retN X24 at_220 (by simp) rfl (by decide) (by decide)
            · refine o_icmpY X12 at_181 (feq hc181).2 (by decide) (q := 196) (by decide) ?_
              refine o_aload X12 at_196 rfl rfl (q := 198) rfl ?_
              refine o_astore X12 at_198 rfl (L' := #[.val (.int p0), .val (.int p1), .val (.int p2), .val (.int (0 : Int32)), .val (.int (0 : Int32)), .val (.int kd), .val (.int (0 : Int32)), .val (.int ca), .val (.int (p1 &&& (4095 : Int32))), .val (.ref b1), .val (.ref b7), .val (.ref b1), .unset]) rfl (q := 200) rfl ?_
              refine o_iconst X12 at_200 (w := 1) rfl (q := 201) rfl ?_
              refine o_istore X12 at_201 rfl (L' := #[.val (.int p0), .val (.int p1), .val (.int p2), .val (.int (0 : Int32)), .val (.int (0 : Int32)), .val (.int kd), .val (.int (0 : Int32)), .val (.int ca), .val (.int (p1 &&& (4095 : Int32))), .val (.ref b1), .val (.ref b7), .val (.ref b1), .val (.int (1 : Int32))]) rfl (q := 203) rfl ?_
              refine o_aload X12 at_203 rfl rfl (q := 205) rfl ?_
              refine o_aload X12 at_205 rfl rfl (q := 207) rfl ?_
              have f26 := (((A1.keep K6).ext E7).keep K12)
              have f27 := ((Fp6.ext E7).keep K12 (ninS (Nat.ne_of_lt (Nat.lt_of_lt_of_le Fp6.lt (Nat.le_of_eq gb7.symm))) nin0))
              refine o_virt X12 [(.ref b1)] (y' := (⟨"com/example/parkville/parkville/PNorm", "equals", "(Ljava/lang/Object;)Z"⟩ : MethodName)) f26 (c_eqE hw b1 b1 d5 _ f26 f27 f27 iv5.nn) (w14 hw) (w15 hw) (w17 hw) (w16 hw) (w18 hw) (w2 hw) (by decide) at_207 (rest := []) rfl rfl (lenOf pd6 rfl) rfl (by decide) (Nat.le_of_ble_eq_true rfl) (by decide) (by decide) (q := 210) rfl ?_
              intro v28 T28 h28 l28 X28 q28
              obtain ⟨rfl, e28⟩ := q28
              have e28 := e28.symm
              subst e28
              show Goes p e below _ T28 (mkF m 210 #[.val (.int p0), .val (.int p1), .val (.int p2), .val (.int (0 : Int32)), .val (.int (0 : Int32)), .val (.int kd), .val (.int (0 : Int32)), .val (.int ca), .val (.int (p1 &&& (4095 : Int32))), .val (.ref b1), .val (.ref b7), .val (.ref b1), .val (.int (1 : Int32))] [(.int (1 : Int32))])
              refine o_iload X28 at_210 rfl (q := 212) rfl ?_
              refine o_icmpN X28 at_212 (by decide) (q := 215) rfl ?_
              refine o_iconst X28 at_215 (w := 1) rfl (q := 216) rfl ?_
              refine o_goto X28 at_216 (by decide) (q := 220) (by decide) ?_
              exact o_retN X28 at_220 (by simp) rfl (by decide) (by decide)
      · refine o_ifN X at_36 (feq hc36).1 (q := 39) rfl ?_
        refine o_iconst X at_39 (w := 1) rfl (q := 40) rfl ?_
        refine o_goto X at_40 (by decide) (q := 44) (by decide) ?_
        refine o_istore X at_44 rfl (L' := #[.val (.int p0), .val (.int p1), .val (.int p2), .val (.int (0 : Int32)), .val (.int (0 : Int32)), .val (.int kd), .val (.int (1 : Int32)), .unset, .unset, .unset, .unset, .unset, .unset]) rfl (q := 46) rfl ?_
        refine o_iloadN X at_46 rfl (q := 47) rfl ?_
        refine o_sipush X at_47 (w := 4095) rfl (q := 50) rfl ?_
        refine o_iand X at_50 (w := (p0 &&& (4095 : Int32))) rfl (q := 51) rfl ?_
        obtain ⟨ca, h_ca⟩ : ∃ z : Int32, (p0 &&& (4095 : Int32)) = z := ⟨_, rfl⟩
        refine o_istore X at_51 h_ca (L' := #[.val (.int p0), .val (.int p1), .val (.int p2), .val (.int (0 : Int32)), .val (.int (0 : Int32)), .val (.int kd), .val (.int (1 : Int32)), .val (.int ca), .unset, .unset, .unset, .unset, .unset]) rfl (q := 53) rfl ?_
        refine o_iload X at_53 rfl (q := 55) rfl ?_
        refine o_ifN X at_55 (by decide) (q := 58) rfl ?_
        refine o_iload X at_58 rfl (q := 60) rfl ?_
        refine o_goto X at_60 (by decide) (q := 68) (by decide) ?_
        refine o_istore X at_68 rfl (L' := #[.val (.int p0), .val (.int p1), .val (.int p2), .val (.int (0 : Int32)), .val (.int (0 : Int32)), .val (.int kd), .val (.int (1 : Int32)), .val (.int ca), .val (.int ca), .unset, .unset, .unset, .unset]) rfl (q := 70) rfl ?_
        refine o_iloadN X at_70 rfl (q := 71) rfl ?_
        refine o_ifY X at_71 (by decide) (by decide) (q := 80) (by decide) ?_
        refine o_new X (w0 hw) (w1 hw) (w2 hw) at_80 (by decide) (by decide) (q := 83) rfl ?_
        intro T29 h29 b29 gb29 X29 E29 A29 D29 g0_b29
        have f30 : Fld Z h29 b29 "com/example/parkville/parkville/PNorm" "p" "D" (.double (0 : UInt64)) := D29 (Or.inr (w11 hw)) (ty := .double) (by decide)
        refine o_dup X29 at_83 rfl (q := 84) rfl ?_
        refine o_iconst X29 at_84 (w := 4) rfl (q := 85) rfl ?_
        refine o_iload X29 at_85 rfl (q := 87) rfl ?_
        refine o_iadd X29 at_87 (w := ((4 : Int32) + ca)) rfl (q := 88) rfl ?_
        obtain ⟨d31, hd31⟩ : ∃ z : UInt64, FP.i2d ((4 : Int32) + ca) = z := ⟨_, rfl⟩
        have iv31 : IsV d31 ((4 + (ca).toInt : Int) : Rat) := ((hd31 ▸ IsV.i2d _) : IsV d31 ((((4 : Int32) + ca)).toInt : Rat)).eqv (congrArg (fun z : Int => (z : Rat)) (own_4 (own_c h_ca)))
        refine o_i2d X29 at_88 hd31 (q := 89) rfl ?_
        have iv32 : IsV (4616189618054758400 : UInt64) (4 : Rat) := ⟨false, 4503599627370496, (-50), by decide +kernel, by decide +kernel⟩
        refine o_ldcD X29 (w3 hw) at_89 (q := 92) rfl ?_
        obtain ⟨d33, hd33⟩ : ∃ z : UInt64, FP.ddiv d31 (4616189618054758400 : UInt64) = z := ⟨_, rfl⟩
        have iv33 : IsV d33 (((4 + (ca).toInt : Int) : Rat) / 4) := hd33 ▸ (IsV.div iv31 iv32 (by decide) (own_rep4 (own_c h_ca)))
        refine o_ddiv X29 at_92 (hd33.symm ▸ iv33.nn) hd33 (q := 93) rfl ?_
        refine o_spec X29 [(.double d33)] (y' := (⟨"com/example/parkville/parkville/PNorm", "<init>", "(D)V"⟩ : MethodName)) (c_pn hw b29 d33 (((4 + (ca).toInt : Int) : Rat) / 4) _ A29 g0_b29 f30 iv33 (own_ge1 (own_c h_ca).1)) rfl (w4 hw) (w5 hw) (w6 hw) (w2 hw) (by decide) at_93 (rest := [(.ref b29)]) rfl rfl (lenOf pd5 rfl) rfl (by decide) (Nat.le_of_ble_eq_true rfl) (by decide) (by decide) (q := 96) rfl ?_
        intro v34 T34 h34 l34 X34 q34
        obtain ⟨rfl, K34, Fp34⟩ := q34
        show Goes p e below _ T34 (mkF m 96 #[.val (.int p0), .val (.int p1), .val (.int p2), .val (.int (0 : Int32)), .val (.int (0 : Int32)), .val (.int kd), .val (.int (1 : Int32)), .val (.int ca), .val (.int ca), .unset, .unset, .unset, .unset] [(.ref b29)])
        refine o_astore X34 at_96 rfl (L' := #[.val (.int p0), .val (.int p1), .val (.int p2), .val (.int (0 : Int32)), .val (.int (0 : Int32)), .val (.int kd), .val (.int (1 : Int32)), .val (.int ca), .val (.int ca), .val (.ref b29), .unset, .unset, .unset]) rfl (q := 98) rfl ?_
        refine o_iload X34 at_98 rfl (q := 100) rfl ?_
        refine o_ifY X34 at_100 (by decide) (by decide) (q := 109) (by decide) ?_
        refine o_new X34 (w0 hw) (w1 hw) (w2 hw) at_109 (by decide) (by decide) (q := 112) rfl ?_
        intro T35 h35 b35 gb35 X35 E35 A35 D35 g0_b35
        have f36 : Fld Z h35 b35 "com/example/parkville/parkville/PNorm" "p" "D" (.double (0 : UInt64)) := D35 (Or.inr (w11 hw)) (ty := .double) (by decide)
        refine o_dup X35 at_112 rfl (q := 113) rfl ?_
        refine o_iconst X35 at_113 (w := 4) rfl (q := 114) rfl ?_
        refine o_iload X35 at_114 rfl (q := 116) rfl ?_
        refine o_iadd X35 at_116 (w := ((4 : Int32) + ca)) rfl (q := 117) rfl ?_
        obtain ⟨d37, hd37⟩ : ∃ z : UInt64, FP.i2d ((4 : Int32) + ca) = z := ⟨_, rfl⟩
        have iv37 : IsV d37 ((4 + (ca).toInt : Int) : Rat) := ((hd37 ▸ IsV.i2d _) : IsV d37 ((((4 : Int32) + ca)).toInt : Rat)).eqv (congrArg (fun z : Int => (z : Rat)) (own_4 (own_c h_ca)))
        refine o_i2d X35 at_117 hd37 (q := 118) rfl ?_
        have iv38 : IsV (4616189618054758400 : UInt64) (4 : Rat) := ⟨false, 4503599627370496, (-50), by decide +kernel, by decide +kernel⟩
        refine o_ldcD X35 (w3 hw) at_118 (q := 121) rfl ?_
        obtain ⟨d39, hd39⟩ : ∃ z : UInt64, FP.ddiv d37 (4616189618054758400 : UInt64) = z := ⟨_, rfl⟩
        have iv39 : IsV d39 (((4 + (ca).toInt : Int) : Rat) / 4) := hd39 ▸ (IsV.div iv37 iv38 (by decide) (own_rep4 (own_c h_ca)))
        refine o_ddiv X35 at_121 (hd39.symm ▸ iv39.nn) hd39 (q := 122) rfl ?_
        refine o_spec X35 [(.double d39)] (y' := (⟨"com/example/parkville/parkville/PNorm", "<init>", "(D)V"⟩ : MethodName)) (c_pn hw b35 d39 (((4 + (ca).toInt : Int) : Rat) / 4) _ A35 g0_b35 f36 iv39 (own_ge1 (own_c h_ca).1)) rfl (w4 hw) (w5 hw) (w6 hw) (w2 hw) (by decide) at_122 (rest := [(.ref b35)]) rfl rfl (lenOf pd5 rfl) rfl (by decide) (Nat.le_of_ble_eq_true rfl) (by decide) (by decide) (q := 125) rfl ?_
        intro v40 T40 h40 l40 X40 q40
        obtain ⟨rfl, K40, Fp40⟩ := q40
        show Goes p e below _ T40 (mkF m 125 #[.val (.int p0), .val (.int p1), .val (.int p2), .val (.int (0 : Int32)), .val (.int (0 : Int32)), .val (.int kd), .val (.int (1 : Int32)), .val (.int ca), .val (.int ca), .val (.ref b29), .unset, .unset, .unset] [(.ref b35)])
        refine o_astore X40 at_125 rfl (L' := #[.val (.int p0), .val (.int p1), .val (.int p2), .val (.int (0 : Int32)), .val (.int (0 : Int32)), .val (.int kd), .val (.int (1 : Int32)), .val (.int ca), .val (.int ca), .val (.ref b29), .val (.ref b35), .unset, .unset]) rfl (q := 127) rfl ?_
        refine o_iload X40 at_127 rfl (q := 129) rfl ?_
        by_cases hc129 : kd = (0 : Int32)
        · refine o_ifN X40 at_129 (teq hc129).2 (q := 132) rfl ?_
          refine o_aload X40 at_132 rfl rfl (q := 134) rfl ?_
          refine o_astore X40 at_134 rfl (L' := #[.val (.int p0), .val (.int p1), .val (.int p2), .val (.int (0 : Int32)), .val (.int (0 : Int32)), .val (.int kd), .val (.int (1 : Int32)), .val (.int ca), .val (.int ca), .val (.ref b29), .val (.ref b35), .val (.ref b35), .unset]) rfl (q := 136) rfl ?_
          refine o_iloadN X40 at_136 rfl (q := 137) rfl ?_
          refine o_iload X40 at_137 rfl (q := 139) rfl ?_
          refine o_icmpN X40 at_139 (by decide) (q := 142) rfl ?_
          refine o_iloadN X40 at_142 rfl (q := 143) rfl ?_
          refine o_ifN X40 at_143 (by decide) (q := 146) rfl ?_
          refine o_iload X40 at_146 rfl (q := 148) rfl ?_
          refine o_iload X40 at_148 rfl (q := 150) rfl ?_
          refine o_icmpN X40 at_150 (teq rfl).2 (q := 153) rfl ?_
          refine o_iconst X40 at_153 (w := 1) rfl (q := 154) rfl ?_
          refine o_goto X40 at_154 (by decide) (q := 158) (by decide) ?_
          refine o_istore X40 at_158 rfl (L' := #[.val (.int p0), .val (.int p1), .val (.int p2), .val (.int (0 : Int32)), .val (.int (0 : Int32)), .val (.int kd), .val (.int (1 : Int32)), .val (.int ca), .val (.int ca), .val (.ref b29), .val (.ref b35), .val (.ref b35), .val (.int (1 : Int32))]) rfl (q := 160) rfl ?_
          refine o_goto X40 at_160 (by decide) (q := 203) (by decide) ?_
          refine o_aload X40 at_203 rfl rfl (q := 205) rfl ?_
          refine o_aload X40 at_205 rfl rfl (q := 207) rfl ?_
          have heq : d33 = d39 := by
            rw [← hd33, ← hd39, ← hd31, ← hd37]
          have f41 := (A35.keep K40)
          have f42 := ((Fp34.ext E35).keep K40 (ninS (Nat.ne_of_lt (Nat.lt_of_lt_of_le Fp34.lt (Nat.le_of_eq gb35.symm))) nin0))
          have f44 := (((A29.keep K34).ext E35).keep K40)
          refine o_virt X40 [(.ref b35)] (y' := (⟨"com/example/parkville/parkville/PNorm", "equals", "(Ljava/lang/Object;)Z"⟩ : MethodName)) f44 (c_eqE hw b29 b35 d33 _ f41 f42 (heq ▸ Fp40) iv33.nn) (w14 hw) (w15 hw) (w17 hw) (w16 hw) (w18 hw) (w2 hw) (by decide) at_207 (rest := []) rfl rfl (lenOf pd6 rfl) rfl (by decide) (Nat.le_of_ble_eq_true rfl) (by decide) (by decide) (q := 210) rfl ?_
          intro v43 T43 h43 l43 X43 q43
          obtain ⟨rfl, e43⟩ := q43
          have e43 := e43.symm
          subst e43
          show Goes p e below _ T43 (mkF m 210 #[.val (.int p0), .val (.int p1), .val (.int p2), .val (.int (0 : Int32)), .val (.int (0 : Int32)), .val (.int kd), .val (.int (1 : Int32)), .val (.int ca), .val (.int ca), .val (.ref b29), .val (.ref b35), .val (.ref b35), .val (.int (1 : Int32))] [(.int (1 : Int32))])
          refine o_iload X43 at_210 rfl (q := 212) rfl ?_
          refine o_icmpN X43 at_212 (by decide) (q := 215) rfl ?_
          refine o_iconst X43 at_215 (w := 1) rfl (q := 216) rfl ?_
          refine o_goto X43 at_216 (by decide) (q := 220) (by decide) ?_
          exact o_retN X43 at_220 (by simp) rfl (by decide) (by decide)
        · refine o_ifY X40 at_129 (feq hc129).2 (by decide) (q := 163) (by decide) ?_
          refine o_iload X40 at_163 rfl (q := 165) rfl ?_
          refine o_iconst X40 at_165 (w := 1) rfl (q := 166) rfl ?_
          by_cases hc166 : kd = (1 : Int32)
          · refine o_icmpN X40 at_166 (teq hc166).2 (q := 169) rfl ?_
            refine o_null X40 at_169 (q := 170) rfl ?_
            refine o_astore X40 at_170 rfl (L' := #[.val (.int p0), .val (.int p1), .val (.int p2), .val (.int (0 : Int32)), .val (.int (0 : Int32)), .val (.int kd), .val (.int (1 : Int32)), .val (.int ca), .val (.int ca), .val (.ref b29), .val (.ref b35), .val .null, .unset]) rfl (q := 172) rfl ?_
            refine o_iconst X40 at_172 (w := 0) rfl (q := 173) rfl ?_
            refine o_istore X40 at_173 rfl (L' := #[.val (.int p0), .val (.int p1), .val (.int p2), .val (.int (0 : Int32)), .val (.int (0 : Int32)), .val (.int kd), .val (.int (1 : Int32)), .val (.int ca), .val (.int ca), .val (.ref b29), .val (.ref b35), .val .null, .val (.int (0 : Int32))]) rfl (q := 175) rfl ?_
            refine o_goto X40 at_175 (by decide) (q := 203) (by decide) ?_
            refine o_aload X40 at_203 rfl rfl (q := 205) rfl ?_
            refine o_aload X40 at_205 rfl rfl (q := 207) rfl ?_
            have f46 := (((A29.keep K34).ext E35).keep K40)
            refine o_virt X40 [.null] (y' := (⟨"com/example/parkville/parkville/PNorm", "equals", "(Ljava/lang/Object;)Z"⟩ : MethodName)) f46 (c_eqN hw b29 _) (w14 hw) (w15 hw) (w17 hw) (w16 hw) (w18 hw) (w2 hw) (by decide) at_207 (rest := []) rfl rfl (lenOf pd6 rfl) rfl (by decide) (Nat.le_of_ble_eq_true rfl) (by decide) (by decide) (q := 210) rfl ?_
            intro v45 T45 h45 l45 X45 q45
            obtain ⟨rfl, e45⟩ := q45
            have e45 := e45.symm
            subst e45
            show Goes p e below _ T45 (mkF m 210 #[.val (.int p0), .val (.int p1), .val (.int p2), .val (.int (0 : Int32)), .val (.int (0 : Int32)), .val (.int kd), .val (.int (1 : Int32)), .val (.int ca), .val (.int ca), .val (.ref b29), .val (.ref b35), .val .null, .val (.int (0 : Int32))] [(.int (0 : Int32))])
            refine o_iload X45 at_210 rfl (q := 212) rfl ?_
            refine o_icmpN X45 at_212 (by decide) (q := 215) rfl ?_
            refine o_iconst X45 at_215 (w := 1) rfl (q := 216) rfl ?_
            refine o_goto X45 at_216 (by decide) (q := 220) (by decide) ?_
            exact o_retN X45 at_220 (by simp) rfl (by decide) (by decide)
          · refine o_icmpY X40 at_166 (feq hc166).2 (by decide) (q := 178) (by decide) ?_
            refine o_iload X40 at_178 rfl (q := 180) rfl ?_
            refine o_iconst X40 at_180 (w := 2) rfl (q := 181) rfl ?_
            by_cases hc181 : kd = (2 : Int32)
            · refine o_icmpN X40 at_181 (teq hc181).2 (q := 184) rfl ?_
              refine o_iloadN X40 at_184 rfl (q := 185) rfl ?_
              refine o_stat X40 [(.int p0)] (y' := (⟨"java/lang/Integer", "valueOf", "(I)Ljava/lang/Integer;"⟩ : MethodName)) (c_vof hw p0 _ SHI SCA VCA HCA) (w34 hw) (w35 hw) (w36 hw) (w37 hw) (by decide) at_185 (rest := []) rfl rfl (lenOf pd7 rfl) rfl (by decide) (Nat.le_of_ble_eq_true rfl) (by decide) (by decide) (q := 188) rfl ?_
              intro v47 T47 h47 l47 X47 q47
              obtain ⟨r47, rfl, K47, E47⟩ := q47
              show Goes p e below _ T47 (mkF m 188 #[.val (.int p0), .val (.int p1), .val (.int p2), .val (.int (0 : Int32)), .val (.int (0 : Int32)), .val (.int kd), .val (.int (1 : Int32)), .val (.int ca), .val (.int ca), .val (.ref b29), .val (.ref b35), .unset, .unset] [(.ref r47)])
              refine o_astore X47 at_188 rfl (L' := #[.val (.int p0), .val (.int p1), .val (.int p2), .val (.int (0 : Int32)), .val (.int (0 : Int32)), .val (.int kd), .val (.int (1 : Int32)), .val (.int ca), .val (.int ca), .val (.ref b29), .val (.ref b35), .val (.ref r47), .unset]) rfl (q := 190) rfl ?_
              refine o_iconst X47 at_190 (w := 0) rfl (q := 191) rfl ?_
              refine o_istore X47 at_191 rfl (L' := #[.val (.int p0), .val (.int p1), .val (.int p2), .val (.int (0 : Int32)), .val (.int (0 : Int32)), .val (.int kd), .val (.int (1 : Int32)), .val (.int ca), .val (.int ca), .val (.ref b29), .val (.ref b35), .val (.ref r47), .val (.int (0 : Int32))]) rfl (q := 193) rfl ?_
              refine o_goto X47 at_193 (by decide) (q := 203) (by decide) ?_
              refine o_aload X47 at_203 rfl rfl (q := 205) rfl ?_
              refine o_aload X47 at_205 rfl rfl (q := 207) rfl ?_
              have f49 := ((((A29.keep K34).ext E35).keep K40).keep K47)
              refine o_virt X47 [(.ref r47)] (y' := (⟨"com/example/parkville/parkville/PNorm", "equals", "(Ljava/lang/Object;)Z"⟩ : MethodName)) f49 (c_eqI hw b29 r47 _ E47) (w14 hw) (w15 hw) (w17 hw) (w16 hw) (w18 hw) (w2 hw) (by decide) at_207 (rest := []) rfl rfl (lenOf pd6 rfl) rfl (by decide) (Nat.le_of_ble_eq_true rfl) (by decide) (by decide) (q := 210) rfl ?_
              intro v48 T48 h48 l48 X48 q48
              obtain ⟨rfl, e48⟩ := q48
              have e48 := e48.symm
              subst e48
              show Goes p e below _ T48 (mkF m 210 #[.val (.int p0), .val (.int p1), .val (.int p2), .val (.int (0 : Int32)), .val (.int (0 : Int32)), .val (.int kd), .val (.int (1 : Int32)), .val (.int ca), .val (.int ca), .val (.ref b29), .val (.ref b35), .val (.ref r47), .val (.int (0 : Int32))] [(.int (0 : Int32))])
              refine o_iload X48 at_210 rfl (q := 212) rfl ?_
              refine o_icmpN X48 at_212 (by decide) (q := 215) rfl ?_
              refine o_iconst X48 at_215 (w := 1) rfl (q := 216) rfl ?_
              refine o_goto X48 at_216 (by decide) (q := 220) (by decide) ?_
              exact o_retN X48 at_220 (by simp) rfl (by decide) (by decide)
            · refine o_icmpY X40 at_181 (feq hc181).2 (by decide) (q := 196) (by decide) ?_
              refine o_aload X40 at_196 rfl rfl (q := 198) rfl ?_
              refine o_astore X40 at_198 rfl (L' := #[.val (.int p0), .val (.int p1), .val (.int p2), .val (.int (0 : Int32)), .val (.int (0 : Int32)), .val (.int kd), .val (.int (1 : Int32)), .val (.int ca), .val (.int ca), .val (.ref b29), .val (.ref b35), .val (.ref b29), .unset]) rfl (q := 200) rfl ?_
              refine o_iconst X40 at_200 (w := 1) rfl (q := 201) rfl ?_
              refine o_istore X40 at_201 rfl (L' := #[.val (.int p0), .val (.int p1), .val (.int p2), .val (.int (0 : Int32)), .val (.int (0 : Int32)), .val (.int kd), .val (.int (1 : Int32)), .val (.int ca), .val (.int ca), .val (.ref b29), .val (.ref b35), .val (.ref b29), .val (.int (1 : Int32))]) rfl (q := 203) rfl ?_
              refine o_aload X40 at_203 rfl rfl (q := 205) rfl ?_
              refine o_aload X40 at_205 rfl rfl (q := 207) rfl ?_
              have f50 := (((A29.keep K34).ext E35).keep K40)
              have f51 := ((Fp34.ext E35).keep K40 (ninS (Nat.ne_of_lt (Nat.lt_of_lt_of_le Fp34.lt (Nat.le_of_eq gb35.symm))) nin0))
              refine o_virt X40 [(.ref b29)] (y' := (⟨"com/example/parkville/parkville/PNorm", "equals", "(Ljava/lang/Object;)Z"⟩ : MethodName)) f50 (c_eqE hw b29 b29 d33 _ f50 f51 f51 iv33.nn) (w14 hw) (w15 hw) (w17 hw) (w16 hw) (w18 hw) (w2 hw) (by decide) at_207 (rest := []) rfl rfl (lenOf pd6 rfl) rfl (by decide) (Nat.le_of_ble_eq_true rfl) (by decide) (by decide) (q := 210) rfl ?_
              intro v52 T52 h52 l52 X52 q52
              obtain ⟨rfl, e52⟩ := q52
              have e52 := e52.symm
              subst e52
              show Goes p e below _ T52 (mkF m 210 #[.val (.int p0), .val (.int p1), .val (.int p2), .val (.int (0 : Int32)), .val (.int (0 : Int32)), .val (.int kd), .val (.int (1 : Int32)), .val (.int ca), .val (.int ca), .val (.ref b29), .val (.ref b35), .val (.ref b29), .val (.int (1 : Int32))] [(.int (1 : Int32))])
              refine o_iload X52 at_210 rfl (q := 212) rfl ?_
              refine o_icmpN X52 at_212 (by decide) (q := 215) rfl ?_
              refine o_iconst X52 at_215 (w := 1) rfl (q := 216) rfl ?_
              refine o_goto X52 at_216 (by decide) (q := 220) (by decide) ?_
              exact o_retN X52 at_220 (by simp) rfl (by decide) (by decide)
    · refine o_ifN X at_15 (feq hc15).1 (q := 18) rfl ?_
      refine o_iconst X at_18 (w := 1) rfl (q := 19) rfl ?_
      refine o_goto X at_19 (by decide) (q := 23) (by decide) ?_
      refine o_istore X at_23 rfl (L' := #[.val (.int p0), .val (.int p1), .val (.int p2), .val (.int (0 : Int32)), .val (.int (1 : Int32)), .unset, .unset, .unset, .unset, .unset, .unset, .unset, .unset]) rfl (q := 25) rfl ?_
      refine o_iloadN X at_25 rfl (q := 26) rfl ?_
      refine o_iconst X at_26 (w := 2) rfl (q := 27) rfl ?_
      refine o_iushr X at_27 (w := ((p2.toUInt32 >>> ((2 : Int32) &&& 31).toUInt32).toInt32)) rfl (q := 28) rfl ?_
      refine o_iconst X at_28 (w := 3) rfl (q := 29) rfl ?_
      refine o_iand X at_29 (w := (((p2.toUInt32 >>> ((2 : Int32) &&& 31).toUInt32).toInt32) &&& (3 : Int32))) rfl (q := 30) rfl ?_
      obtain ⟨kd, h_kd⟩ : ∃ z : Int32, (((p2.toUInt32 >>> ((2 : Int32) &&& 31).toUInt32).toInt32) &&& (3 : Int32)) = z := ⟨_, rfl⟩
      refine o_istore X at_30 h_kd (L' := #[.val (.int p0), .val (.int p1), .val (.int p2), .val (.int (0 : Int32)), .val (.int (1 : Int32)), .val (.int kd), .unset, .unset, .unset, .unset, .unset, .unset, .unset]) rfl (q := 32) rfl ?_
      refine o_iloadN X at_32 rfl (q := 33) rfl ?_
      refine o_bipush X at_33 (w := 16) rfl (q := 35) rfl ?_
      refine o_iand X at_35 (w := (p2 &&& (16 : Int32))) rfl (q := 36) rfl ?_
      by_cases hc36 : (p2 &&& (16 : Int32)) = (0 : Int32)
      · refine o_ifY X at_36 (teq hc36).1 (by decide) (q := 43) (by decide) ?_
        refine o_iconst X at_43 (w := 0) rfl (q := 44) rfl ?_
        refine o_istore X at_44 rfl (L' := #[.val (.int p0), .val (.int p1), .val (.int p2), .val (.int (0 : Int32)), .val (.int (1 : Int32)), .val (.int kd), .val (.int (0 : Int32)), .unset, .unset, .unset, .unset, .unset, .unset]) rfl (q := 46) rfl ?_
        refine o_iloadN X at_46 rfl (q := 47) rfl ?_
        refine o_sipush X at_47 (w := 4095) rfl (q := 50) rfl ?_
        refine o_iand X at_50 (w := (p0 &&& (4095 : Int32))) rfl (q := 51) rfl ?_
        obtain ⟨ca, h_ca⟩ : ∃ z : Int32, (p0 &&& (4095 : Int32)) = z := ⟨_, rfl⟩
        refine o_istore X at_51 h_ca (L' := #[.val (.int p0), .val (.int p1), .val (.int p2), .val (.int (0 : Int32)), .val (.int (1 : Int32)), .val (.int kd), .val (.int (0 : Int32)), .val (.int ca), .unset, .unset, .unset, .unset, .unset]) rfl (q := 53) rfl ?_
        refine o_iload X at_53 rfl (q := 55) rfl ?_
        refine o_ifY X at_55 (by decide) (by decide) (q := 63) (by decide) ?_
        refine o_iloadN X at_63 rfl (q := 64) rfl ?_
        refine o_sipush X at_64 (w := 4095) rfl (q := 67) rfl ?_
        refine o_iand X at_67 (w := (p1 &&& (4095 : Int32))) rfl (q := 68) rfl ?_
        refine o_istore X at_68 rfl (L' := #[.val (.int p0), .val (.int p1), .val (.int p2), .val (.int (0 : Int32)), .val (.int (1 : Int32)), .val (.int kd), .val (.int (0 : Int32)), .val (.int ca), .val (.int (p1 &&& (4095 : Int32))), .unset, .unset, .unset, .unset]) rfl (q := 70) rfl ?_
        refine o_iloadN X at_70 rfl (q := 71) rfl ?_
        refine o_ifY X at_71 (by decide) (by decide) (q := 80) (by decide) ?_
        refine o_new X (w0 hw) (w1 hw) (w2 hw) at_80 (by decide) (by decide) (q := 83) rfl ?_
        intro T53 h53 b53 gb53 X53 E53 A53 D53 g0_b53
        have f54 : Fld Z h53 b53 "com/example/parkville/parkville/PNorm" "p" "D" (.double (0 : UInt64)) := D53 (Or.inr (w11 hw)) (ty := .double) (by decide)
        refine o_dup X53 at_83 rfl (q := 84) rfl ?_
        refine o_iconst X53 at_84 (w := 4) rfl (q := 85) rfl ?_
        refine o_iload X53 at_85 rfl (q := 87) rfl ?_
        refine o_iadd X53 at_87 (w := ((4 : Int32) + ca)) rfl (q := 88) rfl ?_
        obtain ⟨d55, hd55⟩ : ∃ z : UInt64, FP.i2d ((4 : Int32) + ca) = z := ⟨_, rfl⟩
        have iv55 : IsV d55 ((4 + (ca).toInt : Int) : Rat) := ((hd55 ▸ IsV.i2d _) : IsV d55 ((((4 : Int32) + ca)).toInt : Rat)).eqv (congrArg (fun z : Int => (z : Rat)) (own_4 (own_c h_ca)))
        refine o_i2d X53 at_88 hd55 (q := 89) rfl ?_
        have iv56 : IsV (4616189618054758400 : UInt64) (4 : Rat) := ⟨false, 4503599627370496, (-50), by decide +kernel, by decide +kernel⟩
        refine o_ldcD X53 (w3 hw) at_89 (q := 92) rfl ?_
        obtain ⟨d57, hd57⟩ : ∃ z : UInt64, FP.ddiv d55 (4616189618054758400 : UInt64) = z := ⟨_, rfl⟩
        have iv57 : IsV d57 (((4 + (ca).toInt : Int) : Rat) / 4) := hd57 ▸ (IsV.div iv55 iv56 (by decide) (own_rep4 (own_c h_ca)))
        refine o_ddiv X53 at_92 (hd57.symm ▸ iv57.nn) hd57 (q := 93) rfl ?_
        refine o_spec X53 [(.double d57)] (y' := (⟨"com/example/parkville/parkville/PNorm", "<init>", "(D)V"⟩ : MethodName)) (c_pn hw b53 d57 (((4 + (ca).toInt : Int) : Rat) / 4) _ A53 g0_b53 f54 iv57 (own_ge1 (own_c h_ca).1)) rfl (w4 hw) (w5 hw) (w6 hw) (w2 hw) (by decide) at_93 (rest := [(.ref b53)]) rfl rfl (lenOf pd5 rfl) rfl (by decide) (Nat.le_of_ble_eq_true rfl) (by decide) (by decide) (q := 96) rfl ?_
        intro v58 T58 h58 l58 X58 q58
        obtain ⟨rfl, K58, Fp58⟩ := q58
        show Goes p e below _ T58 (mkF m 96 #[.val (.int p0), .val (.int p1), .val (.int p2), .val (.int (0 : Int32)), .val (.int (1 : Int32)), .val (.int kd), .val (.int (0 : Int32)), .val (.int ca), .val (.int (p1 &&& (4095 : Int32))), .unset, .unset, .unset, .unset] [(.ref b53)])
        refine o_astore X58 at_96 rfl (L' := #[.val (.int p0), .val (.int p1), .val (.int p2), .val (.int (0 : Int32)), .val (.int (1 : Int32)), .val (.int kd), .val (.int (0 : Int32)), .val (.int ca), .val (.int (p1 &&& (4095 : Int32))), .val (.ref b53), .unset, .unset, .unset]) rfl (q := 98) rfl ?_
        refine o_iload X58 at_98 rfl (q := 100) rfl ?_
        refine o_ifN X58 at_100 (by decide) (q := 103) rfl ?_
        refine o_getS X58 SST (host := "") (Or.inl (w12 hw)) Via.refl at_103 (q := 106) rfl ?_
        intro T59 X59
        refine o_goto X59 at_106 (by decide) (q := 125) (by decide) ?_
        refine o_astore X59 at_125 rfl (L' := #[.val (.int p0), .val (.int p1), .val (.int p2), .val (.int (0 : Int32)), .val (.int (1 : Int32)), .val (.int kd), .val (.int (0 : Int32)), .val (.int ca), .val (.int (p1 &&& (4095 : Int32))), .val (.ref b53), .val (.ref st), .unset, .unset]) rfl (q := 127) rfl ?_
        refine o_iload X59 at_127 rfl (q := 129) rfl ?_
        by_cases hc129 : kd = (0 : Int32)
        · refine o_ifN X59 at_129 (teq hc129).2 (q := 132) rfl ?_
          refine o_aload X59 at_132 rfl rfl (q := 134) rfl ?_
          refine o_astore X59 at_134 rfl (L' := #[.val (.int p0), .val (.int p1), .val (.int p2), .val (.int (0 : Int32)), .val (.int (1 : Int32)), .val (.int kd), .val (.int (0 : Int32)), .val (.int ca), .val (.int (p1 &&& (4095 : Int32))), .val (.ref b53), .val (.ref st), .val (.ref st), .unset]) rfl (q := 136) rfl ?_
          refine o_iloadN X59 at_136 rfl (q := 137) rfl ?_
          refine o_iload X59 at_137 rfl (q := 139) rfl ?_
          refine o_icmpY X59 at_139 (by decide) (by decide) (q := 157) (by decide) ?_
          refine o_iconst X59 at_157 (w := 0) rfl (q := 158) rfl ?_
          refine o_istore X59 at_158 rfl (L' := #[.val (.int p0), .val (.int p1), .val (.int p2), .val (.int (0 : Int32)), .val (.int (1 : Int32)), .val (.int kd), .val (.int (0 : Int32)), .val (.int ca), .val (.int (p1 &&& (4095 : Int32))), .val (.ref b53), .val (.ref st), .val (.ref st), .val (.int (0 : Int32))]) rfl (q := 160) rfl ?_
          refine o_goto X59 at_160 (by decide) (q := 203) (by decide) ?_
          refine o_aload X59 at_203 rfl rfl (q := 205) rfl ?_
          refine o_aload X59 at_205 rfl rfl (q := 207) rfl ?_
          have f61 := (A53.keep K58)
          refine o_virt X59 [(.ref st)] (y' := (⟨"com/example/parkville/parkville/PNorm", "equals", "(Ljava/lang/Object;)Z"⟩ : MethodName)) f61 (c_eqL hw b53 st d57 (9218868437227405312 : UInt64) _ (EST.ext X59.ext) Fp58 (FST.ext X59.ext) (own_inflt iv57)) (w14 hw) (w15 hw) (w17 hw) (w16 hw) (w18 hw) (w2 hw) (by decide) at_207 (rest := []) rfl rfl (lenOf pd6 rfl) rfl (by decide) (Nat.le_of_ble_eq_true rfl) (by decide) (by decide) (q := 210) rfl ?_
          intro v60 T60 h60 l60 X60 q60
          obtain ⟨rfl, e60⟩ := q60
          have e60 := e60.symm
          subst e60
          show Goes p e below _ T60 (mkF m 210 #[.val (.int p0), .val (.int p1), .val (.int p2), .val (.int (0 : Int32)), .val (.int (1 : Int32)), .val (.int kd), .val (.int (0 : Int32)), .val (.int ca), .val (.int (p1 &&& (4095 : Int32))), .val (.ref b53), .val (.ref st), .val (.ref st), .val (.int (0 : Int32))] [(.int (0 : Int32))])
          refine o_iload X60 at_210 rfl (q := 212) rfl ?_
          refine o_icmpN X60 at_212 (by decide) (q := 215) rfl ?_
          refine o_iconst X60 at_215 (w := 1) rfl (q := 216) rfl ?_
          refine o_goto X60 at_216 (by decide) (q := 220) (by decide) ?_
          exact o_retN X60 at_220 (by simp) rfl (by decide) (by decide)
        · refine o_ifY X59 at_129 (feq hc129).2 (by decide) (q := 163) (by decide) ?_
          refine o_iload X59 at_163 rfl (q := 165) rfl ?_
          refine o_iconst X59 at_165 (w := 1) rfl (q := 166) rfl ?_
          by_cases hc166 : kd = (1 : Int32)
          · refine o_icmpN X59 at_166 (teq hc166).2 (q := 169) rfl ?_
            refine o_null X59 at_169 (q := 170) rfl ?_
            refine o_astore X59 at_170 rfl (L' := #[.val (.int p0), .val (.int p1), .val (.int p2), .val (.int (0 : Int32)), .val (.int (1 : Int32)), .val (.int kd), .val (.int (0 : Int32)), .val (.int ca), .val (.int (p1 &&& (4095 : Int32))), .val (.ref b53), .val (.ref st), .val .null, .unset]) rfl (q := 172) rfl ?_
            refine o_iconst X59 at_172 (w := 0) rfl (q := 173) rfl ?_
            refine o_istore X59 at_173 rfl (L' := #[.val (.int p0), .val (.int p1), .val (.int p2), .val (.int (0 : Int32)), .val (.int (1 : Int32)), .val (.int kd), .val (.int (0 : Int32)), .val (.int ca), .val (.int (p1 &&& (4095 : Int32))), .val (.ref b53), .val (.ref st), .val .null, .val (.int (0 : Int32))]) rfl (q := 175) rfl ?_
            refine o_goto X59 at_175 (by decide) (q := 203) (by decide) ?_
            refine o_aload X59 at_203 rfl rfl (q := 205) rfl ?_
            refine o_aload X59 at_205 rfl rfl (q := 207) rfl ?_
            have f63 := (A53.keep K58)
            refine o_virt X59 [.null] (y' := (⟨"com/example/parkville/parkville/PNorm", "equals", "(Ljava/lang/Object;)Z"⟩ : MethodName)) f63 (c_eqN hw b53 _) (w14 hw) (w15 hw) (w17 hw) (w16 hw) (w18 hw) (w2 hw) (by decide) at_207 (rest := []) rfl rfl (lenOf pd6 rfl) rfl (by decide) (Nat.le_of_ble_eq_true rfl) (by decide) (by decide) (q := 210) rfl ?_
            intro v62 T62 h62 l62 X62 q62
            obtain ⟨rfl, e62⟩ := q62
            have e62 := e62.symm
            subst e62
            show Goes p e below _ T62 (mkF m 210 #[.val (.int p0), .val (.int p1), .val (.int p2), .val (.int (0 : Int32)), .val (.int (1 : Int32)), .val (.int kd), .val (.int (0 : Int32)), .val (.int ca), .val (.int (p1 &&& (4095 : Int32))), .val (.ref b53), .val (.ref st), .val .null, .val (.int (0 : Int32))] [(.int (0 : Int32))])
            refine o_iload X62 at_210 rfl (q := 212) rfl ?_
            refine o_icmpN X62 at_212 (by decide) (q := 215) rfl ?_
            refine o_iconst X62 at_215 (w := 1) rfl (q := 216) rfl ?_
            refine o_goto X62 at_216 (by decide) (q := 220) (by decide) ?_
            exact o_retN X62 at_220 (by simp) rfl (by decide) (by decide)
          · refine o_icmpY X59 at_166 (feq hc166).2 (by decide) (q := 178) (by decide) ?_
            refine o_iload X59 at_178 rfl (q := 180) rfl ?_
            refine o_iconst X59 at_180 (w := 2) rfl (q := 181) rfl ?_
            by_cases hc181 : kd = (2 : Int32)
            · refine o_icmpN X59 at_181 (teq hc181).2 (q := 184) rfl ?_
              refine o_iloadN X59 at_184 rfl (q := 185) rfl ?_
              refine o_stat X59 [(.int p0)] (y' := (⟨"java/lang/Integer", "valueOf", "(I)Ljava/lang/Integer;"⟩ : MethodName)) (c_vof hw p0 _ SHI SCA VCA HCA) (w34 hw) (w35 hw) (w36 hw) (w37 hw) (by decide) at_185 (rest := []) rfl rfl (lenOf pd7 rfl) rfl (by decide) (Nat.le_of_ble_eq_true rfl) (by decide) (by decide) (q := 188) rfl ?_
              intro v64 T64 h64 l64 X64 q64
              obtain ⟨r64, rfl, K64, E64⟩ := q64
              show Goes p e below _ T64 (mkF m 188 #[.val (.int p0), .val (.int p1), .val (.int p2), .val (.int (0 : Int32)), .val (.int (1 : Int32)), .val (.int kd), .val (.int (0 : Int32)), .val (.int ca), .val (.int (p1 &&& (4095 : Int32))), .val (.ref b53), .val (.ref st), .unset, .unset] [(.ref r64)])
              refine o_astore X64 at_188 rfl (L' := #[.val (.int p0), .val (.int p1), .val (.int p2), .val (.int (0 : Int32)), .val (.int (1 : Int32)), .val (.int kd), .val (.int (0 : Int32)), .val (.int ca), .val (.int (p1 &&& (4095 : Int32))), .val (.ref b53), .val (.ref st), .val (.ref r64), .unset]) rfl (q := 190) rfl ?_
              refine o_iconst X64 at_190 (w := 0) rfl (q := 191) rfl ?_
              refine o_istore X64 at_191 rfl (L' := #[.val (.int p0), .val (.int p1), .val (.int p2), .val (.int (0 : Int32)), .val (.int (1 : Int32)), .val (.int kd), .val (.int (0 : Int32)), .val (.int ca), .val (.int (p1 &&& (4095 : Int32))), .val (.ref b53), .val (.ref st), .val (.ref r64), .val (.int (0 : Int32))]) rfl (q := 193) rfl ?_
              refine o_goto X64 at_193 (by decide) (q := 203) (by decide) ?_
              refine o_aload X64 at_203 rfl rfl (q := 205) rfl ?_
              refine o_aload X64 at_205 rfl rfl (q := 207) rfl ?_
              have f66 := ((A53.keep K58).keep K64)
              refine o_virt X64 [(.ref r64)] (y' := (⟨"com/example/parkville/parkville/PNorm", "equals", "(Ljava/lang/Object;)Z"⟩ : MethodName)) f66 (c_eqI hw b53 r64 _ E64) (w14 hw) (w15 hw) (w17 hw) (w16 hw) (w18 hw) (w2 hw) (by decide) at_207 (rest := []) rfl rfl (lenOf pd6 rfl) rfl (by decide) (Nat.le_of_ble_eq_true rfl) (by decide) (by decide) (q := 210) rfl ?_
              intro v65 T65 h65 l65 X65 q65
              obtain ⟨rfl, e65⟩ := q65
              have e65 := e65.symm
              subst e65
              show Goes p e below _ T65 (mkF m 210 #[.val (.int p0), .val (.int p1), .val (.int p2), .val (.int (0 : Int32)), .val (.int (1 : Int32)), .val (.int kd), .val (.int (0 : Int32)), .val (.int ca), .val (.int (p1 &&& (4095 : Int32))), .val (.ref b53), .val (.ref st), .val (.ref r64), .val (.int (0 : Int32))] [(.int (0 : Int32))])
              refine o_iload X65 at_210 rfl (q := 212) rfl ?_
              refine o_icmpN X65 at_212 (by decide) (q := 215) rfl ?_
              refine o_iconst X65 at_215 (w := 1) rfl (q := 216) rfl ?_
              refine o_goto X65 at_216 (by decide) (q := 220) (by decide) ?_
              exact o_retN X65 at_220 (by simp) rfl (by decide) (by decide)
            · refine o_icmpY X59 at_181 (feq hc181).2 (by decide) (q := 196) (by decide) ?_
              refine o_aload X59 at_196 rfl rfl (q := 198) rfl ?_
              refine o_astore X59 at_198 rfl (L' := #[.val (.int p0), .val (.int p1), .val (.int p2), .val (.int (0 : Int32)), .val (.int (1 : Int32)), .val (.int kd), .val (.int (0 : Int32)), .val (.int ca), .val (.int (p1 &&& (4095 : Int32))), .val (.ref b53), .val (.ref st), .val (.ref b53), .unset]) rfl (q := 200) rfl ?_
              refine o_iconst X59 at_200 (w := 1) rfl (q := 201) rfl ?_
              refine o_istore X59 at_201 rfl (L' := #[.val (.int p0), .val (.int p1), .val (.int p2), .val (.int (0 : Int32)), .val (.int (1 : Int32)), .val (.int kd), .val (.int (0 : Int32)), .val (.int ca), .val (.int (p1 &&& (4095 : Int32))), .val (.ref b53), .val (.ref st), .val (.ref b53), .val (.int (1 : Int32))]) rfl (q := 203) rfl ?_
              refine o_aload X59 at_203 rfl rfl (q := 205) rfl ?_
              refine o_aload X59 at_205 rfl rfl (q := 207) rfl ?_
              have f67 := (A53.keep K58)
              refine o_virt X59 [(.ref b53)] (y' := (⟨"com/example/parkville/parkville/PNorm", "equals", "(Ljava/lang/Object;)Z"⟩ : MethodName)) f67 (c_eqE hw b53 b53 d57 _ f67 Fp58 Fp58 iv57.nn) (w14 hw) (w15 hw) (w17 hw) (w16 hw) (w18 hw) (w2 hw) (by decide) at_207 (rest := []) rfl rfl (lenOf pd6 rfl) rfl (by decide) (Nat.le_of_ble_eq_true rfl) (by decide) (by decide) (q := 210) rfl ?_
              intro v68 T68 h68 l68 X68 q68
              obtain ⟨rfl, e68⟩ := q68
              have e68 := e68.symm
              subst e68
              show Goes p e below _ T68 (mkF m 210 #[.val (.int p0), .val (.int p1), .val (.int p2), .val (.int (0 : Int32)), .val (.int (1 : Int32)), .val (.int kd), .val (.int (0 : Int32)), .val (.int ca), .val (.int (p1 &&& (4095 : Int32))), .val (.ref b53), .val (.ref st), .val (.ref b53), .val (.int (1 : Int32))] [(.int (1 : Int32))])
              refine o_iload X68 at_210 rfl (q := 212) rfl ?_
              refine o_icmpN X68 at_212 (by decide) (q := 215) rfl ?_
              refine o_iconst X68 at_215 (w := 1) rfl (q := 216) rfl ?_
              refine o_goto X68 at_216 (by decide) (q := 220) (by decide) ?_
              exact o_retN X68 at_220 (by simp) rfl (by decide) (by decide)
      · refine o_ifN X at_36 (feq hc36).1 (q := 39) rfl ?_
        refine o_iconst X at_39 (w := 1) rfl (q := 40) rfl ?_
        refine o_goto X at_40 (by decide) (q := 44) (by decide) ?_
        refine o_istore X at_44 rfl (L' := #[.val (.int p0), .val (.int p1), .val (.int p2), .val (.int (0 : Int32)), .val (.int (1 : Int32)), .val (.int kd), .val (.int (1 : Int32)), .unset, .unset, .unset, .unset, .unset, .unset]) rfl (q := 46) rfl ?_
        refine o_iloadN X at_46 rfl (q := 47) rfl ?_
        refine o_sipush X at_47 (w := 4095) rfl (q := 50) rfl ?_
        refine o_iand X at_50 (w := (p0 &&& (4095 : Int32))) rfl (q := 51) rfl ?_
        obtain ⟨ca, h_ca⟩ : ∃ z : Int32, (p0 &&& (4095 : Int32)) = z := ⟨_, rfl⟩
        refine o_istore X at_51 h_ca (L' := #[.val (.int p0), .val (.int p1), .val (.int p2), .val (.int (0 : Int32)), .val (.int (1 : Int32)), .val (.int kd), .val (.int (1 : Int32)), .val (.int ca), .unset, .unset, .unset, .unset, .unset]) rfl (q := 53) rfl ?_
        refine o_iload X at_53 rfl (q := 55) rfl ?_
        refine o_ifN X at_55 (by decide) (q := 58) rfl ?_
        refine o_iload X at_58 rfl (q := 60) rfl ?_
        refine o_goto X at_60 (by decide) (q := 68) (by decide) ?_
        refine o_istore X at_68 rfl (L' := #[.val (.int p0), .val (.int p1), .val (.int p2), .val (.int (0 : Int32)), .val (.int (1 : Int32)), .val (.int kd), .val (.int (1 : Int32)), .val (.int ca), .val (.int ca), .unset, .unset, .unset, .unset]) rfl (q := 70) rfl ?_
        refine o_iloadN X at_70 rfl (q := 71) rfl ?_
        refine o_ifY X at_71 (by decide) (by decide) (q := 80) (by decide) ?_
        refine o_new X (w0 hw) (w1 hw) (w2 hw) at_80 (by decide) (by decide) (q := 83) rfl ?_
        intro T69 h69 b69 gb69 X69 E69 A69 D69 g0_b69
        have f70 : Fld Z h69 b69 "com/example/parkville/parkville/PNorm" "p" "D" (.double (0 : UInt64)) := D69 (Or.inr (w11 hw)) (ty := .double) (by decide)
        refine o_dup X69 at_83 rfl (q := 84) rfl ?_
        refine o_iconst X69 at_84 (w := 4) rfl (q := 85) rfl ?_
        refine o_iload X69 at_85 rfl (q := 87) rfl ?_
        refine o_iadd X69 at_87 (w := ((4 : Int32) + ca)) rfl (q := 88) rfl ?_
        obtain ⟨d71, hd71⟩ : ∃ z : UInt64, FP.i2d ((4 : Int32) + ca) = z := ⟨_, rfl⟩
        have iv71 : IsV d71 ((4 + (ca).toInt : Int) : Rat) := ((hd71 ▸ IsV.i2d _) : IsV d71 ((((4 : Int32) + ca)).toInt : Rat)).eqv (congrArg (fun z : Int => (z : Rat)) (own_4 (own_c h_ca)))
        refine o_i2d X69 at_88 hd71 (q := 89) rfl ?_
        have iv72 : IsV (4616189618054758400 : UInt64) (4 : Rat) := ⟨false, 4503599627370496, (-50), by decide +kernel, by decide +kernel⟩
        refine o_ldcD X69 (w3 hw) at_89 (q := 92) rfl ?_
        obtain ⟨d73, hd73⟩ : ∃ z : UInt64, FP.ddiv d71 (4616189618054758400 : UInt64) = z := ⟨_, rfl⟩
        have iv73 : IsV d73 (((4 + (ca).toInt : Int) : Rat) / 4) := hd73 ▸ (IsV.div iv71 iv72 (by decide) (own_rep4 (own_c h_ca)))
        refine o_ddiv X69 at_92 (hd73.symm ▸ iv73.nn) hd73 (q := 93) rfl ?_
        refine o_spec X69 [(.double d73)] (y' := (⟨"com/example/parkville/parkville/PNorm", "<init>", "(D)V"⟩ : MethodName)) (c_pn hw b69 d73 (((4 + (ca).toInt : Int) : Rat) / 4) _ A69 g0_b69 f70 iv73 (own_ge1 (own_c h_ca).1)) rfl (w4 hw) (w5 hw) (w6 hw) (w2 hw) (by decide) at_93 (rest := [(.ref b69)]) rfl rfl (lenOf pd5 rfl) rfl (by decide) (Nat.le_of_ble_eq_true rfl) (by decide) (by decide) (q := 96) rfl ?_
        intro v74 T74 h74 l74 X74 q74
        obtain ⟨rfl, K74, Fp74⟩ := q74
        show Goes p e below _ T74 (mkF m 96 #[.val (.int p0), .val (.int p1), .val (.int p2), .val (.int (0 : Int32)), .val (.int (1 : Int32)), .val (.int kd), .val (.int (1 : Int32)), .val (.int ca), .val (.int ca), .unset, .unset, .unset, .unset] [(.ref b69)])
        refine o_astore X74 at_96 rfl (L' := #[.val (.int p0), .val (.int p1), .val (.int p2), .val (.int (0 : Int32)), .val (.int (1 : Int32)), .val (.int kd), .val (.int (1 : Int32)), .val (.int ca), .val (.int ca), .val (.ref b69), .unset, .unset, .unset]) rfl (q := 98) rfl ?_
        refine o_iload X74 at_98 rfl (q := 100) rfl ?_
        refine o_ifN X74 at_100 (by decide) (q := 103) rfl ?_
        refine o_getS X74 SST (host := "") (Or.inl (w12 hw)) Via.refl at_103 (q := 106) rfl ?_
        intro T75 X75
        refine o_goto X75 at_106 (by decide) (q := 125) (by decide) ?_
        refine o_astore X75 at_125 rfl (L' := #[.val (.int p0), .val (.int p1), .val (.int p2), .val (.int (0 : Int32)), .val (.int (1 : Int32)), .val (.int kd), .val (.int (1 : Int32)), .val (.int ca), .val (.int ca), .val (.ref b69), .val (.ref st), .unset, .unset]) rfl (q := 127) rfl ?_
        refine o_iload X75 at_127 rfl (q := 129) rfl ?_
        by_cases hc129 : kd = (0 : Int32)
        · refine o_ifN X75 at_129 (teq hc129).2 (q := 132) rfl ?_
          refine o_aload X75 at_132 rfl rfl (q := 134) rfl ?_
          refine o_astore X75 at_134 rfl (L' := #[.val (.int p0), .val (.int p1), .val (.int p2), .val (.int (0 : Int32)), .val (.int (1 : Int32)), .val (.int kd), .val (.int (1 : Int32)), .val (.int ca), .val (.int ca), .val (.ref b69), .val (.ref st), .val (.ref st), .unset]) rfl (q := 136) rfl ?_
          refine o_iloadN X75 at_136 rfl (q := 137) rfl ?_
          refine o_iload X75 at_137 rfl (q := 139) rfl ?_
          refine o_icmpY X75 at_139 (by decide) (by decide) (q := 157) (by decide) ?_
          refine o_iconst X75 at_157 (w := 0) rfl (q := 158) rfl ?_
          refine o_istore X75 at_158 rfl (L' := #[.val (.int p0), .val (.int p1), .val (.int p2), .val (.int (0 : Int32)), .val (.int (1 : Int32)), .val (.int kd), .val (.int (1 : Int32)), .val (.int ca), .val (.int ca), .val (.ref b69), .val (.ref st), .val (.ref st), .val (.int (0 : Int32))]) rfl (q := 160) rfl ?_
          refine o_goto X75 at_160 (by decide) (q := 203) (by decide) ?_
          refine o_aload X75 at_203 rfl rfl (q := 205) rfl ?_
          refine o_aload X75 at_205 rfl rfl (q := 207) rfl ?_
          have f77 := (A69.keep K74)
          refine o_virt X75 [(.ref st)] (y' := (⟨"com/example/parkville/parkville/PNorm", "equals", "(Ljava/lang/Object;)Z"⟩ : MethodName)) f77 (c_eqL hw b69 st d73 (9218868437227405312 : UInt64) _ (EST.ext X75.ext) Fp74 (FST.ext X75.ext) (own_inflt iv73)) (w14 hw) (w15 hw) (w17 hw) (w16 hw) (w18 hw) (w2 hw) (by decide) at_207 (rest := []) rfl rfl (lenOf pd6 rfl) rfl (by decide) (Nat.le_of_ble_eq_true rfl) (by decide) (by decide) (q := 210) rfl ?_
          intro v76 T76 h76 l76 X76 q76
          obtain ⟨rfl, e76⟩ := q76
          have e76 := e76.symm
          subst e76
          show Goes p e below _ T76 (mkF m 210 #[.val (.int p0), .val (.int p1), .val (.int p2), .val (.int (0 : Int32)), .val (.int (1 : Int32)), .val (.int kd), .val (.int (1 : Int32)), .val (.int ca), .val (.int ca), .val (.ref b69), .val (.ref st), .val (.ref st), .val (.int (0 : Int32))] [(.int (0 : Int32))])
          refine o_iload X76 at_210 rfl (q := 212) rfl ?_
          refine o_icmpN X76 at_212 (by decide) (q := 215) rfl ?_
          refine o_iconst X76 at_215 (w := 1) rfl (q := 216) rfl ?_
          refine o_goto X76 at_216 (by decide) (q := 220) (by decide) ?_
          exact o_retN X76 at_220 (by simp) rfl (by decide) (by decide)
        · refine o_ifY X75 at_129 (feq hc129).2 (by decide) (q := 163) (by decide) ?_
          refine o_iload X75 at_163 rfl (q := 165) rfl ?_
          refine o_iconst X75 at_165 (w := 1) rfl (q := 166) rfl ?_
          by_cases hc166 : kd = (1 : Int32)
          · refine o_icmpN X75 at_166 (teq hc166).2 (q := 169) rfl ?_
            refine o_null X75 at_169 (q := 170) rfl ?_
            refine o_astore X75 at_170 rfl (L' := #[.val (.int p0), .val (.int p1), .val (.int p2), .val (.int (0 : Int32)), .val (.int (1 : Int32)), .val (.int kd), .val (.int (1 : Int32)), .val (.int ca), .val (.int ca), .val (.ref b69), .val (.ref st), .val .null, .unset]) rfl (q := 172) rfl ?_
            refine o_iconst X75 at_172 (w := 0) rfl (q := 173) rfl ?_
            refine o_istore X75 at_173 rfl (L' := #[.val (.int p0), .val (.int p1), .val (.int p2), .val (.int (0 : Int32)), .val (.int (1 : Int32)), .val (.int kd), .val (.int (1 : Int32)), .val (.int ca), .val (.int ca), .val (.ref b69), .val (.ref st), .val .null, .val (.int (0 : Int32))]) rfl (q := 175) rfl ?_
            refine o_goto X75 at_175 (by decide) (q := 203) (by decide) ?_
            refine o_aload X75 at_203 rfl rfl (q := 205) rfl ?_
            refine o_aload X75 at_205 rfl rfl (q := 207) rfl ?_
            have f79 := (A69.keep K74)
            refine o_virt X75 [.null] (y' := (⟨"com/example/parkville/parkville/PNorm", "equals", "(Ljava/lang/Object;)Z"⟩ : MethodName)) f79 (c_eqN hw b69 _) (w14 hw) (w15 hw) (w17 hw) (w16 hw) (w18 hw) (w2 hw) (by decide) at_207 (rest := []) rfl rfl (lenOf pd6 rfl) rfl (by decide) (Nat.le_of_ble_eq_true rfl) (by decide) (by decide) (q := 210) rfl ?_
            intro v78 T78 h78 l78 X78 q78
            obtain ⟨rfl, e78⟩ := q78
            have e78 := e78.symm
            subst e78
            show Goes p e below _ T78 (mkF m 210 #[.val (.int p0), .val (.int p1), .val (.int p2), .val (.int (0 : Int32)), .val (.int (1 : Int32)), .val (.int kd), .val (.int (1 : Int32)), .val (.int ca), .val (.int ca), .val (.ref b69), .val (.ref st), .val .null, .val (.int (0 : Int32))] [(.int (0 : Int32))])
            refine o_iload X78 at_210 rfl (q := 212) rfl ?_
            refine o_icmpN X78 at_212 (by decide) (q := 215) rfl ?_
            refine o_iconst X78 at_215 (w := 1) rfl (q := 216) rfl ?_
            refine o_goto X78 at_216 (by decide) (q := 220) (by decide) ?_
            exact o_retN X78 at_220 (by simp) rfl (by decide) (by decide)
          · refine o_icmpY X75 at_166 (feq hc166).2 (by decide) (q := 178) (by decide) ?_
            refine o_iload X75 at_178 rfl (q := 180) rfl ?_
            refine o_iconst X75 at_180 (w := 2) rfl (q := 181) rfl ?_
            by_cases hc181 : kd = (2 : Int32)
            · refine o_icmpN X75 at_181 (teq hc181).2 (q := 184) rfl ?_
              refine o_iloadN X75 at_184 rfl (q := 185) rfl ?_
              refine o_stat X75 [(.int p0)] (y' := (⟨"java/lang/Integer", "valueOf", "(I)Ljava/lang/Integer;"⟩ : MethodName)) (c_vof hw p0 _ SHI SCA VCA HCA) (w34 hw) (w35 hw) (w36 hw) (w37 hw) (by decide) at_185 (rest := []) rfl rfl (lenOf pd7 rfl) rfl (by decide) (Nat.le_of_ble_eq_true rfl) (by decide) (by decide) (q := 188) rfl ?_
              intro v80 T80 h80 l80 X80 q80
              obtain ⟨r80, rfl, K80, E80⟩ := q80
              show Goes p e below _ T80 (mkF m 188 #[.val (.int p0), .val (.int p1), .val (.int p2), .val (.int (0 : Int32)), .val (.int (1 : Int32)), .val (.int kd), .val (.int (1 : Int32)), .val (.int ca), .val (.int ca), .val (.ref b69), .val (.ref st), .unset, .unset] [(.ref r80)])
              refine o_astore X80 at_188 rfl (L' := #[.val (.int p0), .val (.int p1), .val (.int p2), .val (.int (0 : Int32)), .val (.int (1 : Int32)), .val (.int kd), .val (.int (1 : Int32)), .val (.int ca), .val (.int ca), .val (.ref b69), .val (.ref st), .val (.ref r80), .unset]) rfl (q := 190) rfl ?_
              refine o_iconst X80 at_190 (w := 0) rfl (q := 191) rfl ?_
              refine o_istore X80 at_191 rfl (L' := #[.val (.int p0), .val (.int p1), .val (.int p2), .val (.int (0 : Int32)), .val (.int (1 : Int32)), .val (.int kd), .val (.int (1 : Int32)), .val (.int ca), .val (.int ca), .val (.ref b69), .val (.ref st), .val (.ref r80), .val (.int (0 : Int32))]) rfl (q := 193) rfl ?_
              refine o_goto X80 at_193 (by decide) (q := 203) (by decide) ?_
              refine o_aload X80 at_203 rfl rfl (q := 205) rfl ?_
              refine o_aload X80 at_205 rfl rfl (q := 207) rfl ?_
              have f82 := ((A69.keep K74).keep K80)
              refine o_virt X80 [(.ref r80)] (y' := (⟨"com/example/parkville/parkville/PNorm", "equals", "(Ljava/lang/Object;)Z"⟩ : MethodName)) f82 (c_eqI hw b69 r80 _ E80) (w14 hw) (w15 hw) (w17 hw) (w16 hw) (w18 hw) (w2 hw) (by decide) at_207 (rest := []) rfl rfl (lenOf pd6 rfl) rfl (by decide) (Nat.le_of_ble_eq_true rfl) (by decide) (by decide) (q := 210) rfl ?_
              intro v81 T81 h81 l81 X81 q81
              obtain ⟨rfl, e81⟩ := q81
              have e81 := e81.symm
              subst e81
              show Goes p e below _ T81 (mkF m 210 #[.val (.int p0), .val (.int p1), .val (.int p2), .val (.int (0 : Int32)), .val (.int (1 : Int32)), .val (.int kd), .val (.int (1 : Int32)), .val (.int ca), .val (.int ca), .val (.ref b69), .val (.ref st), .val (.ref r80), .val (.int (0 : Int32))] [(.int (0 : Int32))])
              refine o_iload X81 at_210 rfl (q := 212) rfl ?_
              refine o_icmpN X81 at_212 (by decide) (q := 215) rfl ?_
              refine o_iconst X81 at_215 (w := 1) rfl (q := 216) rfl ?_
              refine o_goto X81 at_216 (by decide) (q := 220) (by decide) ?_
              exact o_retN X81 at_220 (by simp) rfl (by decide) (by decide)
            · refine o_icmpY X75 at_181 (feq hc181).2 (by decide) (q := 196) (by decide) ?_
              refine o_aload X75 at_196 rfl rfl (q := 198) rfl ?_
              refine o_astore X75 at_198 rfl (L' := #[.val (.int p0), .val (.int p1), .val (.int p2), .val (.int (0 : Int32)), .val (.int (1 : Int32)), .val (.int kd), .val (.int (1 : Int32)), .val (.int ca), .val (.int ca), .val (.ref b69), .val (.ref st), .val (.ref b69), .unset]) rfl (q := 200) rfl ?_
              refine o_iconst X75 at_200 (w := 1) rfl (q := 201) rfl ?_
              refine o_istore X75 at_201 rfl (L' := #[.val (.int p0), .val (.int p1), .val (.int p2), .val (.int (0 : Int32)), .val (.int (1 : Int32)), .val (.int kd), .val (.int (1 : Int32)), .val (.int ca), .val (.int ca), .val (.ref b69), .val (.ref st), .val (.ref b69), .val (.int (1 : Int32))]) rfl (q := 203) rfl ?_
              refine o_aload X75 at_203 rfl rfl (q := 205) rfl ?_
              refine o_aload X75 at_205 rfl rfl (q := 207) rfl ?_
              have f83 := (A69.keep K74)
              refine o_virt X75 [(.ref b69)] (y' := (⟨"com/example/parkville/parkville/PNorm", "equals", "(Ljava/lang/Object;)Z"⟩ : MethodName)) f83 (c_eqE hw b69 b69 d73 _ f83 Fp74 Fp74 iv73.nn) (w14 hw) (w15 hw) (w17 hw) (w16 hw) (w18 hw) (w2 hw) (by decide) at_207 (rest := []) rfl rfl (lenOf pd6 rfl) rfl (by decide) (Nat.le_of_ble_eq_true rfl) (by decide) (by decide) (q := 210) rfl ?_
              intro v84 T84 h84 l84 X84 q84
              obtain ⟨rfl, e84⟩ := q84
              have e84 := e84.symm
              subst e84
              show Goes p e below _ T84 (mkF m 210 #[.val (.int p0), .val (.int p1), .val (.int p2), .val (.int (0 : Int32)), .val (.int (1 : Int32)), .val (.int kd), .val (.int (1 : Int32)), .val (.int ca), .val (.int ca), .val (.ref b69), .val (.ref st), .val (.ref b69), .val (.int (1 : Int32))] [(.int (1 : Int32))])
              refine o_iload X84 at_210 rfl (q := 212) rfl ?_
              refine o_icmpN X84 at_212 (by decide) (q := 215) rfl ?_
              refine o_iconst X84 at_215 (w := 1) rfl (q := 216) rfl ?_
              refine o_goto X84 at_216 (by decide) (q := 220) (by decide) ?_
              exact o_retN X84 at_220 (by simp) rfl (by decide) (by decide)
  · refine o_ifN X at_3 (feq hc3).1 (q := 6) rfl ?_
    refine o_iconst X at_6 (w := 1) rfl (q := 7) rfl ?_
    refine o_goto X at_7 (by decide) (q := 11) (by decide) ?_
    refine o_istoreN X at_11 rfl (L' := #[.val (.int p0), .val (.int p1), .val (.int p2), .val (.int (1 : Int32)), .unset, .unset, .unset, .unset, .unset, .unset, .unset, .unset, .unset]) rfl (q := 12) rfl ?_
    refine o_iloadN X at_12 rfl (q := 13) rfl ?_
    refine o_iconst X at_13 (w := 2) rfl (q := 14) rfl ?_
    refine o_iand X at_14 (w := (p2 &&& (2 : Int32))) rfl (q := 15) rfl ?_
    by_cases hc15 : (p2 &&& (2 : Int32)) = (0 : Int32)
    · refine o_ifY X at_15 (teq hc15).1 (by decide) (q := 22) (by decide) ?_
      refine o_iconst X at_22 (w := 0) rfl (q := 23) rfl ?_
      refine o_istore X at_23 rfl (L' := #[.val (.int p0), .val (.int p1), .val (.int p2), .val (.int (1 : Int32)), .val (.int (0 : Int32)), .unset, .unset, .unset, .unset, .unset, .unset, .unset, .unset]) rfl (q := 25) rfl ?_
      refine o_iloadN X at_25 rfl (q := 26) rfl ?_
      refine o_iconst X at_26 (w := 2) rfl (q := 27) rfl ?_
      refine o_iushr X at_27 (w := ((p2.toUInt32 >>> ((2 : Int32) &&& 31).toUInt32).toInt32)) rfl (q := 28) rfl ?_
      refine o_iconst X at_28 (w := 3) rfl (q := 29) rfl ?_
      refine o_iand X at_29 (w := (((p2.toUInt32 >>> ((2 : Int32) &&& 31).toUInt32).toInt32) &&& (3 : Int32))) rfl (q := 30) rfl ?_
      obtain ⟨kd, h_kd⟩ : ∃ z : Int32, (((p2.toUInt32 >>> ((2 : Int32) &&& 31).toUInt32).toInt32) &&& (3 : Int32)) = z := ⟨_, rfl⟩
      refine o_istore X at_30 h_kd (L' := #[.val (.int p0), .val (.int p1), .val (.int p2), .val (.int (1 : Int32)), .val (.int (0 : Int32)), .val (.int kd), .unset, .unset, .unset, .unset, .unset, .unset, .unset]) rfl (q := 32) rfl ?_
      refine o_iloadN X at_32 rfl (q := 33) rfl ?_
      refine o_bipush X at_33 (w := 16) rfl (q := 35) rfl ?_
      refine o_iand X at_35 (w := (p2 &&& (16 : Int32))) rfl (q := 36) rfl ?_
      by_cases hc36 : (p2 &&& (16 : Int32)) = (0 : Int32)
      · refine o_ifY X at_36 (teq hc36).1 (by decide) (q := 43) (by decide) ?_
        refine o_iconst X at_43 (w := 0) rfl (q := 44) rfl ?_
        refine o_istore X at_44 rfl (L' := #[.val (.int p0), .val (.int p1), .val (.int p2), .val (.int (1 : Int32)), .val (.int (0 : Int32)), .val (.int kd), .val (.int (0 : Int32)), .unset, .unset, .unset, .unset, .unset, .unset]) rfl (q := 46) rfl ?_
        refine o_iloadN X at_46 rfl (q := 47) rfl ?_
        refine o_sipush X at_47 (w := 4095) rfl (q := 50) rfl ?_
        refine o_iand X at_50 (w := (p0 &&& (4095 : Int32))) rfl (q := 51) rfl ?_
        obtain ⟨ca, h_ca⟩ : ∃ z : Int32, (p0 &&& (4095 : Int32)) = z := ⟨_, rfl⟩
        refine o_istore X at_51 h_ca (L' := #[.val (.int p0), .val (.int p1), .val (.int p2), .val (.int (1 : Int32)), .val (.int (0 : Int32)), .val (.int kd), .val (.int (0 : Int32)), .val (.int ca), .unset, .unset, .unset, .unset, .unset]) rfl (q := 53) rfl ?_
        refine o_iload X at_53 rfl (q := 55) rfl ?_
        refine o_ifY X at_55 (by decide) (by decide) (q := 63) (by decide) ?_
        refine o_iloadN X at_63 rfl (q := 64) rfl ?_
        refine o_sipush X at_64 (w := 4095) rfl (q := 67) rfl ?_
        refine o_iand X at_67 (w := (p1 &&& (4095 : Int32))) rfl (q := 68) rfl ?_
        refine o_istore X at_68 rfl (L' := #[.val (.int p0), .val (.int p1), .val (.int p2), .val (.int (1 : Int32)), .val (.int (0 : Int32)), .val (.int kd), .val (.int (0 : Int32)), .val (.int ca), .val (.int (p1 &&& (4095 : Int32))), .unset, .unset, .unset, .unset]) rfl (q := 70) rfl ?_
        refine o_iloadN X at_70 rfl (q := 71) rfl ?_
        refine o_ifN X at_71 (by decide) (q := 74) rfl ?_
        refine o_getS X SST (host := "") (Or.inl (w12 hw)) Via.refl at_74 (q := 77) rfl ?_
        intro T85 X85
        refine o_goto X85 at_77 (by decide) (q := 96) (by decide) ?_
        refine o_astore X85 at_96 rfl (L' := #[.val (.int p0), .val (.int p1), .val (.int p2), .val (.int (1 : Int32)), .val (.int (0 : Int32)), .val (.int kd), .val (.int (0 : Int32)), .val (.int ca), .val (.int (p1 &&& (4095 : Int32))), .val (.ref st), .unset, .unset, .unset]) rfl (q := 98) rfl ?_
        refine o_iload X85 at_98 rfl (q := 100) rfl ?_
        refine o_ifY X85 at_100 (by decide) (by decide) (q := 109) (by decide) ?_
        refine o_new X85 (w0 hw) (w1 hw) (w2 hw) at_109 (by decide) (by decide) (q := 112) rfl ?_
        intro T86 h86 b86 gb86 X86 E86 A86 D86 g0_b86
        have f87 : Fld Z h86 b86 "com/example/parkville/parkville/PNorm" "p" "D" (.double (0 : UInt64)) := D86 (Or.inr (w11 hw)) (ty := .double) (by decide)
        refine o_dup X86 at_112 rfl (q := 113) rfl ?_
        refine o_iconst X86 at_113 (w := 4) rfl (q := 114) rfl ?_
        refine o_iload X86 at_114 rfl (q := 116) rfl ?_
        refine o_iadd X86 at_116 (w := ((4 : Int32) + (p1 &&& (4095 : Int32)))) rfl (q := 117) rfl ?_
        obtain ⟨d88, hd88⟩ : ∃ z : UInt64, FP.i2d ((4 : Int32) + (p1 &&& (4095 : Int32))) = z := ⟨_, rfl⟩
        have iv88 : IsV d88 ((4 + ((p1 &&& (4095 : Int32))).toInt : Int) : Rat) := ((hd88 ▸ IsV.i2d _) : IsV d88 ((((4 : Int32) + (p1 &&& (4095 : Int32)))).toInt : Rat)).eqv (congrArg (fun z : Int => (z : Rat)) (own_4 (own_c rfl)))
        refine o_i2d X86 at_117 hd88 (q := 118) rfl ?_
        have iv89 : IsV (4616189618054758400 : UInt64) (4 : Rat) := ⟨false, 4503599627370496, (-50), by decide +kernel, by decide +kernel⟩
        refine o_ldcD X86 (w3 hw) at_118 (q := 121) rfl ?_
        obtain ⟨d90, hd90⟩ : ∃ z : UInt64, FP.ddiv d88 (4616189618054758400 : UInt64) = z := ⟨_, rfl⟩
        have iv90 : IsV d90 (((4 + ((p1 &&& (4095 : Int32))).toInt : Int) : Rat) / 4) := hd90 ▸ (IsV.div iv88 iv89 (by decide) (own_rep4 (own_c rfl)))
        refine o_ddiv X86 at_121 (hd90.symm ▸ iv90.nn) hd90 (q := 122) rfl ?_
        refine o_spec X86 [(.double d90)] (y' := (⟨"com/example/parkville/parkville/PNorm", "<init>", "(D)V"⟩ : MethodName)) (c_pn hw b86 d90 (((4 + ((p1 &&& (4095 : Int32))).toInt : Int) : Rat) / 4) _ A86 g0_b86 f87 iv90 (own_ge1 (own_c rfl).1)) rfl (w4 hw) (w5 hw) (w6 hw) (w2 hw) (by decide) at_122 (rest := [(.ref b86)]) rfl rfl (lenOf pd5 rfl) rfl (by decide) (Nat.le_of_ble_eq_true rfl) (by decide) (by decide) (q := 125) rfl ?_
        intro v91 T91 h91 l91 X91 q91
        obtain ⟨rfl, K91, Fp91⟩ := q91
        show Goes p e below _ T91 (mkF m 125 #[.val (.int p0), .val (.int p1), .val (.int p2), .val (.int (1 : Int32)), .val (.int (0 : Int32)), .val (.int kd), .val (.int (0 : Int32)), .val (.int ca), .val (.int (p1 &&& (4095 : Int32))), .val (.ref st), .unset, .unset, .unset] [(.ref b86)])
        refine o_astore X91 at_125 rfl (L' := #[.val (.int p0), .val (.int p1), .val (.int p2), .val (.int (1 : Int32)), .val (.int (0 : Int32)), .val (.int kd), .val (.int (0 : Int32)), .val (.int ca), .val (.int (p1 &&& (4095 : Int32))), .val (.ref st), .val (.ref b86), .unset, .unset]) rfl (q := 127) rfl ?_
        refine o_iload X91 at_127 rfl (q := 129) rfl ?_
        by_cases hc129 : kd = (0 : Int32)
        · refine o_ifN X91 at_129 (teq hc129).2 (q := 132) rfl ?_
          refine o_aload X91 at_132 rfl rfl (q := 134) rfl ?_
          refine o_astore X91 at_134 rfl (L' := #[.val (.int p0), .val (.int p1), .val (.int p2), .val (.int (1 : Int32)), .val (.int (0 : Int32)), .val (.int kd), .val (.int (0 : Int32)), .val (.int ca), .val (.int (p1 &&& (4095 : Int32))), .val (.ref st), .val (.ref b86), .val (.ref b86), .unset]) rfl (q := 136) rfl ?_
          refine o_iloadN X91 at_136 rfl (q := 137) rfl ?_
          refine o_iload X91 at_137 rfl (q := 139) rfl ?_
          refine o_icmpY X91 at_139 (by decide) (by decide) (q := 157) (by decide) ?_
          refine o_iconst X91 at_157 (w := 0) rfl (q := 158) rfl ?_
          refine o_istore X91 at_158 rfl (L' := #[.val (.int p0), .val (.int p1), .val (.int p2), .val (.int (1 : Int32)), .val (.int (0 : Int32)), .val (.int kd), .val (.int (0 : Int32)), .val (.int ca), .val (.int (p1 &&& (4095 : Int32))), .val (.ref st), .val (.ref b86), .val (.ref b86), .val (.int (0 : Int32))]) rfl (q := 160) rfl ?_
          refine o_goto X91 at_160 (by decide) (q := 203) (by decide) ?_
          refine o_aload X91 at_203 rfl rfl (q := 205) rfl ?_
          refine o_aload X91 at_205 rfl rfl (q := 207) rfl ?_
          have f92 := (A86.keep K91)
          refine o_virt X91 [(.ref b86)] (y' := (⟨"com/example/parkville/parkville/PNorm", "equals", "(Ljava/lang/Object;)Z"⟩ : MethodName)) (EST.ext X91.ext) (c_eqG hw st b86 (9218868437227405312 : UInt64) d90 _ f92 (FST.ext X91.ext) Fp91 (own_infgt iv90)) (w14 hw) (w15 hw) (w17 hw) (w16 hw) (w18 hw) (w2 hw) (by decide) at_207 (rest := []) rfl rfl (lenOf pd6 rfl) rfl (by decide) (Nat.le_of_ble_eq_true rfl) (by decide) (by decide) (q := 210) rfl ?_
          intro v93 T93 h93 l93 X93 q93
          obtain ⟨rfl, e93⟩ := q93
          have e93 := e93.symm
          subst e93
          show Goes p e below _ T93 (mkF m 210 #[.val (.int p0), .val (.int p1), .val (.int p2), .val (.int (1 : Int32)), .val (.int (0 : Int32)), .val (.int kd), .val (.int (0 : Int32)), .val (.int ca), .val (.int (p1 &&& (4095 : Int32))), .val (.ref st), .val (.ref b86), .val (.ref b86), .val (.int (0 : Int32))] [(.int (0 : Int32))])
          refine o_iload X93 at_210 rfl (q := 212) rfl ?_
          refine o_icmpN X93 at_212 (by decide) (q := 215) rfl ?_
          refine o_iconst X93 at_215 (w := 1) rfl (q := 216) rfl ?_
          refine o_goto X93 at_216 (by decide) (q := 220) (by decide) ?_
          exact o_retN X93 at_220 (by simp) rfl (by decide) (by decide)
        · refine o_ifY X91 at_129 (feq hc129).2 (by decide) (q := 163) (by decide) ?_
          refine o_iload X91 at_163 rfl (q := 165) rfl ?_
          refine o_iconst X91 at_165 (w := 1) rfl (q := 166) rfl ?_
          by_cases hc166 : kd = (1 : Int32)
          · refine o_icmpN X91 at_166 (teq hc166).2 (q := 169) rfl ?_
            refine o_null X91 at_169 (q := 170) rfl ?_
            refine o_astore X91 at_170 rfl (L' := #[.val (.int p0), .val (.int p1), .val (.int p2), .val (.int (1 : Int32)), .val (.int (0 : Int32)), .val (.int kd), .val (.int (0 : Int32)), .val (.int ca), .val (.int (p1 &&& (4095 : Int32))), .val (.ref st), .val (.ref b86), .val .null, .unset]) rfl (q := 172) rfl ?_
            refine o_iconst X91 at_172 (w := 0) rfl (q := 173) rfl ?_
            refine o_istore X91 at_173 rfl (L' := #[.val (.int p0), .val (.int p1), .val (.int p2), .val (.int (1 : Int32)), .val (.int (0 : Int32)), .val (.int kd), .val (.int (0 : Int32)), .val (.int ca), .val (.int (p1 &&& (4095 : Int32))), .val (.ref st), .val (.ref b86), .val .null, .val (.int (0 : Int32))]) rfl (q := 175) rfl ?_
            refine o_goto X91 at_175 (by decide) (q := 203) (by decide) ?_
            refine o_aload X91 at_203 rfl rfl (q := 205) rfl ?_
            refine o_aload X91 at_205 rfl rfl (q := 207) rfl ?_
            refine o_virt X91 [.null] (y' := (⟨"com/example/parkville/parkville/PNorm", "equals", "(Ljava/lang/Object;)Z"⟩ : MethodName)) (EST.ext X91.ext) (c_eqN hw st _) (w14 hw) (w15 hw) (w17 hw) (w16 hw) (w18 hw) (w2 hw) (by decide) at_207 (rest := []) rfl rfl (lenOf pd6 rfl) rfl (by decide) (Nat.le_of_ble_eq_true rfl) (by decide) (by decide) (q := 210) rfl ?_
            intro v94 T94 h94 l94 X94 q94
            obtain ⟨rfl, e94⟩ := q94
            have e94 := e94.symm
            subst e94
            show Goes p e below _ T94 (mkF m 210 #[.val (.int p0), .val (.int p1), .val (.int p2), .val (.int (1 : Int32)), .val (.int (0 : Int32)), .val (.int kd), .val (.int (0 : Int32)), .val (.int ca), .val (.int (p1 &&& (4095 : Int32))), .val (.ref st), .val (.ref b86), .val .null, .val (.int (0 : Int32))] [(.int (0 : Int32))])
            refine o_iload X94 at_210 rfl (q := 212) rfl ?_
            refine o_icmpN X94 at_212 (by decide) (q := 215) rfl ?_
            refine o_iconst X94 at_215 (w := 1) rfl (q := 216) rfl ?_
            refine o_goto X94 at_216 (by decide) (q := 220) (by decide) ?_
            exact o_retN X94 at_220 (by simp) rfl (by decide) (by decide)
          · refine o_icmpY X91 at_166 (feq hc166).2 (by decide) (q := 178) (by decide) ?_
            refine o_iload X91 at_178 rfl (q := 180) rfl ?_
            refine o_iconst X91 at_180 (w := 2) rfl (q := 181) rfl ?_
            by_cases hc181 : kd = (2 : Int32)
            · refine o_icmpN X91 at_181 (teq hc181).2 (q := 184) rfl ?_
              refine o_iloadN X91 at_184 rfl (q := 185) rfl ?_
              refine o_stat X91 [(.int p0)] (y' := (⟨"java/lang/Integer", "valueOf", "(I)Ljava/lang/Integer;"⟩ : MethodName)) (c_vof hw p0 _ SHI SCA VCA HCA) (w34 hw) (w35 hw) (w36 hw) (w37 hw) (by decide) at_185 (rest := []) rfl rfl (lenOf pd7 rfl) rfl (by decide) (Nat.le_of_ble_eq_true rfl) (by decide) (by decide) (q := 188) rfl ?_
              intro v95 T95 h95 l95 X95 q95
              obtain ⟨r95, rfl, K95, E95⟩ := q95
              show Goes p e below _ T95 (mkF m 188 #[.val (.int p0), .val (.int p1), .val (.int p2), .val (.int (1 : Int32)), .val (.int (0 : Int32)), .val (.int kd), .val (.int (0 : Int32)), .val (.int ca), .val (.int (p1 &&& (4095 : Int32))), .val (.ref st), .val (.ref b86), .unset, .unset] [(.ref r95)])
              refine o_astore X95 at_188 rfl (L' := #[.val (.int p0), .val (.int p1), .val (.int p2), .val (.int (1 : Int32)), .val (.int (0 : Int32)), .val (.int kd), .val (.int (0 : Int32)), .val (.int ca), .val (.int (p1 &&& (4095 : Int32))), .val (.ref st), .val (.ref b86), .val (.ref r95), .unset]) rfl (q := 190) rfl ?_
              refine o_iconst X95 at_190 (w := 0) rfl (q := 191) rfl ?_
              refine o_istore X95 at_191 rfl (L' := #[.val (.int p0), .val (.int p1), .val (.int p2), .val (.int (1 : Int32)), .val (.int (0 : Int32)), .val (.int kd), .val (.int (0 : Int32)), .val (.int ca), .val (.int (p1 &&& (4095 : Int32))), .val (.ref st), .val (.ref b86), .val (.ref r95), .val (.int (0 : Int32))]) rfl (q := 193) rfl ?_
              refine o_goto X95 at_193 (by decide) (q := 203) (by decide) ?_
              refine o_aload X95 at_203 rfl rfl (q := 205) rfl ?_
              refine o_aload X95 at_205 rfl rfl (q := 207) rfl ?_
              refine o_virt X95 [(.ref r95)] (y' := (⟨"com/example/parkville/parkville/PNorm", "equals", "(Ljava/lang/Object;)Z"⟩ : MethodName)) (EST.ext X95.ext) (c_eqI hw st r95 _ E95) (w14 hw) (w15 hw) (w17 hw) (w16 hw) (w18 hw) (w2 hw) (by decide) at_207 (rest := []) rfl rfl (lenOf pd6 rfl) rfl (by decide) (Nat.le_of_ble_eq_true rfl) (by decide) (by decide) (q := 210) rfl ?_
              intro v96 T96 h96 l96 X96 q96
              obtain ⟨rfl, e96⟩ := q96
              have e96 := e96.symm
              subst e96
              show Goes p e below _ T96 (mkF m 210 #[.val (.int p0), .val (.int p1), .val (.int p2), .val (.int (1 : Int32)), .val (.int (0 : Int32)), .val (.int kd), .val (.int (0 : Int32)), .val (.int ca), .val (.int (p1 &&& (4095 : Int32))), .val (.ref st), .val (.ref b86), .val (.ref r95), .val (.int (0 : Int32))] [(.int (0 : Int32))])
              refine o_iload X96 at_210 rfl (q := 212) rfl ?_
              refine o_icmpN X96 at_212 (by decide) (q := 215) rfl ?_
              refine o_iconst X96 at_215 (w := 1) rfl (q := 216) rfl ?_
              refine o_goto X96 at_216 (by decide) (q := 220) (by decide) ?_
              exact o_retN X96 at_220 (by simp) rfl (by decide) (by decide)
            · refine o_icmpY X91 at_181 (feq hc181).2 (by decide) (q := 196) (by decide) ?_
              refine o_aload X91 at_196 rfl rfl (q := 198) rfl ?_
              refine o_astore X91 at_198 rfl (L' := #[.val (.int p0), .val (.int p1), .val (.int p2), .val (.int (1 : Int32)), .val (.int (0 : Int32)), .val (.int kd), .val (.int (0 : Int32)), .val (.int ca), .val (.int (p1 &&& (4095 : Int32))), .val (.ref st), .val (.ref b86), .val (.ref st), .unset]) rfl (q := 200) rfl ?_
              refine o_iconst X91 at_200 (w := 1) rfl (q := 201) rfl ?_
              refine o_istore X91 at_201 rfl (L' := #[.val (.int p0), .val (.int p1), .val (.int p2), .val (.int (1 : Int32)), .val (.int (0 : Int32)), .val (.int kd), .val (.int (0 : Int32)), .val (.int ca), .val (.int (p1 &&& (4095 : Int32))), .val (.ref st), .val (.ref b86), .val (.ref st), .val (.int (1 : Int32))]) rfl (q := 203) rfl ?_
              refine o_aload X91 at_203 rfl rfl (q := 205) rfl ?_
              refine o_aload X91 at_205 rfl rfl (q := 207) rfl ?_
              refine o_virt X91 [(.ref st)] (y' := (⟨"com/example/parkville/parkville/PNorm", "equals", "(Ljava/lang/Object;)Z"⟩ : MethodName)) (EST.ext X91.ext) (c_eqE hw st st (9218868437227405312 : UInt64) _ (EST.ext X91.ext) (FST.ext X91.ext) (FST.ext X91.ext) own_infnn) (w14 hw) (w15 hw) (w17 hw) (w16 hw) (w18 hw) (w2 hw) (by decide) at_207 (rest := []) rfl rfl (lenOf pd6 rfl) rfl (by decide) (Nat.le_of_ble_eq_true rfl) (by decide) (by decide) (q := 210) rfl ?_
              intro v97 T97 h97 l97 X97 q97
              obtain ⟨rfl, e97⟩ := q97
              have e97 := e97.symm
              subst e97
              show Goes p e below _ T97 (mkF m 210 #[.val (.int p0), .val (.int p1), .val (.int p2), .val (.int (1 : Int32)), .val (.int (0 : Int32)), .val (.int kd), .val (.int (0 : Int32)), .val (.int ca), .val (.int (p1 &&& (4095 : Int32))), .val (.ref st), .val (.ref b86), .val (.ref st), .val (.int (1 : Int32))] [(.int (1 : Int32))])
              refine o_iload X97 at_210 rfl (q := 212) rfl ?_
              refine o_icmpN X97 at_212 (by decide) (q := 215) rfl ?_
              refine o_iconst X97 at_215 (w := 1) rfl (q := 216) rfl ?_
              refine o_goto X97 at_216 (by decide) (q := 220) (by decide) ?_
              exact o_retN X97 at_220 (by simp) rfl (by decide) (by decide)
      · refine o_ifN X at_36 (feq hc36).1 (q := 39) rfl ?_
        refine o_iconst X at_39 (w := 1) rfl (q := 40) rfl ?_
        refine o_goto X at_40 (by decide) (q := 44) (by decide) ?_
        refine o_istore X at_44 rfl (L' := #[.val (.int p0), .val (.int p1), .val (.int p2), .val (.int (1 : Int32)), .val (.int (0 : Int32)), .val (.int kd), .val (.int (1 : Int32)), .unset, .unset, .unset, .unset, .unset, .unset]) rfl (q := 46) rfl ?_
        refine o_iloadN X at_46 rfl (q := 47) rfl ?_
        refine o_sipush X at_47 (w := 4095) rfl (q := 50) rfl ?_
        refine o_iand X at_50 (w := (p0 &&& (4095 : Int32))) rfl (q := 51) rfl ?_
        obtain ⟨ca, h_ca⟩ : ∃ z : Int32, (p0 &&& (4095 : Int32)) = z := ⟨_, rfl⟩
        refine o_istore X at_51 h_ca (L' := #[.val (.int p0), .val (.int p1), .val (.int p2), .val (.int (1 : Int32)), .val (.int (0 : Int32)), .val (.int kd), .val (.int (1 : Int32)), .val (.int ca), .unset, .unset, .unset, .unset, .unset]) rfl (q := 53) rfl ?_
        refine o_iload X at_53 rfl (q := 55) rfl ?_
        refine o_ifN X at_55 (by decide) (q := 58) rfl ?_
        refine o_iload X at_58 rfl (q := 60) rfl ?_
        refine o_goto X at_60 (by decide) (q := 68) (by decide) ?_
        refine o_istore X at_68 rfl (L' := #[.val (.int p0), .val (.int p1), .val (.int p2), .val (.int (1 : Int32)), .val (.int (0 : Int32)), .val (.int kd), .val (.int (1 : Int32)), .val (.int ca), .val (.int ca), .unset, .unset, .unset, .unset]) rfl (q := 70) rfl ?_
        refine o_iloadN X at_70 rfl (q := 71) rfl ?_
        refine o_ifN X at_71 (by decide) (q := 74) rfl ?_
        refine o_getS X SST (host := "") (Or.inl (w12 hw)) Via.refl at_74 (q := 77) rfl ?_
        intro T98 X98
        refine o_goto X98 at_77 (by decide) (q := 96) (by decide) ?_
        refine o_astore X98 at_96 rfl (L' := #[.val (.int p0), .val (.int p1), .val (.int p2), .val (.int (1 : Int32)), .val (.int (0 : Int32)), .val (.int kd), .val (.int (1 : Int32)), .val (.int ca), .val (.int ca), .val (.ref st), .unset, .unset, .unset]) rfl (q := 98) rfl ?_
        refine o_iload X98 at_98 rfl (q := 100) rfl ?_
        refine o_ifY X98 at_100 (by decide) (by decide) (q := 109) (by decide) ?_
        refine o_new X98 (w0 hw) (w1 hw) (w2 hw) at_109 (by decide) (by decide) (q := 112) rfl ?_
        intro T99 h99 b99 gb99 X99 E99 A99 D99 g0_b99
        have f100 : Fld Z h99 b99 "com/example/parkville/parkville/PNorm" "p" "D" (.double (0 : UInt64)) := D99 (Or.inr (w11 hw)) (ty := .double) (by decide)
        refine o_dup X99 at_112 rfl (q := 113) rfl ?_
        refine o_iconst X99 at_113 (w := 4) rfl (q := 114) rfl ?_
        refine o_iload X99 at_114 rfl (q := 116) rfl ?_
        refine o_iadd X99 at_116 (w := ((4 : Int32) + ca)) rfl (q := 117) rfl ?_
        obtain ⟨d101, hd101⟩ : ∃ z : UInt64, FP.i2d ((4 : Int32) + ca) = z := ⟨_, rfl⟩
        have iv101 : IsV d101 ((4 + (ca).toInt : Int) : Rat) := ((hd101 ▸ IsV.i2d _) : IsV d101 ((((4 : Int32) + ca)).toInt : Rat)).eqv (congrArg (fun z : Int => (z : Rat)) (own_4 (own_c h_ca)))
        refine o_i2d X99 at_117 hd101 (q := 118) rfl ?_
        have iv102 : IsV (4616189618054758400 : UInt64) (4 : Rat) := ⟨false, 4503599627370496, (-50), by decide +kernel, by decide +kernel⟩
        refine o_ldcD X99 (w3 hw) at_118 (q := 121) rfl ?_
        obtain ⟨d103, hd103⟩ : ∃ z : UInt64, FP.ddiv d101 (4616189618054758400 : UInt64) = z := ⟨_, rfl⟩
        have iv103 : IsV d103 (((4 + (ca).toInt : Int) : Rat) / 4) := hd103 ▸ (IsV.div iv101 iv102 (by decide) (own_rep4 (own_c h_ca)))
        refine o_ddiv X99 at_121 (hd103.symm ▸ iv103.nn) hd103 (q := 122) rfl ?_
        refine o_spec X99 [(.double d103)] (y' := (⟨"com/example/parkville/parkville/PNorm", "<init>", "(D)V"⟩ : MethodName)) (c_pn hw b99 d103 (((4 + (ca).toInt : Int) : Rat) / 4) _ A99 g0_b99 f100 iv103 (own_ge1 (own_c h_ca).1)) rfl (w4 hw) (w5 hw) (w6 hw) (w2 hw) (by decide) at_122 (rest := [(.ref b99)]) rfl rfl (lenOf pd5 rfl) rfl (by decide) (Nat.le_of_ble_eq_true rfl) (by decide) (by decide) (q := 125) rfl ?_
        intro v104 T104 h104 l104 X104 q104
        obtain ⟨rfl, K104, Fp104⟩ := q104
        show Goes p e below _ T104 (mkF m 125 #[.val (.int p0), .val (.int p1), .val (.int p2), .val (.int (1 : Int32)), .val (.int (0 : Int32)), .val (.int kd), .val (.int (1 : Int32)), .val (.int ca), .val (.int ca), .val (.ref st), .unset, .unset, .unset] [(.ref b99)])
        refine o_astore X104 at_125 rfl (L' := #[.val (.int p0), .val (.int p1), .val (.int p2), .val (.int (1 : Int32)), .val (.int (0 : Int32)), .val (.int kd), .val (.int (1 : Int32)), .val (.int ca), .val (.int ca), .val (.ref st), .val (.ref b99), .unset, .unset]) rfl (q := 127) rfl ?_
        refine o_iload X104 at_127 rfl (q := 129) rfl ?_
        by_cases hc129 : kd = (0 : Int32)
        · refine o_ifN X104 at_129 (teq hc129).2 (q := 132) rfl ?_
          refine o_aload X104 at_132 rfl rfl (q := 134) rfl ?_
          refine o_astore X104 at_134 rfl (L' := #[.val (.int p0), .val (.int p1), .val (.int p2), .val (.int (1 : Int32)), .val (.int (0 : Int32)), .val (.int kd), .val (.int (1 : Int32)), .val (.int ca), .val (.int ca), .val (.ref st), .val (.ref b99), .val (.ref b99), .unset]) rfl (q := 136) rfl ?_
          refine o_iloadN X104 at_136 rfl (q := 137) rfl ?_
          refine o_iload X104 at_137 rfl (q := 139) rfl ?_
          refine o_icmpY X104 at_139 (by decide) (by decide) (q := 157) (by decide) ?_
          refine o_iconst X104 at_157 (w := 0) rfl (q := 158) rfl ?_
          refine o_istore X104 at_158 rfl (L' := #[.val (.int p0), .val (.int p1), .val (.int p2), .val (.int (1 : Int32)), .val (.int (0 : Int32)), .val (.int kd), .val (.int (1 : Int32)), .val (.int ca), .val (.int ca), .val (.ref st), .val (.ref b99), .val (.ref b99), .val (.int (0 : Int32))]) rfl (q := 160) rfl ?_
          refine o_goto X104 at_160 (by decide) (q := 203) (by decide) ?_
          refine o_aload X104 at_203 rfl rfl (q := 205) rfl ?_
          refine o_aload X104 at_205 rfl rfl (q := 207) rfl ?_
          have f105 := (A99.keep K104)
          refine o_virt X104 [(.ref b99)] (y' := (⟨"com/example/parkville/parkville/PNorm", "equals", "(Ljava/lang/Object;)Z"⟩ : MethodName)) (EST.ext X104.ext) (c_eqG hw st b99 (9218868437227405312 : UInt64) d103 _ f105 (FST.ext X104.ext) Fp104 (own_infgt iv103)) (w14 hw) (w15 hw) (w17 hw) (w16 hw) (w18 hw) (w2 hw) (by decide) at_207 (rest := []) rfl rfl (lenOf pd6 rfl) rfl (by decide) (Nat.le_of_ble_eq_true rfl) (by decide) (by decide) (q := 210) rfl ?_
          intro v106 T106 h106 l106 X106 q106
          obtain ⟨rfl, e106⟩ := q106
          have e106 := e106.symm
          subst e106
          show Goes p e below _ T106 (mkF m 210 #[.val (.int p0), .val (.int p1), .val (.int p2), .val (.int (1 : Int32)), .val (.int (0 : Int32)), .val (.int kd), .val (.int (1 : Int32)), .val (.int ca), .val (.int ca), .val (.ref st), .val (.ref b99), .val (.ref b99), .val (.int (0 : Int32))] [(.int (0 : Int32))])
          refine o_iload X106 at_210 rfl (q := 212) rfl ?_
          refine o_icmpN X106 at_212 (by decide) (q := 215) rfl ?_
          refine o_iconst X106 at_215 (w := 1) rfl (q := 216) rfl ?_
          refine o_goto X106 at_216 (by decide) (q := 220) (by decide) ?_
          exact o_retN X106 at_220 (by simp) rfl (by decide) (by decide)
        · refine o_ifY X104 at_129 (feq hc129).2 (by decide) (q := 163) (by decide) ?_
          refine o_iload X104 at_163 rfl (q := 165) rfl ?_
          refine o_iconst X104 at_165 (w := 1) rfl (q := 166) rfl ?_
          by_cases hc166 : kd = (1 : Int32)
          · refine o_icmpN X104 at_166 (teq hc166).2 (q := 169) rfl ?_
            refine o_null X104 at_169 (q := 170) rfl ?_
            refine o_astore X104 at_170 rfl (L' := #[.val (.int p0), .val (.int p1), .val (.int p2), .val (.int (1 : Int32)), .val (.int (0 : Int32)), .val (.int kd), .val (.int (1 : Int32)), .val (.int ca), .val (.int ca), .val (.ref st), .val (.ref b99), .val .null, .unset]) rfl (q := 172) rfl ?_
            refine o_iconst X104 at_172 (w := 0) rfl (q := 173) rfl ?_
            refine o_istore X104 at_173 rfl (L' := #[.val (.int p0), .val (.int p1), .val (.int p2), .val (.int (1 : Int32)), .val (.int (0 : Int32)), .val (.int kd), .val (.int (1 : Int32)), .val (.int ca), .val (.int ca), .val (.ref st), .val (.ref b99), .val .null, .val (.int (0 : Int32))]) rfl (q := 175) rfl ?_
            refine o_goto X104 at_175 (by decide) (q := 203) (by decide) ?_
            refine o_aload X104 at_203 rfl rfl (q := 205) rfl ?_
            refine o_aload X104 at_205 rfl rfl (q := 207) rfl ?_
            refine o_virt X104 [.null] (y' := (⟨"com/example/parkville/parkville/PNorm", "equals", "(Ljava/lang/Object;)Z"⟩ : MethodName)) (EST.ext X104.ext) (c_eqN hw st _) (w14 hw) (w15 hw) (w17 hw) (w16 hw) (w18 hw) (w2 hw) (by decide) at_207 (rest := []) rfl rfl (lenOf pd6 rfl) rfl (by decide) (Nat.le_of_ble_eq_true rfl) (by decide) (by decide) (q := 210) rfl ?_
            intro v107 T107 h107 l107 X107 q107
            obtain ⟨rfl, e107⟩ := q107
            have e107 := e107.symm
            subst e107
            show Goes p e below _ T107 (mkF m 210 #[.val (.int p0), .val (.int p1), .val (.int p2), .val (.int (1 : Int32)), .val (.int (0 : Int32)), .val (.int kd), .val (.int (1 : Int32)), .val (.int ca), .val (.int ca), .val (.ref st), .val (.ref b99), .val .null, .val (.int (0 : Int32))] [(.int (0 : Int32))])
            refine o_iload X107 at_210 rfl (q := 212) rfl ?_
            refine o_icmpN X107 at_212 (by decide) (q := 215) rfl ?_
            refine o_iconst X107 at_215 (w := 1) rfl (q := 216) rfl ?_
            refine o_goto X107 at_216 (by decide) (q := 220) (by decide) ?_
            exact o_retN X107 at_220 (by simp) rfl (by decide) (by decide)
          · refine o_icmpY X104 at_166 (feq hc166).2 (by decide) (q := 178) (by decide) ?_
            refine o_iload X104 at_178 rfl (q := 180) rfl ?_
            refine o_iconst X104 at_180 (w := 2) rfl (q := 181) rfl ?_
            by_cases hc181 : kd = (2 : Int32)
            · refine o_icmpN X104 at_181 (teq hc181).2 (q := 184) rfl ?_
              refine o_iloadN X104 at_184 rfl (q := 185) rfl ?_
              refine o_stat X104 [(.int p0)] (y' := (⟨"java/lang/Integer", "valueOf", "(I)Ljava/lang/Integer;"⟩ : MethodName)) (c_vof hw p0 _ SHI SCA VCA HCA) (w34 hw) (w35 hw) (w36 hw) (w37 hw) (by decide) at_185 (rest := []) rfl rfl (lenOf pd7 rfl) rfl (by decide) (Nat.le_of_ble_eq_true rfl) (by decide) (by decide) (q := 188) rfl ?_
              intro v108 T108 h108 l108 X108 q108
              obtain ⟨r108, rfl, K108, E108⟩ := q108
              show Goes p e below _ T108 (mkF m 188 #[.val (.int p0), .val (.int p1), .val (.int p2), .val (.int (1 : Int32)), .val (.int (0 : Int32)), .val (.int kd), .val (.int (1 : Int32)), .val (.int ca), .val (.int ca), .val (.ref st), .val (.ref b99), .unset, .unset] [(.ref r108)])
              refine o_astore X108 at_188 rfl (L' := #[.val (.int p0), .val (.int p1), .val (.int p2), .val (.int (1 : Int32)), .val (.int (0 : Int32)), .val (.int kd), .val (.int (1 : Int32)), .val (.int ca), .val (.int ca), .val (.ref st), .val (.ref b99), .val (.ref r108), .unset]) rfl (q := 190) rfl ?_
              refine o_iconst X108 at_190 (w := 0) rfl (q := 191) rfl ?_
              refine o_istore X108 at_191 rfl (L' := #[.val (.int p0), .val (.int p1), .val (.int p2), .val (.int (1 : Int32)), .val (.int (0 : Int32)), .val (.int kd), .val (.int (1 : Int32)), .val (.int ca), .val (.int ca), .val (.ref st), .val (.ref b99), .val (.ref r108), .val (.int (0 : Int32))]) rfl (q := 193) rfl ?_
              refine o_goto X108 at_193 (by decide) (q := 203) (by decide) ?_
              refine o_aload X108 at_203 rfl rfl (q := 205) rfl ?_
              refine o_aload X108 at_205 rfl rfl (q := 207) rfl ?_
              refine o_virt X108 [(.ref r108)] (y' := (⟨"com/example/parkville/parkville/PNorm", "equals", "(Ljava/lang/Object;)Z"⟩ : MethodName)) (EST.ext X108.ext) (c_eqI hw st r108 _ E108) (w14 hw) (w15 hw) (w17 hw) (w16 hw) (w18 hw) (w2 hw) (by decide) at_207 (rest := []) rfl rfl (lenOf pd6 rfl) rfl (by decide) (Nat.le_of_ble_eq_true rfl) (by decide) (by decide) (q := 210) rfl ?_
              intro v109 T109 h109 l109 X109 q109
              obtain ⟨rfl, e109⟩ := q109
              have e109 := e109.symm
              subst e109
              show Goes p e below _ T109 (mkF m 210 #[.val (.int p0), .val (.int p1), .val (.int p2), .val (.int (1 : Int32)), .val (.int (0 : Int32)), .val (.int kd), .val (.int (1 : Int32)), .val (.int ca), .val (.int ca), .val (.ref st), .val (.ref b99), .val (.ref r108), .val (.int (0 : Int32))] [(.int (0 : Int32))])
              refine o_iload X109 at_210 rfl (q := 212) rfl ?_
              refine o_icmpN X109 at_212 (by decide) (q := 215) rfl ?_
              refine o_iconst X109 at_215 (w := 1) rfl (q := 216) rfl ?_
              refine o_goto X109 at_216 (by decide) (q := 220) (by decide) ?_
              exact o_retN X109 at_220 (by simp) rfl (by decide) (by decide)
            · refine o_icmpY X104 at_181 (feq hc181).2 (by decide) (q := 196) (by decide) ?_
              refine o_aload X104 at_196 rfl rfl (q := 198) rfl ?_
              refine o_astore X104 at_198 rfl (L' := #[.val (.int p0), .val (.int p1), .val (.int p2), .val (.int (1 : Int32)), .val (.int (0 : Int32)), .val (.int kd), .val (.int (1 : Int32)), .val (.int ca), .val (.int ca), .val (.ref st), .val (.ref b99), .val (.ref st), .unset]) rfl (q := 200) rfl ?_
              refine o_iconst X104 at_200 (w := 1) rfl (q := 201) rfl ?_
              refine o_istore X104 at_201 rfl (L' := #[.val (.int p0), .val (.int p1), .val (.int p2), .val (.int (1 : Int32)), .val (.int (0 : Int32)), .val (.int kd), .val (.int (1 : Int32)), .val (.int ca), .val (.int ca), .val (.ref st), .val (.ref b99), .val (.ref st), .val (.int (1 : Int32))]) rfl (q := 203) rfl ?_
              refine o_aload X104 at_203 rfl rfl (q := 205) rfl ?_
              refine o_aload X104 at_205 rfl rfl (q := 207) rfl ?_
              refine o_virt X104 [(.ref st)] (y' := (⟨"com/example/parkville/parkville/PNorm", "equals", "(Ljava/lang/Object;)Z"⟩ : MethodName)) (EST.ext X104.ext) (c_eqE hw st st (9218868437227405312 : UInt64) _ (EST.ext X104.ext) (FST.ext X104.ext) (FST.ext X104.ext) own_infnn) (w14 hw) (w15 hw) (w17 hw) (w16 hw) (w18 hw) (w2 hw) (by decide) at_207 (rest := []) rfl rfl (lenOf pd6 rfl) rfl (by decide) (Nat.le_of_ble_eq_true rfl) (by decide) (by decide) (q := 210) rfl ?_
              intro v110 T110 h110 l110 X110 q110
              obtain ⟨rfl, e110⟩ := q110
              have e110 := e110.symm
              subst e110
              show Goes p e below _ T110 (mkF m 210 #[.val (.int p0), .val (.int p1), .val (.int p2), .val (.int (1 : Int32)), .val (.int (0 : Int32)), .val (.int kd), .val (.int (1 : Int32)), .val (.int ca), .val (.int ca), .val (.ref st), .val (.ref b99), .val (.ref st), .val (.int (1 : Int32))] [(.int (1 : Int32))])
              refine o_iload X110 at_210 rfl (q := 212) rfl ?_
              refine o_icmpN X110 at_212 (by decide) (q := 215) rfl ?_
              refine o_iconst X110 at_215 (w := 1) rfl (q := 216) rfl ?_
              refine o_goto X110 at_216 (by decide) (q := 220) (by decide) ?_
              exact o_retN X110 at_220 (by simp) rfl (by decide) (by decide)
    · refine o_ifN X at_15 (feq hc15).1 (q := 18) rfl ?_
      refine o_iconst X at_18 (w := 1) rfl (q := 19) rfl ?_
      refine o_goto X at_19 (by decide) (q := 23) (by decide) ?_
      refine o_istore X at_23 rfl (L' := #[.val (.int p0), .val (.int p1), .val (.int p2), .val (.int (1 : Int32)), .val (.int (1 : Int32)), .unset, .unset, .unset, .unset, .unset, .unset, .unset, .unset]) rfl (q := 25) rfl ?_
      refine o_iloadN X at_25 rfl (q := 26) rfl ?_
      refine o_iconst X at_26 (w := 2) rfl (q := 27) rfl ?_
      refine o_iushr X at_27 (w := ((p2.toUInt32 >>> ((2 : Int32) &&& 31).toUInt32).toInt32)) rfl (q := 28) rfl ?_
      refine o_iconst X at_28 (w := 3) rfl (q := 29) rfl ?_
      refine o_iand X at_29 (w := (((p2.toUInt32 >>> ((2 : Int32) &&& 31).toUInt32).toInt32) &&& (3 : Int32))) rfl (q := 30) rfl ?_
      obtain ⟨kd, h_kd⟩ : ∃ z : Int32, (((p2.toUInt32 >>> ((2 : Int32) &&& 31).toUInt32).toInt32) &&& (3 : Int32)) = z := ⟨_, rfl⟩
      refine o_istore X at_30 h_kd (L' := #[.val (.int p0), .val (.int p1), .val (.int p2), .val (.int (1 : Int32)), .val (.int (1 : Int32)), .val (.int kd), .unset, .unset, .unset, .unset, .unset, .unset, .unset]) rfl (q := 32) rfl ?_
      refine o_iloadN X at_32 rfl (q := 33) rfl ?_
      refine o_bipush X at_33 (w := 16) rfl (q := 35) rfl ?_
      refine o_iand X at_35 (w := (p2 &&& (16 : Int32))) rfl (q := 36) rfl ?_
      by_cases hc36 : (p2 &&& (16 : Int32)) = (0 : Int32)
      · refine o_ifY X at_36 (teq hc36).1 (by decide) (q := 43) (by decide) ?_
        refine o_iconst X at_43 (w := 0) rfl (q := 44) rfl ?_
        refine o_istore X at_44 rfl (L' := #[.val (.int p0), .val (.int p1), .val (.int p2), .val (.int (1 : Int32)), .val (.int (1 : Int32)), .val (.int kd), .val (.int (0 : Int32)), .unset, .unset, .unset, .unset, .unset, .unset]) rfl (q := 46) rfl ?_
        refine o_iloadN X at_46 rfl (q := 47) rfl ?_
        refine o_sipush X at_47 (w := 4095) rfl (q := 50) rfl ?_
        refine o_iand X at_50 (w := (p0 &&& (4095 : Int32))) rfl (q := 51) rfl ?_
        obtain ⟨ca, h_ca⟩ : ∃ z : Int32, (p0 &&& (4095 : Int32)) = z := ⟨_, rfl⟩
        refine o_istore X at_51 h_ca (L' := #[.val (.int p0), .val (.int p1), .val (.int p2), .val (.int (1 : Int32)), .val (.int (1 : Int32)), .val (.int kd), .val (.int (0 : Int32)), .val (.int ca), .unset, .unset, .unset, .unset, .unset]) rfl (q := 53) rfl ?_
        refine o_iload X at_53 rfl (q := 55) rfl ?_
        refine o_ifY X at_55 (by decide) (by decide) (q := 63) (by decide) ?_
        refine o_iloadN X at_63 rfl (q := 64) rfl ?_
        refine o_sipush X at_64 (w := 4095) rfl (q := 67) rfl ?_
        refine o_iand X at_67 (w := (p1 &&& (4095 : Int32))) rfl (q := 68) rfl ?_
        refine o_istore X at_68 rfl (L' := #[.val (.int p0), .val (.int p1), .val (.int p2), .val (.int (1 : Int32)), .val (.int (1 : Int32)), .val (.int kd), .val (.int (0 : Int32)), .val (.int ca), .val (.int (p1 &&& (4095 : Int32))), .unset, .unset, .unset, .unset]) rfl (q := 70) rfl ?_
        refine o_iloadN X at_70 rfl (q := 71) rfl ?_
        refine o_ifN X at_71 (by decide) (q := 74) rfl ?_
        refine o_getS X SST (host := "") (Or.inl (w12 hw)) Via.refl at_74 (q := 77) rfl ?_
        intro T111 X111
        refine o_goto X111 at_77 (by decide) (q := 96) (by decide) ?_
        refine o_astore X111 at_96 rfl (L' := #[.val (.int p0), .val (.int p1), .val (.int p2), .val (.int (1 : Int32)), .val (.int (1 : Int32)), .val (.int kd), .val (.int (0 : Int32)), .val (.int ca), .val (.int (p1 &&& (4095 : Int32))), .val (.ref st), .unset, .unset, .unset]) rfl (q := 98) rfl ?_
        refine o_iload X111 at_98 rfl (q := 100) rfl ?_
        refine o_ifN X111 at_100 (by decide) (q := 103) rfl ?_
        refine o_getS X111 SST (host := "") (Or.inl (w12 hw)) Via.refl at_103 (q := 106) rfl ?_
        intro T112 X112
        refine o_goto X112 at_106 (by decide) (q := 125) (by decide) ?_
        refine o_astore X112 at_125 rfl (L' := #[.val (.int p0), .val (.int p1), .val (.int p2), .val (.int (1 : Int32)), .val (.int (1 : Int32)), .val (.int kd), .val (.int (0 : Int32)), .val (.int ca), .val (.int (p1 &&& (4095 : Int32))), .val (.ref st), .val (.ref st), .unset, .unset]) rfl (q := 127) rfl ?_
        refine o_iload X112 at_127 rfl (q := 129) rfl ?_
        by_cases hc129 : kd = (0 : Int32)
        · refine o_ifN X112 at_129 (teq hc129).2 (q := 132) rfl ?_
          refine o_aload X112 at_132 rfl rfl (q := 134) rfl ?_
          refine o_astore X112 at_134 rfl (L' := #[.val (.int p0), .val (.int p1), .val (.int p2), .val (.int (1 : Int32)), .val (.int (1 : Int32)), .val (.int kd), .val (.int (0 : Int32)), .val (.int ca), .val (.int (p1 &&& (4095 : Int32))), .val (.ref st), .val (.ref st), .val (.ref st), .unset]) rfl (q := 136) rfl ?_
          refine o_iloadN X112 at_136 rfl (q := 137) rfl ?_
          refine o_iload X112 at_137 rfl (q := 139) rfl ?_
          refine o_icmpN X112 at_139 (by decide) (q := 142) rfl ?_
          refine o_iloadN X112 at_142 rfl (q := 143) rfl ?_
          refine o_ifY X112 at_143 (by decide) (by decide) (q := 153) (by decide) ?_
          refine o_iconst X112 at_153 (w := 1) rfl (q := 154) rfl ?_
          refine o_goto X112 at_154 (by decide) (q := 158) (by decide) ?_
          refine o_istore X112 at_158 rfl (L' := #[.val (.int p0), .val (.int p1), .val (.int p2), .val (.int (1 : Int32)), .val (.int (1 : Int32)), .val (.int kd), .val (.int (0 : Int32)), .val (.int ca), .val (.int (p1 &&& (4095 : Int32))), .val (.ref st), .val (.ref st), .val (.ref st), .val (.int (1 : Int32))]) rfl (q := 160) rfl ?_
          refine o_goto X112 at_160 (by decide) (q := 203) (by decide) ?_
          refine o_aload X112 at_203 rfl rfl (q := 205) rfl ?_
          refine o_aload X112 at_205 rfl rfl (q := 207) rfl ?_
          refine o_virt X112 [(.ref st)] (y' := (⟨"com/example/parkville/parkville/PNorm", "equals", "(Ljava/lang/Object;)Z"⟩ : MethodName)) (EST.ext X112.ext) (c_eqE hw st st (9218868437227405312 : UInt64) _ (EST.ext X112.ext) (FST.ext X112.ext) (FST.ext X112.ext) own_infnn) (w14 hw) (w15 hw) (w17 hw) (w16 hw) (w18 hw) (w2 hw) (by decide) at_207 (rest := []) rfl rfl (lenOf pd6 rfl) rfl (by decide) (Nat.le_of_ble_eq_true rfl) (by decide) (by decide) (q := 210) rfl ?_
          intro v113 T113 h113 l113 X113 q113
          obtain ⟨rfl, e113⟩ := q113
          have e113 := e113.symm
          subst e113
          show Goes p e below _ T113 (mkF m 210 #[.val (.int p0), .val (.int p1), .val (.int p2), .val (.int (1 : Int32)), .val (.int (1 : Int32)), .val (.int kd), .val (.int (0 : Int32)), .val (.int ca), .val (.int (p1 &&& (4095 : Int32))), .val (.ref st), .val (.ref st), .val (.ref st), .val (.int (1 : Int32))] [(.int (1 : Int32))])
          refine o_iload X113 at_210 rfl (q := 212) rfl ?_
          refine o_icmpN X113 at_212 (by decide) (q := 215) rfl ?_
          refine o_iconst X113 at_215 (w := 1) rfl (q := 216) rfl ?_
          refine o_goto X113 at_216 (by decide) (q := 220) (by decide) ?_
          exact o_retN X113 at_220 (by simp) rfl (by decide) (by decide)
        · refine o_ifY X112 at_129 (feq hc129).2 (by decide) (q := 163) (by decide) ?_
          refine o_iload X112 at_163 rfl (q := 165) rfl ?_
          refine o_iconst X112 at_165 (w := 1) rfl (q := 166) rfl ?_
          by_cases hc166 : kd = (1 : Int32)
          · refine o_icmpN X112 at_166 (teq hc166).2 (q := 169) rfl ?_
            refine o_null X112 at_169 (q := 170) rfl ?_
            refine o_astore X112 at_170 rfl (L' := #[.val (.int p0), .val (.int p1), .val (.int p2), .val (.int (1 : Int32)), .val (.int (1 : Int32)), .val (.int kd), .val (.int (0 : Int32)), .val (.int ca), .val (.int (p1 &&& (4095 : Int32))), .val (.ref st), .val (.ref st), .val .null, .unset]) rfl (q := 172) rfl ?_
            refine o_iconst X112 at_172 (w := 0) rfl (q := 173) rfl ?_
            refine o_istore X112 at_173 rfl (L' := #[.val (.int p0), .val (.int p1), .val (.int p2), .val (.int (1 : Int32)), .val (.int (1 : Int32)), .val (.int kd), .val (.int (0 : Int32)), .val (.int ca), .val (.int (p1 &&& (4095 : Int32))), .val (.ref st), .val (.ref st), .val .null, .val (.int (0 : Int32))]) rfl (q := 175) rfl ?_
            refine o_goto X112 at_175 (by decide) (q := 203) (by decide) ?_
            refine o_aload X112 at_203 rfl rfl (q := 205) rfl ?_
            refine o_aload X112 at_205 rfl rfl (q := 207) rfl ?_
            refine o_virt X112 [.null] (y' := (⟨"com/example/parkville/parkville/PNorm", "equals", "(Ljava/lang/Object;)Z"⟩ : MethodName)) (EST.ext X112.ext) (c_eqN hw st _) (w14 hw) (w15 hw) (w17 hw) (w16 hw) (w18 hw) (w2 hw) (by decide) at_207 (rest := []) rfl rfl (lenOf pd6 rfl) rfl (by decide) (Nat.le_of_ble_eq_true rfl) (by decide) (by decide) (q := 210) rfl ?_
            intro v114 T114 h114 l114 X114 q114
            obtain ⟨rfl, e114⟩ := q114
            have e114 := e114.symm
            subst e114
            show Goes p e below _ T114 (mkF m 210 #[.val (.int p0), .val (.int p1), .val (.int p2), .val (.int (1 : Int32)), .val (.int (1 : Int32)), .val (.int kd), .val (.int (0 : Int32)), .val (.int ca), .val (.int (p1 &&& (4095 : Int32))), .val (.ref st), .val (.ref st), .val .null, .val (.int (0 : Int32))] [(.int (0 : Int32))])
            refine o_iload X114 at_210 rfl (q := 212) rfl ?_
            refine o_icmpN X114 at_212 (by decide) (q := 215) rfl ?_
            refine o_iconst X114 at_215 (w := 1) rfl (q := 216) rfl ?_
            refine o_goto X114 at_216 (by decide) (q := 220) (by decide) ?_
            exact o_retN X114 at_220 (by simp) rfl (by decide) (by decide)
          · refine o_icmpY X112 at_166 (feq hc166).2 (by decide) (q := 178) (by decide) ?_
            refine o_iload X112 at_178 rfl (q := 180) rfl ?_
            refine o_iconst X112 at_180 (w := 2) rfl (q := 181) rfl ?_
            by_cases hc181 : kd = (2 : Int32)
            · refine o_icmpN X112 at_181 (teq hc181).2 (q := 184) rfl ?_
              refine o_iloadN X112 at_184 rfl (q := 185) rfl ?_
              refine o_stat X112 [(.int p0)] (y' := (⟨"java/lang/Integer", "valueOf", "(I)Ljava/lang/Integer;"⟩ : MethodName)) (c_vof hw p0 _ SHI SCA VCA HCA) (w34 hw) (w35 hw) (w36 hw) (w37 hw) (by decide) at_185 (rest := []) rfl rfl (lenOf pd7 rfl) rfl (by decide) (Nat.le_of_ble_eq_true rfl) (by decide) (by decide) (q := 188) rfl ?_
              intro v115 T115 h115 l115 X115 q115
              obtain ⟨r115, rfl, K115, E115⟩ := q115
              show Goes p e below _ T115 (mkF m 188 #[.val (.int p0), .val (.int p1), .val (.int p2), .val (.int (1 : Int32)), .val (.int (1 : Int32)), .val (.int kd), .val (.int (0 : Int32)), .val (.int ca), .val (.int (p1 &&& (4095 : Int32))), .val (.ref st), .val (.ref st), .unset, .unset] [(.ref r115)])
              refine o_astore X115 at_188 rfl (L' := #[.val (.int p0), .val (.int p1), .val (.int p2), .val (.int (1 : Int32)), .val (.int (1 : Int32)), .val (.int kd), .val (.int (0 : Int32)), .val (.int ca), .val (.int (p1 &&& (4095 : Int32))), .val (.ref st), .val (.ref st), .val (.ref r115), .unset]) rfl (q := 190) rfl ?_
              refine o_iconst X115 at_190 (w := 0) rfl (q := 191) rfl ?_
              refine o_istore X115 at_191 rfl (L' := #[.val (.int p0), .val (.int p1), .val (.int p2), .val (.int (1 : Int32)), .val (.int (1 : Int32)), .val (.int kd), .val (.int (0 : Int32)), .val (.int ca), .val (.int (p1 &&& (4095 : Int32))), .val (.ref st), .val (.ref st), .val (.ref r115), .val (.int (0 : Int32))]) rfl (q := 193) rfl ?_
              refine o_goto X115 at_193 (by decide) (q := 203) (by decide) ?_
              refine o_aload X115 at_203 rfl rfl (q := 205) rfl ?_
              refine o_aload X115 at_205 rfl rfl (q := 207) rfl ?_
              refine o_virt X115 [(.ref r115)] (y' := (⟨"com/example/parkville/parkville/PNorm", "equals", "(Ljava/lang/Object;)Z"⟩ : MethodName)) (EST.ext X115.ext) (c_eqI hw st r115 _ E115) (w14 hw) (w15 hw) (w17 hw) (w16 hw) (w18 hw) (w2 hw) (by decide) at_207 (rest := []) rfl rfl (lenOf pd6 rfl) rfl (by decide) (Nat.le_of_ble_eq_true rfl) (by decide) (by decide) (q := 210) rfl ?_
              intro v116 T116 h116 l116 X116 q116
              obtain ⟨rfl, e116⟩ := q116
              have e116 := e116.symm
              subst e116
              show Goes p e below _ T116 (mkF m 210 #[.val (.int p0), .val (.int p1), .val (.int p2), .val (.int (1 : Int32)), .val (.int (1 : Int32)), .val (.int kd), .val (.int (0 : Int32)), .val (.int ca), .val (.int (p1 &&& (4095 : Int32))), .val (.ref st), .val (.ref st), .val (.ref r115), .val (.int (0 : Int32))] [(.int (0 : Int32))])
              refine o_iload X116 at_210 rfl (q := 212) rfl ?_
              refine o_icmpN X116 at_212 (by decide) (q := 215) rfl ?_
              refine o_iconst X116 at_215 (w := 1) rfl (q := 216) rfl ?_
              refine o_goto X116 at_216 (by decide) (q := 220) (by decide) ?_
              exact o_retN X116 at_220 (by simp) rfl (by decide) (by decide)
            · refine o_icmpY X112 at_181 (feq hc181).2 (by decide) (q := 196) (by decide) ?_
              refine o_aload X112 at_196 rfl rfl (q := 198) rfl ?_
              refine o_astore X112 at_198 rfl (L' := #[.val (.int p0), .val (.int p1), .val (.int p2), .val (.int (1 : Int32)), .val (.int (1 : Int32)), .val (.int kd), .val (.int (0 : Int32)), .val (.int ca), .val (.int (p1 &&& (4095 : Int32))), .val (.ref st), .val (.ref st), .val (.ref st), .unset]) rfl (q := 200) rfl ?_
              refine o_iconst X112 at_200 (w := 1) rfl (q := 201) rfl ?_
              refine o_istore X112 at_201 rfl (L' := #[.val (.int p0), .val (.int p1), .val (.int p2), .val (.int (1 : Int32)), .val (.int (1 : Int32)), .val (.int kd), .val (.int (0 : Int32)), .val (.int ca), .val (.int (p1 &&& (4095 : Int32))), .val (.ref st), .val (.ref st), .val (.ref st), .val (.int (1 : Int32))]) rfl (q := 203) rfl ?_
              refine o_aload X112 at_203 rfl rfl (q := 205) rfl ?_
              refine o_aload X112 at_205 rfl rfl (q := 207) rfl ?_
              refine o_virt X112 [(.ref st)] (y' := (⟨"com/example/parkville/parkville/PNorm", "equals", "(Ljava/lang/Object;)Z"⟩ : MethodName)) (EST.ext X112.ext) (c_eqE hw st st (9218868437227405312 : UInt64) _ (EST.ext X112.ext) (FST.ext X112.ext) (FST.ext X112.ext) own_infnn) (w14 hw) (w15 hw) (w17 hw) (w16 hw) (w18 hw) (w2 hw) (by decide) at_207 (rest := []) rfl rfl (lenOf pd6 rfl) rfl (by decide) (Nat.le_of_ble_eq_true rfl) (by decide) (by decide) (q := 210) rfl ?_
              intro v117 T117 h117 l117 X117 q117
              obtain ⟨rfl, e117⟩ := q117
              have e117 := e117.symm
              subst e117
              show Goes p e below _ T117 (mkF m 210 #[.val (.int p0), .val (.int p1), .val (.int p2), .val (.int (1 : Int32)), .val (.int (1 : Int32)), .val (.int kd), .val (.int (0 : Int32)), .val (.int ca), .val (.int (p1 &&& (4095 : Int32))), .val (.ref st), .val (.ref st), .val (.ref st), .val (.int (1 : Int32))] [(.int (1 : Int32))])
              refine o_iload X117 at_210 rfl (q := 212) rfl ?_
              refine o_icmpN X117 at_212 (by decide) (q := 215) rfl ?_
              refine o_iconst X117 at_215 (w := 1) rfl (q := 216) rfl ?_
              refine o_goto X117 at_216 (by decide) (q := 220) (by decide) ?_
              exact o_retN X117 at_220 (by simp) rfl (by decide) (by decide)
      · refine o_ifN X at_36 (feq hc36).1 (q := 39) rfl ?_
        refine o_iconst X at_39 (w := 1) rfl (q := 40) rfl ?_
        refine o_goto X at_40 (by decide) (q := 44) (by decide) ?_
        refine o_istore X at_44 rfl (L' := #[.val (.int p0), .val (.int p1), .val (.int p2), .val (.int (1 : Int32)), .val (.int (1 : Int32)), .val (.int kd), .val (.int (1 : Int32)), .unset, .unset, .unset, .unset, .unset, .unset]) rfl (q := 46) rfl ?_
        refine o_iloadN X at_46 rfl (q := 47) rfl ?_
        refine o_sipush X at_47 (w := 4095) rfl (q := 50) rfl ?_
        refine o_iand X at_50 (w := (p0 &&& (4095 : Int32))) rfl (q := 51) rfl ?_
        obtain ⟨ca, h_ca⟩ : ∃ z : Int32, (p0 &&& (4095 : Int32)) = z := ⟨_, rfl⟩
        refine o_istore X at_51 h_ca (L' := #[.val (.int p0), .val (.int p1), .val (.int p2), .val (.int (1 : Int32)), .val (.int (1 : Int32)), .val (.int kd), .val (.int (1 : Int32)), .val (.int ca), .unset, .unset, .unset, .unset, .unset]) rfl (q := 53) rfl ?_
        refine o_iload X at_53 rfl (q := 55) rfl ?_
        refine o_ifN X at_55 (by decide) (q := 58) rfl ?_
        refine o_iload X at_58 rfl (q := 60) rfl ?_
        refine o_goto X at_60 (by decide) (q := 68) (by decide) ?_
        refine o_istore X at_68 rfl (L' := #[.val (.int p0), .val (.int p1), .val (.int p2), .val (.int (1 : Int32)), .val (.int (1 : Int32)), .val (.int kd), .val (.int (1 : Int32)), .val (.int ca), .val (.int ca), .unset, .unset, .unset, .unset]) rfl (q := 70) rfl ?_
        refine o_iloadN X at_70 rfl (q := 71) rfl ?_
        refine o_ifN X at_71 (by decide) (q := 74) rfl ?_
        refine o_getS X SST (host := "") (Or.inl (w12 hw)) Via.refl at_74 (q := 77) rfl ?_
        intro T118 X118
        refine o_goto X118 at_77 (by decide) (q := 96) (by decide) ?_
        refine o_astore X118 at_96 rfl (L' := #[.val (.int p0), .val (.int p1), .val (.int p2), .val (.int (1 : Int32)), .val (.int (1 : Int32)), .val (.int kd), .val (.int (1 : Int32)), .val (.int ca), .val (.int ca), .val (.ref st), .unset, .unset, .unset]) rfl (q := 98) rfl ?_
        refine o_iload X118 at_98 rfl (q := 100) rfl ?_
        refine o_ifN X118 at_100 (by decide) (q := 103) rfl ?_
        refine o_getS X118 SST (host := "") (Or.inl (w12 hw)) Via.refl at_103 (q := 106) rfl ?_
        intro T119 X119
        refine o_goto X119 at_106 (by decide) (q := 125) (by decide) ?_
        refine o_astore X119 at_125 rfl (L' := #[.val (.int p0), .val (.int p1), .val (.int p2), .val (.int (1 : Int32)), .val (.int (1 : Int32)), .val (.int kd), .val (.int (1 : Int32)), .val (.int ca), .val (.int ca), .val (.ref st), .val (.ref st), .unset, .unset]) rfl (q := 127) rfl ?_
        refine o_iload X119 at_127 rfl (q := 129) rfl ?_
        by_cases hc129 : kd = (0 : Int32)
        · refine o_ifN X119 at_129 (teq hc129).2 (q := 132) rfl ?_
          refine o_aload X119 at_132 rfl rfl (q := 134) rfl ?_
          refine o_astore X119 at_134 rfl (L' := #[.val (.int p0), .val (.int p1), .val (.int p2), .val (.int (1 : Int32)), .val (.int (1 : Int32)), .val (.int kd), .val (.int (1 : Int32)), .val (.int ca), .val (.int ca), .val (.ref st), .val (.ref st), .val (.ref st), .unset]) rfl (q := 136) rfl ?_
          refine o_iloadN X119 at_136 rfl (q := 137) rfl ?_
          refine o_iload X119 at_137 rfl (q := 139) rfl ?_
          refine o_icmpN X119 at_139 (by decide) (q := 142) rfl ?_
          refine o_iloadN X119 at_142 rfl (q := 143) rfl ?_
          refine o_ifY X119 at_143 (by decide) (by decide) (q := 153) (by decide) ?_
          refine o_iconst X119 at_153 (w := 1) rfl (q := 154) rfl ?_
          refine o_goto X119 at_154 (by decide) (q := 158) (by decide) ?_
          refine o_istore X119 at_158 rfl (L' := #[.val (.int p0), .val (.int p1), .val (.int p2), .val (.int (1 : Int32)), .val (.int (1 : Int32)), .val (.int kd), .val (.int (1 : Int32)), .val (.int ca), .val (.int ca), .val (.ref st), .val (.ref st), .val (.ref st), .val (.int (1 : Int32))]) rfl (q := 160) rfl ?_
          refine o_goto X119 at_160 (by decide) (q := 203) (by decide) ?_
          refine o_aload X119 at_203 rfl rfl (q := 205) rfl ?_
          refine o_aload X119 at_205 rfl rfl (q := 207) rfl ?_
          refine o_virt X119 [(.ref st)] (y' := (⟨"com/example/parkville/parkville/PNorm", "equals", "(Ljava/lang/Object;)Z"⟩ : MethodName)) (EST.ext X119.ext) (c_eqE hw st st (9218868437227405312 : UInt64) _ (EST.ext X119.ext) (FST.ext X119.ext) (FST.ext X119.ext) own_infnn) (w14 hw) (w15 hw) (w17 hw) (w16 hw) (w18 hw) (w2 hw) (by decide) at_207 (rest := []) rfl rfl (lenOf pd6 rfl) rfl (by decide) (Nat.le_of_ble_eq_true rfl) (by decide) (by decide) (q := 210) rfl ?_
          intro v120 T120 h120 l120 X120 q120
          obtain ⟨rfl, e120⟩ := q120
          have e120 := e120.symm
          subst e120
          show Goes p e below _ T120 (mkF m 210 #[.val (.int p0), .val (.int p1), .val (.int p2), .val (.int (1 : Int32)), .val (.int (1 : Int32)), .val (.int kd), .val (.int (1 : Int32)), .val (.int ca), .val (.int ca), .val (.ref st), .val (.ref st), .val (.ref st), .val (.int (1 : Int32))] [(.int (1 : Int32))])
          refine o_iload X120 at_210 rfl (q := 212) rfl ?_
          refine o_icmpN X120 at_212 (by decide) (q := 215) rfl ?_
          refine o_iconst X120 at_215 (w := 1) rfl (q := 216) rfl ?_
          refine o_goto X120 at_216 (by decide) (q := 220) (by decide) ?_
          exact o_retN X120 at_220 (by simp) rfl (by decide) (by decide)
        · refine o_ifY X119 at_129 (feq hc129).2 (by decide) (q := 163) (by decide) ?_
          refine o_iload X119 at_163 rfl (q := 165) rfl ?_
          refine o_iconst X119 at_165 (w := 1) rfl (q := 166) rfl ?_
          by_cases hc166 : kd = (1 : Int32)
          · refine o_icmpN X119 at_166 (teq hc166).2 (q := 169) rfl ?_
            refine o_null X119 at_169 (q := 170) rfl ?_
            refine o_astore X119 at_170 rfl (L' := #[.val (.int p0), .val (.int p1), .val (.int p2), .val (.int (1 : Int32)), .val (.int (1 : Int32)), .val (.int kd), .val (.int (1 : Int32)), .val (.int ca), .val (.int ca), .val (.ref st), .val (.ref st), .val .null, .unset]) rfl (q := 172) rfl ?_
            refine o_iconst X119 at_172 (w := 0) rfl (q := 173) rfl ?_
            refine o_istore X119 at_173 rfl (L' := #[.val (.int p0), .val (.int p1), .val (.int p2), .val (.int (1 : Int32)), .val (.int (1 : Int32)), .val (.int kd), .val (.int (1 : Int32)), .val (.int ca), .val (.int ca), .val (.ref st), .val (.ref st), .val .null, .val (.int (0 : Int32))]) rfl (q := 175) rfl ?_
            refine o_goto X119 at_175 (by decide) (q := 203) (by decide) ?_
            refine o_aload X119 at_203 rfl rfl (q := 205) rfl ?_
            refine o_aload X119 at_205 rfl rfl (q := 207) rfl ?_
            refine o_virt X119 [.null] (y' := (⟨"com/example/parkville/parkville/PNorm", "equals", "(Ljava/lang/Object;)Z"⟩ : MethodName)) (EST.ext X119.ext) (c_eqN hw st _) (w14 hw) (w15 hw) (w17 hw) (w16 hw) (w18 hw) (w2 hw) (by decide) at_207 (rest := []) rfl rfl (lenOf pd6 rfl) rfl (by decide) (Nat.le_of_ble_eq_true rfl) (by decide) (by decide) (q := 210) rfl ?_
            intro v121 T121 h121 l121 X121 q121
            obtain ⟨rfl, e121⟩ := q121
            have e121 := e121.symm
            subst e121
            show Goes p e below _ T121 (mkF m 210 #[.val (.int p0), .val (.int p1), .val (.int p2), .val (.int (1 : Int32)), .val (.int (1 : Int32)), .val (.int kd), .val (.int (1 : Int32)), .val (.int ca), .val (.int ca), .val (.ref st), .val (.ref st), .val .null, .val (.int (0 : Int32))] [(.int (0 : Int32))])
            refine o_iload X121 at_210 rfl (q := 212) rfl ?_
            refine o_icmpN X121 at_212 (by decide) (q := 215) rfl ?_
            refine o_iconst X121 at_215 (w := 1) rfl (q := 216) rfl ?_
            refine o_goto X121 at_216 (by decide) (q := 220) (by decide) ?_
            exact o_retN X121 at_220 (by simp) rfl (by decide) (by decide)
          · refine o_icmpY X119 at_166 (feq hc166).2 (by decide) (q := 178) (by decide) ?_
            refine o_iload X119 at_178 rfl (q := 180) rfl ?_
            refine o_iconst X119 at_180 (w := 2) rfl (q := 181) rfl ?_
            by_cases hc181 : kd = (2 : Int32)
            · refine o_icmpN X119 at_181 (teq hc181).2 (q := 184) rfl ?_
              refine o_iloadN X119 at_184 rfl (q := 185) rfl ?_
              refine o_stat X119 [(.int p0)] (y' := (⟨"java/lang/Integer", "valueOf", "(I)Ljava/lang/Integer;"⟩ : MethodName)) (c_vof hw p0 _ SHI SCA VCA HCA) (w34 hw) (w35 hw) (w36 hw) (w37 hw) (by decide) at_185 (rest := []) rfl rfl (lenOf pd7 rfl) rfl (by decide) (Nat.le_of_ble_eq_true rfl) (by decide) (by decide) (q := 188) rfl ?_
              intro v122 T122 h122 l122 X122 q122
              obtain ⟨r122, rfl, K122, E122⟩ := q122
              show Goes p e below _ T122 (mkF m 188 #[.val (.int p0), .val (.int p1), .val (.int p2), .val (.int (1 : Int32)), .val (.int (1 : Int32)), .val (.int kd), .val (.int (1 : Int32)), .val (.int ca), .val (.int ca), .val (.ref st), .val (.ref st), .unset, .unset] [(.ref r122)])
              refine o_astore X122 at_188 rfl (L' := #[.val (.int p0), .val (.int p1), .val (.int p2), .val (.int (1 : Int32)), .val (.int (1 : Int32)), .val (.int kd), .val (.int (1 : Int32)), .val (.int ca), .val (.int ca), .val (.ref st), .val (.ref st), .val (.ref r122), .unset]) rfl (q := 190) rfl ?_
              refine o_iconst X122 at_190 (w := 0) rfl (q := 191) rfl ?_
              refine o_istore X122 at_191 rfl (L' := #[.val (.int p0), .val (.int p1), .val (.int p2), .val (.int (1 : Int32)), .val (.int (1 : Int32)), .val (.int kd), .val (.int (1 : Int32)), .val (.int ca), .val (.int ca), .val (.ref st), .val (.ref st), .val (.ref r122), .val (.int (0 : Int32))]) rfl (q := 193) rfl ?_
              refine o_goto X122 at_193 (by decide) (q := 203) (by decide) ?_
              refine o_aload X122 at_203 rfl rfl (q := 205) rfl ?_
              refine o_aload X122 at_205 rfl rfl (q := 207) rfl ?_
              refine o_virt X122 [(.ref r122)] (y' := (⟨"com/example/parkville/parkville/PNorm", "equals", "(Ljava/lang/Object;)Z"⟩ : MethodName)) (EST.ext X122.ext) (c_eqI hw st r122 _ E122) (w14 hw) (w15 hw) (w17 hw) (w16 hw) (w18 hw) (w2 hw) (by decide) at_207 (rest := []) rfl rfl (lenOf pd6 rfl) rfl (by decide) (Nat.le_of_ble_eq_true rfl) (by decide) (by decide) (q := 210) rfl ?_
              intro v123 T123 h123 l123 X123 q123
              obtain ⟨rfl, e123⟩ := q123
              have e123 := e123.symm
              subst e123
              show Goes p e below _ T123 (mkF m 210 #[.val (.int p0), .val (.int p1), .val (.int p2), .val (.int (1 : Int32)), .val (.int (1 : Int32)), .val (.int kd), .val (.int (1 : Int32)), .val (.int ca), .val (.int ca), .val (.ref st), .val (.ref st), .val (.ref r122), .val (.int (0 : Int32))] [(.int (0 : Int32))])
              refine o_iload X123 at_210 rfl (q := 212) rfl ?_
              refine o_icmpN X123 at_212 (by decide) (q := 215) rfl ?_
              refine o_iconst X123 at_215 (w := 1) rfl (q := 216) rfl ?_
              refine o_goto X123 at_216 (by decide) (q := 220) (by decide) ?_
              exact o_retN X123 at_220 (by simp) rfl (by decide) (by decide)
            · refine o_icmpY X119 at_181 (feq hc181).2 (by decide) (q := 196) (by decide) ?_
              refine o_aload X119 at_196 rfl rfl (q := 198) rfl ?_
              refine o_astore X119 at_198 rfl (L' := #[.val (.int p0), .val (.int p1), .val (.int p2), .val (.int (1 : Int32)), .val (.int (1 : Int32)), .val (.int kd), .val (.int (1 : Int32)), .val (.int ca), .val (.int ca), .val (.ref st), .val (.ref st), .val (.ref st), .unset]) rfl (q := 200) rfl ?_
              refine o_iconst X119 at_200 (w := 1) rfl (q := 201) rfl ?_
              refine o_istore X119 at_201 rfl (L' := #[.val (.int p0), .val (.int p1), .val (.int p2), .val (.int (1 : Int32)), .val (.int (1 : Int32)), .val (.int kd), .val (.int (1 : Int32)), .val (.int ca), .val (.int ca), .val (.ref st), .val (.ref st), .val (.ref st), .val (.int (1 : Int32))]) rfl (q := 203) rfl ?_
              refine o_aload X119 at_203 rfl rfl (q := 205) rfl ?_
              refine o_aload X119 at_205 rfl rfl (q := 207) rfl ?_
              refine o_virt X119 [(.ref st)] (y' := (⟨"com/example/parkville/parkville/PNorm", "equals", "(Ljava/lang/Object;)Z"⟩ : MethodName)) (EST.ext X119.ext) (c_eqE hw st st (9218868437227405312 : UInt64) _ (EST.ext X119.ext) (FST.ext X119.ext) (FST.ext X119.ext) own_infnn) (w14 hw) (w15 hw) (w17 hw) (w16 hw) (w18 hw) (w2 hw) (by decide) at_207 (rest := []) rfl rfl (lenOf pd6 rfl) rfl (by decide) (Nat.le_of_ble_eq_true rfl) (by decide) (by decide) (q := 210) rfl ?_
              intro v124 T124 h124 l124 X124 q124
              obtain ⟨rfl, e124⟩ := q124
              have e124 := e124.symm
              subst e124
              show Goes p e below _ T124 (mkF m 210 #[.val (.int p0), .val (.int p1), .val (.int p2), .val (.int (1 : Int32)), .val (.int (1 : Int32)), .val (.int kd), .val (.int (1 : Int32)), .val (.int ca), .val (.int ca), .val (.ref st), .val (.ref st), .val (.ref st), .val (.int (1 : Int32))] [(.int (1 : Int32))])
              refine o_iload X124 at_210 rfl (q := 212) rfl ?_
              refine o_icmpN X124 at_212 (by decide) (q := 215) rfl ?_
              refine o_iconst X124 at_215 (w := 1) rfl (q := 216) rfl ?_
              refine o_goto X124 at_216 (by decide) (q := 220) (by decide) ?_
              exact o_retN X124 at_220 (by simp) rfl (by decide) (by decide)
set_option maxRecDepth 65536 in
set_option maxHeartbeats 40000000 in
theorem comes_1 {Post : Tables → Env → Array Value → State → Outcome → State → Prop} (hpost : ∀ tb e args s v u, (limb_1_1.after args s (.returned v) u = true ∧ limb_1_2.after args s (.returned v) u = true ∧ True) → FrameEnd s (.returned v) u (Jvm.fieldLocs frame_1_writes args s ++ Jvm.arrayLocs frame_1_arrays args s ++ Jvm.staticLocs frame_1_statics s) 16 128 → Post tb e args s (.returned v) u) :
    ArmFor flags0 classFile x code maxLocals ret World_1 tables_1 room_1 Calls_1 rest_1 Pre_1 Post := by
  intro l hfl _ _ p e ha hc hk s m args below hf hA hF happ hP
  obtain ⟨hcalls, hrest, hpre⟩ := hP
  obtain ⟨-, -, -, hnamed, -, -, -, hat⟩ := (Spec.applies_iff hf).mp happ
  obtain ⟨hg, hn⟩ := and_e (Cond.before_iff.mp (show (Jvm.Cond.and given_1 narrow_1).before args s = true from hpre))
  obtain ⟨hcount, hg0⟩ := and_e hg
  obtain ⟨ga0, hg1⟩ := and_e hg0
  obtain ⟨ga1, hg2⟩ := and_e hg1
  obtain ⟨w0, w1, w2, rfl⟩ : ∃ w0 w1 w2 : Value, args = #[w0, w1, w2] := by
    have hs : args.size = 3 := by simpa [Cond.value, given_1] using hcount
    obtain ⟨L⟩ := args
    match L, hs with
    | [w0, w1, w2], _ => exact ⟨w0, w1, w2, rfl⟩
  have hw : W _ s := fun d (hd : d ∈ tables_1) => atoms_spec (ws := Jvm.Cond.code x code maxLocals ret :: tables_1) hat d (List.mem_cons_of_mem _ hd)
  obtain ⟨hsets, hown0⟩ := atoms_of _ (rest_1_c_eq ▸ (show rest_1_c.before _ s = true from hrest))
  obtain ⟨i0, ei0⟩ := is_v ga0
  obtain rfl : w0 = (.int i0) := Option.some.inj ei0
  obtain ⟨i1, ei1⟩ := is_v ga1
  obtain rfl : w1 = (.int i1) := Option.some.inj ei1
  obtain ⟨i2, ei2⟩ := is_v hg2
  obtain rfl : w2 = (.int i2) := Option.some.inj ei2
  obtain ⟨n1, n2⟩ := and_e hn
  obtain ⟨st, -, -, -, evS, -⟩ := Cond.exactly_spec (Cond.before_iff.mpr n1)
  have SST : Sta s s.heap "com/example/parkville/parkville/PNorm" "STRICT" "Lcom/example/parkville/parkville/PNorm;" (.ref st) := Sta.start evS (Or.inr ⟨(w2 hw), (w13 hw)⟩)
  have EST : Exa s s.heap st "com/example/parkville/parkville/PNorm" := Exa.start evS n1
  have FST : Fld s s.heap st "com/example/parkville/parkville/PNorm" "p" "D" (.double (9218868437227405312 : UInt64)) := own_fldD evS n2
  obtain ⟨ca_, kc, vsC, evC, VCA, HCA⟩ := own_cache (hsets _ (List.mem_of_getElem? (i := 4) rfl)) (hsets _ (List.mem_of_getElem? (i := 5) rfl)) (hsets _ (List.mem_of_getElem? (i := 6) rfl)) (hsets _ (List.mem_of_getElem? (i := 7) rfl)) (fun i => rfl)
  have SCA : Sta s s.heap "java/lang/Integer$IntegerCache" "cache" "[Ljava/lang/Integer;" (.ref ca_) := Sta.start evC (Or.inr ⟨(w39 hw), (hsets _ (List.mem_of_getElem? (i := 2) rfl))⟩)
  have SHI : Sta s s.heap "java/lang/Integer$IntegerCache" "high" "I" (.int 127) := Sta.start (own_evI (Cond.before_iff.mp (hsets _ (List.mem_of_getElem? (i := 3) rfl)))) (Or.inl (hsets _ (List.mem_of_getElem? (i := 1) rfl)))
  obtain ⟨n, o, h1, h2, h3, v, L, rfl, ⟨hQ, hN, -⟩, hq⟩ := c_law (l := l) hw i0 i1 i2 SST EST FST SHI SCA VCA HCA ⟨Nat.le_refl _, fun _ _ q => q⟩ tables_1 p e ha hc hk s m _ below hf ((Spec.applies_iff_loose hf).mp happ).1 ⟨rfl, State.Warmed39.refl s, rfl⟩ trivial
  subst hQ
  refine ⟨n, _, h1, h2, h3, hpost _ _ _ _ _ _ ⟨Cond.after_iff.mpr rfl, Cond.after_iff.mpr (eq_i res_at (Term.int_eval (1)) rfl), trivial⟩ ⟨hq.1, hq.2.1, (hq.2.2.sift fun y hy => Or.inr (hN y hy)).mono (by decide) (by decide)⟩⟩
theorem main_1_1 : Claimed_1_1 := comes_1 fun _ _ _ _ _ _ h hF => ⟨h.1, hF⟩
theorem main_1_2 : Claimed_1_2 := comes_1 fun _ _ _ _ _ _ h hF => ⟨h.2.1, hF⟩
end Jvm.Pilot.@@N@@
namespace Jvm.Pilot.@@N@@
open Jvm Jvm.ClassFile Sem Op Lib Jvm.Free Jvm.Stand Jvm.Pilot.@@N@@.Jvm.D
/-! MADE BY PROGRAM (witnessworld.py) out of the Statement's table words and the real class files: 17 classes; the members and pool entries that the words name. The judged class is class 1, her method 1. -/
namespace start1
open Jvm.ClassFile
def u (s : String) : CpInfo := .utf8 (stringToUtf16 s)
/-- a pool by its gaps: so many unusable entries, then the entry; so many at the end -/
def gap : Nat → List CpInfo → List CpInfo
  | 0, r => r
  | n + 1, r => .unusable :: gap n r
def poolList (es : List (Nat × CpInfo)) (last : Nat) : List CpInfo := es.foldr (fun e r => gap e.1 (e.2 :: r)) (gap last [])
def pool (es : List (Nat × CpInfo)) (last : Nat) : Array CpInfo := ⟨poolList es last⟩
def fileOf (pool : Array CpInfo) (this : Nat) (attrs : Array Attribute := #[]) (ms : Array MethodInfo := #[]) (fl : Nat := 33) (sup : Nat := 0) (ifs : Array Nat := #[]) (fds : Array FieldInfo := #[]) : ClassFile where
  minorVersion := 0
  majorVersion := 65
  constantPool := pool
  accessFlags := fl
  thisClass := this
  superClass := sup
  interfaces := ifs
  fields := fds
  methods := ms
  attributes := attrs
def plain (name : String) (sup : Option ClassId) : Class where
  name := name
  kind := .ordinary
  loader := none
  accessFlags := 33
  super := sup
  interfaces := #[]
  cf := none
  fields := #[]
  methods := #[]
  instanceTypes := #[]
  staticTypes := #[]
  resolved := #[]
  callSites := []
  init := .initialized
  statics := none
  mirror := none

def pool0 : Array CpInfo := pool [(5, u "<init>"), (0, u "()V"), (1, .class_ 10), (1, u "java/lang/Object")] 113

def k0c0 : Code := { maxStack := 0, maxLocals := 1, code := object_method_1_code, exceptionTable := #[], attributes := #[] }
def k0m0 : Method := { name := "<init>", desc := "()V", sig := { parameters := [], returnType := none }, accessFlags := 1, code := some k0c0 }
/-- java/lang/Object -/
def k0 : Class := { plain "java/lang/Object" none with
  accessFlags := 33
  interfaces := #[]
  cf := some (fileOf pool0 8 #[] #[{ accessFlags := 1, nameIndex := 5, descriptorIndex := 6, attributes := #[] }] 33 0 #[] #[])
  fields := #[]
  methods := #[k0m0]
  instanceTypes := #[]
  staticTypes := #[]
  resolved := Array.replicate 124 none
  statics := none }

def pool1 : Array CpInfo := pool [(2, .class_ 4), (1, u "java/lang/Object"), (0, u "<init>"), (0, u "()V"), (0, .fieldref 8 9), (0, .class_ 10), (0, .nameAndType 11 12), (0, u "com/example/parkville/parkville/PNorm"), (0, u "STRICT"), (0, u "Lcom/example/parkville/parkville/PNorm;"), (0, .double 4616189618054758400), (1, .methodref 8 16), (0, .nameAndType 5 17), (0, u "(D)V"), (0, .methodref 19 20), (0, .class_ 21), (0, .nameAndType 22 23), (0, u "java/lang/Integer"), (0, u "valueOf"), (0, u "(I)Ljava/lang/Integer;"), (0, .methodref 8 25), (0, .nameAndType 26 27), (0, u "equals"), (0, u "(Ljava/lang/Object;)Z"), (0, .class_ 29), (0, u "com/example/parkville/parkville/PNormEqualsPinLaw"), (2, u "law"), (0, u "(III)Z")] 3

def k1m0 : Method := { name := "<init>", desc := "()V", sig := { parameters := [], returnType := none }, accessFlags := 1, code := none }
def k1c1 : Code := { maxStack := 6, maxLocals := 13, code := code, exceptionTable := #[], attributes := #[] }
def k1m1 : Method := { name := "law", desc := "(III)Z", sig := { parameters := [.int, .int, .int], returnType := some .boolean }, accessFlags := 9, code := some k1c1 }
/-- com/example/parkville/parkville/PNormEqualsPinLaw -/
def k1 : Class := { plain "com/example/parkville/parkville/PNormEqualsPinLaw" (some 0) with
  accessFlags := 49
  interfaces := #[]
  cf := some (fileOf pool1 28 #[] #[{ accessFlags := 1, nameIndex := 5, descriptorIndex := 6, attributes := #[] }, { accessFlags := 9, nameIndex := 32, descriptorIndex := 33, attributes := #[] }] 49 2 #[] #[])
  fields := #[]
  methods := #[k1m0, k1m1]
  instanceTypes := #[]
  staticTypes := #[]
  resolved := Array.replicate 37 none
  statics := none }

def pool2 : Array CpInfo := pool [(1, .methodref 2 3), (0, .class_ 4), (0, .nameAndType 5 6), (0, u "java/lang/Object"), (0, u "<init>"), (0, u "()V"), (9, .fieldref 17 18), (0, .class_ 19), (0, .nameAndType 20 21), (0, u "com/example/parkville/parkville/PNorm"), (0, u "p"), (0, u "D"), (10, u "STRICT"), (0, u "Lcom/example/parkville/parkville/PNorm;"), (2, u "DECIMAL"), (0, u "Ljava/util/regex/Pattern;"), (13, .class_ 53), (1, u "java/lang/Double"), (7, u "(D)V"), (26, .methodref 51 89), (0, .nameAndType 90 91), (0, u "compare"), (0, u "(DD)I"), (36, u "equals"), (0, u "(Ljava/lang/Object;)Z")] 24

def k2c0 : Code := { maxStack := 4, maxLocals := 3, code := prog_11_method_1_code, exceptionTable := #[], attributes := #[] }
def k2m0 : Method := { name := "<init>", desc := "(D)V", sig := { parameters := [.double], returnType := none }, accessFlags := 1, code := some k2c0 }
def k2c1 : Code := { maxStack := 4, maxLocals := 3, code := prog_11_method_10_code, exceptionTable := #[], attributes := #[] }
def k2m1 : Method := { name := "equals", desc := "(Ljava/lang/Object;)Z", sig := { parameters := [(.object "java/lang/Object")], returnType := some .boolean }, accessFlags := 1, code := some k2c1 }
/-- com/example/parkville/parkville/PNorm -/
def k2 : Class := { plain "com/example/parkville/parkville/PNorm" (some 0) with
  accessFlags := 33
  interfaces := #[]
  cf := some (fileOf pool2 17 #[] #[{ accessFlags := 1, nameIndex := 5, descriptorIndex := 61, attributes := #[] }, { accessFlags := 1, nameIndex := 128, descriptorIndex := 129, attributes := #[] }] 33 2 #[] #[{ accessFlags := 25, nameIndex := 32, descriptorIndex := 33, attributes := #[] }, { accessFlags := 24, nameIndex := 36, descriptorIndex := 37, attributes := #[] }, { accessFlags := 18, nameIndex := 20, descriptorIndex := 21, attributes := #[] }])
  fields := #[{ name := "STRICT", type := (.object "com/example/parkville/parkville/PNorm"), accessFlags := 25, slot := 0, constantValue := 0 }, { name := "DECIMAL", type := (.object "java/util/regex/Pattern"), accessFlags := 24, slot := 1, constantValue := 0 }, { name := "p", type := .double, accessFlags := 18, slot := 0, constantValue := 0 }]
  methods := #[k2m0, k2m1]
  instanceTypes := #[.double]
  staticTypes := #[(.object "com/example/parkville/parkville/PNorm"), (.object "java/util/regex/Pattern")]
  resolved := Array.replicate 154 none
  statics := some 0 }

def pool3 : Array CpInfo := pool [(1, .class_ 2), (0, u "java/io/Serializable"), (0, .class_ 4), (0, u "java/lang/Object")] 2

/-- java/io/Serializable -/
def k3 : Class := { plain "java/io/Serializable" (some 0) with
  accessFlags := 1537
  interfaces := #[]
  cf := some (fileOf pool3 1 #[] #[] 1537 3 #[] #[])
  fields := #[]
  methods := #[]
  instanceTypes := #[]
  staticTypes := #[]
  resolved := Array.replicate 7 none
  statics := none }

def pool4 : Array CpInfo := pool [(1, .methodref 2 3), (0, .class_ 4), (0, .nameAndType 5 6), (0, u "java/lang/Object"), (0, u "<init>"), (0, u "()V"), (1, .class_ 10), (1, u "java/lang/Number"), (2, .class_ 14), (0, u "java/io/Serializable"), (0, u "serialVersionUID"), (0, u "J")] 20

def k4c0 : Code := { maxStack := 1, maxLocals := 1, code := jdk_18_method_1_code, exceptionTable := #[], attributes := #[] }
def k4m0 : Method := { name := "<init>", desc := "()V", sig := { parameters := [], returnType := none }, accessFlags := 1, code := some k4c0 }
/-- java/lang/Number -/
def k4 : Class := { plain "java/lang/Number" (some 0) with
  accessFlags := 1057
  interfaces := #[3]
  cf := some (fileOf pool4 8 #[] #[{ accessFlags := 1, nameIndex := 5, descriptorIndex := 6, attributes := #[] }] 1057 2 #[13] #[{ accessFlags := 26, nameIndex := 15, descriptorIndex := 16, attributes := #[] }])
  fields := #[{ name := "serialVersionUID", type := .long, accessFlags := 26, slot := 0, constantValue := 0 }]
  methods := #[k4m0]
  instanceTypes := #[]
  staticTypes := #[.long]
  resolved := Array.replicate 37 none
  statics := none }

def pool5 : Array CpInfo := pool [(1, .class_ 2), (0, u "java/lang/Comparable"), (0, .class_ 4), (0, u "java/lang/Object")] 7

/-- java/lang/Comparable -/
def k5 : Class := { plain "java/lang/Comparable" (some 0) with
  accessFlags := 1537
  interfaces := #[]
  cf := some (fileOf pool5 1 #[] #[] 1537 3 #[] #[])
  fields := #[]
  methods := #[]
  instanceTypes := #[]
  staticTypes := #[]
  resolved := Array.replicate 12 none
  statics := none }

def pool6 : Array CpInfo := pool [(1, .class_ 2), (0, u "java/lang/constant/Constable"), (0, .class_ 4), (0, u "java/lang/Object")] 6

/-- java/lang/constant/Constable -/
def k6 : Class := { plain "java/lang/constant/Constable" (some 0) with
  accessFlags := 1537
  interfaces := #[]
  cf := some (fileOf pool6 1 #[] #[] 1537 3 #[] #[])
  fields := #[]
  methods := #[]
  instanceTypes := #[]
  staticTypes := #[]
  resolved := Array.replicate 11 none
  statics := none }

def pool7 : Array CpInfo := pool [(1, .class_ 2), (0, u "java/lang/constant/ConstantDesc"), (0, .class_ 4), (0, u "java/lang/Object")] 32

/-- java/lang/constant/ConstantDesc -/
def k7 : Class := { plain "java/lang/constant/ConstantDesc" (some 0) with
  accessFlags := 1537
  interfaces := #[]
  cf := some (fileOf pool7 1 #[] #[] 1537 3 #[] #[])
  fields := #[]
  methods := #[]
  instanceTypes := #[]
  staticTypes := #[]
  resolved := Array.replicate 37 none
  statics := none }

def pool8 : Array CpInfo := pool [(1, .class_ 2), (0, u "java/lang/Double"), (11, u "(D)Z"), (31, .methodref 1 47), (0, .nameAndType 48 49), (0, u "doubleToLongBits"), (0, u "(D)J"), (64, .class_ 116), (1, u "java/lang/Number"), (3, u "value"), (0, u "D"), (0, .methodref 1 123), (0, .nameAndType 124 14), (0, u "isNaN"), (9, .methodref 1 135), (0, .nameAndType 136 49), (0, u "doubleToRawLongBits"), (4, u "compare"), (0, u "(DD)I"), (30, u "TYPE"), (0, u "Ljava/lang/Class;"), (0, .class_ 176), (0, u "java/lang/Comparable"), (0, .class_ 178), (0, u "java/lang/constant/Constable"), (0, .class_ 180), (0, u "java/lang/constant/ConstantDesc"), (0, u "POSITIVE_INFINITY"), (3, u "NEGATIVE_INFINITY"), (2, u "NaN"), (2, u "MAX_VALUE"), (0, u "MIN_NORMAL"), (0, u "MIN_VALUE"), (2, u "SIZE"), (0, u "I"), (1, u "PRECISION"), (1, u "MAX_EXPONENT"), (1, u "MIN_EXPONENT"), (1, u "BYTES"), (3, u "serialVersionUID"), (0, u "J")] 79

def k8c0 : Code := { maxStack := 4, maxLocals := 2, code := jdk_117_method_6_code, exceptionTable := #[], attributes := #[] }
def k8m0 : Method := { name := "isNaN", desc := "(D)Z", sig := { parameters := [.double], returnType := some .boolean }, accessFlags := 9, code := some k8c0 }
def k8c1 : Code := { maxStack := 2, maxLocals := 2, code := jdk_117_method_23_code, exceptionTable := #[], attributes := #[] }
def k8m1 : Method := { name := "doubleToLongBits", desc := "(D)J", sig := { parameters := [.double], returnType := some .long }, accessFlags := 9, code := some k8c1 }
def k8m2 : Method := { name := "doubleToRawLongBits", desc := "(D)J", sig := { parameters := [.double], returnType := some .long }, accessFlags := 265, code := none }
def k8c3 : Code := { maxStack := 4, maxLocals := 8, code := jdk_117_method_27_code, exceptionTable := #[], attributes := #[] }
def k8m3 : Method := { name := "compare", desc := "(DD)I", sig := { parameters := [.double, .double], returnType := some .int }, accessFlags := 9, code := some k8c3 }
/-- java/lang/Double -/
def k8 : Class := { plain "java/lang/Double" (some 4) with
  accessFlags := 49
  interfaces := #[5, 6, 7]
  cf := some (fileOf pool8 1 #[] #[{ accessFlags := 9, nameIndex := 124, descriptorIndex := 14, attributes := #[] }, { accessFlags := 9, nameIndex := 48, descriptorIndex := 49, attributes := #[] }, { accessFlags := 265, nameIndex := 136, descriptorIndex := 49, attributes := #[] }, { accessFlags := 9, nameIndex := 141, descriptorIndex := 142, attributes := #[] }] 49 114 #[175, 177, 179] #[{ accessFlags := 25, nameIndex := 181, descriptorIndex := 121, attributes := #[] }, { accessFlags := 25, nameIndex := 185, descriptorIndex := 121, attributes := #[] }, { accessFlags := 25, nameIndex := 188, descriptorIndex := 121, attributes := #[] }, { accessFlags := 25, nameIndex := 191, descriptorIndex := 121, attributes := #[] }, { accessFlags := 25, nameIndex := 192, descriptorIndex := 121, attributes := #[] }, { accessFlags := 25, nameIndex := 193, descriptorIndex := 121, attributes := #[] }, { accessFlags := 25, nameIndex := 196, descriptorIndex := 197, attributes := #[] }, { accessFlags := 25, nameIndex := 199, descriptorIndex := 197, attributes := #[] }, { accessFlags := 25, nameIndex := 201, descriptorIndex := 197, attributes := #[] }, { accessFlags := 25, nameIndex := 203, descriptorIndex := 197, attributes := #[] }, { accessFlags := 25, nameIndex := 205, descriptorIndex := 197, attributes := #[] }, { accessFlags := 25, nameIndex := 173, descriptorIndex := 174, attributes := #[] }, { accessFlags := 18, nameIndex := 120, descriptorIndex := 121, attributes := #[] }, { accessFlags := 26, nameIndex := 209, descriptorIndex := 210, attributes := #[] }])
  fields := #[{ name := "POSITIVE_INFINITY", type := .double, accessFlags := 25, slot := 0, constantValue := 0 }, { name := "NEGATIVE_INFINITY", type := .double, accessFlags := 25, slot := 1, constantValue := 0 }, { name := "NaN", type := .double, accessFlags := 25, slot := 2, constantValue := 0 }, { name := "MAX_VALUE", type := .double, accessFlags := 25, slot := 3, constantValue := 0 }, { name := "MIN_NORMAL", type := .double, accessFlags := 25, slot := 4, constantValue := 0 }, { name := "MIN_VALUE", type := .double, accessFlags := 25, slot := 5, constantValue := 0 }, { name := "SIZE", type := .int, accessFlags := 25, slot := 6, constantValue := 0 }, { name := "PRECISION", type := .int, accessFlags := 25, slot := 7, constantValue := 0 }, { name := "MAX_EXPONENT", type := .int, accessFlags := 25, slot := 8, constantValue := 0 }, { name := "MIN_EXPONENT", type := .int, accessFlags := 25, slot := 9, constantValue := 0 }, { name := "BYTES", type := .int, accessFlags := 25, slot := 10, constantValue := 0 }, { name := "TYPE", type := (.object "java/lang/Class"), accessFlags := 25, slot := 11, constantValue := 0 }, { name := "value", type := .double, accessFlags := 18, slot := 0, constantValue := 0 }, { name := "serialVersionUID", type := .long, accessFlags := 26, slot := 12, constantValue := 0 }]
  methods := #[k8m0, k8m1, k8m2, k8m3]
  instanceTypes := #[.double]
  staticTypes := #[.double, .double, .double, .double, .double, .double, .int, .int, .int, .int, .int, (.object "java/lang/Class"), .long]
  resolved := Array.replicate 290 none
  statics := none }

def pool9 : Array CpInfo := pool [(1, .class_ 2), (0, u "java/lang/Integer"), (16, u "digits"), (0, u "[C"), (46, u "<init>"), (17, u "DigitOnes"), (0, u "[B"), (2, u "DigitTens"), (10, .nameAndType 67 101), (0, u "()V"), (85, u "valueOf"), (0, u "(I)Ljava/lang/Integer;"), (0, .class_ 190), (0, u "java/lang/Integer$IntegerCache"), (0, .fieldref 189 192), (0, .nameAndType 193 194), (0, u "high"), (0, u "I"), (0, .fieldref 189 196), (0, .nameAndType 197 198), (0, u "cache"), (0, u "[Ljava/lang/Integer;"), (0, .methodref 1 200), (0, .nameAndType 67 201), (0, u "(I)V"), (0, .methodref 203 100), (0, .class_ 204), (0, u "java/lang/Number"), (0, .fieldref 1 206), (0, .nameAndType 207 194), (0, u "value"), (94, u "TYPE"), (0, u "Ljava/lang/Class;"), (0, .class_ 305), (0, u "java/lang/Comparable"), (0, .class_ 307), (0, u "java/lang/constant/Constable"), (0, .class_ 309), (0, u "java/lang/constant/ConstantDesc"), (0, u "MIN_VALUE"), (1, u "MAX_VALUE"), (3, u "SIZE"), (1, u "BYTES"), (1, u "serialVersionUID"), (0, u "J")] 131

def k9c0 : Code := { maxStack := 3, maxLocals := 1, code := jdk_33_method_22_code, exceptionTable := #[], attributes := #[] }
def k9m0 : Method := { name := "valueOf", desc := "(I)Ljava/lang/Integer;", sig := { parameters := [.int], returnType := some (.object "java/lang/Integer") }, accessFlags := 9, code := some k9c0 }
def k9c1 : Code := { maxStack := 2, maxLocals := 2, code := jdk_33_method_23_code, exceptionTable := #[], attributes := #[] }
def k9m1 : Method := { name := "<init>", desc := "(I)V", sig := { parameters := [.int], returnType := none }, accessFlags := 1, code := some k9c1 }
/-- java/lang/Integer -/
def k9 : Class := { plain "java/lang/Integer" (some 4) with
  accessFlags := 49
  interfaces := #[5, 6, 7]
  cf := some (fileOf pool9 1 #[.nestMembers #[189]] #[{ accessFlags := 9, nameIndex := 187, descriptorIndex := 188, attributes := #[] }, { accessFlags := 1, nameIndex := 67, descriptorIndex := 201, attributes := #[] }] 49 203 #[304, 306, 308] #[{ accessFlags := 25, nameIndex := 310, descriptorIndex := 194, attributes := #[] }, { accessFlags := 25, nameIndex := 312, descriptorIndex := 194, attributes := #[] }, { accessFlags := 25, nameIndex := 302, descriptorIndex := 303, attributes := #[] }, { accessFlags := 24, nameIndex := 19, descriptorIndex := 20, attributes := #[] }, { accessFlags := 24, nameIndex := 89, descriptorIndex := 86, attributes := #[] }, { accessFlags := 24, nameIndex := 85, descriptorIndex := 86, attributes := #[] }, { accessFlags := 18, nameIndex := 207, descriptorIndex := 194, attributes := #[] }, { accessFlags := 25, nameIndex := 316, descriptorIndex := 194, attributes := #[] }, { accessFlags := 25, nameIndex := 318, descriptorIndex := 194, attributes := #[] }, { accessFlags := 26, nameIndex := 320, descriptorIndex := 321, attributes := #[] }])
  fields := #[{ name := "MIN_VALUE", type := .int, accessFlags := 25, slot := 0, constantValue := 0 }, { name := "MAX_VALUE", type := .int, accessFlags := 25, slot := 1, constantValue := 0 }, { name := "TYPE", type := (.object "java/lang/Class"), accessFlags := 25, slot := 2, constantValue := 0 }, { name := "digits", type := (.array .char), accessFlags := 24, slot := 3, constantValue := 0 }, { name := "DigitTens", type := (.array .byte), accessFlags := 24, slot := 4, constantValue := 0 }, { name := "DigitOnes", type := (.array .byte), accessFlags := 24, slot := 5, constantValue := 0 }, { name := "value", type := .int, accessFlags := 18, slot := 0, constantValue := 0 }, { name := "SIZE", type := .int, accessFlags := 25, slot := 6, constantValue := 0 }, { name := "BYTES", type := .int, accessFlags := 25, slot := 7, constantValue := 0 }, { name := "serialVersionUID", type := .long, accessFlags := 26, slot := 8, constantValue := 0 }]
  methods := #[k9m0, k9m1]
  instanceTypes := #[.int]
  staticTypes := #[.int, .int, (.object "java/lang/Class"), (.array .char), (.array .byte), (.array .byte), .int, .int, .long]
  resolved := Array.replicate 453 none
  statics := none }

def pool10 : Array CpInfo := pool [(2, .class_ 4), (1, u "java/lang/Object"), (0, u "<init>"), (0, u "()V"), (0, .class_ 8), (0, u "java/lang/Integer"), (7, .class_ 18), (1, u "java/lang/Integer$IntegerCache"), (0, u "$assertionsDisabled"), (0, u "Z"), (26, u "high"), (0, u "I"), (8, u "archivedCache"), (0, u "[Ljava/lang/Integer;"), (12, u "cache"), (0, u "low")] 27

def k10m0 : Method := { name := "<init>", desc := "()V", sig := { parameters := [], returnType := none }, accessFlags := 2, code := none }
/-- java/lang/Integer$IntegerCache -/
def k10 : Class := { plain "java/lang/Integer$IntegerCache" (some 0) with
  accessFlags := 48
  interfaces := #[]
  cf := some (fileOf pool10 16 #[.nestHost 7] #[{ accessFlags := 2, nameIndex := 5, descriptorIndex := 6, attributes := #[] }] 48 2 #[] #[{ accessFlags := 24, nameIndex := 72, descriptorIndex := 48, attributes := #[] }, { accessFlags := 24, nameIndex := 47, descriptorIndex := 48, attributes := #[] }, { accessFlags := 24, nameIndex := 71, descriptorIndex := 58, attributes := #[] }, { accessFlags := 8, nameIndex := 57, descriptorIndex := 58, attributes := #[] }, { accessFlags := 4120, nameIndex := 19, descriptorIndex := 20, attributes := #[] }])
  fields := #[{ name := "low", type := .int, accessFlags := 24, slot := 0, constantValue := 0 }, { name := "high", type := .int, accessFlags := 24, slot := 1, constantValue := 0 }, { name := "cache", type := (.array (.object "java/lang/Integer")), accessFlags := 24, slot := 2, constantValue := 0 }, { name := "archivedCache", type := (.array (.object "java/lang/Integer")), accessFlags := 8, slot := 3, constantValue := 0 }, { name := "$assertionsDisabled", type := .boolean, accessFlags := 4120, slot := 4, constantValue := 0 }]
  methods := #[k10m0]
  instanceTypes := #[]
  staticTypes := #[.int, .int, (.array (.object "java/lang/Integer")), (.array (.object "java/lang/Integer")), .boolean]
  resolved := Array.replicate 100 none
  statics := some 1 }

def pool11 : Array CpInfo := pool [(1, u "java/lang/Cloneable"), (0, .class_ 1), (0, u "java/lang/Object"), (0, .class_ 3)] 3

/-- java/lang/Cloneable -/
def k11 : Class := { plain "java/lang/Cloneable" (some 0) with
  accessFlags := 1537
  interfaces := #[]
  cf := some (fileOf pool11 2 #[] #[] 1537 4 #[] #[])
  fields := #[]
  methods := #[]
  instanceTypes := #[]
  staticTypes := #[]
  resolved := Array.replicate 8 none
  statics := none }

/-- the primitive byte -/
def k12 : Class := { plain "byte" none with kind := .primitive 'B', accessFlags := 0x411 }
/-- [B -/
def k13 : Class := { plain "[B" (some 0) with kind := .array 12 .byte, interfaces := #[11, 3], accessFlags := 1041 }

/-- the primitive int -/
def k14 : Class := { plain "int" none with kind := .primitive 'I', accessFlags := 0x411 }
/-- [I -/
def k15 : Class := { plain "[I" (some 0) with kind := .array 14 .int, interfaces := #[11, 3], accessFlags := 1041 }

/-- [Ljava/lang/Integer; -/
def k16 : Class := { plain "[Ljava/lang/Integer;" (some 0) with kind := .array 9 (.object "java/lang/Integer"), interfaces := #[11, 3], accessFlags := 1041 }

def heap : Heap := #[{ cls := 2, slots := #[.ref 259, .null], vm := .statics 2 },
  { cls := 10, slots := #[.int 0, .int 127, .ref 2, .null, .int 0], vm := .statics 10 },
  { cls := 16, slots := #[.ref 3, .ref 4, .ref 5, .ref 6, .ref 7, .ref 8, .ref 9, .ref 10, .ref 11, .ref 12, .ref 13, .ref 14, .ref 15, .ref 16, .ref 17, .ref 18, .ref 19, .ref 20, .ref 21, .ref 22, .ref 23, .ref 24, .ref 25, .ref 26, .ref 27, .ref 28, .ref 29, .ref 30, .ref 31, .ref 32, .ref 33, .ref 34, .ref 35, .ref 36, .ref 37, .ref 38, .ref 39, .ref 40, .ref 41, .ref 42, .ref 43, .ref 44, .ref 45, .ref 46, .ref 47, .ref 48, .ref 49, .ref 50, .ref 51, .ref 52, .ref 53, .ref 54, .ref 55, .ref 56, .ref 57, .ref 58, .ref 59, .ref 60, .ref 61, .ref 62, .ref 63, .ref 64, .ref 65, .ref 66, .ref 67, .ref 68, .ref 69, .ref 70, .ref 71, .ref 72, .ref 73, .ref 74, .ref 75, .ref 76, .ref 77, .ref 78, .ref 79, .ref 80, .ref 81, .ref 82, .ref 83, .ref 84, .ref 85, .ref 86, .ref 87, .ref 88, .ref 89, .ref 90, .ref 91, .ref 92, .ref 93, .ref 94, .ref 95, .ref 96, .ref 97, .ref 98, .ref 99, .ref 100, .ref 101, .ref 102, .ref 103, .ref 104, .ref 105, .ref 106, .ref 107, .ref 108, .ref 109, .ref 110, .ref 111, .ref 112, .ref 113, .ref 114, .ref 115, .ref 116, .ref 117, .ref 118, .ref 119, .ref 120, .ref 121, .ref 122, .ref 123, .ref 124, .ref 125, .ref 126, .ref 127, .ref 128, .ref 129, .ref 130, .ref 131, .ref 132, .ref 133, .ref 134, .ref 135, .ref 136, .ref 137, .ref 138, .ref 139, .ref 140, .ref 141, .ref 142, .ref 143, .ref 144, .ref 145, .ref 146, .ref 147, .ref 148, .ref 149, .ref 150, .ref 151, .ref 152, .ref 153, .ref 154, .ref 155, .ref 156, .ref 157, .ref 158, .ref 159, .ref 160, .ref 161, .ref 162, .ref 163, .ref 164, .ref 165, .ref 166, .ref 167, .ref 168, .ref 169, .ref 170, .ref 171, .ref 172, .ref 173, .ref 174, .ref 175, .ref 176, .ref 177, .ref 178, .ref 179, .ref 180, .ref 181, .ref 182, .ref 183, .ref 184, .ref 185, .ref 186, .ref 187, .ref 188, .ref 189, .ref 190, .ref 191, .ref 192, .ref 193, .ref 194, .ref 195, .ref 196, .ref 197, .ref 198, .ref 199, .ref 200, .ref 201, .ref 202, .ref 203, .ref 204, .ref 205, .ref 206, .ref 207, .ref 208, .ref 209, .ref 210, .ref 211, .ref 212, .ref 213, .ref 214, .ref 215, .ref 216, .ref 217, .ref 218, .ref 219, .ref 220, .ref 221, .ref 222, .ref 223, .ref 224, .ref 225, .ref 226, .ref 227, .ref 228, .ref 229, .ref 230, .ref 231, .ref 232, .ref 233, .ref 234, .ref 235, .ref 236, .ref 237, .ref 238, .ref 239, .ref 240, .ref 241, .ref 242, .ref 243, .ref 244, .ref 245, .ref 246, .ref 247, .ref 248, .ref 249, .ref 250, .ref 251, .ref 252, .ref 253, .ref 254, .ref 255, .ref 256, .ref 257, .ref 258], vm := .none },
  { cls := 9, slots := #[.int (-128)], vm := .none },
  { cls := 9, slots := #[.int (-127)], vm := .none },
  { cls := 9, slots := #[.int (-126)], vm := .none },
  { cls := 9, slots := #[.int (-125)], vm := .none },
  { cls := 9, slots := #[.int (-124)], vm := .none },
  { cls := 9, slots := #[.int (-123)], vm := .none },
  { cls := 9, slots := #[.int (-122)], vm := .none },
  { cls := 9, slots := #[.int (-121)], vm := .none },
  { cls := 9, slots := #[.int (-120)], vm := .none },
  { cls := 9, slots := #[.int (-119)], vm := .none },
  { cls := 9, slots := #[.int (-118)], vm := .none },
  { cls := 9, slots := #[.int (-117)], vm := .none },
  { cls := 9, slots := #[.int (-116)], vm := .none },
  { cls := 9, slots := #[.int (-115)], vm := .none },
  { cls := 9, slots := #[.int (-114)], vm := .none },
  { cls := 9, slots := #[.int (-113)], vm := .none },
  { cls := 9, slots := #[.int (-112)], vm := .none },
  { cls := 9, slots := #[.int (-111)], vm := .none },
  { cls := 9, slots := #[.int (-110)], vm := .none },
  { cls := 9, slots := #[.int (-109)], vm := .none },
  { cls := 9, slots := #[.int (-108)], vm := .none },
  { cls := 9, slots := #[.int (-107)], vm := .none },
  { cls := 9, slots := #[.int (-106)], vm := .none },
  { cls := 9, slots := #[.int (-105)], vm := .none },
  { cls := 9, slots := #[.int (-104)], vm := .none },
  { cls := 9, slots := #[.int (-103)], vm := .none },
  { cls := 9, slots := #[.int (-102)], vm := .none },
  { cls := 9, slots := #[.int (-101)], vm := .none },
  { cls := 9, slots := #[.int (-100)], vm := .none },
  { cls := 9, slots := #[.int (-99)], vm := .none },
  { cls := 9, slots := #[.int (-98)], vm := .none },
  { cls := 9, slots := #[.int (-97)], vm := .none },
  { cls := 9, slots := #[.int (-96)], vm := .none },
  { cls := 9, slots := #[.int (-95)], vm := .none },
  { cls := 9, slots := #[.int (-94)], vm := .none },
  { cls := 9, slots := #[.int (-93)], vm := .none },
  { cls := 9, slots := #[.int (-92)], vm := .none },
  { cls := 9, slots := #[.int (-91)], vm := .none },
  { cls := 9, slots := #[.int (-90)], vm := .none },
  { cls := 9, slots := #[.int (-89)], vm := .none },
  { cls := 9, slots := #[.int (-88)], vm := .none },
  { cls := 9, slots := #[.int (-87)], vm := .none },
  { cls := 9, slots := #[.int (-86)], vm := .none },
  { cls := 9, slots := #[.int (-85)], vm := .none },
  { cls := 9, slots := #[.int (-84)], vm := .none },
  { cls := 9, slots := #[.int (-83)], vm := .none },
  { cls := 9, slots := #[.int (-82)], vm := .none },
  { cls := 9, slots := #[.int (-81)], vm := .none },
  { cls := 9, slots := #[.int (-80)], vm := .none },
  { cls := 9, slots := #[.int (-79)], vm := .none },
  { cls := 9, slots := #[.int (-78)], vm := .none },
  { cls := 9, slots := #[.int (-77)], vm := .none },
  { cls := 9, slots := #[.int (-76)], vm := .none },
  { cls := 9, slots := #[.int (-75)], vm := .none },
  { cls := 9, slots := #[.int (-74)], vm := .none },
  { cls := 9, slots := #[.int (-73)], vm := .none },
  { cls := 9, slots := #[.int (-72)], vm := .none },
  { cls := 9, slots := #[.int (-71)], vm := .none },
  { cls := 9, slots := #[.int (-70)], vm := .none },
  { cls := 9, slots := #[.int (-69)], vm := .none },
  { cls := 9, slots := #[.int (-68)], vm := .none },
  { cls := 9, slots := #[.int (-67)], vm := .none },
  { cls := 9, slots := #[.int (-66)], vm := .none },
  { cls := 9, slots := #[.int (-65)], vm := .none },
  { cls := 9, slots := #[.int (-64)], vm := .none },
  { cls := 9, slots := #[.int (-63)], vm := .none },
  { cls := 9, slots := #[.int (-62)], vm := .none },
  { cls := 9, slots := #[.int (-61)], vm := .none },
  { cls := 9, slots := #[.int (-60)], vm := .none },
  { cls := 9, slots := #[.int (-59)], vm := .none },
  { cls := 9, slots := #[.int (-58)], vm := .none },
  { cls := 9, slots := #[.int (-57)], vm := .none },
  { cls := 9, slots := #[.int (-56)], vm := .none },
  { cls := 9, slots := #[.int (-55)], vm := .none },
  { cls := 9, slots := #[.int (-54)], vm := .none },
  { cls := 9, slots := #[.int (-53)], vm := .none },
  { cls := 9, slots := #[.int (-52)], vm := .none },
  { cls := 9, slots := #[.int (-51)], vm := .none },
  { cls := 9, slots := #[.int (-50)], vm := .none },
  { cls := 9, slots := #[.int (-49)], vm := .none },
  { cls := 9, slots := #[.int (-48)], vm := .none },
  { cls := 9, slots := #[.int (-47)], vm := .none },
  { cls := 9, slots := #[.int (-46)], vm := .none },
  { cls := 9, slots := #[.int (-45)], vm := .none },
  { cls := 9, slots := #[.int (-44)], vm := .none },
  { cls := 9, slots := #[.int (-43)], vm := .none },
  { cls := 9, slots := #[.int (-42)], vm := .none },
  { cls := 9, slots := #[.int (-41)], vm := .none },
  { cls := 9, slots := #[.int (-40)], vm := .none },
  { cls := 9, slots := #[.int (-39)], vm := .none },
  { cls := 9, slots := #[.int (-38)], vm := .none },
  { cls := 9, slots := #[.int (-37)], vm := .none },
  { cls := 9, slots := #[.int (-36)], vm := .none },
  { cls := 9, slots := #[.int (-35)], vm := .none },
  { cls := 9, slots := #[.int (-34)], vm := .none },
  { cls := 9, slots := #[.int (-33)], vm := .none },
  { cls := 9, slots := #[.int (-32)], vm := .none },
  { cls := 9, slots := #[.int (-31)], vm := .none },
  { cls := 9, slots := #[.int (-30)], vm := .none },
  { cls := 9, slots := #[.int (-29)], vm := .none },
  { cls := 9, slots := #[.int (-28)], vm := .none },
  { cls := 9, slots := #[.int (-27)], vm := .none },
  { cls := 9, slots := #[.int (-26)], vm := .none },
  { cls := 9, slots := #[.int (-25)], vm := .none },
  { cls := 9, slots := #[.int (-24)], vm := .none },
  { cls := 9, slots := #[.int (-23)], vm := .none },
  { cls := 9, slots := #[.int (-22)], vm := .none },
  { cls := 9, slots := #[.int (-21)], vm := .none },
  { cls := 9, slots := #[.int (-20)], vm := .none },
  { cls := 9, slots := #[.int (-19)], vm := .none },
  { cls := 9, slots := #[.int (-18)], vm := .none },
  { cls := 9, slots := #[.int (-17)], vm := .none },
  { cls := 9, slots := #[.int (-16)], vm := .none },
  { cls := 9, slots := #[.int (-15)], vm := .none },
  { cls := 9, slots := #[.int (-14)], vm := .none },
  { cls := 9, slots := #[.int (-13)], vm := .none },
  { cls := 9, slots := #[.int (-12)], vm := .none },
  { cls := 9, slots := #[.int (-11)], vm := .none },
  { cls := 9, slots := #[.int (-10)], vm := .none },
  { cls := 9, slots := #[.int (-9)], vm := .none },
  { cls := 9, slots := #[.int (-8)], vm := .none },
  { cls := 9, slots := #[.int (-7)], vm := .none },
  { cls := 9, slots := #[.int (-6)], vm := .none },
  { cls := 9, slots := #[.int (-5)], vm := .none },
  { cls := 9, slots := #[.int (-4)], vm := .none },
  { cls := 9, slots := #[.int (-3)], vm := .none },
  { cls := 9, slots := #[.int (-2)], vm := .none },
  { cls := 9, slots := #[.int (-1)], vm := .none },
  { cls := 9, slots := #[.int 0], vm := .none },
  { cls := 9, slots := #[.int 1], vm := .none },
  { cls := 9, slots := #[.int 2], vm := .none },
  { cls := 9, slots := #[.int 3], vm := .none },
  { cls := 9, slots := #[.int 4], vm := .none },
  { cls := 9, slots := #[.int 5], vm := .none },
  { cls := 9, slots := #[.int 6], vm := .none },
  { cls := 9, slots := #[.int 7], vm := .none },
  { cls := 9, slots := #[.int 8], vm := .none },
  { cls := 9, slots := #[.int 9], vm := .none },
  { cls := 9, slots := #[.int 10], vm := .none },
  { cls := 9, slots := #[.int 11], vm := .none },
  { cls := 9, slots := #[.int 12], vm := .none },
  { cls := 9, slots := #[.int 13], vm := .none },
  { cls := 9, slots := #[.int 14], vm := .none },
  { cls := 9, slots := #[.int 15], vm := .none },
  { cls := 9, slots := #[.int 16], vm := .none },
  { cls := 9, slots := #[.int 17], vm := .none },
  { cls := 9, slots := #[.int 18], vm := .none },
  { cls := 9, slots := #[.int 19], vm := .none },
  { cls := 9, slots := #[.int 20], vm := .none },
  { cls := 9, slots := #[.int 21], vm := .none },
  { cls := 9, slots := #[.int 22], vm := .none },
  { cls := 9, slots := #[.int 23], vm := .none },
  { cls := 9, slots := #[.int 24], vm := .none },
  { cls := 9, slots := #[.int 25], vm := .none },
  { cls := 9, slots := #[.int 26], vm := .none },
  { cls := 9, slots := #[.int 27], vm := .none },
  { cls := 9, slots := #[.int 28], vm := .none },
  { cls := 9, slots := #[.int 29], vm := .none },
  { cls := 9, slots := #[.int 30], vm := .none },
  { cls := 9, slots := #[.int 31], vm := .none },
  { cls := 9, slots := #[.int 32], vm := .none },
  { cls := 9, slots := #[.int 33], vm := .none },
  { cls := 9, slots := #[.int 34], vm := .none },
  { cls := 9, slots := #[.int 35], vm := .none },
  { cls := 9, slots := #[.int 36], vm := .none },
  { cls := 9, slots := #[.int 37], vm := .none },
  { cls := 9, slots := #[.int 38], vm := .none },
  { cls := 9, slots := #[.int 39], vm := .none },
  { cls := 9, slots := #[.int 40], vm := .none },
  { cls := 9, slots := #[.int 41], vm := .none },
  { cls := 9, slots := #[.int 42], vm := .none },
  { cls := 9, slots := #[.int 43], vm := .none },
  { cls := 9, slots := #[.int 44], vm := .none },
  { cls := 9, slots := #[.int 45], vm := .none },
  { cls := 9, slots := #[.int 46], vm := .none },
  { cls := 9, slots := #[.int 47], vm := .none },
  { cls := 9, slots := #[.int 48], vm := .none },
  { cls := 9, slots := #[.int 49], vm := .none },
  { cls := 9, slots := #[.int 50], vm := .none },
  { cls := 9, slots := #[.int 51], vm := .none },
  { cls := 9, slots := #[.int 52], vm := .none },
  { cls := 9, slots := #[.int 53], vm := .none },
  { cls := 9, slots := #[.int 54], vm := .none },
  { cls := 9, slots := #[.int 55], vm := .none },
  { cls := 9, slots := #[.int 56], vm := .none },
  { cls := 9, slots := #[.int 57], vm := .none },
  { cls := 9, slots := #[.int 58], vm := .none },
  { cls := 9, slots := #[.int 59], vm := .none },
  { cls := 9, slots := #[.int 60], vm := .none },
  { cls := 9, slots := #[.int 61], vm := .none },
  { cls := 9, slots := #[.int 62], vm := .none },
  { cls := 9, slots := #[.int 63], vm := .none },
  { cls := 9, slots := #[.int 64], vm := .none },
  { cls := 9, slots := #[.int 65], vm := .none },
  { cls := 9, slots := #[.int 66], vm := .none },
  { cls := 9, slots := #[.int 67], vm := .none },
  { cls := 9, slots := #[.int 68], vm := .none },
  { cls := 9, slots := #[.int 69], vm := .none },
  { cls := 9, slots := #[.int 70], vm := .none },
  { cls := 9, slots := #[.int 71], vm := .none },
  { cls := 9, slots := #[.int 72], vm := .none },
  { cls := 9, slots := #[.int 73], vm := .none },
  { cls := 9, slots := #[.int 74], vm := .none },
  { cls := 9, slots := #[.int 75], vm := .none },
  { cls := 9, slots := #[.int 76], vm := .none },
  { cls := 9, slots := #[.int 77], vm := .none },
  { cls := 9, slots := #[.int 78], vm := .none },
  { cls := 9, slots := #[.int 79], vm := .none },
  { cls := 9, slots := #[.int 80], vm := .none },
  { cls := 9, slots := #[.int 81], vm := .none },
  { cls := 9, slots := #[.int 82], vm := .none },
  { cls := 9, slots := #[.int 83], vm := .none },
  { cls := 9, slots := #[.int 84], vm := .none },
  { cls := 9, slots := #[.int 85], vm := .none },
  { cls := 9, slots := #[.int 86], vm := .none },
  { cls := 9, slots := #[.int 87], vm := .none },
  { cls := 9, slots := #[.int 88], vm := .none },
  { cls := 9, slots := #[.int 89], vm := .none },
  { cls := 9, slots := #[.int 90], vm := .none },
  { cls := 9, slots := #[.int 91], vm := .none },
  { cls := 9, slots := #[.int 92], vm := .none },
  { cls := 9, slots := #[.int 93], vm := .none },
  { cls := 9, slots := #[.int 94], vm := .none },
  { cls := 9, slots := #[.int 95], vm := .none },
  { cls := 9, slots := #[.int 96], vm := .none },
  { cls := 9, slots := #[.int 97], vm := .none },
  { cls := 9, slots := #[.int 98], vm := .none },
  { cls := 9, slots := #[.int 99], vm := .none },
  { cls := 9, slots := #[.int 100], vm := .none },
  { cls := 9, slots := #[.int 101], vm := .none },
  { cls := 9, slots := #[.int 102], vm := .none },
  { cls := 9, slots := #[.int 103], vm := .none },
  { cls := 9, slots := #[.int 104], vm := .none },
  { cls := 9, slots := #[.int 105], vm := .none },
  { cls := 9, slots := #[.int 106], vm := .none },
  { cls := 9, slots := #[.int 107], vm := .none },
  { cls := 9, slots := #[.int 108], vm := .none },
  { cls := 9, slots := #[.int 109], vm := .none },
  { cls := 9, slots := #[.int 110], vm := .none },
  { cls := 9, slots := #[.int 111], vm := .none },
  { cls := 9, slots := #[.int 112], vm := .none },
  { cls := 9, slots := #[.int 113], vm := .none },
  { cls := 9, slots := #[.int 114], vm := .none },
  { cls := 9, slots := #[.int 115], vm := .none },
  { cls := 9, slots := #[.int 116], vm := .none },
  { cls := 9, slots := #[.int 117], vm := .none },
  { cls := 9, slots := #[.int 118], vm := .none },
  { cls := 9, slots := #[.int 119], vm := .none },
  { cls := 9, slots := #[.int 120], vm := .none },
  { cls := 9, slots := #[.int 121], vm := .none },
  { cls := 9, slots := #[.int 122], vm := .none },
  { cls := 9, slots := #[.int 123], vm := .none },
  { cls := 9, slots := #[.int 124], vm := .none },
  { cls := 9, slots := #[.int 125], vm := .none },
  { cls := 9, slots := #[.int 126], vm := .none },
  { cls := 9, slots := #[.int 127], vm := .none },
  { cls := 2, slots := #[.double 9218868437227405312], vm := .none }]
def classes : Array Class := #[k0, k1, k2, k3, k4, k5, k6, k7, k8, k9, k10, k11, k12, k13, k14, k15, k16]
def interned : List (Array UInt16 × Addr) := []
def slotsUsed : Nat := 520
def theMethod : MethodId := ⟨1, 1⟩
def args0 : Array Value := #[.int 5, .int 6, .int 0]
def aboutOver (below : List Frame) : State where
  vm := { classes := classes, interned := interned.toArray }
  heap := heap
  slotsUsed := slotsUsed
  threads := #[{ frames := .invoking theMethod args0 :: below }]
def below0 : List Frame := [.native { method := ⟨0, 0⟩, args := #[] }]
def about1 : State := aboutOver below0
def p0 : Program := .bare "" "" ""
def e0 : Env := launch0.env 0 0 0
theorem w_frames : about1.frames = Frame.invoking theMethod args0 :: below0 := rfl
set_option maxRecDepth 65536 in
theorem w_args : argsFit about1.vm theMethod args0 = true := by decide +kernel
set_option maxRecDepth 65536 in
theorem w_heap : heapFits about1 = true := by decide +kernel
set_option maxRecDepth 65536 in
theorem w_runnable : about1.curStatus? = some .runnable := by decide +kernel
set_option maxRecDepth 65536 in
theorem w_alone : about1.alone = true := by decide +kernel
set_option maxRecDepth 65536 in
theorem w_named : about1.methodNamed? x = some theMethod := by decide +kernel
set_option maxRecDepth 65536 in
theorem w_hears : about1.hears theMethod below0 = true := by decide +kernel
set_option maxRecDepth 65536 in
theorem w_ripe : about1.ripe theMethod args0 below0 = true := by decide +kernel
theorem w_running : about1.status = .running := rfl
set_option maxRecDepth 65536 in
theorem w_room : about1.hasRoom e0.platform room_1 = true :=
  launch0.hasRoom_least _ room_1 (by decide +kernel) (by decide +kernel) (by decide +kernel) (by decide +kernel) (by decide +kernel) (by decide +kernel)
theorem allAtoms_all (ts : List Jvm.Cond) (a : Array Jvm.Value) (st : Jvm.State) : (allAtoms ts).before a st = ts.all (fun c => c.before a st) := by
  induction ts with
  | nil => rfl
  | cons c t ih =>
    show (Jvm.Cond.and c (allAtoms t)).before a st = _
    rw [Jvm.Cond.before_and, ih, List.all_cons]
def words1 : List Jvm.Cond := Jvm.Cond.code x code maxLocals ret :: tables_1
/-- a 'code' word, met by the world's own term for the bytes: nothing is compared byte by byte -/
theorem code_word {y : MethodName} {bytes : ByteArray} {mx : Nat} {rt : Option FieldType} {a : Array Value} {s : State} {m : MethodId} {meth : Method} {c : Code} (h1 : s.methodNamed? y = some m) (h2 : s.vm.method? m = some meth) (h3 : meth.code = some c) (h4 : c.code = bytes)
    (h5 : (c.maxLocals == mx && c.exceptionTable.isEmpty && decide (c.maxStack ≤ mostOperands) && decide (meth.sig.returnType = rt) && !meth.locks && decide (parseMethodDescriptor y.desc = some meth.sig)) = true) : (Jvm.Cond.code y bytes mx rt).before a s = true := by
  simp only [Bool.and_eq_true, beq_iff_eq, Bool.not_eq_true', decide_eq_true_eq] at h5
  obtain ⟨⟨⟨⟨⟨g1, g2⟩, g3⟩, g4⟩, g5⟩, g6⟩ := h5
  simp [Cond.before, Cond.holds, Cond.value, h1, h2, h3, h4, g1, g2, g3, g4, g5, g6]
def isCode : Jvm.Cond → Bool
  | .code _ _ _ _ => true
  | _ => false
theorem all_split {L : List Jvm.Cond} {P : Jvm.Cond → Bool} (h1 : L.all (fun c => isCode c || P c) = true) (h2 : ∀ c ∈ L.filter isCode, P c = true) : L.all P = true := by
  refine List.all_eq_true.mpr fun c hc => ?_
  have h := List.all_eq_true.mp h1 c hc
  rcases Bool.eq_false_or_eq_true (isCode c) with hi | hi
  · exact h2 c (List.mem_filter.mpr ⟨hc, hi⟩)
  · simpa [hi] using h
set_option maxRecDepth 65536 in
theorem w_c0 : (Jvm.Cond.code x code maxLocals ret).before args0 about1 = true := code_word (m := ⟨1, 1⟩) (meth := k1m1) (c := k1c1) (by decide +kernel) rfl rfl rfl (by decide +kernel)
set_option maxRecDepth 65536 in
theorem w_c1 : (Jvm.Cond.code ({ cls := "com/example/parkville/parkville/PNorm", name := "<init>", desc := "(D)V" } : Jvm.MethodName) prog_11_method_1_code (3 : Nat) (Option.none : Option Jvm.ClassFile.FieldType)).before args0 about1 = true := code_word (m := ⟨2, 0⟩) (meth := k2m0) (c := k2c0) (by decide +kernel) rfl rfl rfl (by decide +kernel)
set_option maxRecDepth 65536 in
theorem w_c2 : (Jvm.Cond.code ({ cls := "java/lang/Object", name := "<init>", desc := "()V" } : Jvm.MethodName) object_method_1_code (1 : Nat) (Option.none : Option Jvm.ClassFile.FieldType)).before args0 about1 = true := code_word (m := ⟨0, 0⟩) (meth := k0m0) (c := k0c0) (by decide +kernel) rfl rfl rfl (by decide +kernel)
set_option maxRecDepth 65536 in
theorem w_c3 : (Jvm.Cond.code ({ cls := "com/example/parkville/parkville/PNorm", name := "equals", desc := "(Ljava/lang/Object;)Z" } : Jvm.MethodName) prog_11_method_10_code (3 : Nat) (Option.some Jvm.ClassFile.FieldType.boolean)).before args0 about1 = true := code_word (m := ⟨2, 1⟩) (meth := k2m1) (c := k2c1) (by decide +kernel) rfl rfl rfl (by decide +kernel)
set_option maxRecDepth 65536 in
theorem w_c4 : (Jvm.Cond.code ({ cls := "java/lang/Double", name := "compare", desc := "(DD)I" } : Jvm.MethodName) jdk_117_method_27_code (8 : Nat) (Option.some Jvm.ClassFile.FieldType.int)).before args0 about1 = true := code_word (m := ⟨8, 3⟩) (meth := k8m3) (c := k8c3) (by decide +kernel) rfl rfl rfl (by decide +kernel)
set_option maxRecDepth 65536 in
theorem w_c5 : (Jvm.Cond.code ({ cls := "java/lang/Double", name := "doubleToLongBits", desc := "(D)J" } : Jvm.MethodName) jdk_117_method_23_code (2 : Nat) (Option.some Jvm.ClassFile.FieldType.long)).before args0 about1 = true := code_word (m := ⟨8, 1⟩) (meth := k8m1) (c := k8c1) (by decide +kernel) rfl rfl rfl (by decide +kernel)
set_option maxRecDepth 65536 in
theorem w_c6 : (Jvm.Cond.code ({ cls := "java/lang/Double", name := "isNaN", desc := "(D)Z" } : Jvm.MethodName) jdk_117_method_6_code (2 : Nat) (Option.some Jvm.ClassFile.FieldType.boolean)).before args0 about1 = true := code_word (m := ⟨8, 0⟩) (meth := k8m0) (c := k8c0) (by decide +kernel) rfl rfl rfl (by decide +kernel)
set_option maxRecDepth 65536 in
theorem w_c7 : (Jvm.Cond.code ({ cls := "java/lang/Integer", name := "valueOf", desc := "(I)Ljava/lang/Integer;" } : Jvm.MethodName) jdk_33_method_22_code (1 : Nat) (Option.some (Jvm.ClassFile.FieldType.object "java/lang/Integer"))).before args0 about1 = true := code_word (m := ⟨9, 0⟩) (meth := k9m0) (c := k9c0) (by decide +kernel) rfl rfl rfl (by decide +kernel)
set_option maxRecDepth 65536 in
theorem w_c8 : (Jvm.Cond.code ({ cls := "java/lang/Integer", name := "<init>", desc := "(I)V" } : Jvm.MethodName) jdk_33_method_23_code (2 : Nat) (Option.none : Option Jvm.ClassFile.FieldType)).before args0 about1 = true := code_word (m := ⟨9, 1⟩) (meth := k9m1) (c := k9c1) (by decide +kernel) rfl rfl rfl (by decide +kernel)
set_option maxRecDepth 65536 in
theorem w_c9 : (Jvm.Cond.code ({ cls := "java/lang/Number", name := "<init>", desc := "()V" } : Jvm.MethodName) jdk_18_method_1_code (1 : Nat) (Option.none : Option Jvm.ClassFile.FieldType)).before args0 about1 = true := code_word (m := ⟨4, 0⟩) (meth := k4m0) (c := k4c0) (by decide +kernel) rfl rfl rfl (by decide +kernel)
def codes1 : List Jvm.Cond := [Jvm.Cond.code x code maxLocals ret, Jvm.Cond.code ({ cls := "com/example/parkville/parkville/PNorm", name := "<init>", desc := "(D)V" } : Jvm.MethodName) prog_11_method_1_code (3 : Nat) (Option.none : Option Jvm.ClassFile.FieldType), Jvm.Cond.code ({ cls := "java/lang/Object", name := "<init>", desc := "()V" } : Jvm.MethodName) object_method_1_code (1 : Nat) (Option.none : Option Jvm.ClassFile.FieldType), Jvm.Cond.code ({ cls := "com/example/parkville/parkville/PNorm", name := "equals", desc := "(Ljava/lang/Object;)Z" } : Jvm.MethodName) prog_11_method_10_code (3 : Nat) (Option.some Jvm.ClassFile.FieldType.boolean), Jvm.Cond.code ({ cls := "java/lang/Double", name := "compare", desc := "(DD)I" } : Jvm.MethodName) jdk_117_method_27_code (8 : Nat) (Option.some Jvm.ClassFile.FieldType.int), Jvm.Cond.code ({ cls := "java/lang/Double", name := "doubleToLongBits", desc := "(D)J" } : Jvm.MethodName) jdk_117_method_23_code (2 : Nat) (Option.some Jvm.ClassFile.FieldType.long), Jvm.Cond.code ({ cls := "java/lang/Double", name := "isNaN", desc := "(D)Z" } : Jvm.MethodName) jdk_117_method_6_code (2 : Nat) (Option.some Jvm.ClassFile.FieldType.boolean), Jvm.Cond.code ({ cls := "java/lang/Integer", name := "valueOf", desc := "(I)Ljava/lang/Integer;" } : Jvm.MethodName) jdk_33_method_22_code (1 : Nat) (Option.some (Jvm.ClassFile.FieldType.object "java/lang/Integer")), Jvm.Cond.code ({ cls := "java/lang/Integer", name := "<init>", desc := "(I)V" } : Jvm.MethodName) jdk_33_method_23_code (2 : Nat) (Option.none : Option Jvm.ClassFile.FieldType), Jvm.Cond.code ({ cls := "java/lang/Number", name := "<init>", desc := "()V" } : Jvm.MethodName) jdk_18_method_1_code (1 : Nat) (Option.none : Option Jvm.ClassFile.FieldType)]
set_option maxRecDepth 65536 in
theorem codes_eq : words1.filter isCode = codes1 := rfl
theorem w_codes : ∀ c ∈ words1.filter isCode, c.before args0 about1 = true := by
  rw [codes_eq]
  intro c hc
  simp only [codes1, List.mem_cons, List.not_mem_nil, or_false] at hc
  rcases hc with rfl | rfl | rfl | rfl | rfl | rfl | rfl | rfl | rfl | rfl
  · exact w_c0
  · exact w_c1
  · exact w_c2
  · exact w_c3
  · exact w_c4
  · exact w_c5
  · exact w_c6
  · exact w_c7
  · exact w_c8
  · exact w_c9
set_option maxRecDepth 65536 in
theorem w_t1 : (words1.take 24).all (fun c => isCode c || c.before args0 about1) = true := by decide +kernel
set_option maxRecDepth 65536 in
theorem w_t2 : ((words1.drop 24).take 24).all (fun c => isCode c || c.before args0 about1) = true := by decide +kernel
set_option maxRecDepth 65536 in
theorem w_t3 : ((words1.drop 24).drop 24).all (fun c => isCode c || c.before args0 about1) = true := by decide +kernel
theorem w_tables : (allAtoms (Jvm.Cond.code x code maxLocals ret :: tables_1)).before args0 about1 = true := by
  rw [allAtoms_all]
  show words1.all (fun c => c.before args0 about1) = true
  refine all_split ?_ w_codes
  rw [← List.take_append_drop 24 words1, List.all_append, w_t1, ← List.take_append_drop 24 (words1.drop 24), List.all_append, w_t2, w_t3]
  rfl
set_option maxRecDepth 65536 in
theorem w_rest : rest_1_c.before args0 about1 = true := by decide +kernel
set_option maxRecDepth 65536 in
theorem w_case : (Jvm.Cond.and given_1 narrow_1).before args0 about1 = true := by decide +kernel
theorem w_applies : (headSpec (Jvm.Cond.code x code maxLocals ret :: tables_1) room_1).applies x e0.platform about1 = true :=
  (Spec.applies_iff w_frames).mpr ⟨w_running, w_runnable, w_alone, w_named, w_hears, w_ripe, w_room, w_tables⟩
theorem atStart : AtStart classFile x code maxLocals ret World_1 tables_1 room_1 Calls_1 rest_1 Pre_1 launch0 p0 e0 about1 theMethod args0 below0 :=
  ⟨lists_1, trivial, launch0.admits_env _ _ _, launch0.least_env, fairChoices_fair.cas, fairChoices_fair.clock, w_frames, w_args, w_heap, w_applies, trivial, w_rest, w_case⟩
end start1
theorem witness_1 : WitnessClaimed_1 := ⟨start1.p0, start1.e0, start1.about1, start1.theMethod, start1.args0, start1.below0, start1.atStart⟩
end Jvm.Pilot.@@N@@
