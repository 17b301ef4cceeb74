import JvmDerived
import JvmDerived.Pilot.@@N@@Statement
import JvmDerived.Pilot.@@N@@Code
set_option linter.unusedVariables false
set_option linter.unusedSimpArgs false
@@BLOCK:NumsL.lean.txt@@
namespace Jvm.Own
open Jvm Jvm.ClassFile Sem Op Lib Jvm.Free Jvm.Stand Jvm.LawKit Jvm.RoadKit
/-- from every stand with the heap h, k cells and n slots booked, and the top frame g, a stand is reached of which Q holds -/
def Wp (p : Program) (l : Launch) (e : Env) (R : Room) (s : State) (m : MethodId) (args : Array Value) (below : List Frame) (meth : Method) (c : Code) (n0 : Nat) (Q : Heap → Nat → Nat → JFrame → Prop) (h : Heap) (k n : Nat) (g : JFrame) : Prop :=
  ∀ (T : State) (locs : List Loc), Stand p l e R s m args below meth c T locs k n → T.heap = h → Fr n0 locs →
    ∃ (T' : State) (locs' : List Loc) (k' n' : Nat) (g' : JFrame), Stand p l e R s m args below meth c T' locs' k' n' ∧ Fr n0 locs' ∧ Q T'.heap k' n' g' ∧ ∀ t, Steps p.tables e below (T'.setTop g') t → Steps p.tables e below (T.setTop g) t
/-- what every step of a walk asks; G is the walk's own Wp -/
def Wk (Z : State) (a0 : Array Value) (ts : List Jvm.Cond) (l : Launch) (own nm : String) (code : ByteArray) (ml : Nat) (R : Room) (n0 : Nat) (m : MethodId) (G : Heap → Nat → Nat → JFrame → Prop) : Prop :=
  (∀ d ∈ ts, d.before a0 Z = true) ∧ ∃ (p : Program) (e : Env) (s : State) (args : Array Value) (below : List Frame) (meth : Method) (c : Code) (Q : Heap → Nat → Nat → JFrame → Prop),
    p.tables.exec = Jvm.exec ∧ Z.Warmed39 s.vm ∧ s.vm.findClass own = some m.cls ∧ c.code = code ∧ c.maxLocals = ml ∧ meth.name = nm ∧ G = Wp p l e R s m args below meth c n0 Q
/-- an array of ints, bytes, chars or booleans: n places, place i holds f i -/
def Ary (Z : State) (h : Heap) (a : Addr) (ty : FieldType) (n : Nat) (f : Nat → Int32) : Prop := ∃ c : Cell, Arr Z h a c ty ∧ c.slots.size = n ∧ n < 2147483648 ∧ ∀ i, i < n → c.slots[i]? = some (.int (f i))
def up {α : Type} (f : Nat → α) (i : Nat) (x : α) : Nat → α := fun j => if j = i then x else f j
theorem up_same {α : Type} {f : Nat → α} {i : Nat} {x : α} : up f i x i = x := if_pos rfl
theorem up_ne {α : Type} {f : Nat → α} {i j : Nat} {x : α} (h : j ≠ i) : up f i x j = f j := if_neg h
theorem ix {i n : Nat} (hi : i < n) (hn : n < 2147483648) : (Int32.ofNat i).toNatClampNeg = i ∧ ¬ (Int32.ofNat i < 0) := by
  have e : (Int32.ofNat i).toInt = (i : Int) := Int32.toInt_ofNat_small (by omega)
  refine ⟨by simp only [Int32.toNatClampNeg, e]; omega, ?_⟩
  rw [Int32.lt_iff_toInt_lt, e, Int32.toInt_zero]; omega
section Facts
variable {Z : State} {h h' : Heap} {a b : Addr} {ty : FieldType} {n sl : Nat} {f : Nat → Int32} {v : Value}
theorem Ary.lt (A : Ary Z h a ty n f) : a < h.size := by obtain ⟨c, A, -⟩ := A; exact A.lt
theorem Ary.small (A : Ary Z h a ty n f) : n < 2147483648 := by obtain ⟨c, -, -, q, -⟩ := A; exact q
theorem Ary.ext (A : Ary Z h a ty n f) (E : Ext h h') : Ary Z h' a ty n f := by obtain ⟨c, A, r⟩ := A; exact ⟨c, A.ext E, r⟩
theorem Ary.other (A : Ary Z h b ty n f) (W : Wr h h' a sl v) (q : b ≠ a) : Ary Z h' b ty n f := by obtain ⟨c, A, r⟩ := A; exact ⟨c, A.other W q, r⟩
theorem Ary.keep {ws : List Addr} (A : Ary Z h a ty n f) (K : Keep h h' ws) (q : a ∉ ws) : Ary Z h' a ty n f := by obtain ⟨c, A, r⟩ := A; exact ⟨c, ⟨K.2.1 a c A.1 q, A.2⟩, r⟩
theorem Ary.set {i : Nat} {x : Int32} (A : Ary Z h a ty n f) (W : Wr h h' a i (.int x)) : Ary Z h' a ty n (up f i x) := by
  obtain ⟨c, A, r1, r2, r3⟩ := A
  refine ⟨_, A.same W, by rw [sz_set]; exact r1, r2, fun j hj => ?_⟩
  by_cases q : j = i
  · subst q; rw [up_same]; simp [Cell.setSlot, r1, hj]
  · rw [up_ne q]; simp only [Cell.setSlot]; rw [Array.getElem?_setIfInBounds_ne (Ne.symm q)]; exact r3 j hj
theorem Ary.congr {g : Nat → Int32} (A : Ary Z h a ty n f) (q : ∀ i, i < n → f i = g i) : Ary Z h a ty n g := by
  obtain ⟨c, A, r1, r2, r3⟩ := A
  exact ⟨c, A, r1, r2, fun i hi => by rw [← q i hi]; exact r3 i hi⟩
end Facts
section Laws
variable {Z : State} {a0 : Array Value} {ts : List Jvm.Cond} {l : Launch} {own nm : String} {code : ByteArray} {ml : Nat} {R : Room} {n0 : Nat} {m : MethodId} {G : Heap → Nat → Nat → JFrame → Prop} {h : Heap} {u w : Nat} {pc : Nat} {L L' : Array Slot} {S : List Value}
theorem Wk.pure (K : Wk Z a0 ts l own nm code ml R n0 m G) {g g' : JFrame}
    (st : ∀ (p : Program) (e : Env) (s : State) (args : Array Value) (below : List Frame) (meth : Method) (c : Code) (T : State) (locs : List Loc), p.tables.exec = Jvm.exec → Z.Warmed39 s.vm → s.vm.findClass own = some m.cls → c.code = code → Stand p l e R s m args below meth c T locs u w → T.heap = h → ∀ t, Steps p.tables e below (T.setTop g') t → Steps p.tables e below (T.setTop g) t)
    (k : G h u w g') : G h u w g := by
  obtain ⟨hw, p, e, s, args, below, meth, c, Q, hx, hZ, hown, hby, hml, hnm, rfl⟩ := K
  intro T locs X eT N
  obtain ⟨T', locs', k', n', g', X', N', hQ, go⟩ := k T locs X eT N
  exact ⟨T', locs', k', n', g', X', N', hQ, fun t q => st p e s args below meth c T locs hx hZ hown hby X eT t (go t q)⟩
theorem Wk.move (K : Wk Z a0 ts l own nm code ml R n0 m G) {g : JFrame}
    (st : ∀ (p : Program) (e : Env) (s : State) (args : Array Value) (below : List Frame) (meth : Method) (c : Code) (T : State) (locs : List Loc), p.tables.exec = Jvm.exec → Z.Warmed39 s.vm → s.vm.findClass own = some m.cls → c.code = code → c.maxLocals = ml → meth.name = nm → Stand p l e R s m args below meth c T locs u w → T.heap = h → Fr n0 locs →
      ∃ (T1 : State) (locs1 : List Loc) (u1 w1 : Nat) (g1 : JFrame), Stand p l e R s m args below meth c T1 locs1 u1 w1 ∧ Fr n0 locs1 ∧ G T1.heap u1 w1 g1 ∧ ∀ t, Steps p.tables e below (T1.setTop g1) t → Steps p.tables e below (T.setTop g) t) : G h u w g := by
  obtain ⟨hw, p, e, s, args, below, meth, c, Q, hx, hZ, hown, hby, hml, hnm, rfl⟩ := K
  intro T locs X eT N
  obtain ⟨T1, locs1, u1, w1, g1, X1, N1, k, go1⟩ := st p e s args below meth c T locs hx hZ hown hby hml hnm X eT N
  obtain ⟨T', locs', k', n', g', X', N', hQ, go⟩ := k T1 locs1 X1 rfl N1
  exact ⟨T', locs', k', n', g', X', N', hQ, fun t q => go1 t (go t q)⟩
theorem Wk.iload (K : Wk Z a0 ts l own nm code ml R n0 m G) {i : Nat} {x : Int32} (hd : decode code pc = .ok (.iload i, 2)) (hl : L[i]? = some (.val (.int x))) (k : G h u w (mkF m (pc + 2) L (.int x :: S))) : G h u w (mkF m pc L (S)) :=
  K.pure (fun p e s args below meth c T locs hx hZ hown hby X eT t k => XS.iload X.here hx rfl (hb hby hd) hl k) k
theorem Wk.iloadN (K : Wk Z a0 ts l own nm code ml R n0 m G) {i : Fin 4} {x : Int32} (hd : decode code pc = .ok (.iload_n i, 1)) (hl : L[i.val]? = some (.val (.int x))) (k : G h u w (mkF m (pc + 1) L (.int x :: S))) : G h u w (mkF m pc L (S)) :=
  K.pure (fun p e s args below meth c T locs hx hZ hown hby X eT t k => XS.iloadN X.here hx rfl (hb hby hd) hl k) k
theorem Wk.lload (K : Wk Z a0 ts l own nm code ml R n0 m G) {i : Nat} {x : Int64} (hd : decode code pc = .ok (.lload i, 2)) (hl : L[i]? = some (.val (.long x))) (k : G h u w (mkF m (pc + 2) L (.long x :: S))) : G h u w (mkF m pc L (S)) :=
  K.pure (fun p e s args below meth c T locs hx hZ hown hby X eT t k => XS.lload X.here hx rfl (hb hby hd) hl k) k
theorem Wk.lloadN (K : Wk Z a0 ts l own nm code ml R n0 m G) {i : Fin 4} {x : Int64} (hd : decode code pc = .ok (.lload_n i, 1)) (hl : L[i.val]? = some (.val (.long x))) (k : G h u w (mkF m (pc + 1) L (.long x :: S))) : G h u w (mkF m pc L (S)) :=
  K.pure (fun p e s args below meth c T locs hx hZ hown hby X eT t k => XS.lloadN X.here hx rfl (hb hby hd) hl k) k
theorem Wk.aload (K : Wk Z a0 ts l own nm code ml R n0 m G) {i : Nat} {x : Value} (hd : decode code pc = .ok (.aload i, 2)) (hl : L[i]? = some (.val x)) (hv : x.isRef = true) (k : G h u w (mkF m (pc + 2) L (x :: S))) : G h u w (mkF m pc L (S)) :=
  K.pure (fun p e s args below meth c T locs hx hZ hown hby X eT t k => XS.aload X.here hx rfl (hb hby hd) hl hv k) k
theorem Wk.aloadN (K : Wk Z a0 ts l own nm code ml R n0 m G) {i : Fin 4} {x : Value} (hd : decode code pc = .ok (.aload_n i, 1)) (hl : L[i.val]? = some (.val x)) (hv : x.isRef = true) (k : G h u w (mkF m (pc + 1) L (x :: S))) : G h u w (mkF m pc L (S)) :=
  K.pure (fun p e s args below meth c T locs hx hZ hown hby X eT t k => XS.aloadN X.here hx rfl (hb hby hd) hl hv k) k
theorem Wk.istore (K : Wk Z a0 ts l own nm code ml R n0 m G) {i : Nat} {x : Int32} (hd : decode code pc = .ok (.istore i, 2)) (hl : storeLocals L i (.int x) = some L') (k : G h u w (mkF m (pc + 2) L' (S))) : G h u w (mkF m pc L (.int x :: S)) :=
  K.pure (fun p e s args below meth c T locs hx hZ hown hby X eT t k => XS.istore X.here hx rfl (hb hby hd) rfl hl k) k
theorem Wk.istoreN (K : Wk Z a0 ts l own nm code ml R n0 m G) {i : Fin 4} {x : Int32} (hd : decode code pc = .ok (.istore_n i, 1)) (hl : storeLocals L i.val (.int x) = some L') (k : G h u w (mkF m (pc + 1) L' (S))) : G h u w (mkF m pc L (.int x :: S)) :=
  K.pure (fun p e s args below meth c T locs hx hZ hown hby X eT t k => XS.istoreN X.here hx rfl (hb hby hd) rfl hl k) k
theorem Wk.lstore (K : Wk Z a0 ts l own nm code ml R n0 m G) {i : Nat} {x : Int64} (hd : decode code pc = .ok (.lstore i, 2)) (hl : storeLocals L i (.long x) = some L') (k : G h u w (mkF m (pc + 2) L' (S))) : G h u w (mkF m pc L (.long x :: S)) :=
  K.pure (fun p e s args below meth c T locs hx hZ hown hby X eT t k => XS.lstore X.here hx rfl (hb hby hd) rfl hl k) k
theorem Wk.lstoreN (K : Wk Z a0 ts l own nm code ml R n0 m G) {i : Fin 4} {x : Int64} (hd : decode code pc = .ok (.lstore_n i, 1)) (hl : storeLocals L i.val (.long x) = some L') (k : G h u w (mkF m (pc + 1) L' (S))) : G h u w (mkF m pc L (.long x :: S)) :=
  K.pure (fun p e s args below meth c T locs hx hZ hown hby X eT t k => XS.lstoreN X.here hx rfl (hb hby hd) rfl hl k) k
theorem Wk.astore (K : Wk Z a0 ts l own nm code ml R n0 m G) {i : Nat} {x : Value} (hd : decode code pc = .ok (.astore i, 2)) (hv : x.isRef = true) (hl : storeLocals L i x = some L') (k : G h u w (mkF m (pc + 2) L' (S))) : G h u w (mkF m pc L (x :: S)) :=
  K.pure (fun p e s args below meth c T locs hx hZ hown hby X eT t k => XS.astore X.here hx rfl (hb hby hd) rfl hv hl k) k
theorem Wk.astoreN (K : Wk Z a0 ts l own nm code ml R n0 m G) {i : Fin 4} {x : Value} (hd : decode code pc = .ok (.astore_n i, 1)) (hv : x.isRef = true) (hl : storeLocals L i.val x = some L') (k : G h u w (mkF m (pc + 1) L' (S))) : G h u w (mkF m pc L (x :: S)) :=
  K.pure (fun p e s args below meth c T locs hx hZ hown hby X eT t k => XS.astoreN X.here hx rfl (hb hby hd) rfl hv hl k) k
theorem Wk.iinc (K : Wk Z a0 ts l own nm code ml R n0 m G) {i : Nat} {cst : Int} {x y : Int32} (hd : decode code pc = .ok (.iinc i cst, 3)) (hl : L[i]? = some (.val (.int x))) (hv : x + Int32.ofInt cst = y) (hl' : storeLocals L i (.int y) = some L') (k : G h u w (mkF m (pc + 3) L' (S))) : G h u w (mkF m pc L (S)) :=
  K.pure (fun p e s args below meth c T locs hx hZ hown hby X eT t k => XS.iinc X.here hx rfl (hb hby hd) hl (by rw [hv]; exact hl') k) k
theorem Wk.iconst (K : Wk Z a0 ts l own nm code ml R n0 m G) {i : Int} {v : Int32} (hd : decode code pc = .ok (.iconst i, 1)) (hv : Int32.ofInt i = v) (k : G h u w (mkF m (pc + 1) L (.int v :: S))) : G h u w (mkF m pc L (S)) :=
  K.pure (fun p e s args below meth c T locs hx hZ hown hby X eT t k => XS.iconst X.here hx rfl (hb hby hd) (by rw [hv]; exact k)) k
theorem Wk.bipush (K : Wk Z a0 ts l own nm code ml R n0 m G) {i : Int} {v : Int32} (hd : decode code pc = .ok (.bipush i, 2)) (hv : (Int8.ofInt i).toInt32 = v) (k : G h u w (mkF m (pc + 2) L (.int v :: S))) : G h u w (mkF m pc L (S)) :=
  K.pure (fun p e s args below meth c T locs hx hZ hown hby X eT t k => XS.bipush X.here hx rfl (hb hby hd) (by rw [hv]; exact k)) k
theorem Wk.sipush (K : Wk Z a0 ts l own nm code ml R n0 m G) {i : Int} {v : Int32} (hd : decode code pc = .ok (.sipush i, 3)) (hv : (Int16.ofInt i).toInt32 = v) (k : G h u w (mkF m (pc + 3) L (.int v :: S))) : G h u w (mkF m pc L (S)) :=
  K.pure (fun p e s args below meth c T locs hx hZ hown hby X eT t k => XS.sipush X.here hx rfl (hb hby hd) (by rw [hv]; exact k)) k
theorem Wk.lconst (K : Wk Z a0 ts l own nm code ml R n0 m G) {i : Fin 2} {v : Int64} (hd : decode code pc = .ok (.lconst i, 1)) (hv : Int64.ofNat i = v) (k : G h u w (mkF m (pc + 1) L (.long v :: S))) : G h u w (mkF m pc L (S)) :=
  K.pure (fun p e s args below meth c T locs hx hZ hown hby X eT t k => XS.lconst X.here hx rfl (hb hby hd) (by rw [hv]; exact k)) k
theorem Wk.ldc (K : Wk Z a0 ts l own nm code ml R n0 m G) {i : Nat} {v : Int32} (hd : decode code pc = .ok (.ldc i, 2)) (hw : Jvm.Cond.constant own i v ∈ ts) (k : G h u w (mkF m (pc + 2) L (.int v :: S))) : G h u w (mkF m pc L (S)) :=
  K.pure (fun p e s args below meth c T locs hx hZ hown hby X eT t k => X.ldcInt hx hown (mvT hZ (K.1 _ hw)) (g := mkF m pc L S) rfl (hb hby hd) t k) k
theorem Wk.ldc2 (K : Wk Z a0 ts l own nm code ml R n0 m G) {i : Nat} {v : Int64} (hd : decode code pc = .ok (.ldc2_w i, 3)) (hw : Jvm.Cond.constantLong own i v ∈ ts) (k : G h u w (mkF m (pc + 3) L (.long v :: S))) : G h u w (mkF m pc L (S)) :=
  K.pure (fun p e s args below meth c T locs hx hZ hown hby X eT t k => X.ldc2Long hx hown (mvT hZ (K.1 _ hw)) (g := mkF m pc L S) rfl (hb hby hd) t k) k
theorem Wk.dup (K : Wk Z a0 ts l own nm code ml R n0 m G) {x : Value} (hd : decode code pc = .ok (.dup, 1)) (hc : x.category = 1) (k : G h u w (mkF m (pc + 1) L (x :: x :: S))) : G h u w (mkF m pc L (x :: S)) :=
  K.pure (fun p e s args below meth c T locs hx hZ hown hby X eT t k => XS.dup X.here hx rfl (hb hby hd) rfl hc k) k
theorem Wk.pop (K : Wk Z a0 ts l own nm code ml R n0 m G) {x : Value} (hd : decode code pc = .ok (.pop, 1)) (hc : x.category = 1) (k : G h u w (mkF m (pc + 1) L (S))) : G h u w (mkF m pc L (x :: S)) :=
  K.pure (fun p e s args below meth c T locs hx hZ hown hby X eT t k => XS.pop X.here hx rfl (hb hby hd) rfl hc k) k
theorem Wk.dupX1 (K : Wk Z a0 ts l own nm code ml R n0 m G) {x y : Value} (hd : decode code pc = .ok (.dup_x1, 1)) (hc : x.category = 1) (hc' : y.category = 1) (k : G h u w (mkF m (pc + 1) L (x :: y :: x :: S))) : G h u w (mkF m pc L (x :: y :: S)) :=
  K.pure (fun p e s args below meth c T locs hx hZ hown hby X eT t k => XS.dupX1 X.here hx rfl (hb hby hd) rfl hc hc' k) k
theorem Wk.dup2 (K : Wk Z a0 ts l own nm code ml R n0 m G) {x y : Value} (hd : decode code pc = .ok (.dup2, 1)) (hc : x.category = 1) (hc' : y.category = 1) (k : G h u w (mkF m (pc + 1) L (x :: y :: x :: y :: S))) : G h u w (mkF m pc L (x :: y :: S)) :=
  K.pure (fun p e s args below meth c T locs hx hZ hown hby X eT t k => XT.dup2 X.here hx rfl (hb hby hd) rfl hc hc' k) k
theorem Wk.iadd (K : Wk Z a0 ts l own nm code ml R n0 m G) {x y z : Int32} (hd : decode code pc = .ok (.iadd, 1)) (hv : x + y = z) (k : G h u w (mkF m (pc + 1) L (.int z :: S))) : G h u w (mkF m pc L (.int y :: .int x :: S)) :=
  K.pure (fun p e s args below meth c T locs hx hZ hown hby X eT t k => XS.iadd X.here hx rfl (hb hby hd) rfl (by rw [hv]; exact k)) k
theorem Wk.isub (K : Wk Z a0 ts l own nm code ml R n0 m G) {x y z : Int32} (hd : decode code pc = .ok (.isub, 1)) (hv : x - y = z) (k : G h u w (mkF m (pc + 1) L (.int z :: S))) : G h u w (mkF m pc L (.int y :: .int x :: S)) :=
  K.pure (fun p e s args below meth c T locs hx hZ hown hby X eT t k => XS.isub X.here hx rfl (hb hby hd) rfl (by rw [hv]; exact k)) k
theorem Wk.imul (K : Wk Z a0 ts l own nm code ml R n0 m G) {x y z : Int32} (hd : decode code pc = .ok (.imul, 1)) (hv : x * y = z) (k : G h u w (mkF m (pc + 1) L (.int z :: S))) : G h u w (mkF m pc L (.int y :: .int x :: S)) :=
  K.pure (fun p e s args below meth c T locs hx hZ hown hby X eT t k => XS.imul X.here hx rfl (hb hby hd) rfl (by rw [hv]; exact k)) k
theorem Wk.iand (K : Wk Z a0 ts l own nm code ml R n0 m G) {x y z : Int32} (hd : decode code pc = .ok (.iand, 1)) (hv : x &&& y = z) (k : G h u w (mkF m (pc + 1) L (.int z :: S))) : G h u w (mkF m pc L (.int y :: .int x :: S)) :=
  K.pure (fun p e s args below meth c T locs hx hZ hown hby X eT t k => XS.iand X.here hx rfl (hb hby hd) rfl (by rw [hv]; exact k)) k
theorem Wk.ior (K : Wk Z a0 ts l own nm code ml R n0 m G) {x y z : Int32} (hd : decode code pc = .ok (.ior, 1)) (hv : x ||| y = z) (k : G h u w (mkF m (pc + 1) L (.int z :: S))) : G h u w (mkF m pc L (.int y :: .int x :: S)) :=
  K.pure (fun p e s args below meth c T locs hx hZ hown hby X eT t k => XS.ior X.here hx rfl (hb hby hd) rfl (by rw [hv]; exact k)) k
theorem Wk.ishl (K : Wk Z a0 ts l own nm code ml R n0 m G) {x y z : Int32} (hd : decode code pc = .ok (.ishl, 1)) (hv : x <<< (y &&& 31) = z) (k : G h u w (mkF m (pc + 1) L (.int z :: S))) : G h u w (mkF m pc L (.int y :: .int x :: S)) :=
  K.pure (fun p e s args below meth c T locs hx hZ hown hby X eT t k => XS.ishl X.here hx rfl (hb hby hd) rfl (by rw [hv]; exact k)) k
theorem Wk.ishr (K : Wk Z a0 ts l own nm code ml R n0 m G) {x y z : Int32} (hd : decode code pc = .ok (.ishr, 1)) (hv : x >>> (y &&& 31) = z) (k : G h u w (mkF m (pc + 1) L (.int z :: S))) : G h u w (mkF m pc L (.int y :: .int x :: S)) :=
  K.pure (fun p e s args below meth c T locs hx hZ hown hby X eT t k => XS.ishr X.here hx rfl (hb hby hd) rfl (by rw [hv]; exact k)) k
theorem Wk.iushr (K : Wk Z a0 ts l own nm code ml R n0 m G) {x y z : Int32} (hd : decode code pc = .ok (.iushr, 1)) (hv : (x.toUInt32 >>> (y &&& 31).toUInt32).toInt32 = z) (k : G h u w (mkF m (pc + 1) L (.int z :: S))) : G h u w (mkF m pc L (.int y :: .int x :: S)) :=
  K.pure (fun p e s args below meth c T locs hx hZ hown hby X eT t k => XS.iushr X.here hx rfl (hb hby hd) rfl (by rw [hv]; exact k)) k
theorem Wk.idiv (K : Wk Z a0 ts l own nm code ml R n0 m G) {x y z : Int32} (hd : decode code pc = .ok (.idiv, 1)) (hy : y ≠ 0) (hv : x / y = z) (k : G h u w (mkF m (pc + 1) L (.int z :: S))) : G h u w (mkF m pc L (.int y :: .int x :: S)) :=
  K.pure (fun p e s args below meth c T locs hx hZ hown hby X eT t k => XS.idiv X.here hx rfl (hb hby hd) rfl hy (by rw [hv]; exact k)) k
theorem Wk.irem (K : Wk Z a0 ts l own nm code ml R n0 m G) {x y z : Int32} (hd : decode code pc = .ok (.irem, 1)) (hy : y ≠ 0) (hv : x - x / y * y = z) (k : G h u w (mkF m (pc + 1) L (.int z :: S))) : G h u w (mkF m pc L (.int y :: .int x :: S)) :=
  K.pure (fun p e s args below meth c T locs hx hZ hown hby X eT t k => XS.irem X.here hx rfl (hb hby hd) rfl hy (by rw [hv]; exact k)) k
theorem Wk.ladd (K : Wk Z a0 ts l own nm code ml R n0 m G) {x y z : Int64} (hd : decode code pc = .ok (.ladd, 1)) (hv : x + y = z) (k : G h u w (mkF m (pc + 1) L (.long z :: S))) : G h u w (mkF m pc L (.long y :: .long x :: S)) :=
  K.pure (fun p e s args below meth c T locs hx hZ hown hby X eT t k => XS.ladd X.here hx rfl (hb hby hd) rfl (by rw [hv]; exact k)) k
theorem Wk.lsub (K : Wk Z a0 ts l own nm code ml R n0 m G) {x y z : Int64} (hd : decode code pc = .ok (.lsub, 1)) (hv : x - y = z) (k : G h u w (mkF m (pc + 1) L (.long z :: S))) : G h u w (mkF m pc L (.long y :: .long x :: S)) :=
  K.pure (fun p e s args below meth c T locs hx hZ hown hby X eT t k => XS.lsub X.here hx rfl (hb hby hd) rfl (by rw [hv]; exact k)) k
theorem Wk.lmul (K : Wk Z a0 ts l own nm code ml R n0 m G) {x y z : Int64} (hd : decode code pc = .ok (.lmul, 1)) (hv : x * y = z) (k : G h u w (mkF m (pc + 1) L (.long z :: S))) : G h u w (mkF m pc L (.long y :: .long x :: S)) :=
  K.pure (fun p e s args below meth c T locs hx hZ hown hby X eT t k => XS.lmul X.here hx rfl (hb hby hd) rfl (by rw [hv]; exact k)) k
theorem Wk.land (K : Wk Z a0 ts l own nm code ml R n0 m G) {x y z : Int64} (hd : decode code pc = .ok (.land, 1)) (hv : x &&& y = z) (k : G h u w (mkF m (pc + 1) L (.long z :: S))) : G h u w (mkF m pc L (.long y :: .long x :: S)) :=
  K.pure (fun p e s args below meth c T locs hx hZ hown hby X eT t k => XS.land X.here hx rfl (hb hby hd) rfl (by rw [hv]; exact k)) k
theorem Wk.lrem (K : Wk Z a0 ts l own nm code ml R n0 m G) {x y z : Int64} (hd : decode code pc = .ok (.lrem, 1)) (hy : y ≠ 0) (hv : x - x / y * y = z) (k : G h u w (mkF m (pc + 1) L (.long z :: S))) : G h u w (mkF m pc L (.long y :: .long x :: S)) :=
  K.pure (fun p e s args below meth c T locs hx hZ hown hby X eT t k => XS.lrem X.here hx rfl (hb hby hd) rfl hy (by rw [hv]; exact k)) k
theorem Wk.i2l (K : Wk Z a0 ts l own nm code ml R n0 m G) {x : Int32} {z : Int64} (hd : decode code pc = .ok (.i2l, 1)) (hv : x.toInt64 = z) (k : G h u w (mkF m (pc + 1) L (.long z :: S))) : G h u w (mkF m pc L (.int x :: S)) :=
  K.pure (fun p e s args below meth c T locs hx hZ hown hby X eT t k => XS.i2l X.here hx rfl (hb hby hd) rfl (by rw [hv]; exact k)) k
theorem Wk.l2i (K : Wk Z a0 ts l own nm code ml R n0 m G) {x : Int64} {z : Int32} (hd : decode code pc = .ok (.l2i, 1)) (hv : x.toInt32 = z) (k : G h u w (mkF m (pc + 1) L (.int z :: S))) : G h u w (mkF m pc L (.long x :: S)) :=
  K.pure (fun p e s args below meth c T locs hx hZ hown hby X eT t k => XS.l2i X.here hx rfl (hb hby hd) rfl (by rw [hv]; exact k)) k
theorem Wk.i2b (K : Wk Z a0 ts l own nm code ml R n0 m G) {x : Int32} {z : Int32} (hd : decode code pc = .ok (.i2b, 1)) (hv : x.toInt8.toInt32 = z) (k : G h u w (mkF m (pc + 1) L (.int z :: S))) : G h u w (mkF m pc L (.int x :: S)) :=
  K.pure (fun p e s args below meth c T locs hx hZ hown hby X eT t k => XS.i2b X.here hx rfl (hb hby hd) rfl (by rw [hv]; exact k)) k
theorem Wk.i2c (K : Wk Z a0 ts l own nm code ml R n0 m G) {x : Int32} {z : Int32} (hd : decode code pc = .ok (.i2c, 1)) (hv : x.toUInt32.toUInt16.toUInt32.toInt32 = z) (k : G h u w (mkF m (pc + 1) L (.int z :: S))) : G h u w (mkF m pc L (.int x :: S)) :=
  K.pure (fun p e s args below meth c T locs hx hZ hown hby X eT t k => XS.i2c X.here hx rfl (hb hby hd) rfl (by rw [hv]; exact k)) k
theorem Wk.lcmp (K : Wk Z a0 ts l own nm code ml R n0 m G) {x y : Int64} {z : Int32} (hd : decode code pc = .ok (.lcmp, 1)) (hv : lcmpW x y = z) (k : G h u w (mkF m (pc + 1) L (.int z :: S))) : G h u w (mkF m pc L (.long y :: .long x :: S)) :=
  K.pure (fun p e s args below meth c T locs hx hZ hown hby X eT t k => XS.lcmp X.here hx rfl (hb hby hd) rfl (by subst hv; exact k)) k
theorem Wk.goto (K : Wk Z a0 ts l own nm code ml R n0 m G) {o : Int} {pc' : Nat} (hd : decode code pc = .ok (.goto o, 3)) (ho : 0 ≤ (pc : Int) + o) (hp : ((pc : Int) + o).toNat = pc') (k : G h u w (mkF m pc' L S)) : G h u w (mkF m pc L S) :=
  K.pure (fun p e s args below meth c T locs hx hZ hown hby X eT t k => XS.goto X.here hx rfl rfl (hb hby hd) ho hp k) k
theorem Wk.icmp (K : Wk Z a0 ts l own nm code ml R n0 m G) {cd : ClassFile.Cond} {x y : Int32} {o : Int} {pc' : Nat} (P : Prop) [Decidable P] (hd : decode code pc = .ok (.if_icmp cd o, 3)) (hP : if_icmp.holds cd x y = decide P) (ho : 0 ≤ (pc : Int) + o) (hp : ((pc : Int) + o).toNat = pc')
    (k1 : P → G h u w (mkF m pc' L S)) (k2 : ¬ P → G h u w (mkF m (pc + 3) L S)) : G h u w (mkF m pc L (.int y :: .int x :: S)) := by
  by_cases q : P
  · exact K.pure (fun p e s args below meth c T locs hx hZ hown hby X eT t k => XS.icmpYes X.here hx rfl rfl (hb hby hd) rfl (by rw [hP]; exact decide_eq_true q) ho hp k) (k1 q)
  · exact K.pure (fun p e s args below meth c T locs hx hZ hown hby X eT t k => XS.icmpNo X.here hx rfl (hb hby hd) rfl (by rw [hP]; exact decide_eq_false q) k) (k2 q)
theorem Wk.ifc (K : Wk Z a0 ts l own nm code ml R n0 m G) {cd : ClassFile.Cond} {x : Int32} {o : Int} {pc' : Nat} (P : Prop) [Decidable P] (hd : decode code pc = .ok (.ifCond cd o, 3)) (hP : ifCond.holds cd x = decide P) (ho : 0 ≤ (pc : Int) + o) (hp : ((pc : Int) + o).toNat = pc')
    (k1 : P → G h u w (mkF m pc' L S)) (k2 : ¬ P → G h u w (mkF m (pc + 3) L S)) : G h u w (mkF m pc L (.int x :: S)) := by
  by_cases q : P
  · exact K.pure (fun p e s args below meth c T locs hx hZ hown hby X eT t k => XS.ifYes X.here hx rfl rfl (hb hby hd) rfl (by rw [hP]; exact decide_eq_true q) ho hp k) (k1 q)
  · exact K.pure (fun p e s args below meth c T locs hx hZ hown hby X eT t k => XS.ifNo X.here hx rfl (hb hby hd) rfl (by rw [hP]; exact decide_eq_false q) k) (k2 q)
theorem Wk.ifnullNo (K : Wk Z a0 ts l own nm code ml R n0 m G) {o : Int} {b : Addr} (hd : decode code pc = .ok (.ifnull o, 3)) (k : G h u w (mkF m (pc + 3) L S)) : G h u w (mkF m pc L (.ref b :: S)) :=
  K.pure (fun p e s args below meth c T locs hx hZ hown hby X eT t k => XS.ifnullNo X.here hx rfl (hb hby hd) rfl k) k
theorem Wk.iald (K : Wk Z a0 ts l own nm code ml R n0 m G) {ar : Addr} {n i : Nat} {f : Nat → Int32} (A : Ary Z h ar .int n f) (hd : decode code pc = .ok (.iaload, 1)) (hi : i < n) (k : G h u w (mkF m (pc + 1) L (.int (f i) :: S))) : G h u w (mkF m pc L (.int (Int32.ofNat i) :: .ref ar :: S)) := by
  obtain ⟨cl, A, r1, r2, r3⟩ := A
  obtain ⟨q1, q2⟩ := ix hi r2
  refine K.pure (fun p e s args below meth c T locs hx hZ hown hby X eT t k => X.iaload hx (by rw [eT]; exact A.1) (State.isArrayOf_alike hZ.alike A.2.1) A.2.2 (fun z => z.elim q2 (fun z => by rw [q1, r1] at z; omega)) (by rw [q1]; exact r3 i hi) (g := mkF m pc L (.int (Int32.ofNat i) :: .ref ar :: S)) rfl rfl (hb hby hd) t k) k
theorem Wk.bald (K : Wk Z a0 ts l own nm code ml R n0 m G) {ar : Addr} {n i : Nat} {f : Nat → Int32} (A : Ary Z h ar .byte n f) (hd : decode code pc = .ok (.baload, 1)) (hi : i < n) (k : G h u w (mkF m (pc + 1) L (.int (f i) :: S))) : G h u w (mkF m pc L (.int (Int32.ofNat i) :: .ref ar :: S)) := by
  obtain ⟨cl, A, r1, r2, r3⟩ := A
  obtain ⟨q1, q2⟩ := ix hi r2
  refine K.pure (fun p e s args below meth c T locs hx hZ hown hby X eT t k => X.baloadBytes hx (by rw [eT]; exact A.1) (State.isArrayOf_alike hZ.alike A.2.1) A.2.2 (fun z => z.elim q2 (fun z => by rw [q1, r1] at z; omega)) (by rw [q1]; exact r3 i hi) (g := mkF m pc L (.int (Int32.ofNat i) :: .ref ar :: S)) rfl rfl (hb hby hd) t k) k
theorem Wk.zald (K : Wk Z a0 ts l own nm code ml R n0 m G) {ar : Addr} {n i : Nat} {f : Nat → Int32} (A : Ary Z h ar .boolean n f) (hd : decode code pc = .ok (.baload, 1)) (hi : i < n) (k : G h u w (mkF m (pc + 1) L (.int (f i) :: S))) : G h u w (mkF m pc L (.int (Int32.ofNat i) :: .ref ar :: S)) := by
  obtain ⟨cl, A, r1, r2, r3⟩ := A
  obtain ⟨q1, q2⟩ := ix hi r2
  refine K.pure (fun p e s args below meth c T locs hx hZ hown hby X eT t k => X.baloadBooleans hx (by rw [eT]; exact A.1) (State.isArrayOf_alike hZ.alike A.2.1) A.2.2 (fun z => z.elim q2 (fun z => by rw [q1, r1] at z; omega)) (by rw [q1]; exact r3 i hi) (g := mkF m pc L (.int (Int32.ofNat i) :: .ref ar :: S)) rfl rfl (hb hby hd) t k) k
theorem Wk.cald (K : Wk Z a0 ts l own nm code ml R n0 m G) {ar : Addr} {n i : Nat} {f : Nat → Int32} (A : Ary Z h ar .char n f) (hd : decode code pc = .ok (.caload, 1)) (hi : i < n) (k : G h u w (mkF m (pc + 1) L (.int (f i) :: S))) : G h u w (mkF m pc L (.int (Int32.ofNat i) :: .ref ar :: S)) := by
  obtain ⟨cl, A, r1, r2, r3⟩ := A
  obtain ⟨q1, q2⟩ := ix hi r2
  refine K.pure (fun p e s args below meth c T locs hx hZ hown hby X eT t k => X.caload hx (by rw [eT]; exact A.1) (State.isArrayOf_alike hZ.alike A.2.1) A.2.2 (fun z => z.elim q2 (fun z => by rw [q1, r1] at z; omega)) (by rw [q1]; exact r3 i hi) (g := mkF m pc L (.int (Int32.ofNat i) :: .ref ar :: S)) rfl rfl (hb hby hd) t k) k
theorem Wk.iast (K : Wk Z a0 ts l own nm code ml R n0 m G) {ar : Addr} {n i : Nat} {f : Nat → Int32} {x y : Int32} (A : Ary Z h ar .int n f) (hn : n0 ≤ ar) (hd : decode code pc = .ok (.iastore, 1)) (hi : i < n) (hv : x = y) (k : ∀ h', Wr h h' ar i (.int y) → Ary Z h' ar .int n (up f i y) → G h' u w (mkF m (pc + 1) L S)) : G h u w (mkF m pc L (.int x :: .int (Int32.ofNat i) :: .ref ar :: S)) := by
  have A0 := A
  obtain ⟨cl, A, r1, r2, r3⟩ := A
  obtain ⟨q1, q2⟩ := ix hi r2
  refine K.move (fun p e s args below meth c T locs hx hZ hown hby hml hnm X eT N => ?_)
  obtain ⟨T', h', X', e', W, st⟩ := stI X hx hZ eT A (j := Int32.ofNat i) (fun z => z.elim q2 (fun z => by rw [q1, r1] at z; omega)) (g := mkF m pc L (.int x :: .int (Int32.ofNat i) :: .ref ar :: S)) rfl rfl (hb hby hd)
  have W1 : Wr h h' ar i (.int y) := by rw [q1] at W; rw [← hv]; exact W
  refine ⟨T', _, u, w, _, X', Fr.snoc X' N hn, ?_, st⟩
  rw [e']
  exact k h' W1 (A0.set W1)
theorem Wk.bast (K : Wk Z a0 ts l own nm code ml R n0 m G) {ar : Addr} {n i : Nat} {f : Nat → Int32} {x y : Int32} (A : Ary Z h ar .byte n f) (hn : n0 ≤ ar) (hd : decode code pc = .ok (.bastore, 1)) (hi : i < n) (hv : nar .byte x = y) (k : ∀ h', Wr h h' ar i (.int y) → Ary Z h' ar .byte n (up f i y) → G h' u w (mkF m (pc + 1) L S)) : G h u w (mkF m pc L (.int x :: .int (Int32.ofNat i) :: .ref ar :: S)) := by
  have A0 := A
  obtain ⟨cl, A, r1, r2, r3⟩ := A
  obtain ⟨q1, q2⟩ := ix hi r2
  refine K.move (fun p e s args below meth c T locs hx hZ hown hby hml hnm X eT N => ?_)
  obtain ⟨T', h', X', e', W, st⟩ := stB X hx hZ eT A (j := Int32.ofNat i) (fun z => z.elim q2 (fun z => by rw [q1, r1] at z; omega)) (g := mkF m pc L (.int x :: .int (Int32.ofNat i) :: .ref ar :: S)) rfl rfl (hb hby hd)
  have W1 : Wr h h' ar i (.int y) := by rw [q1] at W; rw [← hv]; exact W
  refine ⟨T', _, u, w, _, X', Fr.snoc X' N hn, ?_, st⟩
  rw [e']
  exact k h' W1 (A0.set W1)
theorem Wk.zast (K : Wk Z a0 ts l own nm code ml R n0 m G) {ar : Addr} {n i : Nat} {f : Nat → Int32} {x y : Int32} (A : Ary Z h ar .boolean n f) (hn : n0 ≤ ar) (hd : decode code pc = .ok (.bastore, 1)) (hi : i < n) (hv : nar .boolean x = y) (k : ∀ h', Wr h h' ar i (.int y) → Ary Z h' ar .boolean n (up f i y) → G h' u w (mkF m (pc + 1) L S)) : G h u w (mkF m pc L (.int x :: .int (Int32.ofNat i) :: .ref ar :: S)) := by
  have A0 := A
  obtain ⟨cl, A, r1, r2, r3⟩ := A
  obtain ⟨q1, q2⟩ := ix hi r2
  refine K.move (fun p e s args below meth c T locs hx hZ hown hby hml hnm X eT N => ?_)
  obtain ⟨T', h', X', e', W, st⟩ := stZ X hx hZ eT A (j := Int32.ofNat i) (fun z => z.elim q2 (fun z => by rw [q1, r1] at z; omega)) (g := mkF m pc L (.int x :: .int (Int32.ofNat i) :: .ref ar :: S)) rfl rfl (hb hby hd)
  have W1 : Wr h h' ar i (.int y) := by rw [q1] at W; rw [← hv]; exact W
  refine ⟨T', _, u, w, _, X', Fr.snoc X' N hn, ?_, st⟩
  rw [e']
  exact k h' W1 (A0.set W1)
theorem Wk.cast (K : Wk Z a0 ts l own nm code ml R n0 m G) {ar : Addr} {n i : Nat} {f : Nat → Int32} {x y : Int32} (A : Ary Z h ar .char n f) (hn : n0 ≤ ar) (hd : decode code pc = .ok (.castore, 1)) (hi : i < n) (hv : nar .char x = y) (k : ∀ h', Wr h h' ar i (.int y) → Ary Z h' ar .char n (up f i y) → G h' u w (mkF m (pc + 1) L S)) : G h u w (mkF m pc L (.int x :: .int (Int32.ofNat i) :: .ref ar :: S)) := by
  have A0 := A
  obtain ⟨cl, A, r1, r2, r3⟩ := A
  obtain ⟨q1, q2⟩ := ix hi r2
  refine K.move (fun p e s args below meth c T locs hx hZ hown hby hml hnm X eT N => ?_)
  obtain ⟨T', h', X', e', W, st⟩ := stC X hx hZ eT A (j := Int32.ofNat i) (fun z => z.elim q2 (fun z => by rw [q1, r1] at z; omega)) (g := mkF m pc L (.int x :: .int (Int32.ofNat i) :: .ref ar :: S)) rfl rfl (hb hby hd)
  have W1 : Wr h h' ar i (.int y) := by rw [q1] at W; rw [← hv]; exact W
  refine ⟨T', _, u, w, _, X', Fr.snoc X' N hn, ?_, st⟩
  rw [e']
  exact k h' W1 (A0.set W1)
theorem Wk.alen (K : Wk Z a0 ts l own nm code ml R n0 m G) {ar : Addr} {n : Nat} {f : Nat → Int32} {ty : FieldType} (A : Ary Z h ar ty n f) (hd : decode code pc = .ok (.arraylength, 1)) (k : G h u w (mkF m (pc + 1) L (.int (Int32.ofNat n) :: S))) : G h u w (mkF m pc L (.ref ar :: S)) := by
  obtain ⟨cl, A, r1, r2, r3⟩ := A
  refine K.pure (fun p e s args below meth c T locs hx hZ hown hby X eT t k => X.arraylength hx (by rw [eT]; exact A.1) (State.isArrayOf_alike hZ.alike A.2.1) (g := mkF m pc L (.ref ar :: S)) rfl rfl (hb hby hd) t (by rw [r1]; exact k)) k
theorem Wk.newarr (K : Wk Z a0 ts l own nm code ml R n0 m G) {aty : ArrayType} {n cap : Nat} (hw : Jvm.Cond.arrayClass (newarray.typeOf aty) ∈ ts) (hz : defaultValue (newarray.typeOf aty) = .int 0) (hd : decode code pc = .ok (.newarray aty, 2)) (hn : n ≤ cap) (hcap : cap * 8 ≤ 536870912) (hc : u + 1 ≤ R.cells) (hs : w + cap ≤ R.slots)
    (k : ∀ h', Ext h h' → Ary Z h' h.size (newarray.typeOf aty) n (fun _ => 0) → G h' (u + 1) (w + cap) (mkF m (pc + 2) L (.ref h.size :: S))) : G h u w (mkF m pc L (.int (Int32.ofNat n) :: S)) := by
  obtain ⟨q1, q2⟩ := ix (i := n) (n := n + 1) (by omega) (by omega)
  refine K.move (fun p e s args below meth c T locs hx hZ hown hby hml hnm X eT N => ?_)
  obtain ⟨T', h', cA, X', e', E, A, st⟩ := newP X hx hZ (K.1 _ hw) eT (g := mkF m pc L (.int (Int32.ofNat n) :: S)) rfl (hb hby hd) rfl q2 (cap := cap) (by rw [q1]; exact hn) hcap hc hs
  refine ⟨T', locs, u + 1, w + cap, _, X', N, ?_, st⟩
  rw [e']
  refine k h' E ⟨_, A, by rw [sz_new, q1], by omega, fun i hi => ?_⟩
  simp [newA, q1, hi, hz]
theorem Wk.newobj (K : Wk Z a0 ts l own nm code ml R n0 m G) {C : String} {index n : Nat} (w1 : Jvm.Cond.classLink own index C ∈ ts) (w2 : Jvm.Cond.instantiable C n ∈ ts) (w3 : Jvm.Cond.initialized C ∈ ts) (hd : decode code pc = .ok (.new index, 3)) (hc : u + 1 ≤ R.cells) (hs : w + n ≤ R.slots)
    (k : ∀ h', Ext h h' → Exa Z h' h.size C → (∀ {O f d : String} {ty : FieldType}, Laid Z a0 C O f d → parseFieldDescriptor d = some ty → Fld Z h' h.size O f d (defaultValue ty)) → G h' (u + 1) (w + n) (mkF m (pc + 3) L (.ref h.size :: S))) : G h u w (mkF m pc L S) := by
  refine K.move (fun p e s args below meth c T locs hx hZ hown hby hml hnm X eT N => ?_)
  obtain ⟨T', h', X', e', E, A, D, -, st⟩ := newO X hx hZ hown (K.1 _ w1) (K.1 _ w2) (K.1 _ w3) eT (g := mkF m pc L S) rfl (hb hby hd) hc hs
  refine ⟨T', locs, u + 1, w + n, _, X', N, ?_, st⟩
  rw [e']
  exact k h' E A D
theorem Wk.getf (K : Wk Z a0 ts l own nm code ml R n0 m G) {C f d : String} {index : Nat} {a : Addr} {v : Value} (w1 : Jvm.Cond.fieldLink own index C f d ∈ ts) (F : Fld Z h a C f d v) (hd : decode code pc = .ok (.getfield index, 3)) (k : G h u w (mkF m (pc + 3) L (v :: S))) : G h u w (mkF m pc L (.ref a :: S)) := by
  refine K.move (fun p e s args below meth c T locs hx hZ hown hby hml hnm X eT N => ?_)
  obtain ⟨T', X', e', st⟩ := getF X hx hZ hown (host := "") (Or.inl (K.1 _ w1)) Via.refl eT F (g := mkF m pc L (.ref a :: S)) rfl rfl (hb hby hd)
  exact ⟨T', locs, u, w, _, X', N, by rw [e']; exact k, st⟩
theorem Wk.putf (K : Wk Z a0 ts l own nm code ml R n0 m G) {C f d : String} {index kk : Nat} {a : Addr} {v old : Value} {ty : FieldType} (w1 : Jvm.Cond.fieldLink own index C f d ∈ ts) (F : Fld Z h a C f d old) (E : Exa Z h a C) (hn : n0 ≤ a) (w2 : Jvm.Cond.lays C C f d ∈ ts ∨ (Jvm.Cond.laysFinal C C f d ∈ ts ∧ own = C ∧ nm = "<init>")) (w3 : Jvm.Cond.instantiable C kk ∈ ts)
    (hty : parseFieldDescriptor d = some ty) (hnr : narrow ty v = v) (hf : fits ty v = true) (hd : decode code pc = .ok (.putfield index, 3)) (k : ∀ h', Wr h h' a (Jvm.RoadKit.slotOf Z C f d) v → Fld Z h' a C f d v → Exa Z h' a C → G h' u w (mkF m (pc + 3) L S)) : G h u w (mkF m pc L (v :: .ref a :: S)) := by
  refine K.move (fun p e s args below meth c T locs hx hZ hown hby hml hnm X eT N => ?_)
  obtain ⟨T', h', X', e', W, st⟩ := putF X hx hZ hown (host := "") (Or.inl (K.1 _ w1)) Via.refl eT F E (w2.imp (K.1 _) (fun q => ⟨K.1 _ q.1, q.2.1, hnm.trans q.2.2⟩)) (K.1 _ w3) hty hnr hf (g := mkF m pc L (v :: .ref a :: S)) rfl rfl (hb hby hd)
  refine ⟨T', _, u, w, _, X', Fr.snoc X' N hn, ?_, st⟩
  rw [e']
  exact k h' W (F.same W) (E.wr W)
theorem Wk.initobj (K : Wk Z a0 ts l own nm code ml R n0 m G) {index W : Nat} {a : Addr} (w1 : Jvm.Cond.methodLink own index Lib.objectInit ∈ ts) (w2 : Jvm.Cond.instanceMethod Lib.objectInit ∈ ts) (w3 : Jvm.Cond.code Lib.objectInit ⟨#[0xb1]⟩ 1 none ∈ ts) (hd : decode code pc = .ok (.invokespecial index, 3)) (hL : L.size = ml) (hf : 1 ≤ R.frames) (hW : (S.map fun v => v.category).sum ≤ W) (hl : W + 12 ≤ R.locals)
    (k : G h u w (mkF m (pc + 3) L S)) : G h u w (mkF m pc L (.ref a :: S)) := by
  refine K.move (fun p e s args below meth c T locs hx hZ hown hby hml hnm X eT N => ?_)
  obtain ⟨T', X', e', st⟩ := initO X hx hZ hown (K.1 _ w1) (K.1 _ w2) (K.1 _ w3) eT (g := mkF m pc L (.ref a :: S)) rfl (hL.trans hml.symm) rfl (hb hby hd) hf (W := W) (by show 2 * 0 + _ ≤ _; omega) hl
  exact ⟨T', locs, u, w, _, X', N, by rw [e']; exact k, st⟩
/-- what a body's contract says here -/
def Con (Z : State) (l : Launch) (n0 : Nat) (y : MethodName) (bytes : ByteArray) (maxL : Nat) (ret : Option FieldType) (ws : List Jvm.Cond) (rm : Room) (as : Array Value) (h : Heap) (Post : Option Value → Heap → Prop) : Prop :=
  MetFree l y (head1 (Jvm.Cond.code y bytes maxL ret :: ws) rm) (fun a U => a = as ∧ Z.Warmed39 U.vm ∧ U.heap = h) (fun _ _ _ _ _ => True) (fun _ U o U' => ∃ v Lc, o = .returned v ∧ (Post v U'.heap ∧ Fr n0 Lc) ∧ FrameEnd U o U' Lc rm.cells rm.slots)
theorem Wk.callS (K : Wk Z a0 ts l own nm code ml R n0 m G) {index W maxL : Nat} {y : MethodName} {bytes : ByteArray} {ret : Option FieldType} {rm : Room} {Post : Option Value → Heap → Prop} (as rest : List Value) {ps : List FieldType} {rr : Option FieldType} (w1 : Jvm.Cond.methodLink own index y ∈ ts) (w2 : Jvm.Cond.static y ∈ ts) (w3 : Jvm.Cond.initialized y.cls ∈ ts) (w4 : Jvm.Cond.code y bytes maxL ret ∈ ts) (hy : y.cls ≠ "java/lang/invoke/MethodHandle" ∧ y.cls ≠ "java/lang/invoke/VarHandle")
    (hM : Con Z l n0 y bytes maxL ret [] rm as.toArray h Post) (hf : rm.frames + 1 ≤ R.frames) (hl : W + (maxL + 11) + rm.locals ≤ R.locals) (hp : parseMethodDescriptor y.desc = some ⟨ps, rr⟩) (hlen : as.length = ps.length) (hst : S = as.reverse ++ rest) (hW : (rest.map fun v => v.category).sum ≤ W) (hL : L.size = ml) (hd : decode code pc = .ok (.invokestatic index, 3)) (hc : u + rm.cells ≤ R.cells) (hs : w + rm.slots ≤ R.slots)
    (k : ∀ v h', Post v h' → G h' (u + rm.cells) (w + rm.slots) (mkF m (pc + 3) L (v.toList ++ rest))) : G h u w (mkF m pc L S) := by
  subst hst
  refine K.move (fun p e s args below meth c T locs hx hZ hown hby hml hnm X eT N => ?_)
  obtain ⟨v, _, ⟨T', L', k', n'⟩, -, X', ⟨Lc, hQ, hl1, hy1, hz1⟩, st⟩ := Jvm.LawKit.callS X hx (y := y) hown (mvT hZ (K.1 _ w1)) (mvT hZ (K.1 _ w2)) (mvT hZ (K.1 _ w3)) (mvT hZ (K.1 _ w4)) hy (backOf (W := W) (Q := fun v h Lc => Post v h ∧ Fr n0 Lc) hM hZ (K.1 _ w4) (K.1 _ w3) hf hl) (g := mkF m pc L (as.reverse ++ rest)) rfl (hL.trans hml.symm) (argsL := as) (rest := rest) (lenOf hp hlen) rfl (by show 2 * 0 + _ ≤ _; omega) (hb hby hd) (fun _ _ => ⟨rfl, eT, hc, hs⟩)
  dsimp only [Pt.U, Pt.locs, Pt.cells, Pt.slots] at X' hl1 hy1 hz1 st hQ
  subst hl1 hy1 hz1
  exact ⟨T', _, _, _, _, X', Fr.app N hQ.2, k v _ hQ.1, st⟩
theorem Wk.callI (K : Wk Z a0 ts l own nm code ml R n0 m G) {index W maxL : Nat} {y : MethodName} {bytes : ByteArray} {rm : Room} {Post : Option Value → Heap → Prop} {a : Addr} (as rest : List Value) {ps : List FieldType} {rr : Option FieldType} (hi : y.name = "<init>") (w1 : Jvm.Cond.methodLink own index y ∈ ts) (w2 : Jvm.Cond.instanceMethod y ∈ ts) (w3 : Jvm.Cond.initialized y.cls ∈ ts) (w4 : Jvm.Cond.code y bytes maxL none ∈ ts) (hy : y.cls ≠ "java/lang/invoke/MethodHandle" ∧ y.cls ≠ "java/lang/invoke/VarHandle")
    (hM : Con Z l n0 y bytes maxL none [] rm (.ref a :: as).toArray h Post) (hf : rm.frames + 1 ≤ R.frames) (hl : W + (maxL + 11) + rm.locals ≤ R.locals) (hp : parseMethodDescriptor y.desc = some ⟨ps, rr⟩) (hlen : as.length = ps.length) (hst : S = as.reverse ++ .ref a :: rest) (hW : (rest.map fun v => v.category).sum ≤ W) (hL : L.size = ml) (hd : decode code pc = .ok (.invokespecial index, 3)) (hc : u + rm.cells ≤ R.cells) (hs : w + rm.slots ≤ R.slots)
    (k : ∀ v h', Post v h' → G h' (u + rm.cells) (w + rm.slots) (mkF m (pc + 3) L (v.toList ++ rest))) : G h u w (mkF m pc L S) := by
  subst hst
  refine K.move (fun p e s args below meth c T locs hx hZ hown hby hml hnm X eT N => ?_)
  obtain ⟨v, _, ⟨T', L', k', n'⟩, -, X', ⟨Lc, hQ, hl1, hy1, hz1⟩, st⟩ := X.specialBack hx (y := y) hi hown (mvT hZ (K.1 _ w1)) (mvT hZ (K.1 _ w2)) (mvT hZ (K.1 _ w4)) hy (backOf (W := W) (Q := fun v h Lc => Post v h ∧ Fr n0 Lc) hM hZ (K.1 _ w4) (K.1 _ w3) hf hl) (g := mkF m pc L (as.reverse ++ .ref a :: rest)) rfl (hL.trans hml.symm) (Steps.refl _) (a := a) (argsL := as) (rest := rest) (lenOf hp hlen) rfl (by show 2 * 0 + _ ≤ _; omega) (hb hby hd) (fun _ _ => ⟨rfl, eT, hc, hs⟩)
  dsimp only [Pt.U, Pt.locs, Pt.cells, Pt.slots] at X' hl1 hy1 hz1 st hQ
  subst hl1 hy1 hz1
  exact ⟨T', _, _, _, _, X', Fr.app N hQ.2, k v _ hQ.1, fun t q => st.trans q⟩
theorem Wk.callV (K : Wk Z a0 ts l own nm code ml R n0 m G) {index W maxL : Nat} {y : MethodName} {bytes : ByteArray} {ret : Option FieldType} {rm : Room} {Post : Option Value → Heap → Prop} {a : Addr} (as rest : List Value) {ps : List FieldType} {rr : Option FieldType} (w1 : Jvm.Cond.methodLink own index y ∈ ts) (w2 : Jvm.Cond.declares y ∈ ts) (w5 : Jvm.Cond.selects y.cls y y ∈ ts) (w6 : Jvm.Cond.instanceMethod y ∈ ts) (w3 : Jvm.Cond.initialized y.cls ∈ ts) (w4 : Jvm.Cond.code y bytes maxL ret ∈ ts) (hy : y.cls ≠ "java/lang/invoke/MethodHandle" ∧ y.cls ≠ "java/lang/invoke/VarHandle") (E : Exa Z h a y.cls)
    (hM : Con Z l n0 y bytes maxL ret [] rm (.ref a :: as).toArray h Post) (hf : rm.frames + 1 ≤ R.frames) (hl : W + (maxL + 11) + rm.locals ≤ R.locals) (hp : parseMethodDescriptor y.desc = some ⟨ps, rr⟩) (hlen : as.length = ps.length) (hst : S = as.reverse ++ .ref a :: rest) (hW : (rest.map fun v => v.category).sum ≤ W) (hL : L.size = ml) (hd : decode code pc = .ok (.invokevirtual index, 3)) (hc : u + rm.cells ≤ R.cells) (hs : w + rm.slots ≤ R.slots)
    (k : ∀ v h', Post v h' → G h' (u + rm.cells) (w + rm.slots) (mkF m (pc + 3) L (v.toList ++ rest))) : G h u w (mkF m pc L S) := by
  subst hst
  refine K.move (fun p e s args below meth c T locs hx hZ hown hby hml hnm X eT N => ?_)
  obtain ⟨cq, kq, qa, qb, qc⟩ := isOf hZ eT E
  obtain ⟨v, _, ⟨T', L', k', n'⟩, -, X', ⟨Lc, hQ, hl1, hy1, hz1⟩, st⟩ := X.virtualBack hx (y := y) (z := y) hown (mvT hZ (K.1 _ w1)) (mvT hZ (K.1 _ w2)) (notFace_of_selects (args := #[]) (mvT hZ (K.1 _ w5))) (mvT hZ (K.1 _ w5)) (mvT hZ (K.1 _ w6)) hy (backOf (W := W) (Q := fun v h Lc => Post v h ∧ Fr n0 Lc) hM hZ (K.1 _ w4) (K.1 _ w3) hf hl) qa qc (g := mkF m pc L (as.reverse ++ .ref a :: rest)) rfl (hL.trans hml.symm) (Steps.refl _) (argsL := as) (rest := rest) (lenOf hp hlen) rfl (by show 2 * 0 + _ ≤ _; omega) (hb hby hd) (fun _ _ => ⟨rfl, eT, hc, hs⟩)
  dsimp only [Pt.U, Pt.locs, Pt.cells, Pt.slots] at X' hl1 hy1 hz1 st hQ
  subst hl1 hy1 hz1
  exact ⟨T', _, _, _, _, X', Fr.app N hQ.2, k v _ hQ.1, fun t q => st.trans q⟩
/-- the frame g stands at a return, with v to hand back -/
def Ret (ret : Option FieldType) (code : ByteArray) (m : MethodId) (g : JFrame) (v : Option Value) : Prop :=
  (∃ (pc : Nat) (L : Array Slot), ret = none ∧ decode code pc = .ok (.return_, 1) ∧ g = mkF m pc L [] ∧ v = none) ∨
  ∃ (pc : Nat) (L : Array Slot) (S : List Value) (x : Value) (t : FieldType) (i : Instr), ret = some t ∧ narrow t x = x ∧ ((i = .ireturn ∧ (t = .int ∨ t = .boolean ∨ t = .byte ∨ t = .char ∨ t = .short) ∧ ∃ z, x = .int z) ∨ (i = .lreturn ∧ t = .long ∧ ∃ z, x = .long z) ∨ (i = .dreturn ∧ t = .double ∧ ∃ z, x = .double z) ∨ (i = .freturn ∧ t = .float ∧ ∃ z, x = .float z) ∨ (i = .areturn ∧ t.isReference = true ∧ x.isRef = true)) ∧ decode code pc = .ok (i, 1) ∧ g = mkF m pc L (x :: S) ∧ v = some x
theorem con_of {y : MethodName} {bytes : ByteArray} {maxL : Nat} {ret : Option FieldType} {rm : Room} (ws : List Jvm.Cond) {as : Array Value} {L0 : Array Slot} {Post : Option Value → Heap → Prop} (hpn : plainFor y = true) (hw : ∀ d ∈ ts, d.before a0 Z = true) (hef : ∀ m, entryFrame m as maxL = mkF m 0 L0 [])
    (body : ∀ (m : MethodId) (G : Heap → Nat → Nat → JFrame → Prop), Wk Z a0 ts l y.cls y.name bytes maxL rm n0 m G → (∀ (h : Heap) (k n : Nat) (g : JFrame) (v : Option Value), Ret ret bytes m g v → k ≤ rm.cells → n ≤ rm.slots → Post v h → G h k n g) → G h 0 0 (mkF m 0 L0 [])) :
    Con Z l n0 y bytes maxL ret ws rm as h Post := by
  unfold Con
  refine MetFree.of_bodySF (code := bytes) (maxLocals := maxL) (ret := ret) hpn hisR ?_
  intro p e s m args below meth c s₁ Bd hml0 hP hK
  obtain ⟨rfl, hZ, hh⟩ := hP
  have hx := Bd.exec
  have hby := Bd.bytes
  have hown : s.vm.findClass y.cls = some m.cls := findClass_of_methodNamed Bd.named
  have hnm := (name_of_methodNamed Bd.named Bd.method).1
  have X0 : Stand p l e rm s m args below meth c s₁ [] 0 0 := Stand.of_body Bd
  have e0 : s₁.heap = h := by rw [← hh, Bd.state]; rfl
  obtain ⟨T', locs', k', n', g', X', N', ⟨v, hR, hk', hn', hPost⟩, go⟩ := body m (Wp p l e rm s m args below meth c n0 (fun h k n g => ∃ v, Ret ret bytes m g v ∧ k ≤ rm.cells ∧ n ≤ rm.slots ∧ Post v h))
    ⟨hw, p, e, s, args, below, meth, c, _, hx, hZ, hown, hby, hml0, hnm, rfl⟩ (fun h k n g v hR hk hn hP T locs X eT N => ⟨T, locs, k, n, g, X, N, ⟨v, hR, hk, hn, by rw [eT]; exact hP⟩, fun t q => q⟩) s₁ [] X0 e0 (Fr.nil n0)
  have hv : meth.sig.returnType = none → v = none := by
    intro q
    rcases hR with ⟨pc, L, r1, r2, r3, r4⟩ | ⟨pc, L, S, x, t, i, r1, -⟩
    · exact r4
    · rw [Bd.returns, r1] at q; cases q
  obtain ⟨fs, hr, hrun, hended, hW, hsame⟩ := X'.leave (v := v) hv
  refine ⟨_, _, castTop (hef m) (go _ ?_), hrun, hended, _, _, rfl, ⟨hPost, N'⟩, ⟨_, rfl⟩, hW, hsame.mono hk' hn'⟩
  rcases hR with ⟨pc, L, r1, r2, rfl, rfl⟩ | ⟨pc, L, S, x, t, i, r1, r2, r3, r4, rfl, rfl⟩
  · exact X'.returnOut hx (Bd.returns.trans r1) (hb hby r2) hr
  · exact retOut X' hx (Bd.returns.trans r1) r2 r3 (hb hby r4) hr
end Laws
theorem Ret.v {code : ByteArray} {m : MethodId} {pc : Nat} {L : Array Slot} (hd : decode code pc = .ok (.return_, 1)) : Ret none code m (mkF m pc L []) none := Or.inl ⟨pc, L, rfl, hd, rfl, rfl⟩
theorem Ret.i {code : ByteArray} {m : MethodId} {pc : Nat} {L : Array Slot} {S : List Value} {z : Int32} (hd : decode code pc = .ok (.ireturn, 1)) : Ret (some .int) code m (mkF m pc L (.int z :: S)) (some (.int z)) := Or.inr ⟨pc, L, S, _, .int, .ireturn, rfl, rfl, Or.inl ⟨rfl, Or.inl rfl, z, rfl⟩, hd, rfl, rfl⟩
theorem Ret.z {code : ByteArray} {m : MethodId} {pc : Nat} {L : Array Slot} {S : List Value} {z : Int32} (hd : decode code pc = .ok (.ireturn, 1)) (hz : z = 0 ∨ z = 1) : Ret (some .boolean) code m (mkF m pc L (.int z :: S)) (some (.int z)) := Or.inr ⟨pc, L, S, _, .boolean, .ireturn, rfl, by rcases hz with rfl | rfl <;> rfl, Or.inl ⟨rfl, Or.inr (Or.inl rfl), z, rfl⟩, hd, rfl, rfl⟩
theorem Ret.l {code : ByteArray} {m : MethodId} {pc : Nat} {L : Array Slot} {S : List Value} {z : Int64} (hd : decode code pc = .ok (.lreturn, 1)) : Ret (some .long) code m (mkF m pc L (.long z :: S)) (some (.long z)) := Or.inr ⟨pc, L, S, _, .long, .lreturn, rfl, rfl, Or.inr (Or.inl ⟨rfl, rfl, z, rfl⟩), hd, rfl, rfl⟩
theorem Ret.a {code : ByteArray} {m : MethodId} {pc : Nat} {L : Array Slot} {S : List Value} {z : Addr} {t : FieldType} (ht : t.isReference = true) (hd : decode code pc = .ok (.areturn, 1)) : Ret (some t) code m (mkF m pc L (.ref z :: S)) (some (.ref z)) := Or.inr ⟨pc, L, S, _, t, .areturn, rfl, (by cases t <;> first | rfl | (cases ht)), Or.inr (Or.inr (Or.inr (Or.inr ⟨rfl, ht, rfl⟩))), hd, rfl, rfl⟩
theorem h_lt (x y : Int32) : if_icmp.holds .lt x y = decide (x.toInt < y.toInt) := by simp [if_icmp.holds, Int32.lt_iff_toInt_lt]
theorem h_ge (x y : Int32) : if_icmp.holds .ge x y = decide (y.toInt ≤ x.toInt) := by simp [if_icmp.holds, Int32.le_iff_toInt_le]
theorem h_gt (x y : Int32) : if_icmp.holds .gt x y = decide (y.toInt < x.toInt) := by simp [if_icmp.holds, Int32.lt_iff_toInt_lt]
theorem h_le (x y : Int32) : if_icmp.holds .le x y = decide (x.toInt ≤ y.toInt) := by simp [if_icmp.holds, Int32.le_iff_toInt_le]
theorem h_eq (x y : Int32) : if_icmp.holds .eq x y = decide (x.toInt = y.toInt) := by
  by_cases q : x = y <;> simp [if_icmp.holds, Int32.toInt_inj, q]
theorem h_ne (x y : Int32) : if_icmp.holds .ne x y = decide (¬ x.toInt = y.toInt) := by
  by_cases q : x = y <;> simp [if_icmp.holds, Int32.toInt_inj, q]
theorem hk_lt {x y : Int32} {p q : Int} (ex : x.toInt = p) (ey : y.toInt = q) : if_icmp.holds .lt x y = decide (p < q) := by subst ex ey; exact h_lt x y
theorem hk_ge {x y : Int32} {p q : Int} (ex : x.toInt = p) (ey : y.toInt = q) : if_icmp.holds .ge x y = decide (q ≤ p) := by subst ex ey; exact h_ge x y
theorem hk_gt {x y : Int32} {p q : Int} (ex : x.toInt = p) (ey : y.toInt = q) : if_icmp.holds .gt x y = decide (q < p) := by subst ex ey; exact h_gt x y
theorem hk_le {x y : Int32} {p q : Int} (ex : x.toInt = p) (ey : y.toInt = q) : if_icmp.holds .le x y = decide (p ≤ q) := by subst ex ey; exact h_le x y
theorem hk_eq {x y : Int32} {p q : Int} (ex : x.toInt = p) (ey : y.toInt = q) : if_icmp.holds .eq x y = decide (p = q) := by subst ex ey; exact h_eq x y
theorem hk_ne {x y : Int32} {p q : Int} (ex : x.toInt = p) (ey : y.toInt = q) : if_icmp.holds .ne x y = decide (¬ p = q) := by subst ex ey; exact h_ne x y
theorem z_lt (x : Int32) : ifCond.holds .lt x = decide (x.toInt < 0) := by simp [ifCond.holds, Int32.lt_iff_toInt_lt]
theorem z_ge (x : Int32) : ifCond.holds .ge x = decide (0 ≤ x.toInt) := by simp [ifCond.holds, Int32.le_iff_toInt_le]
theorem z_gt (x : Int32) : ifCond.holds .gt x = decide (0 < x.toInt) := by simp [ifCond.holds, Int32.lt_iff_toInt_lt]
theorem z_le (x : Int32) : ifCond.holds .le x = decide (x.toInt ≤ 0) := by simp [ifCond.holds, Int32.le_iff_toInt_le]
theorem z_eq (x : Int32) : ifCond.holds .eq x = decide (x.toInt = 0) := by
  have e : x.toInt = 0 ↔ x = 0 := by rw [← Int32.toInt_zero, Int32.toInt_inj]
  by_cases q : x = 0 <;> simp [ifCond.holds, e, q]
theorem z_ne (x : Int32) : ifCond.holds .ne x = decide (¬ x.toInt = 0) := by
  have e : x.toInt = 0 ↔ x = 0 := by rw [← Int32.toInt_zero, Int32.toInt_inj]
  by_cases q : x = 0 <;> simp [ifCond.holds, e, q]
theorem oInt {a : Nat} (ha : a < 2147483648) : (Int32.ofNat a).toInt = (a : Int) := Int32.toInt_ofNat_small (by omega)
theorem oAdd (a b : Nat) : Int32.ofNat a + Int32.ofNat b = Int32.ofNat (a + b) := (Int32.ofNat_add a b).symm
theorem oMul (a b : Nat) : Int32.ofNat a * Int32.ofNat b = Int32.ofNat (a * b) := (Int32.ofNat_mul a b).symm
theorem oSub {a b : Nat} (h : b ≤ a) : Int32.ofNat a - Int32.ofNat b = Int32.ofNat (a - b) := by
  obtain ⟨c, rfl⟩ := Nat.exists_eq_add_of_le h
  rw [Nat.add_sub_cancel_left, Int32.ofNat_add, Int32.add_comm, Int32.add_sub_cancel]
theorem oInc (a : Nat) : Int32.ofNat a + Int32.ofInt 1 = Int32.ofNat (a + 1) := (Int32.ofNat_add a 1).symm
theorem oInj {a b : Nat} (ha : a < 2147483648) (hb : b < 2147483648) : Int32.ofNat a = Int32.ofNat b ↔ a = b := by
  rw [← Int32.toInt_inj, oInt ha, oInt hb]; omega
theorem oDiv {a b : Nat} (ha : a < 2147483648) (hb : b < 2147483648) : Int32.ofNat a / Int32.ofNat b = Int32.ofNat (a / b) := by
  rw [← Int32.toInt_inj, Int32.toInt_div_of_ne_left _ _ (by rw [ne_eq, ← Int32.toInt_inj, oInt ha]; show ¬ (a : Int) = -2147483648; omega), oInt ha, oInt hb, oInt (Nat.lt_of_le_of_lt (Nat.div_le_self a b) ha)]
  exact (Int.ofNat_tdiv a b).symm
theorem oMod {a b : Nat} (ha : a < 2147483648) (hb : b < 2147483648) : Int32.ofNat a - Int32.ofNat a / Int32.ofNat b * Int32.ofNat b = Int32.ofNat (a % b) := by
  rw [oDiv ha hb, oMul, oSub (Nat.div_mul_le_self a b)]
  congr 1
  have := Nat.mod_add_div a b
  rw [Nat.mul_comm] at this
  omega
theorem n_lt {a b : Nat} (ha : a < 2147483648) (hb : b < 2147483648) : if_icmp.holds .lt (Int32.ofNat a) (Int32.ofNat b) = decide (a < b) := by rw [hk_lt (oInt ha) (oInt hb)]; simp
theorem n_ge {a b : Nat} (ha : a < 2147483648) (hb : b < 2147483648) : if_icmp.holds .ge (Int32.ofNat a) (Int32.ofNat b) = decide (b ≤ a) := by rw [hk_ge (oInt ha) (oInt hb)]; simp
theorem n_gt {a b : Nat} (ha : a < 2147483648) (hb : b < 2147483648) : if_icmp.holds .gt (Int32.ofNat a) (Int32.ofNat b) = decide (b < a) := by rw [hk_gt (oInt ha) (oInt hb)]; simp
theorem n_le {a b : Nat} (ha : a < 2147483648) (hb : b < 2147483648) : if_icmp.holds .le (Int32.ofNat a) (Int32.ofNat b) = decide (a ≤ b) := by rw [hk_le (oInt ha) (oInt hb)]; simp
theorem n_eq {a b : Nat} (ha : a < 2147483648) (hb : b < 2147483648) : if_icmp.holds .eq (Int32.ofNat a) (Int32.ofNat b) = decide (a = b) := by rw [hk_eq (oInt ha) (oInt hb)]; congr 1; apply propext; omega
theorem n_ne {a b : Nat} (ha : a < 2147483648) (hb : b < 2147483648) : if_icmp.holds .ne (Int32.ofNat a) (Int32.ofNat b) = decide (¬ a = b) := by rw [hk_ne (oInt ha) (oInt hb)]; congr 1; apply propext; omega
theorem nz_eq {a : Nat} (ha : a < 2147483648) : ifCond.holds .eq (Int32.ofNat a) = decide (a = 0) := by rw [z_eq, oInt ha]; congr 1; apply propext; omega
theorem nz_ne {a : Nat} (ha : a < 2147483648) : ifCond.holds .ne (Int32.ofNat a) = decide (¬ a = 0) := by rw [z_ne, oInt ha]; congr 1; apply propext; omega
theorem nz_lt {a : Nat} (ha : a < 2147483648) : ifCond.holds .lt (Int32.ofNat a) = decide False := by rw [z_lt, oInt ha]; congr 1; apply propext; simp
theorem nz_ge {a : Nat} (ha : a < 2147483648) : ifCond.holds .ge (Int32.ofNat a) = decide True := by rw [z_ge, oInt ha]; congr 1; apply propext; simp
theorem nz_gt {a : Nat} (ha : a < 2147483648) : ifCond.holds .gt (Int32.ofNat a) = decide (0 < a) := by rw [z_gt, oInt ha]; congr 1; apply propext; omega
theorem nz_le {a : Nat} (ha : a < 2147483648) : ifCond.holds .le (Int32.ofNat a) = decide (a = 0) := by rw [z_le, oInt ha]; congr 1; apply propext; omega
end Jvm.Own
namespace Jvm.Pilot.@@N@@
open Jvm Jvm.ClassFile Sem Op Lib Jvm.Free Jvm.Stand Jvm.LawKit Jvm.RoadKit Bundle Jvm.Own Jvm.Pilot.@@N@@.Jvm.D
def own_res (F : Nat → Int32) (i : Nat) : Int32 := (((((F i) <<< ((Int32.ofNat 24) &&& 31)) ||| (((F (i + 1)) &&& (Int32.ofNat 255)) <<< ((Int32.ofNat 16) &&& 31))) ||| (((F (i + 2)) &&& (Int32.ofNat 255)) <<< ((Int32.ofNat 8) &&& 31))) ||| ((F (i + 3)) &&& (Int32.ofNat 255)))
theorem own_byte (x : Int32) : nar .byte (x.toInt8.toInt32) = x.toInt8.toInt32 := by
  show (x.toInt8.toInt32).toInt8.toInt32 = _
  rw [Int8.toInt8_toInt32]
theorem own_mod (x m : Int32) (k : Nat) (hm : m.toInt = (k : Int)) (hk : 0 < k) (hk2 : k < 2147483648) : ∃ o, o < k ∧ (x &&& Int32.ofNat 2147483647) - (x &&& Int32.ofNat 2147483647) / m * m = Int32.ofNat o := by
  have e1 : (x &&& Int32.ofNat 2147483647).toInt = x.toInt % 2 ^ 31 := Jvm.Kit.i32_mask x _ (k := 31) (by decide) (by decide)
  have e2 := Jvm.LawKit.rem_toInt (x &&& Int32.ofNat 2147483647) m
  rw [e1, hm, Int.tmod_eq_emod_of_nonneg (by omega)] at e2
  have h1 : 0 ≤ x.toInt % 2 ^ 31 % (k : Int) := Int.emod_nonneg _ (by omega)
  have h2 : x.toInt % 2 ^ 31 % (k : Int) < k := Int.emod_lt_of_pos _ (by omega)
  refine ⟨(x.toInt % 2 ^ 31 % (k : Int)).toNat, by omega, ?_⟩
  rw [← Int32.toInt_inj, e2, oInt (by omega)]
  omega
/-- what place o to o + 3 hold once the four bytes are laid -/
theorem own_read (F : Nat → Int32) (x0 x1 x2 x3 : Int32) (o : Nat) : own_res (up (up (up (up F o x0) (o + 1) x1) (o + 2) x2) (o + 3) x3) o = (((x0 <<< ((Int32.ofNat 24) &&& 31)) ||| ((x1 &&& (Int32.ofNat 255)) <<< ((Int32.ofNat 16) &&& 31))) ||| ((x2 &&& (Int32.ofNat 255)) <<< ((Int32.ofNat 8) &&& 31))) ||| (x3 &&& (Int32.ofNat 255)) := by
  have q3 : up (up (up (up F o x0) (o + 1) x1) (o + 2) x2) (o + 3) x3 (o + 3) = x3 := up_same
  have q2 : up (up (up (up F o x0) (o + 1) x1) (o + 2) x2) (o + 3) x3 (o + 2) = x2 := by rw [up_ne (by omega), up_same]
  have q1 : up (up (up (up F o x0) (o + 1) x1) (o + 2) x2) (o + 3) x3 (o + 1) = x1 := by rw [up_ne (by omega), up_ne (by omega), up_same]
  have q0 : up (up (up (up F o x0) (o + 1) x1) (o + 2) x2) (o + 3) x3 o = x0 := by rw [up_ne (by omega), up_ne (by omega), up_ne (by omega), up_same]
  unfold own_res
  rw [q0, q1, q2, q3]
theorem own_low (x : Int32) : (x.toInt8.toInt32).toBitVec.toNat % 256 = x.toBitVec.toNat % 256 := by
  have q0 : (x.toInt8.toInt32).toBitVec = (x.toBitVec.setWidth 8).signExtend 32 := by rw [Int8.toBitVec_toInt32, Int32.toBitVec_toInt8, BitVec.signExtend_eq_setWidth_of_le x.toBitVec (v := 8) (by decide)]
  rw [q0, BitVec.toNat_signExtend]
  have q : ((x.toBitVec.setWidth 8).setWidth 32).toNat = x.toBitVec.toNat % 256 := by simp [BitVec.toNat_setWidth]; omega
  rw [q]
  split <;> omega
theorem own_mask (x : Int32) : (x &&& Int32.ofNat 255).toBitVec.toNat = x.toBitVec.toNat % 256 := by
  rw [Int32.toBitVec_and, BitVec.toNat_and]
  show _ &&& 255 = _
  exact Nat.and_two_pow_sub_one_eq_mod _ 8
theorem own_lor (A B : Nat) (k : Nat) (hB : B < 2 ^ k) : (A * 2 ^ k) ||| B = A * 2 ^ k + B := by
  rw [← Nat.shiftLeft_eq, Nat.shiftLeft_add_eq_or_of_lt hB]
theorem own_shl (x : Int32) (j k : Nat) (hj : (Int32.ofNat j &&& 31 : Int32) = Int32.ofNat j) (e : ((Int32.ofNat j).toBitVec.smod 32).toNat = k) : (x <<< (Int32.ofNat j &&& 31)).toBitVec.toNat = x.toBitVec.toNat * 2 ^ k % 2 ^ 32 := by
  rw [hj]
  show (x.toBitVec <<< ((Int32.ofNat j).toBitVec.smod 32)).toNat = _
  rw [BitVec.shiftLeft_eq', e, BitVec.toNat_shiftLeft, Nat.shiftLeft_eq]
theorem own_join (p0 p1 p2 p3 : Int32) : ((((p0.toInt8.toInt32) <<< ((Int32.ofNat 24) &&& 31)) ||| (((p1.toInt8.toInt32) &&& (Int32.ofNat 255)) <<< ((Int32.ofNat 16) &&& 31))) ||| (((p2.toInt8.toInt32) &&& (Int32.ofNat 255)) <<< ((Int32.ofNat 8) &&& 31))) ||| ((p3.toInt8.toInt32) &&& (Int32.ofNat 255)) = (((((((p0 &&& (Int32.ofNat 255)).toInt64) * (16777216 : Int64)) + (((p1 &&& (Int32.ofNat 255)).toInt64) * (65536 : Int64))) + (((p2 &&& (Int32.ofNat 255)).toInt64) * (256 : Int64))) + ((p3 &&& (Int32.ofNat 255)).toInt64)).toInt32) := by
  obtain ⟨n0, h0, m0⟩ : ∃ n, n < 256 ∧ p0.toBitVec.toNat % 256 = n := ⟨_, Nat.mod_lt _ (by decide), rfl⟩
  obtain ⟨n1, h1, m1⟩ : ∃ n, n < 256 ∧ p1.toBitVec.toNat % 256 = n := ⟨_, Nat.mod_lt _ (by decide), rfl⟩
  obtain ⟨n2, h2, m2⟩ : ∃ n, n < 256 ∧ p2.toBitVec.toNat % 256 = n := ⟨_, Nat.mod_lt _ (by decide), rfl⟩
  obtain ⟨n3, h3, m3⟩ : ∃ n, n < 256 ∧ p3.toBitVec.toNat % 256 = n := ⟨_, Nat.mod_lt _ (by decide), rfl⟩
  have a0 : (p0.toInt8.toInt32 <<< ((Int32.ofNat 24) &&& 31)).toBitVec.toNat = n0 * 2 ^ 24 := by
    rw [own_shl _ 24 24 (by decide) (by decide)]
    have := own_low p0
    omega
  have a1 : ((p1.toInt8.toInt32 &&& Int32.ofNat 255) <<< ((Int32.ofNat 16) &&& 31)).toBitVec.toNat = n1 * 2 ^ 16 := by
    rw [own_shl _ 16 16 (by decide) (by decide), own_mask, own_low, m1]
    omega
  have a2 : ((p2.toInt8.toInt32 &&& Int32.ofNat 255) <<< ((Int32.ofNat 8) &&& 31)).toBitVec.toNat = n2 * 2 ^ 8 := by
    rw [own_shl _ 8 8 (by decide) (by decide), own_mask, own_low, m2]
    omega
  have a3 : (p3.toInt8.toInt32 &&& Int32.ofNat 255).toBitVec.toNat = n3 := by rw [own_mask, own_low, m3]
  have z0 : (p0 &&& Int32.ofNat 255).toInt = (n0 : Int) := by
    show (p0 &&& Int32.ofNat 255).toBitVec.toInt = _
    rw [BitVec.toInt_eq_toNat_of_lt (by rw [own_mask]; omega), own_mask, m0]
  have z1 : (p1 &&& Int32.ofNat 255).toInt = (n1 : Int) := by
    show (p1 &&& Int32.ofNat 255).toBitVec.toInt = _
    rw [BitVec.toInt_eq_toNat_of_lt (by rw [own_mask]; omega), own_mask, m1]
  have z2 : (p2 &&& Int32.ofNat 255).toInt = (n2 : Int) := by
    show (p2 &&& Int32.ofNat 255).toBitVec.toInt = _
    rw [BitVec.toInt_eq_toNat_of_lt (by rw [own_mask]; omega), own_mask, m2]
  have z3 : (p3 &&& Int32.ofNat 255).toInt = (n3 : Int) := by
    show (p3 &&& Int32.ofNat 255).toBitVec.toInt = _
    rw [BitVec.toInt_eq_toNat_of_lt (by rw [own_mask]; omega), own_mask, m3]
  have c0 : (16777216 : Int64).toInt = 16777216 := rfl
  have c1 : (65536 : Int64).toInt = 65536 := rfl
  have c2 : (256 : Int64).toInt = 256 := rfl
  have w0 : ((p0 &&& (Int32.ofNat 255)).toInt64 * (16777216 : Int64)).toInt = (n0 : Int) * 16777216 := by
    rw [Jvm.Kit.i64_mul (by rw [Jvm.Kit.i64_of_i32, z0, c0]; omega) (by rw [Jvm.Kit.i64_of_i32, z0, c0]; omega), Jvm.Kit.i64_of_i32, z0, c0]
  have w1 : ((p1 &&& (Int32.ofNat 255)).toInt64 * (65536 : Int64)).toInt = (n1 : Int) * 65536 := by
    rw [Jvm.Kit.i64_mul (by rw [Jvm.Kit.i64_of_i32, z1, c1]; omega) (by rw [Jvm.Kit.i64_of_i32, z1, c1]; omega), Jvm.Kit.i64_of_i32, z1, c1]
  have w2 : ((p2 &&& (Int32.ofNat 255)).toInt64 * (256 : Int64)).toInt = (n2 : Int) * 256 := by
    rw [Jvm.Kit.i64_mul (by rw [Jvm.Kit.i64_of_i32, z2, c2]; omega) (by rw [Jvm.Kit.i64_of_i32, z2, c2]; omega), Jvm.Kit.i64_of_i32, z2, c2]
  have w3 : ((p3 &&& (Int32.ofNat 255)).toInt64).toInt = (n3 : Int) := by rw [Jvm.Kit.i64_of_i32, z3]
  generalize ((p0 &&& (Int32.ofNat 255)).toInt64 * (16777216 : Int64)) = v0 at *
  generalize ((p1 &&& (Int32.ofNat 255)).toInt64 * (65536 : Int64)) = v1 at *
  generalize ((p2 &&& (Int32.ofNat 255)).toInt64 * (256 : Int64)) = v2 at *
  generalize ((p3 &&& (Int32.ofNat 255)).toInt64) = v3 at *
  have s1 : (v0 + v1).toInt = (n0 : Int) * 16777216 + n1 * 65536 := by rw [Jvm.Kit.i64_add (by omega) (by omega), w0, w1]
  have s2 : (v0 + v1 + v2).toInt = (n0 : Int) * 16777216 + n1 * 65536 + n2 * 256 := by rw [Jvm.Kit.i64_add (by omega) (by omega), s1, w2]
  have s3 : (v0 + v1 + v2 + v3).toInt = (n0 : Int) * 16777216 + n1 * 65536 + n2 * 256 + n3 := by rw [Jvm.Kit.i64_add (by omega) (by omega), s2, w3]
  rw [← Int32.toInt_inj, Int64.toInt_toInt32, s3]
  have lhs : ((((p0.toInt8.toInt32) <<< ((Int32.ofNat 24) &&& 31)) ||| (((p1.toInt8.toInt32) &&& (Int32.ofNat 255)) <<< ((Int32.ofNat 16) &&& 31))) ||| (((p2.toInt8.toInt32) &&& (Int32.ofNat 255)) <<< ((Int32.ofNat 8) &&& 31)) ||| ((p3.toInt8.toInt32) &&& (Int32.ofNat 255))).toBitVec.toNat = n0 * 16777216 + n1 * 65536 + n2 * 256 + n3 := by
    rw [Int32.toBitVec_or, Int32.toBitVec_or, Int32.toBitVec_or, BitVec.toNat_or, BitVec.toNat_or, BitVec.toNat_or, a0, a1, a2, a3]
    have e1 : n0 * 2 ^ 24 ||| n1 * 2 ^ 16 = (n0 * 256 + n1) * 2 ^ 16 := by rw [own_lor _ _ 24 (by omega)]; omega
    have e2 : (n0 * 256 + n1) * 2 ^ 16 ||| n2 * 2 ^ 8 = ((n0 * 256 + n1) * 256 + n2) * 2 ^ 8 := by rw [own_lor _ _ 16 (by omega)]; omega
    rw [e1, e2, own_lor _ _ 8 (by omega)]
    omega
  show BitVec.toInt _ = _
  rw [BitVec.toInt_eq_toNat_bmod, lhs]
  congr 1
theorem d1_0 : decode prog_2_method_3_code 0 = .ok (.aload_n 0, 1) := by decide +kernel
theorem d1_1 : decode prog_2_method_3_code 1 = .ok (.iload_n 1, 1) := by decide +kernel
theorem d1_2 : decode prog_2_method_3_code 2 = .ok (.baload, 1) := by decide +kernel
theorem d1_3 : decode prog_2_method_3_code 3 = .ok (.bipush 24, 2) := by decide +kernel
theorem d1_5 : decode prog_2_method_3_code 5 = .ok (.ishl, 1) := by decide +kernel
theorem d1_6 : decode prog_2_method_3_code 6 = .ok (.aload_n 0, 1) := by decide +kernel
theorem d1_7 : decode prog_2_method_3_code 7 = .ok (.iload_n 1, 1) := by decide +kernel
theorem d1_8 : decode prog_2_method_3_code 8 = .ok (.iconst 1, 1) := by decide +kernel
theorem d1_9 : decode prog_2_method_3_code 9 = .ok (.iadd, 1) := by decide +kernel
theorem d1_10 : decode prog_2_method_3_code 10 = .ok (.baload, 1) := by decide +kernel
theorem d1_11 : decode prog_2_method_3_code 11 = .ok (.sipush 255, 3) := by decide +kernel
theorem d1_14 : decode prog_2_method_3_code 14 = .ok (.iand, 1) := by decide +kernel
theorem d1_15 : decode prog_2_method_3_code 15 = .ok (.bipush 16, 2) := by decide +kernel
theorem d1_17 : decode prog_2_method_3_code 17 = .ok (.ishl, 1) := by decide +kernel
theorem d1_18 : decode prog_2_method_3_code 18 = .ok (.ior, 1) := by decide +kernel
theorem d1_19 : decode prog_2_method_3_code 19 = .ok (.aload_n 0, 1) := by decide +kernel
theorem d1_20 : decode prog_2_method_3_code 20 = .ok (.iload_n 1, 1) := by decide +kernel
theorem d1_21 : decode prog_2_method_3_code 21 = .ok (.iconst 2, 1) := by decide +kernel
theorem d1_22 : decode prog_2_method_3_code 22 = .ok (.iadd, 1) := by decide +kernel
theorem d1_23 : decode prog_2_method_3_code 23 = .ok (.baload, 1) := by decide +kernel
theorem d1_24 : decode prog_2_method_3_code 24 = .ok (.sipush 255, 3) := by decide +kernel
theorem d1_27 : decode prog_2_method_3_code 27 = .ok (.iand, 1) := by decide +kernel
theorem d1_28 : decode prog_2_method_3_code 28 = .ok (.bipush 8, 2) := by decide +kernel
theorem d1_30 : decode prog_2_method_3_code 30 = .ok (.ishl, 1) := by decide +kernel
theorem d1_31 : decode prog_2_method_3_code 31 = .ok (.ior, 1) := by decide +kernel
theorem d1_32 : decode prog_2_method_3_code 32 = .ok (.aload_n 0, 1) := by decide +kernel
theorem d1_33 : decode prog_2_method_3_code 33 = .ok (.iload_n 1, 1) := by decide +kernel
theorem d1_34 : decode prog_2_method_3_code 34 = .ok (.iconst 3, 1) := by decide +kernel
theorem d1_35 : decode prog_2_method_3_code 35 = .ok (.iadd, 1) := by decide +kernel
theorem d1_36 : decode prog_2_method_3_code 36 = .ok (.baload, 1) := by decide +kernel
theorem d1_37 : decode prog_2_method_3_code 37 = .ok (.sipush 255, 3) := by decide +kernel
theorem d1_40 : decode prog_2_method_3_code 40 = .ok (.iand, 1) := by decide +kernel
theorem d1_41 : decode prog_2_method_3_code 41 = .ok (.ior, 1) := by decide +kernel
theorem d1_42 : decode prog_2_method_3_code 42 = .ok (.ireturn, 1) := by decide +kernel
theorem pn_1 : plainName "com/example/namespaced_state_store/namespacedstatestore/BigEndian" = true := by first | (simp [plainName, overriddenIn]; done) | decide +kernel
theorem ef_1 (m : MethodId) (r0 : Addr) (p1 : Int32) : entryFrame m #[(.ref r0), (.int p1)] 2 = mkF m 0 #[.val (.ref r0), .val (.int p1)] [] := by first | (simp [entryFrame, mkF, argsToLocals, Value.category, maxLocals]; done) | rfl
set_option maxRecDepth 65536 in
set_option maxHeartbeats 40000000 in
theorem rm1 (l : Launch) (Z : State) (a0 : Array Value) (hw : ∀ d ∈ tables_1, d.before a0 Z = true) (ws : List Jvm.Cond) (r0 : Addr) (i n : Nat) (f_r0 : Nat → Int32) (h : Heap) (n0 : Nat) (A_r0 : Ary Z h r0 .byte n f_r0) (hi : i + 3 < n) :
    Con Z l n0 ⟨"com/example/namespaced_state_store/namespacedstatestore/BigEndian", "getInt", "([BI)I"⟩ prog_2_method_3_code 2 (some .int) ws { frames := 0, cells := 0, slots := 0, locals := 0 } #[.ref r0, .int (Int32.ofNat i)] h (fun v h' => v = some (.int (own_res f_r0 i)) ∧ h' = h) := by
  refine con_of ws (plainFor_of_name pn_1) hw (fun m => ef_1 m r0 (Int32.ofNat i)) (fun m G K hret => ?_)
  refine K.aloadN d1_0 rfl rfl ?_
  refine K.iloadN d1_1 rfl ?_
  refine K.bald (i := i) A_r0 d1_2 (by omega) ?_
  refine K.bipush (v := (Int32.ofNat 24)) d1_3 rfl ?_
  refine K.ishl (z := ((f_r0 i) <<< ((Int32.ofNat 24) &&& 31))) d1_5 rfl ?_
  refine K.aloadN d1_6 rfl rfl ?_
  refine K.iloadN d1_7 rfl ?_
  refine K.iconst (v := (Int32.ofNat 1)) d1_8 rfl ?_
  refine K.iadd (z := (Int32.ofNat (i + 1))) d1_9 (oAdd _ _) ?_
  refine K.bald (i := (i + 1)) A_r0 d1_10 (by omega) ?_
  refine K.sipush (v := (Int32.ofNat 255)) d1_11 rfl ?_
  refine K.iand (z := ((f_r0 (i + 1)) &&& (Int32.ofNat 255))) d1_14 rfl ?_
  refine K.bipush (v := (Int32.ofNat 16)) d1_15 rfl ?_
  refine K.ishl (z := (((f_r0 (i + 1)) &&& (Int32.ofNat 255)) <<< ((Int32.ofNat 16) &&& 31))) d1_17 rfl ?_
  refine K.ior (z := (((f_r0 i) <<< ((Int32.ofNat 24) &&& 31)) ||| (((f_r0 (i + 1)) &&& (Int32.ofNat 255)) <<< ((Int32.ofNat 16) &&& 31)))) d1_18 rfl ?_
  refine K.aloadN d1_19 rfl rfl ?_
  refine K.iloadN d1_20 rfl ?_
  refine K.iconst (v := (Int32.ofNat 2)) d1_21 rfl ?_
  refine K.iadd (z := (Int32.ofNat (i + 2))) d1_22 (oAdd _ _) ?_
  refine K.bald (i := (i + 2)) A_r0 d1_23 (by omega) ?_
  refine K.sipush (v := (Int32.ofNat 255)) d1_24 rfl ?_
  refine K.iand (z := ((f_r0 (i + 2)) &&& (Int32.ofNat 255))) d1_27 rfl ?_
  refine K.bipush (v := (Int32.ofNat 8)) d1_28 rfl ?_
  refine K.ishl (z := (((f_r0 (i + 2)) &&& (Int32.ofNat 255)) <<< ((Int32.ofNat 8) &&& 31))) d1_30 rfl ?_
  refine K.ior (z := ((((f_r0 i) <<< ((Int32.ofNat 24) &&& 31)) ||| (((f_r0 (i + 1)) &&& (Int32.ofNat 255)) <<< ((Int32.ofNat 16) &&& 31))) ||| (((f_r0 (i + 2)) &&& (Int32.ofNat 255)) <<< ((Int32.ofNat 8) &&& 31)))) d1_31 rfl ?_
  refine K.aloadN d1_32 rfl rfl ?_
  refine K.iloadN d1_33 rfl ?_
  refine K.iconst (v := (Int32.ofNat 3)) d1_34 rfl ?_
  refine K.iadd (z := (Int32.ofNat (i + 3))) d1_35 (oAdd _ _) ?_
  refine K.bald (i := (i + 3)) A_r0 d1_36 (by omega) ?_
  refine K.sipush (v := (Int32.ofNat 255)) d1_37 rfl ?_
  refine K.iand (z := ((f_r0 (i + 3)) &&& (Int32.ofNat 255))) d1_40 rfl ?_
  refine K.ior (z := (((((f_r0 i) <<< ((Int32.ofNat 24) &&& 31)) ||| (((f_r0 (i + 1)) &&& (Int32.ofNat 255)) <<< ((Int32.ofNat 16) &&& 31))) ||| (((f_r0 (i + 2)) &&& (Int32.ofNat 255)) <<< ((Int32.ofNat 8) &&& 31))) ||| ((f_r0 (i + 3)) &&& (Int32.ofNat 255)))) d1_41 rfl ?_
  exact hret _ _ _ _ _ (Ret.i d1_42) (by decide) (by decide) ⟨rfl, rfl⟩
theorem pn_0 : plainName "com/example/namespaced_state_store/namespacedstatestore/BigEndianGetIntPinLaw" = true := by first | (simp [plainName, overriddenIn]; done) | decide +kernel
theorem ef_0 (m : MethodId) (p0 : Int32) (p1 : Int32) (p2 : Int32) (p3 : Int32) (p4 : Int32) (p5 : Int32) : entryFrame m #[(.int p0), (.int p1), (.int p2), (.int p3), (.int p4), (.int p5)] maxLocals = mkF m 0 #[.val (.int p0), .val (.int p1), .val (.int p2), .val (.int p3), .val (.int p4), .val (.int p5), .unset, .unset, .unset, .unset, .unset, .unset] [] := by first | (simp [entryFrame, mkF, argsToLocals, Value.category, maxLocals]; done) | rfl
set_option maxRecDepth 65536 in
set_option maxHeartbeats 40000000 in
theorem rm0 (l : Launch) (Z : State) (a0 : Array Value) (hw : ∀ d ∈ tables_1, d.before a0 Z = true) (ws : List Jvm.Cond) (p0 p1 p2 p3 p4 p5 : Int32) (h : Heap) (n0 : Nat) (Z0 : n0 ≤ h.size) :
    Con Z l n0 x code maxLocals ret ws room_1 #[.int p0, .int p1, .int p2, .int p3, .int p4, .int p5] h (fun v _ => v = some (.int 1)) := by
  refine con_of ws (plainFor_of_name pn_0) hw (fun m => ef_0 m p0 p1 p2 p3 p4 p5) (fun m G K hret => ?_)
  obtain ⟨o, ho, hz⟩ := own_mod p4 (Int32.ofNat 4) 4 rfl (by decide) (by decide)
  obtain ⟨U, hU⟩ : ∃ U, (((((((p0 &&& (Int32.ofNat 255)).toInt64) * (16777216 : Int64)) + (((p1 &&& (Int32.ofNat 255)).toInt64) * (65536 : Int64))) + (((p2 &&& (Int32.ofNat 255)).toInt64) * (256 : Int64))) + ((p3 &&& (Int32.ofNat 255)).toInt64)).toInt32) = U := ⟨_, rfl⟩
  refine K.iload at_0 rfl ?_
  refine K.ldc (v := (Int32.ofNat 2147483647)) at_2 (List.mem_of_getElem? (i := 0) rfl) ?_
  refine K.iand (z := (p4 &&& (Int32.ofNat 2147483647))) at_4 rfl ?_
  refine K.iconst (v := (Int32.ofNat 4)) at_5 rfl ?_
  refine K.irem (z := (Int32.ofNat o)) at_6 (by decide) hz ?_
  refine K.istore (L' := #[.val (.int p0), .val (.int p1), .val (.int p2), .val (.int p3), .val (.int p4), .val (.int p5), .val (.int (Int32.ofNat o)), .unset, .unset, .unset, .unset, .unset]) at_7 rfl ?_
  refine K.iload at_9 rfl ?_
  refine K.i2b (z := (p5.toInt8.toInt32)) at_11 rfl ?_
  refine K.istore (L' := #[.val (.int p0), .val (.int p1), .val (.int p2), .val (.int p3), .val (.int p4), .val (.int p5), .val (.int (Int32.ofNat o)), .val (.int (p5.toInt8.toInt32)), .unset, .unset, .unset, .unset]) at_12 rfl ?_
  refine K.bipush (v := (Int32.ofNat 7)) at_14 rfl ?_
  refine K.newarr (n := 7) (cap := 7) (List.mem_of_getElem? (i := 1) rfl) rfl at_16 (by omega) (by decide) (by decide) (by decide) (fun h1 E1 A_b1 => ?_)
  obtain ⟨b1, hb1⟩ : ∃ b, b = h.size := ⟨_, rfl⟩
  rw [← hb1] at A_b1 ⊢
  have g_b1 : n0 ≤ b1 := by rw [hb1]; exact Z0
  refine K.astore (L' := #[.val (.int p0), .val (.int p1), .val (.int p2), .val (.int p3), .val (.int p4), .val (.int p5), .val (.int (Int32.ofNat o)), .val (.int (p5.toInt8.toInt32)), .val (.ref b1), .unset, .unset, .unset]) at_18 rfl rfl ?_
  refine K.aload at_20 rfl rfl ?_
  refine K.iconst (v := (Int32.ofNat 0)) at_22 rfl ?_
  refine K.iload at_23 rfl ?_
  refine K.bast (i := 0) (y := (p5.toInt8.toInt32)) A_b1 g_b1 at_25 (by omega) (own_byte _) (fun h2 W2 A_b1 => ?_)
  refine K.aload at_26 rfl rfl ?_
  refine K.iconst (v := (Int32.ofNat 1)) at_28 rfl ?_
  refine K.iload at_29 rfl ?_
  refine K.bast (i := 1) (y := (p5.toInt8.toInt32)) A_b1 g_b1 at_31 (by omega) (own_byte _) (fun h3 W3 A_b1 => ?_)
  refine K.aload at_32 rfl rfl ?_
  refine K.iconst (v := (Int32.ofNat 2)) at_34 rfl ?_
  refine K.iload at_35 rfl ?_
  refine K.bast (i := 2) (y := (p5.toInt8.toInt32)) A_b1 g_b1 at_37 (by omega) (own_byte _) (fun h4 W4 A_b1 => ?_)
  refine K.aload at_38 rfl rfl ?_
  refine K.iconst (v := (Int32.ofNat 3)) at_40 rfl ?_
  refine K.iload at_41 rfl ?_
  refine K.bast (i := 3) (y := (p5.toInt8.toInt32)) A_b1 g_b1 at_43 (by omega) (own_byte _) (fun h5 W5 A_b1 => ?_)
  refine K.aload at_44 rfl rfl ?_
  refine K.iconst (v := (Int32.ofNat 4)) at_46 rfl ?_
  refine K.iload at_47 rfl ?_
  refine K.bast (i := 4) (y := (p5.toInt8.toInt32)) A_b1 g_b1 at_49 (by omega) (own_byte _) (fun h6 W6 A_b1 => ?_)
  refine K.aload at_50 rfl rfl ?_
  refine K.iconst (v := (Int32.ofNat 5)) at_52 rfl ?_
  refine K.iload at_53 rfl ?_
  refine K.bast (i := 5) (y := (p5.toInt8.toInt32)) A_b1 g_b1 at_55 (by omega) (own_byte _) (fun h7 W7 A_b1 => ?_)
  refine K.aload at_56 rfl rfl ?_
  refine K.bipush (v := (Int32.ofNat 6)) at_58 rfl ?_
  refine K.iload at_60 rfl ?_
  refine K.bast (i := 6) (y := (p5.toInt8.toInt32)) A_b1 g_b1 at_62 (by omega) (own_byte _) (fun h8 W8 A_b1 => ?_)
  refine K.aload at_63 rfl rfl ?_
  refine K.iload at_65 rfl ?_
  refine K.iloadN at_67 rfl ?_
  refine K.i2b (z := (p0.toInt8.toInt32)) at_68 rfl ?_
  refine K.bast (i := o) (y := (p0.toInt8.toInt32)) A_b1 g_b1 at_69 (by omega) (own_byte _) (fun h9 W9 A_b1 => ?_)
  refine K.aload at_70 rfl rfl ?_
  refine K.iload at_72 rfl ?_
  refine K.iconst (v := (Int32.ofNat 1)) at_74 rfl ?_
  refine K.iadd (z := (Int32.ofNat (o + 1))) at_75 (oAdd _ _) ?_
  refine K.iloadN at_76 rfl ?_
  refine K.i2b (z := (p1.toInt8.toInt32)) at_77 rfl ?_
  refine K.bast (i := (o + 1)) (y := (p1.toInt8.toInt32)) A_b1 g_b1 at_78 (by omega) (own_byte _) (fun h10 W10 A_b1 => ?_)
  refine K.aload at_79 rfl rfl ?_
  refine K.iload at_81 rfl ?_
  refine K.iconst (v := (Int32.ofNat 2)) at_83 rfl ?_
  refine K.iadd (z := (Int32.ofNat (o + 2))) at_84 (oAdd _ _) ?_
  refine K.iloadN at_85 rfl ?_
  refine K.i2b (z := (p2.toInt8.toInt32)) at_86 rfl ?_
  refine K.bast (i := (o + 2)) (y := (p2.toInt8.toInt32)) A_b1 g_b1 at_87 (by omega) (own_byte _) (fun h11 W11 A_b1 => ?_)
  refine K.aload at_88 rfl rfl ?_
  refine K.iload at_90 rfl ?_
  refine K.iconst (v := (Int32.ofNat 3)) at_92 rfl ?_
  refine K.iadd (z := (Int32.ofNat (o + 3))) at_93 (oAdd _ _) ?_
  refine K.iloadN at_94 rfl ?_
  refine K.i2b (z := (p3.toInt8.toInt32)) at_95 rfl ?_
  refine K.bast (i := (o + 3)) (y := (p3.toInt8.toInt32)) A_b1 g_b1 at_96 (by omega) (own_byte _) (fun h12 W12 A_b1 => ?_)
  refine K.iloadN at_97 rfl ?_
  refine K.sipush (v := (Int32.ofNat 255)) at_98 rfl ?_
  refine K.iand (z := (p0 &&& (Int32.ofNat 255))) at_101 rfl ?_
  refine K.i2l (z := ((p0 &&& (Int32.ofNat 255)).toInt64)) at_102 rfl ?_
  refine K.ldc2 (v := (16777216 : Int64)) at_103 (List.mem_of_getElem? (i := 2) rfl) ?_
  refine K.lmul (z := (((p0 &&& (Int32.ofNat 255)).toInt64) * (16777216 : Int64))) at_106 rfl ?_
  refine K.iloadN at_107 rfl ?_
  refine K.sipush (v := (Int32.ofNat 255)) at_108 rfl ?_
  refine K.iand (z := (p1 &&& (Int32.ofNat 255))) at_111 rfl ?_
  refine K.i2l (z := ((p1 &&& (Int32.ofNat 255)).toInt64)) at_112 rfl ?_
  refine K.ldc2 (v := (65536 : Int64)) at_113 (List.mem_of_getElem? (i := 3) rfl) ?_
  refine K.lmul (z := (((p1 &&& (Int32.ofNat 255)).toInt64) * (65536 : Int64))) at_116 rfl ?_
  refine K.ladd (z := ((((p0 &&& (Int32.ofNat 255)).toInt64) * (16777216 : Int64)) + (((p1 &&& (Int32.ofNat 255)).toInt64) * (65536 : Int64)))) at_117 rfl ?_
  refine K.iloadN at_118 rfl ?_
  refine K.sipush (v := (Int32.ofNat 255)) at_119 rfl ?_
  refine K.iand (z := (p2 &&& (Int32.ofNat 255))) at_122 rfl ?_
  refine K.i2l (z := ((p2 &&& (Int32.ofNat 255)).toInt64)) at_123 rfl ?_
  refine K.ldc2 (v := (256 : Int64)) at_124 (List.mem_of_getElem? (i := 4) rfl) ?_
  refine K.lmul (z := (((p2 &&& (Int32.ofNat 255)).toInt64) * (256 : Int64))) at_127 rfl ?_
  refine K.ladd (z := (((((p0 &&& (Int32.ofNat 255)).toInt64) * (16777216 : Int64)) + (((p1 &&& (Int32.ofNat 255)).toInt64) * (65536 : Int64))) + (((p2 &&& (Int32.ofNat 255)).toInt64) * (256 : Int64)))) at_128 rfl ?_
  refine K.iloadN at_129 rfl ?_
  refine K.sipush (v := (Int32.ofNat 255)) at_130 rfl ?_
  refine K.iand (z := (p3 &&& (Int32.ofNat 255))) at_133 rfl ?_
  refine K.i2l (z := ((p3 &&& (Int32.ofNat 255)).toInt64)) at_134 rfl ?_
  refine K.ladd (z := ((((((p0 &&& (Int32.ofNat 255)).toInt64) * (16777216 : Int64)) + (((p1 &&& (Int32.ofNat 255)).toInt64) * (65536 : Int64))) + (((p2 &&& (Int32.ofNat 255)).toInt64) * (256 : Int64))) + ((p3 &&& (Int32.ofNat 255)).toInt64))) at_135 rfl ?_
  refine K.lstore (L' := #[.val (.int p0), .val (.int p1), .val (.int p2), .val (.int p3), .val (.int p4), .val (.int p5), .val (.int (Int32.ofNat o)), .val (.int (p5.toInt8.toInt32)), .val (.ref b1), .val (.long ((((((p0 &&& (Int32.ofNat 255)).toInt64) * (16777216 : Int64)) + (((p1 &&& (Int32.ofNat 255)).toInt64) * (65536 : Int64))) + (((p2 &&& (Int32.ofNat 255)).toInt64) * (256 : Int64))) + ((p3 &&& (Int32.ofNat 255)).toInt64))), .second, .unset]) at_136 rfl ?_
  refine K.lload at_138 rfl ?_
  refine K.l2i (z := U) at_140 hU ?_
  refine K.istore (L' := #[.val (.int p0), .val (.int p1), .val (.int p2), .val (.int p3), .val (.int p4), .val (.int p5), .val (.int (Int32.ofNat o)), .val (.int (p5.toInt8.toInt32)), .val (.ref b1), .val (.long ((((((p0 &&& (Int32.ofNat 255)).toInt64) * (16777216 : Int64)) + (((p1 &&& (Int32.ofNat 255)).toInt64) * (65536 : Int64))) + (((p2 &&& (Int32.ofNat 255)).toInt64) * (256 : Int64))) + ((p3 &&& (Int32.ofNat 255)).toInt64))), .second, .val (.int U)]) at_141 rfl ?_
  refine K.aload at_143 rfl rfl ?_
  refine K.iload at_145 rfl ?_
  refine K.callS (ps := [(.array .byte), .int]) (rr := some .int) (W := 0) [(.ref b1), (.int (Int32.ofNat o))] [] (List.mem_of_getElem? (i := 5) rfl) (List.mem_of_getElem? (i := 6) rfl) (List.mem_of_getElem? (i := 7) rfl) (List.mem_of_getElem? (i := 8) rfl) (by decide) (rm1 l Z a0 hw [] b1 o 7 _ _ n0 A_b1 (by omega)) (by decide) (by decide) (by decide +kernel) rfl rfl (Nat.le_of_eq rfl) rfl at_147 (by decide) (by decide) (fun v13 h13 Q13 => ?_)
  obtain ⟨rfl, rfl⟩ := Q13
  show G _ _ _ (mkF m 150 #[.val (.int p0), .val (.int p1), .val (.int p2), .val (.int p3), .val (.int p4), .val (.int p5), .val (.int (Int32.ofNat o)), .val (.int (p5.toInt8.toInt32)), .val (.ref b1), .val (.long ((((((p0 &&& (Int32.ofNat 255)).toInt64) * (16777216 : Int64)) + (((p1 &&& (Int32.ofNat 255)).toInt64) * (65536 : Int64))) + (((p2 &&& (Int32.ofNat 255)).toInt64) * (256 : Int64))) + ((p3 &&& (Int32.ofNat 255)).toInt64))), .second, .val (.int U)] [(.int (own_res _ o))])
  have hres : ∀ F : Nat → Int32, (own_res (up (up (up (up F o (p0.toInt8.toInt32)) (o + 1) (p1.toInt8.toInt32)) (o + 2) (p2.toInt8.toInt32)) (o + 3) (p3.toInt8.toInt32)) o).toInt = U.toInt := fun F => congrArg Int32.toInt ((own_read F _ _ _ _ o).trans ((own_join p0 p1 p2 p3).trans hU))
  refine K.iload at_150 rfl ?_
  refine K.icmp _ (pc' := 159) at_152 (hk_ne rfl rfl) (by decide) (by decide) (fun c152 => ?_) (fun c152 => ?_)
  · -- c152 taken -> 159
    refine K.iconst (v := (Int32.ofNat 0)) at_159 rfl ?_
    exact hret _ _ _ _ _ (Ret.z at_160 (by decide)) (by decide) (by decide) (by first | rfl | (exfalso; exact c152 (hres _)))
  · -- c152 not -> 155
    refine K.iconst (v := (Int32.ofNat 1)) at_155 rfl ?_
    refine K.goto (pc' := 160) at_156 (by decide) (by decide) ?_
    exact hret _ _ _ _ _ (Ret.z at_160 (by decide)) (by decide) (by decide) (by first | rfl | (exfalso; exact c152 (hres _)))
set_option maxRecDepth 65536 in
set_option maxHeartbeats 40000000 in
theorem comes_1 {Post : Tables → Env → Array Value → State → Outcome → State → Prop} (hpost : ∀ tb e args s v u, (limb_1_1.after args s (.returned v) u = true ∧ limb_1_2.after args s (.returned v) u = true ∧ True) → FrameEnd s (.returned v) u (Jvm.fieldLocs frame_1_writes args s ++ Jvm.arrayLocs frame_1_arrays args s ++ Jvm.staticLocs frame_1_statics s) 16 128 → Post tb e args s (.returned v) u) :
    ArmFor flags0 classFile x code maxLocals ret World_1 tables_1 room_1 Calls_1 rest_1 Pre_1 Post := by
  intro l hfl _ _ p e ha hc hk s m args below hf hA hF happ hP
  obtain ⟨hcalls, hrest, hpre⟩ := hP
  obtain ⟨-, -, -, hnamed, -, -, -, hat⟩ := (Spec.applies_iff hf).mp happ
  obtain ⟨hg, hn⟩ := and_e (Cond.before_iff.mp (show (Jvm.Cond.and given_1 narrow_1).before args s = true from hpre))
  obtain ⟨gc, g0⟩ := and_e hg
  obtain ⟨e0, t0⟩ := and_e g0
  obtain ⟨e1, t1⟩ := and_e t0
  obtain ⟨e2, t2⟩ := and_e t1
  obtain ⟨e3, t3⟩ := and_e t2
  obtain ⟨e4, t4⟩ := and_e t3
  obtain ⟨w0, w1, w2, w3, w4, w5, rfl⟩ : ∃ w0 w1 w2 w3 w4 w5 : Value, args = #[w0, w1, w2, w3, w4, w5] := by
    have hs : args.size = 6 := by simpa [Cond.value, given_1] using gc
    obtain ⟨L⟩ := args
    match L, hs with
    | [w0, w1, w2, w3, w4, w5], _ => exact ⟨w0, w1, w2, w3, w4, w5, rfl⟩
  have hw := fun d (hd : d ∈ tables_1) => atoms_spec (ws := Jvm.Cond.code x code maxLocals ret :: tables_1) hat d (List.mem_cons_of_mem _ hd)
  obtain ⟨i0, ei0⟩ := is_v e0
  obtain rfl : w0 = (.int i0) := Option.some.inj ei0
  obtain ⟨i1, ei1⟩ := is_v e1
  obtain rfl : w1 = (.int i1) := Option.some.inj ei1
  obtain ⟨i2, ei2⟩ := is_v e2
  obtain rfl : w2 = (.int i2) := Option.some.inj ei2
  obtain ⟨i3, ei3⟩ := is_v e3
  obtain rfl : w3 = (.int i3) := Option.some.inj ei3
  obtain ⟨i4, ei4⟩ := is_v e4
  obtain rfl : w4 = (.int i4) := Option.some.inj ei4
  obtain ⟨i5, ei5⟩ := is_v t4
  obtain rfl : w5 = (.int i5) := Option.some.inj ei5
  obtain ⟨n, o, h1, h2, h3, _, L, rfl, ⟨rfl, N⟩, hq⟩ := rm0 l s _ hw tables_1 i0 i1 i2 i3 i4 i5 s.heap s.heap.size (Nat.le_refl _) p e ha hc hk s m _ below hf ((Spec.applies_iff_loose hf).mp happ).1 ⟨rfl, State.Warmed39.refl s, rfl⟩ trivial
  refine ⟨n, _, h1, h2, h3, hpost _ _ _ _ _ _ ⟨Cond.after_iff.mpr rfl, Cond.after_iff.mpr (eq_i res_at (Term.int_eval (1)) rfl), trivial⟩ ⟨hq.1, hq.2.1, (hq.2.2.sift fun y hy => Or.inr (N y hy)).mono (by decide) (by decide)⟩⟩
theorem main_1_1 : Claimed_1_1 := comes_1 fun _ _ _ _ _ _ h hF => ⟨h.1, hF⟩
theorem main_1_2 : Claimed_1_2 := comes_1 fun _ _ _ _ _ _ h hF => ⟨h.2.1, hF⟩
end Jvm.Pilot.@@N@@
namespace Jvm.Pilot.@@N@@
open Jvm Jvm.ClassFile Sem Op Lib Jvm.Free Jvm.Stand Jvm.Pilot.@@N@@.Jvm.D
/-! MADE BY PROGRAM (witnessworld.py) out of the Statement's table words and the real class files: 9 classes; the members and pool entries that the words name. The judged class is class 1, her method 1. -/
namespace start1
open Jvm.ClassFile
def u (s : String) : CpInfo := .utf8 (stringToUtf16 s)
/-- a pool by its gaps: so many unusable entries, then the entry; so many at the end -/
def gap : Nat → List CpInfo → List CpInfo
  | 0, r => r
  | n + 1, r => .unusable :: gap n r
def poolList (es : List (Nat × CpInfo)) (last : Nat) : List CpInfo := es.foldr (fun e r => gap e.1 (e.2 :: r)) (gap last [])
def pool (es : List (Nat × CpInfo)) (last : Nat) : Array CpInfo := ⟨poolList es last⟩
def fileOf (pool : Array CpInfo) (this : Nat) (attrs : Array Attribute := #[]) (ms : Array MethodInfo := #[]) (fl : Nat := 33) (sup : Nat := 0) (ifs : Array Nat := #[]) (fds : Array FieldInfo := #[]) : ClassFile where
  minorVersion := 0
  majorVersion := 65
  constantPool := pool
  accessFlags := fl
  thisClass := this
  superClass := sup
  interfaces := ifs
  fields := fds
  methods := ms
  attributes := attrs
def plain (name : String) (sup : Option ClassId) : Class where
  name := name
  kind := .ordinary
  loader := none
  accessFlags := 33
  super := sup
  interfaces := #[]
  cf := none
  fields := #[]
  methods := #[]
  instanceTypes := #[]
  staticTypes := #[]
  resolved := #[]
  callSites := []
  init := .initialized
  statics := none
  mirror := none

def pool0 : Array CpInfo := pool [(5, u "<init>"), (0, u "()V"), (1, .class_ 10), (1, u "java/lang/Object")] 113

def k0m0 : Method := { name := "<init>", desc := "()V", sig := { parameters := [], returnType := none }, accessFlags := 1, code := none }
/-- java/lang/Object -/
def k0 : Class := { plain "java/lang/Object" none with
  accessFlags := 33
  interfaces := #[]
  cf := some (fileOf pool0 8 #[] #[{ accessFlags := 1, nameIndex := 5, descriptorIndex := 6, attributes := #[] }] 33 0 #[] #[])
  fields := #[]
  methods := #[k0m0]
  instanceTypes := #[]
  staticTypes := #[]
  resolved := Array.replicate 124 none
  statics := none }

def pool1 : Array CpInfo := pool [(2, .class_ 4), (1, u "java/lang/Object"), (0, u "<init>"), (0, u "()V"), (0, .integer 2147483647), (0, .long 16777216), (1, .long 65536), (1, .long 256), (1, .methodref 15 16), (0, .class_ 17), (0, .nameAndType 18 19), (0, u "com/example/namespaced_state_store/namespacedstatestore/BigEndian"), (0, u "getInt"), (0, u "([BI)I"), (0, .class_ 21), (0, u "com/example/namespaced_state_store/namespacedstatestore/BigEndianGetIntPinLaw"), (2, u "law"), (0, u "(IIIIII)Z")] 5

def k1m0 : Method := { name := "<init>", desc := "()V", sig := { parameters := [], returnType := none }, accessFlags := 2, code := none }
def k1c1 : Code := { maxStack := 6, maxLocals := 12, code := code, exceptionTable := #[], attributes := #[] }
def k1m1 : Method := { name := "law", desc := "(IIIIII)Z", sig := { parameters := [.int, .int, .int, .int, .int, .int], returnType := some .boolean }, accessFlags := 9, code := some k1c1 }
/-- com/example/namespaced_state_store/namespacedstatestore/BigEndianGetIntPinLaw -/
def k1 : Class := { plain "com/example/namespaced_state_store/namespacedstatestore/BigEndianGetIntPinLaw" (some 0) with
  accessFlags := 49
  interfaces := #[]
  cf := some (fileOf pool1 20 #[] #[{ accessFlags := 2, nameIndex := 5, descriptorIndex := 6, attributes := #[] }, { accessFlags := 9, nameIndex := 24, descriptorIndex := 25, attributes := #[] }] 49 2 #[] #[])
  fields := #[]
  methods := #[k1m0, k1m1]
  instanceTypes := #[]
  staticTypes := #[]
  resolved := Array.replicate 31 none
  statics := none }

def pool2 : Array CpInfo := pool [(2, .class_ 4), (1, u "java/lang/Object"), (0, u "<init>"), (0, u "()V"), (1, .class_ 10), (1, u "com/example/namespaced_state_store/namespacedstatestore/BigEndian"), (0, u "getInt"), (0, u "([BI)I")] 27

def k2m0 : Method := { name := "<init>", desc := "()V", sig := { parameters := [], returnType := none }, accessFlags := 2, code := none }
def k2c1 : Code := { maxStack := 4, maxLocals := 2, code := prog_2_method_3_code, exceptionTable := #[], attributes := #[] }
def k2m1 : Method := { name := "getInt", desc := "([BI)I", sig := { parameters := [(.array .byte), .int], returnType := some .int }, accessFlags := 8, code := some k2c1 }
/-- com/example/namespaced_state_store/namespacedstatestore/BigEndian -/
def k2 : Class := { plain "com/example/namespaced_state_store/namespacedstatestore/BigEndian" (some 0) with
  accessFlags := 48
  interfaces := #[]
  cf := some (fileOf pool2 8 #[] #[{ accessFlags := 2, nameIndex := 5, descriptorIndex := 6, attributes := #[] }, { accessFlags := 8, nameIndex := 11, descriptorIndex := 12, attributes := #[] }] 48 2 #[] #[])
  fields := #[]
  methods := #[k2m0, k2m1]
  instanceTypes := #[]
  staticTypes := #[]
  resolved := Array.replicate 40 none
  statics := none }

def pool3 : Array CpInfo := pool [(1, u "java/lang/Cloneable"), (0, .class_ 1), (0, u "java/lang/Object"), (0, .class_ 3)] 3

/-- java/lang/Cloneable -/
def k3 : Class := { plain "java/lang/Cloneable" (some 0) with
  accessFlags := 1537
  interfaces := #[]
  cf := some (fileOf pool3 2 #[] #[] 1537 4 #[] #[])
  fields := #[]
  methods := #[]
  instanceTypes := #[]
  staticTypes := #[]
  resolved := Array.replicate 8 none
  statics := none }

def pool4 : Array CpInfo := pool [(1, u "java/io/Serializable"), (0, .class_ 1), (0, u "java/lang/Object"), (0, .class_ 3)] 3

/-- java/io/Serializable -/
def k4 : Class := { plain "java/io/Serializable" (some 0) with
  accessFlags := 1537
  interfaces := #[]
  cf := some (fileOf pool4 2 #[] #[] 1537 4 #[] #[])
  fields := #[]
  methods := #[]
  instanceTypes := #[]
  staticTypes := #[]
  resolved := Array.replicate 8 none
  statics := none }

/-- the primitive byte -/
def k5 : Class := { plain "byte" none with kind := .primitive 'B', accessFlags := 0x411 }
/-- [B -/
def k6 : Class := { plain "[B" (some 0) with kind := .array 5 .byte, interfaces := #[3, 4], accessFlags := 1041 }

/-- the primitive int -/
def k7 : Class := { plain "int" none with kind := .primitive 'I', accessFlags := 0x411 }
/-- [I -/
def k8 : Class := { plain "[I" (some 0) with kind := .array 7 .int, interfaces := #[3, 4], accessFlags := 1041 }

def heap : Heap := #[]
def classes : Array Class := #[k0, k1, k2, k3, k4, k5, k6, k7, k8]
def interned : List (Array UInt16 × Addr) := []
def slotsUsed : Nat := 0
def theMethod : MethodId := ⟨1, 1⟩
def args0 : Array Value := #[.int 70, .int 5, .int 3, .int 200, .int 6, .int 9]
def aboutOver (below : List Frame) : State where
  vm := { classes := classes, interned := interned.toArray }
  heap := heap
  slotsUsed := slotsUsed
  threads := #[{ frames := .invoking theMethod args0 :: below }]
def below0 : List Frame := [.native { method := ⟨0, 0⟩, args := #[] }]
def about1 : State := aboutOver below0
def p0 : Program := .bare "" "" ""
def e0 : Env := launch0.env 0 0 0
theorem w_frames : about1.frames = Frame.invoking theMethod args0 :: below0 := rfl
set_option maxRecDepth 65536 in
theorem w_args : argsFit about1.vm theMethod args0 = true := by decide +kernel
set_option maxRecDepth 65536 in
theorem w_heap : heapFits about1 = true := by decide +kernel
set_option maxRecDepth 65536 in
theorem w_runnable : about1.curStatus? = some .runnable := by decide +kernel
set_option maxRecDepth 65536 in
theorem w_alone : about1.alone = true := by decide +kernel
set_option maxRecDepth 65536 in
theorem w_named : about1.methodNamed? x = some theMethod := by decide +kernel
set_option maxRecDepth 65536 in
theorem w_hears : about1.hears theMethod below0 = true := by decide +kernel
set_option maxRecDepth 65536 in
theorem w_ripe : about1.ripe theMethod args0 below0 = true := by decide +kernel
theorem w_running : about1.status = .running := rfl
set_option maxRecDepth 65536 in
theorem w_room : about1.hasRoom e0.platform room_1 = true :=
  launch0.hasRoom_least _ room_1 (by decide +kernel) (by decide +kernel) (by decide +kernel) (by decide +kernel) (by decide +kernel) (by decide +kernel)
theorem allAtoms_all (ts : List Jvm.Cond) (a : Array Jvm.Value) (st : Jvm.State) : (allAtoms ts).before a st = ts.all (fun c => c.before a st) := by
  induction ts with
  | nil => rfl
  | cons c t ih =>
    show (Jvm.Cond.and c (allAtoms t)).before a st = _
    rw [Jvm.Cond.before_and, ih, List.all_cons]
def words1 : List Jvm.Cond := Jvm.Cond.code x code maxLocals ret :: tables_1
/-- a 'code' word, met by the world's own term for the bytes: nothing is compared byte by byte -/
theorem code_word {y : MethodName} {bytes : ByteArray} {mx : Nat} {rt : Option FieldType} {a : Array Value} {s : State} {m : MethodId} {meth : Method} {c : Code} (h1 : s.methodNamed? y = some m) (h2 : s.vm.method? m = some meth) (h3 : meth.code = some c) (h4 : c.code = bytes)
    (h5 : (c.maxLocals == mx && c.exceptionTable.isEmpty && decide (c.maxStack ≤ mostOperands) && decide (meth.sig.returnType = rt) && !meth.locks && decide (parseMethodDescriptor y.desc = some meth.sig)) = true) : (Jvm.Cond.code y bytes mx rt).before a s = true := by
  simp only [Bool.and_eq_true, beq_iff_eq, Bool.not_eq_true', decide_eq_true_eq] at h5
  obtain ⟨⟨⟨⟨⟨g1, g2⟩, g3⟩, g4⟩, g5⟩, g6⟩ := h5
  simp [Cond.before, Cond.holds, Cond.value, h1, h2, h3, h4, g1, g2, g3, g4, g5, g6]
def isCode : Jvm.Cond → Bool
  | .code _ _ _ _ => true
  | _ => false
theorem all_split {L : List Jvm.Cond} {P : Jvm.Cond → Bool} (h1 : L.all (fun c => isCode c || P c) = true) (h2 : ∀ c ∈ L.filter isCode, P c = true) : L.all P = true := by
  refine List.all_eq_true.mpr fun c hc => ?_
  have h := List.all_eq_true.mp h1 c hc
  rcases Bool.eq_false_or_eq_true (isCode c) with hi | hi
  · exact h2 c (List.mem_filter.mpr ⟨hc, hi⟩)
  · simpa [hi] using h
set_option maxRecDepth 65536 in
theorem w_c0 : (Jvm.Cond.code x code maxLocals ret).before args0 about1 = true := code_word (m := ⟨1, 1⟩) (meth := k1m1) (c := k1c1) (by decide +kernel) rfl rfl rfl (by decide +kernel)
set_option maxRecDepth 65536 in
theorem w_c1 : (Jvm.Cond.code ({ cls := "com/example/namespaced_state_store/namespacedstatestore/BigEndian", name := "getInt", desc := "([BI)I" } : Jvm.MethodName) prog_2_method_3_code (2 : Nat) (Option.some Jvm.ClassFile.FieldType.int)).before args0 about1 = true := code_word (m := ⟨2, 1⟩) (meth := k2m1) (c := k2c1) (by decide +kernel) rfl rfl rfl (by decide +kernel)
def codes1 : List Jvm.Cond := [Jvm.Cond.code x code maxLocals ret, Jvm.Cond.code ({ cls := "com/example/namespaced_state_store/namespacedstatestore/BigEndian", name := "getInt", desc := "([BI)I" } : Jvm.MethodName) prog_2_method_3_code (2 : Nat) (Option.some Jvm.ClassFile.FieldType.int)]
set_option maxRecDepth 65536 in
theorem codes_eq : words1.filter isCode = codes1 := rfl
theorem w_codes : ∀ c ∈ words1.filter isCode, c.before args0 about1 = true := by
  rw [codes_eq]
  intro c hc
  simp only [codes1, List.mem_cons, List.not_mem_nil, or_false] at hc
  rcases hc with rfl | rfl
  · exact w_c0
  · exact w_c1
set_option maxRecDepth 65536 in
theorem w_t1 : words1.all (fun c => isCode c || c.before args0 about1) = true := by decide +kernel
theorem w_tables : (allAtoms (Jvm.Cond.code x code maxLocals ret :: tables_1)).before args0 about1 = true := by
  rw [allAtoms_all]
  show words1.all (fun c => c.before args0 about1) = true
  refine all_split ?_ w_codes
  rw [w_t1]
set_option maxRecDepth 65536 in
theorem w_case : (Jvm.Cond.and given_1 narrow_1).before args0 about1 = true := by decide +kernel
theorem w_applies : (headSpec (Jvm.Cond.code x code maxLocals ret :: tables_1) room_1).applies x e0.platform about1 = true :=
  (Spec.applies_iff w_frames).mpr ⟨w_running, w_runnable, w_alone, w_named, w_hears, w_ripe, w_room, w_tables⟩
theorem atStart : AtStart classFile x code maxLocals ret World_1 tables_1 room_1 Calls_1 rest_1 Pre_1 launch0 p0 e0 about1 theMethod args0 below0 :=
  ⟨lists_1, trivial, launch0.admits_env _ _ _, launch0.least_env, fairChoices_fair.cas, fairChoices_fair.clock, w_frames, w_args, w_heap, w_applies, trivial, trivial, w_case⟩
end start1
theorem witness_1 : WitnessClaimed_1 := ⟨start1.p0, start1.e0, start1.about1, start1.theMethod, start1.args0, start1.below0, start1.atStart⟩
end Jvm.Pilot.@@N@@
