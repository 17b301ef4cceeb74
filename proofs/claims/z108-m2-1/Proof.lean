import JvmDerived
import JvmDerived.Pilot.@@N@@Statement
import JvmDerived.Pilot.@@N@@Code
set_option linter.unusedVariables false
set_option linter.unusedSimpArgs false
@@BLOCK:NumsL.lean.txt@@
namespace Jvm.Own
open Jvm Jvm.ClassFile Sem Op Lib Jvm.Free Jvm.Stand Jvm.LawKit Jvm.RoadKit
/-- from every stand with the heap h, k cells and n slots booked, and the top frame g, a stand is reached of which Q holds -/
def Wp (p : Program) (l : Launch) (e : Env) (R : Room) (s : State) (m : MethodId) (args : Array Value) (below : List Frame) (meth : Method) (c : Code) (n0 : Nat) (Q : Heap → Nat → Nat → JFrame → Prop) (h : Heap) (k n : Nat) (g : JFrame) : Prop :=
  ∀ (T : State) (locs : List Loc), Stand p l e R s m args below meth c T locs k n → T.heap = h → Fr n0 locs →
    ∃ (T' : State) (locs' : List Loc) (k' n' : Nat) (g' : JFrame), Stand p l e R s m args below meth c T' locs' k' n' ∧ Fr n0 locs' ∧ Q T'.heap k' n' g' ∧ ∀ t, Steps p.tables e below (T'.setTop g') t → Steps p.tables e below (T.setTop g) t
/-- what every step of a walk asks; G is the walk's own Wp -/
def Wk (Z : State) (a0 : Array Value) (ts : List Jvm.Cond) (l : Launch) (own nm : String) (code : ByteArray) (ml : Nat) (R : Room) (n0 : Nat) (m : MethodId) (G : Heap → Nat → Nat → JFrame → Prop) : Prop :=
  (∀ d ∈ ts, d.before a0 Z = true) ∧ ∃ (p : Program) (e : Env) (s : State) (args : Array Value) (below : List Frame) (meth : Method) (c : Code) (Q : Heap → Nat → Nat → JFrame → Prop),
    p.tables.exec = Jvm.exec ∧ Z.Warmed39 s.vm ∧ s.vm.findClass own = some m.cls ∧ c.code = code ∧ c.maxLocals = ml ∧ meth.name = nm ∧ G = Wp p l e R s m args below meth c n0 Q
/-- an array of ints, bytes, chars or booleans: n places, place i holds f i -/
def Ary (Z : State) (h : Heap) (a : Addr) (ty : FieldType) (n : Nat) (f : Nat → Int32) : Prop := ∃ c : Cell, Arr Z h a c ty ∧ c.slots.size = n ∧ n < 2147483648 ∧ ∀ i, i < n → c.slots[i]? = some (.int (f i))
def up {α : Type} (f : Nat → α) (i : Nat) (x : α) : Nat → α := fun j => if j = i then x else f j
theorem up_same {α : Type} {f : Nat → α} {i : Nat} {x : α} : up f i x i = x := if_pos rfl
theorem up_ne {α : Type} {f : Nat → α} {i j : Nat} {x : α} (h : j ≠ i) : up f i x j = f j := if_neg h
theorem ix {i n : Nat} (hi : i < n) (hn : n < 2147483648) : (Int32.ofNat i).toNatClampNeg = i ∧ ¬ (Int32.ofNat i < 0) := by
  have e : (Int32.ofNat i).toInt = (i : Int) := Int32.toInt_ofNat_small (by omega)
  refine ⟨by simp only [Int32.toNatClampNeg, e]; omega, ?_⟩
  rw [Int32.lt_iff_toInt_lt, e, Int32.toInt_zero]; omega
section Facts
variable {Z : State} {h h' : Heap} {a b : Addr} {ty : FieldType} {n sl : Nat} {f : Nat → Int32} {v : Value}
theorem Ary.lt (A : Ary Z h a ty n f) : a < h.size := by obtain ⟨c, A, -⟩ := A; exact A.lt
theorem Ary.small (A : Ary Z h a ty n f) : n < 2147483648 := by obtain ⟨c, -, -, q, -⟩ := A; exact q
theorem Ary.ext (A : Ary Z h a ty n f) (E : Ext h h') : Ary Z h' a ty n f := by obtain ⟨c, A, r⟩ := A; exact ⟨c, A.ext E, r⟩
theorem Ary.other (A : Ary Z h b ty n f) (W : Wr h h' a sl v) (q : b ≠ a) : Ary Z h' b ty n f := by obtain ⟨c, A, r⟩ := A; exact ⟨c, A.other W q, r⟩
theorem Ary.keep {ws : List Addr} (A : Ary Z h a ty n f) (K : Keep h h' ws) (q : a ∉ ws) : Ary Z h' a ty n f := by obtain ⟨c, A, r⟩ := A; exact ⟨c, ⟨K.2.1 a c A.1 q, A.2⟩, r⟩
theorem Ary.set {i : Nat} {x : Int32} (A : Ary Z h a ty n f) (W : Wr h h' a i (.int x)) : Ary Z h' a ty n (up f i x) := by
  obtain ⟨c, A, r1, r2, r3⟩ := A
  refine ⟨_, A.same W, by rw [sz_set]; exact r1, r2, fun j hj => ?_⟩
  by_cases q : j = i
  · subst q; rw [up_same]; simp [Cell.setSlot, r1, hj]
  · rw [up_ne q]; simp only [Cell.setSlot]; rw [Array.getElem?_setIfInBounds_ne (Ne.symm q)]; exact r3 j hj
theorem Ary.congr {g : Nat → Int32} (A : Ary Z h a ty n f) (q : ∀ i, i < n → f i = g i) : Ary Z h a ty n g := by
  obtain ⟨c, A, r1, r2, r3⟩ := A
  exact ⟨c, A, r1, r2, fun i hi => by rw [← q i hi]; exact r3 i hi⟩
end Facts
section Laws
variable {Z : State} {a0 : Array Value} {ts : List Jvm.Cond} {l : Launch} {own nm : String} {code : ByteArray} {ml : Nat} {R : Room} {n0 : Nat} {m : MethodId} {G : Heap → Nat → Nat → JFrame → Prop} {h : Heap} {u w : Nat} {pc : Nat} {L L' : Array Slot} {S : List Value}
theorem Wk.pure (K : Wk Z a0 ts l own nm code ml R n0 m G) {g g' : JFrame}
    (st : ∀ (p : Program) (e : Env) (s : State) (args : Array Value) (below : List Frame) (meth : Method) (c : Code) (T : State) (locs : List Loc), p.tables.exec = Jvm.exec → Z.Warmed39 s.vm → s.vm.findClass own = some m.cls → c.code = code → Stand p l e R s m args below meth c T locs u w → T.heap = h → ∀ t, Steps p.tables e below (T.setTop g') t → Steps p.tables e below (T.setTop g) t)
    (k : G h u w g') : G h u w g := by
  obtain ⟨hw, p, e, s, args, below, meth, c, Q, hx, hZ, hown, hby, hml, hnm, rfl⟩ := K
  intro T locs X eT N
  obtain ⟨T', locs', k', n', g', X', N', hQ, go⟩ := k T locs X eT N
  exact ⟨T', locs', k', n', g', X', N', hQ, fun t q => st p e s args below meth c T locs hx hZ hown hby X eT t (go t q)⟩
theorem Wk.move (K : Wk Z a0 ts l own nm code ml R n0 m G) {g : JFrame}
    (st : ∀ (p : Program) (e : Env) (s : State) (args : Array Value) (below : List Frame) (meth : Method) (c : Code) (T : State) (locs : List Loc), p.tables.exec = Jvm.exec → Z.Warmed39 s.vm → s.vm.findClass own = some m.cls → c.code = code → c.maxLocals = ml → meth.name = nm → Stand p l e R s m args below meth c T locs u w → T.heap = h → Fr n0 locs →
      ∃ (T1 : State) (locs1 : List Loc) (u1 w1 : Nat) (g1 : JFrame), Stand p l e R s m args below meth c T1 locs1 u1 w1 ∧ Fr n0 locs1 ∧ G T1.heap u1 w1 g1 ∧ ∀ t, Steps p.tables e below (T1.setTop g1) t → Steps p.tables e below (T.setTop g) t) : G h u w g := by
  obtain ⟨hw, p, e, s, args, below, meth, c, Q, hx, hZ, hown, hby, hml, hnm, rfl⟩ := K
  intro T locs X eT N
  obtain ⟨T1, locs1, u1, w1, g1, X1, N1, k, go1⟩ := st p e s args below meth c T locs hx hZ hown hby hml hnm X eT N
  obtain ⟨T', locs', k', n', g', X', N', hQ, go⟩ := k T1 locs1 X1 rfl N1
  exact ⟨T', locs', k', n', g', X', N', hQ, fun t q => go1 t (go t q)⟩
theorem Wk.iload (K : Wk Z a0 ts l own nm code ml R n0 m G) {i : Nat} {x : Int32} (hd : decode code pc = .ok (.iload i, 2)) (hl : L[i]? = some (.val (.int x))) (k : G h u w (mkF m (pc + 2) L (.int x :: S))) : G h u w (mkF m pc L (S)) :=
  K.pure (fun p e s args below meth c T locs hx hZ hown hby X eT t k => XS.iload X.here hx rfl (hb hby hd) hl k) k
theorem Wk.iloadN (K : Wk Z a0 ts l own nm code ml R n0 m G) {i : Fin 4} {x : Int32} (hd : decode code pc = .ok (.iload_n i, 1)) (hl : L[i.val]? = some (.val (.int x))) (k : G h u w (mkF m (pc + 1) L (.int x :: S))) : G h u w (mkF m pc L (S)) :=
  K.pure (fun p e s args below meth c T locs hx hZ hown hby X eT t k => XS.iloadN X.here hx rfl (hb hby hd) hl k) k
theorem Wk.lload (K : Wk Z a0 ts l own nm code ml R n0 m G) {i : Nat} {x : Int64} (hd : decode code pc = .ok (.lload i, 2)) (hl : L[i]? = some (.val (.long x))) (k : G h u w (mkF m (pc + 2) L (.long x :: S))) : G h u w (mkF m pc L (S)) :=
  K.pure (fun p e s args below meth c T locs hx hZ hown hby X eT t k => XS.lload X.here hx rfl (hb hby hd) hl k) k
theorem Wk.lloadN (K : Wk Z a0 ts l own nm code ml R n0 m G) {i : Fin 4} {x : Int64} (hd : decode code pc = .ok (.lload_n i, 1)) (hl : L[i.val]? = some (.val (.long x))) (k : G h u w (mkF m (pc + 1) L (.long x :: S))) : G h u w (mkF m pc L (S)) :=
  K.pure (fun p e s args below meth c T locs hx hZ hown hby X eT t k => XS.lloadN X.here hx rfl (hb hby hd) hl k) k
theorem Wk.aload (K : Wk Z a0 ts l own nm code ml R n0 m G) {i : Nat} {x : Value} (hd : decode code pc = .ok (.aload i, 2)) (hl : L[i]? = some (.val x)) (hv : x.isRef = true) (k : G h u w (mkF m (pc + 2) L (x :: S))) : G h u w (mkF m pc L (S)) :=
  K.pure (fun p e s args below meth c T locs hx hZ hown hby X eT t k => XS.aload X.here hx rfl (hb hby hd) hl hv k) k
theorem Wk.aloadN (K : Wk Z a0 ts l own nm code ml R n0 m G) {i : Fin 4} {x : Value} (hd : decode code pc = .ok (.aload_n i, 1)) (hl : L[i.val]? = some (.val x)) (hv : x.isRef = true) (k : G h u w (mkF m (pc + 1) L (x :: S))) : G h u w (mkF m pc L (S)) :=
  K.pure (fun p e s args below meth c T locs hx hZ hown hby X eT t k => XS.aloadN X.here hx rfl (hb hby hd) hl hv k) k
theorem Wk.istore (K : Wk Z a0 ts l own nm code ml R n0 m G) {i : Nat} {x : Int32} (hd : decode code pc = .ok (.istore i, 2)) (hl : storeLocals L i (.int x) = some L') (k : G h u w (mkF m (pc + 2) L' (S))) : G h u w (mkF m pc L (.int x :: S)) :=
  K.pure (fun p e s args below meth c T locs hx hZ hown hby X eT t k => XS.istore X.here hx rfl (hb hby hd) rfl hl k) k
theorem Wk.istoreN (K : Wk Z a0 ts l own nm code ml R n0 m G) {i : Fin 4} {x : Int32} (hd : decode code pc = .ok (.istore_n i, 1)) (hl : storeLocals L i.val (.int x) = some L') (k : G h u w (mkF m (pc + 1) L' (S))) : G h u w (mkF m pc L (.int x :: S)) :=
  K.pure (fun p e s args below meth c T locs hx hZ hown hby X eT t k => XS.istoreN X.here hx rfl (hb hby hd) rfl hl k) k
theorem Wk.lstore (K : Wk Z a0 ts l own nm code ml R n0 m G) {i : Nat} {x : Int64} (hd : decode code pc = .ok (.lstore i, 2)) (hl : storeLocals L i (.long x) = some L') (k : G h u w (mkF m (pc + 2) L' (S))) : G h u w (mkF m pc L (.long x :: S)) :=
  K.pure (fun p e s args below meth c T locs hx hZ hown hby X eT t k => XS.lstore X.here hx rfl (hb hby hd) rfl hl k) k
theorem Wk.lstoreN (K : Wk Z a0 ts l own nm code ml R n0 m G) {i : Fin 4} {x : Int64} (hd : decode code pc = .ok (.lstore_n i, 1)) (hl : storeLocals L i.val (.long x) = some L') (k : G h u w (mkF m (pc + 1) L' (S))) : G h u w (mkF m pc L (.long x :: S)) :=
  K.pure (fun p e s args below meth c T locs hx hZ hown hby X eT t k => XS.lstoreN X.here hx rfl (hb hby hd) rfl hl k) k
theorem Wk.astore (K : Wk Z a0 ts l own nm code ml R n0 m G) {i : Nat} {x : Value} (hd : decode code pc = .ok (.astore i, 2)) (hv : x.isRef = true) (hl : storeLocals L i x = some L') (k : G h u w (mkF m (pc + 2) L' (S))) : G h u w (mkF m pc L (x :: S)) :=
  K.pure (fun p e s args below meth c T locs hx hZ hown hby X eT t k => XS.astore X.here hx rfl (hb hby hd) rfl hv hl k) k
theorem Wk.astoreN (K : Wk Z a0 ts l own nm code ml R n0 m G) {i : Fin 4} {x : Value} (hd : decode code pc = .ok (.astore_n i, 1)) (hv : x.isRef = true) (hl : storeLocals L i.val x = some L') (k : G h u w (mkF m (pc + 1) L' (S))) : G h u w (mkF m pc L (x :: S)) :=
  K.pure (fun p e s args below meth c T locs hx hZ hown hby X eT t k => XS.astoreN X.here hx rfl (hb hby hd) rfl hv hl k) k
theorem Wk.iinc (K : Wk Z a0 ts l own nm code ml R n0 m G) {i : Nat} {cst : Int} {x y : Int32} (hd : decode code pc = .ok (.iinc i cst, 3)) (hl : L[i]? = some (.val (.int x))) (hv : x + Int32.ofInt cst = y) (hl' : storeLocals L i (.int y) = some L') (k : G h u w (mkF m (pc + 3) L' (S))) : G h u w (mkF m pc L (S)) :=
  K.pure (fun p e s args below meth c T locs hx hZ hown hby X eT t k => XS.iinc X.here hx rfl (hb hby hd) hl (by rw [hv]; exact hl') k) k
theorem Wk.iconst (K : Wk Z a0 ts l own nm code ml R n0 m G) {i : Int} {v : Int32} (hd : decode code pc = .ok (.iconst i, 1)) (hv : Int32.ofInt i = v) (k : G h u w (mkF m (pc + 1) L (.int v :: S))) : G h u w (mkF m pc L (S)) :=
  K.pure (fun p e s args below meth c T locs hx hZ hown hby X eT t k => XS.iconst X.here hx rfl (hb hby hd) (by rw [hv]; exact k)) k
theorem Wk.bipush (K : Wk Z a0 ts l own nm code ml R n0 m G) {i : Int} {v : Int32} (hd : decode code pc = .ok (.bipush i, 2)) (hv : (Int8.ofInt i).toInt32 = v) (k : G h u w (mkF m (pc + 2) L (.int v :: S))) : G h u w (mkF m pc L (S)) :=
  K.pure (fun p e s args below meth c T locs hx hZ hown hby X eT t k => XS.bipush X.here hx rfl (hb hby hd) (by rw [hv]; exact k)) k
theorem Wk.sipush (K : Wk Z a0 ts l own nm code ml R n0 m G) {i : Int} {v : Int32} (hd : decode code pc = .ok (.sipush i, 3)) (hv : (Int16.ofInt i).toInt32 = v) (k : G h u w (mkF m (pc + 3) L (.int v :: S))) : G h u w (mkF m pc L (S)) :=
  K.pure (fun p e s args below meth c T locs hx hZ hown hby X eT t k => XS.sipush X.here hx rfl (hb hby hd) (by rw [hv]; exact k)) k
theorem Wk.lconst (K : Wk Z a0 ts l own nm code ml R n0 m G) {i : Fin 2} {v : Int64} (hd : decode code pc = .ok (.lconst i, 1)) (hv : Int64.ofNat i = v) (k : G h u w (mkF m (pc + 1) L (.long v :: S))) : G h u w (mkF m pc L (S)) :=
  K.pure (fun p e s args below meth c T locs hx hZ hown hby X eT t k => XS.lconst X.here hx rfl (hb hby hd) (by rw [hv]; exact k)) k
theorem Wk.ldc (K : Wk Z a0 ts l own nm code ml R n0 m G) {i : Nat} {v : Int32} (hd : decode code pc = .ok (.ldc i, 2)) (hw : Jvm.Cond.constant own i v ∈ ts) (k : G h u w (mkF m (pc + 2) L (.int v :: S))) : G h u w (mkF m pc L (S)) :=
  K.pure (fun p e s args below meth c T locs hx hZ hown hby X eT t k => X.ldcInt hx hown (mvT hZ (K.1 _ hw)) (g := mkF m pc L S) rfl (hb hby hd) t k) k
theorem Wk.ldc2 (K : Wk Z a0 ts l own nm code ml R n0 m G) {i : Nat} {v : Int64} (hd : decode code pc = .ok (.ldc2_w i, 3)) (hw : Jvm.Cond.constantLong own i v ∈ ts) (k : G h u w (mkF m (pc + 3) L (.long v :: S))) : G h u w (mkF m pc L (S)) :=
  K.pure (fun p e s args below meth c T locs hx hZ hown hby X eT t k => X.ldc2Long hx hown (mvT hZ (K.1 _ hw)) (g := mkF m pc L S) rfl (hb hby hd) t k) k
theorem Wk.dup (K : Wk Z a0 ts l own nm code ml R n0 m G) {x : Value} (hd : decode code pc = .ok (.dup, 1)) (hc : x.category = 1) (k : G h u w (mkF m (pc + 1) L (x :: x :: S))) : G h u w (mkF m pc L (x :: S)) :=
  K.pure (fun p e s args below meth c T locs hx hZ hown hby X eT t k => XS.dup X.here hx rfl (hb hby hd) rfl hc k) k
theorem Wk.pop (K : Wk Z a0 ts l own nm code ml R n0 m G) {x : Value} (hd : decode code pc = .ok (.pop, 1)) (hc : x.category = 1) (k : G h u w (mkF m (pc + 1) L (S))) : G h u w (mkF m pc L (x :: S)) :=
  K.pure (fun p e s args below meth c T locs hx hZ hown hby X eT t k => XS.pop X.here hx rfl (hb hby hd) rfl hc k) k
theorem Wk.dupX1 (K : Wk Z a0 ts l own nm code ml R n0 m G) {x y : Value} (hd : decode code pc = .ok (.dup_x1, 1)) (hc : x.category = 1) (hc' : y.category = 1) (k : G h u w (mkF m (pc + 1) L (x :: y :: x :: S))) : G h u w (mkF m pc L (x :: y :: S)) :=
  K.pure (fun p e s args below meth c T locs hx hZ hown hby X eT t k => XS.dupX1 X.here hx rfl (hb hby hd) rfl hc hc' k) k
theorem Wk.dup2 (K : Wk Z a0 ts l own nm code ml R n0 m G) {x y : Value} (hd : decode code pc = .ok (.dup2, 1)) (hc : x.category = 1) (hc' : y.category = 1) (k : G h u w (mkF m (pc + 1) L (x :: y :: x :: y :: S))) : G h u w (mkF m pc L (x :: y :: S)) :=
  K.pure (fun p e s args below meth c T locs hx hZ hown hby X eT t k => XT.dup2 X.here hx rfl (hb hby hd) rfl hc hc' k) k
theorem Wk.iadd (K : Wk Z a0 ts l own nm code ml R n0 m G) {x y z : Int32} (hd : decode code pc = .ok (.iadd, 1)) (hv : x + y = z) (k : G h u w (mkF m (pc + 1) L (.int z :: S))) : G h u w (mkF m pc L (.int y :: .int x :: S)) :=
  K.pure (fun p e s args below meth c T locs hx hZ hown hby X eT t k => XS.iadd X.here hx rfl (hb hby hd) rfl (by rw [hv]; exact k)) k
theorem Wk.isub (K : Wk Z a0 ts l own nm code ml R n0 m G) {x y z : Int32} (hd : decode code pc = .ok (.isub, 1)) (hv : x - y = z) (k : G h u w (mkF m (pc + 1) L (.int z :: S))) : G h u w (mkF m pc L (.int y :: .int x :: S)) :=
  K.pure (fun p e s args below meth c T locs hx hZ hown hby X eT t k => XS.isub X.here hx rfl (hb hby hd) rfl (by rw [hv]; exact k)) k
theorem Wk.imul (K : Wk Z a0 ts l own nm code ml R n0 m G) {x y z : Int32} (hd : decode code pc = .ok (.imul, 1)) (hv : x * y = z) (k : G h u w (mkF m (pc + 1) L (.int z :: S))) : G h u w (mkF m pc L (.int y :: .int x :: S)) :=
  K.pure (fun p e s args below meth c T locs hx hZ hown hby X eT t k => XS.imul X.here hx rfl (hb hby hd) rfl (by rw [hv]; exact k)) k
theorem Wk.iand (K : Wk Z a0 ts l own nm code ml R n0 m G) {x y z : Int32} (hd : decode code pc = .ok (.iand, 1)) (hv : x &&& y = z) (k : G h u w (mkF m (pc + 1) L (.int z :: S))) : G h u w (mkF m pc L (.int y :: .int x :: S)) :=
  K.pure (fun p e s args below meth c T locs hx hZ hown hby X eT t k => XS.iand X.here hx rfl (hb hby hd) rfl (by rw [hv]; exact k)) k
theorem Wk.ior (K : Wk Z a0 ts l own nm code ml R n0 m G) {x y z : Int32} (hd : decode code pc = .ok (.ior, 1)) (hv : x ||| y = z) (k : G h u w (mkF m (pc + 1) L (.int z :: S))) : G h u w (mkF m pc L (.int y :: .int x :: S)) :=
  K.pure (fun p e s args below meth c T locs hx hZ hown hby X eT t k => XS.ior X.here hx rfl (hb hby hd) rfl (by rw [hv]; exact k)) k
theorem Wk.ishl (K : Wk Z a0 ts l own nm code ml R n0 m G) {x y z : Int32} (hd : decode code pc = .ok (.ishl, 1)) (hv : x <<< (y &&& 31) = z) (k : G h u w (mkF m (pc + 1) L (.int z :: S))) : G h u w (mkF m pc L (.int y :: .int x :: S)) :=
  K.pure (fun p e s args below meth c T locs hx hZ hown hby X eT t k => XS.ishl X.here hx rfl (hb hby hd) rfl (by rw [hv]; exact k)) k
theorem Wk.ishr (K : Wk Z a0 ts l own nm code ml R n0 m G) {x y z : Int32} (hd : decode code pc = .ok (.ishr, 1)) (hv : x >>> (y &&& 31) = z) (k : G h u w (mkF m (pc + 1) L (.int z :: S))) : G h u w (mkF m pc L (.int y :: .int x :: S)) :=
  K.pure (fun p e s args below meth c T locs hx hZ hown hby X eT t k => XS.ishr X.here hx rfl (hb hby hd) rfl (by rw [hv]; exact k)) k
theorem Wk.iushr (K : Wk Z a0 ts l own nm code ml R n0 m G) {x y z : Int32} (hd : decode code pc = .ok (.iushr, 1)) (hv : (x.toUInt32 >>> (y &&& 31).toUInt32).toInt32 = z) (k : G h u w (mkF m (pc + 1) L (.int z :: S))) : G h u w (mkF m pc L (.int y :: .int x :: S)) :=
  K.pure (fun p e s args below meth c T locs hx hZ hown hby X eT t k => XS.iushr X.here hx rfl (hb hby hd) rfl (by rw [hv]; exact k)) k
theorem Wk.idiv (K : Wk Z a0 ts l own nm code ml R n0 m G) {x y z : Int32} (hd : decode code pc = .ok (.idiv, 1)) (hy : y ≠ 0) (hv : x / y = z) (k : G h u w (mkF m (pc + 1) L (.int z :: S))) : G h u w (mkF m pc L (.int y :: .int x :: S)) :=
  K.pure (fun p e s args below meth c T locs hx hZ hown hby X eT t k => XS.idiv X.here hx rfl (hb hby hd) rfl hy (by rw [hv]; exact k)) k
theorem Wk.irem (K : Wk Z a0 ts l own nm code ml R n0 m G) {x y z : Int32} (hd : decode code pc = .ok (.irem, 1)) (hy : y ≠ 0) (hv : x - x / y * y = z) (k : G h u w (mkF m (pc + 1) L (.int z :: S))) : G h u w (mkF m pc L (.int y :: .int x :: S)) :=
  K.pure (fun p e s args below meth c T locs hx hZ hown hby X eT t k => XS.irem X.here hx rfl (hb hby hd) rfl hy (by rw [hv]; exact k)) k
theorem Wk.ladd (K : Wk Z a0 ts l own nm code ml R n0 m G) {x y z : Int64} (hd : decode code pc = .ok (.ladd, 1)) (hv : x + y = z) (k : G h u w (mkF m (pc + 1) L (.long z :: S))) : G h u w (mkF m pc L (.long y :: .long x :: S)) :=
  K.pure (fun p e s args below meth c T locs hx hZ hown hby X eT t k => XS.ladd X.here hx rfl (hb hby hd) rfl (by rw [hv]; exact k)) k
theorem Wk.lsub (K : Wk Z a0 ts l own nm code ml R n0 m G) {x y z : Int64} (hd : decode code pc = .ok (.lsub, 1)) (hv : x - y = z) (k : G h u w (mkF m (pc + 1) L (.long z :: S))) : G h u w (mkF m pc L (.long y :: .long x :: S)) :=
  K.pure (fun p e s args below meth c T locs hx hZ hown hby X eT t k => XS.lsub X.here hx rfl (hb hby hd) rfl (by rw [hv]; exact k)) k
theorem Wk.lmul (K : Wk Z a0 ts l own nm code ml R n0 m G) {x y z : Int64} (hd : decode code pc = .ok (.lmul, 1)) (hv : x * y = z) (k : G h u w (mkF m (pc + 1) L (.long z :: S))) : G h u w (mkF m pc L (.long y :: .long x :: S)) :=
  K.pure (fun p e s args below meth c T locs hx hZ hown hby X eT t k => XS.lmul X.here hx rfl (hb hby hd) rfl (by rw [hv]; exact k)) k
theorem Wk.land (K : Wk Z a0 ts l own nm code ml R n0 m G) {x y z : Int64} (hd : decode code pc = .ok (.land, 1)) (hv : x &&& y = z) (k : G h u w (mkF m (pc + 1) L (.long z :: S))) : G h u w (mkF m pc L (.long y :: .long x :: S)) :=
  K.pure (fun p e s args below meth c T locs hx hZ hown hby X eT t k => XS.land X.here hx rfl (hb hby hd) rfl (by rw [hv]; exact k)) k
theorem Wk.lrem (K : Wk Z a0 ts l own nm code ml R n0 m G) {x y z : Int64} (hd : decode code pc = .ok (.lrem, 1)) (hy : y ≠ 0) (hv : x - x / y * y = z) (k : G h u w (mkF m (pc + 1) L (.long z :: S))) : G h u w (mkF m pc L (.long y :: .long x :: S)) :=
  K.pure (fun p e s args below meth c T locs hx hZ hown hby X eT t k => XS.lrem X.here hx rfl (hb hby hd) rfl hy (by rw [hv]; exact k)) k
theorem Wk.i2l (K : Wk Z a0 ts l own nm code ml R n0 m G) {x : Int32} {z : Int64} (hd : decode code pc = .ok (.i2l, 1)) (hv : x.toInt64 = z) (k : G h u w (mkF m (pc + 1) L (.long z :: S))) : G h u w (mkF m pc L (.int x :: S)) :=
  K.pure (fun p e s args below meth c T locs hx hZ hown hby X eT t k => XS.i2l X.here hx rfl (hb hby hd) rfl (by rw [hv]; exact k)) k
theorem Wk.l2i (K : Wk Z a0 ts l own nm code ml R n0 m G) {x : Int64} {z : Int32} (hd : decode code pc = .ok (.l2i, 1)) (hv : x.toInt32 = z) (k : G h u w (mkF m (pc + 1) L (.int z :: S))) : G h u w (mkF m pc L (.long x :: S)) :=
  K.pure (fun p e s args below meth c T locs hx hZ hown hby X eT t k => XS.l2i X.here hx rfl (hb hby hd) rfl (by rw [hv]; exact k)) k
theorem Wk.i2b (K : Wk Z a0 ts l own nm code ml R n0 m G) {x : Int32} {z : Int32} (hd : decode code pc = .ok (.i2b, 1)) (hv : x.toInt8.toInt32 = z) (k : G h u w (mkF m (pc + 1) L (.int z :: S))) : G h u w (mkF m pc L (.int x :: S)) :=
  K.pure (fun p e s args below meth c T locs hx hZ hown hby X eT t k => XS.i2b X.here hx rfl (hb hby hd) rfl (by rw [hv]; exact k)) k
theorem Wk.i2c (K : Wk Z a0 ts l own nm code ml R n0 m G) {x : Int32} {z : Int32} (hd : decode code pc = .ok (.i2c, 1)) (hv : x.toUInt32.toUInt16.toUInt32.toInt32 = z) (k : G h u w (mkF m (pc + 1) L (.int z :: S))) : G h u w (mkF m pc L (.int x :: S)) :=
  K.pure (fun p e s args below meth c T locs hx hZ hown hby X eT t k => XS.i2c X.here hx rfl (hb hby hd) rfl (by rw [hv]; exact k)) k
theorem Wk.lcmp (K : Wk Z a0 ts l own nm code ml R n0 m G) {x y : Int64} {z : Int32} (hd : decode code pc = .ok (.lcmp, 1)) (hv : lcmpW x y = z) (k : G h u w (mkF m (pc + 1) L (.int z :: S))) : G h u w (mkF m pc L (.long y :: .long x :: S)) :=
  K.pure (fun p e s args below meth c T locs hx hZ hown hby X eT t k => XS.lcmp X.here hx rfl (hb hby hd) rfl (by subst hv; exact k)) k
theorem Wk.goto (K : Wk Z a0 ts l own nm code ml R n0 m G) {o : Int} {pc' : Nat} (hd : decode code pc = .ok (.goto o, 3)) (ho : 0 ≤ (pc : Int) + o) (hp : ((pc : Int) + o).toNat = pc') (k : G h u w (mkF m pc' L S)) : G h u w (mkF m pc L S) :=
  K.pure (fun p e s args below meth c T locs hx hZ hown hby X eT t k => XS.goto X.here hx rfl rfl (hb hby hd) ho hp k) k
theorem Wk.icmp (K : Wk Z a0 ts l own nm code ml R n0 m G) {cd : ClassFile.Cond} {x y : Int32} {o : Int} {pc' : Nat} (P : Prop) [Decidable P] (hd : decode code pc = .ok (.if_icmp cd o, 3)) (hP : if_icmp.holds cd x y = decide P) (ho : 0 ≤ (pc : Int) + o) (hp : ((pc : Int) + o).toNat = pc')
    (k1 : P → G h u w (mkF m pc' L S)) (k2 : ¬ P → G h u w (mkF m (pc + 3) L S)) : G h u w (mkF m pc L (.int y :: .int x :: S)) := by
  by_cases q : P
  · exact K.pure (fun p e s args below meth c T locs hx hZ hown hby X eT t k => XS.icmpYes X.here hx rfl rfl (hb hby hd) rfl (by rw [hP]; exact decide_eq_true q) ho hp k) (k1 q)
  · exact K.pure (fun p e s args below meth c T locs hx hZ hown hby X eT t k => XS.icmpNo X.here hx rfl (hb hby hd) rfl (by rw [hP]; exact decide_eq_false q) k) (k2 q)
theorem Wk.ifc (K : Wk Z a0 ts l own nm code ml R n0 m G) {cd : ClassFile.Cond} {x : Int32} {o : Int} {pc' : Nat} (P : Prop) [Decidable P] (hd : decode code pc = .ok (.ifCond cd o, 3)) (hP : ifCond.holds cd x = decide P) (ho : 0 ≤ (pc : Int) + o) (hp : ((pc : Int) + o).toNat = pc')
    (k1 : P → G h u w (mkF m pc' L S)) (k2 : ¬ P → G h u w (mkF m (pc + 3) L S)) : G h u w (mkF m pc L (.int x :: S)) := by
  by_cases q : P
  · exact K.pure (fun p e s args below meth c T locs hx hZ hown hby X eT t k => XS.ifYes X.here hx rfl rfl (hb hby hd) rfl (by rw [hP]; exact decide_eq_true q) ho hp k) (k1 q)
  · exact K.pure (fun p e s args below meth c T locs hx hZ hown hby X eT t k => XS.ifNo X.here hx rfl (hb hby hd) rfl (by rw [hP]; exact decide_eq_false q) k) (k2 q)
theorem Wk.ifnullNo (K : Wk Z a0 ts l own nm code ml R n0 m G) {o : Int} {b : Addr} (hd : decode code pc = .ok (.ifnull o, 3)) (k : G h u w (mkF m (pc + 3) L S)) : G h u w (mkF m pc L (.ref b :: S)) :=
  K.pure (fun p e s args below meth c T locs hx hZ hown hby X eT t k => XS.ifnullNo X.here hx rfl (hb hby hd) rfl k) k
theorem Wk.iald (K : Wk Z a0 ts l own nm code ml R n0 m G) {ar : Addr} {n i : Nat} {f : Nat → Int32} (A : Ary Z h ar .int n f) (hd : decode code pc = .ok (.iaload, 1)) (hi : i < n) (k : G h u w (mkF m (pc + 1) L (.int (f i) :: S))) : G h u w (mkF m pc L (.int (Int32.ofNat i) :: .ref ar :: S)) := by
  obtain ⟨cl, A, r1, r2, r3⟩ := A
  obtain ⟨q1, q2⟩ := ix hi r2
  refine K.pure (fun p e s args below meth c T locs hx hZ hown hby X eT t k => X.iaload hx (by rw [eT]; exact A.1) (State.isArrayOf_alike hZ.alike A.2.1) A.2.2 (fun z => z.elim q2 (fun z => by rw [q1, r1] at z; omega)) (by rw [q1]; exact r3 i hi) (g := mkF m pc L (.int (Int32.ofNat i) :: .ref ar :: S)) rfl rfl (hb hby hd) t k) k
theorem Wk.bald (K : Wk Z a0 ts l own nm code ml R n0 m G) {ar : Addr} {n i : Nat} {f : Nat → Int32} (A : Ary Z h ar .byte n f) (hd : decode code pc = .ok (.baload, 1)) (hi : i < n) (k : G h u w (mkF m (pc + 1) L (.int (f i) :: S))) : G h u w (mkF m pc L (.int (Int32.ofNat i) :: .ref ar :: S)) := by
  obtain ⟨cl, A, r1, r2, r3⟩ := A
  obtain ⟨q1, q2⟩ := ix hi r2
  refine K.pure (fun p e s args below meth c T locs hx hZ hown hby X eT t k => X.baloadBytes hx (by rw [eT]; exact A.1) (State.isArrayOf_alike hZ.alike A.2.1) A.2.2 (fun z => z.elim q2 (fun z => by rw [q1, r1] at z; omega)) (by rw [q1]; exact r3 i hi) (g := mkF m pc L (.int (Int32.ofNat i) :: .ref ar :: S)) rfl rfl (hb hby hd) t k) k
theorem Wk.zald (K : Wk Z a0 ts l own nm code ml R n0 m G) {ar : Addr} {n i : Nat} {f : Nat → Int32} (A : Ary Z h ar .boolean n f) (hd : decode code pc = .ok (.baload, 1)) (hi : i < n) (k : G h u w (mkF m (pc + 1) L (.int (f i) :: S))) : G h u w (mkF m pc L (.int (Int32.ofNat i) :: .ref ar :: S)) := by
  obtain ⟨cl, A, r1, r2, r3⟩ := A
  obtain ⟨q1, q2⟩ := ix hi r2
  refine K.pure (fun p e s args below meth c T locs hx hZ hown hby X eT t k => X.baloadBooleans hx (by rw [eT]; exact A.1) (State.isArrayOf_alike hZ.alike A.2.1) A.2.2 (fun z => z.elim q2 (fun z => by rw [q1, r1] at z; omega)) (by rw [q1]; exact r3 i hi) (g := mkF m pc L (.int (Int32.ofNat i) :: .ref ar :: S)) rfl rfl (hb hby hd) t k) k
theorem Wk.cald (K : Wk Z a0 ts l own nm code ml R n0 m G) {ar : Addr} {n i : Nat} {f : Nat → Int32} (A : Ary Z h ar .char n f) (hd : decode code pc = .ok (.caload, 1)) (hi : i < n) (k : G h u w (mkF m (pc + 1) L (.int (f i) :: S))) : G h u w (mkF m pc L (.int (Int32.ofNat i) :: .ref ar :: S)) := by
  obtain ⟨cl, A, r1, r2, r3⟩ := A
  obtain ⟨q1, q2⟩ := ix hi r2
  refine K.pure (fun p e s args below meth c T locs hx hZ hown hby X eT t k => X.caload hx (by rw [eT]; exact A.1) (State.isArrayOf_alike hZ.alike A.2.1) A.2.2 (fun z => z.elim q2 (fun z => by rw [q1, r1] at z; omega)) (by rw [q1]; exact r3 i hi) (g := mkF m pc L (.int (Int32.ofNat i) :: .ref ar :: S)) rfl rfl (hb hby hd) t k) k
theorem Wk.iast (K : Wk Z a0 ts l own nm code ml R n0 m G) {ar : Addr} {n i : Nat} {f : Nat → Int32} {x y : Int32} (A : Ary Z h ar .int n f) (hn : n0 ≤ ar) (hd : decode code pc = .ok (.iastore, 1)) (hi : i < n) (hv : x = y) (k : ∀ h', Wr h h' ar i (.int y) → Ary Z h' ar .int n (up f i y) → G h' u w (mkF m (pc + 1) L S)) : G h u w (mkF m pc L (.int x :: .int (Int32.ofNat i) :: .ref ar :: S)) := by
  have A0 := A
  obtain ⟨cl, A, r1, r2, r3⟩ := A
  obtain ⟨q1, q2⟩ := ix hi r2
  refine K.move (fun p e s args below meth c T locs hx hZ hown hby hml hnm X eT N => ?_)
  obtain ⟨T', h', X', e', W, st⟩ := stI X hx hZ eT A (j := Int32.ofNat i) (fun z => z.elim q2 (fun z => by rw [q1, r1] at z; omega)) (g := mkF m pc L (.int x :: .int (Int32.ofNat i) :: .ref ar :: S)) rfl rfl (hb hby hd)
  have W1 : Wr h h' ar i (.int y) := by rw [q1] at W; rw [← hv]; exact W
  refine ⟨T', _, u, w, _, X', Fr.snoc X' N hn, ?_, st⟩
  rw [e']
  exact k h' W1 (A0.set W1)
theorem Wk.bast (K : Wk Z a0 ts l own nm code ml R n0 m G) {ar : Addr} {n i : Nat} {f : Nat → Int32} {x y : Int32} (A : Ary Z h ar .byte n f) (hn : n0 ≤ ar) (hd : decode code pc = .ok (.bastore, 1)) (hi : i < n) (hv : nar .byte x = y) (k : ∀ h', Wr h h' ar i (.int y) → Ary Z h' ar .byte n (up f i y) → G h' u w (mkF m (pc + 1) L S)) : G h u w (mkF m pc L (.int x :: .int (Int32.ofNat i) :: .ref ar :: S)) := by
  have A0 := A
  obtain ⟨cl, A, r1, r2, r3⟩ := A
  obtain ⟨q1, q2⟩ := ix hi r2
  refine K.move (fun p e s args below meth c T locs hx hZ hown hby hml hnm X eT N => ?_)
  obtain ⟨T', h', X', e', W, st⟩ := stB X hx hZ eT A (j := Int32.ofNat i) (fun z => z.elim q2 (fun z => by rw [q1, r1] at z; omega)) (g := mkF m pc L (.int x :: .int (Int32.ofNat i) :: .ref ar :: S)) rfl rfl (hb hby hd)
  have W1 : Wr h h' ar i (.int y) := by rw [q1] at W; rw [← hv]; exact W
  refine ⟨T', _, u, w, _, X', Fr.snoc X' N hn, ?_, st⟩
  rw [e']
  exact k h' W1 (A0.set W1)
theorem Wk.zast (K : Wk Z a0 ts l own nm code ml R n0 m G) {ar : Addr} {n i : Nat} {f : Nat → Int32} {x y : Int32} (A : Ary Z h ar .boolean n f) (hn : n0 ≤ ar) (hd : decode code pc = .ok (.bastore, 1)) (hi : i < n) (hv : nar .boolean x = y) (k : ∀ h', Wr h h' ar i (.int y) → Ary Z h' ar .boolean n (up f i y) → G h' u w (mkF m (pc + 1) L S)) : G h u w (mkF m pc L (.int x :: .int (Int32.ofNat i) :: .ref ar :: S)) := by
  have A0 := A
  obtain ⟨cl, A, r1, r2, r3⟩ := A
  obtain ⟨q1, q2⟩ := ix hi r2
  refine K.move (fun p e s args below meth c T locs hx hZ hown hby hml hnm X eT N => ?_)
  obtain ⟨T', h', X', e', W, st⟩ := stZ X hx hZ eT A (j := Int32.ofNat i) (fun z => z.elim q2 (fun z => by rw [q1, r1] at z; omega)) (g := mkF m pc L (.int x :: .int (Int32.ofNat i) :: .ref ar :: S)) rfl rfl (hb hby hd)
  have W1 : Wr h h' ar i (.int y) := by rw [q1] at W; rw [← hv]; exact W
  refine ⟨T', _, u, w, _, X', Fr.snoc X' N hn, ?_, st⟩
  rw [e']
  exact k h' W1 (A0.set W1)
theorem Wk.cast (K : Wk Z a0 ts l own nm code ml R n0 m G) {ar : Addr} {n i : Nat} {f : Nat → Int32} {x y : Int32} (A : Ary Z h ar .char n f) (hn : n0 ≤ ar) (hd : decode code pc = .ok (.castore, 1)) (hi : i < n) (hv : nar .char x = y) (k : ∀ h', Wr h h' ar i (.int y) → Ary Z h' ar .char n (up f i y) → G h' u w (mkF m (pc + 1) L S)) : G h u w (mkF m pc L (.int x :: .int (Int32.ofNat i) :: .ref ar :: S)) := by
  have A0 := A
  obtain ⟨cl, A, r1, r2, r3⟩ := A
  obtain ⟨q1, q2⟩ := ix hi r2
  refine K.move (fun p e s args below meth c T locs hx hZ hown hby hml hnm X eT N => ?_)
  obtain ⟨T', h', X', e', W, st⟩ := stC X hx hZ eT A (j := Int32.ofNat i) (fun z => z.elim q2 (fun z => by rw [q1, r1] at z; omega)) (g := mkF m pc L (.int x :: .int (Int32.ofNat i) :: .ref ar :: S)) rfl rfl (hb hby hd)
  have W1 : Wr h h' ar i (.int y) := by rw [q1] at W; rw [← hv]; exact W
  refine ⟨T', _, u, w, _, X', Fr.snoc X' N hn, ?_, st⟩
  rw [e']
  exact k h' W1 (A0.set W1)
theorem Wk.alen (K : Wk Z a0 ts l own nm code ml R n0 m G) {ar : Addr} {n : Nat} {f : Nat → Int32} {ty : FieldType} (A : Ary Z h ar ty n f) (hd : decode code pc = .ok (.arraylength, 1)) (k : G h u w (mkF m (pc + 1) L (.int (Int32.ofNat n) :: S))) : G h u w (mkF m pc L (.ref ar :: S)) := by
  obtain ⟨cl, A, r1, r2, r3⟩ := A
  refine K.pure (fun p e s args below meth c T locs hx hZ hown hby X eT t k => X.arraylength hx (by rw [eT]; exact A.1) (State.isArrayOf_alike hZ.alike A.2.1) (g := mkF m pc L (.ref ar :: S)) rfl rfl (hb hby hd) t (by rw [r1]; exact k)) k
theorem Wk.newarr (K : Wk Z a0 ts l own nm code ml R n0 m G) {aty : ArrayType} {n cap : Nat} (hw : Jvm.Cond.arrayClass (newarray.typeOf aty) ∈ ts) (hz : defaultValue (newarray.typeOf aty) = .int 0) (hd : decode code pc = .ok (.newarray aty, 2)) (hn : n ≤ cap) (hcap : cap * 8 ≤ 536870912) (hc : u + 1 ≤ R.cells) (hs : w + cap ≤ R.slots)
    (k : ∀ h', Ext h h' → Ary Z h' h.size (newarray.typeOf aty) n (fun _ => 0) → G h' (u + 1) (w + cap) (mkF m (pc + 2) L (.ref h.size :: S))) : G h u w (mkF m pc L (.int (Int32.ofNat n) :: S)) := by
  obtain ⟨q1, q2⟩ := ix (i := n) (n := n + 1) (by omega) (by omega)
  refine K.move (fun p e s args below meth c T locs hx hZ hown hby hml hnm X eT N => ?_)
  obtain ⟨T', h', cA, X', e', E, A, st⟩ := newP X hx hZ (K.1 _ hw) eT (g := mkF m pc L (.int (Int32.ofNat n) :: S)) rfl (hb hby hd) rfl q2 (cap := cap) (by rw [q1]; exact hn) hcap hc hs
  refine ⟨T', locs, u + 1, w + cap, _, X', N, ?_, st⟩
  rw [e']
  refine k h' E ⟨_, A, by rw [sz_new, q1], by omega, fun i hi => ?_⟩
  simp [newA, q1, hi, hz]
theorem Wk.newobj (K : Wk Z a0 ts l own nm code ml R n0 m G) {C : String} {index n : Nat} (w1 : Jvm.Cond.classLink own index C ∈ ts) (w2 : Jvm.Cond.instantiable C n ∈ ts) (w3 : Jvm.Cond.initialized C ∈ ts) (hd : decode code pc = .ok (.new index, 3)) (hc : u + 1 ≤ R.cells) (hs : w + n ≤ R.slots)
    (k : ∀ h', Ext h h' → Exa Z h' h.size C → (∀ {O f d : String} {ty : FieldType}, Laid Z a0 C O f d → parseFieldDescriptor d = some ty → Fld Z h' h.size O f d (defaultValue ty)) → G h' (u + 1) (w + n) (mkF m (pc + 3) L (.ref h.size :: S))) : G h u w (mkF m pc L S) := by
  refine K.move (fun p e s args below meth c T locs hx hZ hown hby hml hnm X eT N => ?_)
  obtain ⟨T', h', X', e', E, A, D, -, st⟩ := newO X hx hZ hown (K.1 _ w1) (K.1 _ w2) (K.1 _ w3) eT (g := mkF m pc L S) rfl (hb hby hd) hc hs
  refine ⟨T', locs, u + 1, w + n, _, X', N, ?_, st⟩
  rw [e']
  exact k h' E A D
theorem Wk.getf (K : Wk Z a0 ts l own nm code ml R n0 m G) {C f d : String} {index : Nat} {a : Addr} {v : Value} (w1 : Jvm.Cond.fieldLink own index C f d ∈ ts) (F : Fld Z h a C f d v) (hd : decode code pc = .ok (.getfield index, 3)) (k : G h u w (mkF m (pc + 3) L (v :: S))) : G h u w (mkF m pc L (.ref a :: S)) := by
  refine K.move (fun p e s args below meth c T locs hx hZ hown hby hml hnm X eT N => ?_)
  obtain ⟨T', X', e', st⟩ := getF X hx hZ hown (host := "") (Or.inl (K.1 _ w1)) Via.refl eT F (g := mkF m pc L (.ref a :: S)) rfl rfl (hb hby hd)
  exact ⟨T', locs, u, w, _, X', N, by rw [e']; exact k, st⟩
theorem Wk.putf (K : Wk Z a0 ts l own nm code ml R n0 m G) {C f d : String} {index kk : Nat} {a : Addr} {v old : Value} {ty : FieldType} (w1 : Jvm.Cond.fieldLink own index C f d ∈ ts) (F : Fld Z h a C f d old) (E : Exa Z h a C) (hn : n0 ≤ a) (w2 : Jvm.Cond.lays C C f d ∈ ts ∨ (Jvm.Cond.laysFinal C C f d ∈ ts ∧ own = C ∧ nm = "<init>")) (w3 : Jvm.Cond.instantiable C kk ∈ ts)
    (hty : parseFieldDescriptor d = some ty) (hnr : narrow ty v = v) (hf : fits ty v = true) (hd : decode code pc = .ok (.putfield index, 3)) (k : ∀ h', Wr h h' a (Jvm.RoadKit.slotOf Z C f d) v → Fld Z h' a C f d v → Exa Z h' a C → G h' u w (mkF m (pc + 3) L S)) : G h u w (mkF m pc L (v :: .ref a :: S)) := by
  refine K.move (fun p e s args below meth c T locs hx hZ hown hby hml hnm X eT N => ?_)
  obtain ⟨T', h', X', e', W, st⟩ := putF X hx hZ hown (host := "") (Or.inl (K.1 _ w1)) Via.refl eT F E (w2.imp (K.1 _) (fun q => ⟨K.1 _ q.1, q.2.1, hnm.trans q.2.2⟩)) (K.1 _ w3) hty hnr hf (g := mkF m pc L (v :: .ref a :: S)) rfl rfl (hb hby hd)
  refine ⟨T', _, u, w, _, X', Fr.snoc X' N hn, ?_, st⟩
  rw [e']
  exact k h' W (F.same W) (E.wr W)
theorem Wk.initobj (K : Wk Z a0 ts l own nm code ml R n0 m G) {index W : Nat} {a : Addr} (w1 : Jvm.Cond.methodLink own index Lib.objectInit ∈ ts) (w2 : Jvm.Cond.instanceMethod Lib.objectInit ∈ ts) (w3 : Jvm.Cond.code Lib.objectInit ⟨#[0xb1]⟩ 1 none ∈ ts) (hd : decode code pc = .ok (.invokespecial index, 3)) (hL : L.size = ml) (hf : 1 ≤ R.frames) (hW : (S.map fun v => v.category).sum ≤ W) (hl : W + 12 ≤ R.locals)
    (k : G h u w (mkF m (pc + 3) L S)) : G h u w (mkF m pc L (.ref a :: S)) := by
  refine K.move (fun p e s args below meth c T locs hx hZ hown hby hml hnm X eT N => ?_)
  obtain ⟨T', X', e', st⟩ := initO X hx hZ hown (K.1 _ w1) (K.1 _ w2) (K.1 _ w3) eT (g := mkF m pc L (.ref a :: S)) rfl (hL.trans hml.symm) rfl (hb hby hd) hf (W := W) (by show 2 * 0 + _ ≤ _; omega) hl
  exact ⟨T', locs, u, w, _, X', N, by rw [e']; exact k, st⟩
/-- what a body's contract says here -/
def Con (Z : State) (l : Launch) (n0 : Nat) (y : MethodName) (bytes : ByteArray) (maxL : Nat) (ret : Option FieldType) (ws : List Jvm.Cond) (rm : Room) (as : Array Value) (h : Heap) (Post : Option Value → Heap → Prop) : Prop :=
  MetFree l y (head1 (Jvm.Cond.code y bytes maxL ret :: ws) rm) (fun a U => a = as ∧ Z.Warmed39 U.vm ∧ U.heap = h) (fun _ _ _ _ _ => True) (fun _ U o U' => ∃ v Lc, o = .returned v ∧ (Post v U'.heap ∧ Fr n0 Lc) ∧ FrameEnd U o U' Lc rm.cells rm.slots)
theorem Wk.callS (K : Wk Z a0 ts l own nm code ml R n0 m G) {index W maxL : Nat} {y : MethodName} {bytes : ByteArray} {ret : Option FieldType} {rm : Room} {Post : Option Value → Heap → Prop} (as rest : List Value) {ps : List FieldType} {rr : Option FieldType} (w1 : Jvm.Cond.methodLink own index y ∈ ts) (w2 : Jvm.Cond.static y ∈ ts) (w3 : Jvm.Cond.initialized y.cls ∈ ts) (w4 : Jvm.Cond.code y bytes maxL ret ∈ ts) (hy : y.cls ≠ "java/lang/invoke/MethodHandle" ∧ y.cls ≠ "java/lang/invoke/VarHandle")
    (hM : Con Z l n0 y bytes maxL ret [] rm as.toArray h Post) (hf : rm.frames + 1 ≤ R.frames) (hl : W + (maxL + 11) + rm.locals ≤ R.locals) (hp : parseMethodDescriptor y.desc = some ⟨ps, rr⟩) (hlen : as.length = ps.length) (hst : S = as.reverse ++ rest) (hW : (rest.map fun v => v.category).sum ≤ W) (hL : L.size = ml) (hd : decode code pc = .ok (.invokestatic index, 3)) (hc : u + rm.cells ≤ R.cells) (hs : w + rm.slots ≤ R.slots)
    (k : ∀ v h', Post v h' → G h' (u + rm.cells) (w + rm.slots) (mkF m (pc + 3) L (v.toList ++ rest))) : G h u w (mkF m pc L S) := by
  subst hst
  refine K.move (fun p e s args below meth c T locs hx hZ hown hby hml hnm X eT N => ?_)
  obtain ⟨v, _, ⟨T', L', k', n'⟩, -, X', ⟨Lc, hQ, hl1, hy1, hz1⟩, st⟩ := Jvm.LawKit.callS X hx (y := y) hown (mvT hZ (K.1 _ w1)) (mvT hZ (K.1 _ w2)) (mvT hZ (K.1 _ w3)) (mvT hZ (K.1 _ w4)) hy (backOf (W := W) (Q := fun v h Lc => Post v h ∧ Fr n0 Lc) hM hZ (K.1 _ w4) (K.1 _ w3) hf hl) (g := mkF m pc L (as.reverse ++ rest)) rfl (hL.trans hml.symm) (argsL := as) (rest := rest) (lenOf hp hlen) rfl (by show 2 * 0 + _ ≤ _; omega) (hb hby hd) (fun _ _ => ⟨rfl, eT, hc, hs⟩)
  dsimp only [Pt.U, Pt.locs, Pt.cells, Pt.slots] at X' hl1 hy1 hz1 st hQ
  subst hl1 hy1 hz1
  exact ⟨T', _, _, _, _, X', Fr.app N hQ.2, k v _ hQ.1, st⟩
theorem Wk.callI (K : Wk Z a0 ts l own nm code ml R n0 m G) {index W maxL : Nat} {y : MethodName} {bytes : ByteArray} {rm : Room} {Post : Option Value → Heap → Prop} {a : Addr} (as rest : List Value) {ps : List FieldType} {rr : Option FieldType} (hi : y.name = "<init>") (w1 : Jvm.Cond.methodLink own index y ∈ ts) (w2 : Jvm.Cond.instanceMethod y ∈ ts) (w3 : Jvm.Cond.initialized y.cls ∈ ts) (w4 : Jvm.Cond.code y bytes maxL none ∈ ts) (hy : y.cls ≠ "java/lang/invoke/MethodHandle" ∧ y.cls ≠ "java/lang/invoke/VarHandle")
    (hM : Con Z l n0 y bytes maxL none [] rm (.ref a :: as).toArray h Post) (hf : rm.frames + 1 ≤ R.frames) (hl : W + (maxL + 11) + rm.locals ≤ R.locals) (hp : parseMethodDescriptor y.desc = some ⟨ps, rr⟩) (hlen : as.length = ps.length) (hst : S = as.reverse ++ .ref a :: rest) (hW : (rest.map fun v => v.category).sum ≤ W) (hL : L.size = ml) (hd : decode code pc = .ok (.invokespecial index, 3)) (hc : u + rm.cells ≤ R.cells) (hs : w + rm.slots ≤ R.slots)
    (k : ∀ v h', Post v h' → G h' (u + rm.cells) (w + rm.slots) (mkF m (pc + 3) L (v.toList ++ rest))) : G h u w (mkF m pc L S) := by
  subst hst
  refine K.move (fun p e s args below meth c T locs hx hZ hown hby hml hnm X eT N => ?_)
  obtain ⟨v, _, ⟨T', L', k', n'⟩, -, X', ⟨Lc, hQ, hl1, hy1, hz1⟩, st⟩ := X.specialBack hx (y := y) hi hown (mvT hZ (K.1 _ w1)) (mvT hZ (K.1 _ w2)) (mvT hZ (K.1 _ w4)) hy (backOf (W := W) (Q := fun v h Lc => Post v h ∧ Fr n0 Lc) hM hZ (K.1 _ w4) (K.1 _ w3) hf hl) (g := mkF m pc L (as.reverse ++ .ref a :: rest)) rfl (hL.trans hml.symm) (Steps.refl _) (a := a) (argsL := as) (rest := rest) (lenOf hp hlen) rfl (by show 2 * 0 + _ ≤ _; omega) (hb hby hd) (fun _ _ => ⟨rfl, eT, hc, hs⟩)
  dsimp only [Pt.U, Pt.locs, Pt.cells, Pt.slots] at X' hl1 hy1 hz1 st hQ
  subst hl1 hy1 hz1
  exact ⟨T', _, _, _, _, X', Fr.app N hQ.2, k v _ hQ.1, fun t q => st.trans q⟩
theorem Wk.callV (K : Wk Z a0 ts l own nm code ml R n0 m G) {index W maxL : Nat} {y : MethodName} {bytes : ByteArray} {ret : Option FieldType} {rm : Room} {Post : Option Value → Heap → Prop} {a : Addr} (as rest : List Value) {ps : List FieldType} {rr : Option FieldType} (w1 : Jvm.Cond.methodLink own index y ∈ ts) (w2 : Jvm.Cond.declares y ∈ ts) (w5 : Jvm.Cond.selects y.cls y y ∈ ts) (w6 : Jvm.Cond.instanceMethod y ∈ ts) (w3 : Jvm.Cond.initialized y.cls ∈ ts) (w4 : Jvm.Cond.code y bytes maxL ret ∈ ts) (hy : y.cls ≠ "java/lang/invoke/MethodHandle" ∧ y.cls ≠ "java/lang/invoke/VarHandle") (E : Exa Z h a y.cls)
    (hM : Con Z l n0 y bytes maxL ret [] rm (.ref a :: as).toArray h Post) (hf : rm.frames + 1 ≤ R.frames) (hl : W + (maxL + 11) + rm.locals ≤ R.locals) (hp : parseMethodDescriptor y.desc = some ⟨ps, rr⟩) (hlen : as.length = ps.length) (hst : S = as.reverse ++ .ref a :: rest) (hW : (rest.map fun v => v.category).sum ≤ W) (hL : L.size = ml) (hd : decode code pc = .ok (.invokevirtual index, 3)) (hc : u + rm.cells ≤ R.cells) (hs : w + rm.slots ≤ R.slots)
    (k : ∀ v h', Post v h' → G h' (u + rm.cells) (w + rm.slots) (mkF m (pc + 3) L (v.toList ++ rest))) : G h u w (mkF m pc L S) := by
  subst hst
  refine K.move (fun p e s args below meth c T locs hx hZ hown hby hml hnm X eT N => ?_)
  obtain ⟨cq, kq, qa, qb, qc⟩ := isOf hZ eT E
  obtain ⟨v, _, ⟨T', L', k', n'⟩, -, X', ⟨Lc, hQ, hl1, hy1, hz1⟩, st⟩ := X.virtualBack hx (y := y) (z := y) hown (mvT hZ (K.1 _ w1)) (mvT hZ (K.1 _ w2)) (notFace_of_selects (args := #[]) (mvT hZ (K.1 _ w5))) (mvT hZ (K.1 _ w5)) (mvT hZ (K.1 _ w6)) hy (backOf (W := W) (Q := fun v h Lc => Post v h ∧ Fr n0 Lc) hM hZ (K.1 _ w4) (K.1 _ w3) hf hl) qa qc (g := mkF m pc L (as.reverse ++ .ref a :: rest)) rfl (hL.trans hml.symm) (Steps.refl _) (argsL := as) (rest := rest) (lenOf hp hlen) rfl (by show 2 * 0 + _ ≤ _; omega) (hb hby hd) (fun _ _ => ⟨rfl, eT, hc, hs⟩)
  dsimp only [Pt.U, Pt.locs, Pt.cells, Pt.slots] at X' hl1 hy1 hz1 st hQ
  subst hl1 hy1 hz1
  exact ⟨T', _, _, _, _, X', Fr.app N hQ.2, k v _ hQ.1, fun t q => st.trans q⟩
/-- the frame g stands at a return, with v to hand back -/
def Ret (ret : Option FieldType) (code : ByteArray) (m : MethodId) (g : JFrame) (v : Option Value) : Prop :=
  (∃ (pc : Nat) (L : Array Slot), ret = none ∧ decode code pc = .ok (.return_, 1) ∧ g = mkF m pc L [] ∧ v = none) ∨
  ∃ (pc : Nat) (L : Array Slot) (S : List Value) (x : Value) (t : FieldType) (i : Instr), ret = some t ∧ narrow t x = x ∧ ((i = .ireturn ∧ (t = .int ∨ t = .boolean ∨ t = .byte ∨ t = .char ∨ t = .short) ∧ ∃ z, x = .int z) ∨ (i = .lreturn ∧ t = .long ∧ ∃ z, x = .long z) ∨ (i = .dreturn ∧ t = .double ∧ ∃ z, x = .double z) ∨ (i = .freturn ∧ t = .float ∧ ∃ z, x = .float z) ∨ (i = .areturn ∧ t.isReference = true ∧ x.isRef = true)) ∧ decode code pc = .ok (i, 1) ∧ g = mkF m pc L (x :: S) ∧ v = some x
theorem con_of {y : MethodName} {bytes : ByteArray} {maxL : Nat} {ret : Option FieldType} {rm : Room} (ws : List Jvm.Cond) {as : Array Value} {L0 : Array Slot} {Post : Option Value → Heap → Prop} (hpn : plainFor y = true) (hw : ∀ d ∈ ts, d.before a0 Z = true) (hef : ∀ m, entryFrame m as maxL = mkF m 0 L0 [])
    (body : ∀ (m : MethodId) (G : Heap → Nat → Nat → JFrame → Prop), Wk Z a0 ts l y.cls y.name bytes maxL rm n0 m G → (∀ (h : Heap) (k n : Nat) (g : JFrame) (v : Option Value), Ret ret bytes m g v → k ≤ rm.cells → n ≤ rm.slots → Post v h → G h k n g) → G h 0 0 (mkF m 0 L0 [])) :
    Con Z l n0 y bytes maxL ret ws rm as h Post := by
  unfold Con
  refine MetFree.of_bodySF (code := bytes) (maxLocals := maxL) (ret := ret) hpn hisR ?_
  intro p e s m args below meth c s₁ Bd hml0 hP hK
  obtain ⟨rfl, hZ, hh⟩ := hP
  have hx := Bd.exec
  have hby := Bd.bytes
  have hown : s.vm.findClass y.cls = some m.cls := findClass_of_methodNamed Bd.named
  have hnm := (name_of_methodNamed Bd.named Bd.method).1
  have X0 : Stand p l e rm s m args below meth c s₁ [] 0 0 := Stand.of_body Bd
  have e0 : s₁.heap = h := by rw [← hh, Bd.state]; rfl
  obtain ⟨T', locs', k', n', g', X', N', ⟨v, hR, hk', hn', hPost⟩, go⟩ := body m (Wp p l e rm s m args below meth c n0 (fun h k n g => ∃ v, Ret ret bytes m g v ∧ k ≤ rm.cells ∧ n ≤ rm.slots ∧ Post v h))
    ⟨hw, p, e, s, args, below, meth, c, _, hx, hZ, hown, hby, hml0, hnm, rfl⟩ (fun h k n g v hR hk hn hP T locs X eT N => ⟨T, locs, k, n, g, X, N, ⟨v, hR, hk, hn, by rw [eT]; exact hP⟩, fun t q => q⟩) s₁ [] X0 e0 (Fr.nil n0)
  have hv : meth.sig.returnType = none → v = none := by
    intro q
    rcases hR with ⟨pc, L, r1, r2, r3, r4⟩ | ⟨pc, L, S, x, t, i, r1, -⟩
    · exact r4
    · rw [Bd.returns, r1] at q; cases q
  obtain ⟨fs, hr, hrun, hended, hW, hsame⟩ := X'.leave (v := v) hv
  refine ⟨_, _, castTop (hef m) (go _ ?_), hrun, hended, _, _, rfl, ⟨hPost, N'⟩, ⟨_, rfl⟩, hW, hsame.mono hk' hn'⟩
  rcases hR with ⟨pc, L, r1, r2, rfl, rfl⟩ | ⟨pc, L, S, x, t, i, r1, r2, r3, r4, rfl, rfl⟩
  · exact X'.returnOut hx (Bd.returns.trans r1) (hb hby r2) hr
  · exact retOut X' hx (Bd.returns.trans r1) r2 r3 (hb hby r4) hr
end Laws
theorem Ret.v {code : ByteArray} {m : MethodId} {pc : Nat} {L : Array Slot} (hd : decode code pc = .ok (.return_, 1)) : Ret none code m (mkF m pc L []) none := Or.inl ⟨pc, L, rfl, hd, rfl, rfl⟩
theorem Ret.i {code : ByteArray} {m : MethodId} {pc : Nat} {L : Array Slot} {S : List Value} {z : Int32} (hd : decode code pc = .ok (.ireturn, 1)) : Ret (some .int) code m (mkF m pc L (.int z :: S)) (some (.int z)) := Or.inr ⟨pc, L, S, _, .int, .ireturn, rfl, rfl, Or.inl ⟨rfl, Or.inl rfl, z, rfl⟩, hd, rfl, rfl⟩
theorem Ret.z {code : ByteArray} {m : MethodId} {pc : Nat} {L : Array Slot} {S : List Value} {z : Int32} (hd : decode code pc = .ok (.ireturn, 1)) (hz : z = 0 ∨ z = 1) : Ret (some .boolean) code m (mkF m pc L (.int z :: S)) (some (.int z)) := Or.inr ⟨pc, L, S, _, .boolean, .ireturn, rfl, by rcases hz with rfl | rfl <;> rfl, Or.inl ⟨rfl, Or.inr (Or.inl rfl), z, rfl⟩, hd, rfl, rfl⟩
theorem Ret.l {code : ByteArray} {m : MethodId} {pc : Nat} {L : Array Slot} {S : List Value} {z : Int64} (hd : decode code pc = .ok (.lreturn, 1)) : Ret (some .long) code m (mkF m pc L (.long z :: S)) (some (.long z)) := Or.inr ⟨pc, L, S, _, .long, .lreturn, rfl, rfl, Or.inr (Or.inl ⟨rfl, rfl, z, rfl⟩), hd, rfl, rfl⟩
theorem Ret.a {code : ByteArray} {m : MethodId} {pc : Nat} {L : Array Slot} {S : List Value} {z : Addr} {t : FieldType} (ht : t.isReference = true) (hd : decode code pc = .ok (.areturn, 1)) : Ret (some t) code m (mkF m pc L (.ref z :: S)) (some (.ref z)) := Or.inr ⟨pc, L, S, _, t, .areturn, rfl, (by cases t <;> first | rfl | (cases ht)), Or.inr (Or.inr (Or.inr (Or.inr ⟨rfl, ht, rfl⟩))), hd, rfl, rfl⟩
theorem h_lt (x y : Int32) : if_icmp.holds .lt x y = decide (x.toInt < y.toInt) := by simp [if_icmp.holds, Int32.lt_iff_toInt_lt]
theorem h_ge (x y : Int32) : if_icmp.holds .ge x y = decide (y.toInt ≤ x.toInt) := by simp [if_icmp.holds, Int32.le_iff_toInt_le]
theorem h_gt (x y : Int32) : if_icmp.holds .gt x y = decide (y.toInt < x.toInt) := by simp [if_icmp.holds, Int32.lt_iff_toInt_lt]
theorem h_le (x y : Int32) : if_icmp.holds .le x y = decide (x.toInt ≤ y.toInt) := by simp [if_icmp.holds, Int32.le_iff_toInt_le]
theorem h_eq (x y : Int32) : if_icmp.holds .eq x y = decide (x.toInt = y.toInt) := by
  by_cases q : x = y <;> simp [if_icmp.holds, Int32.toInt_inj, q]
theorem h_ne (x y : Int32) : if_icmp.holds .ne x y = decide (¬ x.toInt = y.toInt) := by
  by_cases q : x = y <;> simp [if_icmp.holds, Int32.toInt_inj, q]
theorem hk_lt {x y : Int32} {p q : Int} (ex : x.toInt = p) (ey : y.toInt = q) : if_icmp.holds .lt x y = decide (p < q) := by subst ex ey; exact h_lt x y
theorem hk_ge {x y : Int32} {p q : Int} (ex : x.toInt = p) (ey : y.toInt = q) : if_icmp.holds .ge x y = decide (q ≤ p) := by subst ex ey; exact h_ge x y
theorem hk_gt {x y : Int32} {p q : Int} (ex : x.toInt = p) (ey : y.toInt = q) : if_icmp.holds .gt x y = decide (q < p) := by subst ex ey; exact h_gt x y
theorem hk_le {x y : Int32} {p q : Int} (ex : x.toInt = p) (ey : y.toInt = q) : if_icmp.holds .le x y = decide (p ≤ q) := by subst ex ey; exact h_le x y
theorem hk_eq {x y : Int32} {p q : Int} (ex : x.toInt = p) (ey : y.toInt = q) : if_icmp.holds .eq x y = decide (p = q) := by subst ex ey; exact h_eq x y
theorem hk_ne {x y : Int32} {p q : Int} (ex : x.toInt = p) (ey : y.toInt = q) : if_icmp.holds .ne x y = decide (¬ p = q) := by subst ex ey; exact h_ne x y
theorem z_lt (x : Int32) : ifCond.holds .lt x = decide (x.toInt < 0) := by simp [ifCond.holds, Int32.lt_iff_toInt_lt]
theorem z_ge (x : Int32) : ifCond.holds .ge x = decide (0 ≤ x.toInt) := by simp [ifCond.holds, Int32.le_iff_toInt_le]
theorem z_gt (x : Int32) : ifCond.holds .gt x = decide (0 < x.toInt) := by simp [ifCond.holds, Int32.lt_iff_toInt_lt]
theorem z_le (x : Int32) : ifCond.holds .le x = decide (x.toInt ≤ 0) := by simp [ifCond.holds, Int32.le_iff_toInt_le]
theorem z_eq (x : Int32) : ifCond.holds .eq x = decide (x.toInt = 0) := by
  have e : x.toInt = 0 ↔ x = 0 := by rw [← Int32.toInt_zero, Int32.toInt_inj]
  by_cases q : x = 0 <;> simp [ifCond.holds, e, q]
theorem z_ne (x : Int32) : ifCond.holds .ne x = decide (¬ x.toInt = 0) := by
  have e : x.toInt = 0 ↔ x = 0 := by rw [← Int32.toInt_zero, Int32.toInt_inj]
  by_cases q : x = 0 <;> simp [ifCond.holds, e, q]
theorem oInt {a : Nat} (ha : a < 2147483648) : (Int32.ofNat a).toInt = (a : Int) := Int32.toInt_ofNat_small (by omega)
theorem oAdd (a b : Nat) : Int32.ofNat a + Int32.ofNat b = Int32.ofNat (a + b) := (Int32.ofNat_add a b).symm
theorem oMul (a b : Nat) : Int32.ofNat a * Int32.ofNat b = Int32.ofNat (a * b) := (Int32.ofNat_mul a b).symm
theorem oSub {a b : Nat} (h : b ≤ a) : Int32.ofNat a - Int32.ofNat b = Int32.ofNat (a - b) := by
  obtain ⟨c, rfl⟩ := Nat.exists_eq_add_of_le h
  rw [Nat.add_sub_cancel_left, Int32.ofNat_add, Int32.add_comm, Int32.add_sub_cancel]
theorem oInc (a : Nat) : Int32.ofNat a + Int32.ofInt 1 = Int32.ofNat (a + 1) := (Int32.ofNat_add a 1).symm
theorem oInj {a b : Nat} (ha : a < 2147483648) (hb : b < 2147483648) : Int32.ofNat a = Int32.ofNat b ↔ a = b := by
  rw [← Int32.toInt_inj, oInt ha, oInt hb]; omega
theorem oDiv {a b : Nat} (ha : a < 2147483648) (hb : b < 2147483648) : Int32.ofNat a / Int32.ofNat b = Int32.ofNat (a / b) := by
  rw [← Int32.toInt_inj, Int32.toInt_div_of_ne_left _ _ (by rw [ne_eq, ← Int32.toInt_inj, oInt ha]; show ¬ (a : Int) = -2147483648; omega), oInt ha, oInt hb, oInt (Nat.lt_of_le_of_lt (Nat.div_le_self a b) ha)]
  exact (Int.ofNat_tdiv a b).symm
theorem oMod {a b : Nat} (ha : a < 2147483648) (hb : b < 2147483648) : Int32.ofNat a - Int32.ofNat a / Int32.ofNat b * Int32.ofNat b = Int32.ofNat (a % b) := by
  rw [oDiv ha hb, oMul, oSub (Nat.div_mul_le_self a b)]
  congr 1
  have := Nat.mod_add_div a b
  rw [Nat.mul_comm] at this
  omega
theorem n_lt {a b : Nat} (ha : a < 2147483648) (hb : b < 2147483648) : if_icmp.holds .lt (Int32.ofNat a) (Int32.ofNat b) = decide (a < b) := by rw [hk_lt (oInt ha) (oInt hb)]; simp
theorem n_ge {a b : Nat} (ha : a < 2147483648) (hb : b < 2147483648) : if_icmp.holds .ge (Int32.ofNat a) (Int32.ofNat b) = decide (b ≤ a) := by rw [hk_ge (oInt ha) (oInt hb)]; simp
theorem n_gt {a b : Nat} (ha : a < 2147483648) (hb : b < 2147483648) : if_icmp.holds .gt (Int32.ofNat a) (Int32.ofNat b) = decide (b < a) := by rw [hk_gt (oInt ha) (oInt hb)]; simp
theorem n_le {a b : Nat} (ha : a < 2147483648) (hb : b < 2147483648) : if_icmp.holds .le (Int32.ofNat a) (Int32.ofNat b) = decide (a ≤ b) := by rw [hk_le (oInt ha) (oInt hb)]; simp
theorem n_eq {a b : Nat} (ha : a < 2147483648) (hb : b < 2147483648) : if_icmp.holds .eq (Int32.ofNat a) (Int32.ofNat b) = decide (a = b) := by rw [hk_eq (oInt ha) (oInt hb)]; congr 1; apply propext; omega
theorem n_ne {a b : Nat} (ha : a < 2147483648) (hb : b < 2147483648) : if_icmp.holds .ne (Int32.ofNat a) (Int32.ofNat b) = decide (¬ a = b) := by rw [hk_ne (oInt ha) (oInt hb)]; congr 1; apply propext; omega
theorem nz_eq {a : Nat} (ha : a < 2147483648) : ifCond.holds .eq (Int32.ofNat a) = decide (a = 0) := by rw [z_eq, oInt ha]; congr 1; apply propext; omega
theorem nz_ne {a : Nat} (ha : a < 2147483648) : ifCond.holds .ne (Int32.ofNat a) = decide (¬ a = 0) := by rw [z_ne, oInt ha]; congr 1; apply propext; omega
theorem nz_lt {a : Nat} (ha : a < 2147483648) : ifCond.holds .lt (Int32.ofNat a) = decide False := by rw [z_lt, oInt ha]; congr 1; apply propext; simp
theorem nz_ge {a : Nat} (ha : a < 2147483648) : ifCond.holds .ge (Int32.ofNat a) = decide True := by rw [z_ge, oInt ha]; congr 1; apply propext; simp
theorem nz_gt {a : Nat} (ha : a < 2147483648) : ifCond.holds .gt (Int32.ofNat a) = decide (0 < a) := by rw [z_gt, oInt ha]; congr 1; apply propext; omega
theorem nz_le {a : Nat} (ha : a < 2147483648) : ifCond.holds .le (Int32.ofNat a) = decide (a = 0) := by rw [z_le, oInt ha]; congr 1; apply propext; omega
end Jvm.Own
namespace Jvm.Pilot.@@N@@
open Jvm Jvm.ClassFile Sem Op Lib Jvm.Free Jvm.Stand Jvm.LawKit Jvm.RoadKit Bundle Jvm.Own Jvm.Pilot.@@N@@.Jvm.D
theorem d1_0 : decode prog_8_method_19_code 0 = .ok (.iconst 3, 1) := by decide +kernel
theorem d1_1 : decode prog_8_method_19_code 1 = .ok (.iload_n 0, 1) := by decide +kernel
theorem d1_2 : decode prog_8_method_19_code 2 = .ok (.if_icmp .ge 12, 3) := by decide +kernel
theorem d1_5 : decode prog_8_method_19_code 5 = .ok (.iload_n 0, 1) := by decide +kernel
theorem d1_6 : decode prog_8_method_19_code 6 = .ok (.iload_n 1, 1) := by decide +kernel
theorem d1_7 : decode prog_8_method_19_code 7 = .ok (.if_icmp .ge 7, 3) := by decide +kernel
theorem d1_10 : decode prog_8_method_19_code 10 = .ok (.iconst 1, 1) := by decide +kernel
theorem d1_11 : decode prog_8_method_19_code 11 = .ok (.goto 4, 3) := by decide +kernel
theorem d1_14 : decode prog_8_method_19_code 14 = .ok (.iconst 0, 1) := by decide +kernel
theorem d1_15 : decode prog_8_method_19_code 15 = .ok (.ireturn, 1) := by decide +kernel
theorem pn_1 : plainName "com/example/winnow/winnow/CodePoints" = true := by first | (simp [plainName, overriddenIn]; done) | decide +kernel
theorem ef_1 (m : MethodId) (p0 : Int32) (p1 : Int32) : entryFrame m #[(.int p0), (.int p1)] 2 = mkF m 0 #[.val (.int p0), .val (.int p1)] [] := by first | (simp [entryFrame, mkF, argsToLocals, Value.category, maxLocals]; done) | rfl
set_option maxRecDepth 65536 in
set_option maxHeartbeats 40000000 in
theorem rm1 (l : Launch) (Z : State) (a0 : Array Value) (hw : ∀ d ∈ tables_1, d.before a0 Z = true) (ws : List Jvm.Cond) (p0 p1 : Int32) (h : Heap) (n0 : Nat) :
    Con Z l n0 ⟨"com/example/winnow/winnow/CodePoints", "movesBack", "(II)Z"⟩ prog_8_method_19_code 2 (some .boolean) ws { frames := 0, cells := 0, slots := 0, locals := 0 } #[.int p0, .int p1] h (fun v h' => ∃ r : Int32, v = some (.int r) ∧ h' = h ∧ ((r.toInt = 1 ∧ (3 < p0.toInt ∧ p0.toInt < p1.toInt)) ∨ (r.toInt = 0 ∧ ¬ (3 < p0.toInt ∧ p0.toInt < p1.toInt)))) := by
  refine con_of ws (plainFor_of_name pn_1) hw (fun m => ef_1 m p0 p1) (fun m G K hret => ?_)
  have e1 : (1 : Int32).toInt = 1 := rfl
  have e0 : (0 : Int32).toInt = 0 := rfl
  refine K.iconst (v := (3 : Int32)) d1_0 rfl ?_
  refine K.iloadN d1_1 rfl ?_
  refine K.icmp _ (pc' := 14) d1_2 (hk_ge (p := 3) rfl rfl) (by decide) (by decide) (fun c2 => ?_) (fun c2 => ?_)
  · -- c2 taken -> 14
    refine K.iconst (v := (0 : Int32)) d1_14 rfl ?_
    exact hret _ _ _ _ _ (Ret.z d1_15 (by decide)) (by decide) (by decide) ⟨_, rfl, rfl, by omega⟩
  · -- c2 not -> 5
    refine K.iloadN d1_5 rfl ?_
    refine K.iloadN d1_6 rfl ?_
    refine K.icmp _ (pc' := 14) d1_7 (hk_ge rfl rfl) (by decide) (by decide) (fun c7 => ?_) (fun c7 => ?_)
    · -- c7 taken -> 14
      refine K.iconst (v := (0 : Int32)) d1_14 rfl ?_
      exact hret _ _ _ _ _ (Ret.z d1_15 (by decide)) (by decide) (by decide) ⟨_, rfl, rfl, by omega⟩
    · -- c7 not -> 10
      refine K.iconst (v := (1 : Int32)) d1_10 rfl ?_
      refine K.goto (pc' := 15) d1_11 (by decide) (by decide) ?_
      exact hret _ _ _ _ _ (Ret.z d1_15 (by decide)) (by decide) (by decide) ⟨_, rfl, rfl, by omega⟩
theorem pn_0 : plainName "com/example/winnow/winnow/CodePointsMovesBackPinLaw" = true := by first | (simp [plainName, overriddenIn]; done) | decide +kernel
theorem ef_0 (m : MethodId) (p0 : Int32) (p1 : Int32) (p2 : Int32) : entryFrame m #[(.int p0), (.int p1), (.int p2)] maxLocals = mkF m 0 #[.val (.int p0), .val (.int p1), .val (.int p2), .unset, .unset, .unset, .unset, .unset, .unset, .unset] [] := by first | (simp [entryFrame, mkF, argsToLocals, Value.category, maxLocals]; done) | rfl
set_option maxRecDepth 65536 in
set_option maxHeartbeats 40000000 in
theorem rm0 (l : Launch) (Z : State) (a0 : Array Value) (hw : ∀ d ∈ tables_1, d.before a0 Z = true) (ws : List Jvm.Cond) (p0 p1 p2 : Int32) (h : Heap) (n0 : Nat) (Z0 : n0 ≤ h.size) :
    Con Z l n0 x code maxLocals ret ws room_1 #[.int p0, .int p1, .int p2] h (fun v _ => v = some (.int 1)) := by
  refine con_of ws (plainFor_of_name pn_0) hw (fun m => ef_0 m p0 p1 p2) (fun m G K hret => ?_)
  have e1 : (1 : Int32).toInt = 1 := rfl
  have e0 : (0 : Int32).toInt = 0 := rfl
  have e3 : (3 : Int32).toInt = 3 := rfl
  have tail : ∀ s t : Int32, G h 0 0 (mkF m 31 #[.val (.int p0), .val (.int p1), .val (.int p2), .val (.int s), .val (.int t), .unset, .unset, .unset, .unset, .unset] []) := by
    intro s t
    obtain ⟨D1, hD1⟩ : ∃ D, s - 3 = D := ⟨_, rfl⟩
    obtain ⟨D2, hD2⟩ : ∃ D, t - 3 = D := ⟨_, rfl⟩
    have b1 := Int32.toInt_lt s
    have b2 := Int32.toInt_lt t
    have q1 : 3 < s.toInt → D1.toInt = s.toInt - 3 := fun q => by rw [← hD1, Jvm.Kit.i32_sub (by omega) (by omega), e3]
    have q2 : 3 < t.toInt → D2.toInt = t.toInt - 3 := fun q => by rw [← hD2, Jvm.Kit.i32_sub (by omega) (by omega), e3]
    refine K.iloadN at_31 rfl ?_
    refine K.iconst (v := (3 : Int32)) at_32 rfl ?_
    refine K.icmp _ (pc' := 46) at_33 (hk_le (q := 3) rfl rfl) (by decide) (by decide) (fun c33 => ?_) (fun c33 => ?_)
    · -- c33 taken -> 46
      refine K.iconst (v := (0 : Int32)) at_46 rfl ?_
      refine K.istore (L' := #[.val (.int p0), .val (.int p1), .val (.int p2), .val (.int s), .val (.int t), .val (.int (0 : Int32)), .unset, .unset, .unset, .unset]) at_47 rfl ?_
      refine K.iload at_49 rfl ?_
      refine K.ifc _ (pc' := 68) at_51 (z_eq _) (by decide) (by decide) (fun c51 => ?_) (fun c51 => ?_)
      · -- c51 taken -> 68
        refine K.iconst (v := (0 : Int32)) at_68 rfl ?_
        refine K.istore (L' := #[.val (.int p0), .val (.int p1), .val (.int p2), .val (.int s), .val (.int t), .val (.int (0 : Int32)), .val (.int (0 : Int32)), .unset, .unset, .unset]) at_69 rfl ?_
        refine K.iloadN at_71 rfl ?_
        refine K.iload at_72 rfl ?_
        refine K.callS (ps := [.int, .int]) (rr := some .boolean) (W := 0) [(.int s), (.int t)] [] (List.mem_of_getElem? (i := 0) rfl) (List.mem_of_getElem? (i := 1) rfl) (List.mem_of_getElem? (i := 2) rfl) (List.mem_of_getElem? (i := 3) rfl) (by decide) (rm1 l Z a0 hw [] _ _ _ n0) (by decide) (by decide) (by decide +kernel) rfl rfl (by decide) rfl at_74 (by decide) (by decide) (fun v1 h1 Q1 => ?_)
        obtain ⟨r1, rfl, rfl, hr1⟩ := Q1
        show G _ _ _ (mkF m 77 #[.val (.int p0), .val (.int p1), .val (.int p2), .val (.int s), .val (.int t), .val (.int (0 : Int32)), .val (.int (0 : Int32)), .unset, .unset, .unset] [(.int r1)])
        refine K.istore (L' := #[.val (.int p0), .val (.int p1), .val (.int p2), .val (.int s), .val (.int t), .val (.int (0 : Int32)), .val (.int (0 : Int32)), .val (.int r1), .unset, .unset]) at_77 rfl ?_
        refine K.iload at_79 rfl ?_
        refine K.iloadN at_81 rfl ?_
        refine K.callS (ps := [.int, .int]) (rr := some .boolean) (W := 0) [(.int t), (.int s)] [] (List.mem_of_getElem? (i := 0) rfl) (List.mem_of_getElem? (i := 1) rfl) (List.mem_of_getElem? (i := 2) rfl) (List.mem_of_getElem? (i := 3) rfl) (by decide) (rm1 l Z a0 hw [] _ _ _ n0) (by decide) (by decide) (by decide +kernel) rfl rfl (by decide) rfl at_82 (by decide) (by decide) (fun v2 h2 Q2 => ?_)
        obtain ⟨r2, rfl, rfl, hr2⟩ := Q2
        show G _ _ _ (mkF m 85 #[.val (.int p0), .val (.int p1), .val (.int p2), .val (.int s), .val (.int t), .val (.int (0 : Int32)), .val (.int (0 : Int32)), .val (.int r1), .unset, .unset] [(.int r2)])
        refine K.istore (L' := #[.val (.int p0), .val (.int p1), .val (.int p2), .val (.int s), .val (.int t), .val (.int (0 : Int32)), .val (.int (0 : Int32)), .val (.int r1), .val (.int r2), .unset]) at_85 rfl ?_
        refine K.iloadN at_87 rfl ?_
        refine K.iloadN at_88 rfl ?_
        refine K.callS (ps := [.int, .int]) (rr := some .boolean) (W := 0) [(.int s), (.int s)] [] (List.mem_of_getElem? (i := 0) rfl) (List.mem_of_getElem? (i := 1) rfl) (List.mem_of_getElem? (i := 2) rfl) (List.mem_of_getElem? (i := 3) rfl) (by decide) (rm1 l Z a0 hw [] _ _ _ n0) (by decide) (by decide) (by decide +kernel) rfl rfl (by decide) rfl at_89 (by decide) (by decide) (fun v3 h3 Q3 => ?_)
        obtain ⟨r3, rfl, rfl, hr3⟩ := Q3
        show G _ _ _ (mkF m 92 #[.val (.int p0), .val (.int p1), .val (.int p2), .val (.int s), .val (.int t), .val (.int (0 : Int32)), .val (.int (0 : Int32)), .val (.int r1), .val (.int r2), .unset] [(.int r3)])
        refine K.istore (L' := #[.val (.int p0), .val (.int p1), .val (.int p2), .val (.int s), .val (.int t), .val (.int (0 : Int32)), .val (.int (0 : Int32)), .val (.int r1), .val (.int r2), .val (.int r3)]) at_92 rfl ?_
        refine K.iload at_94 rfl ?_
        refine K.iload at_96 rfl ?_
        refine K.icmp _ (pc' := 120) at_98 (hk_ne (q := 0) rfl rfl) (by decide) (by decide) (fun c98 => ?_) (fun c98 => ?_)
        · -- c98 taken -> 120
          refine K.iconst (v := (0 : Int32)) at_120 rfl ?_
          exact hret _ _ _ _ _ (Ret.z at_121 (by decide)) (by decide) (by decide) (by first | rfl | (exfalso; omega))
        · -- c98 not -> 101
          refine K.iload at_101 rfl ?_
          refine K.ifc _ (pc' := 111) at_103 (z_eq _) (by decide) (by decide) (fun c103 => ?_) (fun c103 => ?_)
          · -- c103 taken -> 111
            refine K.iload at_111 rfl ?_
            refine K.ifc _ (pc' := 120) at_113 (z_ne _) (by decide) (by decide) (fun c113 => ?_) (fun c113 => ?_)
            · -- c113 taken -> 120
              refine K.iconst (v := (0 : Int32)) at_120 rfl ?_
              exact hret _ _ _ _ _ (Ret.z at_121 (by decide)) (by decide) (by decide) (by first | rfl | (exfalso; omega))
            · -- c113 not -> 116
              refine K.iconst (v := (1 : Int32)) at_116 rfl ?_
              refine K.goto (pc' := 121) at_117 (by decide) (by decide) ?_
              exact hret _ _ _ _ _ (Ret.z at_121 (by decide)) (by decide) (by decide) (by first | rfl | (exfalso; omega))
          · -- c103 not -> 106
            refine K.iload at_106 rfl ?_
            refine K.ifc _ (pc' := 120) at_108 (z_ne _) (by decide) (by decide) (fun c108 => ?_) (fun c108 => ?_)
            · -- c108 taken -> 120
              refine K.iconst (v := (0 : Int32)) at_120 rfl ?_
              exact hret _ _ _ _ _ (Ret.z at_121 (by decide)) (by decide) (by decide) (by first | rfl | (exfalso; omega))
            · -- c108 not -> 111
              refine K.iload at_111 rfl ?_
              refine K.ifc _ (pc' := 120) at_113 (z_ne _) (by decide) (by decide) (fun c113 => ?_) (fun c113 => ?_)
              · -- c113 taken -> 120
                refine K.iconst (v := (0 : Int32)) at_120 rfl ?_
                exact hret _ _ _ _ _ (Ret.z at_121 (by decide)) (by decide) (by decide) (by first | rfl | (exfalso; omega))
              · -- c113 not -> 116
                refine K.iconst (v := (1 : Int32)) at_116 rfl ?_
                refine K.goto (pc' := 121) at_117 (by decide) (by decide) ?_
                exact hret _ _ _ _ _ (Ret.z at_121 (by decide)) (by decide) (by decide) (by first | rfl | (exfalso; omega))
      · -- c51 not -> 54
        refine K.iloadN at_54 rfl ?_
        refine K.iconst (v := (3 : Int32)) at_55 rfl ?_
        refine K.isub (z := D1) at_56 hD1 ?_
        refine K.iload at_57 rfl ?_
        refine K.iconst (v := (3 : Int32)) at_59 rfl ?_
        refine K.isub (z := D2) at_60 hD2 ?_
        refine K.icmp _ (pc' := 68) at_61 (hk_ge rfl rfl) (by decide) (by decide) (fun c61 => ?_) (fun c61 => ?_)
        · -- c61 taken -> 68
          refine K.iconst (v := (0 : Int32)) at_68 rfl ?_
          refine K.istore (L' := #[.val (.int p0), .val (.int p1), .val (.int p2), .val (.int s), .val (.int t), .val (.int (0 : Int32)), .val (.int (0 : Int32)), .unset, .unset, .unset]) at_69 rfl ?_
          refine K.iloadN at_71 rfl ?_
          refine K.iload at_72 rfl ?_
          refine K.callS (ps := [.int, .int]) (rr := some .boolean) (W := 0) [(.int s), (.int t)] [] (List.mem_of_getElem? (i := 0) rfl) (List.mem_of_getElem? (i := 1) rfl) (List.mem_of_getElem? (i := 2) rfl) (List.mem_of_getElem? (i := 3) rfl) (by decide) (rm1 l Z a0 hw [] _ _ _ n0) (by decide) (by decide) (by decide +kernel) rfl rfl (by decide) rfl at_74 (by decide) (by decide) (fun v4 h4 Q4 => ?_)
          obtain ⟨r4, rfl, rfl, hr4⟩ := Q4
          show G _ _ _ (mkF m 77 #[.val (.int p0), .val (.int p1), .val (.int p2), .val (.int s), .val (.int t), .val (.int (0 : Int32)), .val (.int (0 : Int32)), .unset, .unset, .unset] [(.int r4)])
          refine K.istore (L' := #[.val (.int p0), .val (.int p1), .val (.int p2), .val (.int s), .val (.int t), .val (.int (0 : Int32)), .val (.int (0 : Int32)), .val (.int r4), .unset, .unset]) at_77 rfl ?_
          refine K.iload at_79 rfl ?_
          refine K.iloadN at_81 rfl ?_
          refine K.callS (ps := [.int, .int]) (rr := some .boolean) (W := 0) [(.int t), (.int s)] [] (List.mem_of_getElem? (i := 0) rfl) (List.mem_of_getElem? (i := 1) rfl) (List.mem_of_getElem? (i := 2) rfl) (List.mem_of_getElem? (i := 3) rfl) (by decide) (rm1 l Z a0 hw [] _ _ _ n0) (by decide) (by decide) (by decide +kernel) rfl rfl (by decide) rfl at_82 (by decide) (by decide) (fun v5 h5 Q5 => ?_)
          obtain ⟨r5, rfl, rfl, hr5⟩ := Q5
          show G _ _ _ (mkF m 85 #[.val (.int p0), .val (.int p1), .val (.int p2), .val (.int s), .val (.int t), .val (.int (0 : Int32)), .val (.int (0 : Int32)), .val (.int r4), .unset, .unset] [(.int r5)])
          refine K.istore (L' := #[.val (.int p0), .val (.int p1), .val (.int p2), .val (.int s), .val (.int t), .val (.int (0 : Int32)), .val (.int (0 : Int32)), .val (.int r4), .val (.int r5), .unset]) at_85 rfl ?_
          refine K.iloadN at_87 rfl ?_
          refine K.iloadN at_88 rfl ?_
          refine K.callS (ps := [.int, .int]) (rr := some .boolean) (W := 0) [(.int s), (.int s)] [] (List.mem_of_getElem? (i := 0) rfl) (List.mem_of_getElem? (i := 1) rfl) (List.mem_of_getElem? (i := 2) rfl) (List.mem_of_getElem? (i := 3) rfl) (by decide) (rm1 l Z a0 hw [] _ _ _ n0) (by decide) (by decide) (by decide +kernel) rfl rfl (by decide) rfl at_89 (by decide) (by decide) (fun v6 h6 Q6 => ?_)
          obtain ⟨r6, rfl, rfl, hr6⟩ := Q6
          show G _ _ _ (mkF m 92 #[.val (.int p0), .val (.int p1), .val (.int p2), .val (.int s), .val (.int t), .val (.int (0 : Int32)), .val (.int (0 : Int32)), .val (.int r4), .val (.int r5), .unset] [(.int r6)])
          refine K.istore (L' := #[.val (.int p0), .val (.int p1), .val (.int p2), .val (.int s), .val (.int t), .val (.int (0 : Int32)), .val (.int (0 : Int32)), .val (.int r4), .val (.int r5), .val (.int r6)]) at_92 rfl ?_
          refine K.iload at_94 rfl ?_
          refine K.iload at_96 rfl ?_
          refine K.icmp _ (pc' := 120) at_98 (hk_ne (q := 0) rfl rfl) (by decide) (by decide) (fun c98 => ?_) (fun c98 => ?_)
          · -- c98 taken -> 120
            refine K.iconst (v := (0 : Int32)) at_120 rfl ?_
            exact hret _ _ _ _ _ (Ret.z at_121 (by decide)) (by decide) (by decide) (by first | rfl | (exfalso; omega))
          · -- c98 not -> 101
            refine K.iload at_101 rfl ?_
            refine K.ifc _ (pc' := 111) at_103 (z_eq _) (by decide) (by decide) (fun c103 => ?_) (fun c103 => ?_)
            · -- c103 taken -> 111
              refine K.iload at_111 rfl ?_
              refine K.ifc _ (pc' := 120) at_113 (z_ne _) (by decide) (by decide) (fun c113 => ?_) (fun c113 => ?_)
              · -- c113 taken -> 120
                refine K.iconst (v := (0 : Int32)) at_120 rfl ?_
                exact hret _ _ _ _ _ (Ret.z at_121 (by decide)) (by decide) (by decide) (by first | rfl | (exfalso; omega))
              · -- c113 not -> 116
                refine K.iconst (v := (1 : Int32)) at_116 rfl ?_
                refine K.goto (pc' := 121) at_117 (by decide) (by decide) ?_
                exact hret _ _ _ _ _ (Ret.z at_121 (by decide)) (by decide) (by decide) (by first | rfl | (exfalso; omega))
            · -- c103 not -> 106
              refine K.iload at_106 rfl ?_
              refine K.ifc _ (pc' := 120) at_108 (z_ne _) (by decide) (by decide) (fun c108 => ?_) (fun c108 => ?_)
              · -- c108 taken -> 120
                refine K.iconst (v := (0 : Int32)) at_120 rfl ?_
                exact hret _ _ _ _ _ (Ret.z at_121 (by decide)) (by decide) (by decide) (by first | rfl | (exfalso; omega))
              · -- c108 not -> 111
                refine K.iload at_111 rfl ?_
                refine K.ifc _ (pc' := 120) at_113 (z_ne _) (by decide) (by decide) (fun c113 => ?_) (fun c113 => ?_)
                · -- c113 taken -> 120
                  refine K.iconst (v := (0 : Int32)) at_120 rfl ?_
                  exact hret _ _ _ _ _ (Ret.z at_121 (by decide)) (by decide) (by decide) (by first | rfl | (exfalso; omega))
                · -- c113 not -> 116
                  refine K.iconst (v := (1 : Int32)) at_116 rfl ?_
                  refine K.goto (pc' := 121) at_117 (by decide) (by decide) ?_
                  exact hret _ _ _ _ _ (Ret.z at_121 (by decide)) (by decide) (by decide) (by first | rfl | (exfalso; omega))
        · -- c61 not -> 64
          refine K.iconst (v := (1 : Int32)) at_64 rfl ?_
          refine K.goto (pc' := 69) at_65 (by decide) (by decide) ?_
          refine K.istore (L' := #[.val (.int p0), .val (.int p1), .val (.int p2), .val (.int s), .val (.int t), .val (.int (0 : Int32)), .val (.int (1 : Int32)), .unset, .unset, .unset]) at_69 rfl ?_
          refine K.iloadN at_71 rfl ?_
          refine K.iload at_72 rfl ?_
          refine K.callS (ps := [.int, .int]) (rr := some .boolean) (W := 0) [(.int s), (.int t)] [] (List.mem_of_getElem? (i := 0) rfl) (List.mem_of_getElem? (i := 1) rfl) (List.mem_of_getElem? (i := 2) rfl) (List.mem_of_getElem? (i := 3) rfl) (by decide) (rm1 l Z a0 hw [] _ _ _ n0) (by decide) (by decide) (by decide +kernel) rfl rfl (by decide) rfl at_74 (by decide) (by decide) (fun v7 h7 Q7 => ?_)
          obtain ⟨r7, rfl, rfl, hr7⟩ := Q7
          show G _ _ _ (mkF m 77 #[.val (.int p0), .val (.int p1), .val (.int p2), .val (.int s), .val (.int t), .val (.int (0 : Int32)), .val (.int (1 : Int32)), .unset, .unset, .unset] [(.int r7)])
          refine K.istore (L' := #[.val (.int p0), .val (.int p1), .val (.int p2), .val (.int s), .val (.int t), .val (.int (0 : Int32)), .val (.int (1 : Int32)), .val (.int r7), .unset, .unset]) at_77 rfl ?_
          refine K.iload at_79 rfl ?_
          refine K.iloadN at_81 rfl ?_
          refine K.callS (ps := [.int, .int]) (rr := some .boolean) (W := 0) [(.int t), (.int s)] [] (List.mem_of_getElem? (i := 0) rfl) (List.mem_of_getElem? (i := 1) rfl) (List.mem_of_getElem? (i := 2) rfl) (List.mem_of_getElem? (i := 3) rfl) (by decide) (rm1 l Z a0 hw [] _ _ _ n0) (by decide) (by decide) (by decide +kernel) rfl rfl (by decide) rfl at_82 (by decide) (by decide) (fun v8 h8 Q8 => ?_)
          obtain ⟨r8, rfl, rfl, hr8⟩ := Q8
          show G _ _ _ (mkF m 85 #[.val (.int p0), .val (.int p1), .val (.int p2), .val (.int s), .val (.int t), .val (.int (0 : Int32)), .val (.int (1 : Int32)), .val (.int r7), .unset, .unset] [(.int r8)])
          refine K.istore (L' := #[.val (.int p0), .val (.int p1), .val (.int p2), .val (.int s), .val (.int t), .val (.int (0 : Int32)), .val (.int (1 : Int32)), .val (.int r7), .val (.int r8), .unset]) at_85 rfl ?_
          refine K.iloadN at_87 rfl ?_
          refine K.iloadN at_88 rfl ?_
          refine K.callS (ps := [.int, .int]) (rr := some .boolean) (W := 0) [(.int s), (.int s)] [] (List.mem_of_getElem? (i := 0) rfl) (List.mem_of_getElem? (i := 1) rfl) (List.mem_of_getElem? (i := 2) rfl) (List.mem_of_getElem? (i := 3) rfl) (by decide) (rm1 l Z a0 hw [] _ _ _ n0) (by decide) (by decide) (by decide +kernel) rfl rfl (by decide) rfl at_89 (by decide) (by decide) (fun v9 h9 Q9 => ?_)
          obtain ⟨r9, rfl, rfl, hr9⟩ := Q9
          show G _ _ _ (mkF m 92 #[.val (.int p0), .val (.int p1), .val (.int p2), .val (.int s), .val (.int t), .val (.int (0 : Int32)), .val (.int (1 : Int32)), .val (.int r7), .val (.int r8), .unset] [(.int r9)])
          refine K.istore (L' := #[.val (.int p0), .val (.int p1), .val (.int p2), .val (.int s), .val (.int t), .val (.int (0 : Int32)), .val (.int (1 : Int32)), .val (.int r7), .val (.int r8), .val (.int r9)]) at_92 rfl ?_
          refine K.iload at_94 rfl ?_
          refine K.iload at_96 rfl ?_
          refine K.icmp _ (pc' := 120) at_98 (hk_ne (q := 1) rfl rfl) (by decide) (by decide) (fun c98 => ?_) (fun c98 => ?_)
          · -- c98 taken -> 120
            refine K.iconst (v := (0 : Int32)) at_120 rfl ?_
            exact hret _ _ _ _ _ (Ret.z at_121 (by decide)) (by decide) (by decide) (by first | rfl | (exfalso; omega))
          · -- c98 not -> 101
            refine K.iload at_101 rfl ?_
            refine K.ifc _ (pc' := 111) at_103 (z_eq _) (by decide) (by decide) (fun c103 => ?_) (fun c103 => ?_)
            · -- c103 taken -> 111
              refine K.iload at_111 rfl ?_
              refine K.ifc _ (pc' := 120) at_113 (z_ne _) (by decide) (by decide) (fun c113 => ?_) (fun c113 => ?_)
              · -- c113 taken -> 120
                refine K.iconst (v := (0 : Int32)) at_120 rfl ?_
                exact hret _ _ _ _ _ (Ret.z at_121 (by decide)) (by decide) (by decide) (by first | rfl | (exfalso; omega))
              · -- c113 not -> 116
                refine K.iconst (v := (1 : Int32)) at_116 rfl ?_
                refine K.goto (pc' := 121) at_117 (by decide) (by decide) ?_
                exact hret _ _ _ _ _ (Ret.z at_121 (by decide)) (by decide) (by decide) (by first | rfl | (exfalso; omega))
            · -- c103 not -> 106
              refine K.iload at_106 rfl ?_
              refine K.ifc _ (pc' := 120) at_108 (z_ne _) (by decide) (by decide) (fun c108 => ?_) (fun c108 => ?_)
              · -- c108 taken -> 120
                refine K.iconst (v := (0 : Int32)) at_120 rfl ?_
                exact hret _ _ _ _ _ (Ret.z at_121 (by decide)) (by decide) (by decide) (by first | rfl | (exfalso; omega))
              · -- c108 not -> 111
                refine K.iload at_111 rfl ?_
                refine K.ifc _ (pc' := 120) at_113 (z_ne _) (by decide) (by decide) (fun c113 => ?_) (fun c113 => ?_)
                · -- c113 taken -> 120
                  refine K.iconst (v := (0 : Int32)) at_120 rfl ?_
                  exact hret _ _ _ _ _ (Ret.z at_121 (by decide)) (by decide) (by decide) (by first | rfl | (exfalso; omega))
                · -- c113 not -> 116
                  refine K.iconst (v := (1 : Int32)) at_116 rfl ?_
                  refine K.goto (pc' := 121) at_117 (by decide) (by decide) ?_
                  exact hret _ _ _ _ _ (Ret.z at_121 (by decide)) (by decide) (by decide) (by first | rfl | (exfalso; omega))
    · -- c33 not -> 36
      refine K.iload at_36 rfl ?_
      refine K.iconst (v := (3 : Int32)) at_38 rfl ?_
      refine K.icmp _ (pc' := 46) at_39 (hk_le (q := 3) rfl rfl) (by decide) (by decide) (fun c39 => ?_) (fun c39 => ?_)
      · -- c39 taken -> 46
        refine K.iconst (v := (0 : Int32)) at_46 rfl ?_
        refine K.istore (L' := #[.val (.int p0), .val (.int p1), .val (.int p2), .val (.int s), .val (.int t), .val (.int (0 : Int32)), .unset, .unset, .unset, .unset]) at_47 rfl ?_
        refine K.iload at_49 rfl ?_
        refine K.ifc _ (pc' := 68) at_51 (z_eq _) (by decide) (by decide) (fun c51 => ?_) (fun c51 => ?_)
        · -- c51 taken -> 68
          refine K.iconst (v := (0 : Int32)) at_68 rfl ?_
          refine K.istore (L' := #[.val (.int p0), .val (.int p1), .val (.int p2), .val (.int s), .val (.int t), .val (.int (0 : Int32)), .val (.int (0 : Int32)), .unset, .unset, .unset]) at_69 rfl ?_
          refine K.iloadN at_71 rfl ?_
          refine K.iload at_72 rfl ?_
          refine K.callS (ps := [.int, .int]) (rr := some .boolean) (W := 0) [(.int s), (.int t)] [] (List.mem_of_getElem? (i := 0) rfl) (List.mem_of_getElem? (i := 1) rfl) (List.mem_of_getElem? (i := 2) rfl) (List.mem_of_getElem? (i := 3) rfl) (by decide) (rm1 l Z a0 hw [] _ _ _ n0) (by decide) (by decide) (by decide +kernel) rfl rfl (by decide) rfl at_74 (by decide) (by decide) (fun v10 h10 Q10 => ?_)
          obtain ⟨r10, rfl, rfl, hr10⟩ := Q10
          show G _ _ _ (mkF m 77 #[.val (.int p0), .val (.int p1), .val (.int p2), .val (.int s), .val (.int t), .val (.int (0 : Int32)), .val (.int (0 : Int32)), .unset, .unset, .unset] [(.int r10)])
          refine K.istore (L' := #[.val (.int p0), .val (.int p1), .val (.int p2), .val (.int s), .val (.int t), .val (.int (0 : Int32)), .val (.int (0 : Int32)), .val (.int r10), .unset, .unset]) at_77 rfl ?_
          refine K.iload at_79 rfl ?_
          refine K.iloadN at_81 rfl ?_
          refine K.callS (ps := [.int, .int]) (rr := some .boolean) (W := 0) [(.int t), (.int s)] [] (List.mem_of_getElem? (i := 0) rfl) (List.mem_of_getElem? (i := 1) rfl) (List.mem_of_getElem? (i := 2) rfl) (List.mem_of_getElem? (i := 3) rfl) (by decide) (rm1 l Z a0 hw [] _ _ _ n0) (by decide) (by decide) (by decide +kernel) rfl rfl (by decide) rfl at_82 (by decide) (by decide) (fun v11 h11 Q11 => ?_)
          obtain ⟨r11, rfl, rfl, hr11⟩ := Q11
          show G _ _ _ (mkF m 85 #[.val (.int p0), .val (.int p1), .val (.int p2), .val (.int s), .val (.int t), .val (.int (0 : Int32)), .val (.int (0 : Int32)), .val (.int r10), .unset, .unset] [(.int r11)])
          refine K.istore (L' := #[.val (.int p0), .val (.int p1), .val (.int p2), .val (.int s), .val (.int t), .val (.int (0 : Int32)), .val (.int (0 : Int32)), .val (.int r10), .val (.int r11), .unset]) at_85 rfl ?_
          refine K.iloadN at_87 rfl ?_
          refine K.iloadN at_88 rfl ?_
          refine K.callS (ps := [.int, .int]) (rr := some .boolean) (W := 0) [(.int s), (.int s)] [] (List.mem_of_getElem? (i := 0) rfl) (List.mem_of_getElem? (i := 1) rfl) (List.mem_of_getElem? (i := 2) rfl) (List.mem_of_getElem? (i := 3) rfl) (by decide) (rm1 l Z a0 hw [] _ _ _ n0) (by decide) (by decide) (by decide +kernel) rfl rfl (by decide) rfl at_89 (by decide) (by decide) (fun v12 h12 Q12 => ?_)
          obtain ⟨r12, rfl, rfl, hr12⟩ := Q12
          show G _ _ _ (mkF m 92 #[.val (.int p0), .val (.int p1), .val (.int p2), .val (.int s), .val (.int t), .val (.int (0 : Int32)), .val (.int (0 : Int32)), .val (.int r10), .val (.int r11), .unset] [(.int r12)])
          refine K.istore (L' := #[.val (.int p0), .val (.int p1), .val (.int p2), .val (.int s), .val (.int t), .val (.int (0 : Int32)), .val (.int (0 : Int32)), .val (.int r10), .val (.int r11), .val (.int r12)]) at_92 rfl ?_
          refine K.iload at_94 rfl ?_
          refine K.iload at_96 rfl ?_
          refine K.icmp _ (pc' := 120) at_98 (hk_ne (q := 0) rfl rfl) (by decide) (by decide) (fun c98 => ?_) (fun c98 => ?_)
          · -- c98 taken -> 120
            refine K.iconst (v := (0 : Int32)) at_120 rfl ?_
            exact hret _ _ _ _ _ (Ret.z at_121 (by decide)) (by decide) (by decide) (by first | rfl | (exfalso; omega))
          · -- c98 not -> 101
            refine K.iload at_101 rfl ?_
            refine K.ifc _ (pc' := 111) at_103 (z_eq _) (by decide) (by decide) (fun c103 => ?_) (fun c103 => ?_)
            · -- c103 taken -> 111
              refine K.iload at_111 rfl ?_
              refine K.ifc _ (pc' := 120) at_113 (z_ne _) (by decide) (by decide) (fun c113 => ?_) (fun c113 => ?_)
              · -- c113 taken -> 120
                refine K.iconst (v := (0 : Int32)) at_120 rfl ?_
                exact hret _ _ _ _ _ (Ret.z at_121 (by decide)) (by decide) (by decide) (by first | rfl | (exfalso; omega))
              · -- c113 not -> 116
                refine K.iconst (v := (1 : Int32)) at_116 rfl ?_
                refine K.goto (pc' := 121) at_117 (by decide) (by decide) ?_
                exact hret _ _ _ _ _ (Ret.z at_121 (by decide)) (by decide) (by decide) (by first | rfl | (exfalso; omega))
            · -- c103 not -> 106
              refine K.iload at_106 rfl ?_
              refine K.ifc _ (pc' := 120) at_108 (z_ne _) (by decide) (by decide) (fun c108 => ?_) (fun c108 => ?_)
              · -- c108 taken -> 120
                refine K.iconst (v := (0 : Int32)) at_120 rfl ?_
                exact hret _ _ _ _ _ (Ret.z at_121 (by decide)) (by decide) (by decide) (by first | rfl | (exfalso; omega))
              · -- c108 not -> 111
                refine K.iload at_111 rfl ?_
                refine K.ifc _ (pc' := 120) at_113 (z_ne _) (by decide) (by decide) (fun c113 => ?_) (fun c113 => ?_)
                · -- c113 taken -> 120
                  refine K.iconst (v := (0 : Int32)) at_120 rfl ?_
                  exact hret _ _ _ _ _ (Ret.z at_121 (by decide)) (by decide) (by decide) (by first | rfl | (exfalso; omega))
                · -- c113 not -> 116
                  refine K.iconst (v := (1 : Int32)) at_116 rfl ?_
                  refine K.goto (pc' := 121) at_117 (by decide) (by decide) ?_
                  exact hret _ _ _ _ _ (Ret.z at_121 (by decide)) (by decide) (by decide) (by first | rfl | (exfalso; omega))
        · -- c51 not -> 54
          refine K.iloadN at_54 rfl ?_
          refine K.iconst (v := (3 : Int32)) at_55 rfl ?_
          refine K.isub (z := D1) at_56 hD1 ?_
          refine K.iload at_57 rfl ?_
          refine K.iconst (v := (3 : Int32)) at_59 rfl ?_
          refine K.isub (z := D2) at_60 hD2 ?_
          refine K.icmp _ (pc' := 68) at_61 (hk_ge rfl rfl) (by decide) (by decide) (fun c61 => ?_) (fun c61 => ?_)
          · -- c61 taken -> 68
            refine K.iconst (v := (0 : Int32)) at_68 rfl ?_
            refine K.istore (L' := #[.val (.int p0), .val (.int p1), .val (.int p2), .val (.int s), .val (.int t), .val (.int (0 : Int32)), .val (.int (0 : Int32)), .unset, .unset, .unset]) at_69 rfl ?_
            refine K.iloadN at_71 rfl ?_
            refine K.iload at_72 rfl ?_
            refine K.callS (ps := [.int, .int]) (rr := some .boolean) (W := 0) [(.int s), (.int t)] [] (List.mem_of_getElem? (i := 0) rfl) (List.mem_of_getElem? (i := 1) rfl) (List.mem_of_getElem? (i := 2) rfl) (List.mem_of_getElem? (i := 3) rfl) (by decide) (rm1 l Z a0 hw [] _ _ _ n0) (by decide) (by decide) (by decide +kernel) rfl rfl (by decide) rfl at_74 (by decide) (by decide) (fun v13 h13 Q13 => ?_)
            obtain ⟨r13, rfl, rfl, hr13⟩ := Q13
            show G _ _ _ (mkF m 77 #[.val (.int p0), .val (.int p1), .val (.int p2), .val (.int s), .val (.int t), .val (.int (0 : Int32)), .val (.int (0 : Int32)), .unset, .unset, .unset] [(.int r13)])
            refine K.istore (L' := #[.val (.int p0), .val (.int p1), .val (.int p2), .val (.int s), .val (.int t), .val (.int (0 : Int32)), .val (.int (0 : Int32)), .val (.int r13), .unset, .unset]) at_77 rfl ?_
            refine K.iload at_79 rfl ?_
            refine K.iloadN at_81 rfl ?_
            refine K.callS (ps := [.int, .int]) (rr := some .boolean) (W := 0) [(.int t), (.int s)] [] (List.mem_of_getElem? (i := 0) rfl) (List.mem_of_getElem? (i := 1) rfl) (List.mem_of_getElem? (i := 2) rfl) (List.mem_of_getElem? (i := 3) rfl) (by decide) (rm1 l Z a0 hw [] _ _ _ n0) (by decide) (by decide) (by decide +kernel) rfl rfl (by decide) rfl at_82 (by decide) (by decide) (fun v14 h14 Q14 => ?_)
            obtain ⟨r14, rfl, rfl, hr14⟩ := Q14
            show G _ _ _ (mkF m 85 #[.val (.int p0), .val (.int p1), .val (.int p2), .val (.int s), .val (.int t), .val (.int (0 : Int32)), .val (.int (0 : Int32)), .val (.int r13), .unset, .unset] [(.int r14)])
            refine K.istore (L' := #[.val (.int p0), .val (.int p1), .val (.int p2), .val (.int s), .val (.int t), .val (.int (0 : Int32)), .val (.int (0 : Int32)), .val (.int r13), .val (.int r14), .unset]) at_85 rfl ?_
            refine K.iloadN at_87 rfl ?_
            refine K.iloadN at_88 rfl ?_
            refine K.callS (ps := [.int, .int]) (rr := some .boolean) (W := 0) [(.int s), (.int s)] [] (List.mem_of_getElem? (i := 0) rfl) (List.mem_of_getElem? (i := 1) rfl) (List.mem_of_getElem? (i := 2) rfl) (List.mem_of_getElem? (i := 3) rfl) (by decide) (rm1 l Z a0 hw [] _ _ _ n0) (by decide) (by decide) (by decide +kernel) rfl rfl (by decide) rfl at_89 (by decide) (by decide) (fun v15 h15 Q15 => ?_)
            obtain ⟨r15, rfl, rfl, hr15⟩ := Q15
            show G _ _ _ (mkF m 92 #[.val (.int p0), .val (.int p1), .val (.int p2), .val (.int s), .val (.int t), .val (.int (0 : Int32)), .val (.int (0 : Int32)), .val (.int r13), .val (.int r14), .unset] [(.int r15)])
            refine K.istore (L' := #[.val (.int p0), .val (.int p1), .val (.int p2), .val (.int s), .val (.int t), .val (.int (0 : Int32)), .val (.int (0 : Int32)), .val (.int r13), .val (.int r14), .val (.int r15)]) at_92 rfl ?_
            refine K.iload at_94 rfl ?_
            refine K.iload at_96 rfl ?_
            refine K.icmp _ (pc' := 120) at_98 (hk_ne (q := 0) rfl rfl) (by decide) (by decide) (fun c98 => ?_) (fun c98 => ?_)
            · -- c98 taken -> 120
              refine K.iconst (v := (0 : Int32)) at_120 rfl ?_
              exact hret _ _ _ _ _ (Ret.z at_121 (by decide)) (by decide) (by decide) (by first | rfl | (exfalso; omega))
            · -- c98 not -> 101
              refine K.iload at_101 rfl ?_
              refine K.ifc _ (pc' := 111) at_103 (z_eq _) (by decide) (by decide) (fun c103 => ?_) (fun c103 => ?_)
              · -- c103 taken -> 111
                refine K.iload at_111 rfl ?_
                refine K.ifc _ (pc' := 120) at_113 (z_ne _) (by decide) (by decide) (fun c113 => ?_) (fun c113 => ?_)
                · -- c113 taken -> 120
                  refine K.iconst (v := (0 : Int32)) at_120 rfl ?_
                  exact hret _ _ _ _ _ (Ret.z at_121 (by decide)) (by decide) (by decide) (by first | rfl | (exfalso; omega))
                · -- c113 not -> 116
                  refine K.iconst (v := (1 : Int32)) at_116 rfl ?_
                  refine K.goto (pc' := 121) at_117 (by decide) (by decide) ?_
                  exact hret _ _ _ _ _ (Ret.z at_121 (by decide)) (by decide) (by decide) (by first | rfl | (exfalso; omega))
              · -- c103 not -> 106
                refine K.iload at_106 rfl ?_
                refine K.ifc _ (pc' := 120) at_108 (z_ne _) (by decide) (by decide) (fun c108 => ?_) (fun c108 => ?_)
                · -- c108 taken -> 120
                  refine K.iconst (v := (0 : Int32)) at_120 rfl ?_
                  exact hret _ _ _ _ _ (Ret.z at_121 (by decide)) (by decide) (by decide) (by first | rfl | (exfalso; omega))
                · -- c108 not -> 111
                  refine K.iload at_111 rfl ?_
                  refine K.ifc _ (pc' := 120) at_113 (z_ne _) (by decide) (by decide) (fun c113 => ?_) (fun c113 => ?_)
                  · -- c113 taken -> 120
                    refine K.iconst (v := (0 : Int32)) at_120 rfl ?_
                    exact hret _ _ _ _ _ (Ret.z at_121 (by decide)) (by decide) (by decide) (by first | rfl | (exfalso; omega))
                  · -- c113 not -> 116
                    refine K.iconst (v := (1 : Int32)) at_116 rfl ?_
                    refine K.goto (pc' := 121) at_117 (by decide) (by decide) ?_
                    exact hret _ _ _ _ _ (Ret.z at_121 (by decide)) (by decide) (by decide) (by first | rfl | (exfalso; omega))
          · -- c61 not -> 64
            refine K.iconst (v := (1 : Int32)) at_64 rfl ?_
            refine K.goto (pc' := 69) at_65 (by decide) (by decide) ?_
            refine K.istore (L' := #[.val (.int p0), .val (.int p1), .val (.int p2), .val (.int s), .val (.int t), .val (.int (0 : Int32)), .val (.int (1 : Int32)), .unset, .unset, .unset]) at_69 rfl ?_
            refine K.iloadN at_71 rfl ?_
            refine K.iload at_72 rfl ?_
            refine K.callS (ps := [.int, .int]) (rr := some .boolean) (W := 0) [(.int s), (.int t)] [] (List.mem_of_getElem? (i := 0) rfl) (List.mem_of_getElem? (i := 1) rfl) (List.mem_of_getElem? (i := 2) rfl) (List.mem_of_getElem? (i := 3) rfl) (by decide) (rm1 l Z a0 hw [] _ _ _ n0) (by decide) (by decide) (by decide +kernel) rfl rfl (by decide) rfl at_74 (by decide) (by decide) (fun v16 h16 Q16 => ?_)
            obtain ⟨r16, rfl, rfl, hr16⟩ := Q16
            show G _ _ _ (mkF m 77 #[.val (.int p0), .val (.int p1), .val (.int p2), .val (.int s), .val (.int t), .val (.int (0 : Int32)), .val (.int (1 : Int32)), .unset, .unset, .unset] [(.int r16)])
            refine K.istore (L' := #[.val (.int p0), .val (.int p1), .val (.int p2), .val (.int s), .val (.int t), .val (.int (0 : Int32)), .val (.int (1 : Int32)), .val (.int r16), .unset, .unset]) at_77 rfl ?_
            refine K.iload at_79 rfl ?_
            refine K.iloadN at_81 rfl ?_
            refine K.callS (ps := [.int, .int]) (rr := some .boolean) (W := 0) [(.int t), (.int s)] [] (List.mem_of_getElem? (i := 0) rfl) (List.mem_of_getElem? (i := 1) rfl) (List.mem_of_getElem? (i := 2) rfl) (List.mem_of_getElem? (i := 3) rfl) (by decide) (rm1 l Z a0 hw [] _ _ _ n0) (by decide) (by decide) (by decide +kernel) rfl rfl (by decide) rfl at_82 (by decide) (by decide) (fun v17 h17 Q17 => ?_)
            obtain ⟨r17, rfl, rfl, hr17⟩ := Q17
            show G _ _ _ (mkF m 85 #[.val (.int p0), .val (.int p1), .val (.int p2), .val (.int s), .val (.int t), .val (.int (0 : Int32)), .val (.int (1 : Int32)), .val (.int r16), .unset, .unset] [(.int r17)])
            refine K.istore (L' := #[.val (.int p0), .val (.int p1), .val (.int p2), .val (.int s), .val (.int t), .val (.int (0 : Int32)), .val (.int (1 : Int32)), .val (.int r16), .val (.int r17), .unset]) at_85 rfl ?_
            refine K.iloadN at_87 rfl ?_
            refine K.iloadN at_88 rfl ?_
            refine K.callS (ps := [.int, .int]) (rr := some .boolean) (W := 0) [(.int s), (.int s)] [] (List.mem_of_getElem? (i := 0) rfl) (List.mem_of_getElem? (i := 1) rfl) (List.mem_of_getElem? (i := 2) rfl) (List.mem_of_getElem? (i := 3) rfl) (by decide) (rm1 l Z a0 hw [] _ _ _ n0) (by decide) (by decide) (by decide +kernel) rfl rfl (by decide) rfl at_89 (by decide) (by decide) (fun v18 h18 Q18 => ?_)
            obtain ⟨r18, rfl, rfl, hr18⟩ := Q18
            show G _ _ _ (mkF m 92 #[.val (.int p0), .val (.int p1), .val (.int p2), .val (.int s), .val (.int t), .val (.int (0 : Int32)), .val (.int (1 : Int32)), .val (.int r16), .val (.int r17), .unset] [(.int r18)])
            refine K.istore (L' := #[.val (.int p0), .val (.int p1), .val (.int p2), .val (.int s), .val (.int t), .val (.int (0 : Int32)), .val (.int (1 : Int32)), .val (.int r16), .val (.int r17), .val (.int r18)]) at_92 rfl ?_
            refine K.iload at_94 rfl ?_
            refine K.iload at_96 rfl ?_
            refine K.icmp _ (pc' := 120) at_98 (hk_ne (q := 1) rfl rfl) (by decide) (by decide) (fun c98 => ?_) (fun c98 => ?_)
            · -- c98 taken -> 120
              refine K.iconst (v := (0 : Int32)) at_120 rfl ?_
              exact hret _ _ _ _ _ (Ret.z at_121 (by decide)) (by decide) (by decide) (by first | rfl | (exfalso; omega))
            · -- c98 not -> 101
              refine K.iload at_101 rfl ?_
              refine K.ifc _ (pc' := 111) at_103 (z_eq _) (by decide) (by decide) (fun c103 => ?_) (fun c103 => ?_)
              · -- c103 taken -> 111
                refine K.iload at_111 rfl ?_
                refine K.ifc _ (pc' := 120) at_113 (z_ne _) (by decide) (by decide) (fun c113 => ?_) (fun c113 => ?_)
                · -- c113 taken -> 120
                  refine K.iconst (v := (0 : Int32)) at_120 rfl ?_
                  exact hret _ _ _ _ _ (Ret.z at_121 (by decide)) (by decide) (by decide) (by first | rfl | (exfalso; omega))
                · -- c113 not -> 116
                  refine K.iconst (v := (1 : Int32)) at_116 rfl ?_
                  refine K.goto (pc' := 121) at_117 (by decide) (by decide) ?_
                  exact hret _ _ _ _ _ (Ret.z at_121 (by decide)) (by decide) (by decide) (by first | rfl | (exfalso; omega))
              · -- c103 not -> 106
                refine K.iload at_106 rfl ?_
                refine K.ifc _ (pc' := 120) at_108 (z_ne _) (by decide) (by decide) (fun c108 => ?_) (fun c108 => ?_)
                · -- c108 taken -> 120
                  refine K.iconst (v := (0 : Int32)) at_120 rfl ?_
                  exact hret _ _ _ _ _ (Ret.z at_121 (by decide)) (by decide) (by decide) (by first | rfl | (exfalso; omega))
                · -- c108 not -> 111
                  refine K.iload at_111 rfl ?_
                  refine K.ifc _ (pc' := 120) at_113 (z_ne _) (by decide) (by decide) (fun c113 => ?_) (fun c113 => ?_)
                  · -- c113 taken -> 120
                    refine K.iconst (v := (0 : Int32)) at_120 rfl ?_
                    exact hret _ _ _ _ _ (Ret.z at_121 (by decide)) (by decide) (by decide) (by first | rfl | (exfalso; omega))
                  · -- c113 not -> 116
                    refine K.iconst (v := (1 : Int32)) at_116 rfl ?_
                    refine K.goto (pc' := 121) at_117 (by decide) (by decide) ?_
                    exact hret _ _ _ _ _ (Ret.z at_121 (by decide)) (by decide) (by decide) (by first | rfl | (exfalso; omega))
      · -- c39 not -> 42
        refine K.iconst (v := (1 : Int32)) at_42 rfl ?_
        refine K.goto (pc' := 47) at_43 (by decide) (by decide) ?_
        refine K.istore (L' := #[.val (.int p0), .val (.int p1), .val (.int p2), .val (.int s), .val (.int t), .val (.int (1 : Int32)), .unset, .unset, .unset, .unset]) at_47 rfl ?_
        refine K.iload at_49 rfl ?_
        refine K.ifc _ (pc' := 68) at_51 (z_eq _) (by decide) (by decide) (fun c51 => ?_) (fun c51 => ?_)
        · -- c51 taken -> 68
          refine K.iconst (v := (0 : Int32)) at_68 rfl ?_
          refine K.istore (L' := #[.val (.int p0), .val (.int p1), .val (.int p2), .val (.int s), .val (.int t), .val (.int (1 : Int32)), .val (.int (0 : Int32)), .unset, .unset, .unset]) at_69 rfl ?_
          refine K.iloadN at_71 rfl ?_
          refine K.iload at_72 rfl ?_
          refine K.callS (ps := [.int, .int]) (rr := some .boolean) (W := 0) [(.int s), (.int t)] [] (List.mem_of_getElem? (i := 0) rfl) (List.mem_of_getElem? (i := 1) rfl) (List.mem_of_getElem? (i := 2) rfl) (List.mem_of_getElem? (i := 3) rfl) (by decide) (rm1 l Z a0 hw [] _ _ _ n0) (by decide) (by decide) (by decide +kernel) rfl rfl (by decide) rfl at_74 (by decide) (by decide) (fun v19 h19 Q19 => ?_)
          obtain ⟨r19, rfl, rfl, hr19⟩ := Q19
          show G _ _ _ (mkF m 77 #[.val (.int p0), .val (.int p1), .val (.int p2), .val (.int s), .val (.int t), .val (.int (1 : Int32)), .val (.int (0 : Int32)), .unset, .unset, .unset] [(.int r19)])
          refine K.istore (L' := #[.val (.int p0), .val (.int p1), .val (.int p2), .val (.int s), .val (.int t), .val (.int (1 : Int32)), .val (.int (0 : Int32)), .val (.int r19), .unset, .unset]) at_77 rfl ?_
          refine K.iload at_79 rfl ?_
          refine K.iloadN at_81 rfl ?_
          refine K.callS (ps := [.int, .int]) (rr := some .boolean) (W := 0) [(.int t), (.int s)] [] (List.mem_of_getElem? (i := 0) rfl) (List.mem_of_getElem? (i := 1) rfl) (List.mem_of_getElem? (i := 2) rfl) (List.mem_of_getElem? (i := 3) rfl) (by decide) (rm1 l Z a0 hw [] _ _ _ n0) (by decide) (by decide) (by decide +kernel) rfl rfl (by decide) rfl at_82 (by decide) (by decide) (fun v20 h20 Q20 => ?_)
          obtain ⟨r20, rfl, rfl, hr20⟩ := Q20
          show G _ _ _ (mkF m 85 #[.val (.int p0), .val (.int p1), .val (.int p2), .val (.int s), .val (.int t), .val (.int (1 : Int32)), .val (.int (0 : Int32)), .val (.int r19), .unset, .unset] [(.int r20)])
          refine K.istore (L' := #[.val (.int p0), .val (.int p1), .val (.int p2), .val (.int s), .val (.int t), .val (.int (1 : Int32)), .val (.int (0 : Int32)), .val (.int r19), .val (.int r20), .unset]) at_85 rfl ?_
          refine K.iloadN at_87 rfl ?_
          refine K.iloadN at_88 rfl ?_
          refine K.callS (ps := [.int, .int]) (rr := some .boolean) (W := 0) [(.int s), (.int s)] [] (List.mem_of_getElem? (i := 0) rfl) (List.mem_of_getElem? (i := 1) rfl) (List.mem_of_getElem? (i := 2) rfl) (List.mem_of_getElem? (i := 3) rfl) (by decide) (rm1 l Z a0 hw [] _ _ _ n0) (by decide) (by decide) (by decide +kernel) rfl rfl (by decide) rfl at_89 (by decide) (by decide) (fun v21 h21 Q21 => ?_)
          obtain ⟨r21, rfl, rfl, hr21⟩ := Q21
          show G _ _ _ (mkF m 92 #[.val (.int p0), .val (.int p1), .val (.int p2), .val (.int s), .val (.int t), .val (.int (1 : Int32)), .val (.int (0 : Int32)), .val (.int r19), .val (.int r20), .unset] [(.int r21)])
          refine K.istore (L' := #[.val (.int p0), .val (.int p1), .val (.int p2), .val (.int s), .val (.int t), .val (.int (1 : Int32)), .val (.int (0 : Int32)), .val (.int r19), .val (.int r20), .val (.int r21)]) at_92 rfl ?_
          refine K.iload at_94 rfl ?_
          refine K.iload at_96 rfl ?_
          refine K.icmp _ (pc' := 120) at_98 (hk_ne (q := 0) rfl rfl) (by decide) (by decide) (fun c98 => ?_) (fun c98 => ?_)
          · -- c98 taken -> 120
            refine K.iconst (v := (0 : Int32)) at_120 rfl ?_
            exact hret _ _ _ _ _ (Ret.z at_121 (by decide)) (by decide) (by decide) (by first | rfl | (exfalso; omega))
          · -- c98 not -> 101
            refine K.iload at_101 rfl ?_
            refine K.ifc _ (pc' := 111) at_103 (z_eq _) (by decide) (by decide) (fun c103 => ?_) (fun c103 => ?_)
            · -- c103 taken -> 111
              refine K.iload at_111 rfl ?_
              refine K.ifc _ (pc' := 120) at_113 (z_ne _) (by decide) (by decide) (fun c113 => ?_) (fun c113 => ?_)
              · -- c113 taken -> 120
                refine K.iconst (v := (0 : Int32)) at_120 rfl ?_
                exact hret _ _ _ _ _ (Ret.z at_121 (by decide)) (by decide) (by decide) (by first | rfl | (exfalso; omega))
              · -- c113 not -> 116
                refine K.iconst (v := (1 : Int32)) at_116 rfl ?_
                refine K.goto (pc' := 121) at_117 (by decide) (by decide) ?_
                exact hret _ _ _ _ _ (Ret.z at_121 (by decide)) (by decide) (by decide) (by first | rfl | (exfalso; omega))
            · -- c103 not -> 106
              refine K.iload at_106 rfl ?_
              refine K.ifc _ (pc' := 120) at_108 (z_ne _) (by decide) (by decide) (fun c108 => ?_) (fun c108 => ?_)
              · -- c108 taken -> 120
                refine K.iconst (v := (0 : Int32)) at_120 rfl ?_
                exact hret _ _ _ _ _ (Ret.z at_121 (by decide)) (by decide) (by decide) (by first | rfl | (exfalso; omega))
              · -- c108 not -> 111
                refine K.iload at_111 rfl ?_
                refine K.ifc _ (pc' := 120) at_113 (z_ne _) (by decide) (by decide) (fun c113 => ?_) (fun c113 => ?_)
                · -- c113 taken -> 120
                  refine K.iconst (v := (0 : Int32)) at_120 rfl ?_
                  exact hret _ _ _ _ _ (Ret.z at_121 (by decide)) (by decide) (by decide) (by first | rfl | (exfalso; omega))
                · -- c113 not -> 116
                  refine K.iconst (v := (1 : Int32)) at_116 rfl ?_
                  refine K.goto (pc' := 121) at_117 (by decide) (by decide) ?_
                  exact hret _ _ _ _ _ (Ret.z at_121 (by decide)) (by decide) (by decide) (by first | rfl | (exfalso; omega))
        · -- c51 not -> 54
          refine K.iloadN at_54 rfl ?_
          refine K.iconst (v := (3 : Int32)) at_55 rfl ?_
          refine K.isub (z := D1) at_56 hD1 ?_
          refine K.iload at_57 rfl ?_
          refine K.iconst (v := (3 : Int32)) at_59 rfl ?_
          refine K.isub (z := D2) at_60 hD2 ?_
          refine K.icmp _ (pc' := 68) at_61 (hk_ge rfl rfl) (by decide) (by decide) (fun c61 => ?_) (fun c61 => ?_)
          · -- c61 taken -> 68
            refine K.iconst (v := (0 : Int32)) at_68 rfl ?_
            refine K.istore (L' := #[.val (.int p0), .val (.int p1), .val (.int p2), .val (.int s), .val (.int t), .val (.int (1 : Int32)), .val (.int (0 : Int32)), .unset, .unset, .unset]) at_69 rfl ?_
            refine K.iloadN at_71 rfl ?_
            refine K.iload at_72 rfl ?_
            refine K.callS (ps := [.int, .int]) (rr := some .boolean) (W := 0) [(.int s), (.int t)] [] (List.mem_of_getElem? (i := 0) rfl) (List.mem_of_getElem? (i := 1) rfl) (List.mem_of_getElem? (i := 2) rfl) (List.mem_of_getElem? (i := 3) rfl) (by decide) (rm1 l Z a0 hw [] _ _ _ n0) (by decide) (by decide) (by decide +kernel) rfl rfl (by decide) rfl at_74 (by decide) (by decide) (fun v22 h22 Q22 => ?_)
            obtain ⟨r22, rfl, rfl, hr22⟩ := Q22
            show G _ _ _ (mkF m 77 #[.val (.int p0), .val (.int p1), .val (.int p2), .val (.int s), .val (.int t), .val (.int (1 : Int32)), .val (.int (0 : Int32)), .unset, .unset, .unset] [(.int r22)])
            refine K.istore (L' := #[.val (.int p0), .val (.int p1), .val (.int p2), .val (.int s), .val (.int t), .val (.int (1 : Int32)), .val (.int (0 : Int32)), .val (.int r22), .unset, .unset]) at_77 rfl ?_
            refine K.iload at_79 rfl ?_
            refine K.iloadN at_81 rfl ?_
            refine K.callS (ps := [.int, .int]) (rr := some .boolean) (W := 0) [(.int t), (.int s)] [] (List.mem_of_getElem? (i := 0) rfl) (List.mem_of_getElem? (i := 1) rfl) (List.mem_of_getElem? (i := 2) rfl) (List.mem_of_getElem? (i := 3) rfl) (by decide) (rm1 l Z a0 hw [] _ _ _ n0) (by decide) (by decide) (by decide +kernel) rfl rfl (by decide) rfl at_82 (by decide) (by decide) (fun v23 h23 Q23 => ?_)
            obtain ⟨r23, rfl, rfl, hr23⟩ := Q23
            show G _ _ _ (mkF m 85 #[.val (.int p0), .val (.int p1), .val (.int p2), .val (.int s), .val (.int t), .val (.int (1 : Int32)), .val (.int (0 : Int32)), .val (.int r22), .unset, .unset] [(.int r23)])
            refine K.istore (L' := #[.val (.int p0), .val (.int p1), .val (.int p2), .val (.int s), .val (.int t), .val (.int (1 : Int32)), .val (.int (0 : Int32)), .val (.int r22), .val (.int r23), .unset]) at_85 rfl ?_
            refine K.iloadN at_87 rfl ?_
            refine K.iloadN at_88 rfl ?_
            refine K.callS (ps := [.int, .int]) (rr := some .boolean) (W := 0) [(.int s), (.int s)] [] (List.mem_of_getElem? (i := 0) rfl) (List.mem_of_getElem? (i := 1) rfl) (List.mem_of_getElem? (i := 2) rfl) (List.mem_of_getElem? (i := 3) rfl) (by decide) (rm1 l Z a0 hw [] _ _ _ n0) (by decide) (by decide) (by decide +kernel) rfl rfl (by decide) rfl at_89 (by decide) (by decide) (fun v24 h24 Q24 => ?_)
            obtain ⟨r24, rfl, rfl, hr24⟩ := Q24
            show G _ _ _ (mkF m 92 #[.val (.int p0), .val (.int p1), .val (.int p2), .val (.int s), .val (.int t), .val (.int (1 : Int32)), .val (.int (0 : Int32)), .val (.int r22), .val (.int r23), .unset] [(.int r24)])
            refine K.istore (L' := #[.val (.int p0), .val (.int p1), .val (.int p2), .val (.int s), .val (.int t), .val (.int (1 : Int32)), .val (.int (0 : Int32)), .val (.int r22), .val (.int r23), .val (.int r24)]) at_92 rfl ?_
            refine K.iload at_94 rfl ?_
            refine K.iload at_96 rfl ?_
            refine K.icmp _ (pc' := 120) at_98 (hk_ne (q := 0) rfl rfl) (by decide) (by decide) (fun c98 => ?_) (fun c98 => ?_)
            · -- c98 taken -> 120
              refine K.iconst (v := (0 : Int32)) at_120 rfl ?_
              exact hret _ _ _ _ _ (Ret.z at_121 (by decide)) (by decide) (by decide) (by first | rfl | (exfalso; omega))
            · -- c98 not -> 101
              refine K.iload at_101 rfl ?_
              refine K.ifc _ (pc' := 111) at_103 (z_eq _) (by decide) (by decide) (fun c103 => ?_) (fun c103 => ?_)
              · -- c103 taken -> 111
                refine K.iload at_111 rfl ?_
                refine K.ifc _ (pc' := 120) at_113 (z_ne _) (by decide) (by decide) (fun c113 => ?_) (fun c113 => ?_)
                · -- c113 taken -> 120
                  refine K.iconst (v := (0 : Int32)) at_120 rfl ?_
                  exact hret _ _ _ _ _ (Ret.z at_121 (by decide)) (by decide) (by decide) (by first | rfl | (exfalso; omega))
                · -- c113 not -> 116
                  refine K.iconst (v := (1 : Int32)) at_116 rfl ?_
                  refine K.goto (pc' := 121) at_117 (by decide) (by decide) ?_
                  exact hret _ _ _ _ _ (Ret.z at_121 (by decide)) (by decide) (by decide) (by first | rfl | (exfalso; omega))
              · -- c103 not -> 106
                refine K.iload at_106 rfl ?_
                refine K.ifc _ (pc' := 120) at_108 (z_ne _) (by decide) (by decide) (fun c108 => ?_) (fun c108 => ?_)
                · -- c108 taken -> 120
                  refine K.iconst (v := (0 : Int32)) at_120 rfl ?_
                  exact hret _ _ _ _ _ (Ret.z at_121 (by decide)) (by decide) (by decide) (by first | rfl | (exfalso; omega))
                · -- c108 not -> 111
                  refine K.iload at_111 rfl ?_
                  refine K.ifc _ (pc' := 120) at_113 (z_ne _) (by decide) (by decide) (fun c113 => ?_) (fun c113 => ?_)
                  · -- c113 taken -> 120
                    refine K.iconst (v := (0 : Int32)) at_120 rfl ?_
                    exact hret _ _ _ _ _ (Ret.z at_121 (by decide)) (by decide) (by decide) (by first | rfl | (exfalso; omega))
                  · -- c113 not -> 116
                    refine K.iconst (v := (1 : Int32)) at_116 rfl ?_
                    refine K.goto (pc' := 121) at_117 (by decide) (by decide) ?_
                    exact hret _ _ _ _ _ (Ret.z at_121 (by decide)) (by decide) (by decide) (by first | rfl | (exfalso; omega))
          · -- c61 not -> 64
            refine K.iconst (v := (1 : Int32)) at_64 rfl ?_
            refine K.goto (pc' := 69) at_65 (by decide) (by decide) ?_
            refine K.istore (L' := #[.val (.int p0), .val (.int p1), .val (.int p2), .val (.int s), .val (.int t), .val (.int (1 : Int32)), .val (.int (1 : Int32)), .unset, .unset, .unset]) at_69 rfl ?_
            refine K.iloadN at_71 rfl ?_
            refine K.iload at_72 rfl ?_
            refine K.callS (ps := [.int, .int]) (rr := some .boolean) (W := 0) [(.int s), (.int t)] [] (List.mem_of_getElem? (i := 0) rfl) (List.mem_of_getElem? (i := 1) rfl) (List.mem_of_getElem? (i := 2) rfl) (List.mem_of_getElem? (i := 3) rfl) (by decide) (rm1 l Z a0 hw [] _ _ _ n0) (by decide) (by decide) (by decide +kernel) rfl rfl (by decide) rfl at_74 (by decide) (by decide) (fun v25 h25 Q25 => ?_)
            obtain ⟨r25, rfl, rfl, hr25⟩ := Q25
            show G _ _ _ (mkF m 77 #[.val (.int p0), .val (.int p1), .val (.int p2), .val (.int s), .val (.int t), .val (.int (1 : Int32)), .val (.int (1 : Int32)), .unset, .unset, .unset] [(.int r25)])
            refine K.istore (L' := #[.val (.int p0), .val (.int p1), .val (.int p2), .val (.int s), .val (.int t), .val (.int (1 : Int32)), .val (.int (1 : Int32)), .val (.int r25), .unset, .unset]) at_77 rfl ?_
            refine K.iload at_79 rfl ?_
            refine K.iloadN at_81 rfl ?_
            refine K.callS (ps := [.int, .int]) (rr := some .boolean) (W := 0) [(.int t), (.int s)] [] (List.mem_of_getElem? (i := 0) rfl) (List.mem_of_getElem? (i := 1) rfl) (List.mem_of_getElem? (i := 2) rfl) (List.mem_of_getElem? (i := 3) rfl) (by decide) (rm1 l Z a0 hw [] _ _ _ n0) (by decide) (by decide) (by decide +kernel) rfl rfl (by decide) rfl at_82 (by decide) (by decide) (fun v26 h26 Q26 => ?_)
            obtain ⟨r26, rfl, rfl, hr26⟩ := Q26
            show G _ _ _ (mkF m 85 #[.val (.int p0), .val (.int p1), .val (.int p2), .val (.int s), .val (.int t), .val (.int (1 : Int32)), .val (.int (1 : Int32)), .val (.int r25), .unset, .unset] [(.int r26)])
            refine K.istore (L' := #[.val (.int p0), .val (.int p1), .val (.int p2), .val (.int s), .val (.int t), .val (.int (1 : Int32)), .val (.int (1 : Int32)), .val (.int r25), .val (.int r26), .unset]) at_85 rfl ?_
            refine K.iloadN at_87 rfl ?_
            refine K.iloadN at_88 rfl ?_
            refine K.callS (ps := [.int, .int]) (rr := some .boolean) (W := 0) [(.int s), (.int s)] [] (List.mem_of_getElem? (i := 0) rfl) (List.mem_of_getElem? (i := 1) rfl) (List.mem_of_getElem? (i := 2) rfl) (List.mem_of_getElem? (i := 3) rfl) (by decide) (rm1 l Z a0 hw [] _ _ _ n0) (by decide) (by decide) (by decide +kernel) rfl rfl (by decide) rfl at_89 (by decide) (by decide) (fun v27 h27 Q27 => ?_)
            obtain ⟨r27, rfl, rfl, hr27⟩ := Q27
            show G _ _ _ (mkF m 92 #[.val (.int p0), .val (.int p1), .val (.int p2), .val (.int s), .val (.int t), .val (.int (1 : Int32)), .val (.int (1 : Int32)), .val (.int r25), .val (.int r26), .unset] [(.int r27)])
            refine K.istore (L' := #[.val (.int p0), .val (.int p1), .val (.int p2), .val (.int s), .val (.int t), .val (.int (1 : Int32)), .val (.int (1 : Int32)), .val (.int r25), .val (.int r26), .val (.int r27)]) at_92 rfl ?_
            refine K.iload at_94 rfl ?_
            refine K.iload at_96 rfl ?_
            refine K.icmp _ (pc' := 120) at_98 (hk_ne (q := 1) rfl rfl) (by decide) (by decide) (fun c98 => ?_) (fun c98 => ?_)
            · -- c98 taken -> 120
              refine K.iconst (v := (0 : Int32)) at_120 rfl ?_
              exact hret _ _ _ _ _ (Ret.z at_121 (by decide)) (by decide) (by decide) (by first | rfl | (exfalso; omega))
            · -- c98 not -> 101
              refine K.iload at_101 rfl ?_
              refine K.ifc _ (pc' := 111) at_103 (z_eq _) (by decide) (by decide) (fun c103 => ?_) (fun c103 => ?_)
              · -- c103 taken -> 111
                refine K.iload at_111 rfl ?_
                refine K.ifc _ (pc' := 120) at_113 (z_ne _) (by decide) (by decide) (fun c113 => ?_) (fun c113 => ?_)
                · -- c113 taken -> 120
                  refine K.iconst (v := (0 : Int32)) at_120 rfl ?_
                  exact hret _ _ _ _ _ (Ret.z at_121 (by decide)) (by decide) (by decide) (by first | rfl | (exfalso; omega))
                · -- c113 not -> 116
                  refine K.iconst (v := (1 : Int32)) at_116 rfl ?_
                  refine K.goto (pc' := 121) at_117 (by decide) (by decide) ?_
                  exact hret _ _ _ _ _ (Ret.z at_121 (by decide)) (by decide) (by decide) (by first | rfl | (exfalso; omega))
              · -- c103 not -> 106
                refine K.iload at_106 rfl ?_
                refine K.ifc _ (pc' := 120) at_108 (z_ne _) (by decide) (by decide) (fun c108 => ?_) (fun c108 => ?_)
                · -- c108 taken -> 120
                  refine K.iconst (v := (0 : Int32)) at_120 rfl ?_
                  exact hret _ _ _ _ _ (Ret.z at_121 (by decide)) (by decide) (by decide) (by first | rfl | (exfalso; omega))
                · -- c108 not -> 111
                  refine K.iload at_111 rfl ?_
                  refine K.ifc _ (pc' := 120) at_113 (z_ne _) (by decide) (by decide) (fun c113 => ?_) (fun c113 => ?_)
                  · -- c113 taken -> 120
                    refine K.iconst (v := (0 : Int32)) at_120 rfl ?_
                    exact hret _ _ _ _ _ (Ret.z at_121 (by decide)) (by decide) (by decide) (by first | rfl | (exfalso; omega))
                  · -- c113 not -> 116
                    refine K.iconst (v := (1 : Int32)) at_116 rfl ?_
                    refine K.goto (pc' := 121) at_117 (by decide) (by decide) ?_
                    exact hret _ _ _ _ _ (Ret.z at_121 (by decide)) (by decide) (by decide) (by first | rfl | (exfalso; omega))
  have mid : ∀ s : Int32, G h 0 0 (mkF m 15 #[.val (.int p0), .val (.int p1), .val (.int p2), .val (.int s), .unset, .unset, .unset, .unset, .unset, .unset] []) := by
    intro s
    refine K.iloadN at_15 rfl ?_
    refine K.iconst (v := (2 : Int32)) at_16 rfl ?_
    refine K.iand (z := (p2 &&& (2 : Int32))) at_17 rfl ?_
    refine K.ifc _ (pc' := 28) at_18 (z_eq _) (by decide) (by decide) (fun c18 => ?_) (fun c18 => ?_)
    · -- c18 taken -> 28
      refine K.iloadN at_28 rfl ?_
      refine K.istore (L' := #[.val (.int p0), .val (.int p1), .val (.int p2), .val (.int s), .val (.int p1), .unset, .unset, .unset, .unset, .unset]) at_29 rfl ?_
      exact tail _ _
    · -- c18 not -> 21
      refine K.iloadN at_21 rfl ?_
      refine K.bipush (v := (63 : Int32)) at_22 rfl ?_
      refine K.iand (z := (p1 &&& (63 : Int32))) at_24 rfl ?_
      refine K.goto (pc' := 29) at_25 (by decide) (by decide) ?_
      refine K.istore (L' := #[.val (.int p0), .val (.int p1), .val (.int p2), .val (.int s), .val (.int (p1 &&& (63 : Int32))), .unset, .unset, .unset, .unset, .unset]) at_29 rfl ?_
      exact tail _ _
  refine K.iloadN at_0 rfl ?_
  refine K.iconst (v := (1 : Int32)) at_1 rfl ?_
  refine K.iand (z := (p2 &&& (1 : Int32))) at_2 rfl ?_
  refine K.ifc _ (pc' := 13) at_3 (z_eq _) (by decide) (by decide) (fun c3 => ?_) (fun c3 => ?_)
  · -- c3 taken -> 13
    refine K.iloadN at_13 rfl ?_
    refine K.istoreN (L' := #[.val (.int p0), .val (.int p1), .val (.int p2), .val (.int p0), .unset, .unset, .unset, .unset, .unset, .unset]) at_14 rfl ?_
    exact mid _
  · -- c3 not -> 6
    refine K.iloadN at_6 rfl ?_
    refine K.bipush (v := (63 : Int32)) at_7 rfl ?_
    refine K.iand (z := (p0 &&& (63 : Int32))) at_9 rfl ?_
    refine K.goto (pc' := 14) at_10 (by decide) (by decide) ?_
    refine K.istoreN (L' := #[.val (.int p0), .val (.int p1), .val (.int p2), .val (.int (p0 &&& (63 : Int32))), .unset, .unset, .unset, .unset, .unset, .unset]) at_14 rfl ?_
    exact mid _
set_option maxRecDepth 65536 in
set_option maxHeartbeats 40000000 in
theorem comes_1 {Post : Tables → Env → Array Value → State → Outcome → State → Prop} (hpost : ∀ tb e args s v u, (limb_1_1.after args s (.returned v) u = true ∧ limb_1_2.after args s (.returned v) u = true ∧ True) → FrameEnd s (.returned v) u (Jvm.fieldLocs frame_1_writes args s ++ Jvm.arrayLocs frame_1_arrays args s ++ Jvm.staticLocs frame_1_statics s) 0 0 → Post tb e args s (.returned v) u) :
    ArmFor flags0 classFile x code maxLocals ret World_1 tables_1 room_1 Calls_1 rest_1 Pre_1 Post := by
  intro l hfl _ _ p e ha hc hk s m args below hf hA hF happ hP
  obtain ⟨hcalls, hrest, hpre⟩ := hP
  obtain ⟨-, -, -, hnamed, -, -, -, hat⟩ := (Spec.applies_iff hf).mp happ
  obtain ⟨hg, hn⟩ := and_e (Cond.before_iff.mp (show (Jvm.Cond.and given_1 narrow_1).before args s = true from hpre))
  obtain ⟨gc, g0⟩ := and_e hg
  obtain ⟨e0, t0⟩ := and_e g0
  obtain ⟨e1, t1⟩ := and_e t0
  obtain ⟨w0, w1, w2, rfl⟩ : ∃ w0 w1 w2 : Value, args = #[w0, w1, w2] := by
    have hs : args.size = 3 := by simpa [Cond.value, given_1] using gc
    obtain ⟨L⟩ := args
    match L, hs with
    | [w0, w1, w2], _ => exact ⟨w0, w1, w2, rfl⟩
  have hw := fun d (hd : d ∈ tables_1) => atoms_spec (ws := Jvm.Cond.code x code maxLocals ret :: tables_1) hat d (List.mem_cons_of_mem _ hd)
  obtain ⟨i0, ei0⟩ := is_v e0
  obtain rfl : w0 = (.int i0) := Option.some.inj ei0
  obtain ⟨i1, ei1⟩ := is_v e1
  obtain rfl : w1 = (.int i1) := Option.some.inj ei1
  obtain ⟨i2, ei2⟩ := is_v t1
  obtain rfl : w2 = (.int i2) := Option.some.inj ei2
  obtain ⟨n, o, h1, h2, h3, _, L, rfl, ⟨rfl, N⟩, hq⟩ := rm0 l s _ hw tables_1 i0 i1 i2 s.heap s.heap.size (Nat.le_refl _) p e ha hc hk s m _ below hf ((Spec.applies_iff_loose hf).mp happ).1 ⟨rfl, State.Warmed39.refl s, rfl⟩ trivial
  refine ⟨n, _, h1, h2, h3, hpost _ _ _ _ _ _ ⟨Cond.after_iff.mpr rfl, Cond.after_iff.mpr (eq_i res_at (Term.int_eval (1)) rfl), trivial⟩ ⟨hq.1, hq.2.1, (hq.2.2.sift fun y hy => Or.inr (N y hy)).mono (by decide) (by decide)⟩⟩
theorem main_1_1 : Claimed_1_1 := comes_1 fun _ _ _ _ _ _ h hF => ⟨h.1, hF⟩
theorem main_1_2 : Claimed_1_2 := comes_1 fun _ _ _ _ _ _ h hF => ⟨h.2.1, hF⟩
end Jvm.Pilot.@@N@@
namespace Jvm.Pilot.@@N@@
open Jvm Jvm.ClassFile Sem Op Lib Jvm.Free Jvm.Stand Jvm.Pilot.@@N@@.Jvm.D
/-! MADE BY PROGRAM (witnessworld.py) out of the Statement's table words and the real class files: 9 classes; the members and pool entries that the words name. The judged class is class 1, her method 1. -/
namespace start1
open Jvm.ClassFile
def u (s : String) : CpInfo := .utf8 (stringToUtf16 s)
/-- a pool by its gaps: so many unusable entries, then the entry; so many at the end -/
def gap : Nat → List CpInfo → List CpInfo
  | 0, r => r
  | n + 1, r => .unusable :: gap n r
def poolList (es : List (Nat × CpInfo)) (last : Nat) : List CpInfo := es.foldr (fun e r => gap e.1 (e.2 :: r)) (gap last [])
def pool (es : List (Nat × CpInfo)) (last : Nat) : Array CpInfo := ⟨poolList es last⟩
def fileOf (pool : Array CpInfo) (this : Nat) (attrs : Array Attribute := #[]) (ms : Array MethodInfo := #[]) (fl : Nat := 33) (sup : Nat := 0) (ifs : Array Nat := #[]) (fds : Array FieldInfo := #[]) : ClassFile where
  minorVersion := 0
  majorVersion := 65
  constantPool := pool
  accessFlags := fl
  thisClass := this
  superClass := sup
  interfaces := ifs
  fields := fds
  methods := ms
  attributes := attrs
def plain (name : String) (sup : Option ClassId) : Class where
  name := name
  kind := .ordinary
  loader := none
  accessFlags := 33
  super := sup
  interfaces := #[]
  cf := none
  fields := #[]
  methods := #[]
  instanceTypes := #[]
  staticTypes := #[]
  resolved := #[]
  callSites := []
  init := .initialized
  statics := none
  mirror := none

def pool0 : Array CpInfo := pool [(5, u "<init>"), (0, u "()V"), (1, .class_ 10), (1, u "java/lang/Object")] 113

def k0m0 : Method := { name := "<init>", desc := "()V", sig := { parameters := [], returnType := none }, accessFlags := 1, code := none }
/-- java/lang/Object -/
def k0 : Class := { plain "java/lang/Object" none with
  accessFlags := 33
  interfaces := #[]
  cf := some (fileOf pool0 8 #[] #[{ accessFlags := 1, nameIndex := 5, descriptorIndex := 6, attributes := #[] }] 33 0 #[] #[])
  fields := #[]
  methods := #[k0m0]
  instanceTypes := #[]
  staticTypes := #[]
  resolved := Array.replicate 124 none
  statics := none }

def pool1 : Array CpInfo := pool [(2, .class_ 4), (1, u "java/lang/Object"), (0, u "<init>"), (0, u "()V"), (0, .class_ 8), (0, u "com/example/winnow/winnow/CodePoints"), (0, .methodref 7 10), (0, .nameAndType 11 12), (0, u "movesBack"), (0, u "(II)Z"), (0, .class_ 14), (0, u "com/example/winnow/winnow/CodePointsMovesBackPinLaw"), (2, u "law"), (0, u "(III)Z")] 3

def k1m0 : Method := { name := "<init>", desc := "()V", sig := { parameters := [], returnType := none }, accessFlags := 2, code := none }
def k1c1 : Code := { maxStack := 3, maxLocals := 10, code := code, exceptionTable := #[], attributes := #[] }
def k1m1 : Method := { name := "law", desc := "(III)Z", sig := { parameters := [.int, .int, .int], returnType := some .boolean }, accessFlags := 9, code := some k1c1 }
/-- com/example/winnow/winnow/CodePointsMovesBackPinLaw -/
def k1 : Class := { plain "com/example/winnow/winnow/CodePointsMovesBackPinLaw" (some 0) with
  accessFlags := 49
  interfaces := #[]
  cf := some (fileOf pool1 13 #[] #[{ accessFlags := 2, nameIndex := 5, descriptorIndex := 6, attributes := #[] }, { accessFlags := 9, nameIndex := 17, descriptorIndex := 18, attributes := #[] }] 49 2 #[] #[])
  fields := #[]
  methods := #[k1m0, k1m1]
  instanceTypes := #[]
  staticTypes := #[]
  resolved := Array.replicate 22 none
  statics := none }

def pool2 : Array CpInfo := pool [(1, .class_ 2), (0, u "com/example/winnow/winnow/CodePoints"), (7, .class_ 12), (1, u "java/lang/Object"), (4, u "options"), (0, u "Lcom/example/winnow/winnow/MatchOptions;"), (3, u "bmp"), (0, u "[I"), (15, u "foldedByLabel"), (0, u "[C"), (2, u "kindPages"), (3, u "Ljava/util/List;"), (6, u "supplementary"), (0, u "Lcom/example/winnow/winnow/CodePointMap;"), (2, u "SHARED"), (0, u "Ljava/util/Map;"), (36, u "movesBack"), (0, u "(II)Z"), (45, u "DECORATION_MARKS"), (23, u "UNSPACED_SCRIPTS"), (0, u "Ljava/util/Set;"), (162, u "DEFAULT_IGNORABLE_BOUNDS"), (55, u "KEPT"), (0, u "I"), (2, u "SYMBOL"), (1, u "INVISIBLE"), (1, u "MARK"), (1, u "LAYERS"), (0, u "KIND_SHIFT"), (1, u "LABEL_MASK"), (0, u "KIND_MASK"), (0, u "ALONE"), (0, u "NOT_ALONE"), (0, u "DECORATION"), (0, u "PLAIN_MARK"), (0, u "JOINS"), (0, u "SEVERAL"), (0, u "STANDING_SHIFT"), (1, u "STANDING_MASK"), (1, u "UNLISTED"), (1, u "LEADING_FIRST"), (1, u "LEADING_LAST"), (1, u "VOWEL_FIRST"), (1, u "VOWEL_LAST"), (1, u "TRAILING_FIRST"), (1, u "TRAILING_LAST"), (1, u "SYLLABLE_FIRST"), (0, u "SYLLABLE_LAST"), (0, u "TRAILING_COUNT"), (1, u "REGIONAL_FIRST"), (0, u "REGIONAL_LAST"), (0, u "FLAG"), (1, u "SYMBOL_TYPES"), (0, u "WORD_TYPES"), (4, u "PAGE_BITS"), (1, u "PAGE_SIZE")] 62

def k2c0 : Code := { maxStack := 2, maxLocals := 2, code := prog_8_method_19_code, exceptionTable := #[], attributes := #[] }
def k2m0 : Method := { name := "movesBack", desc := "(II)Z", sig := { parameters := [.int, .int], returnType := some .boolean }, accessFlags := 8, code := some k2c0 }
/-- com/example/winnow/winnow/CodePoints -/
def k2 : Class := { plain "com/example/winnow/winnow/CodePoints" (some 0) with
  accessFlags := 48
  interfaces := #[]
  cf := some (fileOf pool2 1 #[] #[{ accessFlags := 8, nameIndex := 96, descriptorIndex := 97, attributes := #[] }] 48 10 #[] #[{ accessFlags := 24, nameIndex := 387, descriptorIndex := 388, attributes := #[] }, { accessFlags := 24, nameIndex := 391, descriptorIndex := 388, attributes := #[] }, { accessFlags := 24, nameIndex := 393, descriptorIndex := 388, attributes := #[] }, { accessFlags := 24, nameIndex := 395, descriptorIndex := 388, attributes := #[] }, { accessFlags := 24, nameIndex := 397, descriptorIndex := 388, attributes := #[] }, { accessFlags := 26, nameIndex := 398, descriptorIndex := 388, attributes := #[] }, { accessFlags := 26, nameIndex := 400, descriptorIndex := 388, attributes := #[] }, { accessFlags := 26, nameIndex := 401, descriptorIndex := 388, attributes := #[] }, { accessFlags := 24, nameIndex := 402, descriptorIndex := 388, attributes := #[] }, { accessFlags := 24, nameIndex := 403, descriptorIndex := 388, attributes := #[] }, { accessFlags := 24, nameIndex := 404, descriptorIndex := 388, attributes := #[] }, { accessFlags := 24, nameIndex := 405, descriptorIndex := 388, attributes := #[] }, { accessFlags := 26, nameIndex := 406, descriptorIndex := 388, attributes := #[] }, { accessFlags := 26, nameIndex := 407, descriptorIndex := 388, attributes := #[] }, { accessFlags := 26, nameIndex := 408, descriptorIndex := 388, attributes := #[] }, { accessFlags := 26, nameIndex := 410, descriptorIndex := 388, attributes := #[] }, { accessFlags := 26, nameIndex := 412, descriptorIndex := 388, attributes := #[] }, { accessFlags := 26, nameIndex := 414, descriptorIndex := 388, attributes := #[] }, { accessFlags := 26, nameIndex := 416, descriptorIndex := 388, attributes := #[] }, { accessFlags := 26, nameIndex := 418, descriptorIndex := 388, attributes := #[] }, { accessFlags := 26, nameIndex := 420, descriptorIndex := 388, attributes := #[] }, { accessFlags := 26, nameIndex := 422, descriptorIndex := 388, attributes := #[] }, { accessFlags := 26, nameIndex := 424, descriptorIndex := 388, attributes := #[] }, { accessFlags := 26, nameIndex := 426, descriptorIndex := 388, attributes := #[] }, { accessFlags := 26, nameIndex := 427, descriptorIndex := 388, attributes := #[] }, { accessFlags := 26, nameIndex := 428, descriptorIndex := 388, attributes := #[] }, { accessFlags := 26, nameIndex := 430, descriptorIndex := 388, attributes := #[] }, { accessFlags := 26, nameIndex := 431, descriptorIndex := 388, attributes := #[] }, { accessFlags := 26, nameIndex := 432, descriptorIndex := 388, attributes := #[] }, { accessFlags := 26, nameIndex := 331, descriptorIndex := 23, attributes := #[] }, { accessFlags := 26, nameIndex := 143, descriptorIndex := 23, attributes := #[] }, { accessFlags := 26, nameIndex := 434, descriptorIndex := 388, attributes := #[] }, { accessFlags := 26, nameIndex := 435, descriptorIndex := 388, attributes := #[] }, { accessFlags := 26, nameIndex := 167, descriptorIndex := 168, attributes := #[] }, { accessFlags := 26, nameIndex := 58, descriptorIndex := 59, attributes := #[] }, { accessFlags := 24, nameIndex := 440, descriptorIndex := 388, attributes := #[] }, { accessFlags := 26, nameIndex := 442, descriptorIndex := 388, attributes := #[] }, { accessFlags := 18, nameIndex := 17, descriptorIndex := 18, attributes := #[] }, { accessFlags := 18, nameIndex := 22, descriptorIndex := 23, attributes := #[] }, { accessFlags := 18, nameIndex := 39, descriptorIndex := 40, attributes := #[] }, { accessFlags := 18, nameIndex := 43, descriptorIndex := 47, attributes := #[] }, { accessFlags := 18, nameIndex := 54, descriptorIndex := 55, attributes := #[] }])
  fields := #[{ name := "KEPT", type := .int, accessFlags := 24, slot := 0, constantValue := 0 }, { name := "SYMBOL", type := .int, accessFlags := 24, slot := 1, constantValue := 0 }, { name := "INVISIBLE", type := .int, accessFlags := 24, slot := 2, constantValue := 0 }, { name := "MARK", type := .int, accessFlags := 24, slot := 3, constantValue := 0 }, { name := "LAYERS", type := .int, accessFlags := 24, slot := 4, constantValue := 0 }, { name := "KIND_SHIFT", type := .int, accessFlags := 26, slot := 5, constantValue := 0 }, { name := "LABEL_MASK", type := .int, accessFlags := 26, slot := 6, constantValue := 0 }, { name := "KIND_MASK", type := .int, accessFlags := 26, slot := 7, constantValue := 0 }, { name := "ALONE", type := .int, accessFlags := 24, slot := 8, constantValue := 0 }, { name := "NOT_ALONE", type := .int, accessFlags := 24, slot := 9, constantValue := 0 }, { name := "DECORATION", type := .int, accessFlags := 24, slot := 10, constantValue := 0 }, { name := "PLAIN_MARK", type := .int, accessFlags := 24, slot := 11, constantValue := 0 }, { name := "JOINS", type := .int, accessFlags := 26, slot := 12, constantValue := 0 }, { name := "SEVERAL", type := .int, accessFlags := 26, slot := 13, constantValue := 0 }, { name := "STANDING_SHIFT", type := .int, accessFlags := 26, slot := 14, constantValue := 0 }, { name := "STANDING_MASK", type := .int, accessFlags := 26, slot := 15, constantValue := 0 }, { name := "UNLISTED", type := .int, accessFlags := 26, slot := 16, constantValue := 0 }, { name := "LEADING_FIRST", type := .int, accessFlags := 26, slot := 17, constantValue := 0 }, { name := "LEADING_LAST", type := .int, accessFlags := 26, slot := 18, constantValue := 0 }, { name := "VOWEL_FIRST", type := .int, accessFlags := 26, slot := 19, constantValue := 0 }, { name := "VOWEL_LAST", type := .int, accessFlags := 26, slot := 20, constantValue := 0 }, { name := "TRAILING_FIRST", type := .int, accessFlags := 26, slot := 21, constantValue := 0 }, { name := "TRAILING_LAST", type := .int, accessFlags := 26, slot := 22, constantValue := 0 }, { name := "SYLLABLE_FIRST", type := .int, accessFlags := 26, slot := 23, constantValue := 0 }, { name := "SYLLABLE_LAST", type := .int, accessFlags := 26, slot := 24, constantValue := 0 }, { name := "TRAILING_COUNT", type := .int, accessFlags := 26, slot := 25, constantValue := 0 }, { name := "REGIONAL_FIRST", type := .int, accessFlags := 26, slot := 26, constantValue := 0 }, { name := "REGIONAL_LAST", type := .int, accessFlags := 26, slot := 27, constantValue := 0 }, { name := "FLAG", type := .int, accessFlags := 26, slot := 28, constantValue := 0 }, { name := "DEFAULT_IGNORABLE_BOUNDS", type := (.array .int), accessFlags := 26, slot := 29, constantValue := 0 }, { name := "DECORATION_MARKS", type := (.array .int), accessFlags := 26, slot := 30, constantValue := 0 }, { name := "SYMBOL_TYPES", type := .int, accessFlags := 26, slot := 31, constantValue := 0 }, { name := "WORD_TYPES", type := .int, accessFlags := 26, slot := 32, constantValue := 0 }, { name := "UNSPACED_SCRIPTS", type := (.object "java/util/Set"), accessFlags := 26, slot := 33, constantValue := 0 }, { name := "SHARED", type := (.object "java/util/Map"), accessFlags := 26, slot := 34, constantValue := 0 }, { name := "PAGE_BITS", type := .int, accessFlags := 24, slot := 35, constantValue := 0 }, { name := "PAGE_SIZE", type := .int, accessFlags := 26, slot := 36, constantValue := 0 }, { name := "options", type := (.object "com/example/winnow/winnow/MatchOptions"), accessFlags := 18, slot := 0, constantValue := 0 }, { name := "bmp", type := (.array .int), accessFlags := 18, slot := 1, constantValue := 0 }, { name := "foldedByLabel", type := (.array .char), accessFlags := 18, slot := 2, constantValue := 0 }, { name := "kindPages", type := (.object "java/util/List"), accessFlags := 18, slot := 3, constantValue := 0 }, { name := "supplementary", type := (.object "com/example/winnow/winnow/CodePointMap"), accessFlags := 18, slot := 4, constantValue := 0 }]
  methods := #[k2m0]
  instanceTypes := #[(.object "com/example/winnow/winnow/MatchOptions"), (.array .int), (.array .char), (.object "java/util/List"), (.object "com/example/winnow/winnow/CodePointMap")]
  staticTypes := #[.int, .int, .int, .int, .int, .int, .int, .int, .int, .int, .int, .int, .int, .int, .int, .int, .int, .int, .int, .int, .int, .int, .int, .int, .int, .int, .int, .int, .int, (.array .int), (.array .int), .int, .int, (.object "java/util/Set"), (.object "java/util/Map"), .int, .int]
  resolved := Array.replicate 505 none
  statics := none }

def pool3 : Array CpInfo := pool [(1, u "java/lang/Cloneable"), (0, .class_ 1), (0, u "java/lang/Object"), (0, .class_ 3)] 3

/-- java/lang/Cloneable -/
def k3 : Class := { plain "java/lang/Cloneable" (some 0) with
  accessFlags := 1537
  interfaces := #[]
  cf := some (fileOf pool3 2 #[] #[] 1537 4 #[] #[])
  fields := #[]
  methods := #[]
  instanceTypes := #[]
  staticTypes := #[]
  resolved := Array.replicate 8 none
  statics := none }

def pool4 : Array CpInfo := pool [(1, u "java/io/Serializable"), (0, .class_ 1), (0, u "java/lang/Object"), (0, .class_ 3)] 3

/-- java/io/Serializable -/
def k4 : Class := { plain "java/io/Serializable" (some 0) with
  accessFlags := 1537
  interfaces := #[]
  cf := some (fileOf pool4 2 #[] #[] 1537 4 #[] #[])
  fields := #[]
  methods := #[]
  instanceTypes := #[]
  staticTypes := #[]
  resolved := Array.replicate 8 none
  statics := none }

/-- the primitive byte -/
def k5 : Class := { plain "byte" none with kind := .primitive 'B', accessFlags := 0x411 }
/-- [B -/
def k6 : Class := { plain "[B" (some 0) with kind := .array 5 .byte, interfaces := #[3, 4], accessFlags := 1041 }

/-- the primitive int -/
def k7 : Class := { plain "int" none with kind := .primitive 'I', accessFlags := 0x411 }
/-- [I -/
def k8 : Class := { plain "[I" (some 0) with kind := .array 7 .int, interfaces := #[3, 4], accessFlags := 1041 }

def heap : Heap := #[]
def classes : Array Class := #[k0, k1, k2, k3, k4, k5, k6, k7, k8]
def interned : List (Array UInt16 × Addr) := []
def slotsUsed : Nat := 0
def theMethod : MethodId := ⟨1, 1⟩
def args0 : Array Value := #[.int 70, .int 5, .int 3]
def aboutOver (below : List Frame) : State where
  vm := { classes := classes, interned := interned.toArray }
  heap := heap
  slotsUsed := slotsUsed
  threads := #[{ frames := .invoking theMethod args0 :: below }]
def below0 : List Frame := [.native { method := ⟨0, 0⟩, args := #[] }]
def about1 : State := aboutOver below0
def p0 : Program := .bare "" "" ""
def e0 : Env := launch0.env 0 0 0
theorem w_frames : about1.frames = Frame.invoking theMethod args0 :: below0 := rfl
set_option maxRecDepth 65536 in
theorem w_args : argsFit about1.vm theMethod args0 = true := by decide +kernel
set_option maxRecDepth 65536 in
theorem w_heap : heapFits about1 = true := by decide +kernel
set_option maxRecDepth 65536 in
theorem w_runnable : about1.curStatus? = some .runnable := by decide +kernel
set_option maxRecDepth 65536 in
theorem w_alone : about1.alone = true := by decide +kernel
set_option maxRecDepth 65536 in
theorem w_named : about1.methodNamed? x = some theMethod := by decide +kernel
set_option maxRecDepth 65536 in
theorem w_hears : about1.hears theMethod below0 = true := by decide +kernel
set_option maxRecDepth 65536 in
theorem w_ripe : about1.ripe theMethod args0 below0 = true := by decide +kernel
theorem w_running : about1.status = .running := rfl
set_option maxRecDepth 65536 in
theorem w_room : about1.hasRoom e0.platform room_1 = true :=
  launch0.hasRoom_least _ room_1 (by decide +kernel) (by decide +kernel) (by decide +kernel) (by decide +kernel) (by decide +kernel) (by decide +kernel)
theorem allAtoms_all (ts : List Jvm.Cond) (a : Array Jvm.Value) (st : Jvm.State) : (allAtoms ts).before a st = ts.all (fun c => c.before a st) := by
  induction ts with
  | nil => rfl
  | cons c t ih =>
    show (Jvm.Cond.and c (allAtoms t)).before a st = _
    rw [Jvm.Cond.before_and, ih, List.all_cons]
def words1 : List Jvm.Cond := Jvm.Cond.code x code maxLocals ret :: tables_1
/-- a 'code' word, met by the world's own term for the bytes: nothing is compared byte by byte -/
theorem code_word {y : MethodName} {bytes : ByteArray} {mx : Nat} {rt : Option FieldType} {a : Array Value} {s : State} {m : MethodId} {meth : Method} {c : Code} (h1 : s.methodNamed? y = some m) (h2 : s.vm.method? m = some meth) (h3 : meth.code = some c) (h4 : c.code = bytes)
    (h5 : (c.maxLocals == mx && c.exceptionTable.isEmpty && decide (c.maxStack ≤ mostOperands) && decide (meth.sig.returnType = rt) && !meth.locks && decide (parseMethodDescriptor y.desc = some meth.sig)) = true) : (Jvm.Cond.code y bytes mx rt).before a s = true := by
  simp only [Bool.and_eq_true, beq_iff_eq, Bool.not_eq_true', decide_eq_true_eq] at h5
  obtain ⟨⟨⟨⟨⟨g1, g2⟩, g3⟩, g4⟩, g5⟩, g6⟩ := h5
  simp [Cond.before, Cond.holds, Cond.value, h1, h2, h3, h4, g1, g2, g3, g4, g5, g6]
def isCode : Jvm.Cond → Bool
  | .code _ _ _ _ => true
  | _ => false
theorem all_split {L : List Jvm.Cond} {P : Jvm.Cond → Bool} (h1 : L.all (fun c => isCode c || P c) = true) (h2 : ∀ c ∈ L.filter isCode, P c = true) : L.all P = true := by
  refine List.all_eq_true.mpr fun c hc => ?_
  have h := List.all_eq_true.mp h1 c hc
  rcases Bool.eq_false_or_eq_true (isCode c) with hi | hi
  · exact h2 c (List.mem_filter.mpr ⟨hc, hi⟩)
  · simpa [hi] using h
set_option maxRecDepth 65536 in
theorem w_c0 : (Jvm.Cond.code x code maxLocals ret).before args0 about1 = true := code_word (m := ⟨1, 1⟩) (meth := k1m1) (c := k1c1) (by decide +kernel) rfl rfl rfl (by decide +kernel)
set_option maxRecDepth 65536 in
theorem w_c1 : (Jvm.Cond.code ({ cls := "com/example/winnow/winnow/CodePoints", name := "movesBack", desc := "(II)Z" } : Jvm.MethodName) prog_8_method_19_code (2 : Nat) (Option.some Jvm.ClassFile.FieldType.boolean)).before args0 about1 = true := code_word (m := ⟨2, 0⟩) (meth := k2m0) (c := k2c0) (by decide +kernel) rfl rfl rfl (by decide +kernel)
def codes1 : List Jvm.Cond := [Jvm.Cond.code x code maxLocals ret, Jvm.Cond.code ({ cls := "com/example/winnow/winnow/CodePoints", name := "movesBack", desc := "(II)Z" } : Jvm.MethodName) prog_8_method_19_code (2 : Nat) (Option.some Jvm.ClassFile.FieldType.boolean)]
set_option maxRecDepth 65536 in
theorem codes_eq : words1.filter isCode = codes1 := rfl
theorem w_codes : ∀ c ∈ words1.filter isCode, c.before args0 about1 = true := by
  rw [codes_eq]
  intro c hc
  simp only [codes1, List.mem_cons, List.not_mem_nil, or_false] at hc
  rcases hc with rfl | rfl
  · exact w_c0
  · exact w_c1
set_option maxRecDepth 65536 in
theorem w_t1 : words1.all (fun c => isCode c || c.before args0 about1) = true := by decide +kernel
theorem w_tables : (allAtoms (Jvm.Cond.code x code maxLocals ret :: tables_1)).before args0 about1 = true := by
  rw [allAtoms_all]
  show words1.all (fun c => c.before args0 about1) = true
  refine all_split ?_ w_codes
  rw [w_t1]
set_option maxRecDepth 65536 in
theorem w_case : (Jvm.Cond.and given_1 narrow_1).before args0 about1 = true := by decide +kernel
theorem w_applies : (headSpec (Jvm.Cond.code x code maxLocals ret :: tables_1) room_1).applies x e0.platform about1 = true :=
  (Spec.applies_iff w_frames).mpr ⟨w_running, w_runnable, w_alone, w_named, w_hears, w_ripe, w_room, w_tables⟩
theorem atStart : AtStart classFile x code maxLocals ret World_1 tables_1 room_1 Calls_1 rest_1 Pre_1 launch0 p0 e0 about1 theMethod args0 below0 :=
  ⟨lists_1, trivial, launch0.admits_env _ _ _, launch0.least_env, fairChoices_fair.cas, fairChoices_fair.clock, w_frames, w_args, w_heap, w_applies, trivial, trivial, w_case⟩
end start1
theorem witness_1 : WitnessClaimed_1 := ⟨start1.p0, start1.e0, start1.about1, start1.theMethod, start1.args0, start1.below0, start1.atStart⟩
end Jvm.Pilot.@@N@@
