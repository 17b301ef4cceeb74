import JvmDerived
import JvmDerived.Pilot.@@N@@Statement
import JvmDerived.Pilot.@@N@@Code
set_option linter.unusedVariables false
set_option linter.unusedSimpArgs false
@@BLOCK:NumsL.lean.txt@@
namespace Jvm.Own
open Jvm Jvm.ClassFile Sem Op Lib Jvm.Free Jvm.Stand Jvm.LawKit Jvm.RoadKit
/-- from every stand with the heap h, k cells and n slots booked, and the top frame g, a stand is reached of which Q holds -/
def Wp (p : Program) (l : Launch) (e : Env) (R : Room) (s : State) (m : MethodId) (args : Array Value) (below : List Frame) (meth : Method) (c : Code) (n0 : Nat) (Q : Heap → Nat → Nat → JFrame → Prop) (h : Heap) (k n : Nat) (g : JFrame) : Prop :=
  ∀ (T : State) (locs : List Loc), Stand p l e R s m args below meth c T locs k n → T.heap = h → Fr n0 locs →
    ∃ (T' : State) (locs' : List Loc) (k' n' : Nat) (g' : JFrame), Stand p l e R s m args below meth c T' locs' k' n' ∧ Fr n0 locs' ∧ Q T'.heap k' n' g' ∧ ∀ t, Steps p.tables e below (T'.setTop g') t → Steps p.tables e below (T.setTop g) t
/-- what every step of a walk asks; G is the walk's own Wp -/
def Wk (Z : State) (a0 : Array Value) (ts : List Jvm.Cond) (l : Launch) (own nm : String) (code : ByteArray) (ml : Nat) (R : Room) (n0 : Nat) (m : MethodId) (G : Heap → Nat → Nat → JFrame → Prop) : Prop :=
  (∀ d ∈ ts, d.before a0 Z = true) ∧ ∃ (p : Program) (e : Env) (s : State) (args : Array Value) (below : List Frame) (meth : Method) (c : Code) (Q : Heap → Nat → Nat → JFrame → Prop),
    p.tables.exec = Jvm.exec ∧ Z.Warmed39 s.vm ∧ s.vm.findClass own = some m.cls ∧ c.code = code ∧ c.maxLocals = ml ∧ meth.name = nm ∧ G = Wp p l e R s m args below meth c n0 Q
/-- an array of ints, bytes, chars or booleans: n places, place i holds f i -/
def Ary (Z : State) (h : Heap) (a : Addr) (ty : FieldType) (n : Nat) (f : Nat → Int32) : Prop := ∃ c : Cell, Arr Z h a c ty ∧ c.slots.size = n ∧ n < 2147483648 ∧ ∀ i, i < n → c.slots[i]? = some (.int (f i))
def up {α : Type} (f : Nat → α) (i : Nat) (x : α) : Nat → α := fun j => if j = i then x else f j
theorem up_same {α : Type} {f : Nat → α} {i : Nat} {x : α} : up f i x i = x := if_pos rfl
theorem up_ne {α : Type} {f : Nat → α} {i j : Nat} {x : α} (h : j ≠ i) : up f i x j = f j := if_neg h
theorem ix {i n : Nat} (hi : i < n) (hn : n < 2147483648) : (Int32.ofNat i).toNatClampNeg = i ∧ ¬ (Int32.ofNat i < 0) := by
  have e : (Int32.ofNat i).toInt = (i : Int) := Int32.toInt_ofNat_small (by omega)
  refine ⟨by simp only [Int32.toNatClampNeg, e]; omega, ?_⟩
  rw [Int32.lt_iff_toInt_lt, e, Int32.toInt_zero]; omega
section Facts
variable {Z : State} {h h' : Heap} {a b : Addr} {ty : FieldType} {n sl : Nat} {f : Nat → Int32} {v : Value}
theorem Ary.lt (A : Ary Z h a ty n f) : a < h.size := by obtain ⟨c, A, -⟩ := A; exact A.lt
theorem Ary.small (A : Ary Z h a ty n f) : n < 2147483648 := by obtain ⟨c, -, -, q, -⟩ := A; exact q
theorem Ary.ext (A : Ary Z h a ty n f) (E : Ext h h') : Ary Z h' a ty n f := by obtain ⟨c, A, r⟩ := A; exact ⟨c, A.ext E, r⟩
theorem Ary.other (A : Ary Z h b ty n f) (W : Wr h h' a sl v) (q : b ≠ a) : Ary Z h' b ty n f := by obtain ⟨c, A, r⟩ := A; exact ⟨c, A.other W q, r⟩
theorem Ary.keep {ws : List Addr} (A : Ary Z h a ty n f) (K : Keep h h' ws) (q : a ∉ ws) : Ary Z h' a ty n f := by obtain ⟨c, A, r⟩ := A; exact ⟨c, ⟨K.2.1 a c A.1 q, A.2⟩, r⟩
theorem Ary.set {i : Nat} {x : Int32} (A : Ary Z h a ty n f) (W : Wr h h' a i (.int x)) : Ary Z h' a ty n (up f i x) := by
  obtain ⟨c, A, r1, r2, r3⟩ := A
  refine ⟨_, A.same W, by rw [sz_set]; exact r1, r2, fun j hj => ?_⟩
  by_cases q : j = i
  · subst q; rw [up_same]; simp [Cell.setSlot, r1, hj]
  · rw [up_ne q]; simp only [Cell.setSlot]; rw [Array.getElem?_setIfInBounds_ne (Ne.symm q)]; exact r3 j hj
theorem Ary.congr {g : Nat → Int32} (A : Ary Z h a ty n f) (q : ∀ i, i < n → f i = g i) : Ary Z h a ty n g := by
  obtain ⟨c, A, r1, r2, r3⟩ := A
  exact ⟨c, A, r1, r2, fun i hi => by rw [← q i hi]; exact r3 i hi⟩
end Facts
section Laws
variable {Z : State} {a0 : Array Value} {ts : List Jvm.Cond} {l : Launch} {own nm : String} {code : ByteArray} {ml : Nat} {R : Room} {n0 : Nat} {m : MethodId} {G : Heap → Nat → Nat → JFrame → Prop} {h : Heap} {u w : Nat} {pc : Nat} {L L' : Array Slot} {S : List Value}
theorem Wk.pure (K : Wk Z a0 ts l own nm code ml R n0 m G) {g g' : JFrame}
    (st : ∀ (p : Program) (e : Env) (s : State) (args : Array Value) (below : List Frame) (meth : Method) (c : Code) (T : State) (locs : List Loc), p.tables.exec = Jvm.exec → Z.Warmed39 s.vm → s.vm.findClass own = some m.cls → c.code = code → Stand p l e R s m args below meth c T locs u w → T.heap = h → ∀ t, Steps p.tables e below (T.setTop g') t → Steps p.tables e below (T.setTop g) t)
    (k : G h u w g') : G h u w g := by
  obtain ⟨hw, p, e, s, args, below, meth, c, Q, hx, hZ, hown, hby, hml, hnm, rfl⟩ := K
  intro T locs X eT N
  obtain ⟨T', locs', k', n', g', X', N', hQ, go⟩ := k T locs X eT N
  exact ⟨T', locs', k', n', g', X', N', hQ, fun t q => st p e s args below meth c T locs hx hZ hown hby X eT t (go t q)⟩
theorem Wk.move (K : Wk Z a0 ts l own nm code ml R n0 m G) {g : JFrame}
    (st : ∀ (p : Program) (e : Env) (s : State) (args : Array Value) (below : List Frame) (meth : Method) (c : Code) (T : State) (locs : List Loc), p.tables.exec = Jvm.exec → Z.Warmed39 s.vm → s.vm.findClass own = some m.cls → c.code = code → c.maxLocals = ml → meth.name = nm → Stand p l e R s m args below meth c T locs u w → T.heap = h → Fr n0 locs →
      ∃ (T1 : State) (locs1 : List Loc) (u1 w1 : Nat) (g1 : JFrame), Stand p l e R s m args below meth c T1 locs1 u1 w1 ∧ Fr n0 locs1 ∧ G T1.heap u1 w1 g1 ∧ ∀ t, Steps p.tables e below (T1.setTop g1) t → Steps p.tables e below (T.setTop g) t) : G h u w g := by
  obtain ⟨hw, p, e, s, args, below, meth, c, Q, hx, hZ, hown, hby, hml, hnm, rfl⟩ := K
  intro T locs X eT N
  obtain ⟨T1, locs1, u1, w1, g1, X1, N1, k, go1⟩ := st p e s args below meth c T locs hx hZ hown hby hml hnm X eT N
  obtain ⟨T', locs', k', n', g', X', N', hQ, go⟩ := k T1 locs1 X1 rfl N1
  exact ⟨T', locs', k', n', g', X', N', hQ, fun t q => go1 t (go t q)⟩
theorem Wk.iload (K : Wk Z a0 ts l own nm code ml R n0 m G) {i : Nat} {x : Int32} (hd : decode code pc = .ok (.iload i, 2)) (hl : L[i]? = some (.val (.int x))) (k : G h u w (mkF m (pc + 2) L (.int x :: S))) : G h u w (mkF m pc L (S)) :=
  K.pure (fun p e s args below meth c T locs hx hZ hown hby X eT t k => XS.iload X.here hx rfl (hb hby hd) hl k) k
theorem Wk.iloadN (K : Wk Z a0 ts l own nm code ml R n0 m G) {i : Fin 4} {x : Int32} (hd : decode code pc = .ok (.iload_n i, 1)) (hl : L[i.val]? = some (.val (.int x))) (k : G h u w (mkF m (pc + 1) L (.int x :: S))) : G h u w (mkF m pc L (S)) :=
  K.pure (fun p e s args below meth c T locs hx hZ hown hby X eT t k => XS.iloadN X.here hx rfl (hb hby hd) hl k) k
theorem Wk.lload (K : Wk Z a0 ts l own nm code ml R n0 m G) {i : Nat} {x : Int64} (hd : decode code pc = .ok (.lload i, 2)) (hl : L[i]? = some (.val (.long x))) (k : G h u w (mkF m (pc + 2) L (.long x :: S))) : G h u w (mkF m pc L (S)) :=
  K.pure (fun p e s args below meth c T locs hx hZ hown hby X eT t k => XS.lload X.here hx rfl (hb hby hd) hl k) k
theorem Wk.lloadN (K : Wk Z a0 ts l own nm code ml R n0 m G) {i : Fin 4} {x : Int64} (hd : decode code pc = .ok (.lload_n i, 1)) (hl : L[i.val]? = some (.val (.long x))) (k : G h u w (mkF m (pc + 1) L (.long x :: S))) : G h u w (mkF m pc L (S)) :=
  K.pure (fun p e s args below meth c T locs hx hZ hown hby X eT t k => XS.lloadN X.here hx rfl (hb hby hd) hl k) k
theorem Wk.aload (K : Wk Z a0 ts l own nm code ml R n0 m G) {i : Nat} {x : Value} (hd : decode code pc = .ok (.aload i, 2)) (hl : L[i]? = some (.val x)) (hv : x.isRef = true) (k : G h u w (mkF m (pc + 2) L (x :: S))) : G h u w (mkF m pc L (S)) :=
  K.pure (fun p e s args below meth c T locs hx hZ hown hby X eT t k => XS.aload X.here hx rfl (hb hby hd) hl hv k) k
theorem Wk.aloadN (K : Wk Z a0 ts l own nm code ml R n0 m G) {i : Fin 4} {x : Value} (hd : decode code pc = .ok (.aload_n i, 1)) (hl : L[i.val]? = some (.val x)) (hv : x.isRef = true) (k : G h u w (mkF m (pc + 1) L (x :: S))) : G h u w (mkF m pc L (S)) :=
  K.pure (fun p e s args below meth c T locs hx hZ hown hby X eT t k => XS.aloadN X.here hx rfl (hb hby hd) hl hv k) k
theorem Wk.istore (K : Wk Z a0 ts l own nm code ml R n0 m G) {i : Nat} {x : Int32} (hd : decode code pc = .ok (.istore i, 2)) (hl : storeLocals L i (.int x) = some L') (k : G h u w (mkF m (pc + 2) L' (S))) : G h u w (mkF m pc L (.int x :: S)) :=
  K.pure (fun p e s args below meth c T locs hx hZ hown hby X eT t k => XS.istore X.here hx rfl (hb hby hd) rfl hl k) k
theorem Wk.istoreN (K : Wk Z a0 ts l own nm code ml R n0 m G) {i : Fin 4} {x : Int32} (hd : decode code pc = .ok (.istore_n i, 1)) (hl : storeLocals L i.val (.int x) = some L') (k : G h u w (mkF m (pc + 1) L' (S))) : G h u w (mkF m pc L (.int x :: S)) :=
  K.pure (fun p e s args below meth c T locs hx hZ hown hby X eT t k => XS.istoreN X.here hx rfl (hb hby hd) rfl hl k) k
theorem Wk.lstore (K : Wk Z a0 ts l own nm code ml R n0 m G) {i : Nat} {x : Int64} (hd : decode code pc = .ok (.lstore i, 2)) (hl : storeLocals L i (.long x) = some L') (k : G h u w (mkF m (pc + 2) L' (S))) : G h u w (mkF m pc L (.long x :: S)) :=
  K.pure (fun p e s args below meth c T locs hx hZ hown hby X eT t k => XS.lstore X.here hx rfl (hb hby hd) rfl hl k) k
theorem Wk.lstoreN (K : Wk Z a0 ts l own nm code ml R n0 m G) {i : Fin 4} {x : Int64} (hd : decode code pc = .ok (.lstore_n i, 1)) (hl : storeLocals L i.val (.long x) = some L') (k : G h u w (mkF m (pc + 1) L' (S))) : G h u w (mkF m pc L (.long x :: S)) :=
  K.pure (fun p e s args below meth c T locs hx hZ hown hby X eT t k => XS.lstoreN X.here hx rfl (hb hby hd) rfl hl k) k
theorem Wk.astore (K : Wk Z a0 ts l own nm code ml R n0 m G) {i : Nat} {x : Value} (hd : decode code pc = .ok (.astore i, 2)) (hv : x.isRef = true) (hl : storeLocals L i x = some L') (k : G h u w (mkF m (pc + 2) L' (S))) : G h u w (mkF m pc L (x :: S)) :=
  K.pure (fun p e s args below meth c T locs hx hZ hown hby X eT t k => XS.astore X.here hx rfl (hb hby hd) rfl hv hl k) k
theorem Wk.astoreN (K : Wk Z a0 ts l own nm code ml R n0 m G) {i : Fin 4} {x : Value} (hd : decode code pc = .ok (.astore_n i, 1)) (hv : x.isRef = true) (hl : storeLocals L i.val x = some L') (k : G h u w (mkF m (pc + 1) L' (S))) : G h u w (mkF m pc L (x :: S)) :=
  K.pure (fun p e s args below meth c T locs hx hZ hown hby X eT t k => XS.astoreN X.here hx rfl (hb hby hd) rfl hv hl k) k
theorem Wk.iinc (K : Wk Z a0 ts l own nm code ml R n0 m G) {i : Nat} {cst : Int} {x y : Int32} (hd : decode code pc = .ok (.iinc i cst, 3)) (hl : L[i]? = some (.val (.int x))) (hv : x + Int32.ofInt cst = y) (hl' : storeLocals L i (.int y) = some L') (k : G h u w (mkF m (pc + 3) L' (S))) : G h u w (mkF m pc L (S)) :=
  K.pure (fun p e s args below meth c T locs hx hZ hown hby X eT t k => XS.iinc X.here hx rfl (hb hby hd) hl (by rw [hv]; exact hl') k) k
theorem Wk.iconst (K : Wk Z a0 ts l own nm code ml R n0 m G) {i : Int} {v : Int32} (hd : decode code pc = .ok (.iconst i, 1)) (hv : Int32.ofInt i = v) (k : G h u w (mkF m (pc + 1) L (.int v :: S))) : G h u w (mkF m pc L (S)) :=
  K.pure (fun p e s args below meth c T locs hx hZ hown hby X eT t k => XS.iconst X.here hx rfl (hb hby hd) (by rw [hv]; exact k)) k
theorem Wk.bipush (K : Wk Z a0 ts l own nm code ml R n0 m G) {i : Int} {v : Int32} (hd : decode code pc = .ok (.bipush i, 2)) (hv : (Int8.ofInt i).toInt32 = v) (k : G h u w (mkF m (pc + 2) L (.int v :: S))) : G h u w (mkF m pc L (S)) :=
  K.pure (fun p e s args below meth c T locs hx hZ hown hby X eT t k => XS.bipush X.here hx rfl (hb hby hd) (by rw [hv]; exact k)) k
theorem Wk.sipush (K : Wk Z a0 ts l own nm code ml R n0 m G) {i : Int} {v : Int32} (hd : decode code pc = .ok (.sipush i, 3)) (hv : (Int16.ofInt i).toInt32 = v) (k : G h u w (mkF m (pc + 3) L (.int v :: S))) : G h u w (mkF m pc L (S)) :=
  K.pure (fun p e s args below meth c T locs hx hZ hown hby X eT t k => XS.sipush X.here hx rfl (hb hby hd) (by rw [hv]; exact k)) k
theorem Wk.lconst (K : Wk Z a0 ts l own nm code ml R n0 m G) {i : Fin 2} {v : Int64} (hd : decode code pc = .ok (.lconst i, 1)) (hv : Int64.ofNat i = v) (k : G h u w (mkF m (pc + 1) L (.long v :: S))) : G h u w (mkF m pc L (S)) :=
  K.pure (fun p e s args below meth c T locs hx hZ hown hby X eT t k => XS.lconst X.here hx rfl (hb hby hd) (by rw [hv]; exact k)) k
theorem Wk.ldc (K : Wk Z a0 ts l own nm code ml R n0 m G) {i : Nat} {v : Int32} (hd : decode code pc = .ok (.ldc i, 2)) (hw : Jvm.Cond.constant own i v ∈ ts) (k : G h u w (mkF m (pc + 2) L (.int v :: S))) : G h u w (mkF m pc L (S)) :=
  K.pure (fun p e s args below meth c T locs hx hZ hown hby X eT t k => X.ldcInt hx hown (mvT hZ (K.1 _ hw)) (g := mkF m pc L S) rfl (hb hby hd) t k) k
theorem Wk.ldc2 (K : Wk Z a0 ts l own nm code ml R n0 m G) {i : Nat} {v : Int64} (hd : decode code pc = .ok (.ldc2_w i, 3)) (hw : Jvm.Cond.constantLong own i v ∈ ts) (k : G h u w (mkF m (pc + 3) L (.long v :: S))) : G h u w (mkF m pc L (S)) :=
  K.pure (fun p e s args below meth c T locs hx hZ hown hby X eT t k => X.ldc2Long hx hown (mvT hZ (K.1 _ hw)) (g := mkF m pc L S) rfl (hb hby hd) t k) k
theorem Wk.dup (K : Wk Z a0 ts l own nm code ml R n0 m G) {x : Value} (hd : decode code pc = .ok (.dup, 1)) (hc : x.category = 1) (k : G h u w (mkF m (pc + 1) L (x :: x :: S))) : G h u w (mkF m pc L (x :: S)) :=
  K.pure (fun p e s args below meth c T locs hx hZ hown hby X eT t k => XS.dup X.here hx rfl (hb hby hd) rfl hc k) k
theorem Wk.pop (K : Wk Z a0 ts l own nm code ml R n0 m G) {x : Value} (hd : decode code pc = .ok (.pop, 1)) (hc : x.category = 1) (k : G h u w (mkF m (pc + 1) L (S))) : G h u w (mkF m pc L (x :: S)) :=
  K.pure (fun p e s args below meth c T locs hx hZ hown hby X eT t k => XS.pop X.here hx rfl (hb hby hd) rfl hc k) k
theorem Wk.dupX1 (K : Wk Z a0 ts l own nm code ml R n0 m G) {x y : Value} (hd : decode code pc = .ok (.dup_x1, 1)) (hc : x.category = 1) (hc' : y.category = 1) (k : G h u w (mkF m (pc + 1) L (x :: y :: x :: S))) : G h u w (mkF m pc L (x :: y :: S)) :=
  K.pure (fun p e s args below meth c T locs hx hZ hown hby X eT t k => XS.dupX1 X.here hx rfl (hb hby hd) rfl hc hc' k) k
theorem Wk.dup2 (K : Wk Z a0 ts l own nm code ml R n0 m G) {x y : Value} (hd : decode code pc = .ok (.dup2, 1)) (hc : x.category = 1) (hc' : y.category = 1) (k : G h u w (mkF m (pc + 1) L (x :: y :: x :: y :: S))) : G h u w (mkF m pc L (x :: y :: S)) :=
  K.pure (fun p e s args below meth c T locs hx hZ hown hby X eT t k => XT.dup2 X.here hx rfl (hb hby hd) rfl hc hc' k) k
theorem Wk.iadd (K : Wk Z a0 ts l own nm code ml R n0 m G) {x y z : Int32} (hd : decode code pc = .ok (.iadd, 1)) (hv : x + y = z) (k : G h u w (mkF m (pc + 1) L (.int z :: S))) : G h u w (mkF m pc L (.int y :: .int x :: S)) :=
  K.pure (fun p e s args below meth c T locs hx hZ hown hby X eT t k => XS.iadd X.here hx rfl (hb hby hd) rfl (by rw [hv]; exact k)) k
theorem Wk.isub (K : Wk Z a0 ts l own nm code ml R n0 m G) {x y z : Int32} (hd : decode code pc = .ok (.isub, 1)) (hv : x - y = z) (k : G h u w (mkF m (pc + 1) L (.int z :: S))) : G h u w (mkF m pc L (.int y :: .int x :: S)) :=
  K.pure (fun p e s args below meth c T locs hx hZ hown hby X eT t k => XS.isub X.here hx rfl (hb hby hd) rfl (by rw [hv]; exact k)) k
theorem Wk.imul (K : Wk Z a0 ts l own nm code ml R n0 m G) {x y z : Int32} (hd : decode code pc = .ok (.imul, 1)) (hv : x * y = z) (k : G h u w (mkF m (pc + 1) L (.int z :: S))) : G h u w (mkF m pc L (.int y :: .int x :: S)) :=
  K.pure (fun p e s args below meth c T locs hx hZ hown hby X eT t k => XS.imul X.here hx rfl (hb hby hd) rfl (by rw [hv]; exact k)) k
theorem Wk.iand (K : Wk Z a0 ts l own nm code ml R n0 m G) {x y z : Int32} (hd : decode code pc = .ok (.iand, 1)) (hv : x &&& y = z) (k : G h u w (mkF m (pc + 1) L (.int z :: S))) : G h u w (mkF m pc L (.int y :: .int x :: S)) :=
  K.pure (fun p e s args below meth c T locs hx hZ hown hby X eT t k => XS.iand X.here hx rfl (hb hby hd) rfl (by rw [hv]; exact k)) k
theorem Wk.ior (K : Wk Z a0 ts l own nm code ml R n0 m G) {x y z : Int32} (hd : decode code pc = .ok (.ior, 1)) (hv : x ||| y = z) (k : G h u w (mkF m (pc + 1) L (.int z :: S))) : G h u w (mkF m pc L (.int y :: .int x :: S)) :=
  K.pure (fun p e s args below meth c T locs hx hZ hown hby X eT t k => XS.ior X.here hx rfl (hb hby hd) rfl (by rw [hv]; exact k)) k
theorem Wk.ishl (K : Wk Z a0 ts l own nm code ml R n0 m G) {x y z : Int32} (hd : decode code pc = .ok (.ishl, 1)) (hv : x <<< (y &&& 31) = z) (k : G h u w (mkF m (pc + 1) L (.int z :: S))) : G h u w (mkF m pc L (.int y :: .int x :: S)) :=
  K.pure (fun p e s args below meth c T locs hx hZ hown hby X eT t k => XS.ishl X.here hx rfl (hb hby hd) rfl (by rw [hv]; exact k)) k
theorem Wk.ishr (K : Wk Z a0 ts l own nm code ml R n0 m G) {x y z : Int32} (hd : decode code pc = .ok (.ishr, 1)) (hv : x >>> (y &&& 31) = z) (k : G h u w (mkF m (pc + 1) L (.int z :: S))) : G h u w (mkF m pc L (.int y :: .int x :: S)) :=
  K.pure (fun p e s args below meth c T locs hx hZ hown hby X eT t k => XS.ishr X.here hx rfl (hb hby hd) rfl (by rw [hv]; exact k)) k
theorem Wk.iushr (K : Wk Z a0 ts l own nm code ml R n0 m G) {x y z : Int32} (hd : decode code pc = .ok (.iushr, 1)) (hv : (x.toUInt32 >>> (y &&& 31).toUInt32).toInt32 = z) (k : G h u w (mkF m (pc + 1) L (.int z :: S))) : G h u w (mkF m pc L (.int y :: .int x :: S)) :=
  K.pure (fun p e s args below meth c T locs hx hZ hown hby X eT t k => XS.iushr X.here hx rfl (hb hby hd) rfl (by rw [hv]; exact k)) k
theorem Wk.idiv (K : Wk Z a0 ts l own nm code ml R n0 m G) {x y z : Int32} (hd : decode code pc = .ok (.idiv, 1)) (hy : y ≠ 0) (hv : x / y = z) (k : G h u w (mkF m (pc + 1) L (.int z :: S))) : G h u w (mkF m pc L (.int y :: .int x :: S)) :=
  K.pure (fun p e s args below meth c T locs hx hZ hown hby X eT t k => XS.idiv X.here hx rfl (hb hby hd) rfl hy (by rw [hv]; exact k)) k
theorem Wk.irem (K : Wk Z a0 ts l own nm code ml R n0 m G) {x y z : Int32} (hd : decode code pc = .ok (.irem, 1)) (hy : y ≠ 0) (hv : x - x / y * y = z) (k : G h u w (mkF m (pc + 1) L (.int z :: S))) : G h u w (mkF m pc L (.int y :: .int x :: S)) :=
  K.pure (fun p e s args below meth c T locs hx hZ hown hby X eT t k => XS.irem X.here hx rfl (hb hby hd) rfl hy (by rw [hv]; exact k)) k
theorem Wk.ladd (K : Wk Z a0 ts l own nm code ml R n0 m G) {x y z : Int64} (hd : decode code pc = .ok (.ladd, 1)) (hv : x + y = z) (k : G h u w (mkF m (pc + 1) L (.long z :: S))) : G h u w (mkF m pc L (.long y :: .long x :: S)) :=
  K.pure (fun p e s args below meth c T locs hx hZ hown hby X eT t k => XS.ladd X.here hx rfl (hb hby hd) rfl (by rw [hv]; exact k)) k
theorem Wk.lsub (K : Wk Z a0 ts l own nm code ml R n0 m G) {x y z : Int64} (hd : decode code pc = .ok (.lsub, 1)) (hv : x - y = z) (k : G h u w (mkF m (pc + 1) L (.long z :: S))) : G h u w (mkF m pc L (.long y :: .long x :: S)) :=
  K.pure (fun p e s args below meth c T locs hx hZ hown hby X eT t k => XS.lsub X.here hx rfl (hb hby hd) rfl (by rw [hv]; exact k)) k
theorem Wk.lmul (K : Wk Z a0 ts l own nm code ml R n0 m G) {x y z : Int64} (hd : decode code pc = .ok (.lmul, 1)) (hv : x * y = z) (k : G h u w (mkF m (pc + 1) L (.long z :: S))) : G h u w (mkF m pc L (.long y :: .long x :: S)) :=
  K.pure (fun p e s args below meth c T locs hx hZ hown hby X eT t k => XS.lmul X.here hx rfl (hb hby hd) rfl (by rw [hv]; exact k)) k
theorem Wk.land (K : Wk Z a0 ts l own nm code ml R n0 m G) {x y z : Int64} (hd : decode code pc = .ok (.land, 1)) (hv : x &&& y = z) (k : G h u w (mkF m (pc + 1) L (.long z :: S))) : G h u w (mkF m pc L (.long y :: .long x :: S)) :=
  K.pure (fun p e s args below meth c T locs hx hZ hown hby X eT t k => XS.land X.here hx rfl (hb hby hd) rfl (by rw [hv]; exact k)) k
theorem Wk.lrem (K : Wk Z a0 ts l own nm code ml R n0 m G) {x y z : Int64} (hd : decode code pc = .ok (.lrem, 1)) (hy : y ≠ 0) (hv : x - x / y * y = z) (k : G h u w (mkF m (pc + 1) L (.long z :: S))) : G h u w (mkF m pc L (.long y :: .long x :: S)) :=
  K.pure (fun p e s args below meth c T locs hx hZ hown hby X eT t k => XS.lrem X.here hx rfl (hb hby hd) rfl hy (by rw [hv]; exact k)) k
theorem Wk.i2l (K : Wk Z a0 ts l own nm code ml R n0 m G) {x : Int32} {z : Int64} (hd : decode code pc = .ok (.i2l, 1)) (hv : x.toInt64 = z) (k : G h u w (mkF m (pc + 1) L (.long z :: S))) : G h u w (mkF m pc L (.int x :: S)) :=
  K.pure (fun p e s args below meth c T locs hx hZ hown hby X eT t k => XS.i2l X.here hx rfl (hb hby hd) rfl (by rw [hv]; exact k)) k
theorem Wk.l2i (K : Wk Z a0 ts l own nm code ml R n0 m G) {x : Int64} {z : Int32} (hd : decode code pc = .ok (.l2i, 1)) (hv : x.toInt32 = z) (k : G h u w (mkF m (pc + 1) L (.int z :: S))) : G h u w (mkF m pc L (.long x :: S)) :=
  K.pure (fun p e s args below meth c T locs hx hZ hown hby X eT t k => XS.l2i X.here hx rfl (hb hby hd) rfl (by rw [hv]; exact k)) k
theorem Wk.i2b (K : Wk Z a0 ts l own nm code ml R n0 m G) {x : Int32} {z : Int32} (hd : decode code pc = .ok (.i2b, 1)) (hv : x.toInt8.toInt32 = z) (k : G h u w (mkF m (pc + 1) L (.int z :: S))) : G h u w (mkF m pc L (.int x :: S)) :=
  K.pure (fun p e s args below meth c T locs hx hZ hown hby X eT t k => XS.i2b X.here hx rfl (hb hby hd) rfl (by rw [hv]; exact k)) k
theorem Wk.i2c (K : Wk Z a0 ts l own nm code ml R n0 m G) {x : Int32} {z : Int32} (hd : decode code pc = .ok (.i2c, 1)) (hv : x.toUInt32.toUInt16.toUInt32.toInt32 = z) (k : G h u w (mkF m (pc + 1) L (.int z :: S))) : G h u w (mkF m pc L (.int x :: S)) :=
  K.pure (fun p e s args below meth c T locs hx hZ hown hby X eT t k => XS.i2c X.here hx rfl (hb hby hd) rfl (by rw [hv]; exact k)) k
theorem Wk.lcmp (K : Wk Z a0 ts l own nm code ml R n0 m G) {x y : Int64} {z : Int32} (hd : decode code pc = .ok (.lcmp, 1)) (hv : lcmpW x y = z) (k : G h u w (mkF m (pc + 1) L (.int z :: S))) : G h u w (mkF m pc L (.long y :: .long x :: S)) :=
  K.pure (fun p e s args below meth c T locs hx hZ hown hby X eT t k => XS.lcmp X.here hx rfl (hb hby hd) rfl (by subst hv; exact k)) k
theorem Wk.goto (K : Wk Z a0 ts l own nm code ml R n0 m G) {o : Int} {pc' : Nat} (hd : decode code pc = .ok (.goto o, 3)) (ho : 0 ≤ (pc : Int) + o) (hp : ((pc : Int) + o).toNat = pc') (k : G h u w (mkF m pc' L S)) : G h u w (mkF m pc L S) :=
  K.pure (fun p e s args below meth c T locs hx hZ hown hby X eT t k => XS.goto X.here hx rfl rfl (hb hby hd) ho hp k) k
theorem Wk.icmp (K : Wk Z a0 ts l own nm code ml R n0 m G) {cd : ClassFile.Cond} {x y : Int32} {o : Int} {pc' : Nat} (P : Prop) [Decidable P] (hd : decode code pc = .ok (.if_icmp cd o, 3)) (hP : if_icmp.holds cd x y = decide P) (ho : 0 ≤ (pc : Int) + o) (hp : ((pc : Int) + o).toNat = pc')
    (k1 : P → G h u w (mkF m pc' L S)) (k2 : ¬ P → G h u w (mkF m (pc + 3) L S)) : G h u w (mkF m pc L (.int y :: .int x :: S)) := by
  by_cases q : P
  · exact K.pure (fun p e s args below meth c T locs hx hZ hown hby X eT t k => XS.icmpYes X.here hx rfl rfl (hb hby hd) rfl (by rw [hP]; exact decide_eq_true q) ho hp k) (k1 q)
  · exact K.pure (fun p e s args below meth c T locs hx hZ hown hby X eT t k => XS.icmpNo X.here hx rfl (hb hby hd) rfl (by rw [hP]; exact decide_eq_false q) k) (k2 q)
theorem Wk.ifc (K : Wk Z a0 ts l own nm code ml R n0 m G) {cd : ClassFile.Cond} {x : Int32} {o : Int} {pc' : Nat} (P : Prop) [Decidable P] (hd : decode code pc = .ok (.ifCond cd o, 3)) (hP : ifCond.holds cd x = decide P) (ho : 0 ≤ (pc : Int) + o) (hp : ((pc : Int) + o).toNat = pc')
    (k1 : P → G h u w (mkF m pc' L S)) (k2 : ¬ P → G h u w (mkF m (pc + 3) L S)) : G h u w (mkF m pc L (.int x :: S)) := by
  by_cases q : P
  · exact K.pure (fun p e s args below meth c T locs hx hZ hown hby X eT t k => XS.ifYes X.here hx rfl rfl (hb hby hd) rfl (by rw [hP]; exact decide_eq_true q) ho hp k) (k1 q)
  · exact K.pure (fun p e s args below meth c T locs hx hZ hown hby X eT t k => XS.ifNo X.here hx rfl (hb hby hd) rfl (by rw [hP]; exact decide_eq_false q) k) (k2 q)
theorem Wk.ifnullNo (K : Wk Z a0 ts l own nm code ml R n0 m G) {o : Int} {b : Addr} (hd : decode code pc = .ok (.ifnull o, 3)) (k : G h u w (mkF m (pc + 3) L S)) : G h u w (mkF m pc L (.ref b :: S)) :=
  K.pure (fun p e s args below meth c T locs hx hZ hown hby X eT t k => XS.ifnullNo X.here hx rfl (hb hby hd) rfl k) k
theorem Wk.iald (K : Wk Z a0 ts l own nm code ml R n0 m G) {ar : Addr} {n i : Nat} {f : Nat → Int32} (A : Ary Z h ar .int n f) (hd : decode code pc = .ok (.iaload, 1)) (hi : i < n) (k : G h u w (mkF m (pc + 1) L (.int (f i) :: S))) : G h u w (mkF m pc L (.int (Int32.ofNat i) :: .ref ar :: S)) := by
  obtain ⟨cl, A, r1, r2, r3⟩ := A
  obtain ⟨q1, q2⟩ := ix hi r2
  refine K.pure (fun p e s args below meth c T locs hx hZ hown hby X eT t k => X.iaload hx (by rw [eT]; exact A.1) (State.isArrayOf_alike hZ.alike A.2.1) A.2.2 (fun z => z.elim q2 (fun z => by rw [q1, r1] at z; omega)) (by rw [q1]; exact r3 i hi) (g := mkF m pc L (.int (Int32.ofNat i) :: .ref ar :: S)) rfl rfl (hb hby hd) t k) k
theorem Wk.bald (K : Wk Z a0 ts l own nm code ml R n0 m G) {ar : Addr} {n i : Nat} {f : Nat → Int32} (A : Ary Z h ar .byte n f) (hd : decode code pc = .ok (.baload, 1)) (hi : i < n) (k : G h u w (mkF m (pc + 1) L (.int (f i) :: S))) : G h u w (mkF m pc L (.int (Int32.ofNat i) :: .ref ar :: S)) := by
  obtain ⟨cl, A, r1, r2, r3⟩ := A
  obtain ⟨q1, q2⟩ := ix hi r2
  refine K.pure (fun p e s args below meth c T locs hx hZ hown hby X eT t k => X.baloadBytes hx (by rw [eT]; exact A.1) (State.isArrayOf_alike hZ.alike A.2.1) A.2.2 (fun z => z.elim q2 (fun z => by rw [q1, r1] at z; omega)) (by rw [q1]; exact r3 i hi) (g := mkF m pc L (.int (Int32.ofNat i) :: .ref ar :: S)) rfl rfl (hb hby hd) t k) k
theorem Wk.zald (K : Wk Z a0 ts l own nm code ml R n0 m G) {ar : Addr} {n i : Nat} {f : Nat → Int32} (A : Ary Z h ar .boolean n f) (hd : decode code pc = .ok (.baload, 1)) (hi : i < n) (k : G h u w (mkF m (pc + 1) L (.int (f i) :: S))) : G h u w (mkF m pc L (.int (Int32.ofNat i) :: .ref ar :: S)) := by
  obtain ⟨cl, A, r1, r2, r3⟩ := A
  obtain ⟨q1, q2⟩ := ix hi r2
  refine K.pure (fun p e s args below meth c T locs hx hZ hown hby X eT t k => X.baloadBooleans hx (by rw [eT]; exact A.1) (State.isArrayOf_alike hZ.alike A.2.1) A.2.2 (fun z => z.elim q2 (fun z => by rw [q1, r1] at z; omega)) (by rw [q1]; exact r3 i hi) (g := mkF m pc L (.int (Int32.ofNat i) :: .ref ar :: S)) rfl rfl (hb hby hd) t k) k
theorem Wk.cald (K : Wk Z a0 ts l own nm code ml R n0 m G) {ar : Addr} {n i : Nat} {f : Nat → Int32} (A : Ary Z h ar .char n f) (hd : decode code pc = .ok (.caload, 1)) (hi : i < n) (k : G h u w (mkF m (pc + 1) L (.int (f i) :: S))) : G h u w (mkF m pc L (.int (Int32.ofNat i) :: .ref ar :: S)) := by
  obtain ⟨cl, A, r1, r2, r3⟩ := A
  obtain ⟨q1, q2⟩ := ix hi r2
  refine K.pure (fun p e s args below meth c T locs hx hZ hown hby X eT t k => X.caload hx (by rw [eT]; exact A.1) (State.isArrayOf_alike hZ.alike A.2.1) A.2.2 (fun z => z.elim q2 (fun z => by rw [q1, r1] at z; omega)) (by rw [q1]; exact r3 i hi) (g := mkF m pc L (.int (Int32.ofNat i) :: .ref ar :: S)) rfl rfl (hb hby hd) t k) k
theorem Wk.iast (K : Wk Z a0 ts l own nm code ml R n0 m G) {ar : Addr} {n i : Nat} {f : Nat → Int32} {x y : Int32} (A : Ary Z h ar .int n f) (hn : n0 ≤ ar) (hd : decode code pc = .ok (.iastore, 1)) (hi : i < n) (hv : x = y) (k : ∀ h', Wr h h' ar i (.int y) → Ary Z h' ar .int n (up f i y) → G h' u w (mkF m (pc + 1) L S)) : G h u w (mkF m pc L (.int x :: .int (Int32.ofNat i) :: .ref ar :: S)) := by
  have A0 := A
  obtain ⟨cl, A, r1, r2, r3⟩ := A
  obtain ⟨q1, q2⟩ := ix hi r2
  refine K.move (fun p e s args below meth c T locs hx hZ hown hby hml hnm X eT N => ?_)
  obtain ⟨T', h', X', e', W, st⟩ := stI X hx hZ eT A (j := Int32.ofNat i) (fun z => z.elim q2 (fun z => by rw [q1, r1] at z; omega)) (g := mkF m pc L (.int x :: .int (Int32.ofNat i) :: .ref ar :: S)) rfl rfl (hb hby hd)
  have W1 : Wr h h' ar i (.int y) := by rw [q1] at W; rw [← hv]; exact W
  refine ⟨T', _, u, w, _, X', Fr.snoc X' N hn, ?_, st⟩
  rw [e']
  exact k h' W1 (A0.set W1)
theorem Wk.bast (K : Wk Z a0 ts l own nm code ml R n0 m G) {ar : Addr} {n i : Nat} {f : Nat → Int32} {x y : Int32} (A : Ary Z h ar .byte n f) (hn : n0 ≤ ar) (hd : decode code pc = .ok (.bastore, 1)) (hi : i < n) (hv : nar .byte x = y) (k : ∀ h', Wr h h' ar i (.int y) → Ary Z h' ar .byte n (up f i y) → G h' u w (mkF m (pc + 1) L S)) : G h u w (mkF m pc L (.int x :: .int (Int32.ofNat i) :: .ref ar :: S)) := by
  have A0 := A
  obtain ⟨cl, A, r1, r2, r3⟩ := A
  obtain ⟨q1, q2⟩ := ix hi r2
  refine K.move (fun p e s args below meth c T locs hx hZ hown hby hml hnm X eT N => ?_)
  obtain ⟨T', h', X', e', W, st⟩ := stB X hx hZ eT A (j := Int32.ofNat i) (fun z => z.elim q2 (fun z => by rw [q1, r1] at z; omega)) (g := mkF m pc L (.int x :: .int (Int32.ofNat i) :: .ref ar :: S)) rfl rfl (hb hby hd)
  have W1 : Wr h h' ar i (.int y) := by rw [q1] at W; rw [← hv]; exact W
  refine ⟨T', _, u, w, _, X', Fr.snoc X' N hn, ?_, st⟩
  rw [e']
  exact k h' W1 (A0.set W1)
theorem Wk.zast (K : Wk Z a0 ts l own nm code ml R n0 m G) {ar : Addr} {n i : Nat} {f : Nat → Int32} {x y : Int32} (A : Ary Z h ar .boolean n f) (hn : n0 ≤ ar) (hd : decode code pc = .ok (.bastore, 1)) (hi : i < n) (hv : nar .boolean x = y) (k : ∀ h', Wr h h' ar i (.int y) → Ary Z h' ar .boolean n (up f i y) → G h' u w (mkF m (pc + 1) L S)) : G h u w (mkF m pc L (.int x :: .int (Int32.ofNat i) :: .ref ar :: S)) := by
  have A0 := A
  obtain ⟨cl, A, r1, r2, r3⟩ := A
  obtain ⟨q1, q2⟩ := ix hi r2
  refine K.move (fun p e s args below meth c T locs hx hZ hown hby hml hnm X eT N => ?_)
  obtain ⟨T', h', X', e', W, st⟩ := stZ X hx hZ eT A (j := Int32.ofNat i) (fun z => z.elim q2 (fun z => by rw [q1, r1] at z; omega)) (g := mkF m pc L (.int x :: .int (Int32.ofNat i) :: .ref ar :: S)) rfl rfl (hb hby hd)
  have W1 : Wr h h' ar i (.int y) := by rw [q1] at W; rw [← hv]; exact W
  refine ⟨T', _, u, w, _, X', Fr.snoc X' N hn, ?_, st⟩
  rw [e']
  exact k h' W1 (A0.set W1)
theorem Wk.cast (K : Wk Z a0 ts l own nm code ml R n0 m G) {ar : Addr} {n i : Nat} {f : Nat → Int32} {x y : Int32} (A : Ary Z h ar .char n f) (hn : n0 ≤ ar) (hd : decode code pc = .ok (.castore, 1)) (hi : i < n) (hv : nar .char x = y) (k : ∀ h', Wr h h' ar i (.int y) → Ary Z h' ar .char n (up f i y) → G h' u w (mkF m (pc + 1) L S)) : G h u w (mkF m pc L (.int x :: .int (Int32.ofNat i) :: .ref ar :: S)) := by
  have A0 := A
  obtain ⟨cl, A, r1, r2, r3⟩ := A
  obtain ⟨q1, q2⟩ := ix hi r2
  refine K.move (fun p e s args below meth c T locs hx hZ hown hby hml hnm X eT N => ?_)
  obtain ⟨T', h', X', e', W, st⟩ := stC X hx hZ eT A (j := Int32.ofNat i) (fun z => z.elim q2 (fun z => by rw [q1, r1] at z; omega)) (g := mkF m pc L (.int x :: .int (Int32.ofNat i) :: .ref ar :: S)) rfl rfl (hb hby hd)
  have W1 : Wr h h' ar i (.int y) := by rw [q1] at W; rw [← hv]; exact W
  refine ⟨T', _, u, w, _, X', Fr.snoc X' N hn, ?_, st⟩
  rw [e']
  exact k h' W1 (A0.set W1)
theorem Wk.alen (K : Wk Z a0 ts l own nm code ml R n0 m G) {ar : Addr} {n : Nat} {f : Nat → Int32} {ty : FieldType} (A : Ary Z h ar ty n f) (hd : decode code pc = .ok (.arraylength, 1)) (k : G h u w (mkF m (pc + 1) L (.int (Int32.ofNat n) :: S))) : G h u w (mkF m pc L (.ref ar :: S)) := by
  obtain ⟨cl, A, r1, r2, r3⟩ := A
  refine K.pure (fun p e s args below meth c T locs hx hZ hown hby X eT t k => X.arraylength hx (by rw [eT]; exact A.1) (State.isArrayOf_alike hZ.alike A.2.1) (g := mkF m pc L (.ref ar :: S)) rfl rfl (hb hby hd) t (by rw [r1]; exact k)) k
theorem Wk.newarr (K : Wk Z a0 ts l own nm code ml R n0 m G) {aty : ArrayType} {n cap : Nat} (hw : Jvm.Cond.arrayClass (newarray.typeOf aty) ∈ ts) (hz : defaultValue (newarray.typeOf aty) = .int 0) (hd : decode code pc = .ok (.newarray aty, 2)) (hn : n ≤ cap) (hcap : cap * 8 ≤ 536870912) (hc : u + 1 ≤ R.cells) (hs : w + cap ≤ R.slots)
    (k : ∀ h', Ext h h' → Ary Z h' h.size (newarray.typeOf aty) n (fun _ => 0) → G h' (u + 1) (w + cap) (mkF m (pc + 2) L (.ref h.size :: S))) : G h u w (mkF m pc L (.int (Int32.ofNat n) :: S)) := by
  obtain ⟨q1, q2⟩ := ix (i := n) (n := n + 1) (by omega) (by omega)
  refine K.move (fun p e s args below meth c T locs hx hZ hown hby hml hnm X eT N => ?_)
  obtain ⟨T', h', cA, X', e', E, A, st⟩ := newP X hx hZ (K.1 _ hw) eT (g := mkF m pc L (.int (Int32.ofNat n) :: S)) rfl (hb hby hd) rfl q2 (cap := cap) (by rw [q1]; exact hn) hcap hc hs
  refine ⟨T', locs, u + 1, w + cap, _, X', N, ?_, st⟩
  rw [e']
  refine k h' E ⟨_, A, by rw [sz_new, q1], by omega, fun i hi => ?_⟩
  simp [newA, q1, hi, hz]
theorem Wk.newobj (K : Wk Z a0 ts l own nm code ml R n0 m G) {C : String} {index n : Nat} (w1 : Jvm.Cond.classLink own index C ∈ ts) (w2 : Jvm.Cond.instantiable C n ∈ ts) (w3 : Jvm.Cond.initialized C ∈ ts) (hd : decode code pc = .ok (.new index, 3)) (hc : u + 1 ≤ R.cells) (hs : w + n ≤ R.slots)
    (k : ∀ h', Ext h h' → Exa Z h' h.size C → (∀ {O f d : String} {ty : FieldType}, Laid Z a0 C O f d → parseFieldDescriptor d = some ty → Fld Z h' h.size O f d (defaultValue ty)) → G h' (u + 1) (w + n) (mkF m (pc + 3) L (.ref h.size :: S))) : G h u w (mkF m pc L S) := by
  refine K.move (fun p e s args below meth c T locs hx hZ hown hby hml hnm X eT N => ?_)
  obtain ⟨T', h', X', e', E, A, D, -, st⟩ := newO X hx hZ hown (K.1 _ w1) (K.1 _ w2) (K.1 _ w3) eT (g := mkF m pc L S) rfl (hb hby hd) hc hs
  refine ⟨T', locs, u + 1, w + n, _, X', N, ?_, st⟩
  rw [e']
  exact k h' E A D
theorem Wk.getf (K : Wk Z a0 ts l own nm code ml R n0 m G) {C f d : String} {index : Nat} {a : Addr} {v : Value} (w1 : Jvm.Cond.fieldLink own index C f d ∈ ts) (F : Fld Z h a C f d v) (hd : decode code pc = .ok (.getfield index, 3)) (k : G h u w (mkF m (pc + 3) L (v :: S))) : G h u w (mkF m pc L (.ref a :: S)) := by
  refine K.move (fun p e s args below meth c T locs hx hZ hown hby hml hnm X eT N => ?_)
  obtain ⟨T', X', e', st⟩ := getF X hx hZ hown (host := "") (Or.inl (K.1 _ w1)) Via.refl eT F (g := mkF m pc L (.ref a :: S)) rfl rfl (hb hby hd)
  exact ⟨T', locs, u, w, _, X', N, by rw [e']; exact k, st⟩
theorem Wk.putf (K : Wk Z a0 ts l own nm code ml R n0 m G) {C f d : String} {index kk : Nat} {a : Addr} {v old : Value} {ty : FieldType} (w1 : Jvm.Cond.fieldLink own index C f d ∈ ts) (F : Fld Z h a C f d old) (E : Exa Z h a C) (hn : n0 ≤ a) (w2 : Jvm.Cond.lays C C f d ∈ ts ∨ (Jvm.Cond.laysFinal C C f d ∈ ts ∧ own = C ∧ nm = "<init>")) (w3 : Jvm.Cond.instantiable C kk ∈ ts)
    (hty : parseFieldDescriptor d = some ty) (hnr : narrow ty v = v) (hf : fits ty v = true) (hd : decode code pc = .ok (.putfield index, 3)) (k : ∀ h', Wr h h' a (Jvm.RoadKit.slotOf Z C f d) v → Fld Z h' a C f d v → Exa Z h' a C → G h' u w (mkF m (pc + 3) L S)) : G h u w (mkF m pc L (v :: .ref a :: S)) := by
  refine K.move (fun p e s args below meth c T locs hx hZ hown hby hml hnm X eT N => ?_)
  obtain ⟨T', h', X', e', W, st⟩ := putF X hx hZ hown (host := "") (Or.inl (K.1 _ w1)) Via.refl eT F E (w2.imp (K.1 _) (fun q => ⟨K.1 _ q.1, q.2.1, hnm.trans q.2.2⟩)) (K.1 _ w3) hty hnr hf (g := mkF m pc L (v :: .ref a :: S)) rfl rfl (hb hby hd)
  refine ⟨T', _, u, w, _, X', Fr.snoc X' N hn, ?_, st⟩
  rw [e']
  exact k h' W (F.same W) (E.wr W)
theorem Wk.initobj (K : Wk Z a0 ts l own nm code ml R n0 m G) {index W : Nat} {a : Addr} (w1 : Jvm.Cond.methodLink own index Lib.objectInit ∈ ts) (w2 : Jvm.Cond.instanceMethod Lib.objectInit ∈ ts) (w3 : Jvm.Cond.code Lib.objectInit ⟨#[0xb1]⟩ 1 none ∈ ts) (hd : decode code pc = .ok (.invokespecial index, 3)) (hL : L.size = ml) (hf : 1 ≤ R.frames) (hW : (S.map fun v => v.category).sum ≤ W) (hl : W + 12 ≤ R.locals)
    (k : G h u w (mkF m (pc + 3) L S)) : G h u w (mkF m pc L (.ref a :: S)) := by
  refine K.move (fun p e s args below meth c T locs hx hZ hown hby hml hnm X eT N => ?_)
  obtain ⟨T', X', e', st⟩ := initO X hx hZ hown (K.1 _ w1) (K.1 _ w2) (K.1 _ w3) eT (g := mkF m pc L (.ref a :: S)) rfl (hL.trans hml.symm) rfl (hb hby hd) hf (W := W) (by show 2 * 0 + _ ≤ _; omega) hl
  exact ⟨T', locs, u, w, _, X', N, by rw [e']; exact k, st⟩
/-- what a body's contract says here -/
def Con (Z : State) (l : Launch) (n0 : Nat) (y : MethodName) (bytes : ByteArray) (maxL : Nat) (ret : Option FieldType) (ws : List Jvm.Cond) (rm : Room) (as : Array Value) (h : Heap) (Post : Option Value → Heap → Prop) : Prop :=
  MetFree l y (head1 (Jvm.Cond.code y bytes maxL ret :: ws) rm) (fun a U => a = as ∧ Z.Warmed39 U.vm ∧ U.heap = h) (fun _ _ _ _ _ => True) (fun _ U o U' => ∃ v Lc, o = .returned v ∧ (Post v U'.heap ∧ Fr n0 Lc) ∧ FrameEnd U o U' Lc rm.cells rm.slots)
theorem Wk.callS (K : Wk Z a0 ts l own nm code ml R n0 m G) {index W maxL : Nat} {y : MethodName} {bytes : ByteArray} {ret : Option FieldType} {rm : Room} {Post : Option Value → Heap → Prop} (as rest : List Value) {ps : List FieldType} {rr : Option FieldType} (w1 : Jvm.Cond.methodLink own index y ∈ ts) (w2 : Jvm.Cond.static y ∈ ts) (w3 : Jvm.Cond.initialized y.cls ∈ ts) (w4 : Jvm.Cond.code y bytes maxL ret ∈ ts) (hy : y.cls ≠ "java/lang/invoke/MethodHandle" ∧ y.cls ≠ "java/lang/invoke/VarHandle")
    (hM : Con Z l n0 y bytes maxL ret [] rm as.toArray h Post) (hf : rm.frames + 1 ≤ R.frames) (hl : W + (maxL + 11) + rm.locals ≤ R.locals) (hp : parseMethodDescriptor y.desc = some ⟨ps, rr⟩) (hlen : as.length = ps.length) (hst : S = as.reverse ++ rest) (hW : (rest.map fun v => v.category).sum ≤ W) (hL : L.size = ml) (hd : decode code pc = .ok (.invokestatic index, 3)) (hc : u + rm.cells ≤ R.cells) (hs : w + rm.slots ≤ R.slots)
    (k : ∀ v h', Post v h' → G h' (u + rm.cells) (w + rm.slots) (mkF m (pc + 3) L (v.toList ++ rest))) : G h u w (mkF m pc L S) := by
  subst hst
  refine K.move (fun p e s args below meth c T locs hx hZ hown hby hml hnm X eT N => ?_)
  obtain ⟨v, _, ⟨T', L', k', n'⟩, -, X', ⟨Lc, hQ, hl1, hy1, hz1⟩, st⟩ := Jvm.LawKit.callS X hx (y := y) hown (mvT hZ (K.1 _ w1)) (mvT hZ (K.1 _ w2)) (mvT hZ (K.1 _ w3)) (mvT hZ (K.1 _ w4)) hy (backOf (W := W) (Q := fun v h Lc => Post v h ∧ Fr n0 Lc) hM hZ (K.1 _ w4) (K.1 _ w3) hf hl) (g := mkF m pc L (as.reverse ++ rest)) rfl (hL.trans hml.symm) (argsL := as) (rest := rest) (lenOf hp hlen) rfl (by show 2 * 0 + _ ≤ _; omega) (hb hby hd) (fun _ _ => ⟨rfl, eT, hc, hs⟩)
  dsimp only [Pt.U, Pt.locs, Pt.cells, Pt.slots] at X' hl1 hy1 hz1 st hQ
  subst hl1 hy1 hz1
  exact ⟨T', _, _, _, _, X', Fr.app N hQ.2, k v _ hQ.1, st⟩
theorem Wk.callI (K : Wk Z a0 ts l own nm code ml R n0 m G) {index W maxL : Nat} {y : MethodName} {bytes : ByteArray} {rm : Room} {Post : Option Value → Heap → Prop} {a : Addr} (as rest : List Value) {ps : List FieldType} {rr : Option FieldType} (hi : y.name = "<init>") (w1 : Jvm.Cond.methodLink own index y ∈ ts) (w2 : Jvm.Cond.instanceMethod y ∈ ts) (w3 : Jvm.Cond.initialized y.cls ∈ ts) (w4 : Jvm.Cond.code y bytes maxL none ∈ ts) (hy : y.cls ≠ "java/lang/invoke/MethodHandle" ∧ y.cls ≠ "java/lang/invoke/VarHandle")
    (hM : Con Z l n0 y bytes maxL none [] rm (.ref a :: as).toArray h Post) (hf : rm.frames + 1 ≤ R.frames) (hl : W + (maxL + 11) + rm.locals ≤ R.locals) (hp : parseMethodDescriptor y.desc = some ⟨ps, rr⟩) (hlen : as.length = ps.length) (hst : S = as.reverse ++ .ref a :: rest) (hW : (rest.map fun v => v.category).sum ≤ W) (hL : L.size = ml) (hd : decode code pc = .ok (.invokespecial index, 3)) (hc : u + rm.cells ≤ R.cells) (hs : w + rm.slots ≤ R.slots)
    (k : ∀ v h', Post v h' → G h' (u + rm.cells) (w + rm.slots) (mkF m (pc + 3) L (v.toList ++ rest))) : G h u w (mkF m pc L S) := by
  subst hst
  refine K.move (fun p e s args below meth c T locs hx hZ hown hby hml hnm X eT N => ?_)
  obtain ⟨v, _, ⟨T', L', k', n'⟩, -, X', ⟨Lc, hQ, hl1, hy1, hz1⟩, st⟩ := X.specialBack hx (y := y) hi hown (mvT hZ (K.1 _ w1)) (mvT hZ (K.1 _ w2)) (mvT hZ (K.1 _ w4)) hy (backOf (W := W) (Q := fun v h Lc => Post v h ∧ Fr n0 Lc) hM hZ (K.1 _ w4) (K.1 _ w3) hf hl) (g := mkF m pc L (as.reverse ++ .ref a :: rest)) rfl (hL.trans hml.symm) (Steps.refl _) (a := a) (argsL := as) (rest := rest) (lenOf hp hlen) rfl (by show 2 * 0 + _ ≤ _; omega) (hb hby hd) (fun _ _ => ⟨rfl, eT, hc, hs⟩)
  dsimp only [Pt.U, Pt.locs, Pt.cells, Pt.slots] at X' hl1 hy1 hz1 st hQ
  subst hl1 hy1 hz1
  exact ⟨T', _, _, _, _, X', Fr.app N hQ.2, k v _ hQ.1, fun t q => st.trans q⟩
theorem Wk.callV (K : Wk Z a0 ts l own nm code ml R n0 m G) {index W maxL : Nat} {y : MethodName} {bytes : ByteArray} {ret : Option FieldType} {rm : Room} {Post : Option Value → Heap → Prop} {a : Addr} (as rest : List Value) {ps : List FieldType} {rr : Option FieldType} (w1 : Jvm.Cond.methodLink own index y ∈ ts) (w2 : Jvm.Cond.declares y ∈ ts) (w5 : Jvm.Cond.selects y.cls y y ∈ ts) (w6 : Jvm.Cond.instanceMethod y ∈ ts) (w3 : Jvm.Cond.initialized y.cls ∈ ts) (w4 : Jvm.Cond.code y bytes maxL ret ∈ ts) (hy : y.cls ≠ "java/lang/invoke/MethodHandle" ∧ y.cls ≠ "java/lang/invoke/VarHandle") (E : Exa Z h a y.cls)
    (hM : Con Z l n0 y bytes maxL ret [] rm (.ref a :: as).toArray h Post) (hf : rm.frames + 1 ≤ R.frames) (hl : W + (maxL + 11) + rm.locals ≤ R.locals) (hp : parseMethodDescriptor y.desc = some ⟨ps, rr⟩) (hlen : as.length = ps.length) (hst : S = as.reverse ++ .ref a :: rest) (hW : (rest.map fun v => v.category).sum ≤ W) (hL : L.size = ml) (hd : decode code pc = .ok (.invokevirtual index, 3)) (hc : u + rm.cells ≤ R.cells) (hs : w + rm.slots ≤ R.slots)
    (k : ∀ v h', Post v h' → G h' (u + rm.cells) (w + rm.slots) (mkF m (pc + 3) L (v.toList ++ rest))) : G h u w (mkF m pc L S) := by
  subst hst
  refine K.move (fun p e s args below meth c T locs hx hZ hown hby hml hnm X eT N => ?_)
  obtain ⟨cq, kq, qa, qb, qc⟩ := isOf hZ eT E
  obtain ⟨v, _, ⟨T', L', k', n'⟩, -, X', ⟨Lc, hQ, hl1, hy1, hz1⟩, st⟩ := X.virtualBack hx (y := y) (z := y) hown (mvT hZ (K.1 _ w1)) (mvT hZ (K.1 _ w2)) (notFace_of_selects (args := #[]) (mvT hZ (K.1 _ w5))) (mvT hZ (K.1 _ w5)) (mvT hZ (K.1 _ w6)) hy (backOf (W := W) (Q := fun v h Lc => Post v h ∧ Fr n0 Lc) hM hZ (K.1 _ w4) (K.1 _ w3) hf hl) qa qc (g := mkF m pc L (as.reverse ++ .ref a :: rest)) rfl (hL.trans hml.symm) (Steps.refl _) (argsL := as) (rest := rest) (lenOf hp hlen) rfl (by show 2 * 0 + _ ≤ _; omega) (hb hby hd) (fun _ _ => ⟨rfl, eT, hc, hs⟩)
  dsimp only [Pt.U, Pt.locs, Pt.cells, Pt.slots] at X' hl1 hy1 hz1 st hQ
  subst hl1 hy1 hz1
  exact ⟨T', _, _, _, _, X', Fr.app N hQ.2, k v _ hQ.1, fun t q => st.trans q⟩
/-- the frame g stands at a return, with v to hand back -/
def Ret (ret : Option FieldType) (code : ByteArray) (m : MethodId) (g : JFrame) (v : Option Value) : Prop :=
  (∃ (pc : Nat) (L : Array Slot), ret = none ∧ decode code pc = .ok (.return_, 1) ∧ g = mkF m pc L [] ∧ v = none) ∨
  ∃ (pc : Nat) (L : Array Slot) (S : List Value) (x : Value) (t : FieldType) (i : Instr), ret = some t ∧ narrow t x = x ∧ ((i = .ireturn ∧ (t = .int ∨ t = .boolean ∨ t = .byte ∨ t = .char ∨ t = .short) ∧ ∃ z, x = .int z) ∨ (i = .lreturn ∧ t = .long ∧ ∃ z, x = .long z) ∨ (i = .dreturn ∧ t = .double ∧ ∃ z, x = .double z) ∨ (i = .freturn ∧ t = .float ∧ ∃ z, x = .float z) ∨ (i = .areturn ∧ t.isReference = true ∧ x.isRef = true)) ∧ decode code pc = .ok (i, 1) ∧ g = mkF m pc L (x :: S) ∧ v = some x
theorem con_of {y : MethodName} {bytes : ByteArray} {maxL : Nat} {ret : Option FieldType} {rm : Room} (ws : List Jvm.Cond) {as : Array Value} {L0 : Array Slot} {Post : Option Value → Heap → Prop} (hpn : plainFor y = true) (hw : ∀ d ∈ ts, d.before a0 Z = true) (hef : ∀ m, entryFrame m as maxL = mkF m 0 L0 [])
    (body : ∀ (m : MethodId) (G : Heap → Nat → Nat → JFrame → Prop), Wk Z a0 ts l y.cls y.name bytes maxL rm n0 m G → (∀ (h : Heap) (k n : Nat) (g : JFrame) (v : Option Value), Ret ret bytes m g v → k ≤ rm.cells → n ≤ rm.slots → Post v h → G h k n g) → G h 0 0 (mkF m 0 L0 [])) :
    Con Z l n0 y bytes maxL ret ws rm as h Post := by
  unfold Con
  refine MetFree.of_bodySF (code := bytes) (maxLocals := maxL) (ret := ret) hpn hisR ?_
  intro p e s m args below meth c s₁ Bd hml0 hP hK
  obtain ⟨rfl, hZ, hh⟩ := hP
  have hx := Bd.exec
  have hby := Bd.bytes
  have hown : s.vm.findClass y.cls = some m.cls := findClass_of_methodNamed Bd.named
  have hnm := (name_of_methodNamed Bd.named Bd.method).1
  have X0 : Stand p l e rm s m args below meth c s₁ [] 0 0 := Stand.of_body Bd
  have e0 : s₁.heap = h := by rw [← hh, Bd.state]; rfl
  obtain ⟨T', locs', k', n', g', X', N', ⟨v, hR, hk', hn', hPost⟩, go⟩ := body m (Wp p l e rm s m args below meth c n0 (fun h k n g => ∃ v, Ret ret bytes m g v ∧ k ≤ rm.cells ∧ n ≤ rm.slots ∧ Post v h))
    ⟨hw, p, e, s, args, below, meth, c, _, hx, hZ, hown, hby, hml0, hnm, rfl⟩ (fun h k n g v hR hk hn hP T locs X eT N => ⟨T, locs, k, n, g, X, N, ⟨v, hR, hk, hn, by rw [eT]; exact hP⟩, fun t q => q⟩) s₁ [] X0 e0 (Fr.nil n0)
  have hv : meth.sig.returnType = none → v = none := by
    intro q
    rcases hR with ⟨pc, L, r1, r2, r3, r4⟩ | ⟨pc, L, S, x, t, i, r1, -⟩
    · exact r4
    · rw [Bd.returns, r1] at q; cases q
  obtain ⟨fs, hr, hrun, hended, hW, hsame⟩ := X'.leave (v := v) hv
  refine ⟨_, _, castTop (hef m) (go _ ?_), hrun, hended, _, _, rfl, ⟨hPost, N'⟩, ⟨_, rfl⟩, hW, hsame.mono hk' hn'⟩
  rcases hR with ⟨pc, L, r1, r2, rfl, rfl⟩ | ⟨pc, L, S, x, t, i, r1, r2, r3, r4, rfl, rfl⟩
  · exact X'.returnOut hx (Bd.returns.trans r1) (hb hby r2) hr
  · exact retOut X' hx (Bd.returns.trans r1) r2 r3 (hb hby r4) hr
end Laws
theorem Ret.v {code : ByteArray} {m : MethodId} {pc : Nat} {L : Array Slot} (hd : decode code pc = .ok (.return_, 1)) : Ret none code m (mkF m pc L []) none := Or.inl ⟨pc, L, rfl, hd, rfl, rfl⟩
theorem Ret.i {code : ByteArray} {m : MethodId} {pc : Nat} {L : Array Slot} {S : List Value} {z : Int32} (hd : decode code pc = .ok (.ireturn, 1)) : Ret (some .int) code m (mkF m pc L (.int z :: S)) (some (.int z)) := Or.inr ⟨pc, L, S, _, .int, .ireturn, rfl, rfl, Or.inl ⟨rfl, Or.inl rfl, z, rfl⟩, hd, rfl, rfl⟩
theorem Ret.z {code : ByteArray} {m : MethodId} {pc : Nat} {L : Array Slot} {S : List Value} {z : Int32} (hd : decode code pc = .ok (.ireturn, 1)) (hz : z = 0 ∨ z = 1) : Ret (some .boolean) code m (mkF m pc L (.int z :: S)) (some (.int z)) := Or.inr ⟨pc, L, S, _, .boolean, .ireturn, rfl, by rcases hz with rfl | rfl <;> rfl, Or.inl ⟨rfl, Or.inr (Or.inl rfl), z, rfl⟩, hd, rfl, rfl⟩
theorem Ret.l {code : ByteArray} {m : MethodId} {pc : Nat} {L : Array Slot} {S : List Value} {z : Int64} (hd : decode code pc = .ok (.lreturn, 1)) : Ret (some .long) code m (mkF m pc L (.long z :: S)) (some (.long z)) := Or.inr ⟨pc, L, S, _, .long, .lreturn, rfl, rfl, Or.inr (Or.inl ⟨rfl, rfl, z, rfl⟩), hd, rfl, rfl⟩
theorem Ret.a {code : ByteArray} {m : MethodId} {pc : Nat} {L : Array Slot} {S : List Value} {z : Addr} {t : FieldType} (ht : t.isReference = true) (hd : decode code pc = .ok (.areturn, 1)) : Ret (some t) code m (mkF m pc L (.ref z :: S)) (some (.ref z)) := Or.inr ⟨pc, L, S, _, t, .areturn, rfl, (by cases t <;> first | rfl | (cases ht)), Or.inr (Or.inr (Or.inr (Or.inr ⟨rfl, ht, rfl⟩))), hd, rfl, rfl⟩
theorem h_lt (x y : Int32) : if_icmp.holds .lt x y = decide (x.toInt < y.toInt) := by simp [if_icmp.holds, Int32.lt_iff_toInt_lt]
theorem h_ge (x y : Int32) : if_icmp.holds .ge x y = decide (y.toInt ≤ x.toInt) := by simp [if_icmp.holds, Int32.le_iff_toInt_le]
theorem h_gt (x y : Int32) : if_icmp.holds .gt x y = decide (y.toInt < x.toInt) := by simp [if_icmp.holds, Int32.lt_iff_toInt_lt]
theorem h_le (x y : Int32) : if_icmp.holds .le x y = decide (x.toInt ≤ y.toInt) := by simp [if_icmp.holds, Int32.le_iff_toInt_le]
theorem h_eq (x y : Int32) : if_icmp.holds .eq x y = decide (x.toInt = y.toInt) := by
  by_cases q : x = y <;> simp [if_icmp.holds, Int32.toInt_inj, q]
theorem h_ne (x y : Int32) : if_icmp.holds .ne x y = decide (¬ x.toInt = y.toInt) := by
  by_cases q : x = y <;> simp [if_icmp.holds, Int32.toInt_inj, q]
theorem hk_lt {x y : Int32} {p q : Int} (ex : x.toInt = p) (ey : y.toInt = q) : if_icmp.holds .lt x y = decide (p < q) := by subst ex ey; exact h_lt x y
theorem hk_ge {x y : Int32} {p q : Int} (ex : x.toInt = p) (ey : y.toInt = q) : if_icmp.holds .ge x y = decide (q ≤ p) := by subst ex ey; exact h_ge x y
theorem hk_gt {x y : Int32} {p q : Int} (ex : x.toInt = p) (ey : y.toInt = q) : if_icmp.holds .gt x y = decide (q < p) := by subst ex ey; exact h_gt x y
theorem hk_le {x y : Int32} {p q : Int} (ex : x.toInt = p) (ey : y.toInt = q) : if_icmp.holds .le x y = decide (p ≤ q) := by subst ex ey; exact h_le x y
theorem hk_eq {x y : Int32} {p q : Int} (ex : x.toInt = p) (ey : y.toInt = q) : if_icmp.holds .eq x y = decide (p = q) := by subst ex ey; exact h_eq x y
theorem hk_ne {x y : Int32} {p q : Int} (ex : x.toInt = p) (ey : y.toInt = q) : if_icmp.holds .ne x y = decide (¬ p = q) := by subst ex ey; exact h_ne x y
theorem z_lt (x : Int32) : ifCond.holds .lt x = decide (x.toInt < 0) := by simp [ifCond.holds, Int32.lt_iff_toInt_lt]
theorem z_ge (x : Int32) : ifCond.holds .ge x = decide (0 ≤ x.toInt) := by simp [ifCond.holds, Int32.le_iff_toInt_le]
theorem z_gt (x : Int32) : ifCond.holds .gt x = decide (0 < x.toInt) := by simp [ifCond.holds, Int32.lt_iff_toInt_lt]
theorem z_le (x : Int32) : ifCond.holds .le x = decide (x.toInt ≤ 0) := by simp [ifCond.holds, Int32.le_iff_toInt_le]
theorem z_eq (x : Int32) : ifCond.holds .eq x = decide (x.toInt = 0) := by
  have e : x.toInt = 0 ↔ x = 0 := by rw [← Int32.toInt_zero, Int32.toInt_inj]
  by_cases q : x = 0 <;> simp [ifCond.holds, e, q]
theorem z_ne (x : Int32) : ifCond.holds .ne x = decide (¬ x.toInt = 0) := by
  have e : x.toInt = 0 ↔ x = 0 := by rw [← Int32.toInt_zero, Int32.toInt_inj]
  by_cases q : x = 0 <;> simp [ifCond.holds, e, q]
theorem oInt {a : Nat} (ha : a < 2147483648) : (Int32.ofNat a).toInt = (a : Int) := Int32.toInt_ofNat_small (by omega)
theorem oAdd (a b : Nat) : Int32.ofNat a + Int32.ofNat b = Int32.ofNat (a + b) := (Int32.ofNat_add a b).symm
theorem oMul (a b : Nat) : Int32.ofNat a * Int32.ofNat b = Int32.ofNat (a * b) := (Int32.ofNat_mul a b).symm
theorem oSub {a b : Nat} (h : b ≤ a) : Int32.ofNat a - Int32.ofNat b = Int32.ofNat (a - b) := by
  obtain ⟨c, rfl⟩ := Nat.exists_eq_add_of_le h
  rw [Nat.add_sub_cancel_left, Int32.ofNat_add, Int32.add_comm, Int32.add_sub_cancel]
theorem oInc (a : Nat) : Int32.ofNat a + Int32.ofInt 1 = Int32.ofNat (a + 1) := (Int32.ofNat_add a 1).symm
theorem oInj {a b : Nat} (ha : a < 2147483648) (hb : b < 2147483648) : Int32.ofNat a = Int32.ofNat b ↔ a = b := by
  rw [← Int32.toInt_inj, oInt ha, oInt hb]; omega
theorem oDiv {a b : Nat} (ha : a < 2147483648) (hb : b < 2147483648) : Int32.ofNat a / Int32.ofNat b = Int32.ofNat (a / b) := by
  rw [← Int32.toInt_inj, Int32.toInt_div_of_ne_left _ _ (by rw [ne_eq, ← Int32.toInt_inj, oInt ha]; show ¬ (a : Int) = -2147483648; omega), oInt ha, oInt hb, oInt (Nat.lt_of_le_of_lt (Nat.div_le_self a b) ha)]
  exact (Int.ofNat_tdiv a b).symm
theorem oMod {a b : Nat} (ha : a < 2147483648) (hb : b < 2147483648) : Int32.ofNat a - Int32.ofNat a / Int32.ofNat b * Int32.ofNat b = Int32.ofNat (a % b) := by
  rw [oDiv ha hb, oMul, oSub (Nat.div_mul_le_self a b)]
  congr 1
  have := Nat.mod_add_div a b
  rw [Nat.mul_comm] at this
  omega
theorem n_lt {a b : Nat} (ha : a < 2147483648) (hb : b < 2147483648) : if_icmp.holds .lt (Int32.ofNat a) (Int32.ofNat b) = decide (a < b) := by rw [hk_lt (oInt ha) (oInt hb)]; simp
theorem n_ge {a b : Nat} (ha : a < 2147483648) (hb : b < 2147483648) : if_icmp.holds .ge (Int32.ofNat a) (Int32.ofNat b) = decide (b ≤ a) := by rw [hk_ge (oInt ha) (oInt hb)]; simp
theorem n_gt {a b : Nat} (ha : a < 2147483648) (hb : b < 2147483648) : if_icmp.holds .gt (Int32.ofNat a) (Int32.ofNat b) = decide (b < a) := by rw [hk_gt (oInt ha) (oInt hb)]; simp
theorem n_le {a b : Nat} (ha : a < 2147483648) (hb : b < 2147483648) : if_icmp.holds .le (Int32.ofNat a) (Int32.ofNat b) = decide (a ≤ b) := by rw [hk_le (oInt ha) (oInt hb)]; simp
theorem n_eq {a b : Nat} (ha : a < 2147483648) (hb : b < 2147483648) : if_icmp.holds .eq (Int32.ofNat a) (Int32.ofNat b) = decide (a = b) := by rw [hk_eq (oInt ha) (oInt hb)]; congr 1; apply propext; omega
theorem n_ne {a b : Nat} (ha : a < 2147483648) (hb : b < 2147483648) : if_icmp.holds .ne (Int32.ofNat a) (Int32.ofNat b) = decide (¬ a = b) := by rw [hk_ne (oInt ha) (oInt hb)]; congr 1; apply propext; omega
theorem nz_eq {a : Nat} (ha : a < 2147483648) : ifCond.holds .eq (Int32.ofNat a) = decide (a = 0) := by rw [z_eq, oInt ha]; congr 1; apply propext; omega
theorem nz_ne {a : Nat} (ha : a < 2147483648) : ifCond.holds .ne (Int32.ofNat a) = decide (¬ a = 0) := by rw [z_ne, oInt ha]; congr 1; apply propext; omega
theorem nz_lt {a : Nat} (ha : a < 2147483648) : ifCond.holds .lt (Int32.ofNat a) = decide False := by rw [z_lt, oInt ha]; congr 1; apply propext; simp
theorem nz_ge {a : Nat} (ha : a < 2147483648) : ifCond.holds .ge (Int32.ofNat a) = decide True := by rw [z_ge, oInt ha]; congr 1; apply propext; simp
theorem nz_gt {a : Nat} (ha : a < 2147483648) : ifCond.holds .gt (Int32.ofNat a) = decide (0 < a) := by rw [z_gt, oInt ha]; congr 1; apply propext; omega
theorem nz_le {a : Nat} (ha : a < 2147483648) : ifCond.holds .le (Int32.ofNat a) = decide (a = 0) := by rw [z_le, oInt ha]; congr 1; apply propext; omega
end Jvm.Own
namespace Jvm.Pilot.@@N@@
open Jvm Jvm.ClassFile Sem Op Lib Jvm.Free Jvm.Stand Jvm.LawKit Jvm.RoadKit Bundle Jvm.Own Jvm.Pilot.@@N@@.Jvm.D
theorem own_byte (x : Int32) : nar .byte (x.toInt8.toInt32) = x.toInt8.toInt32 := by
  show (x.toInt8.toInt32).toInt8.toInt32 = _
  rw [Int8.toInt8_toInt32]
theorem own_mod (x m : Int32) (k : Nat) (hm : m.toInt = (k : Int)) (hk : 0 < k) (hk2 : k < 2147483648) : ∃ o, o < k ∧ (x &&& Int32.ofNat 2147483647) - (x &&& Int32.ofNat 2147483647) / m * m = Int32.ofNat o := by
  have e1 : (x &&& Int32.ofNat 2147483647).toInt = x.toInt % 2 ^ 31 := Jvm.Kit.i32_mask x _ (k := 31) (by decide) (by decide)
  have e2 := Jvm.LawKit.rem_toInt (x &&& Int32.ofNat 2147483647) m
  rw [e1, hm, Int.tmod_eq_emod_of_nonneg (by omega)] at e2
  have h1 : 0 ≤ x.toInt % 2 ^ 31 % (k : Int) := Int.emod_nonneg _ (by omega)
  have h2 : x.toInt % 2 ^ 31 % (k : Int) < k := Int.emod_lt_of_pos _ (by omega)
  refine ⟨(x.toInt % 2 ^ 31 % (k : Int)).toNat, by omega, ?_⟩
  rw [← Int32.toInt_inj, e2, oInt (by omega)]
  omega
theorem own_b255 : ∀ a < 256, (Int32.ofNat a).toInt8.toInt32 &&& Int32.ofNat 255 = Int32.ofNat a := by decide +kernel
theorem d1_0 : decode prog_36_method_2_code 0 = .ok (.iload_n 0, 1) := by decide +kernel
theorem d1_1 : decode prog_36_method_2_code 1 = .ok (.sipush 188, 3) := by decide +kernel
theorem d1_4 : decode prog_36_method_2_code 4 = .ok (.idiv, 1) := by decide +kernel
theorem d1_5 : decode prog_36_method_2_code 5 = .ok (.istore_n 1, 1) := by decide +kernel
theorem d1_6 : decode prog_36_method_2_code 6 = .ok (.iload_n 0, 1) := by decide +kernel
theorem d1_7 : decode prog_36_method_2_code 7 = .ok (.sipush 188, 3) := by decide +kernel
theorem d1_10 : decode prog_36_method_2_code 10 = .ok (.irem, 1) := by decide +kernel
theorem d1_11 : decode prog_36_method_2_code 11 = .ok (.istore_n 2, 1) := by decide +kernel
theorem d1_12 : decode prog_36_method_2_code 12 = .ok (.iconst 2, 1) := by decide +kernel
theorem d1_13 : decode prog_36_method_2_code 13 = .ok (.newarray .byte, 2) := by decide +kernel
theorem d1_15 : decode prog_36_method_2_code 15 = .ok (.dup, 1) := by decide +kernel
theorem d1_16 : decode prog_36_method_2_code 16 = .ok (.iconst 0, 1) := by decide +kernel
theorem d1_17 : decode prog_36_method_2_code 17 = .ok (.iload_n 1, 1) := by decide +kernel
theorem d1_18 : decode prog_36_method_2_code 18 = .ok (.iload_n 1, 1) := by decide +kernel
theorem d1_19 : decode prog_36_method_2_code 19 = .ok (.bipush 31, 2) := by decide +kernel
theorem d1_21 : decode prog_36_method_2_code 21 = .ok (.if_icmp .ge 9, 3) := by decide +kernel
theorem d1_24 : decode prog_36_method_2_code 24 = .ok (.sipush 129, 3) := by decide +kernel
theorem d1_27 : decode prog_36_method_2_code 27 = .ok (.goto 6, 3) := by decide +kernel
theorem d1_30 : decode prog_36_method_2_code 30 = .ok (.sipush 193, 3) := by decide +kernel
theorem d1_33 : decode prog_36_method_2_code 33 = .ok (.iadd, 1) := by decide +kernel
theorem d1_34 : decode prog_36_method_2_code 34 = .ok (.i2b, 1) := by decide +kernel
theorem d1_35 : decode prog_36_method_2_code 35 = .ok (.bastore, 1) := by decide +kernel
theorem d1_36 : decode prog_36_method_2_code 36 = .ok (.dup, 1) := by decide +kernel
theorem d1_37 : decode prog_36_method_2_code 37 = .ok (.iconst 1, 1) := by decide +kernel
theorem d1_38 : decode prog_36_method_2_code 38 = .ok (.iload_n 2, 1) := by decide +kernel
theorem d1_39 : decode prog_36_method_2_code 39 = .ok (.iload_n 2, 1) := by decide +kernel
theorem d1_40 : decode prog_36_method_2_code 40 = .ok (.bipush 63, 2) := by decide +kernel
theorem d1_42 : decode prog_36_method_2_code 42 = .ok (.if_icmp .ge 8, 3) := by decide +kernel
theorem d1_45 : decode prog_36_method_2_code 45 = .ok (.bipush 64, 2) := by decide +kernel
theorem d1_47 : decode prog_36_method_2_code 47 = .ok (.goto 5, 3) := by decide +kernel
theorem d1_50 : decode prog_36_method_2_code 50 = .ok (.bipush 65, 2) := by decide +kernel
theorem d1_52 : decode prog_36_method_2_code 52 = .ok (.iadd, 1) := by decide +kernel
theorem d1_53 : decode prog_36_method_2_code 53 = .ok (.i2b, 1) := by decide +kernel
theorem d1_54 : decode prog_36_method_2_code 54 = .ok (.bastore, 1) := by decide +kernel
theorem d1_55 : decode prog_36_method_2_code 55 = .ok (.areturn, 1) := by decide +kernel
theorem pn_1 : plainName "com/example/percenter/percenter/Jis" = true := by first | (simp [plainName, overriddenIn]; done) | decide +kernel
theorem ef_1 (m : MethodId) (p0 : Int32) : entryFrame m #[(.int p0)] 3 = mkF m 0 #[.val (.int p0), .unset, .unset] [] := by first | (simp [entryFrame, mkF, argsToLocals, Value.category, maxLocals]; done) | rfl
set_option maxRecDepth 65536 in
set_option maxHeartbeats 40000000 in
theorem rm1 (l : Launch) (Z : State) (a0 : Array Value) (hw : ∀ d ∈ tables_1, d.before a0 Z = true) (ws : List Jvm.Cond) (q : Nat) (h : Heap) (n0 : Nat) (Z0 : n0 ≤ h.size) (hq : q < 11280) :
    Con Z l n0 ⟨"com/example/percenter/percenter/Jis", "shiftJisBytes", "(I)[B"⟩ prog_36_method_2_code 3 (some (.array .byte)) ws { frames := 0, cells := 1, slots := 2, locals := 0 } #[.int (Int32.ofNat q)] h (fun v h' => ∃ (b : Addr) (f : Nat → Int32) (x y : Nat), v = some (.ref b) ∧ Ary Z h' b .byte 2 f ∧ f 0 = (Int32.ofNat x).toInt8.toInt32 ∧ f 1 = (Int32.ofNat y).toInt8.toInt32 ∧ ((q / 188 < 31 ∧ x = q / 188 + 129) ∨ (31 ≤ q / 188 ∧ x = q / 188 + 193)) ∧ ((q % 188 < 63 ∧ y = q % 188 + 64) ∨ (63 ≤ q % 188 ∧ y = q % 188 + 65))) := by
  refine con_of ws (plainFor_of_name pn_1) hw (fun m => ef_1 m (Int32.ofNat q)) (fun m G K hret => ?_)
  refine K.iloadN d1_0 rfl ?_
  refine K.sipush (v := (Int32.ofNat 188)) d1_1 rfl ?_
  refine K.idiv (z := (Int32.ofNat (q / 188))) d1_4 (by decide) (oDiv (by omega) (by omega)) ?_
  refine K.istoreN (L' := #[.val (.int (Int32.ofNat q)), .val (.int (Int32.ofNat (q / 188))), .unset]) d1_5 rfl ?_
  refine K.iloadN d1_6 rfl ?_
  refine K.sipush (v := (Int32.ofNat 188)) d1_7 rfl ?_
  refine K.irem (z := (Int32.ofNat (q % 188))) d1_10 (by decide) (oMod (by omega) (by omega)) ?_
  refine K.istoreN (L' := #[.val (.int (Int32.ofNat q)), .val (.int (Int32.ofNat (q / 188))), .val (.int (Int32.ofNat (q % 188)))]) d1_11 rfl ?_
  refine K.iconst (v := (Int32.ofNat 2)) d1_12 rfl ?_
  refine K.newarr (n := 2) (cap := 2) (List.mem_of_getElem? (i := 5) rfl) rfl d1_13 (by omega) (by decide) (by decide) (by decide) (fun h1 E1 A_b1 => ?_)
  obtain ⟨b1, hb1⟩ : ∃ b, b = h.size := ⟨_, rfl⟩
  rw [← hb1] at A_b1 ⊢
  have g_b1 : n0 ≤ b1 := by rw [hb1]; exact Z0
  refine K.dup d1_15 rfl ?_
  refine K.iconst (v := (Int32.ofNat 0)) d1_16 rfl ?_
  refine K.iloadN d1_17 rfl ?_
  refine K.iloadN d1_18 rfl ?_
  refine K.bipush (v := (Int32.ofNat 31)) d1_19 rfl ?_
  refine K.icmp _ (pc' := 30) d1_21 (n_ge (by omega) (by omega)) (by decide) (by decide) (fun c21 => ?_) (fun c21 => ?_)
  · -- c21 taken -> 30
    refine K.sipush (v := (Int32.ofNat 193)) d1_30 rfl ?_
    refine K.iadd (z := (Int32.ofNat ((q / 188) + 193))) d1_33 (oAdd _ _) ?_
    refine K.i2b (z := ((Int32.ofNat ((q / 188) + 193)).toInt8.toInt32)) d1_34 rfl ?_
    refine K.bast (i := 0) (y := ((Int32.ofNat ((q / 188) + 193)).toInt8.toInt32)) A_b1 g_b1 d1_35 (by omega) (own_byte _) (fun h2 W2 A_b1 => ?_)
    refine K.dup d1_36 rfl ?_
    refine K.iconst (v := (Int32.ofNat 1)) d1_37 rfl ?_
    refine K.iloadN d1_38 rfl ?_
    refine K.iloadN d1_39 rfl ?_
    refine K.bipush (v := (Int32.ofNat 63)) d1_40 rfl ?_
    refine K.icmp _ (pc' := 50) d1_42 (n_ge (by omega) (by omega)) (by decide) (by decide) (fun c42 => ?_) (fun c42 => ?_)
    · -- c42 taken -> 50
      refine K.bipush (v := (Int32.ofNat 65)) d1_50 rfl ?_
      refine K.iadd (z := (Int32.ofNat ((q % 188) + 65))) d1_52 (oAdd _ _) ?_
      refine K.i2b (z := ((Int32.ofNat ((q % 188) + 65)).toInt8.toInt32)) d1_53 rfl ?_
      refine K.bast (i := 1) (y := ((Int32.ofNat ((q % 188) + 65)).toInt8.toInt32)) A_b1 g_b1 d1_54 (by omega) (own_byte _) (fun h3 W3 A_b1 => ?_)
      exact hret _ _ _ _ _ (Ret.a rfl d1_55) (by decide) (by decide) ⟨b1, _, q / 188 + 193, q % 188 + 65, rfl, A_b1, rfl, rfl, by omega, by omega⟩
    · -- c42 not -> 45
      refine K.bipush (v := (Int32.ofNat 64)) d1_45 rfl ?_
      refine K.goto (pc' := 52) d1_47 (by decide) (by decide) ?_
      refine K.iadd (z := (Int32.ofNat ((q % 188) + 64))) d1_52 (oAdd _ _) ?_
      refine K.i2b (z := ((Int32.ofNat ((q % 188) + 64)).toInt8.toInt32)) d1_53 rfl ?_
      refine K.bast (i := 1) (y := ((Int32.ofNat ((q % 188) + 64)).toInt8.toInt32)) A_b1 g_b1 d1_54 (by omega) (own_byte _) (fun h4 W4 A_b1 => ?_)
      exact hret _ _ _ _ _ (Ret.a rfl d1_55) (by decide) (by decide) ⟨b1, _, q / 188 + 193, q % 188 + 64, rfl, A_b1, rfl, rfl, by omega, by omega⟩
  · -- c21 not -> 24
    refine K.sipush (v := (Int32.ofNat 129)) d1_24 rfl ?_
    refine K.goto (pc' := 33) d1_27 (by decide) (by decide) ?_
    refine K.iadd (z := (Int32.ofNat ((q / 188) + 129))) d1_33 (oAdd _ _) ?_
    refine K.i2b (z := ((Int32.ofNat ((q / 188) + 129)).toInt8.toInt32)) d1_34 rfl ?_
    refine K.bast (i := 0) (y := ((Int32.ofNat ((q / 188) + 129)).toInt8.toInt32)) A_b1 g_b1 d1_35 (by omega) (own_byte _) (fun h5 W5 A_b1 => ?_)
    refine K.dup d1_36 rfl ?_
    refine K.iconst (v := (Int32.ofNat 1)) d1_37 rfl ?_
    refine K.iloadN d1_38 rfl ?_
    refine K.iloadN d1_39 rfl ?_
    refine K.bipush (v := (Int32.ofNat 63)) d1_40 rfl ?_
    refine K.icmp _ (pc' := 50) d1_42 (n_ge (by omega) (by omega)) (by decide) (by decide) (fun c42 => ?_) (fun c42 => ?_)
    · -- c42 taken -> 50
      refine K.bipush (v := (Int32.ofNat 65)) d1_50 rfl ?_
      refine K.iadd (z := (Int32.ofNat ((q % 188) + 65))) d1_52 (oAdd _ _) ?_
      refine K.i2b (z := ((Int32.ofNat ((q % 188) + 65)).toInt8.toInt32)) d1_53 rfl ?_
      refine K.bast (i := 1) (y := ((Int32.ofNat ((q % 188) + 65)).toInt8.toInt32)) A_b1 g_b1 d1_54 (by omega) (own_byte _) (fun h6 W6 A_b1 => ?_)
      exact hret _ _ _ _ _ (Ret.a rfl d1_55) (by decide) (by decide) ⟨b1, _, q / 188 + 129, q % 188 + 65, rfl, A_b1, rfl, rfl, by omega, by omega⟩
    · -- c42 not -> 45
      refine K.bipush (v := (Int32.ofNat 64)) d1_45 rfl ?_
      refine K.goto (pc' := 52) d1_47 (by decide) (by decide) ?_
      refine K.iadd (z := (Int32.ofNat ((q % 188) + 64))) d1_52 (oAdd _ _) ?_
      refine K.i2b (z := ((Int32.ofNat ((q % 188) + 64)).toInt8.toInt32)) d1_53 rfl ?_
      refine K.bast (i := 1) (y := ((Int32.ofNat ((q % 188) + 64)).toInt8.toInt32)) A_b1 g_b1 d1_54 (by omega) (own_byte _) (fun h7 W7 A_b1 => ?_)
      exact hret _ _ _ _ _ (Ret.a rfl d1_55) (by decide) (by decide) ⟨b1, _, q / 188 + 129, q % 188 + 64, rfl, A_b1, rfl, rfl, by omega, by omega⟩
theorem pn_0 : plainName "com/example/percenter/percenter/JisShiftJisBytesPinLaw" = true := by first | (simp [plainName, overriddenIn]; done) | decide +kernel
theorem ef_0 (m : MethodId) (p0 : Int32) : entryFrame m #[(.int p0)] maxLocals = mkF m 0 #[.val (.int p0), .unset, .unset, .unset, .unset, .unset, .unset, .unset, .unset, .unset] [] := by first | (simp [entryFrame, mkF, argsToLocals, Value.category, maxLocals]; done) | rfl
set_option maxRecDepth 65536 in
set_option maxHeartbeats 40000000 in
theorem rm0 (l : Launch) (Z : State) (a0 : Array Value) (hw : ∀ d ∈ tables_1, d.before a0 Z = true) (ws : List Jvm.Cond) (p0 : Int32) (h : Heap) (n0 : Nat) (Z0 : n0 ≤ h.size) :
    Con Z l n0 x code maxLocals ret ws room_1 #[.int p0] h (fun v _ => v = some (.int 1)) := by
  refine con_of ws (plainFor_of_name pn_0) hw (fun m => ef_0 m p0) (fun m G K hret => ?_)
  obtain ⟨q, hq1, hq⟩ := own_mod p0 (Int32.ofNat 11280) 11280 rfl (by decide) (by decide)
  refine K.iloadN at_0 rfl ?_
  refine K.ldc (v := (Int32.ofNat 2147483647)) at_1 (List.mem_of_getElem? (i := 0) rfl) ?_
  refine K.iand (z := (p0 &&& (Int32.ofNat 2147483647))) at_3 rfl ?_
  refine K.sipush (v := (Int32.ofNat 11280)) at_4 rfl ?_
  refine K.irem (z := (Int32.ofNat q)) at_7 (by decide) hq ?_
  refine K.istoreN (L' := #[.val (.int p0), .val (.int (Int32.ofNat q)), .unset, .unset, .unset, .unset, .unset, .unset, .unset, .unset]) at_8 rfl ?_
  refine K.iloadN at_9 rfl ?_
  refine K.callS (ps := [.int]) (rr := some (.array .byte)) (W := 0) [(.int (Int32.ofNat q))] [] (List.mem_of_getElem? (i := 1) rfl) (List.mem_of_getElem? (i := 2) rfl) (List.mem_of_getElem? (i := 3) rfl) (List.mem_of_getElem? (i := 4) rfl) (by decide) (rm1 l Z a0 hw [] q _ n0 Z0 (by omega)) (by decide) (by decide) (by decide +kernel) rfl rfl (by decide) rfl at_10 (by decide) (by decide) (fun v1 h1 Q1 => ?_)
  obtain ⟨b, f_b, x, y, rfl, A_b, hf0, hf1, hx, hy⟩ := Q1
  show G _ _ _ (mkF m 13 #[.val (.int p0), .val (.int (Int32.ofNat q)), .unset, .unset, .unset, .unset, .unset, .unset, .unset, .unset] [(.ref b)])
  refine K.astoreN (L' := #[.val (.int p0), .val (.int (Int32.ofNat q)), .val (.ref b), .unset, .unset, .unset, .unset, .unset, .unset, .unset]) at_13 rfl rfl ?_
  refine K.aloadN at_14 rfl rfl ?_
  refine K.ifnullNo at_15 ?_
  refine K.aloadN at_18 rfl rfl ?_
  refine K.alen A_b at_19 ?_
  refine K.iconst (v := (Int32.ofNat 2)) at_20 rfl ?_
  refine K.icmp _ (pc' := 26) at_21 (n_eq (by omega) (by omega)) (by decide) (by decide) (fun c21 => ?_) (fun c21 => ?_)
  · -- c21 taken -> 26
    have bx : x < 256 := by omega
    have by' : y < 256 := by omega
    have hx0 : f_b 0 &&& Int32.ofNat 255 = Int32.ofNat x := by rw [hf0]; exact own_b255 x bx
    have hy0 : f_b 1 &&& Int32.ofNat 255 = Int32.ofNat y := by rw [hf1]; exact own_b255 y by'
    have t4 : ∀ lo to : Nat, ((x < 160 ∧ lo = 129) ∨ (160 ≤ x ∧ lo = 193)) → ((y < 127 ∧ to = 64) ∨ (127 ≤ y ∧ to = 65)) → G h1 (0 + 1) (0 + 2) (mkF m 149 #[.val (.int p0), .val (.int (Int32.ofNat q)), .val (.ref b), .val (.int (Int32.ofNat x)), .val (.int (Int32.ofNat y)), .val (.int (Int32.ofNat 1)), .val (.int (Int32.ofNat 1)), .val (.int (Int32.ofNat lo)), .val (.int (Int32.ofNat to)), .unset] []) := by
      intro lo to hlo hto
      refine K.iloadN at_149 rfl ?_
      refine K.iload at_150 rfl ?_
      refine K.isub (z := (Int32.ofNat (x - lo))) at_152 (oSub (by omega)) ?_
      refine K.sipush (v := (Int32.ofNat 188)) at_153 rfl ?_
      refine K.imul (z := (Int32.ofNat ((x - lo) * 188))) at_156 (oMul _ _) ?_
      refine K.iload at_157 rfl ?_
      refine K.iadd (z := (Int32.ofNat (((x - lo) * 188) + y))) at_159 (oAdd _ _) ?_
      refine K.iload at_160 rfl ?_
      refine K.isub (z := (Int32.ofNat ((((x - lo) * 188) + y) - to))) at_162 (oSub (by omega)) ?_
      refine K.istore (L' := #[.val (.int p0), .val (.int (Int32.ofNat q)), .val (.ref b), .val (.int (Int32.ofNat x)), .val (.int (Int32.ofNat y)), .val (.int (Int32.ofNat 1)), .val (.int (Int32.ofNat 1)), .val (.int (Int32.ofNat lo)), .val (.int (Int32.ofNat to)), .val (.int (Int32.ofNat ((((x - lo) * 188) + y) - to)))]) at_163 rfl ?_
      refine K.iload at_165 rfl ?_
      refine K.ifc _ (pc' := 185) at_167 (nz_eq (by omega)) (by decide) (by decide) (fun c167 => ?_) (fun c167 => ?_)
      · -- c167 taken -> 185
        refine K.iconst (v := (Int32.ofNat 0)) at_185 rfl ?_
        exact hret _ _ _ _ _ (Ret.z at_186 (by decide)) (by decide) (by decide) (by first | rfl | (exfalso; omega))
      · -- c167 not -> 170
        refine K.iload at_170 rfl ?_
        refine K.ifc _ (pc' := 185) at_172 (nz_eq (by omega)) (by decide) (by decide) (fun c172 => ?_) (fun c172 => ?_)
        · -- c172 taken -> 185
          refine K.iconst (v := (Int32.ofNat 0)) at_185 rfl ?_
          exact hret _ _ _ _ _ (Ret.z at_186 (by decide)) (by decide) (by decide) (by first | rfl | (exfalso; omega))
        · -- c172 not -> 175
          refine K.iload at_175 rfl ?_
          refine K.iloadN at_177 rfl ?_
          refine K.icmp _ (pc' := 185) at_178 (n_ne (by omega) (by omega)) (by decide) (by decide) (fun c178 => ?_) (fun c178 => ?_)
          · -- c178 taken -> 185
            refine K.iconst (v := (Int32.ofNat 0)) at_185 rfl ?_
            exact hret _ _ _ _ _ (Ret.z at_186 (by decide)) (by decide) (by decide) (by first | rfl | (exfalso; omega))
          · -- c178 not -> 181
            refine K.iconst (v := (Int32.ofNat 1)) at_181 rfl ?_
            refine K.goto (pc' := 186) at_182 (by decide) (by decide) ?_
            exact hret _ _ _ _ _ (Ret.z at_186 (by decide)) (by decide) (by decide) (by first | rfl | (exfalso; omega))
    have t3 : ∀ lo : Nat, ((x < 160 ∧ lo = 129) ∨ (160 ≤ x ∧ lo = 193)) → G h1 (0 + 1) (0 + 2) (mkF m 133 #[.val (.int p0), .val (.int (Int32.ofNat q)), .val (.ref b), .val (.int (Int32.ofNat x)), .val (.int (Int32.ofNat y)), .val (.int (Int32.ofNat 1)), .val (.int (Int32.ofNat 1)), .val (.int (Int32.ofNat lo)), .unset, .unset] []) := by
      intro lo hlo
      refine K.iload at_133 rfl ?_
      refine K.bipush (v := (Int32.ofNat 127)) at_135 rfl ?_
      refine K.icmp _ (pc' := 145) at_137 (n_ge (by omega) (by omega)) (by decide) (by decide) (fun c137 => ?_) (fun c137 => ?_)
      · -- c137 taken -> 145
        refine K.bipush (v := (Int32.ofNat 65)) at_145 rfl ?_
        refine K.istore (L' := #[.val (.int p0), .val (.int (Int32.ofNat q)), .val (.ref b), .val (.int (Int32.ofNat x)), .val (.int (Int32.ofNat y)), .val (.int (Int32.ofNat 1)), .val (.int (Int32.ofNat 1)), .val (.int (Int32.ofNat lo)), .val (.int (Int32.ofNat 65)), .unset]) at_147 rfl ?_
        -- STOP at 149: locals #[.val (.int p0), .val (.int (Int32.ofNat q)), .val (.ref b), .val (.int (Int32.ofNat x)), .val (.int (Int32.ofNat y)), .val (.int (Int32.ofNat 1)), .val (.int (Int32.ofNat 1)), .val (.int (Int32.ofNat lo)), .val (.int (Int32.ofNat 65)), .unset] stack []
        exact t4 _ _ hlo (by omega)
      · -- c137 not -> 140
        refine K.bipush (v := (Int32.ofNat 64)) at_140 rfl ?_
        refine K.goto (pc' := 147) at_142 (by decide) (by decide) ?_
        refine K.istore (L' := #[.val (.int p0), .val (.int (Int32.ofNat q)), .val (.ref b), .val (.int (Int32.ofNat x)), .val (.int (Int32.ofNat y)), .val (.int (Int32.ofNat 1)), .val (.int (Int32.ofNat 1)), .val (.int (Int32.ofNat lo)), .val (.int (Int32.ofNat 64)), .unset]) at_147 rfl ?_
        -- STOP at 149: locals #[.val (.int p0), .val (.int (Int32.ofNat q)), .val (.ref b), .val (.int (Int32.ofNat x)), .val (.int (Int32.ofNat y)), .val (.int (Int32.ofNat 1)), .val (.int (Int32.ofNat 1)), .val (.int (Int32.ofNat lo)), .val (.int (Int32.ofNat 64)), .unset] stack []
        exact t4 _ _ hlo (by omega)
    have t2 : G h1 (0 + 1) (0 + 2) (mkF m 115 #[.val (.int p0), .val (.int (Int32.ofNat q)), .val (.ref b), .val (.int (Int32.ofNat x)), .val (.int (Int32.ofNat y)), .val (.int (Int32.ofNat 1)), .val (.int (Int32.ofNat 1)), .unset, .unset, .unset] []) := by
      refine K.iloadN at_115 rfl ?_
      refine K.sipush (v := (Int32.ofNat 160)) at_116 rfl ?_
      refine K.icmp _ (pc' := 128) at_119 (n_ge (by omega) (by omega)) (by decide) (by decide) (fun c119 => ?_) (fun c119 => ?_)
      · -- c119 taken -> 128
        refine K.sipush (v := (Int32.ofNat 193)) at_128 rfl ?_
        refine K.istore (L' := #[.val (.int p0), .val (.int (Int32.ofNat q)), .val (.ref b), .val (.int (Int32.ofNat x)), .val (.int (Int32.ofNat y)), .val (.int (Int32.ofNat 1)), .val (.int (Int32.ofNat 1)), .val (.int (Int32.ofNat 193)), .unset, .unset]) at_131 rfl ?_
        -- STOP at 133: locals #[.val (.int p0), .val (.int (Int32.ofNat q)), .val (.ref b), .val (.int (Int32.ofNat x)), .val (.int (Int32.ofNat y)), .val (.int (Int32.ofNat 1)), .val (.int (Int32.ofNat 1)), .val (.int (Int32.ofNat 193)), .unset, .unset] stack []
        exact t3 _ (by omega)
      · -- c119 not -> 122
        refine K.sipush (v := (Int32.ofNat 129)) at_122 rfl ?_
        refine K.goto (pc' := 131) at_125 (by decide) (by decide) ?_
        refine K.istore (L' := #[.val (.int p0), .val (.int (Int32.ofNat q)), .val (.ref b), .val (.int (Int32.ofNat x)), .val (.int (Int32.ofNat y)), .val (.int (Int32.ofNat 1)), .val (.int (Int32.ofNat 1)), .val (.int (Int32.ofNat 129)), .unset, .unset]) at_131 rfl ?_
        -- STOP at 133: locals #[.val (.int p0), .val (.int (Int32.ofNat q)), .val (.ref b), .val (.int (Int32.ofNat x)), .val (.int (Int32.ofNat y)), .val (.int (Int32.ofNat 1)), .val (.int (Int32.ofNat 1)), .val (.int (Int32.ofNat 129)), .unset, .unset] stack []
        exact t3 _ (by omega)
    have t1 : G h1 (0 + 1) (0 + 2) (mkF m 78 #[.val (.int p0), .val (.int (Int32.ofNat q)), .val (.ref b), .val (.int (Int32.ofNat x)), .val (.int (Int32.ofNat y)), .val (.int (Int32.ofNat 1)), .unset, .unset, .unset, .unset] []) := by
      refine K.iload at_78 rfl ?_
      refine K.bipush (v := (Int32.ofNat 64)) at_80 rfl ?_
      refine K.icmp _ (pc' := 92) at_82 (n_lt (by omega) (by omega)) (by decide) (by decide) (fun c82 => ?_) (fun c82 => ?_)
      · -- c82 taken -> 92
        refine K.iload at_92 rfl ?_
        refine K.sipush (v := (Int32.ofNat 128)) at_94 rfl ?_
        refine K.icmp _ (pc' := 112) at_97 (n_lt (by omega) (by omega)) (by decide) (by decide) (fun c97 => ?_) (fun c97 => ?_)
        · -- c97 taken -> 112
          refine K.iconst (v := (Int32.ofNat 0)) at_112 rfl ?_
          refine K.istore (L' := #[.val (.int p0), .val (.int (Int32.ofNat q)), .val (.ref b), .val (.int (Int32.ofNat x)), .val (.int (Int32.ofNat y)), .val (.int (Int32.ofNat 1)), .val (.int (Int32.ofNat 0)), .unset, .unset, .unset]) at_113 rfl ?_
          -- STOP at 115: locals #[.val (.int p0), .val (.int (Int32.ofNat q)), .val (.ref b), .val (.int (Int32.ofNat x)), .val (.int (Int32.ofNat y)), .val (.int (Int32.ofNat 1)), .val (.int (Int32.ofNat 0)), .unset, .unset, .unset] stack []
          first | exact t2 | (exfalso; omega)
        · -- c97 not -> 100
          refine K.iload at_100 rfl ?_
          refine K.sipush (v := (Int32.ofNat 252)) at_102 rfl ?_
          refine K.icmp _ (pc' := 112) at_105 (n_gt (by omega) (by omega)) (by decide) (by decide) (fun c105 => ?_) (fun c105 => ?_)
          · -- c105 taken -> 112
            refine K.iconst (v := (Int32.ofNat 0)) at_112 rfl ?_
            refine K.istore (L' := #[.val (.int p0), .val (.int (Int32.ofNat q)), .val (.ref b), .val (.int (Int32.ofNat x)), .val (.int (Int32.ofNat y)), .val (.int (Int32.ofNat 1)), .val (.int (Int32.ofNat 0)), .unset, .unset, .unset]) at_113 rfl ?_
            -- STOP at 115: locals #[.val (.int p0), .val (.int (Int32.ofNat q)), .val (.ref b), .val (.int (Int32.ofNat x)), .val (.int (Int32.ofNat y)), .val (.int (Int32.ofNat 1)), .val (.int (Int32.ofNat 0)), .unset, .unset, .unset] stack []
            first | exact t2 | (exfalso; omega)
          · -- c105 not -> 108
            refine K.iconst (v := (Int32.ofNat 1)) at_108 rfl ?_
            refine K.goto (pc' := 113) at_109 (by decide) (by decide) ?_
            refine K.istore (L' := #[.val (.int p0), .val (.int (Int32.ofNat q)), .val (.ref b), .val (.int (Int32.ofNat x)), .val (.int (Int32.ofNat y)), .val (.int (Int32.ofNat 1)), .val (.int (Int32.ofNat 1)), .unset, .unset, .unset]) at_113 rfl ?_
            -- STOP at 115: locals #[.val (.int p0), .val (.int (Int32.ofNat q)), .val (.ref b), .val (.int (Int32.ofNat x)), .val (.int (Int32.ofNat y)), .val (.int (Int32.ofNat 1)), .val (.int (Int32.ofNat 1)), .unset, .unset, .unset] stack []
            first | exact t2 | (exfalso; omega)
      · -- c82 not -> 85
        refine K.iload at_85 rfl ?_
        refine K.bipush (v := (Int32.ofNat 126)) at_87 rfl ?_
        refine K.icmp _ (pc' := 108) at_89 (n_le (by omega) (by omega)) (by decide) (by decide) (fun c89 => ?_) (fun c89 => ?_)
        · -- c89 taken -> 108
          refine K.iconst (v := (Int32.ofNat 1)) at_108 rfl ?_
          refine K.goto (pc' := 113) at_109 (by decide) (by decide) ?_
          refine K.istore (L' := #[.val (.int p0), .val (.int (Int32.ofNat q)), .val (.ref b), .val (.int (Int32.ofNat x)), .val (.int (Int32.ofNat y)), .val (.int (Int32.ofNat 1)), .val (.int (Int32.ofNat 1)), .unset, .unset, .unset]) at_113 rfl ?_
          -- STOP at 115: locals #[.val (.int p0), .val (.int (Int32.ofNat q)), .val (.ref b), .val (.int (Int32.ofNat x)), .val (.int (Int32.ofNat y)), .val (.int (Int32.ofNat 1)), .val (.int (Int32.ofNat 1)), .unset, .unset, .unset] stack []
          first | exact t2 | (exfalso; omega)
        · -- c89 not -> 92
          refine K.iload at_92 rfl ?_
          refine K.sipush (v := (Int32.ofNat 128)) at_94 rfl ?_
          refine K.icmp _ (pc' := 112) at_97 (n_lt (by omega) (by omega)) (by decide) (by decide) (fun c97 => ?_) (fun c97 => ?_)
          · -- c97 taken -> 112
            refine K.iconst (v := (Int32.ofNat 0)) at_112 rfl ?_
            refine K.istore (L' := #[.val (.int p0), .val (.int (Int32.ofNat q)), .val (.ref b), .val (.int (Int32.ofNat x)), .val (.int (Int32.ofNat y)), .val (.int (Int32.ofNat 1)), .val (.int (Int32.ofNat 0)), .unset, .unset, .unset]) at_113 rfl ?_
            -- STOP at 115: locals #[.val (.int p0), .val (.int (Int32.ofNat q)), .val (.ref b), .val (.int (Int32.ofNat x)), .val (.int (Int32.ofNat y)), .val (.int (Int32.ofNat 1)), .val (.int (Int32.ofNat 0)), .unset, .unset, .unset] stack []
            first | exact t2 | (exfalso; omega)
          · -- c97 not -> 100
            refine K.iload at_100 rfl ?_
            refine K.sipush (v := (Int32.ofNat 252)) at_102 rfl ?_
            refine K.icmp _ (pc' := 112) at_105 (n_gt (by omega) (by omega)) (by decide) (by decide) (fun c105 => ?_) (fun c105 => ?_)
            · -- c105 taken -> 112
              refine K.iconst (v := (Int32.ofNat 0)) at_112 rfl ?_
              refine K.istore (L' := #[.val (.int p0), .val (.int (Int32.ofNat q)), .val (.ref b), .val (.int (Int32.ofNat x)), .val (.int (Int32.ofNat y)), .val (.int (Int32.ofNat 1)), .val (.int (Int32.ofNat 0)), .unset, .unset, .unset]) at_113 rfl ?_
              -- STOP at 115: locals #[.val (.int p0), .val (.int (Int32.ofNat q)), .val (.ref b), .val (.int (Int32.ofNat x)), .val (.int (Int32.ofNat y)), .val (.int (Int32.ofNat 1)), .val (.int (Int32.ofNat 0)), .unset, .unset, .unset] stack []
              first | exact t2 | (exfalso; omega)
            · -- c105 not -> 108
              refine K.iconst (v := (Int32.ofNat 1)) at_108 rfl ?_
              refine K.goto (pc' := 113) at_109 (by decide) (by decide) ?_
              refine K.istore (L' := #[.val (.int p0), .val (.int (Int32.ofNat q)), .val (.ref b), .val (.int (Int32.ofNat x)), .val (.int (Int32.ofNat y)), .val (.int (Int32.ofNat 1)), .val (.int (Int32.ofNat 1)), .unset, .unset, .unset]) at_113 rfl ?_
              -- STOP at 115: locals #[.val (.int p0), .val (.int (Int32.ofNat q)), .val (.ref b), .val (.int (Int32.ofNat x)), .val (.int (Int32.ofNat y)), .val (.int (Int32.ofNat 1)), .val (.int (Int32.ofNat 1)), .unset, .unset, .unset] stack []
              first | exact t2 | (exfalso; omega)
    refine K.aloadN at_26 rfl rfl ?_
    refine K.iconst (v := (Int32.ofNat 0)) at_27 rfl ?_
    refine K.bald (i := 0) A_b at_28 (by omega) ?_
    refine K.sipush (v := (Int32.ofNat 255)) at_29 rfl ?_
    refine K.iand (z := (Int32.ofNat x)) at_32 hx0 ?_
    refine K.istoreN (L' := #[.val (.int p0), .val (.int (Int32.ofNat q)), .val (.ref b), .val (.int (Int32.ofNat x)), .unset, .unset, .unset, .unset, .unset, .unset]) at_33 rfl ?_
    refine K.aloadN at_34 rfl rfl ?_
    refine K.iconst (v := (Int32.ofNat 1)) at_35 rfl ?_
    refine K.bald (i := 1) A_b at_36 (by omega) ?_
    refine K.sipush (v := (Int32.ofNat 255)) at_37 rfl ?_
    refine K.iand (z := (Int32.ofNat y)) at_40 hy0 ?_
    refine K.istore (L' := #[.val (.int p0), .val (.int (Int32.ofNat q)), .val (.ref b), .val (.int (Int32.ofNat x)), .val (.int (Int32.ofNat y)), .unset, .unset, .unset, .unset, .unset]) at_41 rfl ?_
    refine K.iloadN at_43 rfl ?_
    refine K.sipush (v := (Int32.ofNat 129)) at_44 rfl ?_
    refine K.icmp _ (pc' := 57) at_47 (n_lt (by omega) (by omega)) (by decide) (by decide) (fun c47 => ?_) (fun c47 => ?_)
    · -- c47 taken -> 57
      refine K.iloadN at_57 rfl ?_
      refine K.sipush (v := (Int32.ofNat 224)) at_58 rfl ?_
      refine K.icmp _ (pc' := 75) at_61 (n_lt (by omega) (by omega)) (by decide) (by decide) (fun c61 => ?_) (fun c61 => ?_)
      · -- c61 taken -> 75
        refine K.iconst (v := (Int32.ofNat 0)) at_75 rfl ?_
        refine K.istore (L' := #[.val (.int p0), .val (.int (Int32.ofNat q)), .val (.ref b), .val (.int (Int32.ofNat x)), .val (.int (Int32.ofNat y)), .val (.int (Int32.ofNat 0)), .unset, .unset, .unset, .unset]) at_76 rfl ?_
        -- STOP at 78: locals #[.val (.int p0), .val (.int (Int32.ofNat q)), .val (.ref b), .val (.int (Int32.ofNat x)), .val (.int (Int32.ofNat y)), .val (.int (Int32.ofNat 0)), .unset, .unset, .unset, .unset] stack []
        first | exact t1 | (exfalso; omega)
      · -- c61 not -> 64
        refine K.iloadN at_64 rfl ?_
        refine K.sipush (v := (Int32.ofNat 252)) at_65 rfl ?_
        refine K.icmp _ (pc' := 75) at_68 (n_gt (by omega) (by omega)) (by decide) (by decide) (fun c68 => ?_) (fun c68 => ?_)
        · -- c68 taken -> 75
          refine K.iconst (v := (Int32.ofNat 0)) at_75 rfl ?_
          refine K.istore (L' := #[.val (.int p0), .val (.int (Int32.ofNat q)), .val (.ref b), .val (.int (Int32.ofNat x)), .val (.int (Int32.ofNat y)), .val (.int (Int32.ofNat 0)), .unset, .unset, .unset, .unset]) at_76 rfl ?_
          -- STOP at 78: locals #[.val (.int p0), .val (.int (Int32.ofNat q)), .val (.ref b), .val (.int (Int32.ofNat x)), .val (.int (Int32.ofNat y)), .val (.int (Int32.ofNat 0)), .unset, .unset, .unset, .unset] stack []
          first | exact t1 | (exfalso; omega)
        · -- c68 not -> 71
          refine K.iconst (v := (Int32.ofNat 1)) at_71 rfl ?_
          refine K.goto (pc' := 76) at_72 (by decide) (by decide) ?_
          refine K.istore (L' := #[.val (.int p0), .val (.int (Int32.ofNat q)), .val (.ref b), .val (.int (Int32.ofNat x)), .val (.int (Int32.ofNat y)), .val (.int (Int32.ofNat 1)), .unset, .unset, .unset, .unset]) at_76 rfl ?_
          -- STOP at 78: locals #[.val (.int p0), .val (.int (Int32.ofNat q)), .val (.ref b), .val (.int (Int32.ofNat x)), .val (.int (Int32.ofNat y)), .val (.int (Int32.ofNat 1)), .unset, .unset, .unset, .unset] stack []
          first | exact t1 | (exfalso; omega)
    · -- c47 not -> 50
      refine K.iloadN at_50 rfl ?_
      refine K.sipush (v := (Int32.ofNat 159)) at_51 rfl ?_
      refine K.icmp _ (pc' := 71) at_54 (n_le (by omega) (by omega)) (by decide) (by decide) (fun c54 => ?_) (fun c54 => ?_)
      · -- c54 taken -> 71
        refine K.iconst (v := (Int32.ofNat 1)) at_71 rfl ?_
        refine K.goto (pc' := 76) at_72 (by decide) (by decide) ?_
        refine K.istore (L' := #[.val (.int p0), .val (.int (Int32.ofNat q)), .val (.ref b), .val (.int (Int32.ofNat x)), .val (.int (Int32.ofNat y)), .val (.int (Int32.ofNat 1)), .unset, .unset, .unset, .unset]) at_76 rfl ?_
        -- STOP at 78: locals #[.val (.int p0), .val (.int (Int32.ofNat q)), .val (.ref b), .val (.int (Int32.ofNat x)), .val (.int (Int32.ofNat y)), .val (.int (Int32.ofNat 1)), .unset, .unset, .unset, .unset] stack []
        first | exact t1 | (exfalso; omega)
      · -- c54 not -> 57
        refine K.iloadN at_57 rfl ?_
        refine K.sipush (v := (Int32.ofNat 224)) at_58 rfl ?_
        refine K.icmp _ (pc' := 75) at_61 (n_lt (by omega) (by omega)) (by decide) (by decide) (fun c61 => ?_) (fun c61 => ?_)
        · -- c61 taken -> 75
          refine K.iconst (v := (Int32.ofNat 0)) at_75 rfl ?_
          refine K.istore (L' := #[.val (.int p0), .val (.int (Int32.ofNat q)), .val (.ref b), .val (.int (Int32.ofNat x)), .val (.int (Int32.ofNat y)), .val (.int (Int32.ofNat 0)), .unset, .unset, .unset, .unset]) at_76 rfl ?_
          -- STOP at 78: locals #[.val (.int p0), .val (.int (Int32.ofNat q)), .val (.ref b), .val (.int (Int32.ofNat x)), .val (.int (Int32.ofNat y)), .val (.int (Int32.ofNat 0)), .unset, .unset, .unset, .unset] stack []
          first | exact t1 | (exfalso; omega)
        · -- c61 not -> 64
          refine K.iloadN at_64 rfl ?_
          refine K.sipush (v := (Int32.ofNat 252)) at_65 rfl ?_
          refine K.icmp _ (pc' := 75) at_68 (n_gt (by omega) (by omega)) (by decide) (by decide) (fun c68 => ?_) (fun c68 => ?_)
          · -- c68 taken -> 75
            refine K.iconst (v := (Int32.ofNat 0)) at_75 rfl ?_
            refine K.istore (L' := #[.val (.int p0), .val (.int (Int32.ofNat q)), .val (.ref b), .val (.int (Int32.ofNat x)), .val (.int (Int32.ofNat y)), .val (.int (Int32.ofNat 0)), .unset, .unset, .unset, .unset]) at_76 rfl ?_
            -- STOP at 78: locals #[.val (.int p0), .val (.int (Int32.ofNat q)), .val (.ref b), .val (.int (Int32.ofNat x)), .val (.int (Int32.ofNat y)), .val (.int (Int32.ofNat 0)), .unset, .unset, .unset, .unset] stack []
            first | exact t1 | (exfalso; omega)
          · -- c68 not -> 71
            refine K.iconst (v := (Int32.ofNat 1)) at_71 rfl ?_
            refine K.goto (pc' := 76) at_72 (by decide) (by decide) ?_
            refine K.istore (L' := #[.val (.int p0), .val (.int (Int32.ofNat q)), .val (.ref b), .val (.int (Int32.ofNat x)), .val (.int (Int32.ofNat y)), .val (.int (Int32.ofNat 1)), .unset, .unset, .unset, .unset]) at_76 rfl ?_
            -- STOP at 78: locals #[.val (.int p0), .val (.int (Int32.ofNat q)), .val (.ref b), .val (.int (Int32.ofNat x)), .val (.int (Int32.ofNat y)), .val (.int (Int32.ofNat 1)), .unset, .unset, .unset, .unset] stack []
            first | exact t1 | (exfalso; omega)
  · -- c21 not -> 24
    refine K.iconst (v := (Int32.ofNat 0)) at_24 rfl ?_
    exact hret _ _ _ _ _ (Ret.z at_25 (by decide)) (by decide) (by decide) (by exfalso; omega)
set_option maxRecDepth 65536 in
set_option maxHeartbeats 40000000 in
theorem comes_1 {Post : Tables → Env → Array Value → State → Outcome → State → Prop} (hpost : ∀ tb e args s v u, (limb_1_1.after args s (.returned v) u = true ∧ limb_1_2.after args s (.returned v) u = true ∧ True) → FrameEnd s (.returned v) u (Jvm.fieldLocs frame_1_writes args s ++ Jvm.arrayLocs frame_1_arrays args s ++ Jvm.staticLocs frame_1_statics s) 16 128 → Post tb e args s (.returned v) u) :
    ArmFor flags0 classFile x code maxLocals ret World_1 tables_1 room_1 Calls_1 rest_1 Pre_1 Post := by
  intro l hfl _ _ p e ha hc hk s m args below hf hA hF happ hP
  obtain ⟨hcalls, hrest, hpre⟩ := hP
  obtain ⟨-, -, -, hnamed, -, -, -, hat⟩ := (Spec.applies_iff hf).mp happ
  obtain ⟨hg, hn⟩ := and_e (Cond.before_iff.mp (show (Jvm.Cond.and given_1 narrow_1).before args s = true from hpre))
  obtain ⟨gc, g0⟩ := and_e hg
  obtain ⟨w0, rfl⟩ : ∃ w0 : Value, args = #[w0] := by
    have hs : args.size = 1 := by simpa [Cond.value, given_1] using gc
    obtain ⟨L⟩ := args
    match L, hs with
    | [w0], _ => exact ⟨w0, rfl⟩
  have hw := fun d (hd : d ∈ tables_1) => atoms_spec (ws := Jvm.Cond.code x code maxLocals ret :: tables_1) hat d (List.mem_cons_of_mem _ hd)
  obtain ⟨i0, ei0⟩ := is_v g0
  obtain rfl : w0 = (.int i0) := Option.some.inj ei0
  obtain ⟨n, o, h1, h2, h3, _, L, rfl, ⟨rfl, N⟩, hq⟩ := rm0 l s _ hw tables_1 i0 s.heap s.heap.size (Nat.le_refl _) p e ha hc hk s m _ below hf ((Spec.applies_iff_loose hf).mp happ).1 ⟨rfl, State.Warmed39.refl s, rfl⟩ trivial
  refine ⟨n, _, h1, h2, h3, hpost _ _ _ _ _ _ ⟨Cond.after_iff.mpr rfl, Cond.after_iff.mpr (eq_i res_at (Term.int_eval (1)) rfl), trivial⟩ ⟨hq.1, hq.2.1, (hq.2.2.sift fun y hy => Or.inr (N y hy)).mono (by decide) (by decide)⟩⟩
theorem main_1_1 : Claimed_1_1 := comes_1 fun _ _ _ _ _ _ h hF => ⟨h.1, hF⟩
theorem main_1_2 : Claimed_1_2 := comes_1 fun _ _ _ _ _ _ h hF => ⟨h.2.1, hF⟩
end Jvm.Pilot.@@N@@
namespace Jvm.Pilot.@@N@@
open Jvm Jvm.ClassFile Sem Op Lib Jvm.Free Jvm.Stand Jvm.Pilot.@@N@@.Jvm.D
/-! MADE BY PROGRAM (witnessworld.py) out of the Statement's table words and the real class files: 9 classes; the members and pool entries that the words name. The judged class is class 1, her method 1. -/
namespace start1
open Jvm.ClassFile
def u (s : String) : CpInfo := .utf8 (stringToUtf16 s)
/-- a pool by its gaps: so many unusable entries, then the entry; so many at the end -/
def gap : Nat → List CpInfo → List CpInfo
  | 0, r => r
  | n + 1, r => .unusable :: gap n r
def poolList (es : List (Nat × CpInfo)) (last : Nat) : List CpInfo := es.foldr (fun e r => gap e.1 (e.2 :: r)) (gap last [])
def pool (es : List (Nat × CpInfo)) (last : Nat) : Array CpInfo := ⟨poolList es last⟩
def fileOf (pool : Array CpInfo) (this : Nat) (attrs : Array Attribute := #[]) (ms : Array MethodInfo := #[]) (fl : Nat := 33) (sup : Nat := 0) (ifs : Array Nat := #[]) (fds : Array FieldInfo := #[]) : ClassFile where
  minorVersion := 0
  majorVersion := 65
  constantPool := pool
  accessFlags := fl
  thisClass := this
  superClass := sup
  interfaces := ifs
  fields := fds
  methods := ms
  attributes := attrs
def plain (name : String) (sup : Option ClassId) : Class where
  name := name
  kind := .ordinary
  loader := none
  accessFlags := 33
  super := sup
  interfaces := #[]
  cf := none
  fields := #[]
  methods := #[]
  instanceTypes := #[]
  staticTypes := #[]
  resolved := #[]
  callSites := []
  init := .initialized
  statics := none
  mirror := none

def pool0 : Array CpInfo := pool [(5, u "<init>"), (0, u "()V"), (1, .class_ 10), (1, u "java/lang/Object")] 113

def k0m0 : Method := { name := "<init>", desc := "()V", sig := { parameters := [], returnType := none }, accessFlags := 1, code := none }
/-- java/lang/Object -/
def k0 : Class := { plain "java/lang/Object" none with
  accessFlags := 33
  interfaces := #[]
  cf := some (fileOf pool0 8 #[] #[{ accessFlags := 1, nameIndex := 5, descriptorIndex := 6, attributes := #[] }] 33 0 #[] #[])
  fields := #[]
  methods := #[k0m0]
  instanceTypes := #[]
  staticTypes := #[]
  resolved := Array.replicate 124 none
  statics := none }

def pool1 : Array CpInfo := pool [(2, .class_ 4), (1, u "java/lang/Object"), (0, u "<init>"), (0, u "()V"), (0, .integer 2147483647), (0, .methodref 9 10), (0, .class_ 11), (0, .nameAndType 12 13), (0, u "com/example/percenter/percenter/Jis"), (0, u "shiftJisBytes"), (0, u "(I)[B"), (0, .class_ 15), (0, u "com/example/percenter/percenter/JisShiftJisBytesPinLaw"), (2, u "law"), (0, u "(I)Z")] 5

def k1m0 : Method := { name := "<init>", desc := "()V", sig := { parameters := [], returnType := none }, accessFlags := 2, code := none }
def k1c1 : Code := { maxStack := 2, maxLocals := 10, code := code, exceptionTable := #[], attributes := #[] }
def k1m1 : Method := { name := "law", desc := "(I)Z", sig := { parameters := [.int], returnType := some .boolean }, accessFlags := 9, code := some k1c1 }
/-- com/example/percenter/percenter/JisShiftJisBytesPinLaw -/
def k1 : Class := { plain "com/example/percenter/percenter/JisShiftJisBytesPinLaw" (some 0) with
  accessFlags := 49
  interfaces := #[]
  cf := some (fileOf pool1 14 #[] #[{ accessFlags := 2, nameIndex := 5, descriptorIndex := 6, attributes := #[] }, { accessFlags := 9, nameIndex := 18, descriptorIndex := 19, attributes := #[] }] 49 2 #[] #[])
  fields := #[]
  methods := #[k1m0, k1m1]
  instanceTypes := #[]
  staticTypes := #[]
  resolved := Array.replicate 25 none
  statics := none }

def pool2 : Array CpInfo := pool [(2, .class_ 4), (1, u "java/lang/Object"), (0, u "<init>"), (0, u "()V"), (0, .class_ 8), (0, u "com/example/percenter/percenter/Jis"), (0, u "ROW"), (0, u "I"), (2, u "FIRST_PRIVATE_USE_POINTER"), (1, u "LAST_PRIVATE_USE_POINTER"), (1, u "SHIFT_JIS_TRAILS"), (3, u "shiftJisBytes"), (0, u "(I)[B"), (6, .class_ 30), (0, u "com/example/percenter/percenter/Jis$Jis0212"), (0, .class_ 32), (0, u "com/example/percenter/percenter/Jis$Jis0208")] 3

def k2m0 : Method := { name := "<init>", desc := "()V", sig := { parameters := [], returnType := none }, accessFlags := 2, code := none }
def k2c1 : Code := { maxStack := 6, maxLocals := 3, code := prog_36_method_2_code, exceptionTable := #[], attributes := #[] }
def k2m1 : Method := { name := "shiftJisBytes", desc := "(I)[B", sig := { parameters := [.int], returnType := some (.array .byte) }, accessFlags := 8, code := some k2c1 }
/-- com/example/percenter/percenter/Jis -/
def k2 : Class := { plain "com/example/percenter/percenter/Jis" (some 0) with
  accessFlags := 48
  interfaces := #[]
  cf := some (fileOf pool2 7 #[.nestMembers #[29, 31]] #[{ accessFlags := 2, nameIndex := 5, descriptorIndex := 6, attributes := #[] }, { accessFlags := 8, nameIndex := 21, descriptorIndex := 22, attributes := #[] }] 48 2 #[] #[{ accessFlags := 24, nameIndex := 9, descriptorIndex := 10, attributes := #[] }, { accessFlags := 24, nameIndex := 13, descriptorIndex := 10, attributes := #[] }, { accessFlags := 24, nameIndex := 15, descriptorIndex := 10, attributes := #[] }, { accessFlags := 24, nameIndex := 17, descriptorIndex := 10, attributes := #[] }])
  fields := #[{ name := "ROW", type := .int, accessFlags := 24, slot := 0, constantValue := 0 }, { name := "FIRST_PRIVATE_USE_POINTER", type := .int, accessFlags := 24, slot := 1, constantValue := 0 }, { name := "LAST_PRIVATE_USE_POINTER", type := .int, accessFlags := 24, slot := 2, constantValue := 0 }, { name := "SHIFT_JIS_TRAILS", type := .int, accessFlags := 24, slot := 3, constantValue := 0 }]
  methods := #[k2m0, k2m1]
  instanceTypes := #[]
  staticTypes := #[.int, .int, .int, .int]
  resolved := Array.replicate 36 none
  statics := none }

def pool3 : Array CpInfo := pool [(1, u "java/lang/Cloneable"), (0, .class_ 1), (0, u "java/lang/Object"), (0, .class_ 3)] 3

/-- java/lang/Cloneable -/
def k3 : Class := { plain "java/lang/Cloneable" (some 0) with
  accessFlags := 1537
  interfaces := #[]
  cf := some (fileOf pool3 2 #[] #[] 1537 4 #[] #[])
  fields := #[]
  methods := #[]
  instanceTypes := #[]
  staticTypes := #[]
  resolved := Array.replicate 8 none
  statics := none }

def pool4 : Array CpInfo := pool [(1, u "java/io/Serializable"), (0, .class_ 1), (0, u "java/lang/Object"), (0, .class_ 3)] 3

/-- java/io/Serializable -/
def k4 : Class := { plain "java/io/Serializable" (some 0) with
  accessFlags := 1537
  interfaces := #[]
  cf := some (fileOf pool4 2 #[] #[] 1537 4 #[] #[])
  fields := #[]
  methods := #[]
  instanceTypes := #[]
  staticTypes := #[]
  resolved := Array.replicate 8 none
  statics := none }

/-- the primitive byte -/
def k5 : Class := { plain "byte" none with kind := .primitive 'B', accessFlags := 0x411 }
/-- [B -/
def k6 : Class := { plain "[B" (some 0) with kind := .array 5 .byte, interfaces := #[3, 4], accessFlags := 1041 }

/-- the primitive int -/
def k7 : Class := { plain "int" none with kind := .primitive 'I', accessFlags := 0x411 }
/-- [I -/
def k8 : Class := { plain "[I" (some 0) with kind := .array 7 .int, interfaces := #[3, 4], accessFlags := 1041 }

def heap : Heap := #[]
def classes : Array Class := #[k0, k1, k2, k3, k4, k5, k6, k7, k8]
def interned : List (Array UInt16 × Addr) := []
def slotsUsed : Nat := 0
def theMethod : MethodId := ⟨1, 1⟩
def args0 : Array Value := #[.int 70]
def aboutOver (below : List Frame) : State where
  vm := { classes := classes, interned := interned.toArray }
  heap := heap
  slotsUsed := slotsUsed
  threads := #[{ frames := .invoking theMethod args0 :: below }]
def below0 : List Frame := [.native { method := ⟨0, 0⟩, args := #[] }]
def about1 : State := aboutOver below0
def p0 : Program := .bare "" "" ""
def e0 : Env := launch0.env 0 0 0
theorem w_frames : about1.frames = Frame.invoking theMethod args0 :: below0 := rfl
set_option maxRecDepth 65536 in
theorem w_args : argsFit about1.vm theMethod args0 = true := by decide +kernel
set_option maxRecDepth 65536 in
theorem w_heap : heapFits about1 = true := by decide +kernel
set_option maxRecDepth 65536 in
theorem w_runnable : about1.curStatus? = some .runnable := by decide +kernel
set_option maxRecDepth 65536 in
theorem w_alone : about1.alone = true := by decide +kernel
set_option maxRecDepth 65536 in
theorem w_named : about1.methodNamed? x = some theMethod := by decide +kernel
set_option maxRecDepth 65536 in
theorem w_hears : about1.hears theMethod below0 = true := by decide +kernel
set_option maxRecDepth 65536 in
theorem w_ripe : about1.ripe theMethod args0 below0 = true := by decide +kernel
theorem w_running : about1.status = .running := rfl
set_option maxRecDepth 65536 in
theorem w_room : about1.hasRoom e0.platform room_1 = true :=
  launch0.hasRoom_least _ room_1 (by decide +kernel) (by decide +kernel) (by decide +kernel) (by decide +kernel) (by decide +kernel) (by decide +kernel)
theorem allAtoms_all (ts : List Jvm.Cond) (a : Array Jvm.Value) (st : Jvm.State) : (allAtoms ts).before a st = ts.all (fun c => c.before a st) := by
  induction ts with
  | nil => rfl
  | cons c t ih =>
    show (Jvm.Cond.and c (allAtoms t)).before a st = _
    rw [Jvm.Cond.before_and, ih, List.all_cons]
def words1 : List Jvm.Cond := Jvm.Cond.code x code maxLocals ret :: tables_1
/-- a 'code' word, met by the world's own term for the bytes: nothing is compared byte by byte -/
theorem code_word {y : MethodName} {bytes : ByteArray} {mx : Nat} {rt : Option FieldType} {a : Array Value} {s : State} {m : MethodId} {meth : Method} {c : Code} (h1 : s.methodNamed? y = some m) (h2 : s.vm.method? m = some meth) (h3 : meth.code = some c) (h4 : c.code = bytes)
    (h5 : (c.maxLocals == mx && c.exceptionTable.isEmpty && decide (c.maxStack ≤ mostOperands) && decide (meth.sig.returnType = rt) && !meth.locks && decide (parseMethodDescriptor y.desc = some meth.sig)) = true) : (Jvm.Cond.code y bytes mx rt).before a s = true := by
  simp only [Bool.and_eq_true, beq_iff_eq, Bool.not_eq_true', decide_eq_true_eq] at h5
  obtain ⟨⟨⟨⟨⟨g1, g2⟩, g3⟩, g4⟩, g5⟩, g6⟩ := h5
  simp [Cond.before, Cond.holds, Cond.value, h1, h2, h3, h4, g1, g2, g3, g4, g5, g6]
def isCode : Jvm.Cond → Bool
  | .code _ _ _ _ => true
  | _ => false
theorem all_split {L : List Jvm.Cond} {P : Jvm.Cond → Bool} (h1 : L.all (fun c => isCode c || P c) = true) (h2 : ∀ c ∈ L.filter isCode, P c = true) : L.all P = true := by
  refine List.all_eq_true.mpr fun c hc => ?_
  have h := List.all_eq_true.mp h1 c hc
  rcases Bool.eq_false_or_eq_true (isCode c) with hi | hi
  · exact h2 c (List.mem_filter.mpr ⟨hc, hi⟩)
  · simpa [hi] using h
set_option maxRecDepth 65536 in
theorem w_c0 : (Jvm.Cond.code x code maxLocals ret).before args0 about1 = true := code_word (m := ⟨1, 1⟩) (meth := k1m1) (c := k1c1) (by decide +kernel) rfl rfl rfl (by decide +kernel)
set_option maxRecDepth 65536 in
theorem w_c1 : (Jvm.Cond.code ({ cls := "com/example/percenter/percenter/Jis", name := "shiftJisBytes", desc := "(I)[B" } : Jvm.MethodName) prog_36_method_2_code (3 : Nat) (Option.some (Jvm.ClassFile.FieldType.array Jvm.ClassFile.FieldType.byte))).before args0 about1 = true := code_word (m := ⟨2, 1⟩) (meth := k2m1) (c := k2c1) (by decide +kernel) rfl rfl rfl (by decide +kernel)
def codes1 : List Jvm.Cond := [Jvm.Cond.code x code maxLocals ret, Jvm.Cond.code ({ cls := "com/example/percenter/percenter/Jis", name := "shiftJisBytes", desc := "(I)[B" } : Jvm.MethodName) prog_36_method_2_code (3 : Nat) (Option.some (Jvm.ClassFile.FieldType.array Jvm.ClassFile.FieldType.byte))]
set_option maxRecDepth 65536 in
theorem codes_eq : words1.filter isCode = codes1 := rfl
theorem w_codes : ∀ c ∈ words1.filter isCode, c.before args0 about1 = true := by
  rw [codes_eq]
  intro c hc
  simp only [codes1, List.mem_cons, List.not_mem_nil, or_false] at hc
  rcases hc with rfl | rfl
  · exact w_c0
  · exact w_c1
set_option maxRecDepth 65536 in
theorem w_t1 : words1.all (fun c => isCode c || c.before args0 about1) = true := by decide +kernel
theorem w_tables : (allAtoms (Jvm.Cond.code x code maxLocals ret :: tables_1)).before args0 about1 = true := by
  rw [allAtoms_all]
  show words1.all (fun c => c.before args0 about1) = true
  refine all_split ?_ w_codes
  rw [w_t1]
set_option maxRecDepth 65536 in
theorem w_case : (Jvm.Cond.and given_1 narrow_1).before args0 about1 = true := by decide +kernel
theorem w_applies : (headSpec (Jvm.Cond.code x code maxLocals ret :: tables_1) room_1).applies x e0.platform about1 = true :=
  (Spec.applies_iff w_frames).mpr ⟨w_running, w_runnable, w_alone, w_named, w_hears, w_ripe, w_room, w_tables⟩
theorem atStart : AtStart classFile x code maxLocals ret World_1 tables_1 room_1 Calls_1 rest_1 Pre_1 launch0 p0 e0 about1 theMethod args0 below0 :=
  ⟨lists_1, trivial, launch0.admits_env _ _ _, launch0.least_env, fairChoices_fair.cas, fairChoices_fair.clock, w_frames, w_args, w_heap, w_applies, trivial, trivial, w_case⟩
end start1
theorem witness_1 : WitnessClaimed_1 := ⟨start1.p0, start1.e0, start1.about1, start1.theMethod, start1.args0, start1.below0, start1.atStart⟩
end Jvm.Pilot.@@N@@
