import JvmDerived
import JvmDerived.Pilot.@@N@@Statement
import JvmDerived.Pilot.@@N@@Code
set_option linter.unusedVariables false
set_option linter.unusedSimpArgs false
namespace Jvm.Pilot.@@N@@
open Jvm Jvm.ClassFile Sem Op Lib Jvm.Free Jvm.Stand Jvm.LawKit Jvm.RoadKit Bundle Jvm.Pilot.@@N@@.Jvm.D
/-! own kit (printed by wip/gen/kit.py) -/
/-- from here the walk comes to an end that K takes -/
def Run (p : Program) (e : Env) (below : List Frame) (m : MethodId) (K : State → Prop) (T : State) (pc : Nat) (L : Array Slot) (st : List Value) : Prop :=
  ∃ u, Steps p.tables e below (T.setTop (mkF m pc L st)) u ∧ K u
/-- what goes through a whole body -/
def Cx (p : Program) (l : Launch) (e : Env) (R : Room) (s : State) (m : MethodId) (args : Array Value) (below : List Frame) (meth : Method) (c : Code) (Z : State) (bytes : ByteArray) (ml : Nat) (own : String) (ret : Option FieldType) (mname : String) (n0 : Nat) (T : State) (h : Heap) (cells slots : Nat) : Prop :=
  (∃ locs, Stand p l e R s m args below meth c T locs cells slots ∧ Fr n0 locs) ∧ T.heap = h ∧ p.tables.exec = Jvm.exec ∧ c.code = bytes ∧ c.maxLocals = ml ∧ Z.Warmed39 s.vm ∧ s.vm.findClass own = some m.cls ∧ meth.sig.returnType = ret ∧ meth.name = mname ∧ meth.locks = false ∧ n0 ≤ h.size
/-- the end of a body: what it returns and leaves is Q's -/
def Fin1 (below : List Frame) (s : State) (n0 : Nat) (Q : Option Value → Heap → Prop) (cN sN : Nat) (u : State) : Prop :=
  u.status = .running ∧ ∃ o, Ended u below o ∧ ∃ v L, o = .returned v ∧ (Q v u.heap ∧ Fr n0 L ∧ n0 ≤ u.heap.size) ∧ FrameEnd s o u L cN sN
/-- a body's contract -/
def Met1 (l : Launch) (Z : State) (n0 : Nat) (ws : List Jvm.Cond) (y : MethodName) (bytes : ByteArray) (ml : Nat) (ret : Option FieldType) (rm : Room) (as : Array Value) (h0 : Heap) (Q : Option Value → Heap → Prop) : Prop :=
  MetFree l y (head1 (Jvm.Cond.code y bytes ml ret :: ws) rm) (fun a U => a = as ∧ Z.Warmed39 U.vm ∧ U.heap = h0) (fun _ _ _ _ _ => True) (fun _ U o U' => ∃ v L, o = .returned v ∧ (Q v U'.heap ∧ Fr n0 L ∧ n0 ≤ U'.heap.size) ∧ FrameEnd U o U' L rm.cells rm.slots)
/-- an array: its kind, its length, what each place holds -/
def AF (Z : State) (h : Heap) (a : Addr) (ty : FieldType) (n : Nat) (f : Nat → Value) : Prop := ∃ c : Cell, Arr Z h a c ty ∧ c.slots.size = n ∧ n < 2 ^ 31 ∧ ∀ j, j < n → c.slots[j]? = some (f j)
def upd (f : Nat → Value) (i : Nat) (v : Value) : Nat → Value := fun j => if j = i then v else f j
section Own
variable {p : Program} {l : Launch} {e : Env} {R : Room} {s : State} {m : MethodId} {args : Array Value} {below : List Frame} {meth : Method} {c : Code} {Z : State} {bytes : ByteArray} {ml : Nat} {own mname : String} {ret : Option FieldType} {n0 : Nat} {T : State} {h : Heap} {cells slots : Nat} {K : State → Prop} {pc : Nat} {L : Array Slot} {st : List Value}
theorem Cx.sz (X : Cx p l e R s m args below meth c Z bytes ml own ret mname n0 T h cells slots) : n0 ≤ h.size := X.2.2.2.2.2.2.2.2.2.2
theorem Run.of {T' : State} {pc' : Nat} {L' : Array Slot} {st' : List Value} (h : ∀ t, Steps p.tables e below (T'.setTop (mkF m pc' L' st')) t → Steps p.tables e below (T.setTop (mkF m pc L st)) t) (r : Run p e below m K T' pc' L' st') : Run p e below m K T pc L st :=
  r.imp fun u q => ⟨h u q.1, q.2⟩
theorem upd_hit {f : Nat → Value} {i : Nat} {v : Value} : upd f i v i = v := if_pos rfl
theorem upd_miss {f : Nat → Value} {i j : Nat} {v : Value} (q : j ≠ i) : upd f i v j = f j := if_neg q
theorem idx_of {j : Int32} {i n : Nat} (hj : j.toInt = (i : Int)) (hi : i < n) : ¬ (j < 0 ∨ n ≤ j.toNatClampNeg) ∧ j.toNatClampNeg = i := by
  have q : j.toNatClampNeg = i := by show j.toInt.toNat = i; omega
  refine ⟨?_, q⟩
  rw [q, Int32.lt_iff_toInt_lt]
  have : (0 : Int32).toInt = 0 := rfl
  omega
theorem AF.lt {a : Addr} {ty : FieldType} {n : Nat} {f : Nat → Value} (A : AF Z h a ty n f) : a < h.size := by obtain ⟨c, A, -⟩ := A; exact A.lt
theorem AF.small {a : Addr} {ty : FieldType} {n : Nat} {f : Nat → Value} (A : AF Z h a ty n f) : n < 2 ^ 31 := by obtain ⟨c, -, -, q, -⟩ := A; exact q
theorem AF.ext {a : Addr} {ty : FieldType} {n : Nat} {f : Nat → Value} {h' : Heap} (A : AF Z h a ty n f) (E : Ext h h') : AF Z h' a ty n f := by obtain ⟨c, A, r⟩ := A; exact ⟨c, A.ext E, r⟩
theorem AF.other {a b : Addr} {ty : FieldType} {n sl : Nat} {v : Value} {f : Nat → Value} {h' : Heap} (A : AF Z h b ty n f) (W : Wr h h' a sl v) (q : b ≠ a) : AF Z h' b ty n f := by obtain ⟨c, A, r⟩ := A; exact ⟨c, A.other W q, r⟩
theorem AF.keep {a : Addr} {ty : FieldType} {n : Nat} {f : Nat → Value} {h' : Heap} {ws : List Addr} (A : AF Z h a ty n f) (K : Keep h h' ws) (q : a ∉ ws) : AF Z h' a ty n f := by obtain ⟨c, A, r⟩ := A; exact ⟨c, ⟨K.2.1 a c A.1 q, A.2⟩, r⟩
theorem AF.set {a : Addr} {ty : FieldType} {n i : Nat} {v : Value} {f : Nat → Value} {h' : Heap} (A : AF Z h a ty n f) (W : Wr h h' a i v) : AF Z h' a ty n (upd f i v) := by
  obtain ⟨c, A, S, q, H⟩ := A
  refine ⟨_, A.same W, by rw [sz_set]; exact S, q, fun j hj => ?_⟩
  show (c.slots.setIfInBounds i v)[j]? = _
  rw [Array.getElem?_setIfInBounds, S]
  by_cases e : i = j
  · subst e; simp [hj, upd]
  · have e' : j ≠ i := fun q => e q.symm
    simp [e, upd, e', H j hj]
theorem AF.congr {a : Addr} {ty : FieldType} {n : Nat} {f g : Nat → Value} (A : AF Z h a ty n f) (q : ∀ j, j < n → f j = g j) : AF Z h a ty n g := by
  obtain ⟨c, A, S, r, H⟩ := A; exact ⟨c, A, S, r, fun j hj => by rw [H j hj, q j hj]⟩
theorem AF.ne_obj {a b : Addr} {ty : FieldType} {n k : Nat} {f : Nat → Value} {C : String} {a0 : Array Value} (A : AF Z h b ty n f) (E : Exa Z h a C) (wi : (Jvm.Cond.instantiable C k).before a0 Z = true) : a ≠ b := by obtain ⟨c, A, -⟩ := A; exact ne_arr E wi A
theorem r_topI {x x' : Int32} (q : x = x') (r : Run p e below m K T pc L (.int x' :: st)) : Run p e below m K T pc L (.int x :: st) := q ▸ r
theorem r_topJ {x x' : Int64} (q : x = x') (r : Run p e below m K T pc L (.long x' :: st)) : Run p e below m K T pc L (.long x :: st) := q ▸ r
theorem r_top {x x' : Value} (q : x = x') (r : Run p e below m K T pc L (x' :: st)) : Run p e below m K T pc L (x :: st) := q ▸ r
theorem r_loc {L' : Array Slot} (q : L = L') (r : Run p e below m K T pc L' st) : Run p e below m K T pc L st := q ▸ r
theorem r_iload (pc' : Nat) (X : Cx p l e R s m args below meth c Z bytes ml own ret mname n0 T h cells slots) {k : Nat} {v : Int32} (hd : decode bytes pc = .ok (.iload k, 2)) (hl : L[k]? = some (.val (.int v))) (r : Run p e below m K T pc' L (.int v :: st)) (q : pc + 2 = pc' := by rfl) : Run p e below m K T pc L st := by
  obtain ⟨⟨locs, X, -⟩, -, hx, hby, -⟩ := X
  subst q hby
  exact Run.of (fun t k => XS.iload X.here hx rfl hd hl k) r
theorem r_iloadN (pc' : Nat) (X : Cx p l e R s m args below meth c Z bytes ml own ret mname n0 T h cells slots) {k : Fin 4} {v : Int32} (hd : decode bytes pc = .ok (.iload_n k, 1)) (hl : L[k.val]? = some (.val (.int v))) (r : Run p e below m K T pc' L (.int v :: st)) (q : pc + 1 = pc' := by rfl) : Run p e below m K T pc L st := by
  obtain ⟨⟨locs, X, -⟩, -, hx, hby, -⟩ := X
  subst q hby
  exact Run.of (fun t k => XS.iloadN X.here hx rfl hd hl k) r
theorem r_istore (pc' : Nat) (X : Cx p l e R s m args below meth c Z bytes ml own ret mname n0 T h cells slots) {k : Nat} {v : Int32} (L' : Array Slot) (hd : decode bytes pc = .ok (.istore k, 2)) (hl : storeLocals L k (.int v) = some L') (r : Run p e below m K T pc' L' st) (q : pc + 2 = pc' := by rfl) : Run p e below m K T pc L (.int v :: st) := by
  obtain ⟨⟨locs, X, -⟩, -, hx, hby, -⟩ := X
  subst q hby
  exact Run.of (fun t k => XS.istore X.here hx rfl hd rfl hl k) r
theorem r_istoreN (pc' : Nat) (X : Cx p l e R s m args below meth c Z bytes ml own ret mname n0 T h cells slots) {k : Fin 4} {v : Int32} (L' : Array Slot) (hd : decode bytes pc = .ok (.istore_n k, 1)) (hl : storeLocals L k.val (.int v) = some L') (r : Run p e below m K T pc' L' st) (q : pc + 1 = pc' := by rfl) : Run p e below m K T pc L (.int v :: st) := by
  obtain ⟨⟨locs, X, -⟩, -, hx, hby, -⟩ := X
  subst q hby
  exact Run.of (fun t k => XS.istoreN X.here hx rfl hd rfl hl k) r
theorem r_lload (pc' : Nat) (X : Cx p l e R s m args below meth c Z bytes ml own ret mname n0 T h cells slots) {k : Nat} {v : Int64} (hd : decode bytes pc = .ok (.lload k, 2)) (hl : L[k]? = some (.val (.long v))) (r : Run p e below m K T pc' L (.long v :: st)) (q : pc + 2 = pc' := by rfl) : Run p e below m K T pc L st := by
  obtain ⟨⟨locs, X, -⟩, -, hx, hby, -⟩ := X
  subst q hby
  exact Run.of (fun t k => XS.lload X.here hx rfl hd hl k) r
theorem r_lloadN (pc' : Nat) (X : Cx p l e R s m args below meth c Z bytes ml own ret mname n0 T h cells slots) {k : Fin 4} {v : Int64} (hd : decode bytes pc = .ok (.lload_n k, 1)) (hl : L[k.val]? = some (.val (.long v))) (r : Run p e below m K T pc' L (.long v :: st)) (q : pc + 1 = pc' := by rfl) : Run p e below m K T pc L st := by
  obtain ⟨⟨locs, X, -⟩, -, hx, hby, -⟩ := X
  subst q hby
  exact Run.of (fun t k => XS.lloadN X.here hx rfl hd hl k) r
theorem r_lstore (pc' : Nat) (X : Cx p l e R s m args below meth c Z bytes ml own ret mname n0 T h cells slots) {k : Nat} {v : Int64} (L' : Array Slot) (hd : decode bytes pc = .ok (.lstore k, 2)) (hl : storeLocals L k (.long v) = some L') (r : Run p e below m K T pc' L' st) (q : pc + 2 = pc' := by rfl) : Run p e below m K T pc L (.long v :: st) := by
  obtain ⟨⟨locs, X, -⟩, -, hx, hby, -⟩ := X
  subst q hby
  exact Run.of (fun t k => XS.lstore X.here hx rfl hd rfl hl k) r
theorem r_lstoreN (pc' : Nat) (X : Cx p l e R s m args below meth c Z bytes ml own ret mname n0 T h cells slots) {k : Fin 4} {v : Int64} (L' : Array Slot) (hd : decode bytes pc = .ok (.lstore_n k, 1)) (hl : storeLocals L k.val (.long v) = some L') (r : Run p e below m K T pc' L' st) (q : pc + 1 = pc' := by rfl) : Run p e below m K T pc L (.long v :: st) := by
  obtain ⟨⟨locs, X, -⟩, -, hx, hby, -⟩ := X
  subst q hby
  exact Run.of (fun t k => XS.lstoreN X.here hx rfl hd rfl hl k) r
theorem r_dload (pc' : Nat) (X : Cx p l e R s m args below meth c Z bytes ml own ret mname n0 T h cells slots) {k : Nat} {v : UInt64} (hd : decode bytes pc = .ok (.dload k, 2)) (hl : L[k]? = some (.val (.double v))) (r : Run p e below m K T pc' L (.double v :: st)) (q : pc + 2 = pc' := by rfl) : Run p e below m K T pc L st := by
  obtain ⟨⟨locs, X, -⟩, -, hx, hby, -⟩ := X
  subst q hby
  exact Run.of (fun t k => XS.dload X.here hx rfl hd hl k) r
theorem r_dloadN (pc' : Nat) (X : Cx p l e R s m args below meth c Z bytes ml own ret mname n0 T h cells slots) {k : Fin 4} {v : UInt64} (hd : decode bytes pc = .ok (.dload_n k, 1)) (hl : L[k.val]? = some (.val (.double v))) (r : Run p e below m K T pc' L (.double v :: st)) (q : pc + 1 = pc' := by rfl) : Run p e below m K T pc L st := by
  obtain ⟨⟨locs, X, -⟩, -, hx, hby, -⟩ := X
  subst q hby
  exact Run.of (fun t k => XS.dloadN X.here hx rfl hd hl k) r
theorem r_dstore (pc' : Nat) (X : Cx p l e R s m args below meth c Z bytes ml own ret mname n0 T h cells slots) {k : Nat} {v : UInt64} (L' : Array Slot) (hd : decode bytes pc = .ok (.dstore k, 2)) (hl : storeLocals L k (.double v) = some L') (r : Run p e below m K T pc' L' st) (q : pc + 2 = pc' := by rfl) : Run p e below m K T pc L (.double v :: st) := by
  obtain ⟨⟨locs, X, -⟩, -, hx, hby, -⟩ := X
  subst q hby
  exact Run.of (fun t k => XS.dstore X.here hx rfl hd rfl hl k) r
theorem r_dstoreN (pc' : Nat) (X : Cx p l e R s m args below meth c Z bytes ml own ret mname n0 T h cells slots) {k : Fin 4} {v : UInt64} (L' : Array Slot) (hd : decode bytes pc = .ok (.dstore_n k, 1)) (hl : storeLocals L k.val (.double v) = some L') (r : Run p e below m K T pc' L' st) (q : pc + 1 = pc' := by rfl) : Run p e below m K T pc L (.double v :: st) := by
  obtain ⟨⟨locs, X, -⟩, -, hx, hby, -⟩ := X
  subst q hby
  exact Run.of (fun t k => XS.dstoreN X.here hx rfl hd rfl hl k) r
theorem r_aload (pc' : Nat) (X : Cx p l e R s m args below meth c Z bytes ml own ret mname n0 T h cells slots) {k : Nat} {v : Value} (hd : decode bytes pc = .ok (.aload k, 2)) (hl : L[k]? = some (.val v)) (hv : v.isRef = true) (r : Run p e below m K T pc' L (v :: st)) (q : pc + 2 = pc' := by rfl) : Run p e below m K T pc L st := by
  obtain ⟨⟨locs, X, -⟩, -, hx, hby, -⟩ := X
  subst q hby
  exact Run.of (fun t k => XS.aload X.here hx rfl hd hl hv k) r
theorem r_aloadN (pc' : Nat) (X : Cx p l e R s m args below meth c Z bytes ml own ret mname n0 T h cells slots) {k : Fin 4} {v : Value} (hd : decode bytes pc = .ok (.aload_n k, 1)) (hl : L[k.val]? = some (.val v)) (hv : v.isRef = true) (r : Run p e below m K T pc' L (v :: st)) (q : pc + 1 = pc' := by rfl) : Run p e below m K T pc L st := by
  obtain ⟨⟨locs, X, -⟩, -, hx, hby, -⟩ := X
  subst q hby
  exact Run.of (fun t k => XS.aloadN X.here hx rfl hd hl hv k) r
theorem r_astore (pc' : Nat) (X : Cx p l e R s m args below meth c Z bytes ml own ret mname n0 T h cells slots) {k : Nat} {v : Value} (L' : Array Slot) (hd : decode bytes pc = .ok (.astore k, 2)) (hv : v.isRef = true) (hl : storeLocals L k v = some L') (r : Run p e below m K T pc' L' st) (q : pc + 2 = pc' := by rfl) : Run p e below m K T pc L (v :: st) := by
  obtain ⟨⟨locs, X, -⟩, -, hx, hby, -⟩ := X
  subst q hby
  exact Run.of (fun t k => XS.astore X.here hx rfl hd rfl hv hl k) r
theorem r_astoreN (pc' : Nat) (X : Cx p l e R s m args below meth c Z bytes ml own ret mname n0 T h cells slots) {k : Fin 4} {v : Value} (L' : Array Slot) (hd : decode bytes pc = .ok (.astore_n k, 1)) (hv : v.isRef = true) (hl : storeLocals L k.val v = some L') (r : Run p e below m K T pc' L' st) (q : pc + 1 = pc' := by rfl) : Run p e below m K T pc L (v :: st) := by
  obtain ⟨⟨locs, X, -⟩, -, hx, hby, -⟩ := X
  subst q hby
  exact Run.of (fun t k => XS.astoreN X.here hx rfl hd rfl hv hl k) r
theorem r_iconst (pc' : Nat) (X : Cx p l e R s m args below meth c Z bytes ml own ret mname n0 T h cells slots) {i : Int} (z : Int32) (hd : decode bytes pc = .ok (.iconst i, 1)) (hz : Int32.ofInt i = z) (r : Run p e below m K T pc' L (.int z :: st)) (q : pc + 1 = pc' := by rfl) : Run p e below m K T pc L st := by
  obtain ⟨⟨locs, X, -⟩, -, hx, hby, -⟩ := X
  subst q hby hz
  exact Run.of (fun t k => XS.iconst X.here hx rfl hd  k) r
theorem r_bipush (pc' : Nat) (X : Cx p l e R s m args below meth c Z bytes ml own ret mname n0 T h cells slots) {i : Int} (z : Int32) (hd : decode bytes pc = .ok (.bipush i, 2)) (hz : (Int8.ofInt i).toInt32 = z) (r : Run p e below m K T pc' L (.int z :: st)) (q : pc + 2 = pc' := by rfl) : Run p e below m K T pc L st := by
  obtain ⟨⟨locs, X, -⟩, -, hx, hby, -⟩ := X
  subst q hby hz
  exact Run.of (fun t k => XS.bipush X.here hx rfl hd  k) r
theorem r_sipush (pc' : Nat) (X : Cx p l e R s m args below meth c Z bytes ml own ret mname n0 T h cells slots) {i : Int} (z : Int32) (hd : decode bytes pc = .ok (.sipush i, 3)) (hz : (Int16.ofInt i).toInt32 = z) (r : Run p e below m K T pc' L (.int z :: st)) (q : pc + 3 = pc' := by rfl) : Run p e below m K T pc L st := by
  obtain ⟨⟨locs, X, -⟩, -, hx, hby, -⟩ := X
  subst q hby hz
  exact Run.of (fun t k => XS.sipush X.here hx rfl hd  k) r
theorem r_lconst (pc' : Nat) (X : Cx p l e R s m args below meth c Z bytes ml own ret mname n0 T h cells slots) {i : Fin 2} (z : Int64) (hd : decode bytes pc = .ok (.lconst i, 1)) (hz : Int64.ofNat i = z) (r : Run p e below m K T pc' L (.long z :: st)) (q : pc + 1 = pc' := by rfl) : Run p e below m K T pc L st := by
  obtain ⟨⟨locs, X, -⟩, -, hx, hby, -⟩ := X
  subst q hby hz
  exact Run.of (fun t k => XS.lconst X.here hx rfl hd  k) r
theorem r_aconst_null (pc' : Nat) (X : Cx p l e R s m args below meth c Z bytes ml own ret mname n0 T h cells slots)  (hd : decode bytes pc = .ok (.aconst_null, 1))  (r : Run p e below m K T pc' L (.null :: st)) (q : pc + 1 = pc' := by rfl) : Run p e below m K T pc L st := by
  obtain ⟨⟨locs, X, -⟩, -, hx, hby, -⟩ := X
  subst q hby
  exact Run.of (fun t k => XS.aconstNull X.here hx rfl hd  k) r
theorem r_dconst0 (pc' : Nat) (X : Cx p l e R s m args below meth c Z bytes ml own ret mname n0 T h cells slots)  (hd : decode bytes pc = .ok (.dconst 0, 1))  (r : Run p e below m K T pc' L (.double FP.dconst0 :: st)) (q : pc + 1 = pc' := by rfl) : Run p e below m K T pc L st := by
  obtain ⟨⟨locs, X, -⟩, -, hx, hby, -⟩ := X
  subst q hby
  exact Run.of (fun t k => XS.dconst0 X.here hx rfl hd rfl k) r
theorem r_dconst1 (pc' : Nat) (X : Cx p l e R s m args below meth c Z bytes ml own ret mname n0 T h cells slots)  (hd : decode bytes pc = .ok (.dconst 1, 1))  (r : Run p e below m K T pc' L (.double FP.dconst1 :: st)) (q : pc + 1 = pc' := by rfl) : Run p e below m K T pc L st := by
  obtain ⟨⟨locs, X, -⟩, -, hx, hby, -⟩ := X
  subst q hby
  exact Run.of (fun t k => XS.dconst1 X.here hx rfl hd rfl k) r
theorem r_iadd (pc' : Nat) (X : Cx p l e R s m args below meth c Z bytes ml own ret mname n0 T h cells slots) {x y : Int32} (hd : decode bytes pc = .ok (.iadd, 1))  (r : Run p e below m K T pc' L (.int (x + y) :: st)) (q : pc + 1 = pc' := by rfl) : Run p e below m K T pc L (.int y :: .int x :: st) := by
  obtain ⟨⟨locs, X, -⟩, -, hx, hby, -⟩ := X
  subst q hby
  exact Run.of (fun t k => XS.iadd X.here hx rfl hd rfl k) r
theorem r_isub (pc' : Nat) (X : Cx p l e R s m args below meth c Z bytes ml own ret mname n0 T h cells slots) {x y : Int32} (hd : decode bytes pc = .ok (.isub, 1))  (r : Run p e below m K T pc' L (.int (x - y) :: st)) (q : pc + 1 = pc' := by rfl) : Run p e below m K T pc L (.int y :: .int x :: st) := by
  obtain ⟨⟨locs, X, -⟩, -, hx, hby, -⟩ := X
  subst q hby
  exact Run.of (fun t k => XS.isub X.here hx rfl hd rfl k) r
theorem r_imul (pc' : Nat) (X : Cx p l e R s m args below meth c Z bytes ml own ret mname n0 T h cells slots) {x y : Int32} (hd : decode bytes pc = .ok (.imul, 1))  (r : Run p e below m K T pc' L (.int (x * y) :: st)) (q : pc + 1 = pc' := by rfl) : Run p e below m K T pc L (.int y :: .int x :: st) := by
  obtain ⟨⟨locs, X, -⟩, -, hx, hby, -⟩ := X
  subst q hby
  exact Run.of (fun t k => XS.imul X.here hx rfl hd rfl k) r
theorem r_iand (pc' : Nat) (X : Cx p l e R s m args below meth c Z bytes ml own ret mname n0 T h cells slots) {x y : Int32} (hd : decode bytes pc = .ok (.iand, 1))  (r : Run p e below m K T pc' L (.int (x &&& y) :: st)) (q : pc + 1 = pc' := by rfl) : Run p e below m K T pc L (.int y :: .int x :: st) := by
  obtain ⟨⟨locs, X, -⟩, -, hx, hby, -⟩ := X
  subst q hby
  exact Run.of (fun t k => XS.iand X.here hx rfl hd rfl k) r
theorem r_ior (pc' : Nat) (X : Cx p l e R s m args below meth c Z bytes ml own ret mname n0 T h cells slots) {x y : Int32} (hd : decode bytes pc = .ok (.ior, 1))  (r : Run p e below m K T pc' L (.int (x ||| y) :: st)) (q : pc + 1 = pc' := by rfl) : Run p e below m K T pc L (.int y :: .int x :: st) := by
  obtain ⟨⟨locs, X, -⟩, -, hx, hby, -⟩ := X
  subst q hby
  exact Run.of (fun t k => XS.ior X.here hx rfl hd rfl k) r
theorem r_ixor (pc' : Nat) (X : Cx p l e R s m args below meth c Z bytes ml own ret mname n0 T h cells slots) {x y : Int32} (hd : decode bytes pc = .ok (.ixor, 1))  (r : Run p e below m K T pc' L (.int (x ^^^ y) :: st)) (q : pc + 1 = pc' := by rfl) : Run p e below m K T pc L (.int y :: .int x :: st) := by
  obtain ⟨⟨locs, X, -⟩, -, hx, hby, -⟩ := X
  subst q hby
  exact Run.of (fun t k => XS.ixor X.here hx rfl hd rfl k) r
theorem r_ishl (pc' : Nat) (X : Cx p l e R s m args below meth c Z bytes ml own ret mname n0 T h cells slots) {x y : Int32} (hd : decode bytes pc = .ok (.ishl, 1))  (r : Run p e below m K T pc' L (.int (x <<< (y &&& 31)) :: st)) (q : pc + 1 = pc' := by rfl) : Run p e below m K T pc L (.int y :: .int x :: st) := by
  obtain ⟨⟨locs, X, -⟩, -, hx, hby, -⟩ := X
  subst q hby
  exact Run.of (fun t k => XS.ishl X.here hx rfl hd rfl k) r
theorem r_ishr (pc' : Nat) (X : Cx p l e R s m args below meth c Z bytes ml own ret mname n0 T h cells slots) {x y : Int32} (hd : decode bytes pc = .ok (.ishr, 1))  (r : Run p e below m K T pc' L (.int (x >>> (y &&& 31)) :: st)) (q : pc + 1 = pc' := by rfl) : Run p e below m K T pc L (.int y :: .int x :: st) := by
  obtain ⟨⟨locs, X, -⟩, -, hx, hby, -⟩ := X
  subst q hby
  exact Run.of (fun t k => XS.ishr X.here hx rfl hd rfl k) r
theorem r_iushr (pc' : Nat) (X : Cx p l e R s m args below meth c Z bytes ml own ret mname n0 T h cells slots) {x y : Int32} (hd : decode bytes pc = .ok (.iushr, 1))  (r : Run p e below m K T pc' L (.int ((x.toUInt32 >>> (y &&& 31).toUInt32).toInt32) :: st)) (q : pc + 1 = pc' := by rfl) : Run p e below m K T pc L (.int y :: .int x :: st) := by
  obtain ⟨⟨locs, X, -⟩, -, hx, hby, -⟩ := X
  subst q hby
  exact Run.of (fun t k => XS.iushr X.here hx rfl hd rfl k) r
theorem r_ladd (pc' : Nat) (X : Cx p l e R s m args below meth c Z bytes ml own ret mname n0 T h cells slots) {x y : Int64} (hd : decode bytes pc = .ok (.ladd, 1))  (r : Run p e below m K T pc' L (.long (x + y) :: st)) (q : pc + 1 = pc' := by rfl) : Run p e below m K T pc L (.long y :: .long x :: st) := by
  obtain ⟨⟨locs, X, -⟩, -, hx, hby, -⟩ := X
  subst q hby
  exact Run.of (fun t k => XS.ladd X.here hx rfl hd rfl k) r
theorem r_lsub (pc' : Nat) (X : Cx p l e R s m args below meth c Z bytes ml own ret mname n0 T h cells slots) {x y : Int64} (hd : decode bytes pc = .ok (.lsub, 1))  (r : Run p e below m K T pc' L (.long (x - y) :: st)) (q : pc + 1 = pc' := by rfl) : Run p e below m K T pc L (.long y :: .long x :: st) := by
  obtain ⟨⟨locs, X, -⟩, -, hx, hby, -⟩ := X
  subst q hby
  exact Run.of (fun t k => XS.lsub X.here hx rfl hd rfl k) r
theorem r_lmul (pc' : Nat) (X : Cx p l e R s m args below meth c Z bytes ml own ret mname n0 T h cells slots) {x y : Int64} (hd : decode bytes pc = .ok (.lmul, 1))  (r : Run p e below m K T pc' L (.long (x * y) :: st)) (q : pc + 1 = pc' := by rfl) : Run p e below m K T pc L (.long y :: .long x :: st) := by
  obtain ⟨⟨locs, X, -⟩, -, hx, hby, -⟩ := X
  subst q hby
  exact Run.of (fun t k => XS.lmul X.here hx rfl hd rfl k) r
theorem r_land (pc' : Nat) (X : Cx p l e R s m args below meth c Z bytes ml own ret mname n0 T h cells slots) {x y : Int64} (hd : decode bytes pc = .ok (.land, 1))  (r : Run p e below m K T pc' L (.long (x &&& y) :: st)) (q : pc + 1 = pc' := by rfl) : Run p e below m K T pc L (.long y :: .long x :: st) := by
  obtain ⟨⟨locs, X, -⟩, -, hx, hby, -⟩ := X
  subst q hby
  exact Run.of (fun t k => XS.land X.here hx rfl hd rfl k) r
theorem r_lor (pc' : Nat) (X : Cx p l e R s m args below meth c Z bytes ml own ret mname n0 T h cells slots) {x y : Int64} (hd : decode bytes pc = .ok (.lor, 1))  (r : Run p e below m K T pc' L (.long (x ||| y) :: st)) (q : pc + 1 = pc' := by rfl) : Run p e below m K T pc L (.long y :: .long x :: st) := by
  obtain ⟨⟨locs, X, -⟩, -, hx, hby, -⟩ := X
  subst q hby
  exact Run.of (fun t k => XS.lor X.here hx rfl hd rfl k) r
theorem r_lxor (pc' : Nat) (X : Cx p l e R s m args below meth c Z bytes ml own ret mname n0 T h cells slots) {x y : Int64} (hd : decode bytes pc = .ok (.lxor, 1))  (r : Run p e below m K T pc' L (.long (x ^^^ y) :: st)) (q : pc + 1 = pc' := by rfl) : Run p e below m K T pc L (.long y :: .long x :: st) := by
  obtain ⟨⟨locs, X, -⟩, -, hx, hby, -⟩ := X
  subst q hby
  exact Run.of (fun t k => XS.lxor X.here hx rfl hd rfl k) r
theorem r_lshl (pc' : Nat) (X : Cx p l e R s m args below meth c Z bytes ml own ret mname n0 T h cells slots) {x : Int64} {y : Int32} (hd : decode bytes pc = .ok (.lshl, 1))  (r : Run p e below m K T pc' L (.long (x <<< (y &&& 0x3f).toInt64) :: st)) (q : pc + 1 = pc' := by rfl) : Run p e below m K T pc L (.int y :: .long x :: st) := by
  obtain ⟨⟨locs, X, -⟩, -, hx, hby, -⟩ := X
  subst q hby
  exact Run.of (fun t k => XS.lshl X.here hx rfl hd rfl k) r
theorem r_lshr (pc' : Nat) (X : Cx p l e R s m args below meth c Z bytes ml own ret mname n0 T h cells slots) {x : Int64} {y : Int32} (hd : decode bytes pc = .ok (.lshr, 1))  (r : Run p e below m K T pc' L (.long (x >>> (y &&& 0x3f).toInt64) :: st)) (q : pc + 1 = pc' := by rfl) : Run p e below m K T pc L (.int y :: .long x :: st) := by
  obtain ⟨⟨locs, X, -⟩, -, hx, hby, -⟩ := X
  subst q hby
  exact Run.of (fun t k => XS.lshr X.here hx rfl hd rfl k) r
theorem r_lushr (pc' : Nat) (X : Cx p l e R s m args below meth c Z bytes ml own ret mname n0 T h cells slots) {x : Int64} {y : Int32} (hd : decode bytes pc = .ok (.lushr, 1))  (r : Run p e below m K T pc' L (.long ((x.toUInt64 >>> (y &&& 0x3f).toInt64.toUInt64).toInt64) :: st)) (q : pc + 1 = pc' := by rfl) : Run p e below m K T pc L (.int y :: .long x :: st) := by
  obtain ⟨⟨locs, X, -⟩, -, hx, hby, -⟩ := X
  subst q hby
  exact Run.of (fun t k => XS.lushr X.here hx rfl hd rfl k) r
theorem r_lcmp (pc' : Nat) (X : Cx p l e R s m args below meth c Z bytes ml own ret mname n0 T h cells slots) {x y : Int64} (hd : decode bytes pc = .ok (.lcmp, 1))  (r : Run p e below m K T pc' L (.int (lcmpW x y) :: st)) (q : pc + 1 = pc' := by rfl) : Run p e below m K T pc L (.long y :: .long x :: st) := by
  obtain ⟨⟨locs, X, -⟩, -, hx, hby, -⟩ := X
  subst q hby
  exact Run.of (fun t k => XS.lcmp X.here hx rfl hd rfl k) r
theorem r_idiv (pc' : Nat) (X : Cx p l e R s m args below meth c Z bytes ml own ret mname n0 T h cells slots) {x y : Int32} (hd : decode bytes pc = .ok (.idiv, 1)) (hy : y ≠ 0) (r : Run p e below m K T pc' L (.int (x / y) :: st)) (q : pc + 1 = pc' := by rfl) : Run p e below m K T pc L (.int y :: .int x :: st) := by
  obtain ⟨⟨locs, X, -⟩, -, hx, hby, -⟩ := X
  subst q hby
  exact Run.of (fun t k => XS.idiv X.here hx rfl hd rfl hy k) r
theorem r_ldiv (pc' : Nat) (X : Cx p l e R s m args below meth c Z bytes ml own ret mname n0 T h cells slots) {x y : Int64} (hd : decode bytes pc = .ok (.ldiv, 1)) (hy : y ≠ 0) (r : Run p e below m K T pc' L (.long (x / y) :: st)) (q : pc + 1 = pc' := by rfl) : Run p e below m K T pc L (.long y :: .long x :: st) := by
  obtain ⟨⟨locs, X, -⟩, -, hx, hby, -⟩ := X
  subst q hby
  exact Run.of (fun t k => XS.ldiv X.here hx rfl hd rfl hy k) r
theorem r_irem (pc' : Nat) (X : Cx p l e R s m args below meth c Z bytes ml own ret mname n0 T h cells slots) {x y : Int32} (hd : decode bytes pc = .ok (.irem, 1)) (hy : y ≠ 0) (r : Run p e below m K T pc' L (.int (x % y) :: st)) (q : pc + 1 = pc' := by rfl) : Run p e below m K T pc L (.int y :: .int x :: st) := by
  obtain ⟨⟨locs, X, -⟩, -, hx, hby, -⟩ := X
  subst q hby
  exact Run.of (fun t k => iremM (g := mkF m pc L (.int y :: .int x :: st)) X hx rfl hd rfl hy k) r
theorem r_lrem (pc' : Nat) (X : Cx p l e R s m args below meth c Z bytes ml own ret mname n0 T h cells slots) {x y : Int64} (hd : decode bytes pc = .ok (.lrem, 1)) (hy : y ≠ 0) (r : Run p e below m K T pc' L (.long (x % y) :: st)) (q : pc + 1 = pc' := by rfl) : Run p e below m K T pc L (.long y :: .long x :: st) := by
  obtain ⟨⟨locs, X, -⟩, -, hx, hby, -⟩ := X
  subst q hby
  rw [← lrem_mod x y] at r
  exact Run.of (fun t k => XS.lrem X.here hx rfl hd rfl hy k) r
theorem r_ineg (pc' : Nat) (X : Cx p l e R s m args below meth c Z bytes ml own ret mname n0 T h cells slots) {x : Int32} (hd : decode bytes pc = .ok (.ineg, 1))  (r : Run p e below m K T pc' L (.int (-x) :: st)) (q : pc + 1 = pc' := by rfl) : Run p e below m K T pc L (.int x :: st) := by
  obtain ⟨⟨locs, X, -⟩, -, hx, hby, -⟩ := X
  subst q hby
  exact Run.of (fun t k => XS.ineg X.here hx rfl hd rfl k) r
theorem r_lneg (pc' : Nat) (X : Cx p l e R s m args below meth c Z bytes ml own ret mname n0 T h cells slots) {x : Int64} (hd : decode bytes pc = .ok (.lneg, 1))  (r : Run p e below m K T pc' L (.long (-x) :: st)) (q : pc + 1 = pc' := by rfl) : Run p e below m K T pc L (.long x :: st) := by
  obtain ⟨⟨locs, X, -⟩, -, hx, hby, -⟩ := X
  subst q hby
  exact Run.of (fun t k => XS.lneg X.here hx rfl hd rfl k) r
theorem r_i2l (pc' : Nat) (X : Cx p l e R s m args below meth c Z bytes ml own ret mname n0 T h cells slots) {x : Int32} (hd : decode bytes pc = .ok (.i2l, 1))  (r : Run p e below m K T pc' L (.long (x.toInt64) :: st)) (q : pc + 1 = pc' := by rfl) : Run p e below m K T pc L (.int x :: st) := by
  obtain ⟨⟨locs, X, -⟩, -, hx, hby, -⟩ := X
  subst q hby
  exact Run.of (fun t k => XS.i2l X.here hx rfl hd rfl k) r
theorem r_l2i (pc' : Nat) (X : Cx p l e R s m args below meth c Z bytes ml own ret mname n0 T h cells slots) {x : Int64} (hd : decode bytes pc = .ok (.l2i, 1))  (r : Run p e below m K T pc' L (.int (x.toInt32) :: st)) (q : pc + 1 = pc' := by rfl) : Run p e below m K T pc L (.long x :: st) := by
  obtain ⟨⟨locs, X, -⟩, -, hx, hby, -⟩ := X
  subst q hby
  exact Run.of (fun t k => XS.l2i X.here hx rfl hd rfl k) r
theorem r_i2b (pc' : Nat) (X : Cx p l e R s m args below meth c Z bytes ml own ret mname n0 T h cells slots) {x : Int32} (hd : decode bytes pc = .ok (.i2b, 1))  (r : Run p e below m K T pc' L (.int (x.toInt8.toInt32) :: st)) (q : pc + 1 = pc' := by rfl) : Run p e below m K T pc L (.int x :: st) := by
  obtain ⟨⟨locs, X, -⟩, -, hx, hby, -⟩ := X
  subst q hby
  exact Run.of (fun t k => XS.i2b X.here hx rfl hd rfl k) r
theorem r_i2s (pc' : Nat) (X : Cx p l e R s m args below meth c Z bytes ml own ret mname n0 T h cells slots) {x : Int32} (hd : decode bytes pc = .ok (.i2s, 1))  (r : Run p e below m K T pc' L (.int (x.toInt16.toInt32) :: st)) (q : pc + 1 = pc' := by rfl) : Run p e below m K T pc L (.int x :: st) := by
  obtain ⟨⟨locs, X, -⟩, -, hx, hby, -⟩ := X
  subst q hby
  exact Run.of (fun t k => XS.i2s X.here hx rfl hd rfl k) r
theorem r_i2c (pc' : Nat) (X : Cx p l e R s m args below meth c Z bytes ml own ret mname n0 T h cells slots) {x : Int32} (hd : decode bytes pc = .ok (.i2c, 1))  (r : Run p e below m K T pc' L (.int (x.toUInt32.toUInt16.toUInt32.toInt32) :: st)) (q : pc + 1 = pc' := by rfl) : Run p e below m K T pc L (.int x :: st) := by
  obtain ⟨⟨locs, X, -⟩, -, hx, hby, -⟩ := X
  subst q hby
  exact Run.of (fun t k => XS.i2c X.here hx rfl hd rfl k) r
theorem r_iinc (pc' : Nat) (X : Cx p l e R s m args below meth c Z bytes ml own ret mname n0 T h cells slots) {k : Nat} {cst : Int} {x : Int32} (z : Int32) (L' : Array Slot) (hd : decode bytes pc = .ok (.iinc k cst, 3)) (hl : L[k]? = some (.val (.int x))) (hz : Int32.ofInt cst = z) (hl' : storeLocals L k (.int (x + z)) = some L') (r : Run p e below m K T pc' L' st) (q : pc + 3 = pc' := by rfl) : Run p e below m K T pc L st := by
  obtain ⟨⟨locs, X, -⟩, -, hx, hby, -⟩ := X
  subst q hby
  exact Run.of (fun t k => XS.iinc X.here hx rfl hd hl (hz.symm ▸ hl') k) r
theorem r_dup (pc' : Nat) (X : Cx p l e R s m args below meth c Z bytes ml own ret mname n0 T h cells slots) {x : Value} (hd : decode bytes pc = .ok (.dup, 1)) (hc : x.category = 1) (r : Run p e below m K T pc' L (x :: x :: st)) (q : pc + 1 = pc' := by rfl) : Run p e below m K T pc L (x :: st) := by
  obtain ⟨⟨locs, X, -⟩, -, hx, hby, -⟩ := X
  subst q hby
  exact Run.of (fun t k => XS.dup X.here hx rfl hd rfl hc k) r
theorem r_pop (pc' : Nat) (X : Cx p l e R s m args below meth c Z bytes ml own ret mname n0 T h cells slots) {x : Value} (hd : decode bytes pc = .ok (.pop, 1)) (hc : x.category = 1) (r : Run p e below m K T pc' L st) (q : pc + 1 = pc' := by rfl) : Run p e below m K T pc L (x :: st) := by
  obtain ⟨⟨locs, X, -⟩, -, hx, hby, -⟩ := X
  subst q hby
  exact Run.of (fun t k => XS.pop X.here hx rfl hd rfl hc k) r
theorem r_swap (pc' : Nat) (X : Cx p l e R s m args below meth c Z bytes ml own ret mname n0 T h cells slots) {x y : Value} (hd : decode bytes pc = .ok (.swap, 1)) (hc : x.category = 1) (hc2 : y.category = 1) (r : Run p e below m K T pc' L (y :: x :: st)) (q : pc + 1 = pc' := by rfl) : Run p e below m K T pc L (x :: y :: st) := by
  obtain ⟨⟨locs, X, -⟩, -, hx, hby, -⟩ := X
  subst q hby
  exact Run.of (fun t k => XS.swap X.here hx rfl hd rfl hc hc2 k) r
theorem r_dup_x1 (pc' : Nat) (X : Cx p l e R s m args below meth c Z bytes ml own ret mname n0 T h cells slots) {x y : Value} (hd : decode bytes pc = .ok (.dup_x1, 1)) (hc : x.category = 1) (hc2 : y.category = 1) (r : Run p e below m K T pc' L (x :: y :: x :: st)) (q : pc + 1 = pc' := by rfl) : Run p e below m K T pc L (x :: y :: st) := by
  obtain ⟨⟨locs, X, -⟩, -, hx, hby, -⟩ := X
  subst q hby
  exact Run.of (fun t k => XS.dupX1 X.here hx rfl hd rfl hc hc2 k) r
theorem r_dup2_2 (pc' : Nat) (X : Cx p l e R s m args below meth c Z bytes ml own ret mname n0 T h cells slots) {x y : Value} (hd : decode bytes pc = .ok (.dup2, 1)) (hc : x.category = 1) (hc2 : y.category = 1) (r : Run p e below m K T pc' L (x :: y :: x :: y :: st)) (q : pc + 1 = pc' := by rfl) : Run p e below m K T pc L (x :: y :: st) := by
  obtain ⟨⟨locs, X, -⟩, -, hx, hby, -⟩ := X
  subst q hby
  refine Run.of (fun t k => ?_) r
  jvm_step X.here [X.here.top, hx, hd, hc, hc2]
  exact k
theorem r_dup2_1 (pc' : Nat) (X : Cx p l e R s m args below meth c Z bytes ml own ret mname n0 T h cells slots) {x : Value} (hd : decode bytes pc = .ok (.dup2, 1)) (hc : x.category = 2) (r : Run p e below m K T pc' L (x :: x :: st)) (q : pc + 1 = pc' := by rfl) : Run p e below m K T pc L (x :: st) := by
  obtain ⟨⟨locs, X, -⟩, -, hx, hby, -⟩ := X
  subst q hby
  refine Run.of (fun t k => ?_) r
  jvm_step X.here [X.here.top, hx, hd, hc]
  exact k
theorem r_dup_x2_111 (pc' : Nat) (X : Cx p l e R s m args below meth c Z bytes ml own ret mname n0 T h cells slots) {x y z : Value} (hd : decode bytes pc = .ok (.dup_x2, 1)) (hc : x.category = 1) (hc2 : y.category = 1) (hc3 : z.category = 1) (r : Run p e below m K T pc' L (x :: y :: z :: x :: st)) (q : pc + 1 = pc' := by rfl) : Run p e below m K T pc L (x :: y :: z :: st) := by
  obtain ⟨⟨locs, X, -⟩, -, hx, hby, -⟩ := X
  subst q hby
  refine Run.of (fun t k => ?_) r
  jvm_step X.here [X.here.top, hx, hd, hc, hc2, hc3]
  exact k
theorem r_dup2_x1_2 (pc' : Nat) (X : Cx p l e R s m args below meth c Z bytes ml own ret mname n0 T h cells slots) {x y : Value} (hd : decode bytes pc = .ok (.dup2_x1, 1)) (hc : x.category = 2) (hc2 : y.category = 1) (r : Run p e below m K T pc' L (x :: y :: x :: st)) (q : pc + 1 = pc' := by rfl) : Run p e below m K T pc L (x :: y :: st) := by
  obtain ⟨⟨locs, X, -⟩, -, hx, hby, -⟩ := X
  subst q hby
  refine Run.of (fun t k => ?_) r
  jvm_step X.here [X.here.top, hx, hd, hc, hc2]
  exact k
theorem r_dup2_x2_2 (pc' : Nat) (X : Cx p l e R s m args below meth c Z bytes ml own ret mname n0 T h cells slots) {x y z : Value} (hd : decode bytes pc = .ok (.dup2_x2, 1)) (hc : x.category = 2) (hc2 : y.category = 1) (hc3 : z.category = 1) (r : Run p e below m K T pc' L (x :: y :: z :: x :: st)) (q : pc + 1 = pc' := by rfl) : Run p e below m K T pc L (x :: y :: z :: st) := by
  obtain ⟨⟨locs, X, -⟩, -, hx, hby, -⟩ := X
  subst q hby
  refine Run.of (fun t k => ?_) r
  jvm_step X.here [X.here.top, hx, hd, hc, hc2, hc3]
  exact k
theorem r_pop2_1 (pc' : Nat) (X : Cx p l e R s m args below meth c Z bytes ml own ret mname n0 T h cells slots) {x : Value} (hd : decode bytes pc = .ok (.pop2, 1)) (hc : x.category = 2) (r : Run p e below m K T pc' L st) (q : pc + 1 = pc' := by rfl) : Run p e below m K T pc L (x :: st) := by
  obtain ⟨⟨locs, X, -⟩, -, hx, hby, -⟩ := X
  subst q hby
  refine Run.of (fun t k => ?_) r
  jvm_step X.here [X.here.top, hx, hd, hc]
  exact k
theorem r_goto (pc' : Nat) (X : Cx p l e R s m args below meth c Z bytes ml own ret mname n0 T h cells slots) {o : Int} (hd : decode bytes pc = .ok (.goto o, 3)) (r : Run p e below m K T pc' L st) (ho : 0 ≤ (pc : Int) + o := by decide) (hp : ((pc : Int) + o).toNat = pc' := by decide) : Run p e below m K T pc L st := by
  obtain ⟨⟨locs, X, -⟩, -, hx, hby, -⟩ := X
  subst hby
  exact Run.of (fun t k => XS.goto X.here hx rfl (pc0 := pc) (pc' := pc') rfl hd ho hp k) r
theorem r_ifY (pc' : Nat) (X : Cx p l e R s m args below meth c Z bytes ml own ret mname n0 T h cells slots) {cd : ClassFile.Cond} {o : Int} {x : Int32} (hd : decode bytes pc = .ok (.ifCond cd o, 3)) (hc : ifCond.holds cd x = true) (r : Run p e below m K T pc' L st) (ho : 0 ≤ (pc : Int) + o := by decide) (hp : ((pc : Int) + o).toNat = pc' := by decide) : Run p e below m K T pc L (.int x :: st) := by
  obtain ⟨⟨locs, X, -⟩, -, hx, hby, -⟩ := X
  subst hby
  exact Run.of (fun t k => XS.ifYes X.here hx rfl (pc0 := pc) (pc' := pc') rfl hd rfl hc ho hp k) r
theorem r_ifN (pc' : Nat) (X : Cx p l e R s m args below meth c Z bytes ml own ret mname n0 T h cells slots) {cd : ClassFile.Cond} {o : Int} {x : Int32} (hd : decode bytes pc = .ok (.ifCond cd o, 3)) (hc : ifCond.holds cd x = false) (r : Run p e below m K T pc' L st) (q : pc + 3 = pc' := by rfl) : Run p e below m K T pc L (.int x :: st) := by
  obtain ⟨⟨locs, X, -⟩, -, hx, hby, -⟩ := X
  subst q hby
  exact Run.of (fun t k => XS.ifNo X.here hx rfl hd rfl hc k) r
theorem r_icmpY (pc' : Nat) (X : Cx p l e R s m args below meth c Z bytes ml own ret mname n0 T h cells slots) {cd : ClassFile.Cond} {o : Int} {x y : Int32} (hd : decode bytes pc = .ok (.if_icmp cd o, 3)) (hc : if_icmp.holds cd x y = true) (r : Run p e below m K T pc' L st) (ho : 0 ≤ (pc : Int) + o := by decide) (hp : ((pc : Int) + o).toNat = pc' := by decide) : Run p e below m K T pc L (.int y :: .int x :: st) := by
  obtain ⟨⟨locs, X, -⟩, -, hx, hby, -⟩ := X
  subst hby
  exact Run.of (fun t k => XS.icmpYes X.here hx rfl (pc0 := pc) (pc' := pc') rfl hd rfl hc ho hp k) r
theorem r_icmpN (pc' : Nat) (X : Cx p l e R s m args below meth c Z bytes ml own ret mname n0 T h cells slots) {cd : ClassFile.Cond} {o : Int} {x y : Int32} (hd : decode bytes pc = .ok (.if_icmp cd o, 3)) (hc : if_icmp.holds cd x y = false) (r : Run p e below m K T pc' L st) (q : pc + 3 = pc' := by rfl) : Run p e below m K T pc L (.int y :: .int x :: st) := by
  obtain ⟨⟨locs, X, -⟩, -, hx, hby, -⟩ := X
  subst q hby
  exact Run.of (fun t k => XS.icmpNo X.here hx rfl hd rfl hc k) r
theorem r_ifnullY (pc' : Nat) (X : Cx p l e R s m args below meth c Z bytes ml own ret mname n0 T h cells slots) {o : Int}  (hd : decode bytes pc = .ok (.ifnull o, 3)) (r : Run p e below m K T pc' L st) (ho : 0 ≤ (pc : Int) + o := by decide) (hp : ((pc : Int) + o).toNat = pc' := by decide) : Run p e below m K T pc L (.null :: st) := by
  obtain ⟨⟨locs, X, -⟩, -, hx, hby, -⟩ := X
  subst hby
  exact Run.of (fun t k => XS.ifnullYes X.here hx rfl (pc0 := pc) (pc' := pc') rfl hd rfl ho hp k) r
theorem r_ifnullN (pc' : Nat) (X : Cx p l e R s m args below meth c Z bytes ml own ret mname n0 T h cells slots) {o : Int} {b : Addr} (hd : decode bytes pc = .ok (.ifnull o, 3)) (r : Run p e below m K T pc' L st) (q : pc + 3 = pc' := by rfl) : Run p e below m K T pc L (.ref b :: st) := by
  obtain ⟨⟨locs, X, -⟩, -, hx, hby, -⟩ := X
  subst q hby
  exact Run.of (fun t k => XS.ifnullNo X.here hx rfl hd rfl k) r
theorem r_ifnonnullY (pc' : Nat) (X : Cx p l e R s m args below meth c Z bytes ml own ret mname n0 T h cells slots) {o : Int} {b : Addr} (hd : decode bytes pc = .ok (.ifnonnull o, 3)) (r : Run p e below m K T pc' L st) (ho : 0 ≤ (pc : Int) + o := by decide) (hp : ((pc : Int) + o).toNat = pc' := by decide) : Run p e below m K T pc L (.ref b :: st) := by
  obtain ⟨⟨locs, X, -⟩, -, hx, hby, -⟩ := X
  subst hby
  exact Run.of (fun t k => XS.ifnonnullYes X.here hx rfl (pc0 := pc) (pc' := pc') rfl hd rfl ho hp k) r
theorem r_ifnonnullN (pc' : Nat) (X : Cx p l e R s m args below meth c Z bytes ml own ret mname n0 T h cells slots) {o : Int}  (hd : decode bytes pc = .ok (.ifnonnull o, 3)) (r : Run p e below m K T pc' L st) (q : pc + 3 = pc' := by rfl) : Run p e below m K T pc L (.null :: st) := by
  obtain ⟨⟨locs, X, -⟩, -, hx, hby, -⟩ := X
  subst q hby
  exact Run.of (fun t k => XS.ifnonnullNo X.here hx rfl hd rfl k) r
theorem r_acmpY (pc' : Nat) (X : Cx p l e R s m args below meth c Z bytes ml own ret mname n0 T h cells slots) {cd : ACond} {o : Int} {a b : Addr} (hd : decode bytes pc = .ok (.if_acmp cd o, 3)) (hc : if_acmp.holds cd (some a) (some b) = true) (r : Run p e below m K T pc' L st) (ho : 0 ≤ (pc : Int) + o := by decide) (hp : ((pc : Int) + o).toNat = pc' := by decide) : Run p e below m K T pc L (.ref b :: .ref a :: st) := by
  obtain ⟨⟨locs, X, -⟩, -, hx, hby, -⟩ := X
  subst hby
  exact Run.of (fun t k => XS.acmpYes X.here hx rfl (pc0 := pc) (pc' := pc') rfl hd rfl hc ho hp k) r
theorem r_acmpN (pc' : Nat) (X : Cx p l e R s m args below meth c Z bytes ml own ret mname n0 T h cells slots) {cd : ACond} {o : Int} {a b : Addr} (hd : decode bytes pc = .ok (.if_acmp cd o, 3)) (hc : if_acmp.holds cd (some a) (some b) = false) (r : Run p e below m K T pc' L st) (q : pc + 3 = pc' := by rfl) : Run p e below m K T pc L (.ref b :: .ref a :: st) := by
  obtain ⟨⟨locs, X, -⟩, -, hx, hby, -⟩ := X
  subst q hby
  exact Run.of (fun t k => XS.acmpNo X.here hx rfl hd rfl hc k) r
theorem r_ldcInt (pc' : Nat) (X : Cx p l e R s m args below meth c Z bytes ml own ret mname n0 T h cells slots) {a0 : Array Value} {i : Nat} {z : Int32} (w : (Jvm.Cond.constant own i z).before a0 Z = true) (hd : decode bytes pc = .ok (.ldc i, 2)) (r : Run p e below m K T pc' L (.int z :: st)) (q : pc + 2 = pc' := by rfl) : Run p e below m K T pc L st := by
  obtain ⟨⟨locs, X, -⟩, -, hx, hby, -, hZ, hown, -⟩ := X
  subst q hby
  exact Run.of (fun t k => X.ldcInt hx hown (mvT hZ w) (g := mkF m pc L st) rfl hd _ k) r
theorem r_ldcwInt (pc' : Nat) (X : Cx p l e R s m args below meth c Z bytes ml own ret mname n0 T h cells slots) {a0 : Array Value} {i : Nat} {z : Int32} (w : (Jvm.Cond.constant own i z).before a0 Z = true) (hd : decode bytes pc = .ok (.ldc_w i, 3)) (r : Run p e below m K T pc' L (.int z :: st)) (q : pc + 3 = pc' := by rfl) : Run p e below m K T pc L st := by
  obtain ⟨⟨locs, X, -⟩, -, hx, hby, -, hZ, hown, -⟩ := X
  subst q hby
  exact Run.of (fun t k => X.ldcwInt hx hown (mvT hZ w) (g := mkF m pc L st) rfl hd _ k) r
theorem r_ldc2Long (pc' : Nat) (X : Cx p l e R s m args below meth c Z bytes ml own ret mname n0 T h cells slots) {a0 : Array Value} {i : Nat} {z : Int64} (w : (Jvm.Cond.constantLong own i z).before a0 Z = true) (hd : decode bytes pc = .ok (.ldc2_w i, 3)) (r : Run p e below m K T pc' L (.long z :: st)) (q : pc + 3 = pc' := by rfl) : Run p e below m K T pc L st := by
  obtain ⟨⟨locs, X, -⟩, -, hx, hby, -, hZ, hown, -⟩ := X
  subst q hby
  exact Run.of (fun t k => X.ldc2Long hx hown (mvT hZ w) (g := mkF m pc L st) rfl hd _ k) r
theorem r_getfield (pc' : Nat) (X : Cx p l e R s m args below meth c Z bytes ml own ret mname n0 T h cells slots) {a0 : Array Value} {R0 O n d host : String} {index : Nat} (w : (Jvm.Cond.fieldLink own index R0 n d).before a0 Z = true ∨ (Jvm.Cond.fieldLinkNest own index R0 n d host).before a0 Z = true) (via : Via Z R0 O n d) {a : Addr} {v : Value} (F : Fld Z h a O n d v) (hd : decode bytes pc = .ok (.getfield index, 3)) (r : ∀ T', Cx p l e R s m args below meth c Z bytes ml own ret mname n0 T' h cells slots → Run p e below m K T' pc' L (v :: st)) (q : pc + 3 = pc' := by rfl) : Run p e below m K T pc L (.ref a :: st) := by
  obtain ⟨⟨locs, X, N⟩, e0, hx, hby, hml, hZ, hown, r1⟩ := X
  subst q
  obtain ⟨T', X', e', stp⟩ := getF X hx hZ hown w via e0 F (g := mkF m pc L (.ref a :: st)) rfl rfl (hb hby hd)
  exact Run.of stp (r T' ⟨⟨locs, X', N⟩, e', hx, hby, hml, hZ, hown, r1⟩)
theorem r_getstatic (pc' : Nat) (X : Cx p l e R s m args below meth c Z bytes ml own ret mname n0 T h cells slots) {a0 : Array Value} {R0 O n d host : String} {index : Nat} (w : (Jvm.Cond.fieldLink own index R0 n d).before a0 Z = true ∨ (Jvm.Cond.fieldLinkNest own index R0 n d host).before a0 Z = true) (via : Via Z R0 O n d) {v : Value} (F : Sta Z h O n d v) (hd : decode bytes pc = .ok (.getstatic index, 3)) (r : ∀ T', Cx p l e R s m args below meth c Z bytes ml own ret mname n0 T' h cells slots → Run p e below m K T' pc' L (v :: st)) (q : pc + 3 = pc' := by rfl) : Run p e below m K T pc L st := by
  obtain ⟨⟨locs, X, N⟩, e0, hx, hby, hml, hZ, hown, r1⟩ := X
  subst q
  obtain ⟨T', X', e', stp⟩ := getS2 X hx hZ hown w via e0 F (g := mkF m pc L st) rfl (hb hby hd)
  exact Run.of stp (r T' ⟨⟨locs, X', N⟩, e', hx, hby, hml, hZ, hown, r1⟩)
theorem r_putfield (pc' : Nat) (X : Cx p l e R s m args below meth c Z bytes ml own ret mname n0 T h cells slots) {a0 : Array Value} {R0 O n d host C : String} {index kk : Nat} {ty : FieldType} (w : (Jvm.Cond.fieldLink own index R0 n d).before a0 Z = true ∨ (Jvm.Cond.fieldLinkNest own index R0 n d host).before a0 Z = true) (via : Via Z R0 O n d) {a : Addr} {v old : Value} (F : Fld Z h a O n d old) (E : Exa Z h a C) (Lw : (Jvm.Cond.lays C O n d).before a0 Z = true ∨ ((Jvm.Cond.laysFinal C O n d).before a0 Z = true ∧ own = O ∧ mname = "<init>")) (wi : (Jvm.Cond.instantiable C kk).before a0 Z = true) (hty : parseFieldDescriptor d = some ty) (hn : narrow ty v = v) (hf : fits ty v = true) (ga : n0 ≤ a) (hd : decode bytes pc = .ok (.putfield index, 3)) (r : ∀ T' h', Wr h h' a (Jvm.RoadKit.slotOf Z O n d) v → Cx p l e R s m args below meth c Z bytes ml own ret mname n0 T' h' cells slots → Run p e below m K T' pc' L st) (q : pc + 3 = pc' := by rfl) : Run p e below m K T pc L (v :: .ref a :: st) := by
  obtain ⟨⟨locs, X, N⟩, e0, hx, hby, hml, hZ, hown, hret, hnm, hlk, hsz⟩ := X
  subst q
  obtain ⟨T', h', X', e', W', stp⟩ := putF X hx hZ hown w via e0 F E (Lw.imp id fun q => ⟨q.1, q.2.1, hnm.trans q.2.2⟩) wi hty hn hf (g := mkF m pc L (v :: .ref a :: st)) rfl rfl (hb hby hd)
  exact Run.of stp (r T' h' W' ⟨⟨_, X', Fr.snoc X' N ga⟩, e', hx, hby, hml, hZ, hown, hret, hnm, hlk, by rw [W'.size]; exact hsz⟩)
theorem r_putfieldN (pc' : Nat) (X : Cx p l e R s m args below meth c Z bytes ml own ret mname n0 T h cells slots) {a0 : Array Value} {R0 O n d C : String} {index kk : Nat} {ty : FieldType} (w : (Jvm.Cond.fieldLink own index R0 n d).before a0 Z = true) (via : Via Z R0 O n d) {a : Addr} {v v' old : Value} (F : Fld Z h a O n d old) (E : Exa Z h a C) (Lw : (Jvm.Cond.lays C O n d).before a0 Z = true ∨ ((Jvm.Cond.laysFinal C O n d).before a0 Z = true ∧ own = O ∧ mname = "<init>")) (wi : (Jvm.Cond.instantiable C kk).before a0 Z = true) (hty : parseFieldDescriptor d = some ty) (hn : narrow ty v = v') (hf : fits ty v' = true) (ga : n0 ≤ a) (hd : decode bytes pc = .ok (.putfield index, 3)) (r : ∀ T' h', Wr h h' a (Jvm.RoadKit.slotOf Z O n d) v' → Cx p l e R s m args below meth c Z bytes ml own ret mname n0 T' h' cells slots → Run p e below m K T' pc' L st) (q : pc + 3 = pc' := by rfl) : Run p e below m K T pc L (v :: .ref a :: st) := by
  obtain ⟨⟨locs, X, N⟩, e0, hx, hby, hml, hZ, hown, hret, hnm, hlk, hsz⟩ := X
  subst q
  obtain ⟨T', h', X', e', W', stp⟩ := putFN X hx hZ hown w via e0 F E (Lw.imp id fun q => ⟨q.1, q.2.1, hnm.trans q.2.2⟩) wi hty hn hf (g := mkF m pc L (v :: .ref a :: st)) rfl rfl (hb hby hd)
  exact Run.of stp (r T' h' W' ⟨⟨_, X', Fr.snoc X' N ga⟩, e', hx, hby, hml, hZ, hown, hret, hnm, hlk, by rw [W'.size]; exact hsz⟩)
theorem r_new (pc' : Nat) (X : Cx p l e R s m args below meth c Z bytes ml own ret mname n0 T h cells slots) {a0 : Array Value} {C : String} {index n : Nat} (w : (Jvm.Cond.classLink own index C).before a0 Z = true) (wi : (Jvm.Cond.instantiable C n).before a0 Z = true) (wz : (Jvm.Cond.initialized C).before a0 Z = true) (hd : decode bytes pc = .ok (.new index, 3)) (hc : cells + 1 ≤ R.cells) (hl : slots + n ≤ R.slots) (r : ∀ T' h' b, b = h.size → n0 ≤ b → Ext h h' → Exa Z h' b C → (∀ {O nm d : String} {ty : FieldType}, Laid Z a0 C O nm d → parseFieldDescriptor d = some ty → Fld Z h' b O nm d (defaultValue ty)) → Cx p l e R s m args below meth c Z bytes ml own ret mname n0 T' h' (cells + 1) (slots + n) → Run p e below m K T' pc' L (.ref b :: st)) (q : pc + 3 = pc' := by rfl) : Run p e below m K T pc L st := by
  obtain ⟨⟨locs, X, N⟩, e0, hx, hby, hml, hZ, hown, hret, hnm, hlk, hsz⟩ := X
  subst q
  obtain ⟨T', h', X', e', E', A', D', -, stp⟩ := newO X hx hZ hown w wi wz e0 (g := mkF m pc L st) rfl (hb hby hd) hc hl
  exact Run.of stp (r T' h' h.size rfl hsz E' A' D' ⟨⟨_, X', N⟩, e', hx, hby, hml, hZ, hown, hret, hnm, hlk, Nat.le_trans hsz E'.1⟩)
theorem r_newarray (pc' : Nat) (X : Cx p l e R s m args below meth c Z bytes ml own ret mname n0 T h cells slots) {a0 : Array Value} {aty : ArrayType} {z : Int32} (n cap : Nat) (w : (Jvm.Cond.arrayClass (newarray.typeOf aty)).before a0 Z = true) (hd : decode bytes pc = .ok (.newarray aty, 2)) (hz : z.toInt = (n : Int)) (hcap : n ≤ cap) (hb8 : cap * 8 ≤ 536870912) (hc : cells + 1 ≤ R.cells) (hl : slots + cap ≤ R.slots) (r : ∀ T' h' b, b = h.size → n0 ≤ b → Ext h h' → AF Z h' b (newarray.typeOf aty) n (fun _ => defaultValue (newarray.typeOf aty)) → Cx p l e R s m args below meth c Z bytes ml own ret mname n0 T' h' (cells + 1) (slots + cap) → Run p e below m K T' pc' L (.ref b :: st)) (q : pc + 2 = pc' := by rfl) : Run p e below m K T pc L (.int z :: st) := by
  obtain ⟨⟨locs, X, N⟩, e0, hx, hby, hml, hZ, hown, hret, hnm, hlk, hsz⟩ := X
  subst q
  have hz0 : ¬ z < 0 := by rw [Int32.lt_iff_toInt_lt]; have : (0 : Int32).toInt = 0 := rfl; omega
  have hzn : z.toNatClampNeg = n := by show z.toInt.toNat = n; omega
  have hzl := z.toInt_lt
  obtain ⟨T', h', cA, X', e', E', A', stp⟩ := newP X hx hZ w e0 (g := mkF m pc L (.int z :: st)) rfl (hb hby hd) rfl hz0 (cap := cap) (by rw [hzn]; exact hcap) hb8 hc hl
  refine Run.of stp (r T' h' h.size rfl hsz E' ⟨_, A', by rw [sz_new, hzn], by omega, fun j hj => ?_⟩ ⟨⟨_, X', N⟩, e', hx, hby, hml, hZ, hown, hret, hnm, hlk, Nat.le_trans hsz E'.1⟩)
  simp [newA, hzn, hj]
theorem r_arraylength (pc' : Nat) (X : Cx p l e R s m args below meth c Z bytes ml own ret mname n0 T h cells slots) {a : Addr} {ty : FieldType} {n : Nat} {f : Nat → Value} (A : AF Z h a ty n f) (z : Int32) (hz : z.toInt = (n : Int)) (hd : decode bytes pc = .ok (.arraylength, 1)) (r : Run p e below m K T pc' L (.int z :: st)) (q : pc + 1 = pc' := by rfl) : Run p e below m K T pc L (.ref a :: st) := by
  obtain ⟨⟨locs, X, N⟩, e0, hx, hby, hml, hZ, hown, r1⟩ := X
  subst q hby
  obtain ⟨cl, A, S, q, -⟩ := A
  have ez : cl.slots.size.toInt32 = z := by rw [S]; apply Int32.toInt_inj.mp; rw [hz]; exact len_toInt q
  rw [← ez] at r
  exact Run.of (fun t k => X.arraylength hx (by rw [e0]; exact A.1) (State.isArrayOf_alike hZ.alike A.2.1) (g := mkF m pc L (.ref a :: st)) rfl rfl hd _ k) r
theorem r_iaload (pc' : Nat) (X : Cx p l e R s m args below meth c Z bytes ml own ret mname n0 T h cells slots) {a : Addr} {n : Nat} {f : Nat → Value} (A : AF Z h a .int n f) {j : Int32} {i : Nat} {v : Value} (hj : j.toInt = (i : Int)) (hi : i < n) (hv : f i = v) (hd : decode bytes pc = .ok (.iaload, 1)) (r : Run p e below m K T pc' L (v :: st)) (q : pc + 1 = pc' := by rfl) : Run p e below m K T pc L (.int j :: .ref a :: st) := by
  obtain ⟨⟨locs, X, N⟩, e0, hx, hby, hml, hZ, hown, r1⟩ := X
  subst q hby
  obtain ⟨cl, A, S, -, H⟩ := A
  obtain ⟨h1, h2⟩ := idx_of hj (S ▸ hi)
  exact Run.of (fun t k => X.iaload hx (j := j) (v := v) (by rw [e0]; exact A.1) (State.isArrayOf_alike hZ.alike A.2.1) A.2.2 h1 (by rw [h2, H i hi, hv]) (g := mkF m pc L (.int j :: .ref a :: st)) rfl rfl hd _ k) r
theorem r_laload (pc' : Nat) (X : Cx p l e R s m args below meth c Z bytes ml own ret mname n0 T h cells slots) {a : Addr} {n : Nat} {f : Nat → Value} (A : AF Z h a .long n f) {j : Int32} {i : Nat} {v : Value} (hj : j.toInt = (i : Int)) (hi : i < n) (hv : f i = v) (hd : decode bytes pc = .ok (.laload, 1)) (r : Run p e below m K T pc' L (v :: st)) (q : pc + 1 = pc' := by rfl) : Run p e below m K T pc L (.int j :: .ref a :: st) := by
  obtain ⟨⟨locs, X, N⟩, e0, hx, hby, hml, hZ, hown, r1⟩ := X
  subst q hby
  obtain ⟨cl, A, S, -, H⟩ := A
  obtain ⟨h1, h2⟩ := idx_of hj (S ▸ hi)
  exact Run.of (fun t k => X.laload hx (j := j) (v := v) (by rw [e0]; exact A.1) (State.isArrayOf_alike hZ.alike A.2.1) A.2.2 h1 (by rw [h2, H i hi, hv]) (g := mkF m pc L (.int j :: .ref a :: st)) rfl rfl hd _ k) r
theorem r_caload (pc' : Nat) (X : Cx p l e R s m args below meth c Z bytes ml own ret mname n0 T h cells slots) {a : Addr} {n : Nat} {f : Nat → Value} (A : AF Z h a .char n f) {j : Int32} {i : Nat} {v : Value} (hj : j.toInt = (i : Int)) (hi : i < n) (hv : f i = v) (hd : decode bytes pc = .ok (.caload, 1)) (r : Run p e below m K T pc' L (v :: st)) (q : pc + 1 = pc' := by rfl) : Run p e below m K T pc L (.int j :: .ref a :: st) := by
  obtain ⟨⟨locs, X, N⟩, e0, hx, hby, hml, hZ, hown, r1⟩ := X
  subst q hby
  obtain ⟨cl, A, S, -, H⟩ := A
  obtain ⟨h1, h2⟩ := idx_of hj (S ▸ hi)
  exact Run.of (fun t k => X.caload hx (j := j) (v := v) (by rw [e0]; exact A.1) (State.isArrayOf_alike hZ.alike A.2.1) A.2.2 h1 (by rw [h2, H i hi, hv]) (g := mkF m pc L (.int j :: .ref a :: st)) rfl rfl hd _ k) r
theorem r_baloadB (pc' : Nat) (X : Cx p l e R s m args below meth c Z bytes ml own ret mname n0 T h cells slots) {a : Addr} {n : Nat} {f : Nat → Value} (A : AF Z h a .byte n f) {j : Int32} {i : Nat} {v : Value} (hj : j.toInt = (i : Int)) (hi : i < n) (hv : f i = v) (hd : decode bytes pc = .ok (.baload, 1)) (r : Run p e below m K T pc' L (v :: st)) (q : pc + 1 = pc' := by rfl) : Run p e below m K T pc L (.int j :: .ref a :: st) := by
  obtain ⟨⟨locs, X, N⟩, e0, hx, hby, hml, hZ, hown, r1⟩ := X
  subst q hby
  obtain ⟨cl, A, S, -, H⟩ := A
  obtain ⟨h1, h2⟩ := idx_of hj (S ▸ hi)
  exact Run.of (fun t k => X.baloadBytes hx (j := j) (v := v) (by rw [e0]; exact A.1) (State.isArrayOf_alike hZ.alike A.2.1) A.2.2 h1 (by rw [h2, H i hi, hv]) (g := mkF m pc L (.int j :: .ref a :: st)) rfl rfl hd _ k) r
theorem r_baloadZ (pc' : Nat) (X : Cx p l e R s m args below meth c Z bytes ml own ret mname n0 T h cells slots) {a : Addr} {n : Nat} {f : Nat → Value} (A : AF Z h a .boolean n f) {j : Int32} {i : Nat} {v : Value} (hj : j.toInt = (i : Int)) (hi : i < n) (hv : f i = v) (hd : decode bytes pc = .ok (.baload, 1)) (r : Run p e below m K T pc' L (v :: st)) (q : pc + 1 = pc' := by rfl) : Run p e below m K T pc L (.int j :: .ref a :: st) := by
  obtain ⟨⟨locs, X, N⟩, e0, hx, hby, hml, hZ, hown, r1⟩ := X
  subst q hby
  obtain ⟨cl, A, S, -, H⟩ := A
  obtain ⟨h1, h2⟩ := idx_of hj (S ▸ hi)
  exact Run.of (fun t k => X.baloadBooleans hx (j := j) (v := v) (by rw [e0]; exact A.1) (State.isArrayOf_alike hZ.alike A.2.1) A.2.2 h1 (by rw [h2, H i hi, hv]) (g := mkF m pc L (.int j :: .ref a :: st)) rfl rfl hd _ k) r
theorem r_daload (pc' : Nat) (X : Cx p l e R s m args below meth c Z bytes ml own ret mname n0 T h cells slots) {a : Addr} {n : Nat} {f : Nat → Value} (A : AF Z h a .double n f) {j : Int32} {i : Nat} {v : Value} (hj : j.toInt = (i : Int)) (hi : i < n) (hv : f i = v) (hd : decode bytes pc = .ok (.daload, 1)) (r : Run p e below m K T pc' L (v :: st)) (q : pc + 1 = pc' := by rfl) : Run p e below m K T pc L (.int j :: .ref a :: st) := by
  obtain ⟨⟨locs, X, N⟩, e0, hx, hby, hml, hZ, hown, r1⟩ := X
  subst q hby
  obtain ⟨cl, A, S, -, H⟩ := A
  obtain ⟨h1, h2⟩ := idx_of hj (S ▸ hi)
  exact Run.of (fun t k => X.daload hx (j := j) (v := v) (by rw [e0]; exact A.1) (State.isArrayOf_alike hZ.alike A.2.1) A.2.2 h1 (by rw [h2, H i hi, hv]) (g := mkF m pc L (.int j :: .ref a :: st)) rfl rfl hd _ k) r
theorem r_iastore (pc' : Nat) (X : Cx p l e R s m args below meth c Z bytes ml own ret mname n0 T h cells slots) {a : Addr} {n : Nat} {f : Nat → Value} (A : AF Z h a .int n f) {j : Int32} {i : Nat} {x : Int32} {v : Value} (hj : j.toInt = (i : Int)) (hi : i < n) (hv : (.int x) = v) (ga : n0 ≤ a) (hd : decode bytes pc = .ok (.iastore, 1)) (r : ∀ T' h', Wr h h' a i v → Cx p l e R s m args below meth c Z bytes ml own ret mname n0 T' h' cells slots → Run p e below m K T' pc' L st) (q : pc + 1 = pc' := by rfl) : Run p e below m K T pc L ((.int x) :: .int j :: .ref a :: st) := by
  obtain ⟨⟨locs, X, N⟩, e0, hx, hby, hml, hZ, hown, hret, hnm, hlk, hsz⟩ := X
  subst q hv
  obtain ⟨cl, A, S, -, H⟩ := A
  obtain ⟨h1, h2⟩ := idx_of hj (S ▸ hi)
  obtain ⟨T', h', X', e', W', stp⟩ := stI X hx hZ e0 A (j := j) h1 (g := mkF m pc L ((.int x) :: .int j :: .ref a :: st)) rfl rfl (hb hby hd)
  exact Run.of stp (r T' h' (h2 ▸ W') ⟨⟨_, X', Fr.snoc X' N ga⟩, e', hx, hby, hml, hZ, hown, hret, hnm, hlk, by rw [W'.size]; exact hsz⟩)
theorem r_lastore (pc' : Nat) (X : Cx p l e R s m args below meth c Z bytes ml own ret mname n0 T h cells slots) {a : Addr} {n : Nat} {f : Nat → Value} (A : AF Z h a .long n f) {j : Int32} {i : Nat} {x : Int64} {v : Value} (hj : j.toInt = (i : Int)) (hi : i < n) (hv : (.long x) = v) (ga : n0 ≤ a) (hd : decode bytes pc = .ok (.lastore, 1)) (r : ∀ T' h', Wr h h' a i v → Cx p l e R s m args below meth c Z bytes ml own ret mname n0 T' h' cells slots → Run p e below m K T' pc' L st) (q : pc + 1 = pc' := by rfl) : Run p e below m K T pc L ((.long x) :: .int j :: .ref a :: st) := by
  obtain ⟨⟨locs, X, N⟩, e0, hx, hby, hml, hZ, hown, hret, hnm, hlk, hsz⟩ := X
  subst q hv
  obtain ⟨cl, A, S, -, H⟩ := A
  obtain ⟨h1, h2⟩ := idx_of hj (S ▸ hi)
  obtain ⟨T', h', X', e', W', stp⟩ := stJ X hx hZ e0 A (j := j) h1 (g := mkF m pc L ((.long x) :: .int j :: .ref a :: st)) rfl rfl (hb hby hd)
  exact Run.of stp (r T' h' (h2 ▸ W') ⟨⟨_, X', Fr.snoc X' N ga⟩, e', hx, hby, hml, hZ, hown, hret, hnm, hlk, by rw [W'.size]; exact hsz⟩)
theorem r_castore (pc' : Nat) (X : Cx p l e R s m args below meth c Z bytes ml own ret mname n0 T h cells slots) {a : Addr} {n : Nat} {f : Nat → Value} (A : AF Z h a .char n f) {j : Int32} {i : Nat} {x : Int32} {v : Value} (hj : j.toInt = (i : Int)) (hi : i < n) (hv : (.int (nar .char x)) = v) (ga : n0 ≤ a) (hd : decode bytes pc = .ok (.castore, 1)) (r : ∀ T' h', Wr h h' a i v → Cx p l e R s m args below meth c Z bytes ml own ret mname n0 T' h' cells slots → Run p e below m K T' pc' L st) (q : pc + 1 = pc' := by rfl) : Run p e below m K T pc L ((.int x) :: .int j :: .ref a :: st) := by
  obtain ⟨⟨locs, X, N⟩, e0, hx, hby, hml, hZ, hown, hret, hnm, hlk, hsz⟩ := X
  subst q hv
  obtain ⟨cl, A, S, -, H⟩ := A
  obtain ⟨h1, h2⟩ := idx_of hj (S ▸ hi)
  obtain ⟨T', h', X', e', W', stp⟩ := stC X hx hZ e0 A (j := j) h1 (g := mkF m pc L ((.int x) :: .int j :: .ref a :: st)) rfl rfl (hb hby hd)
  exact Run.of stp (r T' h' (h2 ▸ W') ⟨⟨_, X', Fr.snoc X' N ga⟩, e', hx, hby, hml, hZ, hown, hret, hnm, hlk, by rw [W'.size]; exact hsz⟩)
theorem r_bastoreB (pc' : Nat) (X : Cx p l e R s m args below meth c Z bytes ml own ret mname n0 T h cells slots) {a : Addr} {n : Nat} {f : Nat → Value} (A : AF Z h a .byte n f) {j : Int32} {i : Nat} {x : Int32} {v : Value} (hj : j.toInt = (i : Int)) (hi : i < n) (hv : (.int (nar .byte x)) = v) (ga : n0 ≤ a) (hd : decode bytes pc = .ok (.bastore, 1)) (r : ∀ T' h', Wr h h' a i v → Cx p l e R s m args below meth c Z bytes ml own ret mname n0 T' h' cells slots → Run p e below m K T' pc' L st) (q : pc + 1 = pc' := by rfl) : Run p e below m K T pc L ((.int x) :: .int j :: .ref a :: st) := by
  obtain ⟨⟨locs, X, N⟩, e0, hx, hby, hml, hZ, hown, hret, hnm, hlk, hsz⟩ := X
  subst q hv
  obtain ⟨cl, A, S, -, H⟩ := A
  obtain ⟨h1, h2⟩ := idx_of hj (S ▸ hi)
  obtain ⟨T', h', X', e', W', stp⟩ := stB X hx hZ e0 A (j := j) h1 (g := mkF m pc L ((.int x) :: .int j :: .ref a :: st)) rfl rfl (hb hby hd)
  exact Run.of stp (r T' h' (h2 ▸ W') ⟨⟨_, X', Fr.snoc X' N ga⟩, e', hx, hby, hml, hZ, hown, hret, hnm, hlk, by rw [W'.size]; exact hsz⟩)
theorem r_bastoreZ (pc' : Nat) (X : Cx p l e R s m args below meth c Z bytes ml own ret mname n0 T h cells slots) {a : Addr} {n : Nat} {f : Nat → Value} (A : AF Z h a .boolean n f) {j : Int32} {i : Nat} {x : Int32} {v : Value} (hj : j.toInt = (i : Int)) (hi : i < n) (hv : (.int (nar .boolean x)) = v) (ga : n0 ≤ a) (hd : decode bytes pc = .ok (.bastore, 1)) (r : ∀ T' h', Wr h h' a i v → Cx p l e R s m args below meth c Z bytes ml own ret mname n0 T' h' cells slots → Run p e below m K T' pc' L st) (q : pc + 1 = pc' := by rfl) : Run p e below m K T pc L ((.int x) :: .int j :: .ref a :: st) := by
  obtain ⟨⟨locs, X, N⟩, e0, hx, hby, hml, hZ, hown, hret, hnm, hlk, hsz⟩ := X
  subst q hv
  obtain ⟨cl, A, S, -, H⟩ := A
  obtain ⟨h1, h2⟩ := idx_of hj (S ▸ hi)
  obtain ⟨T', h', X', e', W', stp⟩ := stZ X hx hZ e0 A (j := j) h1 (g := mkF m pc L ((.int x) :: .int j :: .ref a :: st)) rfl rfl (hb hby hd)
  exact Run.of stp (r T' h' (h2 ▸ W') ⟨⟨_, X', Fr.snoc X' N ga⟩, e', hx, hby, hml, hZ, hown, hret, hnm, hlk, by rw [W'.size]; exact hsz⟩)
theorem r_dastore (pc' : Nat) (X : Cx p l e R s m args below meth c Z bytes ml own ret mname n0 T h cells slots) {a : Addr} {n : Nat} {f : Nat → Value} (A : AF Z h a .double n f) {j : Int32} {i : Nat} {x : UInt64} {v : Value} (hj : j.toInt = (i : Int)) (hi : i < n) (hv : (.double x) = v) (ga : n0 ≤ a) (hd : decode bytes pc = .ok (.dastore, 1)) (r : ∀ T' h', Wr h h' a i v → Cx p l e R s m args below meth c Z bytes ml own ret mname n0 T' h' cells slots → Run p e below m K T' pc' L st) (q : pc + 1 = pc' := by rfl) : Run p e below m K T pc L ((.double x) :: .int j :: .ref a :: st) := by
  obtain ⟨⟨locs, X, N⟩, e0, hx, hby, hml, hZ, hown, hret, hnm, hlk, hsz⟩ := X
  subst q hv
  obtain ⟨cl, A, S, -, H⟩ := A
  obtain ⟨h1, h2⟩ := idx_of hj (S ▸ hi)
  obtain ⟨T', h', X', e', W', stp⟩ := stD X hx hZ e0 A (j := j) h1 (g := mkF m pc L ((.double x) :: .int j :: .ref a :: st)) rfl rfl (hb hby hd)
  exact Run.of stp (r T' h' (h2 ▸ W') ⟨⟨_, X', Fr.snoc X' N ga⟩, e', hx, hby, hml, hZ, hown, hret, hnm, hlk, by rw [W'.size]; exact hsz⟩)
theorem r_initO (pc' : Nat) (X : Cx p l e R s m args below meth c Z bytes ml own ret mname n0 T h cells slots) {a0 : Array Value} {idx : Nat} (w1 : (Jvm.Cond.methodLink own idx Lib.objectInit).before a0 Z = true) (w2 : (Jvm.Cond.instanceMethod Lib.objectInit).before a0 Z = true) (w3 : (Jvm.Cond.code Lib.objectInit ⟨#[0xb1]⟩ 1 none).before a0 Z = true) {a : Addr} (hd : decode bytes pc = .ok (.invokespecial idx, 3)) (hsize : L.size = ml) (hf : 1 ≤ R.frames) (W : Nat) (hW : (st.map fun v => v.category).sum ≤ W) (hl : W + 12 ≤ R.locals) (r : ∀ T', Cx p l e R s m args below meth c Z bytes ml own ret mname n0 T' h cells slots → Run p e below m K T' pc' L st) (q : pc + 3 = pc' := by rfl) : Run p e below m K T pc L (.ref a :: st) := by
  obtain ⟨⟨locs, X, N⟩, e0, hx, hby, hml, hZ, hown, r1⟩ := X
  subst q
  obtain ⟨T', X', e', stp⟩ := initO X hx hZ hown w1 w2 w3 e0 (g := mkF m pc L (.ref a :: st)) rfl (by rw [hml]; exact hsize) rfl (hb hby hd) hf (W := W) (by show 2 * 0 + _ ≤ _; omega) hl
  exact Run.of stp (r T' ⟨⟨_, X', N⟩, e', hx, hby, hml, hZ, hown, r1⟩)
theorem met_of {l : Launch} {Z : State} {n0 : Nat} {ws : List Jvm.Cond} {y : MethodName} {bytes : ByteArray} {ml : Nat} {ret : Option FieldType} {rm : Room} {as : Array Value} {h0 : Heap} {Q : Option Value → Heap → Prop} {L0 : Array Slot} (hpl : plainFor y = true) (hn0 : n0 ≤ h0.size) (ef : ∀ m, entryFrame m as ml = mkF m 0 L0 [])
    (body : ∀ p e s m below meth c T, s.heap = h0 → Cx p l e rm s m as below meth c Z bytes ml y.cls ret y.name n0 T h0 0 0 → Run p e below m (Fin1 below s n0 Q rm.cells rm.slots) T 0 L0 []) : Met1 l Z n0 ws y bytes ml ret rm as h0 Q := by
  refine MetFree.of_bodySF hpl hisR ?_
  intro p e s m args below meth c s₁ Bd hml0 hP hK
  obtain ⟨rfl, hZ, hh⟩ := hP
  have hlk : meth.locks = false := BodyLoose.notSynchronized Bd
  obtain ⟨u, h1, h2, o, h3, h4⟩ := body p e s m below meth c s₁ hh ⟨⟨[], Stand.of_body Bd, Fr.nil n0⟩, by rw [← hh, Bd.state]; rfl, Bd.exec, Bd.bytes, hml0, hZ, findClass_of_methodNamed Bd.named, Bd.returns, (name_of_methodNamed Bd.named Bd.method).1, hlk, hn0⟩
  exact ⟨u, o, castTop (ef m) h1, h2, h3, h4⟩
theorem fin_of {Q : Option Value → Heap → Prop} {cN sN : Nat} {v : Option Value} (X : Cx p l e R s m args below meth c Z bytes ml own ret mname n0 T h cells slots) (hc : cells ≤ cN) (hs : slots ≤ sN) (hQ : Q v h) (hv : ret = none → v = none) (stp : ∀ {T : State} {locs : List Loc} (X : Stand p l e R s m args below meth c T locs cells slots) (hx : p.tables.exec = Jvm.exec) (hret : meth.sig.returnType = ret) {fs : List Frame}, (∀ (f : JFrame) (acts : List Action), f.method = m → f.locked = none → f.entered = [] → (doReturn e (T.setTop f) acts v).1 = T.setFrames fs) → Steps p.tables e below (T.setTop (mkF m pc L st)) (T.setFrames fs)) : Run p e below m (Fin1 below s n0 Q cN sN) T pc L st := by
  obtain ⟨⟨locs, X, N⟩, e0, hx, hby, hml, hZ, hown, hret, hnm, hlk, hsz⟩ := X
  obtain ⟨fs, hr, hrun, hended, hW, hsame⟩ := X.leave (v := v) (fun q => hv (hret.symm.trans q)) hlk
  refine ⟨_, stp X hx hret hr, hrun, _, hended, v, locs, rfl, ⟨?_, N, ?_⟩, ⟨_, rfl⟩, hW, hsame.mono hc hs⟩
  · show Q v T.heap; rw [e0]; exact hQ
  · show n0 ≤ T.heap.size; rw [e0]; exact hsz
theorem r_retZ {Q : Option Value → Heap → Prop} {cN sN : Nat} (X : Cx p l e R s m args below meth c Z bytes ml own (some .boolean) mname n0 T h cells slots) {x z : Int32} (hd : decode bytes pc = .ok (.ireturn, 1)) (hz : nar .boolean x = z) (hc : cells ≤ cN) (hs : slots ≤ sN) (hQ : Q (some (.int z)) h) : Run p e below m (Fin1 below s n0 Q cN sN) T pc L (.int x :: st) := by
  have hby := X.2.2.2.1
  subst hz
  exact fin_of X hc hs hQ (fun q => by cases q) (fun X hx hret fs hr => retN X hx (t := .boolean) hret (by simp) (hb hby hd) hr)
theorem r_retB {Q : Option Value → Heap → Prop} {cN sN : Nat} (X : Cx p l e R s m args below meth c Z bytes ml own (some .byte) mname n0 T h cells slots) {x z : Int32} (hd : decode bytes pc = .ok (.ireturn, 1)) (hz : nar .byte x = z) (hc : cells ≤ cN) (hs : slots ≤ sN) (hQ : Q (some (.int z)) h) : Run p e below m (Fin1 below s n0 Q cN sN) T pc L (.int x :: st) := by
  have hby := X.2.2.2.1
  subst hz
  exact fin_of X hc hs hQ (fun q => by cases q) (fun X hx hret fs hr => retN X hx (t := .byte) hret (by simp) (hb hby hd) hr)
theorem r_retC {Q : Option Value → Heap → Prop} {cN sN : Nat} (X : Cx p l e R s m args below meth c Z bytes ml own (some .char) mname n0 T h cells slots) {x z : Int32} (hd : decode bytes pc = .ok (.ireturn, 1)) (hz : nar .char x = z) (hc : cells ≤ cN) (hs : slots ≤ sN) (hQ : Q (some (.int z)) h) : Run p e below m (Fin1 below s n0 Q cN sN) T pc L (.int x :: st) := by
  have hby := X.2.2.2.1
  subst hz
  exact fin_of X hc hs hQ (fun q => by cases q) (fun X hx hret fs hr => retN X hx (t := .char) hret (by simp) (hb hby hd) hr)
theorem r_retS {Q : Option Value → Heap → Prop} {cN sN : Nat} (X : Cx p l e R s m args below meth c Z bytes ml own (some .short) mname n0 T h cells slots) {x z : Int32} (hd : decode bytes pc = .ok (.ireturn, 1)) (hz : nar .short x = z) (hc : cells ≤ cN) (hs : slots ≤ sN) (hQ : Q (some (.int z)) h) : Run p e below m (Fin1 below s n0 Q cN sN) T pc L (.int x :: st) := by
  have hby := X.2.2.2.1
  subst hz
  exact fin_of X hc hs hQ (fun q => by cases q) (fun X hx hret fs hr => retN X hx (t := .short) hret (by simp) (hb hby hd) hr)
theorem r_retI {Q : Option Value → Heap → Prop} {cN sN : Nat} (X : Cx p l e R s m args below meth c Z bytes ml own (some .int) mname n0 T h cells slots) {x : Int32} (hd : decode bytes pc = .ok (.ireturn, 1)) (hc : cells ≤ cN) (hs : slots ≤ sN) (hQ : Q (some (.int x)) h) : Run p e below m (Fin1 below s n0 Q cN sN) T pc L (.int x :: st) := by
  have hby := X.2.2.2.1
  exact fin_of X hc hs hQ (fun q => by cases q) (fun X hx hret fs hr => retOut X hx (t := .int) hret rfl (Or.inl ⟨rfl, Or.inl rfl, _, rfl⟩) (hb hby hd) hr)
theorem r_retJ {Q : Option Value → Heap → Prop} {cN sN : Nat} (X : Cx p l e R s m args below meth c Z bytes ml own (some .long) mname n0 T h cells slots) {x : Int64} (hd : decode bytes pc = .ok (.lreturn, 1)) (hc : cells ≤ cN) (hs : slots ≤ sN) (hQ : Q (some (.long x)) h) : Run p e below m (Fin1 below s n0 Q cN sN) T pc L (.long x :: st) := by
  have hby := X.2.2.2.1
  exact fin_of X hc hs hQ (fun q => by cases q) (fun X hx hret fs hr => retOut X hx (t := .long) hret rfl (Or.inr (Or.inl ⟨rfl, rfl, _, rfl⟩)) (hb hby hd) hr)
theorem r_retA {Q : Option Value → Heap → Prop} {cN sN : Nat} {t : FieldType} (X : Cx p l e R s m args below meth c Z bytes ml own (some t) mname n0 T h cells slots) {x : Value} (hd : decode bytes pc = .ok (.areturn, 1)) (ht : t.isReference = true) (hn : narrow t x = x) (hx : x.isRef = true) (hc : cells ≤ cN) (hs : slots ≤ sN) (hQ : Q (some x) h) : Run p e below m (Fin1 below s n0 Q cN sN) T pc L (x :: st) := by
  have hby := X.2.2.2.1
  exact fin_of X hc hs hQ (fun q => by cases q) (fun X hx' hret fs hr => retOut X hx' (t := t) hret hn (Or.inr (Or.inr (Or.inr (Or.inr ⟨rfl, ht, hx⟩)))) (hb hby hd) hr)
theorem r_retV {Q : Option Value → Heap → Prop} {cN sN : Nat} (X : Cx p l e R s m args below meth c Z bytes ml own none mname n0 T h cells slots) (hd : decode bytes pc = .ok (.return_, 1)) (hc : cells ≤ cN) (hs : slots ≤ sN) (hQ : Q none h) : Run p e below m (Fin1 below s n0 Q cN sN) T pc L [] := by
  have hby := X.2.2.2.1
  exact fin_of X hc hs hQ (fun _ => rfl) (fun X hx hret fs hr => X.returnOut hx hret (hb hby hd) hr)
theorem r_callS (pc' : Nat) (X : Cx p l e R s m args below meth c Z bytes ml own ret mname n0 T h cells slots) {a0 : Array Value} {y : MethodName} {by' : ByteArray} {ml' : Nat} {ret' : Option FieldType} {rm : Room} {as : Array Value} {Q : Option Value → Heap → Prop} {index : Nat}  (hM : Met1 l Z n0 [] y by' ml' ret' rm as h Q) (w1 : (Jvm.Cond.methodLink own index y).before a0 Z = true) (w2 : (Jvm.Cond.static y).before a0 Z = true) (wc : (Jvm.Cond.code y by' ml' ret').before a0 Z = true) (wz : (Jvm.Cond.initialized y.cls).before a0 Z = true) (hy : y.cls ≠ "java/lang/invoke/MethodHandle" ∧ y.cls ≠ "java/lang/invoke/VarHandle") {ps : List FieldType} {rt : Option FieldType} (pd : parseMethodDescriptor y.desc = some ⟨ps, rt⟩) (argsL : List Value) (has : argsL.toArray = as) (hln : argsL.length = ps.length) (W : Nat) (hW : (st.map fun v => v.category).sum ≤ W) (hsize : L.size = ml) (hf : rm.frames + 1 ≤ R.frames) (hl : W + (ml' + 11) + rm.locals ≤ R.locals) (hc : cells + rm.cells ≤ R.cells) (hs : slots + rm.slots ≤ R.slots) (hd : decode bytes pc = .ok (.invokestatic index, 3)) (r : ∀ T' h' v, Q v h' → Cx p l e R s m args below meth c Z bytes ml own ret mname n0 T' h' (cells + rm.cells) (slots + rm.slots) → Run p e below m K T' pc' L (v.toList ++ st)) (q : pc + 3 = pc' := by rfl) {S : List Value} (hS : S = argsL.reverse ++ st := by rfl) : Run p e below m K T pc L S := by
  obtain ⟨⟨locs, X, N⟩, e0, hx, hby, hml, hZ, hown, hret, hnm, hlk, hsz⟩ := X
  subst q has hS
  obtain ⟨v, _, ⟨T', L', k', n'⟩, -, X', ⟨Lc, hQ', l', y', z'⟩, stp⟩ := Jvm.LawKit.callS X hx (y := y) hown (mvT hZ w1) (mvT hZ w2) (mvT hZ wz) (mvT hZ wc) hy (backOf (W := W) (Q := fun v h' L => Q v h' ∧ Fr n0 L ∧ n0 ≤ h'.size) hM hZ wc wz hf hl) (g := mkF m pc L (argsL.reverse ++ st)) rfl (by rw [hml]; exact hsize) (argsL := argsL) (rest := st) (lenOf pd hln) rfl (by show 2 * 0 + _ ≤ _; omega) (hb hby hd) (fun _ _ => ⟨rfl, e0, hc, hs⟩)
  dsimp only [Pt.U, Pt.locs, Pt.cells, Pt.slots] at X' l' y' z' stp hQ'
  subst l' y' z'
  obtain ⟨hQ1, N1, hs1⟩ := hQ'
  exact Run.of stp (r T' _ v hQ1 ⟨⟨_, X', Fr.app N N1⟩, rfl, hx, hby, hml, hZ, hown, hret, hnm, hlk, hs1⟩)
theorem r_special (pc' : Nat) (X : Cx p l e R s m args below meth c Z bytes ml own ret mname n0 T h cells slots) {a0 : Array Value} {y : MethodName} {by' : ByteArray} {ml' : Nat} {ret' : Option FieldType} {rm : Room} {as : Array Value} {Q : Option Value → Heap → Prop} {index : Nat} {a : Addr} (hM : Met1 l Z n0 [] y by' ml' ret' rm as h Q) (hyn : y.name = "<init>") (hr0 : ret' = none) (w1 : (Jvm.Cond.methodLink own index y).before a0 Z = true) (w2 : (Jvm.Cond.instanceMethod y).before a0 Z = true) (wc : (Jvm.Cond.code y by' ml' ret').before a0 Z = true) (wz : (Jvm.Cond.initialized y.cls).before a0 Z = true) (hy : y.cls ≠ "java/lang/invoke/MethodHandle" ∧ y.cls ≠ "java/lang/invoke/VarHandle") {ps : List FieldType} {rt : Option FieldType} (pd : parseMethodDescriptor y.desc = some ⟨ps, rt⟩) (argsL : List Value) (has : (Value.ref a :: argsL).toArray = as) (hln : argsL.length = ps.length) (W : Nat) (hW : (st.map fun v => v.category).sum ≤ W) (hsize : L.size = ml) (hf : rm.frames + 1 ≤ R.frames) (hl : W + (ml' + 11) + rm.locals ≤ R.locals) (hc : cells + rm.cells ≤ R.cells) (hs : slots + rm.slots ≤ R.slots) (hd : decode bytes pc = .ok (.invokespecial index, 3)) (r : ∀ T' h' v, Q v h' → Cx p l e R s m args below meth c Z bytes ml own ret mname n0 T' h' (cells + rm.cells) (slots + rm.slots) → Run p e below m K T' pc' L (v.toList ++ st)) (q : pc + 3 = pc' := by rfl) {S : List Value} (hS : S = argsL.reverse ++ Value.ref a :: st := by rfl) : Run p e below m K T pc L S := by
  obtain ⟨⟨locs, X, N⟩, e0, hx, hby, hml, hZ, hown, hret, hnm, hlk, hsz⟩ := X
  subst q has hS
  subst hr0
  obtain ⟨v, _, ⟨T', L', k', n'⟩, -, X', ⟨Lc, hQ', l', y', z'⟩, stp⟩ := X.specialBack hx (y := y) hyn hown (mvT hZ w1) (mvT hZ w2) (mvT hZ wc) hy (backOf (W := W) (Q := fun v h' L => Q v h' ∧ Fr n0 L ∧ n0 ≤ h'.size) hM hZ wc wz hf hl) (g := mkF m pc L (argsL.reverse ++ .ref a :: st)) rfl (by rw [hml]; exact hsize) (Steps.refl _) (a := a) (argsL := argsL) (rest := st) (lenOf pd hln) rfl (by show 2 * 0 + _ ≤ _; omega) (hb hby hd) (fun _ _ => ⟨rfl, e0, hc, hs⟩)
  dsimp only [Pt.U, Pt.locs, Pt.cells, Pt.slots] at X' l' y' z' stp hQ'
  subst l' y' z'
  obtain ⟨hQ1, N1, hs1⟩ := hQ'
  exact Run.of (fun t k => stp.trans k) (r T' _ v hQ1 ⟨⟨_, X', Fr.app N N1⟩, rfl, hx, hby, hml, hZ, hown, hret, hnm, hlk, hs1⟩)
theorem r_virtual (pc' : Nat) (X : Cx p l e R s m args below meth c Z bytes ml own ret mname n0 T h cells slots) {a0 : Array Value} {y : MethodName} {by' : ByteArray} {ml' : Nat} {ret' : Option FieldType} {rm : Room} {as : Array Value} {Q : Option Value → Heap → Prop} {index : Nat} {a : Addr} {C : String} (hM : Met1 l Z n0 [] y by' ml' ret' rm as h Q) (E : Exa Z h a C) (w1 : (Jvm.Cond.methodLink own index y).before a0 Z = true) (w3 : (Jvm.Cond.declares y).before a0 Z = true) (wf : (Jvm.Cond.selects y.cls y y).before a0 Z = true) (w4 : (Jvm.Cond.selects C y y).before a0 Z = true) (w2 : (Jvm.Cond.instanceMethod y).before a0 Z = true) (wc : (Jvm.Cond.code y by' ml' ret').before a0 Z = true) (wz : (Jvm.Cond.initialized y.cls).before a0 Z = true) (hy : y.cls ≠ "java/lang/invoke/MethodHandle" ∧ y.cls ≠ "java/lang/invoke/VarHandle") {ps : List FieldType} {rt : Option FieldType} (pd : parseMethodDescriptor y.desc = some ⟨ps, rt⟩) (argsL : List Value) (has : (Value.ref a :: argsL).toArray = as) (hln : argsL.length = ps.length) (W : Nat) (hW : (st.map fun v => v.category).sum ≤ W) (hsize : L.size = ml) (hf : rm.frames + 1 ≤ R.frames) (hl : W + (ml' + 11) + rm.locals ≤ R.locals) (hc : cells + rm.cells ≤ R.cells) (hs : slots + rm.slots ≤ R.slots) (hd : decode bytes pc = .ok (.invokevirtual index, 3)) (r : ∀ T' h' v, Q v h' → Cx p l e R s m args below meth c Z bytes ml own ret mname n0 T' h' (cells + rm.cells) (slots + rm.slots) → Run p e below m K T' pc' L (v.toList ++ st)) (q : pc + 3 = pc' := by rfl) {S : List Value} (hS : S = argsL.reverse ++ Value.ref a :: st := by rfl) : Run p e below m K T pc L S := by
  obtain ⟨⟨locs, X, N⟩, e0, hx, hby, hml, hZ, hown, hret, hnm, hlk, hsz⟩ := X
  subst q has hS
  obtain ⟨cq, kq, qa, qb, qc⟩ := isOf hZ e0 E
  obtain ⟨v, _, ⟨T', L', k', n'⟩, -, X', ⟨Lc, hQ', l', y', z'⟩, stp⟩ := X.virtualBack hx (C := C) (y := y) (z := y) hown (mvT hZ w1) (mvT hZ w3) (notFace_of_selects (args := #[]) (mvT hZ wf)) (mvT hZ w4) (mvT hZ w2) hy (backOf (W := W) (Q := fun v h' L => Q v h' ∧ Fr n0 L ∧ n0 ≤ h'.size) hM hZ wc wz hf hl) qa qc (g := mkF m pc L (argsL.reverse ++ .ref a :: st)) rfl (by rw [hml]; exact hsize) (Steps.refl _) (argsL := argsL) (rest := st) (lenOf pd hln) rfl (by show 2 * 0 + _ ≤ _; omega) (hb hby hd) (fun _ _ => ⟨rfl, e0, hc, hs⟩)
  dsimp only [Pt.U, Pt.locs, Pt.cells, Pt.slots] at X' l' y' z' stp hQ'
  subst l' y' z'
  obtain ⟨hQ1, N1, hs1⟩ := hQ'
  exact Run.of (fun t k => stp.trans k) (r T' _ v hQ1 ⟨⟨_, X', Fr.app N N1⟩, rfl, hx, hby, hml, hZ, hown, hret, hnm, hlk, hs1⟩)
theorem r_private (pc' : Nat) (X : Cx p l e R s m args below meth c Z bytes ml own ret mname n0 T h cells slots) {a0 : Array Value} {y : MethodName} {by' : ByteArray} {ml' : Nat} {ret' : Option FieldType} {rm : Room} {as : Array Value} {Q : Option Value → Heap → Prop} {index : Nat} {a : Addr} {C : String} (hM : Met1 l Z n0 [] y by' ml' ret' rm as h Q) (E : Exa Z h a C) (w1 : (Jvm.Cond.methodLink own index y).before a0 Z = true) (w2 : (Jvm.Cond.instanceMethod y).before a0 Z = true) {kk : Nat} (wi : (Jvm.Cond.instantiable y.cls kk).before a0 Z = true) (w4 : (Jvm.Cond.privateMethod y).before a0 Z = true) (wc : (Jvm.Cond.code y by' ml' ret').before a0 Z = true) (wz : (Jvm.Cond.initialized y.cls).before a0 Z = true) (hy : y.cls ≠ "java/lang/invoke/MethodHandle" ∧ y.cls ≠ "java/lang/invoke/VarHandle") {ps : List FieldType} {rt : Option FieldType} (pd : parseMethodDescriptor y.desc = some ⟨ps, rt⟩) (argsL : List Value) (has : (Value.ref a :: argsL).toArray = as) (hln : argsL.length = ps.length) (W : Nat) (hW : (st.map fun v => v.category).sum ≤ W) (hsize : L.size = ml) (hf : rm.frames + 1 ≤ R.frames) (hl : W + (ml' + 11) + rm.locals ≤ R.locals) (hc : cells + rm.cells ≤ R.cells) (hs : slots + rm.slots ≤ R.slots) (hd : decode bytes pc = .ok (.invokevirtual index, 3)) (r : ∀ T' h' v, Q v h' → Cx p l e R s m args below meth c Z bytes ml own ret mname n0 T' h' (cells + rm.cells) (slots + rm.slots) → Run p e below m K T' pc' L (v.toList ++ st)) (q : pc + 3 = pc' := by rfl) {S : List Value} (hS : S = argsL.reverse ++ Value.ref a :: st := by rfl) : Run p e below m K T pc L S := by
  obtain ⟨⟨locs, X, N⟩, e0, hx, hby, hml, hZ, hown, hret, hnm, hlk, hsz⟩ := X
  subst q has hS
  obtain ⟨cq, qq, qq'⟩ := E.cell
  obtain ⟨ci, ki, hi1, hi2, -, hi3, -⟩ := Cond.instantiable_spec (mvT hZ wi (args := #[]) : (Jvm.Cond.instantiable y.cls kk).before #[] s = true)
  have hpv := Cond.privateMethod_at (mvP hZ w4 (args := #[]))
  obtain ⟨v, _, ⟨T', L', k', n'⟩, -, X', ⟨Lc, hQ', l', y', z'⟩, stp⟩ := X.privateBack hx (y := y) hown (mvT hZ w1) (mvT hZ w2) (selects_self_of_private hi1 hi2 (Bool.or_eq_false_iff.mp hi3).1 hpv (mvT hZ w2) hy) hpv (mvT hZ wc) hy (backOf (W := W) (Q := fun v h' L => Q v h' ∧ Fr n0 L ∧ n0 ≤ h'.size) hM hZ wc wz hf hl) (g := mkF m pc L (argsL.reverse ++ .ref a :: st)) rfl (by rw [hml]; exact hsize) (Steps.refl _) (a := a) (by rw [e0]; exact qq) qq' (argsL := argsL) (rest := st) (lenOf pd hln) rfl (by show 2 * 0 + _ ≤ _; omega) (hb hby hd) (fun _ _ => ⟨rfl, e0, hc, hs⟩)
  dsimp only [Pt.U, Pt.locs, Pt.cells, Pt.slots] at X' l' y' z' stp hQ'
  subst l' y' z'
  obtain ⟨hQ1, N1, hs1⟩ := hQ'
  exact Run.of (fun t k => stp.trans k) (r T' _ v hQ1 ⟨⟨_, X', Fr.app N N1⟩, rfl, hx, hby, hml, hZ, hown, hret, hnm, hlk, hs1⟩)
theorem r_newarrayE (pc' : Nat) (X : Cx p l e R s m args below meth c Z bytes ml own ret mname n0 T h cells slots) {a0 : Array Value} {aty : ArrayType} {z : Int32} (n cap : Nat) (ad : String) (had : "[" ++ (newarray.typeOf aty).toString = ad) (w : (Jvm.Cond.arrayClass (newarray.typeOf aty)).before a0 Z = true) (hd : decode bytes pc = .ok (.newarray aty, 2)) (hz : z.toInt = (n : Int)) (hcap : n ≤ cap) (hb8 : cap * 8 ≤ 536870912) (hc : cells + 1 ≤ R.cells) (hl : slots + cap ≤ R.slots) (r : ∀ T' h' b, b = h.size → n0 ≤ b → Ext h h' → Exa Z h' b ad → AF Z h' b (newarray.typeOf aty) n (fun _ => defaultValue (newarray.typeOf aty)) → Cx p l e R s m args below meth c Z bytes ml own ret mname n0 T' h' (cells + 1) (slots + cap) → Run p e below m K T' pc' L (.ref b :: st)) (q : pc + 2 = pc' := by rfl) : Run p e below m K T pc L (.int z :: st) := by
  obtain ⟨⟨locs, X, N⟩, e0, hx, hby, hml, hZ, hown, hret, hnm, hlk, hsz⟩ := X
  subst q
  have hz0 : ¬ z < 0 := by rw [Int32.lt_iff_toInt_lt]; have : (0 : Int32).toInt = 0 := rfl; omega
  have hzn : z.toNatClampNeg = n := by show z.toInt.toNat = n; omega
  have hzl := z.toInt_lt
  obtain ⟨T', h', cA, X', e', E', A', Ex', stp⟩ := newPE X hx hZ w e0 (g := mkF m pc L (.int z :: st)) rfl (hb hby hd) rfl hz0 (cap := cap) (by rw [hzn]; exact hcap) hb8 hc hl had
  refine Run.of stp (r T' h' h.size rfl hsz E' Ex' ⟨_, A', by rw [sz_new, hzn], by omega, fun j hj => ?_⟩ ⟨⟨_, X', N⟩, e', hx, hby, hml, hZ, hown, hret, hnm, hlk, Nat.le_trans hsz E'.1⟩)
  simp [newA, hzn, hj]
theorem r_clone (pc' : Nat) (X : Cx p l e R s m args below meth c Z bytes ml own ret mname n0 T h cells slots) {a0 : Array Value} {ad : String} {index : Nat} (w1 : (Jvm.Cond.methodLink own index ⟨ad, "clone", "()Ljava/lang/Object;"⟩).before a0 Z = true) (w2 : (Jvm.Cond.sameMethod ad "java/lang/Object" "clone" "()Ljava/lang/Object;").before a0 Z = true) (w3 : (Jvm.Cond.native ⟨"java/lang/Object", "clone", "()Ljava/lang/Object;"⟩).before a0 Z = true) (w4 : (Jvm.Cond.instanceMethod ⟨"java/lang/Object", "clone", "()Ljava/lang/Object;"⟩).before a0 Z = true) (w5 : (Jvm.Cond.selects ad ⟨ad, "clone", "()Ljava/lang/Object;"⟩ ⟨"java/lang/Object", "clone", "()Ljava/lang/Object;"⟩).before a0 Z = true) (w6 : (Jvm.Cond.castable ad "java/lang/Cloneable").before a0 Z = true) {a : Addr} {ty : FieldType} {n : Nat} {f : Nat → Value} (A : AF Z h a ty n f) (E : Exa Z h a ad) (hfit : ∀ j, j < n → fits ty (f j) = true) (cap : Nat) (hcap : n ≤ cap) (W : Nat) (hW : (st.map fun v => v.category).sum ≤ W) (hsize : L.size = ml) (hf : 1 ≤ R.frames) (hl : W + 14 ≤ R.locals) (hc : cells + 1 ≤ R.cells) (hs : slots + cap ≤ R.slots) (hd : decode bytes pc = .ok (.invokevirtual index, 3)) (r : ∀ T' h' b, b = h.size → n0 ≤ b → Ext h h' → Exa Z h' b ad → AF Z h' b ty n f → Cx p l e R s m args below meth c Z bytes ml own ret mname n0 T' h' (cells + 1) (slots + cap) → Run p e below m K T' pc' L (.ref b :: st)) (q : pc + 3 = pc' := by rfl) : Run p e below m K T pc L (.ref a :: st) := by
  obtain ⟨⟨locs, X, N⟩, e0, hx, hby, hml, hZ, hown, hret, hnm, hlk, hsz⟩ := X
  subst q
  obtain ⟨cl, A, S, q, H⟩ := A
  have FC : FitC Z cl := fitC_of A fun i hi v hv => by rw [S] at hi; rw [H i hi] at hv; cases hv; exact hfit i hi
  obtain ⟨T', h', X', e', E', A', Ex', stp⟩ := cloneA X hx hZ hown w1 w2 w3 w4 w5 w6 e0 A E FC (g := mkF m pc L (.ref a :: st)) rfl (by rw [hml]; exact hsize) rfl (hb hby hd) hf (W := W) (cap := cap) (by show 2 * 0 + _ ≤ _; omega) hl (by rw [S]; exact hcap) hc hs
  exact Run.of stp (r T' h' h.size rfl hsz E' Ex' ⟨_, A', S, q, H⟩ ⟨⟨_, X', N⟩, e', hx, hby, hml, hZ, hown, hret, hnm, hlk, Nat.le_trans hsz E'.1⟩)
theorem r_castY (pc' : Nat) (X : Cx p l e R s m args below meth c Z bytes ml own ret mname n0 T h cells slots) {a0 : Array Value} {K0 : String} {index : Nat} (w : (Jvm.Cond.classLink own index K0).before a0 Z = true) {a : Addr} (F : Ins Z h a K0 true) (hd : decode bytes pc = .ok (.checkcast index, 3)) (r : ∀ T', Cx p l e R s m args below meth c Z bytes ml own ret mname n0 T' h cells slots → Run p e below m K T' pc' L (.ref a :: st)) (q : pc + 3 = pc' := by rfl) : Run p e below m K T pc L (.ref a :: st) := by
  obtain ⟨⟨locs, X, N⟩, e0, hx, hby, hml, hZ, hown, r1⟩ := X
  subst q
  obtain ⟨T', X', e', stp⟩ := castY X hx hZ hown w e0 F (g := mkF m pc L (.ref a :: st)) rfl rfl (hb hby hd)
  exact Run.of stp (r T' ⟨⟨locs, X', N⟩, e', hx, hby, hml, hZ, hown, r1⟩)
theorem r_instY (pc' : Nat) (X : Cx p l e R s m args below meth c Z bytes ml own ret mname n0 T h cells slots) {a0 : Array Value} {K0 : String} {index : Nat} (w : (Jvm.Cond.classLink own index K0).before a0 Z = true) {a : Addr} (F : Ins Z h a K0 true) (hd : decode bytes pc = .ok (.instanceof index, 3)) (r : ∀ T', Cx p l e R s m args below meth c Z bytes ml own ret mname n0 T' h cells slots → Run p e below m K T' pc' L (.int 1 :: st)) (q : pc + 3 = pc' := by rfl) : Run p e below m K T pc L (.ref a :: st) := by
  obtain ⟨⟨locs, X, N⟩, e0, hx, hby, hml, hZ, hown, r1⟩ := X
  subst q
  obtain ⟨T', X', e', stp⟩ := instY X hx hZ hown w e0 F (g := mkF m pc L (.ref a :: st)) rfl rfl (hb hby hd)
  exact Run.of stp (r T' ⟨⟨locs, X', N⟩, e', hx, hby, hml, hZ, hown, r1⟩)
theorem r_instN (pc' : Nat) (X : Cx p l e R s m args below meth c Z bytes ml own ret mname n0 T h cells slots) {a0 : Array Value} {K0 C : String} {index : Nat} (w : (Jvm.Cond.classLink own index K0).before a0 Z = true) {a : Addr} (F : Ins Z s.heap a K0 false) (E : Exa Z s.heap a C) (hd : decode bytes pc = .ok (.instanceof index, 3)) (r : ∀ T', Cx p l e R s m args below meth c Z bytes ml own ret mname n0 T' h cells slots → Run p e below m K T' pc' L (.int 0 :: st)) (q : pc + 3 = pc' := by rfl) : Run p e below m K T pc L (.ref a :: st) := by
  obtain ⟨⟨locs, X, N⟩, e0, hx, hby, hml, hZ, hown, r1⟩ := X
  subst q
  obtain ⟨T', X', e', stp⟩ := instN X hx hZ hown w e0 F E (g := mkF m pc L (.ref a :: st)) rfl rfl (hb hby hd)
  exact Run.of stp (r T' ⟨⟨locs, X', N⟩, e', hx, hby, hml, hZ, hown, r1⟩)
theorem r_instNull (pc' : Nat) (X : Cx p l e R s m args below meth c Z bytes ml own ret mname n0 T h cells slots) {index : Nat} (hd : decode bytes pc = .ok (.instanceof index, 3)) (r : Run p e below m K T pc' L (.int 0 :: st)) (q : pc + 3 = pc' := by rfl) : Run p e below m K T pc L (.null :: st) := by
  obtain ⟨⟨locs, X, -⟩, -, hx, hby, -⟩ := X
  subst q hby
  exact Run.of (fun t k => X.instanceofNull hx (g := mkF m pc L (.null :: st)) rfl rfl hd _ k) r
def b2i (P : Prop) [Decidable P] : Int32 := if P then 1 else 0
theorem b2i_t {P : Prop} [Decidable P] (h : P) : b2i P = 1 := if_pos h
theorem b2i_f {P : Prop} [Decidable P] (h : ¬ P) : b2i P = 0 := if_neg h
theorem b2i_eq0 {P : Prop} [Decidable P] (h : ¬ P) : b2i P = 0 := if_neg h
theorem b2i_ne0 {P : Prop} [Decidable P] (h : P) : ¬ b2i P = 0 := by rw [b2i_t h]; decide
theorem b2i_01 {P : Prop} [Decidable P] : b2i P = 0 ∨ b2i P = 1 := by by_cases h : P; exact Or.inr (b2i_t h); exact Or.inl (b2i_f h)
theorem b2i_nar {P : Prop} [Decidable P] : nar .boolean (b2i P) = b2i P := by by_cases h : P; (rw [b2i_t h]; rfl); (rw [b2i_f h]; rfl)
theorem b2i_congr {P Q : Prop} [Decidable P] [Decidable Q] (h : P ↔ Q) : b2i P = b2i Q := by by_cases q : P; (rw [b2i_t q, b2i_t (h.mp q)]); (rw [b2i_f q, b2i_f (fun z => q (h.mpr z))])
theorem ltI {x y : Int32} {a b : Int} (hx : x.toInt = a) (hy : y.toInt = b) : x < y ↔ a < b := by rw [Int32.lt_iff_toInt_lt, hx, hy]
theorem eqI {x y : Int32} {a b : Int} (hx : x.toInt = a) (hy : y.toInt = b) : x = y ↔ a = b := by rw [← Int32.toInt_inj, hx, hy]
theorem ltJ {x y : Int64} {a b : Int} (hx : x.toInt = a) (hy : y.toInt = b) : x < y ↔ a < b := by rw [Int64.lt_iff_toInt_lt, hx, hy]
theorem eqJ {x y : Int64} {a b : Int} (hx : x.toInt = a) (hy : y.toInt = b) : x = y ↔ a = b := by rw [← Int64.toInt_inj, hx, hy]
theorem addI {x y : Int32} {a b : Int} (hx : x.toInt = a) (hy : y.toInt = b) (h1 : -2147483648 ≤ a + b) (h2 : a + b < 2147483648) : (x + y).toInt = a + b := by have h := c_iadd x y; have r := rng32 (x + y); rw [hx, hy] at h; omega
theorem subI {x y : Int32} {a b : Int} (hx : x.toInt = a) (hy : y.toInt = b) (h1 : -2147483648 ≤ a - b) (h2 : a - b < 2147483648) : (x - y).toInt = a - b := by have h := c_isub x y; have r := rng32 (x - y); rw [hx, hy] at h; omega
theorem addJ {x y : Int64} {a b : Int} (hx : x.toInt = a) (hy : y.toInt = b) (h1 : -9223372036854775808 ≤ a + b) (h2 : a + b < 9223372036854775808) : (x + y).toInt = a + b := by have h := c_ladd x y; have r := rng64 (x + y); rw [hx, hy] at h; omega
theorem subJ {x y : Int64} {a b : Int} (hx : x.toInt = a) (hy : y.toInt = b) (h1 : -9223372036854775808 ≤ a - b) (h2 : a - b < 9223372036854775808) : (x - y).toInt = a - b := by have h := c_lsub x y; have r := rng64 (x - y); rw [hx, hy] at h; omega
theorem natI (n : Nat) (h : n < 2147483648) : (Int32.ofNat n).toInt = n := Int32.toInt_ofNat_small h
def updI (g : Nat → Int32) (i : Nat) (x : Int32) : Nat → Int32 := fun j => if j = i then x else g j
theorem updI_hit {g : Nat → Int32} {i : Nat} {x : Int32} : updI g i x i = x := if_pos rfl
theorem updI_miss {g : Nat → Int32} {i j : Nat} {x : Int32} (q : j ≠ i) : updI g i x j = g j := if_neg q
theorem AF.setI {a : Addr} {ty : FieldType} {n i : Nat} {x : Int32} {g : Nat → Int32} {h' : Heap} (A : AF Z h a ty n (fun j => .int (g j))) (W : Wr h h' a i (.int x)) : AF Z h' a ty n (fun j => .int (updI g i x j)) := (A.set W).congr fun j _ => by by_cases q : j = i <;> simp [upd, updI, q]
def updJ (g : Nat → Int64) (i : Nat) (x : Int64) : Nat → Int64 := fun j => if j = i then x else g j
theorem updJ_hit {g : Nat → Int64} {i : Nat} {x : Int64} : updJ g i x i = x := if_pos rfl
theorem updJ_miss {g : Nat → Int64} {i j : Nat} {x : Int64} (q : j ≠ i) : updJ g i x j = g j := if_neg q
theorem AF.setJ {a : Addr} {ty : FieldType} {n i : Nat} {x : Int64} {g : Nat → Int64} {h' : Heap} (A : AF Z h a ty n (fun j => .long (g j))) (W : Wr h h' a i (.long x)) : AF Z h' a ty n (fun j => .long (updJ g i x j)) := (A.set W).congr fun j _ => by by_cases q : j = i <;> simp [upd, updJ, q]
end Own
theorem pd_0 : parseMethodDescriptor "([IIII)I" = some ⟨[(.array .int), .int, .int, .int], some .int⟩ := by decide +kernel
theorem pd_1 : parseMethodDescriptor "([I[I[I[D)V" = some ⟨[(.array .int), (.array .int), (.array .int), (.array .double)], none⟩ := by decide +kernel
theorem pd_2 : parseMethodDescriptor "(II)I" = some ⟨[.int, .int], some .int⟩ := by decide +kernel
theorem own_gap (x : Int64) : ∃ d : Int32, (x &&& 3).toInt32 = d ∧ 0 ≤ d.toInt ∧ d.toInt ≤ 3 := by
  have h1 := c_maskL x 3 2 (by decide) (by decide)
  have h2 := c_l2i (x &&& 3)
  have h3 := rng32 (x &&& 3).toInt32
  exact ⟨_, rfl, by omega, by omega⟩
theorem own_base (x : Int32) : ∃ d : Int32, (x &&& 2147483647) % 2147483616 = d ∧ 0 ≤ d.toInt ∧ d.toInt < 2147483616 := by
  have h1 := c_mask x 2147483647 31 (by decide) (by decide)
  have h2 := (c_irem (x &&& 2147483647) 2147483616 2147483616 (by decide)).1 (by omega)
  exact ⟨_, rfl, by omega, by omega⟩
theorem own_n (x : Int32) : ∃ (z : Int32) (N : Nat), 1 + (x &&& 7) % 5 = z ∧ z.toInt = (N : Int) ∧ 1 ≤ N ∧ N ≤ 5 := by
  have h1 := c_mask x 7 3 (by decide) (by decide)
  have h2 := (c_irem (x &&& 7) 5 5 (by decide)).1 (by omega)
  have h3 := c_iadd 1 ((x &&& 7) % 5)
  have h4 := rng32 (1 + (x &&& 7) % 5)
  have h5 : (1 : Int32).toInt = 1 := rfl
  exact ⟨_, (1 + (x &&& 7) % 5).toInt.toNat, rfl, by omega, by omega, by omega⟩
theorem own_up {a d : Int32} (ha : 0 ≤ a.toInt) (hb : a.toInt < 2147483640) (h1 : 0 ≤ d.toInt) (h2 : d.toInt ≤ 3) : ∃ t : Int32, a + 1 + d = t ∧ t.toInt = a.toInt + 1 + d.toInt :=
  ⟨_, rfl, addI (addI rfl (b := 1) rfl (by omega) (by omega)) rfl (by omega) (by omega)⟩
def stepE (z t q e i k : Int32) : Int32 := if i < z then (if t = q then k else e) else e
theorem stepE_no {z t q e i k : Int32} (h : i < z → ¬ t = q) : stepE z t q e i k = e := by
  unfold stepE
  split
  · rename_i g; rw [if_neg (h g)]
  · rfl
theorem stepE_yes {z t q e i k : Int32} (h1 : i < z) (h2 : t = q) : stepE z t q e i k = k := by unfold stepE; rw [if_pos h1, if_pos h2]
theorem d1_0 : decode method_3_code 0 = .ok (.iload_n 3, 1) := by decide +kernel
theorem d1_1 : decode method_3_code 1 = .ok (.ifCond .ne 5, 3) := by decide +kernel
theorem d1_4 : decode method_3_code 4 = .ok (.iload_n 2, 1) := by decide +kernel
theorem d1_5 : decode method_3_code 5 = .ok (.ireturn, 1) := by decide +kernel
theorem d1_6 : decode method_3_code 6 = .ok (.iload_n 3, 1) := by decide +kernel
theorem d1_7 : decode method_3_code 7 = .ok (.iload_n 1, 1) := by decide +kernel
theorem d1_8 : decode method_3_code 8 = .ok (.if_icmp .gt 9, 3) := by decide +kernel
theorem d1_11 : decode method_3_code 11 = .ok (.aload_n 0, 1) := by decide +kernel
theorem d1_12 : decode method_3_code 12 = .ok (.iload_n 3, 1) := by decide +kernel
theorem d1_13 : decode method_3_code 13 = .ok (.iconst 1, 1) := by decide +kernel
theorem d1_14 : decode method_3_code 14 = .ok (.isub, 1) := by decide +kernel
theorem d1_15 : decode method_3_code 15 = .ok (.iaload, 1) := by decide +kernel
theorem d1_16 : decode method_3_code 16 = .ok (.ireturn, 1) := by decide +kernel
theorem d1_17 : decode method_3_code 17 = .ok (.iload_n 3, 1) := by decide +kernel
theorem d1_18 : decode method_3_code 18 = .ok (.iload_n 1, 1) := by decide +kernel
theorem d1_19 : decode method_3_code 19 = .ok (.iconst 1, 1) := by decide +kernel
theorem d1_20 : decode method_3_code 20 = .ok (.iadd, 1) := by decide +kernel
theorem d1_21 : decode method_3_code 21 = .ok (.if_icmp .ne 5, 3) := by decide +kernel
theorem d1_24 : decode method_3_code 24 = .ok (.iload_n 2, 1) := by decide +kernel
theorem d1_25 : decode method_3_code 25 = .ok (.ireturn, 1) := by decide +kernel
theorem d1_26 : decode method_3_code 26 = .ok (.aload_n 0, 1) := by decide +kernel
theorem d1_27 : decode method_3_code 27 = .ok (.iload_n 3, 1) := by decide +kernel
theorem d1_28 : decode method_3_code 28 = .ok (.iload_n 1, 1) := by decide +kernel
theorem d1_29 : decode method_3_code 29 = .ok (.isub, 1) := by decide +kernel
theorem d1_30 : decode method_3_code 30 = .ok (.iconst 2, 1) := by decide +kernel
theorem d1_31 : decode method_3_code 31 = .ok (.isub, 1) := by decide +kernel
theorem d1_32 : decode method_3_code 32 = .ok (.iaload, 1) := by decide +kernel
theorem d1_33 : decode method_3_code 33 = .ok (.ireturn, 1) := by decide +kernel
theorem pn_1 : plainName "com/example/heliotrope/heliotrope/model/MdpFindTransitionPinLaw" = true := by first | (simp [plainName, overriddenIn]; done) | decide +kernel
theorem ef_1 (m : MethodId) (x0 : Addr) (x1 : Int32) (x2 : Int32) (x3 : Int32) : entryFrame m #[(.ref x0), (.int x1), (.int x2), (.int x3)] 4 = mkF m 0 #[.val (.ref x0), .val (.int x1), .val (.int x2), .val (.int x3)] [] := by first | (simp [entryFrame, mkF, argsToLocals, Value.category]; done) | rfl
set_option maxRecDepth 65536 in
set_option maxHeartbeats 40000000 in
theorem rmAt (l : Launch) (Z : State) (a0 : Array Value) (hw : ∀ d ∈ tables_1, d.before a0 Z = true) (n0 : Nat) (h : Heap) (Z0 : n0 ≤ h.size) (a1 : Addr) (z q jj : Int32) (tf : Nat → Int32) (N k : Nat) (hz : z.toInt = (N : Int)) (h1N : 1 ≤ N) (hN5 : N ≤ 5) (hj : jj.toInt = (k : Int)) (hk : k ≤ 7) (A_a1 : AF Z h a1 .int 5 (fun j => .int (tf j))) :
    Met1 l Z n0 [] (⟨"com/example/heliotrope/heliotrope/model/MdpFindTransitionPinLaw", "at", "([IIII)I"⟩ : MethodName) method_3_code 4 (some .int) ({ frames := 0, cells := 0, slots := 0, locals := 0 } : Room) #[(.ref a1), (.int z), (.int q), (.int jj)] h (fun v h' => ∃ r : Int32, v = some (.int r) ∧ (1 ≤ k → k ≤ N → r = tf (k - 1)) ∧ h = h') := by
  refine met_of (plainFor_of_name pn_1) Z0 (fun m => ef_1 m a1 z q jj) ?_
  intro p e s m below meth c T hs0 X
  refine r_iloadN 1 X d1_0 rfl ?_
  by_cases h1_1 : jj = (0 : Int32)
  · refine r_ifN 4 X d1_1 ((if0 _ _).trans (teq h1_1).2) ?_
    refine r_iloadN 5 X d1_4 rfl ?_
    refine r_retI X d1_5 (by decide) (by decide) ?_
    exact ⟨_, rfl, fun h1 h2 => by have := (eqI hj (b := 0) rfl).mp h1_1; omega, rfl⟩
  · refine r_ifY 6 X d1_1 ((if0 _ _).trans (feq h1_1).2) ?_
    refine r_iloadN 7 X d1_6 rfl ?_
    refine r_iloadN 8 X d1_7 rfl ?_
    by_cases h8_2 : z < jj
    · refine r_icmpY 17 X d1_8 (tlt h8_2).2.2.1 ?_
      refine r_iloadN 18 X d1_17 rfl ?_
      refine r_iloadN 19 X d1_18 rfl ?_
      refine r_iconst 20 X (1 : Int32) d1_19 rfl ?_
      refine r_iadd 21 X d1_20 ?_
      by_cases h21_3 : jj = (z + (1 : Int32))
      · refine r_icmpN 24 X d1_21 (teq h21_3).2 ?_
        refine r_iloadN 25 X d1_24 rfl ?_
        refine r_retI X d1_25 (by decide) (by decide) ?_
        exact ⟨_, rfl, fun h1 h2 => by have := (ltI hz hj).mp h8_2; omega, rfl⟩
      · refine r_icmpY 26 X d1_21 (feq h21_3).2 ?_
        refine r_aloadN 27 X d1_26 rfl rfl ?_
        refine r_iloadN 28 X d1_27 rfl ?_
        refine r_iloadN 29 X d1_28 rfl ?_
        refine r_isub 30 X d1_29 ?_
        refine r_iconst 31 X (2 : Int32) d1_30 rfl ?_
        refine r_isub 32 X d1_31 ?_
        refine r_iaload 33 X A_a1 (i := (k - N - 2)) (v := (.int (tf (k - N - 2)))) ((subI (subI hj hz (by omega) (by omega)) (b := 2) rfl (by omega) (by omega)).trans (by have := (ltI hz hj).mp h8_2; have := mt (eqI hj (addI hz (b := 1) rfl (by omega) (by omega))).mpr h21_3; omega)) (by omega) rfl d1_32 ?_
        refine r_retI X d1_33 (by decide) (by decide) ?_
        exact ⟨_, rfl, fun h1 h2 => by have := (ltI hz hj).mp h8_2; omega, rfl⟩
    · refine r_icmpN 11 X d1_8 (flt h8_2).2.2.1 ?_
      refine r_aloadN 12 X d1_11 rfl rfl ?_
      refine r_iloadN 13 X d1_12 rfl ?_
      refine r_iconst 14 X (1 : Int32) d1_13 rfl ?_
      refine r_isub 15 X d1_14 ?_
      refine r_iaload 16 X A_a1 (i := (k - 1)) (v := (.int (tf (k - 1)))) ((subI hj (b := 1) rfl (by omega) (by omega)).trans (by have := mt (eqI hj (b := 0) rfl).mpr h1_1; omega)) (by have := mt (ltI hz hj).mpr h8_2; omega) rfl d1_15 ?_
      refine r_retI X d1_16 (by decide) (by decide) ?_
      exact ⟨_, rfl, fun h1 h2 => rfl, rfl⟩
theorem d2_0 : decode prog_87_method_1_code 0 = .ok (.aload_n 0, 1) := by decide +kernel
theorem d2_1 : decode prog_87_method_1_code 1 = .ok (.invokespecial 1, 3) := by decide +kernel
theorem d2_4 : decode prog_87_method_1_code 4 = .ok (.aload_n 0, 1) := by decide +kernel
theorem d2_5 : decode prog_87_method_1_code 5 = .ok (.aload_n 1, 1) := by decide +kernel
theorem d2_6 : decode prog_87_method_1_code 6 = .ok (.putfield 7, 3) := by decide +kernel
theorem d2_9 : decode prog_87_method_1_code 9 = .ok (.aload_n 0, 1) := by decide +kernel
theorem d2_10 : decode prog_87_method_1_code 10 = .ok (.aload_n 2, 1) := by decide +kernel
theorem d2_11 : decode prog_87_method_1_code 11 = .ok (.putfield 13, 3) := by decide +kernel
theorem d2_14 : decode prog_87_method_1_code 14 = .ok (.aload_n 0, 1) := by decide +kernel
theorem d2_15 : decode prog_87_method_1_code 15 = .ok (.aload_n 3, 1) := by decide +kernel
theorem d2_16 : decode prog_87_method_1_code 16 = .ok (.putfield 16, 3) := by decide +kernel
theorem d2_19 : decode prog_87_method_1_code 19 = .ok (.aload_n 0, 1) := by decide +kernel
theorem d2_20 : decode prog_87_method_1_code 20 = .ok (.aload 4, 2) := by decide +kernel
theorem d2_22 : decode prog_87_method_1_code 22 = .ok (.putfield 19, 3) := by decide +kernel
theorem d2_25 : decode prog_87_method_1_code 25 = .ok (.return_, 1) := by decide +kernel
theorem pn_2 : plainName "com/example/heliotrope/heliotrope/model/Mdp" = true := by first | (simp [plainName, overriddenIn]; done) | decide +kernel
theorem ef_2 (m : MethodId) (x0 : Addr) (x1 : Addr) (x2 : Addr) (x3 : Addr) (x4 : Addr) : entryFrame m #[(.ref x0), (.ref x1), (.ref x2), (.ref x3), (.ref x4)] 5 = mkF m 0 #[.val (.ref x0), .val (.ref x1), .val (.ref x2), .val (.ref x3), .val (.ref x4)] [] := by first | (simp [entryFrame, mkF, argsToLocals, Value.category]; done) | rfl
set_option maxRecDepth 65536 in
set_option maxHeartbeats 40000000 in
theorem rmIni (l : Launch) (Z : State) (a0 : Array Value) (hw : ∀ d ∈ tables_1, d.before a0 Z = true) (n0 : Nat) (h : Heap) (Z0 : n0 ≤ h.size) (a1 : Addr) (a2 : Addr) (a3 : Addr) (a4 : Addr) (a5 : Addr) (E_a1 : Exa Z h a1 "com/example/heliotrope/heliotrope/model/Mdp") (F_a1_firstChoice : Fld Z h a1 "com/example/heliotrope/heliotrope/model/Mdp" "firstChoice" "[I" .null) (F_a1_firstTransition : Fld Z h a1 "com/example/heliotrope/heliotrope/model/Mdp" "firstTransition" "[I" .null) (F_a1_target : Fld Z h a1 "com/example/heliotrope/heliotrope/model/Mdp" "target" "[I" .null) (F_a1_probability : Fld Z h a1 "com/example/heliotrope/heliotrope/model/Mdp" "probability" "[D" .null) (ga : n0 ≤ a1) :
    Met1 l Z n0 [] (⟨"com/example/heliotrope/heliotrope/model/Mdp", "<init>", "([I[I[I[D)V"⟩ : MethodName) prog_87_method_1_code 5 none ({ frames := 1, cells := 0, slots := 0, locals := 12 } : Room) #[(.ref a1), (.ref a2), (.ref a3), (.ref a4), (.ref a5)] h (fun v h' => v = none ∧ Keep h h' [a1] ∧ Fld Z h' a1 "com/example/heliotrope/heliotrope/model/Mdp" "firstTransition" "[I" (.ref a3) ∧ Fld Z h' a1 "com/example/heliotrope/heliotrope/model/Mdp" "target" "[I" (.ref a4)) := by
  refine met_of (plainFor_of_name pn_2) Z0 (fun m => ef_2 m a1 a2 a3 a4 a5) ?_
  intro p e s m below meth c T hs0 X
  have K := Keep.refl h [a1]
  refine r_aloadN 1 X d2_0 rfl rfl ?_
  refine r_initO 4 X (hw _ (List.mem_of_getElem? (i := 15) rfl)) (hw _ (List.mem_of_getElem? (i := 16) rfl)) (hw _ (List.mem_of_getElem? (i := 17) rfl)) d2_1 rfl (by decide) 0 (Nat.le_of_eq rfl) (by decide) ?_
  intro T X
  refine r_aloadN 5 X d2_4 rfl rfl ?_
  refine r_aloadN 6 X d2_5 rfl rfl ?_
  refine r_putfield 9 X (host := "") (Or.inl (hw _ (List.mem_of_getElem? (i := 18) rfl))) Via.refl F_a1_firstChoice E_a1 (Or.inr ⟨(hw _ (List.mem_of_getElem? (i := 19) rfl)), rfl, rfl⟩) (hw _ (List.mem_of_getElem? (i := 10) rfl)) (ty := (.array .int)) (by decide) rfl rfl ga d2_6 ?_
  intro T h1 W1 X
  have K := K.wr W1 (Or.inl (List.mem_of_getElem? (i := 0) rfl))
  have E_a1 := E_a1.wr W1
  have F_a1_firstChoice := F_a1_firstChoice.same W1
  have F_a1_firstTransition := F_a1_firstTransition.other W1 (Or.inr (slot_ne (Or.inr (hw _ (List.mem_of_getElem? (i := 21) rfl))) (Or.inr (hw _ (List.mem_of_getElem? (i := 19) rfl))) (by decide) (t := (.array .int)) (t' := (.array .int)) (by decide) (by decide)))
  have F_a1_target := F_a1_target.other W1 (Or.inr (slot_ne (Or.inr (hw _ (List.mem_of_getElem? (i := 23) rfl))) (Or.inr (hw _ (List.mem_of_getElem? (i := 19) rfl))) (by decide) (t := (.array .int)) (t' := (.array .int)) (by decide) (by decide)))
  have F_a1_probability := F_a1_probability.other W1 (Or.inr (slot_ne (Or.inr (hw _ (List.mem_of_getElem? (i := 25) rfl))) (Or.inr (hw _ (List.mem_of_getElem? (i := 19) rfl))) (by decide) (t := (.array .double)) (t' := (.array .int)) (by decide) (by decide)))
  refine r_aloadN 10 X d2_9 rfl rfl ?_
  refine r_aloadN 11 X d2_10 rfl rfl ?_
  refine r_putfield 14 X (host := "") (Or.inl (hw _ (List.mem_of_getElem? (i := 20) rfl))) Via.refl F_a1_firstTransition E_a1 (Or.inr ⟨(hw _ (List.mem_of_getElem? (i := 21) rfl)), rfl, rfl⟩) (hw _ (List.mem_of_getElem? (i := 10) rfl)) (ty := (.array .int)) (by decide) rfl rfl ga d2_11 ?_
  intro T h2 W2 X
  have K := K.wr W2 (Or.inl (List.mem_of_getElem? (i := 0) rfl))
  have E_a1 := E_a1.wr W2
  have F_a1_firstChoice := F_a1_firstChoice.other W2 (Or.inr (slot_ne (Or.inr (hw _ (List.mem_of_getElem? (i := 19) rfl))) (Or.inr (hw _ (List.mem_of_getElem? (i := 21) rfl))) (by decide) (t := (.array .int)) (t' := (.array .int)) (by decide) (by decide)))
  have F_a1_firstTransition := F_a1_firstTransition.same W2
  have F_a1_target := F_a1_target.other W2 (Or.inr (slot_ne (Or.inr (hw _ (List.mem_of_getElem? (i := 23) rfl))) (Or.inr (hw _ (List.mem_of_getElem? (i := 21) rfl))) (by decide) (t := (.array .int)) (t' := (.array .int)) (by decide) (by decide)))
  have F_a1_probability := F_a1_probability.other W2 (Or.inr (slot_ne (Or.inr (hw _ (List.mem_of_getElem? (i := 25) rfl))) (Or.inr (hw _ (List.mem_of_getElem? (i := 21) rfl))) (by decide) (t := (.array .double)) (t' := (.array .int)) (by decide) (by decide)))
  refine r_aloadN 15 X d2_14 rfl rfl ?_
  refine r_aloadN 16 X d2_15 rfl rfl ?_
  refine r_putfield 19 X (host := "") (Or.inl (hw _ (List.mem_of_getElem? (i := 22) rfl))) Via.refl F_a1_target E_a1 (Or.inr ⟨(hw _ (List.mem_of_getElem? (i := 23) rfl)), rfl, rfl⟩) (hw _ (List.mem_of_getElem? (i := 10) rfl)) (ty := (.array .int)) (by decide) rfl rfl ga d2_16 ?_
  intro T h3 W3 X
  have K := K.wr W3 (Or.inl (List.mem_of_getElem? (i := 0) rfl))
  have E_a1 := E_a1.wr W3
  have F_a1_firstChoice := F_a1_firstChoice.other W3 (Or.inr (slot_ne (Or.inr (hw _ (List.mem_of_getElem? (i := 19) rfl))) (Or.inr (hw _ (List.mem_of_getElem? (i := 23) rfl))) (by decide) (t := (.array .int)) (t' := (.array .int)) (by decide) (by decide)))
  have F_a1_firstTransition := F_a1_firstTransition.other W3 (Or.inr (slot_ne (Or.inr (hw _ (List.mem_of_getElem? (i := 21) rfl))) (Or.inr (hw _ (List.mem_of_getElem? (i := 23) rfl))) (by decide) (t := (.array .int)) (t' := (.array .int)) (by decide) (by decide)))
  have F_a1_target := F_a1_target.same W3
  have F_a1_probability := F_a1_probability.other W3 (Or.inr (slot_ne (Or.inr (hw _ (List.mem_of_getElem? (i := 25) rfl))) (Or.inr (hw _ (List.mem_of_getElem? (i := 23) rfl))) (by decide) (t := (.array .double)) (t' := (.array .int)) (by decide) (by decide)))
  refine r_aloadN 20 X d2_19 rfl rfl ?_
  refine r_aload 22 X d2_20 rfl rfl ?_
  refine r_putfield 25 X (host := "") (Or.inl (hw _ (List.mem_of_getElem? (i := 24) rfl))) Via.refl F_a1_probability E_a1 (Or.inr ⟨(hw _ (List.mem_of_getElem? (i := 25) rfl)), rfl, rfl⟩) (hw _ (List.mem_of_getElem? (i := 10) rfl)) (ty := (.array .double)) (by decide) rfl rfl ga d2_22 ?_
  intro T h4 W4 X
  have K := K.wr W4 (Or.inl (List.mem_of_getElem? (i := 0) rfl))
  have E_a1 := E_a1.wr W4
  have F_a1_firstChoice := F_a1_firstChoice.other W4 (Or.inr (slot_ne (Or.inr (hw _ (List.mem_of_getElem? (i := 19) rfl))) (Or.inr (hw _ (List.mem_of_getElem? (i := 25) rfl))) (by decide) (t := (.array .int)) (t' := (.array .double)) (by decide) (by decide)))
  have F_a1_firstTransition := F_a1_firstTransition.other W4 (Or.inr (slot_ne (Or.inr (hw _ (List.mem_of_getElem? (i := 21) rfl))) (Or.inr (hw _ (List.mem_of_getElem? (i := 25) rfl))) (by decide) (t := (.array .int)) (t' := (.array .double)) (by decide) (by decide)))
  have F_a1_target := F_a1_target.other W4 (Or.inr (slot_ne (Or.inr (hw _ (List.mem_of_getElem? (i := 23) rfl))) (Or.inr (hw _ (List.mem_of_getElem? (i := 25) rfl))) (by decide) (t := (.array .int)) (t' := (.array .double)) (by decide) (by decide)))
  have F_a1_probability := F_a1_probability.same W4
  refine r_retV X d2_25 (by decide) (by decide) ?_
  exact ⟨rfl, K, F_a1_firstTransition, F_a1_target⟩
theorem own_mid {lo hi : Int32} {a b : Nat} (h1 : lo.toInt = (a : Int)) (h2 : hi.toInt = (b : Int)) (h3 : a ≤ 8) (h4 : b ≤ 8) : ∃ d : Int32, ((lo + hi).toUInt32 >>> ((1 : Int32) &&& 31).toUInt32).toInt32 = d ∧ d.toInt = (((a + b) / 2 : Nat) : Int) := by
  have e := c_iushr (lo + hi) 1 1 (by decide) (by decide)
  have f := addI h1 h2 (by omega) (by omega)
  refine ⟨_, rfl, ?_⟩
  rw [e, f]
  simp only [show ((2 ^ 1 : Nat) : Int) = 2 from rfl]
  omega
theorem own_s5 {a1 : Addr} {x1 x2 x3 x4 v : Int32} {s5 : Slot} (h : One s5) : storeLocals #[.val (.ref a1), .val (.int x1), .val (.int x2), .val (.int x3), .val (.int x4), s5] 5 (.int v) = some #[.val (.ref a1), .val (.int x1), .val (.int x2), .val (.int x3), .val (.int x4), .val (.int v)] := by
  rcases h with rfl | ⟨w, rfl, hw⟩
  · rfl
  · cases w <;> first | rfl | (simp [Value.category] at hw)
theorem own_le {gf : Nat → Int32} {N : Nat} (hs : ∀ i j, 1 ≤ i → i < j → j ≤ N → (gf i).toInt < (gf j).toInt) {i j : Nat} (h1 : 1 ≤ i) (h2 : i ≤ j) (h3 : j ≤ N) : (gf i).toInt ≤ (gf j).toInt := by
  rcases Nat.lt_or_ge i j with q | q
  · exact Int.le_of_lt (hs i j h1 q h3)
  · have : i = j := by omega
    subst this; exact Int.le_refl _
theorem d4_0 : decode prog_87_method_14_code 0 = .ok (.aload_n 0, 1) := by decide +kernel
theorem d4_1 : decode prog_87_method_14_code 1 = .ok (.getfield 13, 3) := by decide +kernel
theorem d4_4 : decode prog_87_method_14_code 4 = .ok (.iload_n 1, 1) := by decide +kernel
theorem d4_5 : decode prog_87_method_14_code 5 = .ok (.iaload, 1) := by decide +kernel
theorem d4_6 : decode prog_87_method_14_code 6 = .ok (.istore_n 3, 1) := by decide +kernel
theorem d4_7 : decode prog_87_method_14_code 7 = .ok (.aload_n 0, 1) := by decide +kernel
theorem d4_8 : decode prog_87_method_14_code 8 = .ok (.getfield 13, 3) := by decide +kernel
theorem d4_11 : decode prog_87_method_14_code 11 = .ok (.iload_n 1, 1) := by decide +kernel
theorem d4_12 : decode prog_87_method_14_code 12 = .ok (.iconst 1, 1) := by decide +kernel
theorem d4_13 : decode prog_87_method_14_code 13 = .ok (.iadd, 1) := by decide +kernel
theorem d4_14 : decode prog_87_method_14_code 14 = .ok (.iaload, 1) := by decide +kernel
theorem d4_15 : decode prog_87_method_14_code 15 = .ok (.iconst 1, 1) := by decide +kernel
theorem d4_16 : decode prog_87_method_14_code 16 = .ok (.isub, 1) := by decide +kernel
theorem d4_17 : decode prog_87_method_14_code 17 = .ok (.istore 4, 2) := by decide +kernel
theorem d4_19 : decode prog_87_method_14_code 19 = .ok (.iload_n 3, 1) := by decide +kernel
theorem d4_20 : decode prog_87_method_14_code 20 = .ok (.iload 4, 2) := by decide +kernel
theorem d4_22 : decode prog_87_method_14_code 22 = .ok (.if_icmp .gt 56, 3) := by decide +kernel
theorem d4_25 : decode prog_87_method_14_code 25 = .ok (.iload_n 3, 1) := by decide +kernel
theorem d4_26 : decode prog_87_method_14_code 26 = .ok (.iload 4, 2) := by decide +kernel
theorem d4_28 : decode prog_87_method_14_code 28 = .ok (.iadd, 1) := by decide +kernel
theorem d4_29 : decode prog_87_method_14_code 29 = .ok (.iconst 1, 1) := by decide +kernel
theorem d4_30 : decode prog_87_method_14_code 30 = .ok (.iushr, 1) := by decide +kernel
theorem d4_31 : decode prog_87_method_14_code 31 = .ok (.istore 5, 2) := by decide +kernel
theorem d4_33 : decode prog_87_method_14_code 33 = .ok (.aload_n 0, 1) := by decide +kernel
theorem d4_34 : decode prog_87_method_14_code 34 = .ok (.getfield 16, 3) := by decide +kernel
theorem d4_37 : decode prog_87_method_14_code 37 = .ok (.iload 5, 2) := by decide +kernel
theorem d4_39 : decode prog_87_method_14_code 39 = .ok (.iaload, 1) := by decide +kernel
theorem d4_40 : decode prog_87_method_14_code 40 = .ok (.iload_n 2, 1) := by decide +kernel
theorem d4_41 : decode prog_87_method_14_code 41 = .ok (.if_icmp .ge 11, 3) := by decide +kernel
theorem d4_44 : decode prog_87_method_14_code 44 = .ok (.iload 5, 2) := by decide +kernel
theorem d4_46 : decode prog_87_method_14_code 46 = .ok (.iconst 1, 1) := by decide +kernel
theorem d4_47 : decode prog_87_method_14_code 47 = .ok (.iadd, 1) := by decide +kernel
theorem d4_48 : decode prog_87_method_14_code 48 = .ok (.istore_n 3, 1) := by decide +kernel
theorem d4_49 : decode prog_87_method_14_code 49 = .ok (.goto 26, 3) := by decide +kernel
theorem d4_52 : decode prog_87_method_14_code 52 = .ok (.aload_n 0, 1) := by decide +kernel
theorem d4_53 : decode prog_87_method_14_code 53 = .ok (.getfield 16, 3) := by decide +kernel
theorem d4_56 : decode prog_87_method_14_code 56 = .ok (.iload 5, 2) := by decide +kernel
theorem d4_58 : decode prog_87_method_14_code 58 = .ok (.iaload, 1) := by decide +kernel
theorem d4_59 : decode prog_87_method_14_code 59 = .ok (.iload_n 2, 1) := by decide +kernel
theorem d4_60 : decode prog_87_method_14_code 60 = .ok (.if_icmp .le 12, 3) := by decide +kernel
theorem d4_63 : decode prog_87_method_14_code 63 = .ok (.iload 5, 2) := by decide +kernel
theorem d4_65 : decode prog_87_method_14_code 65 = .ok (.iconst 1, 1) := by decide +kernel
theorem d4_66 : decode prog_87_method_14_code 66 = .ok (.isub, 1) := by decide +kernel
theorem d4_67 : decode prog_87_method_14_code 67 = .ok (.istore 4, 2) := by decide +kernel
theorem d4_69 : decode prog_87_method_14_code 69 = .ok (.goto 6, 3) := by decide +kernel
theorem d4_72 : decode prog_87_method_14_code 72 = .ok (.iload 5, 2) := by decide +kernel
theorem d4_74 : decode prog_87_method_14_code 74 = .ok (.ireturn, 1) := by decide +kernel
theorem d4_75 : decode prog_87_method_14_code 75 = .ok (.goto (-56), 3) := by decide +kernel
theorem d4_78 : decode prog_87_method_14_code 78 = .ok (.iconst (-1), 1) := by decide +kernel
theorem d4_79 : decode prog_87_method_14_code 79 = .ok (.ireturn, 1) := by decide +kernel
theorem pn_4 : plainName "com/example/heliotrope/heliotrope/model/Mdp" = true := by first | (simp [plainName, overriddenIn]; done) | decide +kernel
theorem ef_4 (m : MethodId) (x0 : Addr) (x1 : Int32) (x2 : Int32) : entryFrame m #[(.ref x0), (.int x1), (.int x2)] 6 = mkF m 0 #[.val (.ref x0), .val (.int x1), .val (.int x2), .unset, .unset, .unset] [] := by first | (simp [entryFrame, mkF, argsToLocals, Value.category]; done) | rfl
set_option maxRecDepth 65536 in
set_option maxHeartbeats 40000000 in
theorem rmFind (l : Launch) (Z : State) (a0 : Array Value) (hw : ∀ d ∈ tables_1, d.before a0 Z = true) (n0 : Nat) (h : Heap) (Z0 : n0 ≤ h.size) (a1 a2 a3 : Addr) (q : Int32) (ff gf : Nat → Int32) (N : Nat) (hz1 : Int32) (hN7 : N ≤ 7) (hf1 : ff 1 = 1) (hf2 : ff 2 - 1 = hz1) (hh1 : hz1.toInt = (N : Int)) (hsrt : ∀ i j, 1 ≤ i → i < j → j ≤ N → (gf i).toInt < (gf j).toInt) (F_a1_firstTransition : Fld Z h a1 "com/example/heliotrope/heliotrope/model/Mdp" "firstTransition" "[I" (.ref a2)) (F_a1_target : Fld Z h a1 "com/example/heliotrope/heliotrope/model/Mdp" "target" "[I" (.ref a3)) (A_a2 : AF Z h a2 .int 5 (fun j => .int (ff j))) (A_a3 : AF Z h a3 .int 8 (fun j => .int (gf j))) :
    Met1 l Z n0 [] (⟨"com/example/heliotrope/heliotrope/model/Mdp", "findTransition", "(II)I"⟩ : MethodName) prog_87_method_14_code 6 (some .int) ({ frames := 0, cells := 0, slots := 0, locals := 0 } : Room) #[(.ref a1), (.int (1 : Int32)), (.int q)] h (fun v h' => ∃ r : Int32, v = some (.int r) ∧ ((∃ k : Nat, 1 ≤ k ∧ k ≤ N ∧ gf k = q ∧ r.toInt = (k : Int)) ∨ ((∀ k, 1 ≤ k → k ≤ N → gf k ≠ q) ∧ r = -1)) ∧ h = h') := by
  refine met_of (plainFor_of_name pn_4) Z0 (fun m => ef_4 m a1 (1 : Int32) q) ?_
  intro p e s m below meth c T hs0 X
  refine r_aloadN 1 X d4_0 rfl rfl ?_
  refine r_getfield 4 X (host := "") (Or.inl (hw _ (List.mem_of_getElem? (i := 20) rfl))) Via.refl F_a1_firstTransition d4_1 ?_
  intro T X
  refine r_iloadN 5 X d4_4 rfl ?_
  refine r_iaload 6 X A_a2 (i := 1) (v := (.int (ff 1))) (by decide) (by decide) rfl d4_5 ?_
  refine r_topI (x' := (1 : Int32)) hf1 ?_
  refine r_istoreN 7 X #[.val (.ref a1), .val (.int (1 : Int32)), .val (.int q), .val (.int (1 : Int32)), .unset, .unset] d4_6 rfl ?_
  refine r_aloadN 8 X d4_7 rfl rfl ?_
  refine r_getfield 11 X (host := "") (Or.inl (hw _ (List.mem_of_getElem? (i := 20) rfl))) Via.refl F_a1_firstTransition d4_8 ?_
  intro T X
  refine r_iloadN 12 X d4_11 rfl ?_
  refine r_iconst 13 X (1 : Int32) d4_12 rfl ?_
  refine r_iadd 14 X d4_13 ?_
  refine r_topI (x' := (2 : Int32)) (by decide) ?_
  refine r_iaload 15 X A_a2 (i := 2) (v := (.int (ff 2))) (by decide) (by decide) rfl d4_14 ?_
  refine r_iconst 16 X (1 : Int32) d4_15 rfl ?_
  refine r_isub 17 X d4_16 ?_
  refine r_topI (x' := hz1) hf2 ?_
  refine r_istore 19 X #[.val (.ref a1), .val (.int (1 : Int32)), .val (.int q), .val (.int (1 : Int32)), .val (.int hz1), .unset] d4_17 rfl ?_
  have loop : ∀ (m0 : Nat) (a b : Nat) (lo hi : Int32) (s5 : Slot), lo.toInt = (a : Int) → hi.toInt = (b : Int) → 1 ≤ a → b ≤ N → b + 1 ≤ a + m0 → (∀ k, 1 ≤ k → k ≤ N → gf k = q → a ≤ k ∧ k ≤ b) → One s5 → ∀ (T : State), Cx p l e ({ frames := 0, cells := 0, slots := 0, locals := 0 } : Room) s m #[(.ref a1), (.int (1 : Int32)), (.int q)] below meth c Z prog_87_method_14_code 6 "com/example/heliotrope/heliotrope/model/Mdp" (some .int) "findTransition" n0 T h 0 0 → Run p e below m (Fin1 below s n0 (fun v h' => ∃ r : Int32, v = some (.int r) ∧ ((∃ k : Nat, 1 ≤ k ∧ k ≤ N ∧ gf k = q ∧ r.toInt = (k : Int)) ∨ ((∀ k, 1 ≤ k → k ≤ N → gf k ≠ q) ∧ r = -1)) ∧ h = h') ({ frames := 0, cells := 0, slots := 0, locals := 0 } : Room).cells ({ frames := 0, cells := 0, slots := 0, locals := 0 } : Room).slots) T 19 #[.val (.ref a1), .val (.int (1 : Int32)), .val (.int q), .val (.int lo), .val (.int hi), s5] [] := by
    intro m0
    induction m0 with
    | zero =>
      intro a b lo hi s5 hlo hhi h1a hbN hm hI hs5 T X
      refine r_iloadN 20 X d4_19 rfl ?_
      refine r_iload 22 X d4_20 rfl ?_
      refine r_icmpY 78 X d4_22 (tlt ((ltI hhi hlo).mpr (by omega))).2.2.1 ?_
      refine r_iconst 79 X (-1 : Int32) d4_78 rfl ?_
      refine r_retI X d4_79 (by decide) (by decide) ?_
      exact ⟨_, rfl, Or.inr ⟨fun k h1 h2 h3 => by have := hI k h1 h2 h3; omega, rfl⟩, rfl⟩
    | succ m0 ih =>
      intro a b lo hi s5 hlo hhi h1a hbN hm hI hs5 T X
      have hmid : a ≤ b → a ≤ (a + b) / 2 ∧ (a + b) / 2 ≤ b := fun q => by omega
      refine r_iloadN 20 X d4_19 rfl ?_
      refine r_iload 22 X d4_20 rfl ?_
      by_cases h22_1 : hi < lo
      · refine r_icmpY 78 X d4_22 (tlt h22_1).2.2.1 ?_
        refine r_iconst 79 X (-1 : Int32) d4_78 rfl ?_
        refine r_retI X d4_79 (by decide) (by decide) ?_
        exact ⟨_, rfl, Or.inr ⟨fun k h1 h2 h3 => by have := hI k h1 h2 h3; have := (ltI hhi hlo).mp h22_1; omega, rfl⟩, rfl⟩
      · refine r_icmpN 25 X d4_22 (flt h22_1).2.2.1 ?_
        refine r_iloadN 26 X d4_25 rfl ?_
        refine r_iload 28 X d4_26 rfl ?_
        refine r_iadd 29 X d4_28 ?_
        refine r_iconst 30 X (1 : Int32) d4_29 rfl ?_
        refine r_iushr 31 X d4_30 ?_
        have hab := mt (ltI hhi hlo).mpr h22_1
        obtain ⟨md, emd, hmd⟩ : ∃ d : Int32, (((lo + hi).toUInt32 >>> ((1 : Int32) &&& 31).toUInt32).toInt32) = d ∧ d.toInt = (((a + b) / 2 : Nat) : Int) := own_mid hlo hhi (by omega) (by omega)
        refine r_topI emd ?_
        refine r_istore 33 X #[.val (.ref a1), .val (.int (1 : Int32)), .val (.int q), .val (.int lo), .val (.int hi), .val (.int md)] d4_31 (own_s5 hs5) ?_
        refine r_aloadN 34 X d4_33 rfl rfl ?_
        refine r_getfield 37 X (host := "") (Or.inl (hw _ (List.mem_of_getElem? (i := 22) rfl))) Via.refl F_a1_target d4_34 ?_
        intro T X
        refine r_iload 39 X d4_37 rfl ?_
        refine r_iaload 40 X A_a3 (i := ((a + b) / 2)) (v := (.int (gf ((a + b) / 2)))) hmd (by omega) rfl d4_39 ?_
        refine r_iloadN 41 X d4_40 rfl ?_
        by_cases h41_2 : (gf ((a + b) / 2)) < q
        · refine r_icmpN 44 X d4_41 (tlt h41_2).2.1 ?_
          refine r_iload 46 X d4_44 rfl ?_
          refine r_iconst 47 X (1 : Int32) d4_46 rfl ?_
          refine r_iadd 48 X d4_47 ?_
          refine r_istoreN 49 X #[.val (.ref a1), .val (.int (1 : Int32)), .val (.int q), .val (.int (md + (1 : Int32))), .val (.int hi), .val (.int md)] d4_48 rfl ?_
          refine r_goto 75 X d4_49 ?_
          refine r_goto 19 X d4_75 ?_
          exact ih ((a + b) / 2 + 1) b _ _ _ (addI hmd (b := 1) rfl (by omega) (by omega)) hhi (by omega) hbN (by omega) (fun k h1 h2 h3 => by have h4 := hI k h1 h2 h3; refine ⟨Nat.lt_of_not_le fun h5 => ?_, h4.2⟩; have h6 := own_le hsrt h1 h5 (by omega); rw [h3] at h6; have := (ltI rfl rfl).mp h41_2; omega) (One.val rfl) _ X
        · refine r_icmpY 52 X d4_41 (flt h41_2).2.1 ?_
          refine r_aloadN 53 X d4_52 rfl rfl ?_
          refine r_getfield 56 X (host := "") (Or.inl (hw _ (List.mem_of_getElem? (i := 22) rfl))) Via.refl F_a1_target d4_53 ?_
          intro T X
          refine r_iload 58 X d4_56 rfl ?_
          refine r_iaload 59 X A_a3 (i := ((a + b) / 2)) (v := (.int (gf ((a + b) / 2)))) hmd (by omega) rfl d4_58 ?_
          refine r_iloadN 60 X d4_59 rfl ?_
          by_cases h60_3 : q < (gf ((a + b) / 2))
          · refine r_icmpN 63 X d4_60 (tlt h60_3).2.2.2 ?_
            refine r_iload 65 X d4_63 rfl ?_
            refine r_iconst 66 X (1 : Int32) d4_65 rfl ?_
            refine r_isub 67 X d4_66 ?_
            refine r_istore 69 X #[.val (.ref a1), .val (.int (1 : Int32)), .val (.int q), .val (.int lo), .val (.int (md - (1 : Int32))), .val (.int md)] d4_67 rfl ?_
            refine r_goto 75 X d4_69 ?_
            refine r_goto 19 X d4_75 ?_
            exact ih a ((a + b) / 2 - 1) _ _ _ hlo ((subI hmd (b := 1) rfl (by omega) (by omega)).trans (by omega)) h1a (by omega) (by omega) (fun k h1 h2 h3 => by have h4 := hI k h1 h2 h3; refine ⟨h4.1, ?_⟩; have : k < (a + b) / 2 := Nat.lt_of_not_le fun h5 => (by have h6 := own_le hsrt (by omega) h5 h2; rw [h3] at h6; have := (ltI rfl rfl).mp h60_3; omega); omega) (One.val rfl) _ X
          · refine r_icmpY 72 X d4_60 (flt h60_3).2.2.2 ?_
            refine r_iload 74 X d4_72 rfl ?_
            refine r_retI X d4_74 (by decide) (by decide) ?_
            exact ⟨_, rfl, Or.inl ⟨(a + b) / 2, by omega, by omega, Int32.toInt_inj.mp (by have h1 := mt (ltI rfl rfl).mpr h41_2; have h2 := mt (ltI rfl rfl).mpr h60_3; omega), hmd⟩, rfl⟩
  exact loop N 1 N _ _ _ rfl hh1 (Nat.le_refl 1) (Nat.le_refl N) (by omega) (fun k h1 h2 _ => ⟨h1, h2⟩) One.u _ X
theorem own_n1 {z : Int32} {N : Nat} (h : z.toInt = (N : Int)) (h5 : N ≤ 5) : (1 + z - 1).toInt = (N : Int) := (subI (addI (a := 1) rfl h (by omega) (by omega)) (b := 1) rfl (by omega) (by omega)).trans (by omega)
theorem own_srt {gf : Nat → Int32} {t0 t1 t2 t3 t4 : Int32} {N : Nat} (h1 : t0.toInt < t1.toInt) (h2 : t1.toInt < t2.toInt) (h3 : t2.toInt < t3.toInt) (h4 : t3.toInt < t4.toInt) (g1 : 1 ≤ N → gf 1 = t0) (g2 : 2 ≤ N → gf 2 = t1) (g3 : 3 ≤ N → gf 3 = t2) (g4 : 4 ≤ N → gf 4 = t3) (g5 : 5 ≤ N → gf 5 = t4) (hN5 : N ≤ 5 := by omega) : ∀ i j, 1 ≤ i → i < j → j ≤ N → (gf i).toInt < (gf j).toInt := by
  intro i j hi hij hj
  have e : ∀ k, 1 ≤ k → k ≤ N → gf k = (if k = 1 then t0 else if k = 2 then t1 else if k = 3 then t2 else if k = 4 then t3 else t4) := by
    intro k hk1 hk2
    have : k = 1 ∨ k = 2 ∨ k = 3 ∨ k = 4 ∨ k = 5 := by omega
    rcases this with rfl | rfl | rfl | rfl | rfl
    · simp [g1 (by omega)]
    · simp [g2 (by omega)]
    · simp [g3 (by omega)]
    · simp [g4 (by omega)]
    · simp [g5 (by omega)]
  rw [e i hi (by omega), e j (by omega) hj]
  repeat' split
  all_goals omega
theorem own_end {gf : Nat → Int32} {t0 t1 t2 t3 t4 q z r : Int32} {N : Nat} (hz : z.toInt = (N : Int)) (h1N : 1 ≤ N) (hN5 : N ≤ 5) (h1 : t0.toInt < t1.toInt) (h2 : t1.toInt < t2.toInt) (h3 : t2.toInt < t3.toInt) (h4 : t3.toInt < t4.toInt) (g1 : 1 ≤ N → gf 1 = t0) (g2 : 2 ≤ N → gf 2 = t1) (g3 : 3 ≤ N → gf 3 = t2) (g4 : 4 ≤ N → gf 4 = t3) (g5 : 5 ≤ N → gf 5 = t4)
    (hr : (∃ k : Nat, 1 ≤ k ∧ k ≤ N ∧ gf k = q ∧ r.toInt = (k : Int)) ∨ ((∀ k, 1 ≤ k → k ≤ N → gf k ≠ q) ∧ r = -1)) : r = stepE z t4 q (stepE z t3 q (stepE z t2 q (stepE z t1 q (stepE z t0 q (-1) 0 1) 1 2) 2 3) 3 4) 4 5 := by
  have lt : ∀ (i : Int32) (k : Nat), i.toInt = (k : Int) → ((i < z) = (k < N)) := fun i k hi => by rw [ltI hi hz]; exact propext ⟨fun q => by omega, fun q => by omega⟩
  have ne : ∀ {a b : Int32}, a.toInt < b.toInt → a ≠ b := fun h e => by subst e; omega
  have d01 := ne h1
  have d12 := ne h2
  have d23 := ne h3
  have d34 := ne h4
  have d02 : t0 ≠ t2 := ne (by omega)
  have d03 : t0 ≠ t3 := ne (by omega)
  have d04 : t0 ≠ t4 := ne (by omega)
  have d13 : t1 ≠ t3 := ne (by omega)
  have d14 : t1 ≠ t4 := ne (by omega)
  have d24 : t2 ≠ t4 := ne (by omega)
  rcases hr with ⟨k, k1, k2, hk, hrk⟩ | ⟨hn, rfl⟩
  · have : k = 1 ∨ k = 2 ∨ k = 3 ∨ k = 4 ∨ k = 5 := by omega
    rcases this with rfl | rfl | rfl | rfl | rfl
    · have e := (g1 k2).symm.trans hk; subst e
      obtain rfl : r = 1 := Int32.toInt_inj.mp hrk
      rw [stepE_no (fun _ => d04.symm), stepE_no (fun _ => d03.symm), stepE_no (fun _ => d02.symm), stepE_no (fun _ => d01.symm), stepE_yes (by rw [lt 0 0 rfl]; omega) rfl]
    · have e := (g2 k2).symm.trans hk; subst e
      obtain rfl : r = 2 := Int32.toInt_inj.mp hrk
      rw [stepE_no (fun _ => d14.symm), stepE_no (fun _ => d13.symm), stepE_no (fun _ => d12.symm), stepE_yes (by rw [lt 1 1 rfl]; omega) rfl]
    · have e := (g3 k2).symm.trans hk; subst e
      obtain rfl : r = 3 := Int32.toInt_inj.mp hrk
      rw [stepE_no (fun _ => d24.symm), stepE_no (fun _ => d23.symm), stepE_yes (by rw [lt 2 2 rfl]; omega) rfl]
    · have e := (g4 k2).symm.trans hk; subst e
      obtain rfl : r = 4 := Int32.toInt_inj.mp hrk
      rw [stepE_no (fun _ => d34.symm), stepE_yes (by rw [lt 3 3 rfl]; omega) rfl]
    · have e := (g5 k2).symm.trans hk; subst e
      obtain rfl : r = 5 := Int32.toInt_inj.mp hrk
      rw [stepE_yes (by rw [lt 4 4 rfl]; omega) rfl]
  · rw [stepE_no (fun h e => hn 5 (by omega) (by rw [lt 4 4 rfl] at h; omega) (by rw [g5 (by rw [lt 4 4 rfl] at h; omega)]; exact e)), stepE_no (fun h e => hn 4 (by omega) (by rw [lt 3 3 rfl] at h; omega) (by rw [g4 (by rw [lt 3 3 rfl] at h; omega)]; exact e)), stepE_no (fun h e => hn 3 (by omega) (by rw [lt 2 2 rfl] at h; omega) (by rw [g3 (by rw [lt 2 2 rfl] at h; omega)]; exact e)), stepE_no (fun h e => hn 2 (by omega) (by rw [lt 1 1 rfl] at h; omega) (by rw [g2 (by rw [lt 1 1 rfl] at h; omega)]; exact e)), stepE_no (fun h e => hn 1 (by omega) (by omega) (by rw [g1 (by omega)]; exact e))]
theorem pn_0 : plainName "com/example/heliotrope/heliotrope/model/MdpFindTransitionPinLaw" = true := by first | (simp [plainName, overriddenIn]; done) | decide +kernel
theorem ef_0 (m : MethodId) (x0 : Int32) (x1 : Int32) (x2 : Int64) (x3 : Int32) : entryFrame m #[(.int x0), (.int x1), (.long x2), (.int x3)] maxLocals = mkF m 0 #[.val (.int x0), .val (.int x1), .val (.long x2), .second, .val (.int x3), .unset, .unset, .unset, .unset, .unset, .unset, .unset, .unset, .unset, .unset, .unset, .unset, .unset, .unset, .unset, .unset, .unset] [] := by first | (simp [entryFrame, mkF, argsToLocals, Value.category, maxLocals]; done) | rfl
set_option maxRecDepth 65536 in
set_option maxHeartbeats 40000000 in
theorem rm0 (l : Launch) (Z : State) (a0 : Array Value) (hw : ∀ d ∈ tables_1, d.before a0 Z = true) (n0 : Nat) (h : Heap) (Z0 : n0 ≤ h.size) (p0 : Int32) (p1 : Int32) (q2 : Int64) (p3 : Int32)  :
    Met1 l Z n0 tables_1 x code maxLocals ret room_1 #[(.int p0), (.int p1), (.long q2), (.int p3)] h (fun v h' => v = some (.int 1)) := by
  refine met_of (plainFor_of_name pn_0) Z0 (fun m => ef_0 m p0 p1 q2 p3) ?_
  intro p e s m below meth c T hs0 X
  refine r_iconst 1 X (1 : Int32) at_0 rfl ?_
  refine r_iloadN 2 X at_1 rfl ?_
  refine r_bipush 4 X (7 : Int32) at_2 rfl ?_
  refine r_iand 5 X at_4 ?_
  refine r_iconst 6 X (5 : Int32) at_5 rfl ?_
  refine r_irem 7 X at_6 (by decide) ?_
  refine r_iadd 8 X at_7 ?_
  obtain ⟨z, N, ez, hN, h1N, hN5⟩ := own_n p0
  refine r_topI ez ?_
  refine r_istore 10 X #[.val (.int p0), .val (.int p1), .val (.long q2), .second, .val (.int p3), .val (.int z), .unset, .unset, .unset, .unset, .unset, .unset, .unset, .unset, .unset, .unset, .unset, .unset, .unset, .unset, .unset, .unset] at_8 rfl ?_
  refine r_iloadN 11 X at_10 rfl ?_
  refine r_bipush 13 X (8 : Int32) at_11 rfl ?_
  refine r_iand 14 X at_13 ?_
  have J22_1 : ∀ (T : State), Cx p l e room_1 s m #[(.int p0), (.int p1), (.long q2), (.int p3)] below meth c Z code maxLocals x.cls ret x.name n0 T h 0 0 → Run p e below m (Fin1 below s n0 (fun v h' => v = some (.int 1)) room_1.cells room_1.slots) T 22 #[.val (.int p0), .val (.int p1), .val (.long q2), .second, .val (.int p3), .val (.int z), .unset, .unset, .unset, .unset, .unset, .unset, .unset, .unset, .unset, .unset, .unset, .unset, .unset, .unset, .unset, .unset] [(.int (b2i (¬ ((p0 &&& (8 : Int32)) = (0 : Int32)))))] := by
    intro T X
    refine r_istore 24 X #[.val (.int p0), .val (.int p1), .val (.long q2), .second, .val (.int p3), .val (.int z), .val (.int (b2i (¬ ((p0 &&& (8 : Int32)) = (0 : Int32))))), .unset, .unset, .unset, .unset, .unset, .unset, .unset, .unset, .unset, .unset, .unset, .unset, .unset, .unset, .unset] at_22 rfl ?_
    refine r_iloadN 25 X at_24 rfl ?_
    refine r_ldcInt 27 X (hw _ (List.mem_of_getElem? (i := 0) rfl)) at_25 ?_
    refine r_iand 28 X at_27 ?_
    refine r_ldcInt 30 X (hw _ (List.mem_of_getElem? (i := 1) rfl)) at_28 ?_
    refine r_irem 31 X at_30 (by decide) ?_
    obtain ⟨bs, ebs, bl, bu⟩ := own_base p1
    refine r_topI ebs ?_
    refine r_istore 33 X #[.val (.int p0), .val (.int p1), .val (.long q2), .second, .val (.int p3), .val (.int z), .val (.int (b2i (¬ ((p0 &&& (8 : Int32)) = (0 : Int32))))), .val (.int bs), .unset, .unset, .unset, .unset, .unset, .unset, .unset, .unset, .unset, .unset, .unset, .unset, .unset, .unset] at_31 rfl ?_
    refine r_iload 35 X at_33 rfl ?_
    refine r_lloadN 36 X at_35 rfl ?_
    refine r_ldc2Long 39 X (hw _ (List.mem_of_getElem? (i := 2) rfl)) at_36 ?_
    refine r_land 40 X at_39 ?_
    refine r_l2i 41 X at_40 ?_
    obtain ⟨d0, ed0, dl0, du0⟩ := own_gap q2
    refine r_topI ed0 ?_
    refine r_iadd 42 X at_41 ?_
    obtain ⟨t0, et0, ht0⟩ : ∃ t : Int32, bs + d0 = t ∧ t.toInt = bs.toInt + d0.toInt := ⟨_, rfl, addI rfl rfl (by omega) (by omega)⟩
    refine r_topI et0 ?_
    refine r_istore 44 X #[.val (.int p0), .val (.int p1), .val (.long q2), .second, .val (.int p3), .val (.int z), .val (.int (b2i (¬ ((p0 &&& (8 : Int32)) = (0 : Int32))))), .val (.int bs), .val (.int t0), .unset, .unset, .unset, .unset, .unset, .unset, .unset, .unset, .unset, .unset, .unset, .unset, .unset] at_42 rfl ?_
    refine r_iload 46 X at_44 rfl ?_
    refine r_iconst 47 X (1 : Int32) at_46 rfl ?_
    refine r_iadd 48 X at_47 ?_
    refine r_lloadN 49 X at_48 rfl ?_
    refine r_iconst 50 X (3 : Int32) at_49 rfl ?_
    refine r_lushr 51 X at_50 ?_
    refine r_ldc2Long 54 X (hw _ (List.mem_of_getElem? (i := 2) rfl)) at_51 ?_
    refine r_land 55 X at_54 ?_
    refine r_l2i 56 X at_55 ?_
    obtain ⟨d1, ed1, dl1, du1⟩ := own_gap ((q2.toUInt64 >>> ((3 : Int32) &&& 0x3f).toInt64.toUInt64).toInt64)
    refine r_topI ed1 ?_
    refine r_iadd 57 X at_56 ?_
    obtain ⟨t1, et1, ht1⟩ := own_up (a := t0) (d := d1) (by omega) (by omega) dl1 du1
    have hT1 : t0.toInt < t1.toInt := by omega
    refine r_topI et1 ?_
    refine r_istore 59 X #[.val (.int p0), .val (.int p1), .val (.long q2), .second, .val (.int p3), .val (.int z), .val (.int (b2i (¬ ((p0 &&& (8 : Int32)) = (0 : Int32))))), .val (.int bs), .val (.int t0), .val (.int t1), .unset, .unset, .unset, .unset, .unset, .unset, .unset, .unset, .unset, .unset, .unset, .unset] at_57 rfl ?_
    refine r_iload 61 X at_59 rfl ?_
    refine r_iconst 62 X (1 : Int32) at_61 rfl ?_
    refine r_iadd 63 X at_62 ?_
    refine r_lloadN 64 X at_63 rfl ?_
    refine r_bipush 66 X (6 : Int32) at_64 rfl ?_
    refine r_lushr 67 X at_66 ?_
    refine r_ldc2Long 70 X (hw _ (List.mem_of_getElem? (i := 2) rfl)) at_67 ?_
    refine r_land 71 X at_70 ?_
    refine r_l2i 72 X at_71 ?_
    obtain ⟨d2, ed2, dl2, du2⟩ := own_gap ((q2.toUInt64 >>> ((6 : Int32) &&& 0x3f).toInt64.toUInt64).toInt64)
    refine r_topI ed2 ?_
    refine r_iadd 73 X at_72 ?_
    obtain ⟨t2, et2, ht2⟩ := own_up (a := t1) (d := d2) (by omega) (by omega) dl2 du2
    have hT2 : t1.toInt < t2.toInt := by omega
    refine r_topI et2 ?_
    refine r_istore 75 X #[.val (.int p0), .val (.int p1), .val (.long q2), .second, .val (.int p3), .val (.int z), .val (.int (b2i (¬ ((p0 &&& (8 : Int32)) = (0 : Int32))))), .val (.int bs), .val (.int t0), .val (.int t1), .val (.int t2), .unset, .unset, .unset, .unset, .unset, .unset, .unset, .unset, .unset, .unset, .unset] at_73 rfl ?_
    refine r_iload 77 X at_75 rfl ?_
    refine r_iconst 78 X (1 : Int32) at_77 rfl ?_
    refine r_iadd 79 X at_78 ?_
    refine r_lloadN 80 X at_79 rfl ?_
    refine r_bipush 82 X (9 : Int32) at_80 rfl ?_
    refine r_lushr 83 X at_82 ?_
    refine r_ldc2Long 86 X (hw _ (List.mem_of_getElem? (i := 2) rfl)) at_83 ?_
    refine r_land 87 X at_86 ?_
    refine r_l2i 88 X at_87 ?_
    obtain ⟨d3, ed3, dl3, du3⟩ := own_gap ((q2.toUInt64 >>> ((9 : Int32) &&& 0x3f).toInt64.toUInt64).toInt64)
    refine r_topI ed3 ?_
    refine r_iadd 89 X at_88 ?_
    obtain ⟨t3, et3, ht3⟩ := own_up (a := t2) (d := d3) (by omega) (by omega) dl3 du3
    have hT3 : t2.toInt < t3.toInt := by omega
    refine r_topI et3 ?_
    refine r_istore 91 X #[.val (.int p0), .val (.int p1), .val (.long q2), .second, .val (.int p3), .val (.int z), .val (.int (b2i (¬ ((p0 &&& (8 : Int32)) = (0 : Int32))))), .val (.int bs), .val (.int t0), .val (.int t1), .val (.int t2), .val (.int t3), .unset, .unset, .unset, .unset, .unset, .unset, .unset, .unset, .unset, .unset] at_89 rfl ?_
    refine r_iload 93 X at_91 rfl ?_
    refine r_iconst 94 X (1 : Int32) at_93 rfl ?_
    refine r_iadd 95 X at_94 ?_
    refine r_lloadN 96 X at_95 rfl ?_
    refine r_bipush 98 X (12 : Int32) at_96 rfl ?_
    refine r_lushr 99 X at_98 ?_
    refine r_ldc2Long 102 X (hw _ (List.mem_of_getElem? (i := 2) rfl)) at_99 ?_
    refine r_land 103 X at_102 ?_
    refine r_l2i 104 X at_103 ?_
    obtain ⟨d4, ed4, dl4, du4⟩ := own_gap ((q2.toUInt64 >>> ((12 : Int32) &&& 0x3f).toInt64.toUInt64).toInt64)
    refine r_topI ed4 ?_
    refine r_iadd 105 X at_104 ?_
    obtain ⟨t4, et4, ht4⟩ := own_up (a := t3) (d := d4) (by omega) (by omega) dl4 du4
    have hT4 : t3.toInt < t4.toInt := by omega
    refine r_topI et4 ?_
    refine r_istore 107 X #[.val (.int p0), .val (.int p1), .val (.long q2), .second, .val (.int p3), .val (.int z), .val (.int (b2i (¬ ((p0 &&& (8 : Int32)) = (0 : Int32))))), .val (.int bs), .val (.int t0), .val (.int t1), .val (.int t2), .val (.int t3), .val (.int t4), .unset, .unset, .unset, .unset, .unset, .unset, .unset, .unset, .unset] at_105 rfl ?_
    have J130 : ∀ (T : State) (q : Int32), Cx p l e room_1 s m #[(.int p0), (.int p1), (.long q2), (.int p3)] below meth c Z code maxLocals x.cls ret x.name n0 T h 0 0 → Run p e below m (Fin1 below s n0 (fun v h' => v = some (.int 1)) room_1.cells room_1.slots) T 130 #[.val (.int p0), .val (.int p1), .val (.long q2), .second, .val (.int p3), .val (.int z), .val (.int (b2i (¬ ((p0 &&& (8 : Int32)) = (0 : Int32))))), .val (.int bs), .val (.int t0), .val (.int t1), .val (.int t2), .val (.int t3), .val (.int t4), .unset, .unset, .unset, .unset, .unset, .unset, .unset, .unset, .unset] [.int q] := by
      intro T q X
      refine r_istore 132 X #[.val (.int p0), .val (.int p1), .val (.long q2), .second, .val (.int p3), .val (.int z), .val (.int (b2i (¬ ((p0 &&& (8 : Int32)) = (0 : Int32))))), .val (.int bs), .val (.int t0), .val (.int t1), .val (.int t2), .val (.int t3), .val (.int t4), .val (.int q), .unset, .unset, .unset, .unset, .unset, .unset, .unset, .unset] at_130 rfl ?_
      refine r_iconst 133 X (5 : Int32) at_132 rfl ?_
      refine r_newarray 135 X 5 5 (hw _ (List.mem_of_getElem? (i := 3) rfl)) at_133 (by decide) (by decide) (by decide) (by decide) (by decide) ?_
      intro T h2 b2 g2 gn_b2 E2 A_b2 X
      replace A_b2 : AF Z h2 b2 .int 5 (fun j => .int ((fun _ => (0 : Int32)) j)) := A_b2
      refine r_dup 136 X at_135 rfl ?_
      refine r_iconst 137 X (0 : Int32) at_136 rfl ?_
      refine r_iload 139 X at_137 rfl ?_
      refine r_iastore 140 X A_b2 (i := 0) (v := (.int t0)) (by decide) (by decide) rfl gn_b2 at_139 ?_
      intro T h3 W3 X
      have A_b2 := A_b2.setI W3
      refine r_dup 141 X at_140 rfl ?_
      refine r_iconst 142 X (1 : Int32) at_141 rfl ?_
      refine r_iload 144 X at_142 rfl ?_
      refine r_iastore 145 X A_b2 (i := 1) (v := (.int t1)) (by decide) (by decide) rfl gn_b2 at_144 ?_
      intro T h4 W4 X
      have A_b2 := A_b2.setI W4
      refine r_dup 146 X at_145 rfl ?_
      refine r_iconst 147 X (2 : Int32) at_146 rfl ?_
      refine r_iload 149 X at_147 rfl ?_
      refine r_iastore 150 X A_b2 (i := 2) (v := (.int t2)) (by decide) (by decide) rfl gn_b2 at_149 ?_
      intro T h5 W5 X
      have A_b2 := A_b2.setI W5
      refine r_dup 151 X at_150 rfl ?_
      refine r_iconst 152 X (3 : Int32) at_151 rfl ?_
      refine r_iload 154 X at_152 rfl ?_
      refine r_iastore 155 X A_b2 (i := 3) (v := (.int t3)) (by decide) (by decide) rfl gn_b2 at_154 ?_
      intro T h6 W6 X
      have A_b2 := A_b2.setI W6
      refine r_dup 156 X at_155 rfl ?_
      refine r_iconst 157 X (4 : Int32) at_156 rfl ?_
      refine r_iload 159 X at_157 rfl ?_
      refine r_iastore 160 X A_b2 (i := 4) (v := (.int t4)) (by decide) (by decide) rfl gn_b2 at_159 ?_
      intro T h7 W7 X
      have A_b2 := A_b2.setI W7
      refine r_astore 162 X #[.val (.int p0), .val (.int p1), .val (.long q2), .second, .val (.int p3), .val (.int z), .val (.int (b2i (¬ ((p0 &&& (8 : Int32)) = (0 : Int32))))), .val (.int bs), .val (.int t0), .val (.int t1), .val (.int t2), .val (.int t3), .val (.int t4), .val (.int q), .val (.ref b2), .unset, .unset, .unset, .unset, .unset, .unset, .unset] at_160 rfl rfl ?_
      refine r_bipush 164 X (8 : Int32) at_162 rfl ?_
      refine r_newarray 166 X 8 8 (hw _ (List.mem_of_getElem? (i := 3) rfl)) at_164 (by decide) (by decide) (by decide) (by decide) (by decide) ?_
      intro T h8 b8 g8 gn_b8 E8 A_b8 X
      have ne_b2_b8 : b2 ≠ b8 := Nat.ne_of_lt (Nat.lt_of_lt_of_eq A_b2.lt g8.symm)
      have A_b2 := A_b2.ext E8
      replace A_b8 : AF Z h8 b8 .int 8 (fun j => .int ((fun _ => (0 : Int32)) j)) := A_b8
      refine r_astore 168 X #[.val (.int p0), .val (.int p1), .val (.long q2), .second, .val (.int p3), .val (.int z), .val (.int (b2i (¬ ((p0 &&& (8 : Int32)) = (0 : Int32))))), .val (.int bs), .val (.int t0), .val (.int t1), .val (.int t2), .val (.int t3), .val (.int t4), .val (.int q), .val (.ref b2), .val (.ref b8), .unset, .unset, .unset, .unset, .unset, .unset] at_166 rfl rfl ?_
      refine r_aload 170 X at_168 rfl rfl ?_
      refine r_iconst 171 X (0 : Int32) at_170 rfl ?_
      refine r_aload 173 X at_171 rfl rfl ?_
      refine r_iload 175 X at_173 rfl ?_
      refine r_iload 177 X at_175 rfl ?_
      refine r_iconst 178 X (0 : Int32) at_177 rfl ?_
      refine r_callS 181 X (st := [(.int (0 : Int32)), (.ref b8)]) (rmAt l Z a0 hw n0 _ X.sz b2 z q (0 : Int32) (updI (updI (updI (updI (updI (fun _ => (0 : Int32)) 0 t0) 1 t1) 2 t2) 3 t3) 4 t4) N 0 hN h1N hN5 (by decide) (by decide) A_b2) (hw _ (List.mem_of_getElem? (i := 4) rfl)) (hw _ (List.mem_of_getElem? (i := 5) rfl)) (hw _ (List.mem_of_getElem? (i := 7) rfl)) (hw _ (List.mem_of_getElem? (i := 6) rfl)) (by decide) pd_0 [(.ref b2), (.int z), (.int q), (.int (0 : Int32))] rfl rfl 2 (Nat.le_of_eq rfl) rfl (by decide) (by decide) (by decide) (by decide) at_178 ?_
      rintro T h9 v9 ⟨r9, rfl, hr9, rfl⟩ X
      change Run _ _ _ _ _ _ _ _ [(.int r9), (.int (0 : Int32)), (.ref b8)]
      refine r_iastore 182 X A_b8 (i := 0) (v := (.int r9)) (by decide) (by decide) rfl gn_b8 at_181 ?_
      intro T h10 W10 X
      have A_b2 := A_b2.other W10 ne_b2_b8
      have A_b8 := A_b8.setI W10
      refine r_aload 184 X at_182 rfl rfl ?_
      refine r_iconst 185 X (1 : Int32) at_184 rfl ?_
      refine r_aload 187 X at_185 rfl rfl ?_
      refine r_iload 189 X at_187 rfl ?_
      refine r_iload 191 X at_189 rfl ?_
      refine r_iconst 192 X (1 : Int32) at_191 rfl ?_
      refine r_callS 195 X (st := [(.int (1 : Int32)), (.ref b8)]) (rmAt l Z a0 hw n0 _ X.sz b2 z q (1 : Int32) (updI (updI (updI (updI (updI (fun _ => (0 : Int32)) 0 t0) 1 t1) 2 t2) 3 t3) 4 t4) N 1 hN h1N hN5 (by decide) (by decide) A_b2) (hw _ (List.mem_of_getElem? (i := 4) rfl)) (hw _ (List.mem_of_getElem? (i := 5) rfl)) (hw _ (List.mem_of_getElem? (i := 7) rfl)) (hw _ (List.mem_of_getElem? (i := 6) rfl)) (by decide) pd_0 [(.ref b2), (.int z), (.int q), (.int (1 : Int32))] rfl rfl 2 (Nat.le_of_eq rfl) rfl (by decide) (by decide) (by decide) (by decide) at_192 ?_
      rintro T h11 v11 ⟨r11, rfl, hr11, rfl⟩ X
      change Run _ _ _ _ _ _ _ _ [(.int r11), (.int (1 : Int32)), (.ref b8)]
      refine r_iastore 196 X A_b8 (i := 1) (v := (.int r11)) (by decide) (by decide) rfl gn_b8 at_195 ?_
      intro T h12 W12 X
      have A_b2 := A_b2.other W12 ne_b2_b8
      have A_b8 := A_b8.setI W12
      refine r_aload 198 X at_196 rfl rfl ?_
      refine r_iconst 199 X (2 : Int32) at_198 rfl ?_
      refine r_aload 201 X at_199 rfl rfl ?_
      refine r_iload 203 X at_201 rfl ?_
      refine r_iload 205 X at_203 rfl ?_
      refine r_iconst 206 X (2 : Int32) at_205 rfl ?_
      refine r_callS 209 X (st := [(.int (2 : Int32)), (.ref b8)]) (rmAt l Z a0 hw n0 _ X.sz b2 z q (2 : Int32) (updI (updI (updI (updI (updI (fun _ => (0 : Int32)) 0 t0) 1 t1) 2 t2) 3 t3) 4 t4) N 2 hN h1N hN5 (by decide) (by decide) A_b2) (hw _ (List.mem_of_getElem? (i := 4) rfl)) (hw _ (List.mem_of_getElem? (i := 5) rfl)) (hw _ (List.mem_of_getElem? (i := 7) rfl)) (hw _ (List.mem_of_getElem? (i := 6) rfl)) (by decide) pd_0 [(.ref b2), (.int z), (.int q), (.int (2 : Int32))] rfl rfl 2 (Nat.le_of_eq rfl) rfl (by decide) (by decide) (by decide) (by decide) at_206 ?_
      rintro T h13 v13 ⟨r13, rfl, hr13, rfl⟩ X
      change Run _ _ _ _ _ _ _ _ [(.int r13), (.int (2 : Int32)), (.ref b8)]
      refine r_iastore 210 X A_b8 (i := 2) (v := (.int r13)) (by decide) (by decide) rfl gn_b8 at_209 ?_
      intro T h14 W14 X
      have A_b2 := A_b2.other W14 ne_b2_b8
      have A_b8 := A_b8.setI W14
      refine r_aload 212 X at_210 rfl rfl ?_
      refine r_iconst 213 X (3 : Int32) at_212 rfl ?_
      refine r_aload 215 X at_213 rfl rfl ?_
      refine r_iload 217 X at_215 rfl ?_
      refine r_iload 219 X at_217 rfl ?_
      refine r_iconst 220 X (3 : Int32) at_219 rfl ?_
      refine r_callS 223 X (st := [(.int (3 : Int32)), (.ref b8)]) (rmAt l Z a0 hw n0 _ X.sz b2 z q (3 : Int32) (updI (updI (updI (updI (updI (fun _ => (0 : Int32)) 0 t0) 1 t1) 2 t2) 3 t3) 4 t4) N 3 hN h1N hN5 (by decide) (by decide) A_b2) (hw _ (List.mem_of_getElem? (i := 4) rfl)) (hw _ (List.mem_of_getElem? (i := 5) rfl)) (hw _ (List.mem_of_getElem? (i := 7) rfl)) (hw _ (List.mem_of_getElem? (i := 6) rfl)) (by decide) pd_0 [(.ref b2), (.int z), (.int q), (.int (3 : Int32))] rfl rfl 2 (Nat.le_of_eq rfl) rfl (by decide) (by decide) (by decide) (by decide) at_220 ?_
      rintro T h15 v15 ⟨r15, rfl, hr15, rfl⟩ X
      change Run _ _ _ _ _ _ _ _ [(.int r15), (.int (3 : Int32)), (.ref b8)]
      refine r_iastore 224 X A_b8 (i := 3) (v := (.int r15)) (by decide) (by decide) rfl gn_b8 at_223 ?_
      intro T h16 W16 X
      have A_b2 := A_b2.other W16 ne_b2_b8
      have A_b8 := A_b8.setI W16
      refine r_aload 226 X at_224 rfl rfl ?_
      refine r_iconst 227 X (4 : Int32) at_226 rfl ?_
      refine r_aload 229 X at_227 rfl rfl ?_
      refine r_iload 231 X at_229 rfl ?_
      refine r_iload 233 X at_231 rfl ?_
      refine r_iconst 234 X (4 : Int32) at_233 rfl ?_
      refine r_callS 237 X (st := [(.int (4 : Int32)), (.ref b8)]) (rmAt l Z a0 hw n0 _ X.sz b2 z q (4 : Int32) (updI (updI (updI (updI (updI (fun _ => (0 : Int32)) 0 t0) 1 t1) 2 t2) 3 t3) 4 t4) N 4 hN h1N hN5 (by decide) (by decide) A_b2) (hw _ (List.mem_of_getElem? (i := 4) rfl)) (hw _ (List.mem_of_getElem? (i := 5) rfl)) (hw _ (List.mem_of_getElem? (i := 7) rfl)) (hw _ (List.mem_of_getElem? (i := 6) rfl)) (by decide) pd_0 [(.ref b2), (.int z), (.int q), (.int (4 : Int32))] rfl rfl 2 (Nat.le_of_eq rfl) rfl (by decide) (by decide) (by decide) (by decide) at_234 ?_
      rintro T h17 v17 ⟨r17, rfl, hr17, rfl⟩ X
      change Run _ _ _ _ _ _ _ _ [(.int r17), (.int (4 : Int32)), (.ref b8)]
      refine r_iastore 238 X A_b8 (i := 4) (v := (.int r17)) (by decide) (by decide) rfl gn_b8 at_237 ?_
      intro T h18 W18 X
      have A_b2 := A_b2.other W18 ne_b2_b8
      have A_b8 := A_b8.setI W18
      refine r_aload 240 X at_238 rfl rfl ?_
      refine r_iconst 241 X (5 : Int32) at_240 rfl ?_
      refine r_aload 243 X at_241 rfl rfl ?_
      refine r_iload 245 X at_243 rfl ?_
      refine r_iload 247 X at_245 rfl ?_
      refine r_iconst 248 X (5 : Int32) at_247 rfl ?_
      refine r_callS 251 X (st := [(.int (5 : Int32)), (.ref b8)]) (rmAt l Z a0 hw n0 _ X.sz b2 z q (5 : Int32) (updI (updI (updI (updI (updI (fun _ => (0 : Int32)) 0 t0) 1 t1) 2 t2) 3 t3) 4 t4) N 5 hN h1N hN5 (by decide) (by decide) A_b2) (hw _ (List.mem_of_getElem? (i := 4) rfl)) (hw _ (List.mem_of_getElem? (i := 5) rfl)) (hw _ (List.mem_of_getElem? (i := 7) rfl)) (hw _ (List.mem_of_getElem? (i := 6) rfl)) (by decide) pd_0 [(.ref b2), (.int z), (.int q), (.int (5 : Int32))] rfl rfl 2 (Nat.le_of_eq rfl) rfl (by decide) (by decide) (by decide) (by decide) at_248 ?_
      rintro T h19 v19 ⟨r19, rfl, hr19, rfl⟩ X
      change Run _ _ _ _ _ _ _ _ [(.int r19), (.int (5 : Int32)), (.ref b8)]
      refine r_iastore 252 X A_b8 (i := 5) (v := (.int r19)) (by decide) (by decide) rfl gn_b8 at_251 ?_
      intro T h20 W20 X
      have A_b2 := A_b2.other W20 ne_b2_b8
      have A_b8 := A_b8.setI W20
      refine r_aload 254 X at_252 rfl rfl ?_
      refine r_bipush 256 X (6 : Int32) at_254 rfl ?_
      refine r_aload 258 X at_256 rfl rfl ?_
      refine r_iload 260 X at_258 rfl ?_
      refine r_iload 262 X at_260 rfl ?_
      refine r_bipush 264 X (6 : Int32) at_262 rfl ?_
      refine r_callS 267 X (st := [(.int (6 : Int32)), (.ref b8)]) (rmAt l Z a0 hw n0 _ X.sz b2 z q (6 : Int32) (updI (updI (updI (updI (updI (fun _ => (0 : Int32)) 0 t0) 1 t1) 2 t2) 3 t3) 4 t4) N 6 hN h1N hN5 (by decide) (by decide) A_b2) (hw _ (List.mem_of_getElem? (i := 4) rfl)) (hw _ (List.mem_of_getElem? (i := 5) rfl)) (hw _ (List.mem_of_getElem? (i := 7) rfl)) (hw _ (List.mem_of_getElem? (i := 6) rfl)) (by decide) pd_0 [(.ref b2), (.int z), (.int q), (.int (6 : Int32))] rfl rfl 2 (Nat.le_of_eq rfl) rfl (by decide) (by decide) (by decide) (by decide) at_264 ?_
      rintro T h21 v21 ⟨r21, rfl, hr21, rfl⟩ X
      change Run _ _ _ _ _ _ _ _ [(.int r21), (.int (6 : Int32)), (.ref b8)]
      refine r_iastore 268 X A_b8 (i := 6) (v := (.int r21)) (by decide) (by decide) rfl gn_b8 at_267 ?_
      intro T h22 W22 X
      have A_b2 := A_b2.other W22 ne_b2_b8
      have A_b8 := A_b8.setI W22
      refine r_aload 270 X at_268 rfl rfl ?_
      refine r_bipush 272 X (7 : Int32) at_270 rfl ?_
      refine r_aload 274 X at_272 rfl rfl ?_
      refine r_iload 276 X at_274 rfl ?_
      refine r_iload 278 X at_276 rfl ?_
      refine r_bipush 280 X (7 : Int32) at_278 rfl ?_
      refine r_callS 283 X (st := [(.int (7 : Int32)), (.ref b8)]) (rmAt l Z a0 hw n0 _ X.sz b2 z q (7 : Int32) (updI (updI (updI (updI (updI (fun _ => (0 : Int32)) 0 t0) 1 t1) 2 t2) 3 t3) 4 t4) N 7 hN h1N hN5 (by decide) (by decide) A_b2) (hw _ (List.mem_of_getElem? (i := 4) rfl)) (hw _ (List.mem_of_getElem? (i := 5) rfl)) (hw _ (List.mem_of_getElem? (i := 7) rfl)) (hw _ (List.mem_of_getElem? (i := 6) rfl)) (by decide) pd_0 [(.ref b2), (.int z), (.int q), (.int (7 : Int32))] rfl rfl 2 (Nat.le_of_eq rfl) rfl (by decide) (by decide) (by decide) (by decide) at_280 ?_
      rintro T h23 v23 ⟨r23, rfl, hr23, rfl⟩ X
      change Run _ _ _ _ _ _ _ _ [(.int r23), (.int (7 : Int32)), (.ref b8)]
      refine r_iastore 284 X A_b8 (i := 7) (v := (.int r23)) (by decide) (by decide) rfl gn_b8 at_283 ?_
      intro T h24 W24 X
      have A_b2 := A_b2.other W24 ne_b2_b8
      have A_b8 := A_b8.setI W24
      refine r_iconst 285 X (2 : Int32) at_284 rfl ?_
      refine r_newarray 287 X 2 2 (hw _ (List.mem_of_getElem? (i := 3) rfl)) at_285 (by decide) (by decide) (by decide) (by decide) (by decide) ?_
      intro T h25 b25 g25 gn_b25 E25 A_b25 X
      have ne_b8_b25 : b8 ≠ b25 := Nat.ne_of_lt (Nat.lt_of_lt_of_eq A_b8.lt g25.symm)
      have ne_b2_b25 : b2 ≠ b25 := Nat.ne_of_lt (Nat.lt_of_lt_of_eq A_b2.lt g25.symm)
      have A_b2 := A_b2.ext E25
      have A_b8 := A_b8.ext E25
      replace A_b25 : AF Z h25 b25 .int 2 (fun j => .int ((fun _ => (0 : Int32)) j)) := A_b25
      refine r_dup 288 X at_287 rfl ?_
      refine r_iconst 289 X (0 : Int32) at_288 rfl ?_
      refine r_iconst 290 X (0 : Int32) at_289 rfl ?_
      refine r_iastore 291 X A_b25 (i := 0) (v := (.int (0 : Int32))) (by decide) (by decide) rfl gn_b25 at_290 ?_
      intro T h26 W26 X
      have A_b2 := A_b2.other W26 ne_b2_b25
      have A_b8 := A_b8.other W26 ne_b8_b25
      have A_b25 := A_b25.setI W26
      refine r_dup 292 X at_291 rfl ?_
      refine r_iconst 293 X (1 : Int32) at_292 rfl ?_
      refine r_iconst 294 X (4 : Int32) at_293 rfl ?_
      refine r_iastore 295 X A_b25 (i := 1) (v := (.int (4 : Int32))) (by decide) (by decide) rfl gn_b25 at_294 ?_
      intro T h27 W27 X
      have A_b2 := A_b2.other W27 ne_b2_b25
      have A_b8 := A_b8.other W27 ne_b8_b25
      have A_b25 := A_b25.setI W27
      refine r_astore 297 X #[.val (.int p0), .val (.int p1), .val (.long q2), .second, .val (.int p3), .val (.int z), .val (.int (b2i (¬ ((p0 &&& (8 : Int32)) = (0 : Int32))))), .val (.int bs), .val (.int t0), .val (.int t1), .val (.int t2), .val (.int t3), .val (.int t4), .val (.int q), .val (.ref b2), .val (.ref b8), .val (.ref b25), .unset, .unset, .unset, .unset, .unset] at_295 rfl rfl ?_
      refine r_iconst 298 X (5 : Int32) at_297 rfl ?_
      refine r_newarray 300 X 5 5 (hw _ (List.mem_of_getElem? (i := 3) rfl)) at_298 (by decide) (by decide) (by decide) (by decide) (by decide) ?_
      intro T h28 b28 g28 gn_b28 E28 A_b28 X
      have ne_b8_b28 : b8 ≠ b28 := Nat.ne_of_lt (Nat.lt_of_lt_of_eq A_b8.lt g28.symm)
      have ne_b2_b28 : b2 ≠ b28 := Nat.ne_of_lt (Nat.lt_of_lt_of_eq A_b2.lt g28.symm)
      have ne_b25_b28 : b25 ≠ b28 := Nat.ne_of_lt (Nat.lt_of_lt_of_eq A_b25.lt g28.symm)
      have A_b2 := A_b2.ext E28
      have A_b8 := A_b8.ext E28
      have A_b25 := A_b25.ext E28
      replace A_b28 : AF Z h28 b28 .int 5 (fun j => .int ((fun _ => (0 : Int32)) j)) := A_b28
      refine r_dup 301 X at_300 rfl ?_
      refine r_iconst 302 X (0 : Int32) at_301 rfl ?_
      refine r_iconst 303 X (0 : Int32) at_302 rfl ?_
      refine r_iastore 304 X A_b28 (i := 0) (v := (.int (0 : Int32))) (by decide) (by decide) rfl gn_b28 at_303 ?_
      intro T h29 W29 X
      have A_b2 := A_b2.other W29 ne_b2_b28
      have A_b8 := A_b8.other W29 ne_b8_b28
      have A_b25 := A_b25.other W29 ne_b25_b28
      have A_b28 := A_b28.setI W29
      refine r_dup 305 X at_304 rfl ?_
      refine r_iconst 306 X (1 : Int32) at_305 rfl ?_
      refine r_iconst 307 X (1 : Int32) at_306 rfl ?_
      refine r_iastore 308 X A_b28 (i := 1) (v := (.int (1 : Int32))) (by decide) (by decide) rfl gn_b28 at_307 ?_
      intro T h30 W30 X
      have A_b2 := A_b2.other W30 ne_b2_b28
      have A_b8 := A_b8.other W30 ne_b8_b28
      have A_b25 := A_b25.other W30 ne_b25_b28
      have A_b28 := A_b28.setI W30
      refine r_dup 309 X at_308 rfl ?_
      refine r_iconst 310 X (2 : Int32) at_309 rfl ?_
      refine r_iconst 311 X (1 : Int32) at_310 rfl ?_
      refine r_iload 313 X at_311 rfl ?_
      refine r_iadd 314 X at_313 ?_
      refine r_iastore 315 X A_b28 (i := 2) (v := (.int ((1 : Int32) + z))) (by decide) (by decide) rfl gn_b28 at_314 ?_
      intro T h31 W31 X
      have A_b2 := A_b2.other W31 ne_b2_b28
      have A_b8 := A_b8.other W31 ne_b8_b28
      have A_b25 := A_b25.other W31 ne_b25_b28
      have A_b28 := A_b28.setI W31
      refine r_dup 316 X at_315 rfl ?_
      refine r_iconst 317 X (3 : Int32) at_316 rfl ?_
      refine r_iconst 318 X (2 : Int32) at_317 rfl ?_
      refine r_iload 320 X at_318 rfl ?_
      refine r_iadd 321 X at_320 ?_
      refine r_iastore 322 X A_b28 (i := 3) (v := (.int ((2 : Int32) + z))) (by decide) (by decide) rfl gn_b28 at_321 ?_
      intro T h32 W32 X
      have A_b2 := A_b2.other W32 ne_b2_b28
      have A_b8 := A_b8.other W32 ne_b8_b28
      have A_b25 := A_b25.other W32 ne_b25_b28
      have A_b28 := A_b28.setI W32
      refine r_dup 323 X at_322 rfl ?_
      refine r_iconst 324 X (4 : Int32) at_323 rfl ?_
      refine r_bipush 326 X (8 : Int32) at_324 rfl ?_
      refine r_iastore 327 X A_b28 (i := 4) (v := (.int (8 : Int32))) (by decide) (by decide) rfl gn_b28 at_326 ?_
      intro T h33 W33 X
      have A_b2 := A_b2.other W33 ne_b2_b28
      have A_b8 := A_b8.other W33 ne_b8_b28
      have A_b25 := A_b25.other W33 ne_b25_b28
      have A_b28 := A_b28.setI W33
      refine r_astore 329 X #[.val (.int p0), .val (.int p1), .val (.long q2), .second, .val (.int p3), .val (.int z), .val (.int (b2i (¬ ((p0 &&& (8 : Int32)) = (0 : Int32))))), .val (.int bs), .val (.int t0), .val (.int t1), .val (.int t2), .val (.int t3), .val (.int t4), .val (.int q), .val (.ref b2), .val (.ref b8), .val (.ref b25), .val (.ref b28), .unset, .unset, .unset, .unset] at_327 rfl rfl ?_
      refine r_bipush 331 X (8 : Int32) at_329 rfl ?_
      refine r_newarray 333 X 8 8 (hw _ (List.mem_of_getElem? (i := 8) rfl)) at_331 (by decide) (by decide) (by decide) (by decide) (by decide) ?_
      intro T h34 b34 g34 gn_b34 E34 A_b34 X
      have ne_b28_b34 : b28 ≠ b34 := Nat.ne_of_lt (Nat.lt_of_lt_of_eq A_b28.lt g34.symm)
      have ne_b8_b34 : b8 ≠ b34 := Nat.ne_of_lt (Nat.lt_of_lt_of_eq A_b8.lt g34.symm)
      have ne_b2_b34 : b2 ≠ b34 := Nat.ne_of_lt (Nat.lt_of_lt_of_eq A_b2.lt g34.symm)
      have ne_b25_b34 : b25 ≠ b34 := Nat.ne_of_lt (Nat.lt_of_lt_of_eq A_b25.lt g34.symm)
      have A_b2 := A_b2.ext E34
      have A_b8 := A_b8.ext E34
      have A_b25 := A_b25.ext E34
      have A_b28 := A_b28.ext E34
      replace A_b34 : AF Z h34 b34 .double 8 (fun _ => (.double 0)) := A_b34
      refine r_dup 334 X at_333 rfl ?_
      refine r_iconst 335 X (0 : Int32) at_334 rfl ?_
      refine r_dconst1 336 X at_335 ?_
      refine r_dastore 337 X A_b34 (i := 0) (v := (.double FP.dconst1)) (by decide) (by decide) rfl gn_b34 at_336 ?_
      intro T h35 W35 X
      have A_b2 := A_b2.other W35 ne_b2_b34
      have A_b8 := A_b8.other W35 ne_b8_b34
      have A_b25 := A_b25.other W35 ne_b25_b34
      have A_b28 := A_b28.other W35 ne_b28_b34
      have A_b34 := A_b34.set W35
      refine r_dup 338 X at_337 rfl ?_
      refine r_iconst 339 X (1 : Int32) at_338 rfl ?_
      refine r_dconst1 340 X at_339 ?_
      refine r_dastore 341 X A_b34 (i := 1) (v := (.double FP.dconst1)) (by decide) (by decide) rfl gn_b34 at_340 ?_
      intro T h36 W36 X
      have A_b2 := A_b2.other W36 ne_b2_b34
      have A_b8 := A_b8.other W36 ne_b8_b34
      have A_b25 := A_b25.other W36 ne_b25_b34
      have A_b28 := A_b28.other W36 ne_b28_b34
      have A_b34 := A_b34.set W36
      refine r_dup 342 X at_341 rfl ?_
      refine r_iconst 343 X (2 : Int32) at_342 rfl ?_
      refine r_dconst1 344 X at_343 ?_
      refine r_dastore 345 X A_b34 (i := 2) (v := (.double FP.dconst1)) (by decide) (by decide) rfl gn_b34 at_344 ?_
      intro T h37 W37 X
      have A_b2 := A_b2.other W37 ne_b2_b34
      have A_b8 := A_b8.other W37 ne_b8_b34
      have A_b25 := A_b25.other W37 ne_b25_b34
      have A_b28 := A_b28.other W37 ne_b28_b34
      have A_b34 := A_b34.set W37
      refine r_dup 346 X at_345 rfl ?_
      refine r_iconst 347 X (3 : Int32) at_346 rfl ?_
      refine r_dconst1 348 X at_347 ?_
      refine r_dastore 349 X A_b34 (i := 3) (v := (.double FP.dconst1)) (by decide) (by decide) rfl gn_b34 at_348 ?_
      intro T h38 W38 X
      have A_b2 := A_b2.other W38 ne_b2_b34
      have A_b8 := A_b8.other W38 ne_b8_b34
      have A_b25 := A_b25.other W38 ne_b25_b34
      have A_b28 := A_b28.other W38 ne_b28_b34
      have A_b34 := A_b34.set W38
      refine r_dup 350 X at_349 rfl ?_
      refine r_iconst 351 X (4 : Int32) at_350 rfl ?_
      refine r_dconst1 352 X at_351 ?_
      refine r_dastore 353 X A_b34 (i := 4) (v := (.double FP.dconst1)) (by decide) (by decide) rfl gn_b34 at_352 ?_
      intro T h39 W39 X
      have A_b2 := A_b2.other W39 ne_b2_b34
      have A_b8 := A_b8.other W39 ne_b8_b34
      have A_b25 := A_b25.other W39 ne_b25_b34
      have A_b28 := A_b28.other W39 ne_b28_b34
      have A_b34 := A_b34.set W39
      refine r_dup 354 X at_353 rfl ?_
      refine r_iconst 355 X (5 : Int32) at_354 rfl ?_
      refine r_dconst1 356 X at_355 ?_
      refine r_dastore 357 X A_b34 (i := 5) (v := (.double FP.dconst1)) (by decide) (by decide) rfl gn_b34 at_356 ?_
      intro T h40 W40 X
      have A_b2 := A_b2.other W40 ne_b2_b34
      have A_b8 := A_b8.other W40 ne_b8_b34
      have A_b25 := A_b25.other W40 ne_b25_b34
      have A_b28 := A_b28.other W40 ne_b28_b34
      have A_b34 := A_b34.set W40
      refine r_dup 358 X at_357 rfl ?_
      refine r_bipush 360 X (6 : Int32) at_358 rfl ?_
      refine r_dconst1 361 X at_360 ?_
      refine r_dastore 362 X A_b34 (i := 6) (v := (.double FP.dconst1)) (by decide) (by decide) rfl gn_b34 at_361 ?_
      intro T h41 W41 X
      have A_b2 := A_b2.other W41 ne_b2_b34
      have A_b8 := A_b8.other W41 ne_b8_b34
      have A_b25 := A_b25.other W41 ne_b25_b34
      have A_b28 := A_b28.other W41 ne_b28_b34
      have A_b34 := A_b34.set W41
      refine r_dup 363 X at_362 rfl ?_
      refine r_bipush 365 X (7 : Int32) at_363 rfl ?_
      refine r_dconst1 366 X at_365 ?_
      refine r_dastore 367 X A_b34 (i := 7) (v := (.double FP.dconst1)) (by decide) (by decide) rfl gn_b34 at_366 ?_
      intro T h42 W42 X
      have A_b2 := A_b2.other W42 ne_b2_b34
      have A_b8 := A_b8.other W42 ne_b8_b34
      have A_b25 := A_b25.other W42 ne_b25_b34
      have A_b28 := A_b28.other W42 ne_b28_b34
      have A_b34 := A_b34.set W42
      refine r_astore 369 X #[.val (.int p0), .val (.int p1), .val (.long q2), .second, .val (.int p3), .val (.int z), .val (.int (b2i (¬ ((p0 &&& (8 : Int32)) = (0 : Int32))))), .val (.int bs), .val (.int t0), .val (.int t1), .val (.int t2), .val (.int t3), .val (.int t4), .val (.int q), .val (.ref b2), .val (.ref b8), .val (.ref b25), .val (.ref b28), .val (.ref b34), .unset, .unset, .unset] at_367 rfl rfl ?_
      refine r_new 372 X (hw _ (List.mem_of_getElem? (i := 9) rfl)) (hw _ (List.mem_of_getElem? (i := 10) rfl)) (hw _ (List.mem_of_getElem? (i := 11) rfl)) at_369 (by decide) (by decide) ?_
      intro T h43 b43 g43 gn_b43 E43 A43 D43 X
      have ne_b25_b43 : b25 ≠ b43 := Nat.ne_of_lt (Nat.lt_of_lt_of_eq A_b25.lt g43.symm)
      have ne_b2_b43 : b2 ≠ b43 := Nat.ne_of_lt (Nat.lt_of_lt_of_eq A_b2.lt g43.symm)
      have ne_b28_b43 : b28 ≠ b43 := Nat.ne_of_lt (Nat.lt_of_lt_of_eq A_b28.lt g43.symm)
      have ne_b8_b43 : b8 ≠ b43 := Nat.ne_of_lt (Nat.lt_of_lt_of_eq A_b8.lt g43.symm)
      have ne_b34_b43 : b34 ≠ b43 := Nat.ne_of_lt (Nat.lt_of_lt_of_eq A_b34.lt g43.symm)
      have A_b2 := A_b2.ext E43
      have A_b8 := A_b8.ext E43
      have A_b25 := A_b25.ext E43
      have A_b28 := A_b28.ext E43
      have A_b34 := A_b34.ext E43
      have E_b43 := A43
      have F_b43_firstChoice : Fld Z h43 b43 "com/example/heliotrope/heliotrope/model/Mdp" "firstChoice" "[I" .null := D43 (Or.inr (hw _ (List.mem_of_getElem? (i := 19) rfl))) (ty := (.array .int)) (by decide)
      have F_b43_firstTransition : Fld Z h43 b43 "com/example/heliotrope/heliotrope/model/Mdp" "firstTransition" "[I" .null := D43 (Or.inr (hw _ (List.mem_of_getElem? (i := 21) rfl))) (ty := (.array .int)) (by decide)
      have F_b43_target : Fld Z h43 b43 "com/example/heliotrope/heliotrope/model/Mdp" "target" "[I" .null := D43 (Or.inr (hw _ (List.mem_of_getElem? (i := 23) rfl))) (ty := (.array .int)) (by decide)
      have F_b43_probability : Fld Z h43 b43 "com/example/heliotrope/heliotrope/model/Mdp" "probability" "[D" .null := D43 (Or.inr (hw _ (List.mem_of_getElem? (i := 25) rfl))) (ty := (.array .double)) (by decide)
      refine r_dup 373 X at_372 rfl ?_
      refine r_aload 375 X at_373 rfl rfl ?_
      refine r_aload 377 X at_375 rfl rfl ?_
      refine r_aload 379 X at_377 rfl rfl ?_
      refine r_aload 381 X at_379 rfl rfl ?_
      refine r_special 384 X (st := [(.ref b43)]) (a := b43) (rmIni l Z a0 hw n0 _ X.sz b43 b25 b28 b8 b34 E_b43 F_b43_firstChoice F_b43_firstTransition F_b43_target F_b43_probability gn_b43) rfl rfl (hw _ (List.mem_of_getElem? (i := 12) rfl)) (hw _ (List.mem_of_getElem? (i := 13) rfl)) (hw _ (List.mem_of_getElem? (i := 14) rfl)) (hw _ (List.mem_of_getElem? (i := 11) rfl)) (by decide) pd_1 [(.ref b25), (.ref b28), (.ref b8), (.ref b34)] rfl rfl 1 (Nat.le_of_eq rfl) rfl (by decide) (by decide) (by decide) (by decide) at_381 ?_
      rintro T h44 v44 ⟨rfl, K44, Fa44, Fb44⟩ X
      have A_b2 := A_b2.keep K44 (ninS ne_b2_b43 nin0)
      have A_b8 := A_b8.keep K44 (ninS ne_b8_b43 nin0)
      have A_b25 := A_b25.keep K44 (ninS ne_b25_b43 nin0)
      have A_b28 := A_b28.keep K44 (ninS ne_b28_b43 nin0)
      have A_b34 := A_b34.keep K44 (ninS ne_b34_b43 nin0)
      have E_b43 := E_b43.keep K44
      have F_b43_firstTransition := Fa44
      have F_b43_target := Fb44
      change Run _ _ _ _ _ _ _ _ [(.ref b43)]
      refine r_astore 386 X #[.val (.int p0), .val (.int p1), .val (.long q2), .second, .val (.int p3), .val (.int z), .val (.int (b2i (¬ ((p0 &&& (8 : Int32)) = (0 : Int32))))), .val (.int bs), .val (.int t0), .val (.int t1), .val (.int t2), .val (.int t3), .val (.int t4), .val (.int q), .val (.ref b2), .val (.ref b8), .val (.ref b25), .val (.ref b28), .val (.ref b34), .val (.ref b43), .unset, .unset] at_384 rfl rfl ?_
      refine r_aload 388 X at_386 rfl rfl ?_
      refine r_iconst 389 X (1 : Int32) at_388 rfl ?_
      refine r_iload 391 X at_389 rfl ?_
      refine r_virtual 394 X (st := []) (a := b43) (rmFind l Z a0 hw n0 _ X.sz b43 b28 b8 q (updI (updI (updI (updI (updI (fun _ => (0 : Int32)) 0 (0 : Int32)) 1 (1 : Int32)) 2 ((1 : Int32) + z)) 3 ((2 : Int32) + z)) 4 (8 : Int32)) (updI (updI (updI (updI (updI (updI (updI (updI (fun _ => (0 : Int32)) 0 r9) 1 r11) 2 r13) 3 r15) 4 r17) 5 r19) 6 r21) 7 r23) N (1 + z - 1) (by omega) rfl rfl (own_n1 hN hN5) (own_srt (gf := (updI (updI (updI (updI (updI (updI (updI (updI (fun _ => (0 : Int32)) 0 r9) 1 r11) 2 r13) 3 r15) 4 r17) 5 r19) 6 r21) 7 r23)) hT1 hT2 hT3 hT4 (fun q => hr11 (by decide) q) (fun q => hr13 (by decide) q) (fun q => hr15 (by decide) q) (fun q => hr17 (by decide) q) (fun q => hr19 (by decide) q)) F_b43_firstTransition F_b43_target A_b28 A_b8) E_b43 (hw _ (List.mem_of_getElem? (i := 26) rfl)) (hw _ (List.mem_of_getElem? (i := 27) rfl)) (hw _ (List.mem_of_getElem? (i := 29) rfl)) (hw _ (List.mem_of_getElem? (i := 29) rfl)) (hw _ (List.mem_of_getElem? (i := 28) rfl)) (hw _ (List.mem_of_getElem? (i := 30) rfl)) (hw _ (List.mem_of_getElem? (i := 11) rfl)) (by decide) pd_2 [(.int (1 : Int32)), (.int q)] rfl rfl 0 (Nat.le_of_eq rfl) rfl (by decide) (by decide) (by decide) (by decide) at_391 ?_
      rintro T h45 v45 ⟨r, rfl, hr, rfl⟩ X
      change Run _ _ _ _ _ _ _ _ [(.int r)]
      refine r_istore 396 X #[.val (.int p0), .val (.int p1), .val (.long q2), .second, .val (.int p3), .val (.int z), .val (.int (b2i (¬ ((p0 &&& (8 : Int32)) = (0 : Int32))))), .val (.int bs), .val (.int t0), .val (.int t1), .val (.int t2), .val (.int t3), .val (.int t4), .val (.int q), .val (.ref b2), .val (.ref b8), .val (.ref b25), .val (.ref b28), .val (.ref b34), .val (.ref b43), .val (.int r), .unset] at_394 rfl ?_
      refine r_iconst 397 X (-1 : Int32) at_396 rfl ?_
      refine r_istore 399 X #[.val (.int p0), .val (.int p1), .val (.long q2), .second, .val (.int p3), .val (.int z), .val (.int (b2i (¬ ((p0 &&& (8 : Int32)) = (0 : Int32))))), .val (.int bs), .val (.int t0), .val (.int t1), .val (.int t2), .val (.int t3), .val (.int t4), .val (.int q), .val (.ref b2), .val (.ref b8), .val (.ref b25), .val (.ref b28), .val (.ref b34), .val (.ref b43), .val (.int r), .val (.int (-1 : Int32))] at_397 rfl ?_
      have J478 : ∀ (T : State) (ev : Int32), r = ev → Cx p l e room_1 s m #[(.int p0), (.int p1), (.long q2), (.int p3)] below meth c Z code maxLocals x.cls ret x.name n0 T h44 6 32 → Run p e below m (Fin1 below s n0 (fun v h' => v = some (.int 1)) room_1.cells room_1.slots) T 478 #[.val (.int p0), .val (.int p1), .val (.long q2), .second, .val (.int p3), .val (.int z), .val (.int (b2i (¬ ((p0 &&& (8 : Int32)) = (0 : Int32))))), .val (.int bs), .val (.int t0), .val (.int t1), .val (.int t2), .val (.int t3), .val (.int t4), .val (.int q), .val (.ref b2), .val (.ref b8), .val (.ref b25), .val (.ref b28), .val (.ref b34), .val (.ref b43), .val (.int r), .val (.int ev)] [] := by
        intro T ev he X
        refine r_iload 480 X at_478 rfl ?_
        refine r_iload 482 X at_480 rfl ?_
        refine r_icmpN 485 X at_482 (teq he).2 ?_
        refine r_iconst 486 X (1 : Int32) at_485 rfl ?_
        refine r_goto 490 X at_486 ?_
        refine r_retZ (z := (1 : Int32)) X at_490 rfl (by decide) (by decide) ?_
        exact rfl
      have J462 : ∀ (T : State) (ev : Int32), r = (stepE z t4 q ev 4 5) → Cx p l e room_1 s m #[(.int p0), (.int p1), (.long q2), (.int p3)] below meth c Z code maxLocals x.cls ret x.name n0 T h44 6 32 → Run p e below m (Fin1 below s n0 (fun v h' => v = some (.int 1)) room_1.cells room_1.slots) T 462 #[.val (.int p0), .val (.int p1), .val (.long q2), .second, .val (.int p3), .val (.int z), .val (.int (b2i (¬ ((p0 &&& (8 : Int32)) = (0 : Int32))))), .val (.int bs), .val (.int t0), .val (.int t1), .val (.int t2), .val (.int t3), .val (.int t4), .val (.int q), .val (.ref b2), .val (.ref b8), .val (.ref b25), .val (.ref b28), .val (.ref b34), .val (.ref b43), .val (.int r), .val (.int ev)] [] := by
        intro T ev he X
        refine r_iload 464 X at_462 rfl ?_
        refine r_iconst 465 X (4 : Int32) at_464 rfl ?_
        by_cases h465_46 : (4 : Int32) < z
        · refine r_icmpN 468 X at_465 (tlt h465_46).2.2.2 ?_
          refine r_iload 470 X at_468 rfl ?_
          refine r_iload 472 X at_470 rfl ?_
          by_cases h472_47 : t4 = q
          · refine r_icmpN 475 X at_472 (teq h472_47).2 ?_
            refine r_iconst 476 X (5 : Int32) at_475 rfl ?_
            refine r_istore 478 X #[.val (.int p0), .val (.int p1), .val (.long q2), .second, .val (.int p3), .val (.int z), .val (.int (b2i (¬ ((p0 &&& (8 : Int32)) = (0 : Int32))))), .val (.int bs), .val (.int t0), .val (.int t1), .val (.int t2), .val (.int t3), .val (.int t4), .val (.int q), .val (.ref b2), .val (.ref b8), .val (.ref b25), .val (.ref b28), .val (.ref b34), .val (.ref b43), .val (.int r), .val (.int (5 : Int32))] at_476 rfl ?_
            exact J478 _ _ (by rw [he]; simp [stepE, h465_46, h472_47]) X
          · refine r_icmpY 478 X at_472 (feq h472_47).2 ?_
            exact J478 _ _ (by rw [he]; simp [stepE, h465_46, h472_47]) X
        · refine r_icmpY 478 X at_465 (flt h465_46).2.2.2 ?_
          exact J478 _ _ (by rw [he]; simp [stepE, h465_46]) X
      have J446 : ∀ (T : State) (ev : Int32), r = (stepE z t4 q (stepE z t3 q ev 3 4) 4 5) → Cx p l e room_1 s m #[(.int p0), (.int p1), (.long q2), (.int p3)] below meth c Z code maxLocals x.cls ret x.name n0 T h44 6 32 → Run p e below m (Fin1 below s n0 (fun v h' => v = some (.int 1)) room_1.cells room_1.slots) T 446 #[.val (.int p0), .val (.int p1), .val (.long q2), .second, .val (.int p3), .val (.int z), .val (.int (b2i (¬ ((p0 &&& (8 : Int32)) = (0 : Int32))))), .val (.int bs), .val (.int t0), .val (.int t1), .val (.int t2), .val (.int t3), .val (.int t4), .val (.int q), .val (.ref b2), .val (.ref b8), .val (.ref b25), .val (.ref b28), .val (.ref b34), .val (.ref b43), .val (.int r), .val (.int ev)] [] := by
        intro T ev he X
        refine r_iload 448 X at_446 rfl ?_
        refine r_iconst 449 X (3 : Int32) at_448 rfl ?_
        by_cases h449_48 : (3 : Int32) < z
        · refine r_icmpN 452 X at_449 (tlt h449_48).2.2.2 ?_
          refine r_iload 454 X at_452 rfl ?_
          refine r_iload 456 X at_454 rfl ?_
          by_cases h456_49 : t3 = q
          · refine r_icmpN 459 X at_456 (teq h456_49).2 ?_
            refine r_iconst 460 X (4 : Int32) at_459 rfl ?_
            refine r_istore 462 X #[.val (.int p0), .val (.int p1), .val (.long q2), .second, .val (.int p3), .val (.int z), .val (.int (b2i (¬ ((p0 &&& (8 : Int32)) = (0 : Int32))))), .val (.int bs), .val (.int t0), .val (.int t1), .val (.int t2), .val (.int t3), .val (.int t4), .val (.int q), .val (.ref b2), .val (.ref b8), .val (.ref b25), .val (.ref b28), .val (.ref b34), .val (.ref b43), .val (.int r), .val (.int (4 : Int32))] at_460 rfl ?_
            exact J462 _ _ (by rw [he]; simp [stepE, h449_48, h456_49]) X
          · refine r_icmpY 462 X at_456 (feq h456_49).2 ?_
            exact J462 _ _ (by rw [he]; simp [stepE, h449_48, h456_49]) X
        · refine r_icmpY 462 X at_449 (flt h449_48).2.2.2 ?_
          exact J462 _ _ (by rw [he]; simp [stepE, h449_48]) X
      have J430 : ∀ (T : State) (ev : Int32), r = (stepE z t4 q (stepE z t3 q (stepE z t2 q ev 2 3) 3 4) 4 5) → Cx p l e room_1 s m #[(.int p0), (.int p1), (.long q2), (.int p3)] below meth c Z code maxLocals x.cls ret x.name n0 T h44 6 32 → Run p e below m (Fin1 below s n0 (fun v h' => v = some (.int 1)) room_1.cells room_1.slots) T 430 #[.val (.int p0), .val (.int p1), .val (.long q2), .second, .val (.int p3), .val (.int z), .val (.int (b2i (¬ ((p0 &&& (8 : Int32)) = (0 : Int32))))), .val (.int bs), .val (.int t0), .val (.int t1), .val (.int t2), .val (.int t3), .val (.int t4), .val (.int q), .val (.ref b2), .val (.ref b8), .val (.ref b25), .val (.ref b28), .val (.ref b34), .val (.ref b43), .val (.int r), .val (.int ev)] [] := by
        intro T ev he X
        refine r_iload 432 X at_430 rfl ?_
        refine r_iconst 433 X (2 : Int32) at_432 rfl ?_
        by_cases h433_50 : (2 : Int32) < z
        · refine r_icmpN 436 X at_433 (tlt h433_50).2.2.2 ?_
          refine r_iload 438 X at_436 rfl ?_
          refine r_iload 440 X at_438 rfl ?_
          by_cases h440_51 : t2 = q
          · refine r_icmpN 443 X at_440 (teq h440_51).2 ?_
            refine r_iconst 444 X (3 : Int32) at_443 rfl ?_
            refine r_istore 446 X #[.val (.int p0), .val (.int p1), .val (.long q2), .second, .val (.int p3), .val (.int z), .val (.int (b2i (¬ ((p0 &&& (8 : Int32)) = (0 : Int32))))), .val (.int bs), .val (.int t0), .val (.int t1), .val (.int t2), .val (.int t3), .val (.int t4), .val (.int q), .val (.ref b2), .val (.ref b8), .val (.ref b25), .val (.ref b28), .val (.ref b34), .val (.ref b43), .val (.int r), .val (.int (3 : Int32))] at_444 rfl ?_
            exact J446 _ _ (by rw [he]; simp [stepE, h433_50, h440_51]) X
          · refine r_icmpY 446 X at_440 (feq h440_51).2 ?_
            exact J446 _ _ (by rw [he]; simp [stepE, h433_50, h440_51]) X
        · refine r_icmpY 446 X at_433 (flt h433_50).2.2.2 ?_
          exact J446 _ _ (by rw [he]; simp [stepE, h433_50]) X
      have J414 : ∀ (T : State) (ev : Int32), r = (stepE z t4 q (stepE z t3 q (stepE z t2 q (stepE z t1 q ev 1 2) 2 3) 3 4) 4 5) → Cx p l e room_1 s m #[(.int p0), (.int p1), (.long q2), (.int p3)] below meth c Z code maxLocals x.cls ret x.name n0 T h44 6 32 → Run p e below m (Fin1 below s n0 (fun v h' => v = some (.int 1)) room_1.cells room_1.slots) T 414 #[.val (.int p0), .val (.int p1), .val (.long q2), .second, .val (.int p3), .val (.int z), .val (.int (b2i (¬ ((p0 &&& (8 : Int32)) = (0 : Int32))))), .val (.int bs), .val (.int t0), .val (.int t1), .val (.int t2), .val (.int t3), .val (.int t4), .val (.int q), .val (.ref b2), .val (.ref b8), .val (.ref b25), .val (.ref b28), .val (.ref b34), .val (.ref b43), .val (.int r), .val (.int ev)] [] := by
        intro T ev he X
        refine r_iload 416 X at_414 rfl ?_
        refine r_iconst 417 X (1 : Int32) at_416 rfl ?_
        by_cases h417_52 : (1 : Int32) < z
        · refine r_icmpN 420 X at_417 (tlt h417_52).2.2.2 ?_
          refine r_iload 422 X at_420 rfl ?_
          refine r_iload 424 X at_422 rfl ?_
          by_cases h424_53 : t1 = q
          · refine r_icmpN 427 X at_424 (teq h424_53).2 ?_
            refine r_iconst 428 X (2 : Int32) at_427 rfl ?_
            refine r_istore 430 X #[.val (.int p0), .val (.int p1), .val (.long q2), .second, .val (.int p3), .val (.int z), .val (.int (b2i (¬ ((p0 &&& (8 : Int32)) = (0 : Int32))))), .val (.int bs), .val (.int t0), .val (.int t1), .val (.int t2), .val (.int t3), .val (.int t4), .val (.int q), .val (.ref b2), .val (.ref b8), .val (.ref b25), .val (.ref b28), .val (.ref b34), .val (.ref b43), .val (.int r), .val (.int (2 : Int32))] at_428 rfl ?_
            exact J430 _ _ (by rw [he]; simp [stepE, h417_52, h424_53]) X
          · refine r_icmpY 430 X at_424 (feq h424_53).2 ?_
            exact J430 _ _ (by rw [he]; simp [stepE, h417_52, h424_53]) X
        · refine r_icmpY 430 X at_417 (flt h417_52).2.2.2 ?_
          exact J430 _ _ (by rw [he]; simp [stepE, h417_52]) X
      have J399 : ∀ (T : State) (ev : Int32), r = (stepE z t4 q (stepE z t3 q (stepE z t2 q (stepE z t1 q (stepE z t0 q ev 0 1) 1 2) 2 3) 3 4) 4 5) → Cx p l e room_1 s m #[(.int p0), (.int p1), (.long q2), (.int p3)] below meth c Z code maxLocals x.cls ret x.name n0 T h44 6 32 → Run p e below m (Fin1 below s n0 (fun v h' => v = some (.int 1)) room_1.cells room_1.slots) T 399 #[.val (.int p0), .val (.int p1), .val (.long q2), .second, .val (.int p3), .val (.int z), .val (.int (b2i (¬ ((p0 &&& (8 : Int32)) = (0 : Int32))))), .val (.int bs), .val (.int t0), .val (.int t1), .val (.int t2), .val (.int t3), .val (.int t4), .val (.int q), .val (.ref b2), .val (.ref b8), .val (.ref b25), .val (.ref b28), .val (.ref b34), .val (.ref b43), .val (.int r), .val (.int ev)] [] := by
        intro T ev he X
        refine r_iload 401 X at_399 rfl ?_
        by_cases h401_54 : (0 : Int32) < z
        · refine r_ifN 404 X at_401 ((if0 _ _).trans (tlt h401_54).2.2.2) ?_
          refine r_iload 406 X at_404 rfl ?_
          refine r_iload 408 X at_406 rfl ?_
          by_cases h408_55 : t0 = q
          · refine r_icmpN 411 X at_408 (teq h408_55).2 ?_
            refine r_iconst 412 X (1 : Int32) at_411 rfl ?_
            refine r_istore 414 X #[.val (.int p0), .val (.int p1), .val (.long q2), .second, .val (.int p3), .val (.int z), .val (.int (b2i (¬ ((p0 &&& (8 : Int32)) = (0 : Int32))))), .val (.int bs), .val (.int t0), .val (.int t1), .val (.int t2), .val (.int t3), .val (.int t4), .val (.int q), .val (.ref b2), .val (.ref b8), .val (.ref b25), .val (.ref b28), .val (.ref b34), .val (.ref b43), .val (.int r), .val (.int (1 : Int32))] at_412 rfl ?_
            exact J414 _ _ (by rw [he]; simp [stepE, h401_54, h408_55]) X
          · refine r_icmpY 414 X at_408 (feq h408_55).2 ?_
            exact J414 _ _ (by rw [he]; simp [stepE, h401_54, h408_55]) X
        · refine r_ifY 414 X at_401 ((if0 _ _).trans (flt h401_54).2.2.2) ?_
          exact J414 _ _ (by rw [he]; simp [stepE, h401_54]) X
      exact J399 _ _ (own_end (gf := (updI (updI (updI (updI (updI (updI (updI (updI (fun _ => (0 : Int32)) 0 r9) 1 r11) 2 r13) 3 r15) 4 r17) 5 r19) 6 r21) 7 r23)) hN h1N hN5 hT1 hT2 hT3 hT4 (fun q => hr11 (by decide) q) (fun q => hr13 (by decide) q) (fun q => hr15 (by decide) q) (fun q => hr17 (by decide) q) (fun q => hr19 (by decide) q) hr) X
    refine r_iload 109 X at_107 rfl ?_
    by_cases h109_56 : ¬ ((p0 &&& (8 : Int32)) = (0 : Int32))
    · refine r_ifN 112 X at_109 ((if0 _ _).trans (feq (b2i_ne0 h109_56)).1) ?_
      refine r_iload 114 X at_112 rfl ?_
      refine r_goto 130 X at_114 ?_
      exact J130 _ _ X
    · refine r_ifY 117 X at_109 ((if0 _ _).trans (teq (b2i_eq0 h109_56)).1) ?_
      refine r_iload 119 X at_117 rfl ?_
      refine r_iload 121 X at_119 rfl ?_
      refine r_ldcInt 123 X (hw _ (List.mem_of_getElem? (i := 0) rfl)) at_121 ?_
      refine r_iand 124 X at_123 ?_
      refine r_bipush 126 X (29 : Int32) at_124 rfl ?_
      refine r_irem 127 X at_126 (by decide) ?_
      refine r_iadd 128 X at_127 ?_
      refine r_iconst 129 X (2 : Int32) at_128 rfl ?_
      refine r_isub 130 X at_129 ?_
      exact J130 _ _ X
  by_cases h14_57 : (p0 &&& (8 : Int32)) = (0 : Int32)
  · refine r_ifY 21 X at_14 ((if0 _ _).trans (teq h14_57).1) ?_
    refine r_iconst 22 X (0 : Int32) at_21 rfl ?_
    refine r_topI (x' := (b2i (¬ ((p0 &&& (8 : Int32)) = (0 : Int32))))) (by simp [b2i, h14_57]) ?_
    exact J22_1 _ X
  · refine r_ifN 17 X at_14 ((if0 _ _).trans (feq h14_57).1) ?_
    refine r_iconst 18 X (1 : Int32) at_17 rfl ?_
    refine r_goto 22 X at_18 ?_
    refine r_topI (x' := (b2i (¬ ((p0 &&& (8 : Int32)) = (0 : Int32))))) (by simp [b2i, h14_57]) ?_
    exact J22_1 _ X
set_option maxRecDepth 65536 in
set_option maxHeartbeats 40000000 in
theorem comes_1 {Post : Tables → Env → Array Value → State → Outcome → State → Prop} (hpost : ∀ tb e args s v u, (limb_1_1.after args s (.returned v) u = true ∧ limb_1_2.after args s (.returned v) u = true ∧ True) → FrameEnd s (.returned v) u (Jvm.fieldLocs frame_1_writes args s ++ Jvm.arrayLocs frame_1_arrays args s ++ Jvm.staticLocs frame_1_statics s) 24 128 → Post tb e args s (.returned v) u) :
    ArmFor flags0 classFile x code maxLocals ret World_1 tables_1 room_1 Calls_1 rest_1 Pre_1 Post := by
  intro l hfl _ _ p e ha hc hk s m args below hf hA hF happ hP
  obtain ⟨hcalls, hrest, hpre⟩ := hP
  obtain ⟨-, -, -, hnamed, -, -, -, hat⟩ := (Spec.applies_iff hf).mp happ
  obtain ⟨hg, hn⟩ := and_e (Cond.before_iff.mp (show (Jvm.Cond.and given_1 narrow_1).before args s = true from hpre))
  obtain ⟨g1, g2⟩ := and_e hg
  obtain ⟨g3, g4⟩ := and_e g2
  obtain ⟨g5, g6⟩ := and_e g4
  obtain ⟨g7, g8⟩ := and_e g6
  obtain ⟨w0, w1, w2, w3, rfl⟩ : ∃ w0 w1 w2 w3 : Value, args = #[w0, w1, w2, w3] := by
    have hs : args.size = 4 := by simpa [Cond.value, given_1] using g1
    obtain ⟨L⟩ := args
    match L, hs with
    | [w0, w1, w2, w3], _ => exact ⟨w0, w1, w2, w3, rfl⟩
  have hw := fun d (hd : d ∈ tables_1) => atoms_spec (ws := Jvm.Cond.code x code maxLocals ret :: tables_1) hat d (List.mem_cons_of_mem _ hd)
  have hfit : Fit s := fun {y c} hc i hi => by
    obtain ⟨ha, rfl⟩ := Array.getElem?_eq_some_iff.mp hc
    have q := List.all_eq_true.mp ((Array.all_eq_true_iff_forall_mem.mp hF) _ (Array.getElem_mem ha)) i (List.mem_range.mpr hi)
    simpa [Array.getElem?_eq_getElem hi] using q
  obtain ⟨i0, ei0⟩ := is_v g3
  obtain rfl : w0 = (.int i0) := Option.some.inj ei0
  obtain ⟨i1, ei1⟩ := is_v g5
  obtain rfl : w1 = (.int i1) := Option.some.inj ei1
  obtain ⟨i2, ei2⟩ := isL_v g7
  obtain rfl : w2 = (.long i2) := Option.some.inj ei2
  obtain ⟨i3, ei3⟩ := is_v g8
  obtain rfl : w3 = (.int i3) := Option.some.inj ei3
  obtain ⟨n, o, h1, h2, h3, _, L, rfl, ⟨rfl, N, -⟩, hq⟩ := rm0 l s _ hw s.heap.size s.heap (Nat.le_refl _) i0 i1 i2 i3  p e ha hc hk s m _ below hf ((Spec.applies_iff_loose hf).mp happ).1 ⟨rfl, State.Warmed39.refl s, rfl⟩ trivial
  refine ⟨n, _, h1, h2, h3, hpost _ _ _ _ _ _ ⟨Cond.after_iff.mpr rfl, Cond.after_iff.mpr (eq_i res_at (Term.int_eval (1)) rfl), trivial⟩ ⟨hq.1, hq.2.1, (hq.2.2.sift fun y hy => Or.inr (N y hy)).mono (by decide) (by decide)⟩⟩
theorem main_1_1 : Claimed_1_1 := comes_1 fun _ _ _ _ _ _ h hF => ⟨h.1, hF⟩
theorem main_1_2 : Claimed_1_2 := comes_1 fun _ _ _ _ _ _ h hF => ⟨h.2.1, hF⟩
end Jvm.Pilot.@@N@@
namespace Jvm.Pilot.@@N@@
open Jvm Jvm.ClassFile Sem Op Lib Jvm.Free Jvm.Stand Jvm.Pilot.@@N@@.Jvm.D
/-! MADE BY PROGRAM (witnessworld.py) out of the Statement's table words and the real class files: 9 classes; the members and pool entries that the words name. The judged class is class 1, her method 1. -/
namespace start1
open Jvm.ClassFile
def u (s : String) : CpInfo := .utf8 (stringToUtf16 s)
/-- a pool by its gaps: so many unusable entries, then the entry; so many at the end -/
def gap : Nat → List CpInfo → List CpInfo
  | 0, r => r
  | n + 1, r => .unusable :: gap n r
def poolList (es : List (Nat × CpInfo)) (last : Nat) : List CpInfo := es.foldr (fun e r => gap e.1 (e.2 :: r)) (gap last [])
def pool (es : List (Nat × CpInfo)) (last : Nat) : Array CpInfo := ⟨poolList es last⟩
def fileOf (pool : Array CpInfo) (this : Nat) (attrs : Array Attribute := #[]) (ms : Array MethodInfo := #[]) (fl : Nat := 33) (sup : Nat := 0) (ifs : Array Nat := #[]) (fds : Array FieldInfo := #[]) : ClassFile where
  minorVersion := 0
  majorVersion := 65
  constantPool := pool
  accessFlags := fl
  thisClass := this
  superClass := sup
  interfaces := ifs
  fields := fds
  methods := ms
  attributes := attrs
def plain (name : String) (sup : Option ClassId) : Class where
  name := name
  kind := .ordinary
  loader := none
  accessFlags := 33
  super := sup
  interfaces := #[]
  cf := none
  fields := #[]
  methods := #[]
  instanceTypes := #[]
  staticTypes := #[]
  resolved := #[]
  callSites := []
  init := .initialized
  statics := none
  mirror := none

def pool0 : Array CpInfo := pool [(5, u "<init>"), (0, u "()V"), (1, .class_ 10), (1, u "java/lang/Object")] 113

def k0c0 : Code := { maxStack := 0, maxLocals := 1, code := object_method_1_code, exceptionTable := #[], attributes := #[] }
def k0m0 : Method := { name := "<init>", desc := "()V", sig := { parameters := [], returnType := none }, accessFlags := 1, code := some k0c0 }
/-- java/lang/Object -/
def k0 : Class := { plain "java/lang/Object" none with
  accessFlags := 33
  interfaces := #[]
  cf := some (fileOf pool0 8 #[] #[{ accessFlags := 1, nameIndex := 5, descriptorIndex := 6, attributes := #[] }] 33 0 #[] #[])
  fields := #[]
  methods := #[k0m0]
  instanceTypes := #[]
  staticTypes := #[]
  resolved := Array.replicate 124 none
  statics := none }

def pool1 : Array CpInfo := pool [(2, .class_ 4), (1, u "java/lang/Object"), (0, u "<init>"), (0, u "()V"), (0, .integer 2147483647), (0, .integer 2147483616), (0, .long 3), (1, .methodref 12 13), (0, .class_ 14), (0, .nameAndType 15 16), (0, u "com/example/heliotrope/heliotrope/model/MdpFindTransitionPinLaw"), (0, u "at"), (0, u "([IIII)I"), (0, .class_ 18), (0, u "com/example/heliotrope/heliotrope/model/Mdp"), (0, .methodref 17 20), (0, .nameAndType 5 21), (0, u "([I[I[I[D)V"), (0, .methodref 17 23), (0, .nameAndType 24 25), (0, u "findTransition"), (0, u "(II)I"), (2, u "law"), (0, u "(IIJI)Z")] 7

def k1m0 : Method := { name := "<init>", desc := "()V", sig := { parameters := [], returnType := none }, accessFlags := 1, code := none }
def k1c1 : Code := { maxStack := 6, maxLocals := 22, code := code, exceptionTable := #[], attributes := #[] }
def k1m1 : Method := { name := "law", desc := "(IIJI)Z", sig := { parameters := [.int, .int, .long, .int], returnType := some .boolean }, accessFlags := 9, code := some k1c1 }
def k1c2 : Code := { maxStack := 3, maxLocals := 4, code := method_3_code, exceptionTable := #[], attributes := #[] }
def k1m2 : Method := { name := "at", desc := "([IIII)I", sig := { parameters := [(.array .int), .int, .int, .int], returnType := some .int }, accessFlags := 10, code := some k1c2 }
/-- com/example/heliotrope/heliotrope/model/MdpFindTransitionPinLaw -/
def k1 : Class := { plain "com/example/heliotrope/heliotrope/model/MdpFindTransitionPinLaw" (some 0) with
  accessFlags := 49
  interfaces := #[]
  cf := some (fileOf pool1 12 #[] #[{ accessFlags := 1, nameIndex := 5, descriptorIndex := 6, attributes := #[] }, { accessFlags := 9, nameIndex := 28, descriptorIndex := 29, attributes := #[] }, { accessFlags := 10, nameIndex := 15, descriptorIndex := 16, attributes := #[] }] 49 2 #[] #[])
  fields := #[]
  methods := #[k1m0, k1m1, k1m2]
  instanceTypes := #[]
  staticTypes := #[]
  resolved := Array.replicate 37 none
  statics := none }

def pool2 : Array CpInfo := pool [(1, .methodref 2 3), (0, .class_ 4), (0, .nameAndType 5 6), (0, u "java/lang/Object"), (0, u "<init>"), (0, u "()V"), (0, .fieldref 8 9), (0, .class_ 10), (0, .nameAndType 11 12), (0, u "com/example/heliotrope/heliotrope/model/Mdp"), (0, u "firstChoice"), (0, u "[I"), (0, .fieldref 8 14), (0, .nameAndType 15 12), (0, u "firstTransition"), (0, .fieldref 8 17), (0, .nameAndType 18 12), (0, u "target"), (0, .fieldref 8 20), (0, .nameAndType 21 22), (0, u "probability"), (0, u "[D"), (37, u "([I[I[I[D)V"), (10, u "findTransition"), (0, u "(II)I")] 19

def k2c0 : Code := { maxStack := 2, maxLocals := 5, code := prog_87_method_1_code, exceptionTable := #[], attributes := #[] }
def k2m0 : Method := { name := "<init>", desc := "([I[I[I[D)V", sig := { parameters := [(.array .int), (.array .int), (.array .int), (.array .double)], returnType := none }, accessFlags := 0, code := some k2c0 }
def k2c1 : Code := { maxStack := 3, maxLocals := 6, code := prog_87_method_14_code, exceptionTable := #[], attributes := #[] }
def k2m1 : Method := { name := "findTransition", desc := "(II)I", sig := { parameters := [.int, .int], returnType := some .int }, accessFlags := 1, code := some k2c1 }
/-- com/example/heliotrope/heliotrope/model/Mdp -/
def k2 : Class := { plain "com/example/heliotrope/heliotrope/model/Mdp" (some 0) with
  accessFlags := 49
  interfaces := #[]
  cf := some (fileOf pool2 8 #[] #[{ accessFlags := 0, nameIndex := 5, descriptorIndex := 60, attributes := #[] }, { accessFlags := 1, nameIndex := 71, descriptorIndex := 72, attributes := #[] }] 49 2 #[] #[{ accessFlags := 18, nameIndex := 11, descriptorIndex := 12, attributes := #[] }, { accessFlags := 18, nameIndex := 15, descriptorIndex := 12, attributes := #[] }, { accessFlags := 18, nameIndex := 18, descriptorIndex := 12, attributes := #[] }, { accessFlags := 18, nameIndex := 21, descriptorIndex := 22, attributes := #[] }])
  fields := #[{ name := "firstChoice", type := (.array .int), accessFlags := 18, slot := 0, constantValue := 0 }, { name := "firstTransition", type := (.array .int), accessFlags := 18, slot := 1, constantValue := 0 }, { name := "target", type := (.array .int), accessFlags := 18, slot := 2, constantValue := 0 }, { name := "probability", type := (.array .double), accessFlags := 18, slot := 3, constantValue := 0 }]
  methods := #[k2m0, k2m1]
  instanceTypes := #[(.array .int), (.array .int), (.array .int), (.array .double)]
  staticTypes := #[]
  resolved := Array.replicate 92 none
  statics := none }

def pool3 : Array CpInfo := pool [(1, u "java/lang/Cloneable"), (0, .class_ 1), (0, u "java/lang/Object"), (0, .class_ 3)] 3

/-- java/lang/Cloneable -/
def k3 : Class := { plain "java/lang/Cloneable" (some 0) with
  accessFlags := 1537
  interfaces := #[]
  cf := some (fileOf pool3 2 #[] #[] 1537 4 #[] #[])
  fields := #[]
  methods := #[]
  instanceTypes := #[]
  staticTypes := #[]
  resolved := Array.replicate 8 none
  statics := none }

def pool4 : Array CpInfo := pool [(1, u "java/io/Serializable"), (0, .class_ 1), (0, u "java/lang/Object"), (0, .class_ 3)] 3

/-- java/io/Serializable -/
def k4 : Class := { plain "java/io/Serializable" (some 0) with
  accessFlags := 1537
  interfaces := #[]
  cf := some (fileOf pool4 2 #[] #[] 1537 4 #[] #[])
  fields := #[]
  methods := #[]
  instanceTypes := #[]
  staticTypes := #[]
  resolved := Array.replicate 8 none
  statics := none }

/-- the primitive byte -/
def k5 : Class := { plain "byte" none with kind := .primitive 'B', accessFlags := 0x411 }
/-- [B -/
def k6 : Class := { plain "[B" (some 0) with kind := .array 5 .byte, interfaces := #[3, 4], accessFlags := 1041 }

/-- the primitive int -/
def k7 : Class := { plain "int" none with kind := .primitive 'I', accessFlags := 0x411 }
/-- [I -/
def k8 : Class := { plain "[I" (some 0) with kind := .array 7 .int, interfaces := #[3, 4], accessFlags := 1041 }

/-- the primitive double -/
def k9 : Class := { plain "double" none with kind := .primitive 'D', accessFlags := 0x411 }
/-- [D -/
def k10 : Class := { plain "[D" (some 0) with kind := .array 9 .double, interfaces := #[3, 4], accessFlags := 1041 }

def heap : Heap := #[]
def classes : Array Class := #[k0, k1, k2, k3, k4, k5, k6, k7, k8, k9, k10]
def interned : List (Array UInt16 × Addr) := []
def slotsUsed : Nat := 0
def theMethod : MethodId := ⟨1, 1⟩
def args0 : Array Value := #[.int 5, .int 7, .long 3, .int 9]
def aboutOver (below : List Frame) : State where
  vm := { classes := classes, interned := interned.toArray }
  heap := heap
  slotsUsed := slotsUsed
  threads := #[{ frames := .invoking theMethod args0 :: below }]
def below0 : List Frame := [.native { method := ⟨0, 0⟩, args := #[] }]
def about1 : State := aboutOver below0
def p0 : Program := .bare "" "" ""
def e0 : Env := launch0.env 0 0 0
theorem w_frames : about1.frames = Frame.invoking theMethod args0 :: below0 := rfl
set_option maxRecDepth 65536 in
theorem w_args : argsFit about1.vm theMethod args0 = true := by decide +kernel
set_option maxRecDepth 65536 in
theorem w_heap : heapFits about1 = true := by decide +kernel
set_option maxRecDepth 65536 in
theorem w_runnable : about1.curStatus? = some .runnable := by decide +kernel
set_option maxRecDepth 65536 in
theorem w_alone : about1.alone = true := by decide +kernel
set_option maxRecDepth 65536 in
theorem w_named : about1.methodNamed? x = some theMethod := by decide +kernel
set_option maxRecDepth 65536 in
theorem w_hears : about1.hears theMethod below0 = true := by decide +kernel
set_option maxRecDepth 65536 in
theorem w_ripe : about1.ripe theMethod args0 below0 = true := by decide +kernel
theorem w_running : about1.status = .running := rfl
set_option maxRecDepth 65536 in
theorem w_room : about1.hasRoom e0.platform room_1 = true :=
  launch0.hasRoom_least _ room_1 (by decide +kernel) (by decide +kernel) (by decide +kernel) (by decide +kernel) (by decide +kernel) (by decide +kernel)
theorem allAtoms_all (ts : List Jvm.Cond) (a : Array Jvm.Value) (st : Jvm.State) : (allAtoms ts).before a st = ts.all (fun c => c.before a st) := by
  induction ts with
  | nil => rfl
  | cons c t ih =>
    show (Jvm.Cond.and c (allAtoms t)).before a st = _
    rw [Jvm.Cond.before_and, ih, List.all_cons]
def words1 : List Jvm.Cond := Jvm.Cond.code x code maxLocals ret :: tables_1
/-- a 'code' word, met by the world's own term for the bytes: nothing is compared byte by byte -/
theorem code_word {y : MethodName} {bytes : ByteArray} {mx : Nat} {rt : Option FieldType} {a : Array Value} {s : State} {m : MethodId} {meth : Method} {c : Code} (h1 : s.methodNamed? y = some m) (h2 : s.vm.method? m = some meth) (h3 : meth.code = some c) (h4 : c.code = bytes)
    (h5 : (c.maxLocals == mx && c.exceptionTable.isEmpty && decide (c.maxStack ≤ mostOperands) && decide (meth.sig.returnType = rt) && !meth.locks && decide (parseMethodDescriptor y.desc = some meth.sig)) = true) : (Jvm.Cond.code y bytes mx rt).before a s = true := by
  simp only [Bool.and_eq_true, beq_iff_eq, Bool.not_eq_true', decide_eq_true_eq] at h5
  obtain ⟨⟨⟨⟨⟨g1, g2⟩, g3⟩, g4⟩, g5⟩, g6⟩ := h5
  simp [Cond.before, Cond.holds, Cond.value, h1, h2, h3, h4, g1, g2, g3, g4, g5, g6]
def isCode : Jvm.Cond → Bool
  | .code _ _ _ _ => true
  | _ => false
theorem all_split {L : List Jvm.Cond} {P : Jvm.Cond → Bool} (h1 : L.all (fun c => isCode c || P c) = true) (h2 : ∀ c ∈ L.filter isCode, P c = true) : L.all P = true := by
  refine List.all_eq_true.mpr fun c hc => ?_
  have h := List.all_eq_true.mp h1 c hc
  rcases Bool.eq_false_or_eq_true (isCode c) with hi | hi
  · exact h2 c (List.mem_filter.mpr ⟨hc, hi⟩)
  · simpa [hi] using h
set_option maxRecDepth 65536 in
theorem w_c0 : (Jvm.Cond.code x code maxLocals ret).before args0 about1 = true := code_word (m := ⟨1, 1⟩) (meth := k1m1) (c := k1c1) (by decide +kernel) rfl rfl rfl (by decide +kernel)
set_option maxRecDepth 65536 in
theorem w_c1 : (Jvm.Cond.code ({ cls := "com/example/heliotrope/heliotrope/model/MdpFindTransitionPinLaw", name := "at", desc := "([IIII)I" } : Jvm.MethodName) method_3_code (4 : Nat) (Option.some Jvm.ClassFile.FieldType.int)).before args0 about1 = true := code_word (m := ⟨1, 2⟩) (meth := k1m2) (c := k1c2) (by decide +kernel) rfl rfl rfl (by decide +kernel)
set_option maxRecDepth 65536 in
theorem w_c2 : (Jvm.Cond.code ({ cls := "com/example/heliotrope/heliotrope/model/Mdp", name := "<init>", desc := "([I[I[I[D)V" } : Jvm.MethodName) prog_87_method_1_code (5 : Nat) (Option.none : Option Jvm.ClassFile.FieldType)).before args0 about1 = true := code_word (m := ⟨2, 0⟩) (meth := k2m0) (c := k2c0) (by decide +kernel) rfl rfl rfl (by decide +kernel)
set_option maxRecDepth 65536 in
theorem w_c3 : (Jvm.Cond.code ({ cls := "java/lang/Object", name := "<init>", desc := "()V" } : Jvm.MethodName) object_method_1_code (1 : Nat) (Option.none : Option Jvm.ClassFile.FieldType)).before args0 about1 = true := code_word (m := ⟨0, 0⟩) (meth := k0m0) (c := k0c0) (by decide +kernel) rfl rfl rfl (by decide +kernel)
set_option maxRecDepth 65536 in
theorem w_c4 : (Jvm.Cond.code ({ cls := "com/example/heliotrope/heliotrope/model/Mdp", name := "findTransition", desc := "(II)I" } : Jvm.MethodName) prog_87_method_14_code (6 : Nat) (Option.some Jvm.ClassFile.FieldType.int)).before args0 about1 = true := code_word (m := ⟨2, 1⟩) (meth := k2m1) (c := k2c1) (by decide +kernel) rfl rfl rfl (by decide +kernel)
def codes1 : List Jvm.Cond := [Jvm.Cond.code x code maxLocals ret, Jvm.Cond.code ({ cls := "com/example/heliotrope/heliotrope/model/MdpFindTransitionPinLaw", name := "at", desc := "([IIII)I" } : Jvm.MethodName) method_3_code (4 : Nat) (Option.some Jvm.ClassFile.FieldType.int), Jvm.Cond.code ({ cls := "com/example/heliotrope/heliotrope/model/Mdp", name := "<init>", desc := "([I[I[I[D)V" } : Jvm.MethodName) prog_87_method_1_code (5 : Nat) (Option.none : Option Jvm.ClassFile.FieldType), Jvm.Cond.code ({ cls := "java/lang/Object", name := "<init>", desc := "()V" } : Jvm.MethodName) object_method_1_code (1 : Nat) (Option.none : Option Jvm.ClassFile.FieldType), Jvm.Cond.code ({ cls := "com/example/heliotrope/heliotrope/model/Mdp", name := "findTransition", desc := "(II)I" } : Jvm.MethodName) prog_87_method_14_code (6 : Nat) (Option.some Jvm.ClassFile.FieldType.int)]
set_option maxRecDepth 65536 in
theorem codes_eq : words1.filter isCode = codes1 := rfl
theorem w_codes : ∀ c ∈ words1.filter isCode, c.before args0 about1 = true := by
  rw [codes_eq]
  intro c hc
  simp only [codes1, List.mem_cons, List.not_mem_nil, or_false] at hc
  rcases hc with rfl | rfl | rfl | rfl | rfl
  · exact w_c0
  · exact w_c1
  · exact w_c2
  · exact w_c3
  · exact w_c4
set_option maxRecDepth 65536 in
theorem w_t1 : (words1.take 24).all (fun c => isCode c || c.before args0 about1) = true := by decide +kernel
set_option maxRecDepth 65536 in
theorem w_t2 : (words1.drop 24).all (fun c => isCode c || c.before args0 about1) = true := by decide +kernel
theorem w_tables : (allAtoms (Jvm.Cond.code x code maxLocals ret :: tables_1)).before args0 about1 = true := by
  rw [allAtoms_all]
  show words1.all (fun c => c.before args0 about1) = true
  refine all_split ?_ w_codes
  rw [← List.take_append_drop 24 words1, List.all_append, w_t1, w_t2]
  rfl
set_option maxRecDepth 65536 in
theorem w_case : (Jvm.Cond.and given_1 narrow_1).before args0 about1 = true := by decide +kernel
theorem w_applies : (headSpec (Jvm.Cond.code x code maxLocals ret :: tables_1) room_1).applies x e0.platform about1 = true :=
  (Spec.applies_iff w_frames).mpr ⟨w_running, w_runnable, w_alone, w_named, w_hears, w_ripe, w_room, w_tables⟩
theorem atStart : AtStart classFile x code maxLocals ret World_1 tables_1 room_1 Calls_1 rest_1 Pre_1 launch0 p0 e0 about1 theMethod args0 below0 :=
  ⟨lists_1, trivial, launch0.admits_env _ _ _, launch0.least_env, fairChoices_fair.cas, fairChoices_fair.clock, w_frames, w_args, w_heap, w_applies, trivial, trivial, w_case⟩
end start1
theorem witness_1 : WitnessClaimed_1 := ⟨start1.p0, start1.e0, start1.about1, start1.theMethod, start1.args0, start1.below0, start1.atStart⟩
end Jvm.Pilot.@@N@@
