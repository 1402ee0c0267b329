import JvmDerived
import JvmDerived.Pilot.@@N@@Statement
import JvmDerived.Pilot.@@N@@Code
set_option linter.unusedVariables false
set_option linter.unusedSimpArgs false
namespace Jvm.Pilot.@@N@@
open Jvm Jvm.ClassFile Sem Op Lib Jvm.Free Jvm.Stand Jvm.LawKit Jvm.RoadKit Bundle Jvm.Pilot.@@N@@.Jvm.D
/-! own kit (printed by wip/gen/kit.py) -/
/-- from here the walk comes to an end that K takes -/
def Run (p : Program) (e : Env) (below : List Frame) (m : MethodId) (K : State → Prop) (T : State) (pc : Nat) (L : Array Slot) (st : List Value) : Prop :=
  ∃ u, Steps p.tables e below (T.setTop (mkF m pc L st)) u ∧ K u
/-- what goes through a whole body -/
def Cx (p : Program) (l : Launch) (e : Env) (R : Room) (s : State) (m : MethodId) (args : Array Value) (below : List Frame) (meth : Method) (c : Code) (Z : State) (bytes : ByteArray) (ml : Nat) (own : String) (ret : Option FieldType) (mname : String) (n0 : Nat) (T : State) (h : Heap) (cells slots : Nat) : Prop :=
  (∃ locs, Stand p l e R s m args below meth c T locs cells slots ∧ Fr n0 locs) ∧ T.heap = h ∧ p.tables.exec = Jvm.exec ∧ c.code = bytes ∧ c.maxLocals = ml ∧ Z.Warmed39 s.vm ∧ s.vm.findClass own = some m.cls ∧ meth.sig.returnType = ret ∧ meth.name = mname ∧ meth.locks = false ∧ n0 ≤ h.size
/-- the end of a body: what it returns and leaves is Q's -/
def Fin1 (below : List Frame) (s : State) (n0 : Nat) (Q : Option Value → Heap → Prop) (cN sN : Nat) (u : State) : Prop :=
  u.status = .running ∧ ∃ o, Ended u below o ∧ ∃ v L, o = .returned v ∧ (Q v u.heap ∧ Fr n0 L ∧ n0 ≤ u.heap.size) ∧ FrameEnd s o u L cN sN
/-- a body's contract -/
def Met1 (l : Launch) (Z : State) (n0 : Nat) (ws : List Jvm.Cond) (y : MethodName) (bytes : ByteArray) (ml : Nat) (ret : Option FieldType) (rm : Room) (as : Array Value) (h0 : Heap) (Q : Option Value → Heap → Prop) : Prop :=
  MetFree l y (head1 (Jvm.Cond.code y bytes ml ret :: ws) rm) (fun a U => a = as ∧ Z.Warmed39 U.vm ∧ U.heap = h0) (fun _ _ _ _ _ => True) (fun _ U o U' => ∃ v L, o = .returned v ∧ (Q v U'.heap ∧ Fr n0 L ∧ n0 ≤ U'.heap.size) ∧ FrameEnd U o U' L rm.cells rm.slots)
/-- an array: its kind, its length, what each place holds -/
def AF (Z : State) (h : Heap) (a : Addr) (ty : FieldType) (n : Nat) (f : Nat → Value) : Prop := ∃ c : Cell, Arr Z h a c ty ∧ c.slots.size = n ∧ n < 2 ^ 31 ∧ ∀ j, j < n → c.slots[j]? = some (f j)
def upd (f : Nat → Value) (i : Nat) (v : Value) : Nat → Value := fun j => if j = i then v else f j
section Own
variable {p : Program} {l : Launch} {e : Env} {R : Room} {s : State} {m : MethodId} {args : Array Value} {below : List Frame} {meth : Method} {c : Code} {Z : State} {bytes : ByteArray} {ml : Nat} {own mname : String} {ret : Option FieldType} {n0 : Nat} {T : State} {h : Heap} {cells slots : Nat} {K : State → Prop} {pc : Nat} {L : Array Slot} {st : List Value}
theorem Cx.sz (X : Cx p l e R s m args below meth c Z bytes ml own ret mname n0 T h cells slots) : n0 ≤ h.size := X.2.2.2.2.2.2.2.2.2.2
theorem Run.of {T' : State} {pc' : Nat} {L' : Array Slot} {st' : List Value} (h : ∀ t, Steps p.tables e below (T'.setTop (mkF m pc' L' st')) t → Steps p.tables e below (T.setTop (mkF m pc L st)) t) (r : Run p e below m K T' pc' L' st') : Run p e below m K T pc L st :=
  r.imp fun u q => ⟨h u q.1, q.2⟩
theorem upd_hit {f : Nat → Value} {i : Nat} {v : Value} : upd f i v i = v := if_pos rfl
theorem upd_miss {f : Nat → Value} {i j : Nat} {v : Value} (q : j ≠ i) : upd f i v j = f j := if_neg q
theorem idx_of {j : Int32} {i n : Nat} (hj : j.toInt = (i : Int)) (hi : i < n) : ¬ (j < 0 ∨ n ≤ j.toNatClampNeg) ∧ j.toNatClampNeg = i := by
  have q : j.toNatClampNeg = i := by show j.toInt.toNat = i; omega
  refine ⟨?_, q⟩
  rw [q, Int32.lt_iff_toInt_lt]
  have : (0 : Int32).toInt = 0 := rfl
  omega
theorem AF.lt {a : Addr} {ty : FieldType} {n : Nat} {f : Nat → Value} (A : AF Z h a ty n f) : a < h.size := by obtain ⟨c, A, -⟩ := A; exact A.lt
theorem AF.small {a : Addr} {ty : FieldType} {n : Nat} {f : Nat → Value} (A : AF Z h a ty n f) : n < 2 ^ 31 := by obtain ⟨c, -, -, q, -⟩ := A; exact q
theorem AF.ext {a : Addr} {ty : FieldType} {n : Nat} {f : Nat → Value} {h' : Heap} (A : AF Z h a ty n f) (E : Ext h h') : AF Z h' a ty n f := by obtain ⟨c, A, r⟩ := A; exact ⟨c, A.ext E, r⟩
theorem AF.other {a b : Addr} {ty : FieldType} {n sl : Nat} {v : Value} {f : Nat → Value} {h' : Heap} (A : AF Z h b ty n f) (W : Wr h h' a sl v) (q : b ≠ a) : AF Z h' b ty n f := by obtain ⟨c, A, r⟩ := A; exact ⟨c, A.other W q, r⟩
theorem AF.keep {a : Addr} {ty : FieldType} {n : Nat} {f : Nat → Value} {h' : Heap} {ws : List Addr} (A : AF Z h a ty n f) (K : Keep h h' ws) (q : a ∉ ws) : AF Z h' a ty n f := by obtain ⟨c, A, r⟩ := A; exact ⟨c, ⟨K.2.1 a c A.1 q, A.2⟩, r⟩
theorem AF.set {a : Addr} {ty : FieldType} {n i : Nat} {v : Value} {f : Nat → Value} {h' : Heap} (A : AF Z h a ty n f) (W : Wr h h' a i v) : AF Z h' a ty n (upd f i v) := by
  obtain ⟨c, A, S, q, H⟩ := A
  refine ⟨_, A.same W, by rw [sz_set]; exact S, q, fun j hj => ?_⟩
  show (c.slots.setIfInBounds i v)[j]? = _
  rw [Array.getElem?_setIfInBounds, S]
  by_cases e : i = j
  · subst e; simp [hj, upd]
  · have e' : j ≠ i := fun q => e q.symm
    simp [e, upd, e', H j hj]
theorem AF.congr {a : Addr} {ty : FieldType} {n : Nat} {f g : Nat → Value} (A : AF Z h a ty n f) (q : ∀ j, j < n → f j = g j) : AF Z h a ty n g := by
  obtain ⟨c, A, S, r, H⟩ := A; exact ⟨c, A, S, r, fun j hj => by rw [H j hj, q j hj]⟩
theorem AF.ne_obj {a b : Addr} {ty : FieldType} {n k : Nat} {f : Nat → Value} {C : String} {a0 : Array Value} (A : AF Z h b ty n f) (E : Exa Z h a C) (wi : (Jvm.Cond.instantiable C k).before a0 Z = true) : a ≠ b := by obtain ⟨c, A, -⟩ := A; exact ne_arr E wi A
theorem r_topI {x x' : Int32} (q : x = x') (r : Run p e below m K T pc L (.int x' :: st)) : Run p e below m K T pc L (.int x :: st) := q ▸ r
theorem r_topJ {x x' : Int64} (q : x = x') (r : Run p e below m K T pc L (.long x' :: st)) : Run p e below m K T pc L (.long x :: st) := q ▸ r
theorem r_top {x x' : Value} (q : x = x') (r : Run p e below m K T pc L (x' :: st)) : Run p e below m K T pc L (x :: st) := q ▸ r
theorem r_loc {L' : Array Slot} (q : L = L') (r : Run p e below m K T pc L' st) : Run p e below m K T pc L st := q ▸ r
theorem r_iload (pc' : Nat) (X : Cx p l e R s m args below meth c Z bytes ml own ret mname n0 T h cells slots) {k : Nat} {v : Int32} (hd : decode bytes pc = .ok (.iload k, 2)) (hl : L[k]? = some (.val (.int v))) (r : Run p e below m K T pc' L (.int v :: st)) (q : pc + 2 = pc' := by rfl) : Run p e below m K T pc L st := by
  obtain ⟨⟨locs, X, -⟩, -, hx, hby, -⟩ := X
  subst q hby
  exact Run.of (fun t k => XS.iload X.here hx rfl hd hl k) r
theorem r_iloadN (pc' : Nat) (X : Cx p l e R s m args below meth c Z bytes ml own ret mname n0 T h cells slots) {k : Fin 4} {v : Int32} (hd : decode bytes pc = .ok (.iload_n k, 1)) (hl : L[k.val]? = some (.val (.int v))) (r : Run p e below m K T pc' L (.int v :: st)) (q : pc + 1 = pc' := by rfl) : Run p e below m K T pc L st := by
  obtain ⟨⟨locs, X, -⟩, -, hx, hby, -⟩ := X
  subst q hby
  exact Run.of (fun t k => XS.iloadN X.here hx rfl hd hl k) r
theorem r_istore (pc' : Nat) (X : Cx p l e R s m args below meth c Z bytes ml own ret mname n0 T h cells slots) {k : Nat} {v : Int32} (L' : Array Slot) (hd : decode bytes pc = .ok (.istore k, 2)) (hl : storeLocals L k (.int v) = some L') (r : Run p e below m K T pc' L' st) (q : pc + 2 = pc' := by rfl) : Run p e below m K T pc L (.int v :: st) := by
  obtain ⟨⟨locs, X, -⟩, -, hx, hby, -⟩ := X
  subst q hby
  exact Run.of (fun t k => XS.istore X.here hx rfl hd rfl hl k) r
theorem r_istoreN (pc' : Nat) (X : Cx p l e R s m args below meth c Z bytes ml own ret mname n0 T h cells slots) {k : Fin 4} {v : Int32} (L' : Array Slot) (hd : decode bytes pc = .ok (.istore_n k, 1)) (hl : storeLocals L k.val (.int v) = some L') (r : Run p e below m K T pc' L' st) (q : pc + 1 = pc' := by rfl) : Run p e below m K T pc L (.int v :: st) := by
  obtain ⟨⟨locs, X, -⟩, -, hx, hby, -⟩ := X
  subst q hby
  exact Run.of (fun t k => XS.istoreN X.here hx rfl hd rfl hl k) r
theorem r_lload (pc' : Nat) (X : Cx p l e R s m args below meth c Z bytes ml own ret mname n0 T h cells slots) {k : Nat} {v : Int64} (hd : decode bytes pc = .ok (.lload k, 2)) (hl : L[k]? = some (.val (.long v))) (r : Run p e below m K T pc' L (.long v :: st)) (q : pc + 2 = pc' := by rfl) : Run p e below m K T pc L st := by
  obtain ⟨⟨locs, X, -⟩, -, hx, hby, -⟩ := X
  subst q hby
  exact Run.of (fun t k => XS.lload X.here hx rfl hd hl k) r
theorem r_lloadN (pc' : Nat) (X : Cx p l e R s m args below meth c Z bytes ml own ret mname n0 T h cells slots) {k : Fin 4} {v : Int64} (hd : decode bytes pc = .ok (.lload_n k, 1)) (hl : L[k.val]? = some (.val (.long v))) (r : Run p e below m K T pc' L (.long v :: st)) (q : pc + 1 = pc' := by rfl) : Run p e below m K T pc L st := by
  obtain ⟨⟨locs, X, -⟩, -, hx, hby, -⟩ := X
  subst q hby
  exact Run.of (fun t k => XS.lloadN X.here hx rfl hd hl k) r
theorem r_lstore (pc' : Nat) (X : Cx p l e R s m args below meth c Z bytes ml own ret mname n0 T h cells slots) {k : Nat} {v : Int64} (L' : Array Slot) (hd : decode bytes pc = .ok (.lstore k, 2)) (hl : storeLocals L k (.long v) = some L') (r : Run p e below m K T pc' L' st) (q : pc + 2 = pc' := by rfl) : Run p e below m K T pc L (.long v :: st) := by
  obtain ⟨⟨locs, X, -⟩, -, hx, hby, -⟩ := X
  subst q hby
  exact Run.of (fun t k => XS.lstore X.here hx rfl hd rfl hl k) r
theorem r_lstoreN (pc' : Nat) (X : Cx p l e R s m args below meth c Z bytes ml own ret mname n0 T h cells slots) {k : Fin 4} {v : Int64} (L' : Array Slot) (hd : decode bytes pc = .ok (.lstore_n k, 1)) (hl : storeLocals L k.val (.long v) = some L') (r : Run p e below m K T pc' L' st) (q : pc + 1 = pc' := by rfl) : Run p e below m K T pc L (.long v :: st) := by
  obtain ⟨⟨locs, X, -⟩, -, hx, hby, -⟩ := X
  subst q hby
  exact Run.of (fun t k => XS.lstoreN X.here hx rfl hd rfl hl k) r
theorem r_dload (pc' : Nat) (X : Cx p l e R s m args below meth c Z bytes ml own ret mname n0 T h cells slots) {k : Nat} {v : UInt64} (hd : decode bytes pc = .ok (.dload k, 2)) (hl : L[k]? = some (.val (.double v))) (r : Run p e below m K T pc' L (.double v :: st)) (q : pc + 2 = pc' := by rfl) : Run p e below m K T pc L st := by
  obtain ⟨⟨locs, X, -⟩, -, hx, hby, -⟩ := X
  subst q hby
  exact Run.of (fun t k => XS.dload X.here hx rfl hd hl k) r
theorem r_dloadN (pc' : Nat) (X : Cx p l e R s m args below meth c Z bytes ml own ret mname n0 T h cells slots) {k : Fin 4} {v : UInt64} (hd : decode bytes pc = .ok (.dload_n k, 1)) (hl : L[k.val]? = some (.val (.double v))) (r : Run p e below m K T pc' L (.double v :: st)) (q : pc + 1 = pc' := by rfl) : Run p e below m K T pc L st := by
  obtain ⟨⟨locs, X, -⟩, -, hx, hby, -⟩ := X
  subst q hby
  exact Run.of (fun t k => XS.dloadN X.here hx rfl hd hl k) r
theorem r_dstore (pc' : Nat) (X : Cx p l e R s m args below meth c Z bytes ml own ret mname n0 T h cells slots) {k : Nat} {v : UInt64} (L' : Array Slot) (hd : decode bytes pc = .ok (.dstore k, 2)) (hl : storeLocals L k (.double v) = some L') (r : Run p e below m K T pc' L' st) (q : pc + 2 = pc' := by rfl) : Run p e below m K T pc L (.double v :: st) := by
  obtain ⟨⟨locs, X, -⟩, -, hx, hby, -⟩ := X
  subst q hby
  exact Run.of (fun t k => XS.dstore X.here hx rfl hd rfl hl k) r
theorem r_dstoreN (pc' : Nat) (X : Cx p l e R s m args below meth c Z bytes ml own ret mname n0 T h cells slots) {k : Fin 4} {v : UInt64} (L' : Array Slot) (hd : decode bytes pc = .ok (.dstore_n k, 1)) (hl : storeLocals L k.val (.double v) = some L') (r : Run p e below m K T pc' L' st) (q : pc + 1 = pc' := by rfl) : Run p e below m K T pc L (.double v :: st) := by
  obtain ⟨⟨locs, X, -⟩, -, hx, hby, -⟩ := X
  subst q hby
  exact Run.of (fun t k => XS.dstoreN X.here hx rfl hd rfl hl k) r
theorem r_aload (pc' : Nat) (X : Cx p l e R s m args below meth c Z bytes ml own ret mname n0 T h cells slots) {k : Nat} {v : Value} (hd : decode bytes pc = .ok (.aload k, 2)) (hl : L[k]? = some (.val v)) (hv : v.isRef = true) (r : Run p e below m K T pc' L (v :: st)) (q : pc + 2 = pc' := by rfl) : Run p e below m K T pc L st := by
  obtain ⟨⟨locs, X, -⟩, -, hx, hby, -⟩ := X
  subst q hby
  exact Run.of (fun t k => XS.aload X.here hx rfl hd hl hv k) r
theorem r_aloadN (pc' : Nat) (X : Cx p l e R s m args below meth c Z bytes ml own ret mname n0 T h cells slots) {k : Fin 4} {v : Value} (hd : decode bytes pc = .ok (.aload_n k, 1)) (hl : L[k.val]? = some (.val v)) (hv : v.isRef = true) (r : Run p e below m K T pc' L (v :: st)) (q : pc + 1 = pc' := by rfl) : Run p e below m K T pc L st := by
  obtain ⟨⟨locs, X, -⟩, -, hx, hby, -⟩ := X
  subst q hby
  exact Run.of (fun t k => XS.aloadN X.here hx rfl hd hl hv k) r
theorem r_astore (pc' : Nat) (X : Cx p l e R s m args below meth c Z bytes ml own ret mname n0 T h cells slots) {k : Nat} {v : Value} (L' : Array Slot) (hd : decode bytes pc = .ok (.astore k, 2)) (hv : v.isRef = true) (hl : storeLocals L k v = some L') (r : Run p e below m K T pc' L' st) (q : pc + 2 = pc' := by rfl) : Run p e below m K T pc L (v :: st) := by
  obtain ⟨⟨locs, X, -⟩, -, hx, hby, -⟩ := X
  subst q hby
  exact Run.of (fun t k => XS.astore X.here hx rfl hd rfl hv hl k) r
theorem r_astoreN (pc' : Nat) (X : Cx p l e R s m args below meth c Z bytes ml own ret mname n0 T h cells slots) {k : Fin 4} {v : Value} (L' : Array Slot) (hd : decode bytes pc = .ok (.astore_n k, 1)) (hv : v.isRef = true) (hl : storeLocals L k.val v = some L') (r : Run p e below m K T pc' L' st) (q : pc + 1 = pc' := by rfl) : Run p e below m K T pc L (v :: st) := by
  obtain ⟨⟨locs, X, -⟩, -, hx, hby, -⟩ := X
  subst q hby
  exact Run.of (fun t k => XS.astoreN X.here hx rfl hd rfl hv hl k) r
theorem r_iconst (pc' : Nat) (X : Cx p l e R s m args below meth c Z bytes ml own ret mname n0 T h cells slots) {i : Int} (z : Int32) (hd : decode bytes pc = .ok (.iconst i, 1)) (hz : Int32.ofInt i = z) (r : Run p e below m K T pc' L (.int z :: st)) (q : pc + 1 = pc' := by rfl) : Run p e below m K T pc L st := by
  obtain ⟨⟨locs, X, -⟩, -, hx, hby, -⟩ := X
  subst q hby hz
  exact Run.of (fun t k => XS.iconst X.here hx rfl hd  k) r
theorem r_bipush (pc' : Nat) (X : Cx p l e R s m args below meth c Z bytes ml own ret mname n0 T h cells slots) {i : Int} (z : Int32) (hd : decode bytes pc = .ok (.bipush i, 2)) (hz : (Int8.ofInt i).toInt32 = z) (r : Run p e below m K T pc' L (.int z :: st)) (q : pc + 2 = pc' := by rfl) : Run p e below m K T pc L st := by
  obtain ⟨⟨locs, X, -⟩, -, hx, hby, -⟩ := X
  subst q hby hz
  exact Run.of (fun t k => XS.bipush X.here hx rfl hd  k) r
theorem r_sipush (pc' : Nat) (X : Cx p l e R s m args below meth c Z bytes ml own ret mname n0 T h cells slots) {i : Int} (z : Int32) (hd : decode bytes pc = .ok (.sipush i, 3)) (hz : (Int16.ofInt i).toInt32 = z) (r : Run p e below m K T pc' L (.int z :: st)) (q : pc + 3 = pc' := by rfl) : Run p e below m K T pc L st := by
  obtain ⟨⟨locs, X, -⟩, -, hx, hby, -⟩ := X
  subst q hby hz
  exact Run.of (fun t k => XS.sipush X.here hx rfl hd  k) r
theorem r_lconst (pc' : Nat) (X : Cx p l e R s m args below meth c Z bytes ml own ret mname n0 T h cells slots) {i : Fin 2} (z : Int64) (hd : decode bytes pc = .ok (.lconst i, 1)) (hz : Int64.ofNat i = z) (r : Run p e below m K T pc' L (.long z :: st)) (q : pc + 1 = pc' := by rfl) : Run p e below m K T pc L st := by
  obtain ⟨⟨locs, X, -⟩, -, hx, hby, -⟩ := X
  subst q hby hz
  exact Run.of (fun t k => XS.lconst X.here hx rfl hd  k) r
theorem r_aconst_null (pc' : Nat) (X : Cx p l e R s m args below meth c Z bytes ml own ret mname n0 T h cells slots)  (hd : decode bytes pc = .ok (.aconst_null, 1))  (r : Run p e below m K T pc' L (.null :: st)) (q : pc + 1 = pc' := by rfl) : Run p e below m K T pc L st := by
  obtain ⟨⟨locs, X, -⟩, -, hx, hby, -⟩ := X
  subst q hby
  exact Run.of (fun t k => XS.aconstNull X.here hx rfl hd  k) r
theorem r_dconst0 (pc' : Nat) (X : Cx p l e R s m args below meth c Z bytes ml own ret mname n0 T h cells slots)  (hd : decode bytes pc = .ok (.dconst 0, 1))  (r : Run p e below m K T pc' L (.double FP.dconst0 :: st)) (q : pc + 1 = pc' := by rfl) : Run p e below m K T pc L st := by
  obtain ⟨⟨locs, X, -⟩, -, hx, hby, -⟩ := X
  subst q hby
  exact Run.of (fun t k => XS.dconst0 X.here hx rfl hd rfl k) r
theorem r_dconst1 (pc' : Nat) (X : Cx p l e R s m args below meth c Z bytes ml own ret mname n0 T h cells slots)  (hd : decode bytes pc = .ok (.dconst 1, 1))  (r : Run p e below m K T pc' L (.double FP.dconst1 :: st)) (q : pc + 1 = pc' := by rfl) : Run p e below m K T pc L st := by
  obtain ⟨⟨locs, X, -⟩, -, hx, hby, -⟩ := X
  subst q hby
  exact Run.of (fun t k => XS.dconst1 X.here hx rfl hd rfl k) r
theorem r_iadd (pc' : Nat) (X : Cx p l e R s m args below meth c Z bytes ml own ret mname n0 T h cells slots) {x y : Int32} (hd : decode bytes pc = .ok (.iadd, 1))  (r : Run p e below m K T pc' L (.int (x + y) :: st)) (q : pc + 1 = pc' := by rfl) : Run p e below m K T pc L (.int y :: .int x :: st) := by
  obtain ⟨⟨locs, X, -⟩, -, hx, hby, -⟩ := X
  subst q hby
  exact Run.of (fun t k => XS.iadd X.here hx rfl hd rfl k) r
theorem r_isub (pc' : Nat) (X : Cx p l e R s m args below meth c Z bytes ml own ret mname n0 T h cells slots) {x y : Int32} (hd : decode bytes pc = .ok (.isub, 1))  (r : Run p e below m K T pc' L (.int (x - y) :: st)) (q : pc + 1 = pc' := by rfl) : Run p e below m K T pc L (.int y :: .int x :: st) := by
  obtain ⟨⟨locs, X, -⟩, -, hx, hby, -⟩ := X
  subst q hby
  exact Run.of (fun t k => XS.isub X.here hx rfl hd rfl k) r
theorem r_imul (pc' : Nat) (X : Cx p l e R s m args below meth c Z bytes ml own ret mname n0 T h cells slots) {x y : Int32} (hd : decode bytes pc = .ok (.imul, 1))  (r : Run p e below m K T pc' L (.int (x * y) :: st)) (q : pc + 1 = pc' := by rfl) : Run p e below m K T pc L (.int y :: .int x :: st) := by
  obtain ⟨⟨locs, X, -⟩, -, hx, hby, -⟩ := X
  subst q hby
  exact Run.of (fun t k => XS.imul X.here hx rfl hd rfl k) r
theorem r_iand (pc' : Nat) (X : Cx p l e R s m args below meth c Z bytes ml own ret mname n0 T h cells slots) {x y : Int32} (hd : decode bytes pc = .ok (.iand, 1))  (r : Run p e below m K T pc' L (.int (x &&& y) :: st)) (q : pc + 1 = pc' := by rfl) : Run p e below m K T pc L (.int y :: .int x :: st) := by
  obtain ⟨⟨locs, X, -⟩, -, hx, hby, -⟩ := X
  subst q hby
  exact Run.of (fun t k => XS.iand X.here hx rfl hd rfl k) r
theorem r_ior (pc' : Nat) (X : Cx p l e R s m args below meth c Z bytes ml own ret mname n0 T h cells slots) {x y : Int32} (hd : decode bytes pc = .ok (.ior, 1))  (r : Run p e below m K T pc' L (.int (x ||| y) :: st)) (q : pc + 1 = pc' := by rfl) : Run p e below m K T pc L (.int y :: .int x :: st) := by
  obtain ⟨⟨locs, X, -⟩, -, hx, hby, -⟩ := X
  subst q hby
  exact Run.of (fun t k => XS.ior X.here hx rfl hd rfl k) r
theorem r_ixor (pc' : Nat) (X : Cx p l e R s m args below meth c Z bytes ml own ret mname n0 T h cells slots) {x y : Int32} (hd : decode bytes pc = .ok (.ixor, 1))  (r : Run p e below m K T pc' L (.int (x ^^^ y) :: st)) (q : pc + 1 = pc' := by rfl) : Run p e below m K T pc L (.int y :: .int x :: st) := by
  obtain ⟨⟨locs, X, -⟩, -, hx, hby, -⟩ := X
  subst q hby
  exact Run.of (fun t k => XS.ixor X.here hx rfl hd rfl k) r
theorem r_ishl (pc' : Nat) (X : Cx p l e R s m args below meth c Z bytes ml own ret mname n0 T h cells slots) {x y : Int32} (hd : decode bytes pc = .ok (.ishl, 1))  (r : Run p e below m K T pc' L (.int (x <<< (y &&& 31)) :: st)) (q : pc + 1 = pc' := by rfl) : Run p e below m K T pc L (.int y :: .int x :: st) := by
  obtain ⟨⟨locs, X, -⟩, -, hx, hby, -⟩ := X
  subst q hby
  exact Run.of (fun t k => XS.ishl X.here hx rfl hd rfl k) r
theorem r_ishr (pc' : Nat) (X : Cx p l e R s m args below meth c Z bytes ml own ret mname n0 T h cells slots) {x y : Int32} (hd : decode bytes pc = .ok (.ishr, 1))  (r : Run p e below m K T pc' L (.int (x >>> (y &&& 31)) :: st)) (q : pc + 1 = pc' := by rfl) : Run p e below m K T pc L (.int y :: .int x :: st) := by
  obtain ⟨⟨locs, X, -⟩, -, hx, hby, -⟩ := X
  subst q hby
  exact Run.of (fun t k => XS.ishr X.here hx rfl hd rfl k) r
theorem r_iushr (pc' : Nat) (X : Cx p l e R s m args below meth c Z bytes ml own ret mname n0 T h cells slots) {x y : Int32} (hd : decode bytes pc = .ok (.iushr, 1))  (r : Run p e below m K T pc' L (.int ((x.toUInt32 >>> (y &&& 31).toUInt32).toInt32) :: st)) (q : pc + 1 = pc' := by rfl) : Run p e below m K T pc L (.int y :: .int x :: st) := by
  obtain ⟨⟨locs, X, -⟩, -, hx, hby, -⟩ := X
  subst q hby
  exact Run.of (fun t k => XS.iushr X.here hx rfl hd rfl k) r
theorem r_ladd (pc' : Nat) (X : Cx p l e R s m args below meth c Z bytes ml own ret mname n0 T h cells slots) {x y : Int64} (hd : decode bytes pc = .ok (.ladd, 1))  (r : Run p e below m K T pc' L (.long (x + y) :: st)) (q : pc + 1 = pc' := by rfl) : Run p e below m K T pc L (.long y :: .long x :: st) := by
  obtain ⟨⟨locs, X, -⟩, -, hx, hby, -⟩ := X
  subst q hby
  exact Run.of (fun t k => XS.ladd X.here hx rfl hd rfl k) r
theorem r_lsub (pc' : Nat) (X : Cx p l e R s m args below meth c Z bytes ml own ret mname n0 T h cells slots) {x y : Int64} (hd : decode bytes pc = .ok (.lsub, 1))  (r : Run p e below m K T pc' L (.long (x - y) :: st)) (q : pc + 1 = pc' := by rfl) : Run p e below m K T pc L (.long y :: .long x :: st) := by
  obtain ⟨⟨locs, X, -⟩, -, hx, hby, -⟩ := X
  subst q hby
  exact Run.of (fun t k => XS.lsub X.here hx rfl hd rfl k) r
theorem r_lmul (pc' : Nat) (X : Cx p l e R s m args below meth c Z bytes ml own ret mname n0 T h cells slots) {x y : Int64} (hd : decode bytes pc = .ok (.lmul, 1))  (r : Run p e below m K T pc' L (.long (x * y) :: st)) (q : pc + 1 = pc' := by rfl) : Run p e below m K T pc L (.long y :: .long x :: st) := by
  obtain ⟨⟨locs, X, -⟩, -, hx, hby, -⟩ := X
  subst q hby
  exact Run.of (fun t k => XS.lmul X.here hx rfl hd rfl k) r
theorem r_land (pc' : Nat) (X : Cx p l e R s m args below meth c Z bytes ml own ret mname n0 T h cells slots) {x y : Int64} (hd : decode bytes pc = .ok (.land, 1))  (r : Run p e below m K T pc' L (.long (x &&& y) :: st)) (q : pc + 1 = pc' := by rfl) : Run p e below m K T pc L (.long y :: .long x :: st) := by
  obtain ⟨⟨locs, X, -⟩, -, hx, hby, -⟩ := X
  subst q hby
  exact Run.of (fun t k => XS.land X.here hx rfl hd rfl k) r
theorem r_lor (pc' : Nat) (X : Cx p l e R s m args below meth c Z bytes ml own ret mname n0 T h cells slots) {x y : Int64} (hd : decode bytes pc = .ok (.lor, 1))  (r : Run p e below m K T pc' L (.long (x ||| y) :: st)) (q : pc + 1 = pc' := by rfl) : Run p e below m K T pc L (.long y :: .long x :: st) := by
  obtain ⟨⟨locs, X, -⟩, -, hx, hby, -⟩ := X
  subst q hby
  exact Run.of (fun t k => XS.lor X.here hx rfl hd rfl k) r
theorem r_lxor (pc' : Nat) (X : Cx p l e R s m args below meth c Z bytes ml own ret mname n0 T h cells slots) {x y : Int64} (hd : decode bytes pc = .ok (.lxor, 1))  (r : Run p e below m K T pc' L (.long (x ^^^ y) :: st)) (q : pc + 1 = pc' := by rfl) : Run p e below m K T pc L (.long y :: .long x :: st) := by
  obtain ⟨⟨locs, X, -⟩, -, hx, hby, -⟩ := X
  subst q hby
  exact Run.of (fun t k => XS.lxor X.here hx rfl hd rfl k) r
theorem r_lshl (pc' : Nat) (X : Cx p l e R s m args below meth c Z bytes ml own ret mname n0 T h cells slots) {x : Int64} {y : Int32} (hd : decode bytes pc = .ok (.lshl, 1))  (r : Run p e below m K T pc' L (.long (x <<< (y &&& 0x3f).toInt64) :: st)) (q : pc + 1 = pc' := by rfl) : Run p e below m K T pc L (.int y :: .long x :: st) := by
  obtain ⟨⟨locs, X, -⟩, -, hx, hby, -⟩ := X
  subst q hby
  exact Run.of (fun t k => XS.lshl X.here hx rfl hd rfl k) r
theorem r_lshr (pc' : Nat) (X : Cx p l e R s m args below meth c Z bytes ml own ret mname n0 T h cells slots) {x : Int64} {y : Int32} (hd : decode bytes pc = .ok (.lshr, 1))  (r : Run p e below m K T pc' L (.long (x >>> (y &&& 0x3f).toInt64) :: st)) (q : pc + 1 = pc' := by rfl) : Run p e below m K T pc L (.int y :: .long x :: st) := by
  obtain ⟨⟨locs, X, -⟩, -, hx, hby, -⟩ := X
  subst q hby
  exact Run.of (fun t k => XS.lshr X.here hx rfl hd rfl k) r
theorem r_lushr (pc' : Nat) (X : Cx p l e R s m args below meth c Z bytes ml own ret mname n0 T h cells slots) {x : Int64} {y : Int32} (hd : decode bytes pc = .ok (.lushr, 1))  (r : Run p e below m K T pc' L (.long ((x.toUInt64 >>> (y &&& 0x3f).toInt64.toUInt64).toInt64) :: st)) (q : pc + 1 = pc' := by rfl) : Run p e below m K T pc L (.int y :: .long x :: st) := by
  obtain ⟨⟨locs, X, -⟩, -, hx, hby, -⟩ := X
  subst q hby
  exact Run.of (fun t k => XS.lushr X.here hx rfl hd rfl k) r
theorem r_lcmp (pc' : Nat) (X : Cx p l e R s m args below meth c Z bytes ml own ret mname n0 T h cells slots) {x y : Int64} (hd : decode bytes pc = .ok (.lcmp, 1))  (r : Run p e below m K T pc' L (.int (lcmpW x y) :: st)) (q : pc + 1 = pc' := by rfl) : Run p e below m K T pc L (.long y :: .long x :: st) := by
  obtain ⟨⟨locs, X, -⟩, -, hx, hby, -⟩ := X
  subst q hby
  exact Run.of (fun t k => XS.lcmp X.here hx rfl hd rfl k) r
theorem r_idiv (pc' : Nat) (X : Cx p l e R s m args below meth c Z bytes ml own ret mname n0 T h cells slots) {x y : Int32} (hd : decode bytes pc = .ok (.idiv, 1)) (hy : y ≠ 0) (r : Run p e below m K T pc' L (.int (x / y) :: st)) (q : pc + 1 = pc' := by rfl) : Run p e below m K T pc L (.int y :: .int x :: st) := by
  obtain ⟨⟨locs, X, -⟩, -, hx, hby, -⟩ := X
  subst q hby
  exact Run.of (fun t k => XS.idiv X.here hx rfl hd rfl hy k) r
theorem r_ldiv (pc' : Nat) (X : Cx p l e R s m args below meth c Z bytes ml own ret mname n0 T h cells slots) {x y : Int64} (hd : decode bytes pc = .ok (.ldiv, 1)) (hy : y ≠ 0) (r : Run p e below m K T pc' L (.long (x / y) :: st)) (q : pc + 1 = pc' := by rfl) : Run p e below m K T pc L (.long y :: .long x :: st) := by
  obtain ⟨⟨locs, X, -⟩, -, hx, hby, -⟩ := X
  subst q hby
  exact Run.of (fun t k => XS.ldiv X.here hx rfl hd rfl hy k) r
theorem r_irem (pc' : Nat) (X : Cx p l e R s m args below meth c Z bytes ml own ret mname n0 T h cells slots) {x y : Int32} (hd : decode bytes pc = .ok (.irem, 1)) (hy : y ≠ 0) (r : Run p e below m K T pc' L (.int (x % y) :: st)) (q : pc + 1 = pc' := by rfl) : Run p e below m K T pc L (.int y :: .int x :: st) := by
  obtain ⟨⟨locs, X, -⟩, -, hx, hby, -⟩ := X
  subst q hby
  exact Run.of (fun t k => iremM (g := mkF m pc L (.int y :: .int x :: st)) X hx rfl hd rfl hy k) r
theorem r_lrem (pc' : Nat) (X : Cx p l e R s m args below meth c Z bytes ml own ret mname n0 T h cells slots) {x y : Int64} (hd : decode bytes pc = .ok (.lrem, 1)) (hy : y ≠ 0) (r : Run p e below m K T pc' L (.long (x % y) :: st)) (q : pc + 1 = pc' := by rfl) : Run p e below m K T pc L (.long y :: .long x :: st) := by
  obtain ⟨⟨locs, X, -⟩, -, hx, hby, -⟩ := X
  subst q hby
  rw [← lrem_mod x y] at r
  exact Run.of (fun t k => XS.lrem X.here hx rfl hd rfl hy k) r
theorem r_ineg (pc' : Nat) (X : Cx p l e R s m args below meth c Z bytes ml own ret mname n0 T h cells slots) {x : Int32} (hd : decode bytes pc = .ok (.ineg, 1))  (r : Run p e below m K T pc' L (.int (-x) :: st)) (q : pc + 1 = pc' := by rfl) : Run p e below m K T pc L (.int x :: st) := by
  obtain ⟨⟨locs, X, -⟩, -, hx, hby, -⟩ := X
  subst q hby
  exact Run.of (fun t k => XS.ineg X.here hx rfl hd rfl k) r
theorem r_lneg (pc' : Nat) (X : Cx p l e R s m args below meth c Z bytes ml own ret mname n0 T h cells slots) {x : Int64} (hd : decode bytes pc = .ok (.lneg, 1))  (r : Run p e below m K T pc' L (.long (-x) :: st)) (q : pc + 1 = pc' := by rfl) : Run p e below m K T pc L (.long x :: st) := by
  obtain ⟨⟨locs, X, -⟩, -, hx, hby, -⟩ := X
  subst q hby
  exact Run.of (fun t k => XS.lneg X.here hx rfl hd rfl k) r
theorem r_i2l (pc' : Nat) (X : Cx p l e R s m args below meth c Z bytes ml own ret mname n0 T h cells slots) {x : Int32} (hd : decode bytes pc = .ok (.i2l, 1))  (r : Run p e below m K T pc' L (.long (x.toInt64) :: st)) (q : pc + 1 = pc' := by rfl) : Run p e below m K T pc L (.int x :: st) := by
  obtain ⟨⟨locs, X, -⟩, -, hx, hby, -⟩ := X
  subst q hby
  exact Run.of (fun t k => XS.i2l X.here hx rfl hd rfl k) r
theorem r_l2i (pc' : Nat) (X : Cx p l e R s m args below meth c Z bytes ml own ret mname n0 T h cells slots) {x : Int64} (hd : decode bytes pc = .ok (.l2i, 1))  (r : Run p e below m K T pc' L (.int (x.toInt32) :: st)) (q : pc + 1 = pc' := by rfl) : Run p e below m K T pc L (.long x :: st) := by
  obtain ⟨⟨locs, X, -⟩, -, hx, hby, -⟩ := X
  subst q hby
  exact Run.of (fun t k => XS.l2i X.here hx rfl hd rfl k) r
theorem r_i2b (pc' : Nat) (X : Cx p l e R s m args below meth c Z bytes ml own ret mname n0 T h cells slots) {x : Int32} (hd : decode bytes pc = .ok (.i2b, 1))  (r : Run p e below m K T pc' L (.int (x.toInt8.toInt32) :: st)) (q : pc + 1 = pc' := by rfl) : Run p e below m K T pc L (.int x :: st) := by
  obtain ⟨⟨locs, X, -⟩, -, hx, hby, -⟩ := X
  subst q hby
  exact Run.of (fun t k => XS.i2b X.here hx rfl hd rfl k) r
theorem r_i2s (pc' : Nat) (X : Cx p l e R s m args below meth c Z bytes ml own ret mname n0 T h cells slots) {x : Int32} (hd : decode bytes pc = .ok (.i2s, 1))  (r : Run p e below m K T pc' L (.int (x.toInt16.toInt32) :: st)) (q : pc + 1 = pc' := by rfl) : Run p e below m K T pc L (.int x :: st) := by
  obtain ⟨⟨locs, X, -⟩, -, hx, hby, -⟩ := X
  subst q hby
  exact Run.of (fun t k => XS.i2s X.here hx rfl hd rfl k) r
theorem r_i2c (pc' : Nat) (X : Cx p l e R s m args below meth c Z bytes ml own ret mname n0 T h cells slots) {x : Int32} (hd : decode bytes pc = .ok (.i2c, 1))  (r : Run p e below m K T pc' L (.int (x.toUInt32.toUInt16.toUInt32.toInt32) :: st)) (q : pc + 1 = pc' := by rfl) : Run p e below m K T pc L (.int x :: st) := by
  obtain ⟨⟨locs, X, -⟩, -, hx, hby, -⟩ := X
  subst q hby
  exact Run.of (fun t k => XS.i2c X.here hx rfl hd rfl k) r
theorem r_iinc (pc' : Nat) (X : Cx p l e R s m args below meth c Z bytes ml own ret mname n0 T h cells slots) {k : Nat} {cst : Int} {x : Int32} (z : Int32) (L' : Array Slot) (hd : decode bytes pc = .ok (.iinc k cst, 3)) (hl : L[k]? = some (.val (.int x))) (hz : Int32.ofInt cst = z) (hl' : storeLocals L k (.int (x + z)) = some L') (r : Run p e below m K T pc' L' st) (q : pc + 3 = pc' := by rfl) : Run p e below m K T pc L st := by
  obtain ⟨⟨locs, X, -⟩, -, hx, hby, -⟩ := X
  subst q hby
  exact Run.of (fun t k => XS.iinc X.here hx rfl hd hl (hz.symm ▸ hl') k) r
theorem r_dup (pc' : Nat) (X : Cx p l e R s m args below meth c Z bytes ml own ret mname n0 T h cells slots) {x : Value} (hd : decode bytes pc = .ok (.dup, 1)) (hc : x.category = 1) (r : Run p e below m K T pc' L (x :: x :: st)) (q : pc + 1 = pc' := by rfl) : Run p e below m K T pc L (x :: st) := by
  obtain ⟨⟨locs, X, -⟩, -, hx, hby, -⟩ := X
  subst q hby
  exact Run.of (fun t k => XS.dup X.here hx rfl hd rfl hc k) r
theorem r_pop (pc' : Nat) (X : Cx p l e R s m args below meth c Z bytes ml own ret mname n0 T h cells slots) {x : Value} (hd : decode bytes pc = .ok (.pop, 1)) (hc : x.category = 1) (r : Run p e below m K T pc' L st) (q : pc + 1 = pc' := by rfl) : Run p e below m K T pc L (x :: st) := by
  obtain ⟨⟨locs, X, -⟩, -, hx, hby, -⟩ := X
  subst q hby
  exact Run.of (fun t k => XS.pop X.here hx rfl hd rfl hc k) r
theorem r_swap (pc' : Nat) (X : Cx p l e R s m args below meth c Z bytes ml own ret mname n0 T h cells slots) {x y : Value} (hd : decode bytes pc = .ok (.swap, 1)) (hc : x.category = 1) (hc2 : y.category = 1) (r : Run p e below m K T pc' L (y :: x :: st)) (q : pc + 1 = pc' := by rfl) : Run p e below m K T pc L (x :: y :: st) := by
  obtain ⟨⟨locs, X, -⟩, -, hx, hby, -⟩ := X
  subst q hby
  exact Run.of (fun t k => XS.swap X.here hx rfl hd rfl hc hc2 k) r
theorem r_dup_x1 (pc' : Nat) (X : Cx p l e R s m args below meth c Z bytes ml own ret mname n0 T h cells slots) {x y : Value} (hd : decode bytes pc = .ok (.dup_x1, 1)) (hc : x.category = 1) (hc2 : y.category = 1) (r : Run p e below m K T pc' L (x :: y :: x :: st)) (q : pc + 1 = pc' := by rfl) : Run p e below m K T pc L (x :: y :: st) := by
  obtain ⟨⟨locs, X, -⟩, -, hx, hby, -⟩ := X
  subst q hby
  exact Run.of (fun t k => XS.dupX1 X.here hx rfl hd rfl hc hc2 k) r
theorem r_i2d (pc' : Nat) (X : Cx p l e R s m args below meth c Z bytes ml own ret mname n0 T h cells slots) {x : Int32} (hd : decode bytes pc = .ok (.i2d, 1))  (r : Run p e below m K T pc' L (.double (FP.i2d x) :: st)) (q : pc + 1 = pc' := by rfl) : Run p e below m K T pc L (.int x :: st) := by
  obtain ⟨⟨locs, X, -⟩, -, hx, hby, -⟩ := X
  subst q hby
  exact Run.of (fun t k => XS.i2dS X.here hx rfl hd rfl rfl k) r
theorem r_dneg (pc' : Nat) (X : Cx p l e R s m args below meth c Z bytes ml own ret mname n0 T h cells slots) {x : UInt64} (hd : decode bytes pc = .ok (.dneg, 1))  (r : Run p e below m K T pc' L (.double (FP.dneg x) :: st)) (q : pc + 1 = pc' := by rfl) : Run p e below m K T pc L (.double x :: st) := by
  obtain ⟨⟨locs, X, -⟩, -, hx, hby, -⟩ := X
  subst q hby
  exact Run.of (fun t k => XS.dnegS X.here hx rfl hd rfl rfl k) r
theorem r_dadd (pc' : Nat) (X : Cx p l e R s m args below meth c Z bytes ml own ret mname n0 T h cells slots) {x y : UInt64} (hd : decode bytes pc = .ok (.dadd, 1)) (hn : Jvm.Free.Fl.NoNaN64 (FP.dadd x y)) (r : Run p e below m K T pc' L (.double (FP.dadd x y) :: st)) (q : pc + 1 = pc' := by rfl) : Run p e below m K T pc L (.double y :: .double x :: st) := by
  obtain ⟨⟨locs, X, -⟩, -, hx, hby, -⟩ := X
  subst q hby
  exact Run.of (fun t k => XS.daddS X.here hx rfl hd rfl hn rfl k) r
theorem r_dsub (pc' : Nat) (X : Cx p l e R s m args below meth c Z bytes ml own ret mname n0 T h cells slots) {x y : UInt64} (hd : decode bytes pc = .ok (.dsub, 1)) (hn : Jvm.Free.Fl.NoNaN64 (FP.dsub x y)) (r : Run p e below m K T pc' L (.double (FP.dsub x y) :: st)) (q : pc + 1 = pc' := by rfl) : Run p e below m K T pc L (.double y :: .double x :: st) := by
  obtain ⟨⟨locs, X, -⟩, -, hx, hby, -⟩ := X
  subst q hby
  exact Run.of (fun t k => XS.dsubS X.here hx rfl hd rfl hn rfl k) r
theorem r_dcmpSelf (pc' : Nat) (X : Cx p l e R s m args below meth c Z bytes ml own ret mname n0 T h cells slots) {o : CmpOp} {x : UInt64} (hd : decode bytes pc = .ok (.dcmp o, 1)) (hn : Jvm.Free.Fl.NoNaN64 x) (r : Run p e below m K T pc' L (.int 0 :: st)) (q : pc + 1 = pc' := by rfl) : Run p e below m K T pc L (.double x :: .double x :: st) := by
  obtain ⟨⟨locs, X, -⟩, -, hx, hby, -⟩ := X
  subst q hby
  exact Run.of (fun t k => XS.dcmpS X.here hx rfl hd rfl (dcmpV_self hn o) k) r
theorem r_dup2_2 (pc' : Nat) (X : Cx p l e R s m args below meth c Z bytes ml own ret mname n0 T h cells slots) {x y : Value} (hd : decode bytes pc = .ok (.dup2, 1)) (hc : x.category = 1) (hc2 : y.category = 1) (r : Run p e below m K T pc' L (x :: y :: x :: y :: st)) (q : pc + 1 = pc' := by rfl) : Run p e below m K T pc L (x :: y :: st) := by
  obtain ⟨⟨locs, X, -⟩, -, hx, hby, -⟩ := X
  subst q hby
  refine Run.of (fun t k => ?_) r
  jvm_step X.here [X.here.top, hx, hd, hc, hc2]
  exact k
theorem r_dup2_1 (pc' : Nat) (X : Cx p l e R s m args below meth c Z bytes ml own ret mname n0 T h cells slots) {x : Value} (hd : decode bytes pc = .ok (.dup2, 1)) (hc : x.category = 2) (r : Run p e below m K T pc' L (x :: x :: st)) (q : pc + 1 = pc' := by rfl) : Run p e below m K T pc L (x :: st) := by
  obtain ⟨⟨locs, X, -⟩, -, hx, hby, -⟩ := X
  subst q hby
  refine Run.of (fun t k => ?_) r
  jvm_step X.here [X.here.top, hx, hd, hc]
  exact k
theorem r_dup_x2_111 (pc' : Nat) (X : Cx p l e R s m args below meth c Z bytes ml own ret mname n0 T h cells slots) {x y z : Value} (hd : decode bytes pc = .ok (.dup_x2, 1)) (hc : x.category = 1) (hc2 : y.category = 1) (hc3 : z.category = 1) (r : Run p e below m K T pc' L (x :: y :: z :: x :: st)) (q : pc + 1 = pc' := by rfl) : Run p e below m K T pc L (x :: y :: z :: st) := by
  obtain ⟨⟨locs, X, -⟩, -, hx, hby, -⟩ := X
  subst q hby
  refine Run.of (fun t k => ?_) r
  jvm_step X.here [X.here.top, hx, hd, hc, hc2, hc3]
  exact k
theorem r_dup2_x1_2 (pc' : Nat) (X : Cx p l e R s m args below meth c Z bytes ml own ret mname n0 T h cells slots) {x y : Value} (hd : decode bytes pc = .ok (.dup2_x1, 1)) (hc : x.category = 2) (hc2 : y.category = 1) (r : Run p e below m K T pc' L (x :: y :: x :: st)) (q : pc + 1 = pc' := by rfl) : Run p e below m K T pc L (x :: y :: st) := by
  obtain ⟨⟨locs, X, -⟩, -, hx, hby, -⟩ := X
  subst q hby
  refine Run.of (fun t k => ?_) r
  jvm_step X.here [X.here.top, hx, hd, hc, hc2]
  exact k
theorem r_dup2_x2_2 (pc' : Nat) (X : Cx p l e R s m args below meth c Z bytes ml own ret mname n0 T h cells slots) {x y z : Value} (hd : decode bytes pc = .ok (.dup2_x2, 1)) (hc : x.category = 2) (hc2 : y.category = 1) (hc3 : z.category = 1) (r : Run p e below m K T pc' L (x :: y :: z :: x :: st)) (q : pc + 1 = pc' := by rfl) : Run p e below m K T pc L (x :: y :: z :: st) := by
  obtain ⟨⟨locs, X, -⟩, -, hx, hby, -⟩ := X
  subst q hby
  refine Run.of (fun t k => ?_) r
  jvm_step X.here [X.here.top, hx, hd, hc, hc2, hc3]
  exact k
theorem r_pop2_1 (pc' : Nat) (X : Cx p l e R s m args below meth c Z bytes ml own ret mname n0 T h cells slots) {x : Value} (hd : decode bytes pc = .ok (.pop2, 1)) (hc : x.category = 2) (r : Run p e below m K T pc' L st) (q : pc + 1 = pc' := by rfl) : Run p e below m K T pc L (x :: st) := by
  obtain ⟨⟨locs, X, -⟩, -, hx, hby, -⟩ := X
  subst q hby
  refine Run.of (fun t k => ?_) r
  jvm_step X.here [X.here.top, hx, hd, hc]
  exact k
theorem r_goto (pc' : Nat) (X : Cx p l e R s m args below meth c Z bytes ml own ret mname n0 T h cells slots) {o : Int} (hd : decode bytes pc = .ok (.goto o, 3)) (r : Run p e below m K T pc' L st) (ho : 0 ≤ (pc : Int) + o := by decide) (hp : ((pc : Int) + o).toNat = pc' := by decide) : Run p e below m K T pc L st := by
  obtain ⟨⟨locs, X, -⟩, -, hx, hby, -⟩ := X
  subst hby
  exact Run.of (fun t k => XS.goto X.here hx rfl (pc0 := pc) (pc' := pc') rfl hd ho hp k) r
theorem r_ifY (pc' : Nat) (X : Cx p l e R s m args below meth c Z bytes ml own ret mname n0 T h cells slots) {cd : ClassFile.Cond} {o : Int} {x : Int32} (hd : decode bytes pc = .ok (.ifCond cd o, 3)) (hc : ifCond.holds cd x = true) (r : Run p e below m K T pc' L st) (ho : 0 ≤ (pc : Int) + o := by decide) (hp : ((pc : Int) + o).toNat = pc' := by decide) : Run p e below m K T pc L (.int x :: st) := by
  obtain ⟨⟨locs, X, -⟩, -, hx, hby, -⟩ := X
  subst hby
  exact Run.of (fun t k => XS.ifYes X.here hx rfl (pc0 := pc) (pc' := pc') rfl hd rfl hc ho hp k) r
theorem r_ifN (pc' : Nat) (X : Cx p l e R s m args below meth c Z bytes ml own ret mname n0 T h cells slots) {cd : ClassFile.Cond} {o : Int} {x : Int32} (hd : decode bytes pc = .ok (.ifCond cd o, 3)) (hc : ifCond.holds cd x = false) (r : Run p e below m K T pc' L st) (q : pc + 3 = pc' := by rfl) : Run p e below m K T pc L (.int x :: st) := by
  obtain ⟨⟨locs, X, -⟩, -, hx, hby, -⟩ := X
  subst q hby
  exact Run.of (fun t k => XS.ifNo X.here hx rfl hd rfl hc k) r
theorem r_icmpY (pc' : Nat) (X : Cx p l e R s m args below meth c Z bytes ml own ret mname n0 T h cells slots) {cd : ClassFile.Cond} {o : Int} {x y : Int32} (hd : decode bytes pc = .ok (.if_icmp cd o, 3)) (hc : if_icmp.holds cd x y = true) (r : Run p e below m K T pc' L st) (ho : 0 ≤ (pc : Int) + o := by decide) (hp : ((pc : Int) + o).toNat = pc' := by decide) : Run p e below m K T pc L (.int y :: .int x :: st) := by
  obtain ⟨⟨locs, X, -⟩, -, hx, hby, -⟩ := X
  subst hby
  exact Run.of (fun t k => XS.icmpYes X.here hx rfl (pc0 := pc) (pc' := pc') rfl hd rfl hc ho hp k) r
theorem r_icmpN (pc' : Nat) (X : Cx p l e R s m args below meth c Z bytes ml own ret mname n0 T h cells slots) {cd : ClassFile.Cond} {o : Int} {x y : Int32} (hd : decode bytes pc = .ok (.if_icmp cd o, 3)) (hc : if_icmp.holds cd x y = false) (r : Run p e below m K T pc' L st) (q : pc + 3 = pc' := by rfl) : Run p e below m K T pc L (.int y :: .int x :: st) := by
  obtain ⟨⟨locs, X, -⟩, -, hx, hby, -⟩ := X
  subst q hby
  exact Run.of (fun t k => XS.icmpNo X.here hx rfl hd rfl hc k) r
theorem r_ifnullY (pc' : Nat) (X : Cx p l e R s m args below meth c Z bytes ml own ret mname n0 T h cells slots) {o : Int}  (hd : decode bytes pc = .ok (.ifnull o, 3)) (r : Run p e below m K T pc' L st) (ho : 0 ≤ (pc : Int) + o := by decide) (hp : ((pc : Int) + o).toNat = pc' := by decide) : Run p e below m K T pc L (.null :: st) := by
  obtain ⟨⟨locs, X, -⟩, -, hx, hby, -⟩ := X
  subst hby
  exact Run.of (fun t k => XS.ifnullYes X.here hx rfl (pc0 := pc) (pc' := pc') rfl hd rfl ho hp k) r
theorem r_ifnullN (pc' : Nat) (X : Cx p l e R s m args below meth c Z bytes ml own ret mname n0 T h cells slots) {o : Int} {b : Addr} (hd : decode bytes pc = .ok (.ifnull o, 3)) (r : Run p e below m K T pc' L st) (q : pc + 3 = pc' := by rfl) : Run p e below m K T pc L (.ref b :: st) := by
  obtain ⟨⟨locs, X, -⟩, -, hx, hby, -⟩ := X
  subst q hby
  exact Run.of (fun t k => XS.ifnullNo X.here hx rfl hd rfl k) r
theorem r_ifnonnullY (pc' : Nat) (X : Cx p l e R s m args below meth c Z bytes ml own ret mname n0 T h cells slots) {o : Int} {b : Addr} (hd : decode bytes pc = .ok (.ifnonnull o, 3)) (r : Run p e below m K T pc' L st) (ho : 0 ≤ (pc : Int) + o := by decide) (hp : ((pc : Int) + o).toNat = pc' := by decide) : Run p e below m K T pc L (.ref b :: st) := by
  obtain ⟨⟨locs, X, -⟩, -, hx, hby, -⟩ := X
  subst hby
  exact Run.of (fun t k => XS.ifnonnullYes X.here hx rfl (pc0 := pc) (pc' := pc') rfl hd rfl ho hp k) r
theorem r_ifnonnullN (pc' : Nat) (X : Cx p l e R s m args below meth c Z bytes ml own ret mname n0 T h cells slots) {o : Int}  (hd : decode bytes pc = .ok (.ifnonnull o, 3)) (r : Run p e below m K T pc' L st) (q : pc + 3 = pc' := by rfl) : Run p e below m K T pc L (.null :: st) := by
  obtain ⟨⟨locs, X, -⟩, -, hx, hby, -⟩ := X
  subst q hby
  exact Run.of (fun t k => XS.ifnonnullNo X.here hx rfl hd rfl k) r
theorem r_acmpY (pc' : Nat) (X : Cx p l e R s m args below meth c Z bytes ml own ret mname n0 T h cells slots) {cd : ACond} {o : Int} {a b : Addr} (hd : decode bytes pc = .ok (.if_acmp cd o, 3)) (hc : if_acmp.holds cd (some a) (some b) = true) (r : Run p e below m K T pc' L st) (ho : 0 ≤ (pc : Int) + o := by decide) (hp : ((pc : Int) + o).toNat = pc' := by decide) : Run p e below m K T pc L (.ref b :: .ref a :: st) := by
  obtain ⟨⟨locs, X, -⟩, -, hx, hby, -⟩ := X
  subst hby
  exact Run.of (fun t k => XS.acmpYes X.here hx rfl (pc0 := pc) (pc' := pc') rfl hd rfl hc ho hp k) r
theorem r_acmpN (pc' : Nat) (X : Cx p l e R s m args below meth c Z bytes ml own ret mname n0 T h cells slots) {cd : ACond} {o : Int} {a b : Addr} (hd : decode bytes pc = .ok (.if_acmp cd o, 3)) (hc : if_acmp.holds cd (some a) (some b) = false) (r : Run p e below m K T pc' L st) (q : pc + 3 = pc' := by rfl) : Run p e below m K T pc L (.ref b :: .ref a :: st) := by
  obtain ⟨⟨locs, X, -⟩, -, hx, hby, -⟩ := X
  subst q hby
  exact Run.of (fun t k => XS.acmpNo X.here hx rfl hd rfl hc k) r
theorem r_ldcInt (pc' : Nat) (X : Cx p l e R s m args below meth c Z bytes ml own ret mname n0 T h cells slots) {a0 : Array Value} {i : Nat} {z : Int32} (w : (Jvm.Cond.constant own i z).before a0 Z = true) (hd : decode bytes pc = .ok (.ldc i, 2)) (r : Run p e below m K T pc' L (.int z :: st)) (q : pc + 2 = pc' := by rfl) : Run p e below m K T pc L st := by
  obtain ⟨⟨locs, X, -⟩, -, hx, hby, -, hZ, hown, -⟩ := X
  subst q hby
  exact Run.of (fun t k => X.ldcInt hx hown (mvT hZ w) (g := mkF m pc L st) rfl hd _ k) r
theorem r_ldcwInt (pc' : Nat) (X : Cx p l e R s m args below meth c Z bytes ml own ret mname n0 T h cells slots) {a0 : Array Value} {i : Nat} {z : Int32} (w : (Jvm.Cond.constant own i z).before a0 Z = true) (hd : decode bytes pc = .ok (.ldc_w i, 3)) (r : Run p e below m K T pc' L (.int z :: st)) (q : pc + 3 = pc' := by rfl) : Run p e below m K T pc L st := by
  obtain ⟨⟨locs, X, -⟩, -, hx, hby, -, hZ, hown, -⟩ := X
  subst q hby
  exact Run.of (fun t k => X.ldcwInt hx hown (mvT hZ w) (g := mkF m pc L st) rfl hd _ k) r
theorem r_ldc2Long (pc' : Nat) (X : Cx p l e R s m args below meth c Z bytes ml own ret mname n0 T h cells slots) {a0 : Array Value} {i : Nat} {z : Int64} (w : (Jvm.Cond.constantLong own i z).before a0 Z = true) (hd : decode bytes pc = .ok (.ldc2_w i, 3)) (r : Run p e below m K T pc' L (.long z :: st)) (q : pc + 3 = pc' := by rfl) : Run p e below m K T pc L st := by
  obtain ⟨⟨locs, X, -⟩, -, hx, hby, -, hZ, hown, -⟩ := X
  subst q hby
  exact Run.of (fun t k => X.ldc2Long hx hown (mvT hZ w) (g := mkF m pc L st) rfl hd _ k) r
theorem r_ldc2Double (pc' : Nat) (X : Cx p l e R s m args below meth c Z bytes ml own ret mname n0 T h cells slots) {a0 : Array Value} {i : Nat} {z : UInt64} (w : (Jvm.Cond.constantDouble own i z).before a0 Z = true) (hd : decode bytes pc = .ok (.ldc2_w i, 3)) (r : Run p e below m K T pc' L (.double z :: st)) (q : pc + 3 = pc' := by rfl) : Run p e below m K T pc L st := by
  obtain ⟨⟨locs, X, -⟩, -, hx, hby, -, hZ, hown, -⟩ := X
  subst q hby
  exact Run.of (fun t k => X.ldc2DoubleC hx hown (mvT hZ w) (g := mkF m pc L st) rfl hd _ k) r
theorem r_getfield (pc' : Nat) (X : Cx p l e R s m args below meth c Z bytes ml own ret mname n0 T h cells slots) {a0 : Array Value} {R0 O n d host : String} {index : Nat} (w : (Jvm.Cond.fieldLink own index R0 n d).before a0 Z = true ∨ (Jvm.Cond.fieldLinkNest own index R0 n d host).before a0 Z = true) (via : Via Z R0 O n d) {a : Addr} {v : Value} (F : Fld Z h a O n d v) (hd : decode bytes pc = .ok (.getfield index, 3)) (r : ∀ T', Cx p l e R s m args below meth c Z bytes ml own ret mname n0 T' h cells slots → Run p e below m K T' pc' L (v :: st)) (q : pc + 3 = pc' := by rfl) : Run p e below m K T pc L (.ref a :: st) := by
  obtain ⟨⟨locs, X, N⟩, e0, hx, hby, hml, hZ, hown, r1⟩ := X
  subst q
  obtain ⟨T', X', e', stp⟩ := getF X hx hZ hown w via e0 F (g := mkF m pc L (.ref a :: st)) rfl rfl (hb hby hd)
  exact Run.of stp (r T' ⟨⟨locs, X', N⟩, e', hx, hby, hml, hZ, hown, r1⟩)
theorem r_getstatic (pc' : Nat) (X : Cx p l e R s m args below meth c Z bytes ml own ret mname n0 T h cells slots) {a0 : Array Value} {R0 O n d host : String} {index : Nat} (w : (Jvm.Cond.fieldLink own index R0 n d).before a0 Z = true ∨ (Jvm.Cond.fieldLinkNest own index R0 n d host).before a0 Z = true) (via : Via Z R0 O n d) {v : Value} (F : Sta Z h O n d v) (hd : decode bytes pc = .ok (.getstatic index, 3)) (r : ∀ T', Cx p l e R s m args below meth c Z bytes ml own ret mname n0 T' h cells slots → Run p e below m K T' pc' L (v :: st)) (q : pc + 3 = pc' := by rfl) : Run p e below m K T pc L st := by
  obtain ⟨⟨locs, X, N⟩, e0, hx, hby, hml, hZ, hown, r1⟩ := X
  subst q
  obtain ⟨T', X', e', stp⟩ := getS2 X hx hZ hown w via e0 F (g := mkF m pc L st) rfl (hb hby hd)
  exact Run.of stp (r T' ⟨⟨locs, X', N⟩, e', hx, hby, hml, hZ, hown, r1⟩)
theorem r_putfield (pc' : Nat) (X : Cx p l e R s m args below meth c Z bytes ml own ret mname n0 T h cells slots) {a0 : Array Value} {R0 O n d host C : String} {index kk : Nat} {ty : FieldType} (w : (Jvm.Cond.fieldLink own index R0 n d).before a0 Z = true ∨ (Jvm.Cond.fieldLinkNest own index R0 n d host).before a0 Z = true) (via : Via Z R0 O n d) {a : Addr} {v old : Value} (F : Fld Z h a O n d old) (E : Exa Z h a C) (Lw : (Jvm.Cond.lays C O n d).before a0 Z = true ∨ ((Jvm.Cond.laysFinal C O n d).before a0 Z = true ∧ own = O ∧ mname = "<init>")) (wi : (Jvm.Cond.instantiable C kk).before a0 Z = true) (hty : parseFieldDescriptor d = some ty) (hn : narrow ty v = v) (hf : fits ty v = true) (ga : n0 ≤ a) (hd : decode bytes pc = .ok (.putfield index, 3)) (r : ∀ T' h', Wr h h' a (Jvm.RoadKit.slotOf Z O n d) v → Cx p l e R s m args below meth c Z bytes ml own ret mname n0 T' h' cells slots → Run p e below m K T' pc' L st) (q : pc + 3 = pc' := by rfl) : Run p e below m K T pc L (v :: .ref a :: st) := by
  obtain ⟨⟨locs, X, N⟩, e0, hx, hby, hml, hZ, hown, hret, hnm, hlk, hsz⟩ := X
  subst q
  obtain ⟨T', h', X', e', W', stp⟩ := putF X hx hZ hown w via e0 F E (Lw.imp id fun q => ⟨q.1, q.2.1, hnm.trans q.2.2⟩) wi hty hn hf (g := mkF m pc L (v :: .ref a :: st)) rfl rfl (hb hby hd)
  exact Run.of stp (r T' h' W' ⟨⟨_, X', Fr.snoc X' N ga⟩, e', hx, hby, hml, hZ, hown, hret, hnm, hlk, by rw [W'.size]; exact hsz⟩)
theorem r_putfieldN (pc' : Nat) (X : Cx p l e R s m args below meth c Z bytes ml own ret mname n0 T h cells slots) {a0 : Array Value} {R0 O n d C : String} {index kk : Nat} {ty : FieldType} (w : (Jvm.Cond.fieldLink own index R0 n d).before a0 Z = true) (via : Via Z R0 O n d) {a : Addr} {v v' old : Value} (F : Fld Z h a O n d old) (E : Exa Z h a C) (Lw : (Jvm.Cond.lays C O n d).before a0 Z = true ∨ ((Jvm.Cond.laysFinal C O n d).before a0 Z = true ∧ own = O ∧ mname = "<init>")) (wi : (Jvm.Cond.instantiable C kk).before a0 Z = true) (hty : parseFieldDescriptor d = some ty) (hn : narrow ty v = v') (hf : fits ty v' = true) (ga : n0 ≤ a) (hd : decode bytes pc = .ok (.putfield index, 3)) (r : ∀ T' h', Wr h h' a (Jvm.RoadKit.slotOf Z O n d) v' → Cx p l e R s m args below meth c Z bytes ml own ret mname n0 T' h' cells slots → Run p e below m K T' pc' L st) (q : pc + 3 = pc' := by rfl) : Run p e below m K T pc L (v :: .ref a :: st) := by
  obtain ⟨⟨locs, X, N⟩, e0, hx, hby, hml, hZ, hown, hret, hnm, hlk, hsz⟩ := X
  subst q
  obtain ⟨T', h', X', e', W', stp⟩ := putFN X hx hZ hown w via e0 F E (Lw.imp id fun q => ⟨q.1, q.2.1, hnm.trans q.2.2⟩) wi hty hn hf (g := mkF m pc L (v :: .ref a :: st)) rfl rfl (hb hby hd)
  exact Run.of stp (r T' h' W' ⟨⟨_, X', Fr.snoc X' N ga⟩, e', hx, hby, hml, hZ, hown, hret, hnm, hlk, by rw [W'.size]; exact hsz⟩)
theorem r_new (pc' : Nat) (X : Cx p l e R s m args below meth c Z bytes ml own ret mname n0 T h cells slots) {a0 : Array Value} {C : String} {index n : Nat} (w : (Jvm.Cond.classLink own index C).before a0 Z = true) (wi : (Jvm.Cond.instantiable C n).before a0 Z = true) (wz : (Jvm.Cond.initialized C).before a0 Z = true) (hd : decode bytes pc = .ok (.new index, 3)) (hc : cells + 1 ≤ R.cells) (hl : slots + n ≤ R.slots) (r : ∀ T' h' b, b = h.size → n0 ≤ b → Ext h h' → Exa Z h' b C → (∀ {O nm d : String} {ty : FieldType}, Laid Z a0 C O nm d → parseFieldDescriptor d = some ty → Fld Z h' b O nm d (defaultValue ty)) → Cx p l e R s m args below meth c Z bytes ml own ret mname n0 T' h' (cells + 1) (slots + n) → Run p e below m K T' pc' L (.ref b :: st)) (q : pc + 3 = pc' := by rfl) : Run p e below m K T pc L st := by
  obtain ⟨⟨locs, X, N⟩, e0, hx, hby, hml, hZ, hown, hret, hnm, hlk, hsz⟩ := X
  subst q
  obtain ⟨T', h', X', e', E', A', D', -, stp⟩ := newO X hx hZ hown w wi wz e0 (g := mkF m pc L st) rfl (hb hby hd) hc hl
  exact Run.of stp (r T' h' h.size rfl hsz E' A' D' ⟨⟨_, X', N⟩, e', hx, hby, hml, hZ, hown, hret, hnm, hlk, Nat.le_trans hsz E'.1⟩)
theorem r_newarray (pc' : Nat) (X : Cx p l e R s m args below meth c Z bytes ml own ret mname n0 T h cells slots) {a0 : Array Value} {aty : ArrayType} {z : Int32} (n cap : Nat) (w : (Jvm.Cond.arrayClass (newarray.typeOf aty)).before a0 Z = true) (hd : decode bytes pc = .ok (.newarray aty, 2)) (hz : z.toInt = (n : Int)) (hcap : n ≤ cap) (hb8 : cap * 8 ≤ 536870912) (hc : cells + 1 ≤ R.cells) (hl : slots + cap ≤ R.slots) (r : ∀ T' h' b, b = h.size → n0 ≤ b → Ext h h' → AF Z h' b (newarray.typeOf aty) n (fun _ => defaultValue (newarray.typeOf aty)) → Cx p l e R s m args below meth c Z bytes ml own ret mname n0 T' h' (cells + 1) (slots + cap) → Run p e below m K T' pc' L (.ref b :: st)) (q : pc + 2 = pc' := by rfl) : Run p e below m K T pc L (.int z :: st) := by
  obtain ⟨⟨locs, X, N⟩, e0, hx, hby, hml, hZ, hown, hret, hnm, hlk, hsz⟩ := X
  subst q
  have hz0 : ¬ z < 0 := by rw [Int32.lt_iff_toInt_lt]; have : (0 : Int32).toInt = 0 := rfl; omega
  have hzn : z.toNatClampNeg = n := by show z.toInt.toNat = n; omega
  have hzl := z.toInt_lt
  obtain ⟨T', h', cA, X', e', E', A', stp⟩ := newP X hx hZ w e0 (g := mkF m pc L (.int z :: st)) rfl (hb hby hd) rfl hz0 (cap := cap) (by rw [hzn]; exact hcap) hb8 hc hl
  refine Run.of stp (r T' h' h.size rfl hsz E' ⟨_, A', by rw [sz_new, hzn], by omega, fun j hj => ?_⟩ ⟨⟨_, X', N⟩, e', hx, hby, hml, hZ, hown, hret, hnm, hlk, Nat.le_trans hsz E'.1⟩)
  simp [newA, hzn, hj]
theorem r_arraylength (pc' : Nat) (X : Cx p l e R s m args below meth c Z bytes ml own ret mname n0 T h cells slots) {a : Addr} {ty : FieldType} {n : Nat} {f : Nat → Value} (A : AF Z h a ty n f) (z : Int32) (hz : z.toInt = (n : Int)) (hd : decode bytes pc = .ok (.arraylength, 1)) (r : Run p e below m K T pc' L (.int z :: st)) (q : pc + 1 = pc' := by rfl) : Run p e below m K T pc L (.ref a :: st) := by
  obtain ⟨⟨locs, X, N⟩, e0, hx, hby, hml, hZ, hown, r1⟩ := X
  subst q hby
  obtain ⟨cl, A, S, q, -⟩ := A
  have ez : cl.slots.size.toInt32 = z := by rw [S]; apply Int32.toInt_inj.mp; rw [hz]; exact len_toInt q
  rw [← ez] at r
  exact Run.of (fun t k => X.arraylength hx (by rw [e0]; exact A.1) (State.isArrayOf_alike hZ.alike A.2.1) (g := mkF m pc L (.ref a :: st)) rfl rfl hd _ k) r
theorem r_iaload (pc' : Nat) (X : Cx p l e R s m args below meth c Z bytes ml own ret mname n0 T h cells slots) {a : Addr} {n : Nat} {f : Nat → Value} (A : AF Z h a .int n f) {j : Int32} {i : Nat} {v : Value} (hj : j.toInt = (i : Int)) (hi : i < n) (hv : f i = v) (hd : decode bytes pc = .ok (.iaload, 1)) (r : Run p e below m K T pc' L (v :: st)) (q : pc + 1 = pc' := by rfl) : Run p e below m K T pc L (.int j :: .ref a :: st) := by
  obtain ⟨⟨locs, X, N⟩, e0, hx, hby, hml, hZ, hown, r1⟩ := X
  subst q hby
  obtain ⟨cl, A, S, -, H⟩ := A
  obtain ⟨h1, h2⟩ := idx_of hj (S ▸ hi)
  exact Run.of (fun t k => X.iaload hx (j := j) (v := v) (by rw [e0]; exact A.1) (State.isArrayOf_alike hZ.alike A.2.1) A.2.2 h1 (by rw [h2, H i hi, hv]) (g := mkF m pc L (.int j :: .ref a :: st)) rfl rfl hd _ k) r
theorem r_laload (pc' : Nat) (X : Cx p l e R s m args below meth c Z bytes ml own ret mname n0 T h cells slots) {a : Addr} {n : Nat} {f : Nat → Value} (A : AF Z h a .long n f) {j : Int32} {i : Nat} {v : Value} (hj : j.toInt = (i : Int)) (hi : i < n) (hv : f i = v) (hd : decode bytes pc = .ok (.laload, 1)) (r : Run p e below m K T pc' L (v :: st)) (q : pc + 1 = pc' := by rfl) : Run p e below m K T pc L (.int j :: .ref a :: st) := by
  obtain ⟨⟨locs, X, N⟩, e0, hx, hby, hml, hZ, hown, r1⟩ := X
  subst q hby
  obtain ⟨cl, A, S, -, H⟩ := A
  obtain ⟨h1, h2⟩ := idx_of hj (S ▸ hi)
  exact Run.of (fun t k => X.laload hx (j := j) (v := v) (by rw [e0]; exact A.1) (State.isArrayOf_alike hZ.alike A.2.1) A.2.2 h1 (by rw [h2, H i hi, hv]) (g := mkF m pc L (.int j :: .ref a :: st)) rfl rfl hd _ k) r
theorem r_caload (pc' : Nat) (X : Cx p l e R s m args below meth c Z bytes ml own ret mname n0 T h cells slots) {a : Addr} {n : Nat} {f : Nat → Value} (A : AF Z h a .char n f) {j : Int32} {i : Nat} {v : Value} (hj : j.toInt = (i : Int)) (hi : i < n) (hv : f i = v) (hd : decode bytes pc = .ok (.caload, 1)) (r : Run p e below m K T pc' L (v :: st)) (q : pc + 1 = pc' := by rfl) : Run p e below m K T pc L (.int j :: .ref a :: st) := by
  obtain ⟨⟨locs, X, N⟩, e0, hx, hby, hml, hZ, hown, r1⟩ := X
  subst q hby
  obtain ⟨cl, A, S, -, H⟩ := A
  obtain ⟨h1, h2⟩ := idx_of hj (S ▸ hi)
  exact Run.of (fun t k => X.caload hx (j := j) (v := v) (by rw [e0]; exact A.1) (State.isArrayOf_alike hZ.alike A.2.1) A.2.2 h1 (by rw [h2, H i hi, hv]) (g := mkF m pc L (.int j :: .ref a :: st)) rfl rfl hd _ k) r
theorem r_baloadB (pc' : Nat) (X : Cx p l e R s m args below meth c Z bytes ml own ret mname n0 T h cells slots) {a : Addr} {n : Nat} {f : Nat → Value} (A : AF Z h a .byte n f) {j : Int32} {i : Nat} {v : Value} (hj : j.toInt = (i : Int)) (hi : i < n) (hv : f i = v) (hd : decode bytes pc = .ok (.baload, 1)) (r : Run p e below m K T pc' L (v :: st)) (q : pc + 1 = pc' := by rfl) : Run p e below m K T pc L (.int j :: .ref a :: st) := by
  obtain ⟨⟨locs, X, N⟩, e0, hx, hby, hml, hZ, hown, r1⟩ := X
  subst q hby
  obtain ⟨cl, A, S, -, H⟩ := A
  obtain ⟨h1, h2⟩ := idx_of hj (S ▸ hi)
  exact Run.of (fun t k => X.baloadBytes hx (j := j) (v := v) (by rw [e0]; exact A.1) (State.isArrayOf_alike hZ.alike A.2.1) A.2.2 h1 (by rw [h2, H i hi, hv]) (g := mkF m pc L (.int j :: .ref a :: st)) rfl rfl hd _ k) r
theorem r_baloadZ (pc' : Nat) (X : Cx p l e R s m args below meth c Z bytes ml own ret mname n0 T h cells slots) {a : Addr} {n : Nat} {f : Nat → Value} (A : AF Z h a .boolean n f) {j : Int32} {i : Nat} {v : Value} (hj : j.toInt = (i : Int)) (hi : i < n) (hv : f i = v) (hd : decode bytes pc = .ok (.baload, 1)) (r : Run p e below m K T pc' L (v :: st)) (q : pc + 1 = pc' := by rfl) : Run p e below m K T pc L (.int j :: .ref a :: st) := by
  obtain ⟨⟨locs, X, N⟩, e0, hx, hby, hml, hZ, hown, r1⟩ := X
  subst q hby
  obtain ⟨cl, A, S, -, H⟩ := A
  obtain ⟨h1, h2⟩ := idx_of hj (S ▸ hi)
  exact Run.of (fun t k => X.baloadBooleans hx (j := j) (v := v) (by rw [e0]; exact A.1) (State.isArrayOf_alike hZ.alike A.2.1) A.2.2 h1 (by rw [h2, H i hi, hv]) (g := mkF m pc L (.int j :: .ref a :: st)) rfl rfl hd _ k) r
theorem r_daload (pc' : Nat) (X : Cx p l e R s m args below meth c Z bytes ml own ret mname n0 T h cells slots) {a : Addr} {n : Nat} {f : Nat → Value} (A : AF Z h a .double n f) {j : Int32} {i : Nat} {v : Value} (hj : j.toInt = (i : Int)) (hi : i < n) (hv : f i = v) (hd : decode bytes pc = .ok (.daload, 1)) (r : Run p e below m K T pc' L (v :: st)) (q : pc + 1 = pc' := by rfl) : Run p e below m K T pc L (.int j :: .ref a :: st) := by
  obtain ⟨⟨locs, X, N⟩, e0, hx, hby, hml, hZ, hown, r1⟩ := X
  subst q hby
  obtain ⟨cl, A, S, -, H⟩ := A
  obtain ⟨h1, h2⟩ := idx_of hj (S ▸ hi)
  exact Run.of (fun t k => X.daload hx (j := j) (v := v) (by rw [e0]; exact A.1) (State.isArrayOf_alike hZ.alike A.2.1) A.2.2 h1 (by rw [h2, H i hi, hv]) (g := mkF m pc L (.int j :: .ref a :: st)) rfl rfl hd _ k) r
theorem r_iastore (pc' : Nat) (X : Cx p l e R s m args below meth c Z bytes ml own ret mname n0 T h cells slots) {a : Addr} {n : Nat} {f : Nat → Value} (A : AF Z h a .int n f) {j : Int32} {i : Nat} {x : Int32} {v : Value} (hj : j.toInt = (i : Int)) (hi : i < n) (hv : (.int x) = v) (ga : n0 ≤ a) (hd : decode bytes pc = .ok (.iastore, 1)) (r : ∀ T' h', Wr h h' a i v → Cx p l e R s m args below meth c Z bytes ml own ret mname n0 T' h' cells slots → Run p e below m K T' pc' L st) (q : pc + 1 = pc' := by rfl) : Run p e below m K T pc L ((.int x) :: .int j :: .ref a :: st) := by
  obtain ⟨⟨locs, X, N⟩, e0, hx, hby, hml, hZ, hown, hret, hnm, hlk, hsz⟩ := X
  subst q hv
  obtain ⟨cl, A, S, -, H⟩ := A
  obtain ⟨h1, h2⟩ := idx_of hj (S ▸ hi)
  obtain ⟨T', h', X', e', W', stp⟩ := stI X hx hZ e0 A (j := j) h1 (g := mkF m pc L ((.int x) :: .int j :: .ref a :: st)) rfl rfl (hb hby hd)
  exact Run.of stp (r T' h' (h2 ▸ W') ⟨⟨_, X', Fr.snoc X' N ga⟩, e', hx, hby, hml, hZ, hown, hret, hnm, hlk, by rw [W'.size]; exact hsz⟩)
theorem r_lastore (pc' : Nat) (X : Cx p l e R s m args below meth c Z bytes ml own ret mname n0 T h cells slots) {a : Addr} {n : Nat} {f : Nat → Value} (A : AF Z h a .long n f) {j : Int32} {i : Nat} {x : Int64} {v : Value} (hj : j.toInt = (i : Int)) (hi : i < n) (hv : (.long x) = v) (ga : n0 ≤ a) (hd : decode bytes pc = .ok (.lastore, 1)) (r : ∀ T' h', Wr h h' a i v → Cx p l e R s m args below meth c Z bytes ml own ret mname n0 T' h' cells slots → Run p e below m K T' pc' L st) (q : pc + 1 = pc' := by rfl) : Run p e below m K T pc L ((.long x) :: .int j :: .ref a :: st) := by
  obtain ⟨⟨locs, X, N⟩, e0, hx, hby, hml, hZ, hown, hret, hnm, hlk, hsz⟩ := X
  subst q hv
  obtain ⟨cl, A, S, -, H⟩ := A
  obtain ⟨h1, h2⟩ := idx_of hj (S ▸ hi)
  obtain ⟨T', h', X', e', W', stp⟩ := stJ X hx hZ e0 A (j := j) h1 (g := mkF m pc L ((.long x) :: .int j :: .ref a :: st)) rfl rfl (hb hby hd)
  exact Run.of stp (r T' h' (h2 ▸ W') ⟨⟨_, X', Fr.snoc X' N ga⟩, e', hx, hby, hml, hZ, hown, hret, hnm, hlk, by rw [W'.size]; exact hsz⟩)
theorem r_castore (pc' : Nat) (X : Cx p l e R s m args below meth c Z bytes ml own ret mname n0 T h cells slots) {a : Addr} {n : Nat} {f : Nat → Value} (A : AF Z h a .char n f) {j : Int32} {i : Nat} {x : Int32} {v : Value} (hj : j.toInt = (i : Int)) (hi : i < n) (hv : (.int (nar .char x)) = v) (ga : n0 ≤ a) (hd : decode bytes pc = .ok (.castore, 1)) (r : ∀ T' h', Wr h h' a i v → Cx p l e R s m args below meth c Z bytes ml own ret mname n0 T' h' cells slots → Run p e below m K T' pc' L st) (q : pc + 1 = pc' := by rfl) : Run p e below m K T pc L ((.int x) :: .int j :: .ref a :: st) := by
  obtain ⟨⟨locs, X, N⟩, e0, hx, hby, hml, hZ, hown, hret, hnm, hlk, hsz⟩ := X
  subst q hv
  obtain ⟨cl, A, S, -, H⟩ := A
  obtain ⟨h1, h2⟩ := idx_of hj (S ▸ hi)
  obtain ⟨T', h', X', e', W', stp⟩ := stC X hx hZ e0 A (j := j) h1 (g := mkF m pc L ((.int x) :: .int j :: .ref a :: st)) rfl rfl (hb hby hd)
  exact Run.of stp (r T' h' (h2 ▸ W') ⟨⟨_, X', Fr.snoc X' N ga⟩, e', hx, hby, hml, hZ, hown, hret, hnm, hlk, by rw [W'.size]; exact hsz⟩)
theorem r_bastoreB (pc' : Nat) (X : Cx p l e R s m args below meth c Z bytes ml own ret mname n0 T h cells slots) {a : Addr} {n : Nat} {f : Nat → Value} (A : AF Z h a .byte n f) {j : Int32} {i : Nat} {x : Int32} {v : Value} (hj : j.toInt = (i : Int)) (hi : i < n) (hv : (.int (nar .byte x)) = v) (ga : n0 ≤ a) (hd : decode bytes pc = .ok (.bastore, 1)) (r : ∀ T' h', Wr h h' a i v → Cx p l e R s m args below meth c Z bytes ml own ret mname n0 T' h' cells slots → Run p e below m K T' pc' L st) (q : pc + 1 = pc' := by rfl) : Run p e below m K T pc L ((.int x) :: .int j :: .ref a :: st) := by
  obtain ⟨⟨locs, X, N⟩, e0, hx, hby, hml, hZ, hown, hret, hnm, hlk, hsz⟩ := X
  subst q hv
  obtain ⟨cl, A, S, -, H⟩ := A
  obtain ⟨h1, h2⟩ := idx_of hj (S ▸ hi)
  obtain ⟨T', h', X', e', W', stp⟩ := stB X hx hZ e0 A (j := j) h1 (g := mkF m pc L ((.int x) :: .int j :: .ref a :: st)) rfl rfl (hb hby hd)
  exact Run.of stp (r T' h' (h2 ▸ W') ⟨⟨_, X', Fr.snoc X' N ga⟩, e', hx, hby, hml, hZ, hown, hret, hnm, hlk, by rw [W'.size]; exact hsz⟩)
theorem r_bastoreZ (pc' : Nat) (X : Cx p l e R s m args below meth c Z bytes ml own ret mname n0 T h cells slots) {a : Addr} {n : Nat} {f : Nat → Value} (A : AF Z h a .boolean n f) {j : Int32} {i : Nat} {x : Int32} {v : Value} (hj : j.toInt = (i : Int)) (hi : i < n) (hv : (.int (nar .boolean x)) = v) (ga : n0 ≤ a) (hd : decode bytes pc = .ok (.bastore, 1)) (r : ∀ T' h', Wr h h' a i v → Cx p l e R s m args below meth c Z bytes ml own ret mname n0 T' h' cells slots → Run p e below m K T' pc' L st) (q : pc + 1 = pc' := by rfl) : Run p e below m K T pc L ((.int x) :: .int j :: .ref a :: st) := by
  obtain ⟨⟨locs, X, N⟩, e0, hx, hby, hml, hZ, hown, hret, hnm, hlk, hsz⟩ := X
  subst q hv
  obtain ⟨cl, A, S, -, H⟩ := A
  obtain ⟨h1, h2⟩ := idx_of hj (S ▸ hi)
  obtain ⟨T', h', X', e', W', stp⟩ := stZ X hx hZ e0 A (j := j) h1 (g := mkF m pc L ((.int x) :: .int j :: .ref a :: st)) rfl rfl (hb hby hd)
  exact Run.of stp (r T' h' (h2 ▸ W') ⟨⟨_, X', Fr.snoc X' N ga⟩, e', hx, hby, hml, hZ, hown, hret, hnm, hlk, by rw [W'.size]; exact hsz⟩)
theorem r_dastore (pc' : Nat) (X : Cx p l e R s m args below meth c Z bytes ml own ret mname n0 T h cells slots) {a : Addr} {n : Nat} {f : Nat → Value} (A : AF Z h a .double n f) {j : Int32} {i : Nat} {x : UInt64} {v : Value} (hj : j.toInt = (i : Int)) (hi : i < n) (hv : (.double x) = v) (ga : n0 ≤ a) (hd : decode bytes pc = .ok (.dastore, 1)) (r : ∀ T' h', Wr h h' a i v → Cx p l e R s m args below meth c Z bytes ml own ret mname n0 T' h' cells slots → Run p e below m K T' pc' L st) (q : pc + 1 = pc' := by rfl) : Run p e below m K T pc L ((.double x) :: .int j :: .ref a :: st) := by
  obtain ⟨⟨locs, X, N⟩, e0, hx, hby, hml, hZ, hown, hret, hnm, hlk, hsz⟩ := X
  subst q hv
  obtain ⟨cl, A, S, -, H⟩ := A
  obtain ⟨h1, h2⟩ := idx_of hj (S ▸ hi)
  obtain ⟨T', h', X', e', W', stp⟩ := stD X hx hZ e0 A (j := j) h1 (g := mkF m pc L ((.double x) :: .int j :: .ref a :: st)) rfl rfl (hb hby hd)
  exact Run.of stp (r T' h' (h2 ▸ W') ⟨⟨_, X', Fr.snoc X' N ga⟩, e', hx, hby, hml, hZ, hown, hret, hnm, hlk, by rw [W'.size]; exact hsz⟩)
theorem r_initO (pc' : Nat) (X : Cx p l e R s m args below meth c Z bytes ml own ret mname n0 T h cells slots) {a0 : Array Value} {idx : Nat} (w1 : (Jvm.Cond.methodLink own idx Lib.objectInit).before a0 Z = true) (w2 : (Jvm.Cond.instanceMethod Lib.objectInit).before a0 Z = true) (w3 : (Jvm.Cond.code Lib.objectInit ⟨#[0xb1]⟩ 1 none).before a0 Z = true) {a : Addr} (hd : decode bytes pc = .ok (.invokespecial idx, 3)) (hsize : L.size = ml) (hf : 1 ≤ R.frames) (W : Nat) (hW : (st.map fun v => v.category).sum ≤ W) (hl : W + 12 ≤ R.locals) (r : ∀ T', Cx p l e R s m args below meth c Z bytes ml own ret mname n0 T' h cells slots → Run p e below m K T' pc' L st) (q : pc + 3 = pc' := by rfl) : Run p e below m K T pc L (.ref a :: st) := by
  obtain ⟨⟨locs, X, N⟩, e0, hx, hby, hml, hZ, hown, r1⟩ := X
  subst q
  obtain ⟨T', X', e', stp⟩ := initO X hx hZ hown w1 w2 w3 e0 (g := mkF m pc L (.ref a :: st)) rfl (by rw [hml]; exact hsize) rfl (hb hby hd) hf (W := W) (by show 2 * 0 + _ ≤ _; omega) hl
  exact Run.of stp (r T' ⟨⟨_, X', N⟩, e', hx, hby, hml, hZ, hown, r1⟩)
theorem met_of {l : Launch} {Z : State} {n0 : Nat} {ws : List Jvm.Cond} {y : MethodName} {bytes : ByteArray} {ml : Nat} {ret : Option FieldType} {rm : Room} {as : Array Value} {h0 : Heap} {Q : Option Value → Heap → Prop} {L0 : Array Slot} (hpl : plainFor y = true) (hn0 : n0 ≤ h0.size) (ef : ∀ m, entryFrame m as ml = mkF m 0 L0 [])
    (body : ∀ p e s m below meth c T, s.heap = h0 → Cx p l e rm s m as below meth c Z bytes ml y.cls ret y.name n0 T h0 0 0 → Run p e below m (Fin1 below s n0 Q rm.cells rm.slots) T 0 L0 []) : Met1 l Z n0 ws y bytes ml ret rm as h0 Q := by
  refine MetFree.of_bodySF hpl hisR ?_
  intro p e s m args below meth c s₁ Bd hml0 hP hK
  obtain ⟨rfl, hZ, hh⟩ := hP
  have hlk : meth.locks = false := BodyLoose.notSynchronized Bd
  obtain ⟨u, h1, h2, o, h3, h4⟩ := body p e s m below meth c s₁ hh ⟨⟨[], Stand.of_body Bd, Fr.nil n0⟩, by rw [← hh, Bd.state]; rfl, Bd.exec, Bd.bytes, hml0, hZ, findClass_of_methodNamed Bd.named, Bd.returns, (name_of_methodNamed Bd.named Bd.method).1, hlk, hn0⟩
  exact ⟨u, o, castTop (ef m) h1, h2, h3, h4⟩
theorem fin_of {Q : Option Value → Heap → Prop} {cN sN : Nat} {v : Option Value} (X : Cx p l e R s m args below meth c Z bytes ml own ret mname n0 T h cells slots) (hc : cells ≤ cN) (hs : slots ≤ sN) (hQ : Q v h) (hv : ret = none → v = none) (stp : ∀ {T : State} {locs : List Loc} (X : Stand p l e R s m args below meth c T locs cells slots) (hx : p.tables.exec = Jvm.exec) (hret : meth.sig.returnType = ret) {fs : List Frame}, (∀ (f : JFrame) (acts : List Action), f.method = m → f.locked = none → f.entered = [] → (doReturn e (T.setTop f) acts v).1 = T.setFrames fs) → Steps p.tables e below (T.setTop (mkF m pc L st)) (T.setFrames fs)) : Run p e below m (Fin1 below s n0 Q cN sN) T pc L st := by
  obtain ⟨⟨locs, X, N⟩, e0, hx, hby, hml, hZ, hown, hret, hnm, hlk, hsz⟩ := X
  obtain ⟨fs, hr, hrun, hended, hW, hsame⟩ := X.leave (v := v) (fun q => hv (hret.symm.trans q)) hlk
  refine ⟨_, stp X hx hret hr, hrun, _, hended, v, locs, rfl, ⟨?_, N, ?_⟩, ⟨_, rfl⟩, hW, hsame.mono hc hs⟩
  · show Q v T.heap; rw [e0]; exact hQ
  · show n0 ≤ T.heap.size; rw [e0]; exact hsz
theorem r_retZ {Q : Option Value → Heap → Prop} {cN sN : Nat} (X : Cx p l e R s m args below meth c Z bytes ml own (some .boolean) mname n0 T h cells slots) {x z : Int32} (hd : decode bytes pc = .ok (.ireturn, 1)) (hz : nar .boolean x = z) (hc : cells ≤ cN) (hs : slots ≤ sN) (hQ : Q (some (.int z)) h) : Run p e below m (Fin1 below s n0 Q cN sN) T pc L (.int x :: st) := by
  have hby := X.2.2.2.1
  subst hz
  exact fin_of X hc hs hQ (fun q => by cases q) (fun X hx hret fs hr => retN X hx (t := .boolean) hret (by simp) (hb hby hd) hr)
theorem r_retB {Q : Option Value → Heap → Prop} {cN sN : Nat} (X : Cx p l e R s m args below meth c Z bytes ml own (some .byte) mname n0 T h cells slots) {x z : Int32} (hd : decode bytes pc = .ok (.ireturn, 1)) (hz : nar .byte x = z) (hc : cells ≤ cN) (hs : slots ≤ sN) (hQ : Q (some (.int z)) h) : Run p e below m (Fin1 below s n0 Q cN sN) T pc L (.int x :: st) := by
  have hby := X.2.2.2.1
  subst hz
  exact fin_of X hc hs hQ (fun q => by cases q) (fun X hx hret fs hr => retN X hx (t := .byte) hret (by simp) (hb hby hd) hr)
theorem r_retC {Q : Option Value → Heap → Prop} {cN sN : Nat} (X : Cx p l e R s m args below meth c Z bytes ml own (some .char) mname n0 T h cells slots) {x z : Int32} (hd : decode bytes pc = .ok (.ireturn, 1)) (hz : nar .char x = z) (hc : cells ≤ cN) (hs : slots ≤ sN) (hQ : Q (some (.int z)) h) : Run p e below m (Fin1 below s n0 Q cN sN) T pc L (.int x :: st) := by
  have hby := X.2.2.2.1
  subst hz
  exact fin_of X hc hs hQ (fun q => by cases q) (fun X hx hret fs hr => retN X hx (t := .char) hret (by simp) (hb hby hd) hr)
theorem r_retS {Q : Option Value → Heap → Prop} {cN sN : Nat} (X : Cx p l e R s m args below meth c Z bytes ml own (some .short) mname n0 T h cells slots) {x z : Int32} (hd : decode bytes pc = .ok (.ireturn, 1)) (hz : nar .short x = z) (hc : cells ≤ cN) (hs : slots ≤ sN) (hQ : Q (some (.int z)) h) : Run p e below m (Fin1 below s n0 Q cN sN) T pc L (.int x :: st) := by
  have hby := X.2.2.2.1
  subst hz
  exact fin_of X hc hs hQ (fun q => by cases q) (fun X hx hret fs hr => retN X hx (t := .short) hret (by simp) (hb hby hd) hr)
theorem r_retI {Q : Option Value → Heap → Prop} {cN sN : Nat} (X : Cx p l e R s m args below meth c Z bytes ml own (some .int) mname n0 T h cells slots) {x : Int32} (hd : decode bytes pc = .ok (.ireturn, 1)) (hc : cells ≤ cN) (hs : slots ≤ sN) (hQ : Q (some (.int x)) h) : Run p e below m (Fin1 below s n0 Q cN sN) T pc L (.int x :: st) := by
  have hby := X.2.2.2.1
  exact fin_of X hc hs hQ (fun q => by cases q) (fun X hx hret fs hr => retOut X hx (t := .int) hret rfl (Or.inl ⟨rfl, Or.inl rfl, _, rfl⟩) (hb hby hd) hr)
theorem r_retJ {Q : Option Value → Heap → Prop} {cN sN : Nat} (X : Cx p l e R s m args below meth c Z bytes ml own (some .long) mname n0 T h cells slots) {x : Int64} (hd : decode bytes pc = .ok (.lreturn, 1)) (hc : cells ≤ cN) (hs : slots ≤ sN) (hQ : Q (some (.long x)) h) : Run p e below m (Fin1 below s n0 Q cN sN) T pc L (.long x :: st) := by
  have hby := X.2.2.2.1
  exact fin_of X hc hs hQ (fun q => by cases q) (fun X hx hret fs hr => retOut X hx (t := .long) hret rfl (Or.inr (Or.inl ⟨rfl, rfl, _, rfl⟩)) (hb hby hd) hr)
theorem r_retA {Q : Option Value → Heap → Prop} {cN sN : Nat} {t : FieldType} (X : Cx p l e R s m args below meth c Z bytes ml own (some t) mname n0 T h cells slots) {x : Value} (hd : decode bytes pc = .ok (.areturn, 1)) (ht : t.isReference = true) (hn : narrow t x = x) (hx : x.isRef = true) (hc : cells ≤ cN) (hs : slots ≤ sN) (hQ : Q (some x) h) : Run p e below m (Fin1 below s n0 Q cN sN) T pc L (x :: st) := by
  have hby := X.2.2.2.1
  exact fin_of X hc hs hQ (fun q => by cases q) (fun X hx' hret fs hr => retOut X hx' (t := t) hret hn (Or.inr (Or.inr (Or.inr (Or.inr ⟨rfl, ht, hx⟩)))) (hb hby hd) hr)
theorem r_retV {Q : Option Value → Heap → Prop} {cN sN : Nat} (X : Cx p l e R s m args below meth c Z bytes ml own none mname n0 T h cells slots) (hd : decode bytes pc = .ok (.return_, 1)) (hc : cells ≤ cN) (hs : slots ≤ sN) (hQ : Q none h) : Run p e below m (Fin1 below s n0 Q cN sN) T pc L [] := by
  have hby := X.2.2.2.1
  exact fin_of X hc hs hQ (fun _ => rfl) (fun X hx hret fs hr => X.returnOut hx hret (hb hby hd) hr)
theorem r_callS (pc' : Nat) (X : Cx p l e R s m args below meth c Z bytes ml own ret mname n0 T h cells slots) {a0 : Array Value} {y : MethodName} {by' : ByteArray} {ml' : Nat} {ret' : Option FieldType} {rm : Room} {as : Array Value} {Q : Option Value → Heap → Prop} {index : Nat}  (hM : Met1 l Z n0 [] y by' ml' ret' rm as h Q) (w1 : (Jvm.Cond.methodLink own index y).before a0 Z = true) (w2 : (Jvm.Cond.static y).before a0 Z = true) (wc : (Jvm.Cond.code y by' ml' ret').before a0 Z = true) (wz : (Jvm.Cond.initialized y.cls).before a0 Z = true) (hy : y.cls ≠ "java/lang/invoke/MethodHandle" ∧ y.cls ≠ "java/lang/invoke/VarHandle") {ps : List FieldType} {rt : Option FieldType} (pd : parseMethodDescriptor y.desc = some ⟨ps, rt⟩) (argsL : List Value) (has : argsL.toArray = as) (hln : argsL.length = ps.length) (W : Nat) (hW : (st.map fun v => v.category).sum ≤ W) (hsize : L.size = ml) (hf : rm.frames + 1 ≤ R.frames) (hl : W + (ml' + 11) + rm.locals ≤ R.locals) (hc : cells + rm.cells ≤ R.cells) (hs : slots + rm.slots ≤ R.slots) (hd : decode bytes pc = .ok (.invokestatic index, 3)) (r : ∀ T' h' v, Q v h' → Cx p l e R s m args below meth c Z bytes ml own ret mname n0 T' h' (cells + rm.cells) (slots + rm.slots) → Run p e below m K T' pc' L (v.toList ++ st)) (q : pc + 3 = pc' := by rfl) {S : List Value} (hS : S = argsL.reverse ++ st := by rfl) : Run p e below m K T pc L S := by
  obtain ⟨⟨locs, X, N⟩, e0, hx, hby, hml, hZ, hown, hret, hnm, hlk, hsz⟩ := X
  subst q has hS
  obtain ⟨v, _, ⟨T', L', k', n'⟩, -, X', ⟨Lc, hQ', l', y', z'⟩, stp⟩ := Jvm.LawKit.callS X hx (y := y) hown (mvT hZ w1) (mvT hZ w2) (mvT hZ wz) (mvT hZ wc) hy (backOf (W := W) (Q := fun v h' L => Q v h' ∧ Fr n0 L ∧ n0 ≤ h'.size) hM hZ wc wz hf hl) (g := mkF m pc L (argsL.reverse ++ st)) rfl (by rw [hml]; exact hsize) (argsL := argsL) (rest := st) (lenOf pd hln) rfl (by show 2 * 0 + _ ≤ _; omega) (hb hby hd) (fun _ _ => ⟨rfl, e0, hc, hs⟩)
  dsimp only [Pt.U, Pt.locs, Pt.cells, Pt.slots] at X' l' y' z' stp hQ'
  subst l' y' z'
  obtain ⟨hQ1, N1, hs1⟩ := hQ'
  exact Run.of stp (r T' _ v hQ1 ⟨⟨_, X', Fr.app N N1⟩, rfl, hx, hby, hml, hZ, hown, hret, hnm, hlk, hs1⟩)
theorem r_special (pc' : Nat) (X : Cx p l e R s m args below meth c Z bytes ml own ret mname n0 T h cells slots) {a0 : Array Value} {y : MethodName} {by' : ByteArray} {ml' : Nat} {ret' : Option FieldType} {rm : Room} {as : Array Value} {Q : Option Value → Heap → Prop} {index : Nat} {a : Addr} (hM : Met1 l Z n0 [] y by' ml' ret' rm as h Q) (hyn : y.name = "<init>") (hr0 : ret' = none) (w1 : (Jvm.Cond.methodLink own index y).before a0 Z = true) (w2 : (Jvm.Cond.instanceMethod y).before a0 Z = true) (wc : (Jvm.Cond.code y by' ml' ret').before a0 Z = true) (wz : (Jvm.Cond.initialized y.cls).before a0 Z = true) (hy : y.cls ≠ "java/lang/invoke/MethodHandle" ∧ y.cls ≠ "java/lang/invoke/VarHandle") {ps : List FieldType} {rt : Option FieldType} (pd : parseMethodDescriptor y.desc = some ⟨ps, rt⟩) (argsL : List Value) (has : (Value.ref a :: argsL).toArray = as) (hln : argsL.length = ps.length) (W : Nat) (hW : (st.map fun v => v.category).sum ≤ W) (hsize : L.size = ml) (hf : rm.frames + 1 ≤ R.frames) (hl : W + (ml' + 11) + rm.locals ≤ R.locals) (hc : cells + rm.cells ≤ R.cells) (hs : slots + rm.slots ≤ R.slots) (hd : decode bytes pc = .ok (.invokespecial index, 3)) (r : ∀ T' h' v, Q v h' → Cx p l e R s m args below meth c Z bytes ml own ret mname n0 T' h' (cells + rm.cells) (slots + rm.slots) → Run p e below m K T' pc' L (v.toList ++ st)) (q : pc + 3 = pc' := by rfl) {S : List Value} (hS : S = argsL.reverse ++ Value.ref a :: st := by rfl) : Run p e below m K T pc L S := by
  obtain ⟨⟨locs, X, N⟩, e0, hx, hby, hml, hZ, hown, hret, hnm, hlk, hsz⟩ := X
  subst q has hS
  subst hr0
  obtain ⟨v, _, ⟨T', L', k', n'⟩, -, X', ⟨Lc, hQ', l', y', z'⟩, stp⟩ := X.specialBack hx (y := y) hyn hown (mvT hZ w1) (mvT hZ w2) (mvT hZ wc) hy (backOf (W := W) (Q := fun v h' L => Q v h' ∧ Fr n0 L ∧ n0 ≤ h'.size) hM hZ wc wz hf hl) (g := mkF m pc L (argsL.reverse ++ .ref a :: st)) rfl (by rw [hml]; exact hsize) (Steps.refl _) (a := a) (argsL := argsL) (rest := st) (lenOf pd hln) rfl (by show 2 * 0 + _ ≤ _; omega) (hb hby hd) (fun _ _ => ⟨rfl, e0, hc, hs⟩)
  dsimp only [Pt.U, Pt.locs, Pt.cells, Pt.slots] at X' l' y' z' stp hQ'
  subst l' y' z'
  obtain ⟨hQ1, N1, hs1⟩ := hQ'
  exact Run.of (fun t k => stp.trans k) (r T' _ v hQ1 ⟨⟨_, X', Fr.app N N1⟩, rfl, hx, hby, hml, hZ, hown, hret, hnm, hlk, hs1⟩)
theorem r_virtual (pc' : Nat) (X : Cx p l e R s m args below meth c Z bytes ml own ret mname n0 T h cells slots) {a0 : Array Value} {y : MethodName} {by' : ByteArray} {ml' : Nat} {ret' : Option FieldType} {rm : Room} {as : Array Value} {Q : Option Value → Heap → Prop} {index : Nat} {a : Addr} {C : String} (hM : Met1 l Z n0 [] y by' ml' ret' rm as h Q) (E : Exa Z h a C) (w1 : (Jvm.Cond.methodLink own index y).before a0 Z = true) (w3 : (Jvm.Cond.declares y).before a0 Z = true) (wf : (Jvm.Cond.selects y.cls y y).before a0 Z = true) (w4 : (Jvm.Cond.selects C y y).before a0 Z = true) (w2 : (Jvm.Cond.instanceMethod y).before a0 Z = true) (wc : (Jvm.Cond.code y by' ml' ret').before a0 Z = true) (wz : (Jvm.Cond.initialized y.cls).before a0 Z = true) (hy : y.cls ≠ "java/lang/invoke/MethodHandle" ∧ y.cls ≠ "java/lang/invoke/VarHandle") {ps : List FieldType} {rt : Option FieldType} (pd : parseMethodDescriptor y.desc = some ⟨ps, rt⟩) (argsL : List Value) (has : (Value.ref a :: argsL).toArray = as) (hln : argsL.length = ps.length) (W : Nat) (hW : (st.map fun v => v.category).sum ≤ W) (hsize : L.size = ml) (hf : rm.frames + 1 ≤ R.frames) (hl : W + (ml' + 11) + rm.locals ≤ R.locals) (hc : cells + rm.cells ≤ R.cells) (hs : slots + rm.slots ≤ R.slots) (hd : decode bytes pc = .ok (.invokevirtual index, 3)) (r : ∀ T' h' v, Q v h' → Cx p l e R s m args below meth c Z bytes ml own ret mname n0 T' h' (cells + rm.cells) (slots + rm.slots) → Run p e below m K T' pc' L (v.toList ++ st)) (q : pc + 3 = pc' := by rfl) {S : List Value} (hS : S = argsL.reverse ++ Value.ref a :: st := by rfl) : Run p e below m K T pc L S := by
  obtain ⟨⟨locs, X, N⟩, e0, hx, hby, hml, hZ, hown, hret, hnm, hlk, hsz⟩ := X
  subst q has hS
  obtain ⟨cq, kq, qa, qb, qc⟩ := isOf hZ e0 E
  obtain ⟨v, _, ⟨T', L', k', n'⟩, -, X', ⟨Lc, hQ', l', y', z'⟩, stp⟩ := X.virtualBack hx (C := C) (y := y) (z := y) hown (mvT hZ w1) (mvT hZ w3) (notFace_of_selects (args := #[]) (mvT hZ wf)) (mvT hZ w4) (mvT hZ w2) hy (backOf (W := W) (Q := fun v h' L => Q v h' ∧ Fr n0 L ∧ n0 ≤ h'.size) hM hZ wc wz hf hl) qa qc (g := mkF m pc L (argsL.reverse ++ .ref a :: st)) rfl (by rw [hml]; exact hsize) (Steps.refl _) (argsL := argsL) (rest := st) (lenOf pd hln) rfl (by show 2 * 0 + _ ≤ _; omega) (hb hby hd) (fun _ _ => ⟨rfl, e0, hc, hs⟩)
  dsimp only [Pt.U, Pt.locs, Pt.cells, Pt.slots] at X' l' y' z' stp hQ'
  subst l' y' z'
  obtain ⟨hQ1, N1, hs1⟩ := hQ'
  exact Run.of (fun t k => stp.trans k) (r T' _ v hQ1 ⟨⟨_, X', Fr.app N N1⟩, rfl, hx, hby, hml, hZ, hown, hret, hnm, hlk, hs1⟩)
theorem r_private (pc' : Nat) (X : Cx p l e R s m args below meth c Z bytes ml own ret mname n0 T h cells slots) {a0 : Array Value} {y : MethodName} {by' : ByteArray} {ml' : Nat} {ret' : Option FieldType} {rm : Room} {as : Array Value} {Q : Option Value → Heap → Prop} {index : Nat} {a : Addr} {C : String} (hM : Met1 l Z n0 [] y by' ml' ret' rm as h Q) (E : Exa Z h a C) (w1 : (Jvm.Cond.methodLink own index y).before a0 Z = true) (w2 : (Jvm.Cond.instanceMethod y).before a0 Z = true) {kk : Nat} (wi : (Jvm.Cond.instantiable y.cls kk).before a0 Z = true) (w4 : (Jvm.Cond.privateMethod y).before a0 Z = true) (wc : (Jvm.Cond.code y by' ml' ret').before a0 Z = true) (wz : (Jvm.Cond.initialized y.cls).before a0 Z = true) (hy : y.cls ≠ "java/lang/invoke/MethodHandle" ∧ y.cls ≠ "java/lang/invoke/VarHandle") {ps : List FieldType} {rt : Option FieldType} (pd : parseMethodDescriptor y.desc = some ⟨ps, rt⟩) (argsL : List Value) (has : (Value.ref a :: argsL).toArray = as) (hln : argsL.length = ps.length) (W : Nat) (hW : (st.map fun v => v.category).sum ≤ W) (hsize : L.size = ml) (hf : rm.frames + 1 ≤ R.frames) (hl : W + (ml' + 11) + rm.locals ≤ R.locals) (hc : cells + rm.cells ≤ R.cells) (hs : slots + rm.slots ≤ R.slots) (hd : decode bytes pc = .ok (.invokevirtual index, 3)) (r : ∀ T' h' v, Q v h' → Cx p l e R s m args below meth c Z bytes ml own ret mname n0 T' h' (cells + rm.cells) (slots + rm.slots) → Run p e below m K T' pc' L (v.toList ++ st)) (q : pc + 3 = pc' := by rfl) {S : List Value} (hS : S = argsL.reverse ++ Value.ref a :: st := by rfl) : Run p e below m K T pc L S := by
  obtain ⟨⟨locs, X, N⟩, e0, hx, hby, hml, hZ, hown, hret, hnm, hlk, hsz⟩ := X
  subst q has hS
  obtain ⟨cq, qq, qq'⟩ := E.cell
  obtain ⟨ci, ki, hi1, hi2, -, hi3, -⟩ := Cond.instantiable_spec (mvT hZ wi (args := #[]) : (Jvm.Cond.instantiable y.cls kk).before #[] s = true)
  have hpv := Cond.privateMethod_at (mvP hZ w4 (args := #[]))
  obtain ⟨v, _, ⟨T', L', k', n'⟩, -, X', ⟨Lc, hQ', l', y', z'⟩, stp⟩ := X.privateBack hx (y := y) hown (mvT hZ w1) (mvT hZ w2) (selects_self_of_private hi1 hi2 (Bool.or_eq_false_iff.mp hi3).1 hpv (mvT hZ w2) hy) hpv (mvT hZ wc) hy (backOf (W := W) (Q := fun v h' L => Q v h' ∧ Fr n0 L ∧ n0 ≤ h'.size) hM hZ wc wz hf hl) (g := mkF m pc L (argsL.reverse ++ .ref a :: st)) rfl (by rw [hml]; exact hsize) (Steps.refl _) (a := a) (by rw [e0]; exact qq) qq' (argsL := argsL) (rest := st) (lenOf pd hln) rfl (by show 2 * 0 + _ ≤ _; omega) (hb hby hd) (fun _ _ => ⟨rfl, e0, hc, hs⟩)
  dsimp only [Pt.U, Pt.locs, Pt.cells, Pt.slots] at X' l' y' z' stp hQ'
  subst l' y' z'
  obtain ⟨hQ1, N1, hs1⟩ := hQ'
  exact Run.of (fun t k => stp.trans k) (r T' _ v hQ1 ⟨⟨_, X', Fr.app N N1⟩, rfl, hx, hby, hml, hZ, hown, hret, hnm, hlk, hs1⟩)
theorem r_newarrayE (pc' : Nat) (X : Cx p l e R s m args below meth c Z bytes ml own ret mname n0 T h cells slots) {a0 : Array Value} {aty : ArrayType} {z : Int32} (n cap : Nat) (ad : String) (had : "[" ++ (newarray.typeOf aty).toString = ad) (w : (Jvm.Cond.arrayClass (newarray.typeOf aty)).before a0 Z = true) (hd : decode bytes pc = .ok (.newarray aty, 2)) (hz : z.toInt = (n : Int)) (hcap : n ≤ cap) (hb8 : cap * 8 ≤ 536870912) (hc : cells + 1 ≤ R.cells) (hl : slots + cap ≤ R.slots) (r : ∀ T' h' b, b = h.size → n0 ≤ b → Ext h h' → Exa Z h' b ad → AF Z h' b (newarray.typeOf aty) n (fun _ => defaultValue (newarray.typeOf aty)) → Cx p l e R s m args below meth c Z bytes ml own ret mname n0 T' h' (cells + 1) (slots + cap) → Run p e below m K T' pc' L (.ref b :: st)) (q : pc + 2 = pc' := by rfl) : Run p e below m K T pc L (.int z :: st) := by
  obtain ⟨⟨locs, X, N⟩, e0, hx, hby, hml, hZ, hown, hret, hnm, hlk, hsz⟩ := X
  subst q
  have hz0 : ¬ z < 0 := by rw [Int32.lt_iff_toInt_lt]; have : (0 : Int32).toInt = 0 := rfl; omega
  have hzn : z.toNatClampNeg = n := by show z.toInt.toNat = n; omega
  have hzl := z.toInt_lt
  obtain ⟨T', h', cA, X', e', E', A', Ex', stp⟩ := newPE X hx hZ w e0 (g := mkF m pc L (.int z :: st)) rfl (hb hby hd) rfl hz0 (cap := cap) (by rw [hzn]; exact hcap) hb8 hc hl had
  refine Run.of stp (r T' h' h.size rfl hsz E' Ex' ⟨_, A', by rw [sz_new, hzn], by omega, fun j hj => ?_⟩ ⟨⟨_, X', N⟩, e', hx, hby, hml, hZ, hown, hret, hnm, hlk, Nat.le_trans hsz E'.1⟩)
  simp [newA, hzn, hj]
theorem r_clone (pc' : Nat) (X : Cx p l e R s m args below meth c Z bytes ml own ret mname n0 T h cells slots) {a0 : Array Value} {ad : String} {index : Nat} (w1 : (Jvm.Cond.methodLink own index ⟨ad, "clone", "()Ljava/lang/Object;"⟩).before a0 Z = true) (w2 : (Jvm.Cond.sameMethod ad "java/lang/Object" "clone" "()Ljava/lang/Object;").before a0 Z = true) (w3 : (Jvm.Cond.native ⟨"java/lang/Object", "clone", "()Ljava/lang/Object;"⟩).before a0 Z = true) (w4 : (Jvm.Cond.instanceMethod ⟨"java/lang/Object", "clone", "()Ljava/lang/Object;"⟩).before a0 Z = true) (w5 : (Jvm.Cond.selects ad ⟨ad, "clone", "()Ljava/lang/Object;"⟩ ⟨"java/lang/Object", "clone", "()Ljava/lang/Object;"⟩).before a0 Z = true) (w6 : (Jvm.Cond.castable ad "java/lang/Cloneable").before a0 Z = true) {a : Addr} {ty : FieldType} {n : Nat} {f : Nat → Value} (A : AF Z h a ty n f) (E : Exa Z h a ad) (hfit : ∀ j, j < n → fits ty (f j) = true) (cap : Nat) (hcap : n ≤ cap) (W : Nat) (hW : (st.map fun v => v.category).sum ≤ W) (hsize : L.size = ml) (hf : 1 ≤ R.frames) (hl : W + 14 ≤ R.locals) (hc : cells + 1 ≤ R.cells) (hs : slots + cap ≤ R.slots) (hd : decode bytes pc = .ok (.invokevirtual index, 3)) (r : ∀ T' h' b, b = h.size → n0 ≤ b → Ext h h' → Exa Z h' b ad → AF Z h' b ty n f → Cx p l e R s m args below meth c Z bytes ml own ret mname n0 T' h' (cells + 1) (slots + cap) → Run p e below m K T' pc' L (.ref b :: st)) (q : pc + 3 = pc' := by rfl) : Run p e below m K T pc L (.ref a :: st) := by
  obtain ⟨⟨locs, X, N⟩, e0, hx, hby, hml, hZ, hown, hret, hnm, hlk, hsz⟩ := X
  subst q
  obtain ⟨cl, A, S, q, H⟩ := A
  have FC : FitC Z cl := fitC_of A fun i hi v hv => by rw [S] at hi; rw [H i hi] at hv; cases hv; exact hfit i hi
  obtain ⟨T', h', X', e', E', A', Ex', stp⟩ := cloneA X hx hZ hown w1 w2 w3 w4 w5 w6 e0 A E FC (g := mkF m pc L (.ref a :: st)) rfl (by rw [hml]; exact hsize) rfl (hb hby hd) hf (W := W) (cap := cap) (by show 2 * 0 + _ ≤ _; omega) hl (by rw [S]; exact hcap) hc hs
  exact Run.of stp (r T' h' h.size rfl hsz E' Ex' ⟨_, A', S, q, H⟩ ⟨⟨_, X', N⟩, e', hx, hby, hml, hZ, hown, hret, hnm, hlk, Nat.le_trans hsz E'.1⟩)
theorem r_castY (pc' : Nat) (X : Cx p l e R s m args below meth c Z bytes ml own ret mname n0 T h cells slots) {a0 : Array Value} {K0 : String} {index : Nat} (w : (Jvm.Cond.classLink own index K0).before a0 Z = true) {a : Addr} (F : Ins Z h a K0 true) (hd : decode bytes pc = .ok (.checkcast index, 3)) (r : ∀ T', Cx p l e R s m args below meth c Z bytes ml own ret mname n0 T' h cells slots → Run p e below m K T' pc' L (.ref a :: st)) (q : pc + 3 = pc' := by rfl) : Run p e below m K T pc L (.ref a :: st) := by
  obtain ⟨⟨locs, X, N⟩, e0, hx, hby, hml, hZ, hown, r1⟩ := X
  subst q
  obtain ⟨T', X', e', stp⟩ := castY X hx hZ hown w e0 F (g := mkF m pc L (.ref a :: st)) rfl rfl (hb hby hd)
  exact Run.of stp (r T' ⟨⟨locs, X', N⟩, e', hx, hby, hml, hZ, hown, r1⟩)
theorem r_instY (pc' : Nat) (X : Cx p l e R s m args below meth c Z bytes ml own ret mname n0 T h cells slots) {a0 : Array Value} {K0 : String} {index : Nat} (w : (Jvm.Cond.classLink own index K0).before a0 Z = true) {a : Addr} (F : Ins Z h a K0 true) (hd : decode bytes pc = .ok (.instanceof index, 3)) (r : ∀ T', Cx p l e R s m args below meth c Z bytes ml own ret mname n0 T' h cells slots → Run p e below m K T' pc' L (.int 1 :: st)) (q : pc + 3 = pc' := by rfl) : Run p e below m K T pc L (.ref a :: st) := by
  obtain ⟨⟨locs, X, N⟩, e0, hx, hby, hml, hZ, hown, r1⟩ := X
  subst q
  obtain ⟨T', X', e', stp⟩ := instY X hx hZ hown w e0 F (g := mkF m pc L (.ref a :: st)) rfl rfl (hb hby hd)
  exact Run.of stp (r T' ⟨⟨locs, X', N⟩, e', hx, hby, hml, hZ, hown, r1⟩)
theorem r_instN (pc' : Nat) (X : Cx p l e R s m args below meth c Z bytes ml own ret mname n0 T h cells slots) {a0 : Array Value} {K0 C : String} {index : Nat} (w : (Jvm.Cond.classLink own index K0).before a0 Z = true) {a : Addr} (F : Ins Z s.heap a K0 false) (E : Exa Z s.heap a C) (hd : decode bytes pc = .ok (.instanceof index, 3)) (r : ∀ T', Cx p l e R s m args below meth c Z bytes ml own ret mname n0 T' h cells slots → Run p e below m K T' pc' L (.int 0 :: st)) (q : pc + 3 = pc' := by rfl) : Run p e below m K T pc L (.ref a :: st) := by
  obtain ⟨⟨locs, X, N⟩, e0, hx, hby, hml, hZ, hown, r1⟩ := X
  subst q
  obtain ⟨T', X', e', stp⟩ := instN X hx hZ hown w e0 F E (g := mkF m pc L (.ref a :: st)) rfl rfl (hb hby hd)
  exact Run.of stp (r T' ⟨⟨locs, X', N⟩, e', hx, hby, hml, hZ, hown, r1⟩)
theorem r_instNo (pc' : Nat) (X : Cx p l e R s m args below meth c Z bytes ml own ret mname n0 T h cells slots) {a0 : Array Value} {K0 C : String} {index : Nat} (w : (Jvm.Cond.classLink own index K0).before a0 Z = true) {a : Addr} (E : Exa Z h a C) (F : ∃ c t, Z.vm.findClass C = some c ∧ Z.vm.findClass K0 = some t ∧ Z.vm.assignable c t = false) (hd : decode bytes pc = .ok (.instanceof index, 3)) (r : ∀ T', Cx p l e R s m args below meth c Z bytes ml own ret mname n0 T' h cells slots → Run p e below m K T' pc' L (.int 0 :: st)) (q : pc + 3 = pc' := by rfl) : Run p e below m K T pc L (.ref a :: st) := by
  obtain ⟨⟨locs, X, N⟩, e0, hx, hby, hml, hZ, hown, r1⟩ := X
  subst q
  obtain ⟨T', X', e', stp⟩ := instNo X hx hZ hown w e0 E F (g := mkF m pc L (.ref a :: st)) rfl rfl (hb hby hd)
  exact Run.of stp (r T' ⟨⟨locs, X', N⟩, e', hx, hby, hml, hZ, hown, r1⟩)
theorem r_aaloadC (pc' : Nat) (X : Cx p l e R s m args below meth c Z bytes ml own ret mname n0 T h cells slots) {a : Addr} {cl : Cell} {ty : FieldType} (A : Arr Z h a cl ty) (hty : ty.isReference = true) {j : Int32} {v : Value} (hin : ¬ (j < 0 ∨ cl.slots.size ≤ j.toNatClampNeg)) (hv : cl.slots[j.toNatClampNeg]? = some v) (hd : decode bytes pc = .ok (.aaload, 1)) (r : Run p e below m K T pc' L (v :: st)) (q : pc + 1 = pc' := by rfl) : Run p e below m K T pc L (.int j :: .ref a :: st) := by
  obtain ⟨⟨locs, X, N⟩, e0, hx, hby, hml, hZ, hown, r1⟩ := X
  subst q hby
  exact Run.of (fun t k => X.aaload hx (j := j) (v := v) (by rw [e0]; exact A.1) (State.isArrayOf_alike hZ.alike A.2.1) hty A.2.2 hin hv (g := mkF m pc L (.int j :: .ref a :: st)) rfl rfl hd _ k) r
theorem r_aaload (pc' : Nat) (X : Cx p l e R s m args below meth c Z bytes ml own ret mname n0 T h cells slots) {a : Addr} {ty : FieldType} {n : Nat} {f : Nat → Value} (A : AF Z h a ty n f) (hty : ty.isReference = true) {j : Int32} {i : Nat} {v : Value} (hj : j.toInt = (i : Int)) (hi : i < n) (hv : f i = v) (hd : decode bytes pc = .ok (.aaload, 1)) (r : Run p e below m K T pc' L (v :: st)) (q : pc + 1 = pc' := by rfl) : Run p e below m K T pc L (.int j :: .ref a :: st) := by
  obtain ⟨cl, A, S, -, H⟩ := A
  obtain ⟨h1, h2⟩ := idx_of hj (S ▸ hi)
  exact r_aaloadC pc' X A hty h1 (by rw [h2, H i hi, hv]) hd r q
theorem keepExt {h0 h1 : Heap} (K : Keep h0 h1 []) : Ext h0 h1 := ⟨K.1, fun a c q => K.2.1 a c q nin0⟩
theorem r_instNull (pc' : Nat) (X : Cx p l e R s m args below meth c Z bytes ml own ret mname n0 T h cells slots) {index : Nat} (hd : decode bytes pc = .ok (.instanceof index, 3)) (r : Run p e below m K T pc' L (.int 0 :: st)) (q : pc + 3 = pc' := by rfl) : Run p e below m K T pc L (.null :: st) := by
  obtain ⟨⟨locs, X, -⟩, -, hx, hby, -⟩ := X
  subst q hby
  exact Run.of (fun t k => X.instanceofNull hx (g := mkF m pc L (.null :: st)) rfl rfl hd _ k) r
def b2i (P : Prop) [Decidable P] : Int32 := if P then 1 else 0
theorem b2i_t {P : Prop} [Decidable P] (h : P) : b2i P = 1 := if_pos h
theorem b2i_f {P : Prop} [Decidable P] (h : ¬ P) : b2i P = 0 := if_neg h
theorem b2i_eq0 {P : Prop} [Decidable P] (h : ¬ P) : b2i P = 0 := if_neg h
theorem b2i_ne0 {P : Prop} [Decidable P] (h : P) : ¬ b2i P = 0 := by rw [b2i_t h]; decide
theorem b2i_01 {P : Prop} [Decidable P] : b2i P = 0 ∨ b2i P = 1 := by by_cases h : P; exact Or.inr (b2i_t h); exact Or.inl (b2i_f h)
theorem b2i_nar {P : Prop} [Decidable P] : nar .boolean (b2i P) = b2i P := by by_cases h : P; (rw [b2i_t h]; rfl); (rw [b2i_f h]; rfl)
theorem b2i_congr {P Q : Prop} [Decidable P] [Decidable Q] (h : P ↔ Q) : b2i P = b2i Q := by by_cases q : P; (rw [b2i_t q, b2i_t (h.mp q)]); (rw [b2i_f q, b2i_f (fun z => q (h.mpr z))])
theorem ltI {x y : Int32} {a b : Int} (hx : x.toInt = a) (hy : y.toInt = b) : x < y ↔ a < b := by rw [Int32.lt_iff_toInt_lt, hx, hy]
theorem eqI {x y : Int32} {a b : Int} (hx : x.toInt = a) (hy : y.toInt = b) : x = y ↔ a = b := by rw [← Int32.toInt_inj, hx, hy]
theorem ltJ {x y : Int64} {a b : Int} (hx : x.toInt = a) (hy : y.toInt = b) : x < y ↔ a < b := by rw [Int64.lt_iff_toInt_lt, hx, hy]
theorem eqJ {x y : Int64} {a b : Int} (hx : x.toInt = a) (hy : y.toInt = b) : x = y ↔ a = b := by rw [← Int64.toInt_inj, hx, hy]
theorem addI {x y : Int32} {a b : Int} (hx : x.toInt = a) (hy : y.toInt = b) (h1 : -2147483648 ≤ a + b) (h2 : a + b < 2147483648) : (x + y).toInt = a + b := by have h := c_iadd x y; have r := rng32 (x + y); rw [hx, hy] at h; omega
theorem subI {x y : Int32} {a b : Int} (hx : x.toInt = a) (hy : y.toInt = b) (h1 : -2147483648 ≤ a - b) (h2 : a - b < 2147483648) : (x - y).toInt = a - b := by have h := c_isub x y; have r := rng32 (x - y); rw [hx, hy] at h; omega
theorem addJ {x y : Int64} {a b : Int} (hx : x.toInt = a) (hy : y.toInt = b) (h1 : -9223372036854775808 ≤ a + b) (h2 : a + b < 9223372036854775808) : (x + y).toInt = a + b := by have h := c_ladd x y; have r := rng64 (x + y); rw [hx, hy] at h; omega
theorem subJ {x y : Int64} {a b : Int} (hx : x.toInt = a) (hy : y.toInt = b) (h1 : -9223372036854775808 ≤ a - b) (h2 : a - b < 9223372036854775808) : (x - y).toInt = a - b := by have h := c_lsub x y; have r := rng64 (x - y); rw [hx, hy] at h; omega
theorem natI (n : Nat) (h : n < 2147483648) : (Int32.ofNat n).toInt = n := Int32.toInt_ofNat_small h
def updI (g : Nat → Int32) (i : Nat) (x : Int32) : Nat → Int32 := fun j => if j = i then x else g j
theorem updI_hit {g : Nat → Int32} {i : Nat} {x : Int32} : updI g i x i = x := if_pos rfl
theorem updI_miss {g : Nat → Int32} {i j : Nat} {x : Int32} (q : j ≠ i) : updI g i x j = g j := if_neg q
theorem AF.setI {a : Addr} {ty : FieldType} {n i : Nat} {x : Int32} {g : Nat → Int32} {h' : Heap} (A : AF Z h a ty n (fun j => .int (g j))) (W : Wr h h' a i (.int x)) : AF Z h' a ty n (fun j => .int (updI g i x j)) := (A.set W).congr fun j _ => by by_cases q : j = i <;> simp [upd, updI, q]
def updD (g : Nat → UInt64) (i : Nat) (x : UInt64) : Nat → UInt64 := fun j => if j = i then x else g j
theorem AF.setD {a : Addr} {ty : FieldType} {n i : Nat} {x : UInt64} {g : Nat → UInt64} {h' : Heap} (A : AF Z h a ty n (fun j => .double (g j))) (W : Wr h h' a i (.double x)) : AF Z h' a ty n (fun j => .double (updD g i x j)) := (A.set W).congr fun j _ => by by_cases q : j = i <;> simp [upd, updD, q]
def updJ (g : Nat → Int64) (i : Nat) (x : Int64) : Nat → Int64 := fun j => if j = i then x else g j
theorem updJ_hit {g : Nat → Int64} {i : Nat} {x : Int64} : updJ g i x i = x := if_pos rfl
theorem updJ_miss {g : Nat → Int64} {i j : Nat} {x : Int64} (q : j ≠ i) : updJ g i x j = g j := if_neg q
theorem AF.setJ {a : Addr} {ty : FieldType} {n i : Nat} {x : Int64} {g : Nat → Int64} {h' : Heap} (A : AF Z h a ty n (fun j => .long (g j))) (W : Wr h h' a i (.long x)) : AF Z h' a ty n (fun j => .long (updJ g i x j)) := (A.set W).congr fun j _ => by by_cases q : j = i <;> simp [upd, updJ, q]
theorem Cx.more {cells' slots' : Nat} (X : Cx p l e R s m args below meth c Z bytes ml own ret mname n0 T h cells slots) (h1 : cells ≤ cells') (h2 : slots ≤ slots') : Cx p l e R s m args below meth c Z bytes ml own ret mname n0 T h cells' slots' := by obtain ⟨⟨locs, X, N⟩, r⟩ := X; exact ⟨⟨locs, X.more h1 h2, N⟩, r⟩
def OV (Z : State) (ad : String) (ty : FieldType) (C : String) : Prop := ∃ cA, Z.vm.findClass ad = some cA ∧ OvrA Z cA ty C
theorem r_anewarrayA (pc' : Nat) (X : Cx p l e R s m args below meth c Z bytes ml own ret mname n0 T h cells slots) {a0 : Array Value} {ty : FieldType} {z : Int32} (n cap : Nat) (C ad : String) {index : Nat} (hC : (FieldType.array ty).toString = C) (had : "[" ++ C = ad) (w1 : (Jvm.Cond.classLink own index C).before a0 Z = true) (w2 : (Jvm.Cond.arrayOver (.array ty)).before a0 Z = true) (hd : decode bytes pc = .ok (.anewarray index, 3)) (hz : z.toInt = (n : Int)) (hcap : n ≤ cap) (hb8 : cap * 8 ≤ 536870912) (hc : cells + 1 ≤ R.cells) (hl : slots + cap ≤ R.slots) (r : ∀ T' h' b, b = h.size → n0 ≤ b → Ext h h' → Exa Z h' b ad → OV Z ad ty C → AF Z h' b (.array ty) n (fun _ => .null) → Cx p l e R s m args below meth c Z bytes ml own ret mname n0 T' h' (cells + 1) (slots + cap) → Run p e below m K T' pc' L (.ref b :: st)) (q : pc + 3 = pc' := by rfl) : Run p e below m K T pc L (.int z :: st) := by
  obtain ⟨⟨locs, X, N⟩, e0, hx, hby, hml, hZ, hown, hret, hnm, hlk, hsz⟩ := X
  subst q
  have hz0 : ¬ z < 0 := by rw [Int32.lt_iff_toInt_lt]; have : (0 : Int32).toInt = 0 := rfl; omega
  have hzn : z.toNatClampNeg = n := by show z.toInt.toNat = n; omega
  have hzl := z.toInt_lt
  obtain ⟨T', h', cA, X', e', E', A', Ex', O', stp⟩ := newRA X hx hZ hown hC w1 w2 e0 (g := mkF m pc L (.int z :: st)) rfl (hb hby hd) rfl hz0 (cap := cap) (by rw [hzn]; exact hcap) hb8 hc hl had
  refine Run.of stp (r T' h' h.size rfl hsz E' Ex' ⟨cA, ?_, O'⟩ ⟨_, A', by rw [sz_new, hzn], by omega, fun j hj => ?_⟩ ⟨⟨_, X', N⟩, e', hx, hby, hml, hZ, hown, hret, hnm, hlk, Nat.le_trans hsz E'.1⟩)
  · obtain ⟨cell, k, q1, q2, -⟩ := Ex'
    have q3 := A'.1
    rw [q3] at q1
    cases q1
    exact q2
  · simp [newA, hzn, hj, defaultValue]
theorem r_aastoreA (pc' : Nat) (X : Cx p l e R s m args below meth c Z bytes ml own ret mname n0 T h cells slots) {a y : Addr} {ty : FieldType} {C ad : String} {n : Nat} {f : Nat → Value} (A : AF Z h a (.array ty) n f) (E : Exa Z h a ad) (O : OV Z ad ty C) (Ey : Exa Z h y C) {j : Int32} {i : Nat} (hj : j.toInt = (i : Int)) (hi : i < n) (ga : n0 ≤ a) (hd : decode bytes pc = .ok (.aastore, 1)) (r : ∀ T' h', Wr h h' a i (.ref y) → Cx p l e R s m args below meth c Z bytes ml own ret mname n0 T' h' cells slots → Run p e below m K T' pc' L st) (q : pc + 1 = pc' := by rfl) : Run p e below m K T pc L (.ref y :: .int j :: .ref a :: st) := by
  obtain ⟨⟨locs, X, N⟩, e0, hx, hby, hml, hZ, hown, hret, hnm, hlk, hsz⟩ := X
  subst q
  obtain ⟨cl, A, S, -, H⟩ := A
  obtain ⟨h1, h2⟩ := idx_of hj (S ▸ hi)
  obtain ⟨cA, o1, O⟩ := O
  have ec : cl.cls = cA := by
    obtain ⟨cell, k, q1, q2, -⟩ := E
    rw [A.1] at q1
    cases q1
    rw [o1] at q2
    cases q2
    rfl
  obtain ⟨T', h', X', e', W', stp⟩ := stR X hx hZ e0 A (j := j) h1 rfl (Sto.ofVA A ec O (Ins.self Ey)) (g := mkF m pc L (.ref y :: .int j :: .ref a :: st)) rfl rfl (hb hby hd)
  exact Run.of stp (r T' h' (h2 ▸ W') ⟨⟨_, X', Fr.snoc X' N ga⟩, e', hx, hby, hml, hZ, hown, hret, hnm, hlk, by rw [W'.size]; exact hsz⟩)
def cpF (f g : Nat → Value) (i1 i2 k j : Nat) : Value := if i2 ≤ j ∧ j < i2 + k then f (i1 + (j - i2)) else g j
theorem own_getD (f : Nat → Value) {n j : Nat} (d : Value) (q : j < n) : ((List.range n).map f).getD j d = f j := by simp [List.getD_eq_getElem?_getD, q]
theorem own_cpL (f g : Nat → Value) {n N i1 i2 k j : Nat} (h1 : i1 + k ≤ n) (h2 : i2 + k ≤ N) (hj : j < N) : (((List.range N).map g).take i2 ++ ((List.range k).map fun i => ((List.range n).map f).getD (i1 + i) .null) ++ ((List.range N).map g).drop (i2 + k)).getD j .null = cpF f g i1 i2 k j := by
  unfold cpF
  rw [List.getD_eq_getElem?_getD]
  by_cases q1 : j < i2
  · rw [if_neg (by omega), List.append_assoc, List.getElem?_append_left (by simp; omega)]
    simp [q1, hj]
  · by_cases q2 : j < i2 + k
    · rw [if_pos (by omega), List.getElem?_append_left (by simp; omega), List.getElem?_append_right (by simp; omega)]
      simp only [List.length_take, List.length_map, List.length_range]
      rw [show min i2 N = i2 by omega, List.getElem?_map, List.getElem?_range (by omega)]
      simp only [Option.map_some, Option.getD_some]
      exact own_getD f _ (by omega)
    · rw [if_neg (by omega), List.getElem?_append_right (by simp; omega), List.getElem?_drop]
      simp only [List.length_append, List.length_take, List.length_map, List.length_range]
      rw [show i2 + k + (j - (min i2 N + k)) = j by omega]
      simp [hj]
theorem r_arraycopy (pc' : Nat) (X : Cx p l e R s m args below meth c Z bytes ml own ret mname n0 T h cells slots) {a0 : Array Value} {index : Nat} (w1 : (Jvm.Cond.methodLink own index Jvm.Stand.acN).before a0 Z = true) (w2 : (Jvm.Cond.native Jvm.Stand.acN).before a0 Z = true) (w3 : (Jvm.Cond.static Jvm.Stand.acN).before a0 Z = true) (w4 : (Jvm.Cond.initialized "java/lang/System").before a0 Z = true) {a b : Addr} {ty : FieldType} {n N : Nat} {f g : Nat → Value} (A : AF Z h a ty n f) (B : AF Z h b ty N g) (hty : refKind ty = false) (ff : ∀ j, j < n → fits ty (f j) = true) (gf : ∀ j, j < N → fits ty (g j) = true) {sp dp nn : Int32} {i1 i2 k : Nat} (e1 : sp.toInt = (i1 : Int)) (e2 : dp.toInt = (i2 : Int)) (e3 : nn.toInt = (k : Int)) (h1 : i1 + k ≤ n) (h2 : i2 + k ≤ N) (ga : n0 ≤ b) (W : Nat) (hW : (st.map fun v => v.category).sum ≤ W) (hsize : L.size = ml) (hf : 1 ≤ R.frames) (hl : W + (nativeFrameWords "java/lang/System" "arraycopy" 5 + 11) ≤ R.locals) (hd : decode bytes pc = .ok (.invokestatic index, 3)) (r : ∀ T' h', Keep h h' [b] → AF Z h' b ty N (cpF f g i1 i2 k) → Cx p l e R s m args below meth c Z bytes ml own ret mname n0 T' h' cells slots → Run p e below m K T' pc' L st) (q : pc + 3 = pc' := by rfl) : Run p e below m K T pc L (.int nn :: .int dp :: .ref b :: .int sp :: .ref a :: st) := by
  obtain ⟨⟨locs, X, N0⟩, e0, hx, hby, hml, hZ, hown, hret, hnm, hlk, hsz⟩ := X
  subst q
  obtain ⟨ca, A, Sa, qa, Ha⟩ := A
  obtain ⟨cb, B, Sb, qb, Hb⟩ := B
  have neg : ∀ {x : Int32} {i : Nat}, x.toInt = (i : Int) → ¬ x < 0 := fun {x i} e z => by rw [Int32.lt_iff_toInt_lt] at z; have : (0 : Int32).toInt = 0 := rfl; omega
  have cln : ∀ {x : Int32} {i : Nat}, x.toInt = (i : Int) → x.toNatClampNeg = i := fun {x i} e => by show x.toInt.toNat = i; omega
  have na := Int32.toInt_ofNat_small (n := n) qa
  have nb := Int32.toInt_ofNat_small (n := N) qb
  have VA : Arv Z h a ca.cls ty (Int32.ofNat n) ((List.range n).map f) .null := ⟨ca, A, rfl, by rw [Sa, cln na], neg na, fun i hi => by rw [Sa] at hi; rw [Ha i hi, own_getD f _ hi], fun i hi => by rw [Sa] at hi; rw [own_getD f _ hi]; exact ff i hi⟩
  have VB : Arv Z h b cb.cls ty (Int32.ofNat N) ((List.range N).map g) .null := ⟨cb, B, rfl, by rw [Sb, cln nb], neg nb, fun i hi => by rw [Sb] at hi; rw [Hb i hi, own_getD g _ hi], fun i hi => by rw [Sb] at hi; rw [own_getD g _ hi]; exact gf i hi⟩
  obtain ⟨T', h', Lo, X', e', N', Kp, ⟨c', A', -, S', -, H', -⟩, stp⟩ := cpA X hx hZ hown w1 w2 w3 w4 e0 VA VB (Or.inl ⟨rfl, hty⟩) (neg e1) (neg e2) (neg e3) (by rw [cln e1, cln e3, cln na]; exact h1) (by rw [cln e2, cln e3, cln nb]; exact h2) rfl (by rw [cln e2, cln e3]; simp; exact h2) N0 ga (g := mkF m pc L (.int nn :: .int dp :: .ref b :: .int sp :: .ref a :: st)) rfl (by rw [hml]; exact hsize) rfl (hb hby hd) hf (W := W) (by show 2 * 0 + _ ≤ _; omega) hl
  rw [cln nb] at S'
  rw [cln e1, cln e2, cln e3] at H'
  refine Run.of stp (r T' h' Kp ⟨c', A', S', qb, fun j hj => ?_⟩ ⟨⟨_, X', N'⟩, e', hx, hby, hml, hZ, hown, hret, hnm, hlk, Nat.le_trans hsz Kp.1⟩)
  rw [H' j (by rw [S']; exact hj), own_cpL f g h1 h2 hj]
end Own
theorem pd_0 : parseMethodDescriptor "(I)I" = some ⟨[.int], some .int⟩ := by decide +kernel
theorem pd_1 : parseMethodDescriptor "(II)I" = some ⟨[.int, .int], some .int⟩ := by decide +kernel
theorem pd_2 : parseMethodDescriptor "(J)I" = some ⟨[.long], some .int⟩ := by decide +kernel
theorem pd_3 : parseMethodDescriptor "([JI)J" = some ⟨[(.array .long), .int], some .long⟩ := by decide +kernel
theorem pd_4 : parseMethodDescriptor "(I)Z" = some ⟨[.int], some .boolean⟩ := by decide +kernel
theorem pd_5 : parseMethodDescriptor "([I[I[I[IIJI)V" = some ⟨[(.array .int), (.array .int), (.array .int), (.array .int), .int, .long, .int], none⟩ := by decide +kernel
theorem pd_6 : parseMethodDescriptor "([I[I)V" = some ⟨[(.array .int), (.array .int)], none⟩ := by decide +kernel
theorem pd_7 : parseMethodDescriptor "([I)I" = some ⟨[(.array .int)], some .int⟩ := by decide +kernel
theorem pd_8 : parseMethodDescriptor "(I[I)V" = some ⟨[.int, (.array .int)], none⟩ := by decide +kernel
theorem pd_9 : parseMethodDescriptor "([I[I)Z" = some ⟨[(.array .int), (.array .int)], some .boolean⟩ := by decide +kernel
theorem own_shr (x : Int32) (s : Int32) (k : Nat) (hk : s.toBitVec.toNat % 32 = k) (h0 : 0 < k) (h : 0 ≤ x.toInt) : ∃ y : Int32, (x.toUInt32 >>> (s &&& 31).toUInt32).toInt32 = y ∧ y.toInt = x.toInt / (2 ^ k : Nat) := by
  refine ⟨_, rfl, ?_⟩
  rw [c_iushr x s k hk h0]
  have := rng32 x
  rw [Int.emod_eq_of_lt h (by omega)]
/-- the unsigned number in w bits: none of its bits, or its highest bit is at e -/
def Nlz (w N R : Nat) : Prop := (N = 0 ∧ R = w) ∨ ∃ e, R + e + 1 = w ∧ 2 ^ e ≤ N ∧ N < 2 ^ (e + 1)
theorem own_u32 (x : Int32) : (0 ≤ x.toInt → (x.toBitVec.toNat : Int) = x.toInt) ∧ (x.toInt < 0 → (x.toBitVec.toNat : Int) = x.toInt + 4294967296) ∧ x.toBitVec.toNat < 4294967296 := by
  have h : x.toInt = if 2 * x.toBitVec.toNat < 2 ^ 32 then (x.toBitVec.toNat : Int) else (x.toBitVec.toNat : Int) - (2 ^ 32 : Nat) := BitVec.toInt_eq_toNat_cond x.toBitVec
  have h2 := x.toBitVec.isLt
  split at h <;> refine ⟨fun q => ?_, fun q => ?_, ?_⟩ <;> omega
theorem own_u64 (x : Int64) : (0 ≤ x.toInt → (x.toBitVec.toNat : Int) = x.toInt) ∧ (x.toInt < 0 → (x.toBitVec.toNat : Int) = x.toInt + 18446744073709551616) ∧ x.toBitVec.toNat < 18446744073709551616 := by
  have h : x.toInt = if 2 * x.toBitVec.toNat < 2 ^ 64 then (x.toBitVec.toNat : Int) else (x.toBitVec.toNat : Int) - (2 ^ 64 : Nat) := BitVec.toInt_eq_toNat_cond x.toBitVec
  have h2 := x.toBitVec.isLt
  split at h <;> refine ⟨fun q => ?_, fun q => ?_, ?_⟩ <;> omega
theorem own_l2i (x : Int64) : x.toInt32.toBitVec.toNat = x.toBitVec.toNat % 4294967296 := by
  show (x.toBitVec.signExtend 32).toNat = _
  rw [BitVec.signExtend_eq_setWidth_of_le _ (by decide), BitVec.toNat_setWidth]
theorem own_ushr (x : Int64) (s : Int32) (k : Nat) (hk : (s &&& 0x3f).toInt64.toBitVec.toNat % 64 = k) : ((x.toUInt64 >>> (s &&& 0x3f).toInt64.toUInt64).toInt64).toBitVec = x.toBitVec >>> k := by
  subst hk
  rfl
theorem own_hi (x : Int64) : (((x.toUInt64 >>> ((32 : Int32) &&& 0x3f).toInt64.toUInt64).toInt64).toInt32).toBitVec.toNat = x.toBitVec.toNat / 4294967296 := by
  rw [own_l2i, own_ushr x 32 32 (by decide), BitVec.toNat_ushiftRight, Nat.shiftRight_eq_div_pow]
  have := x.toBitVec.isLt
  omega
theorem nlz_hi {x : Int64} {R : Nat} (h : Nlz 32 (x.toBitVec.toNat / 4294967296) R) (h0 : ¬ x.toBitVec.toNat / 4294967296 = 0) : Nlz 64 x.toBitVec.toNat R := by
  rcases h with ⟨q, -⟩ | ⟨e, h1, h2, h3⟩
  · exact absurd q h0
  · refine Or.inr ⟨e + 32, by omega, ?_, ?_⟩
    · rw [Nat.pow_add]; simp only [Nat.reducePow]; omega
    · rw [show e + 32 + 1 = (e + 1) + 32 by omega, Nat.pow_add]; simp only [Nat.reducePow]; omega
theorem nlz_lo {x : Int64} {R : Nat} (h : Nlz 32 (x.toBitVec.toNat % 4294967296) R) (h0 : x.toBitVec.toNat / 4294967296 = 0) : Nlz 64 x.toBitVec.toNat (32 + R) := by
  have e : x.toBitVec.toNat % 4294967296 = x.toBitVec.toNat := by omega
  rw [e] at h
  rcases h with ⟨q, q2⟩ | ⟨e, h1, h2, h3⟩
  · exact Or.inl ⟨q, by omega⟩
  · exact Or.inr ⟨e, by omega, h2, h3⟩
theorem own_zero32 (x : Int32) : x = 0 ↔ x.toBitVec.toNat = 0 := by
  rw [← Int32.toBitVec_inj, ← BitVec.toNat_inj]; rfl
theorem nlz_le {w N R : Nat} (h : Nlz w N R) : R ≤ w := by
  rcases h with ⟨-, q⟩ | ⟨e, h1, -⟩ <;> omega
theorem d7_0 : decode jdk_33_method_47_code 0 = .ok (.iload_n 0, 1) := by decide +kernel
theorem d7_1 : decode jdk_33_method_47_code 1 = .ok (.ifCond .gt 14, 3) := by decide +kernel
theorem d7_4 : decode jdk_33_method_47_code 4 = .ok (.iload_n 0, 1) := by decide +kernel
theorem d7_5 : decode jdk_33_method_47_code 5 = .ok (.ifCond .ne 8, 3) := by decide +kernel
theorem d7_8 : decode jdk_33_method_47_code 8 = .ok (.bipush 32, 2) := by decide +kernel
theorem d7_10 : decode jdk_33_method_47_code 10 = .ok (.goto 4, 3) := by decide +kernel
theorem d7_13 : decode jdk_33_method_47_code 13 = .ok (.iconst 0, 1) := by decide +kernel
theorem d7_14 : decode jdk_33_method_47_code 14 = .ok (.ireturn, 1) := by decide +kernel
theorem d7_15 : decode jdk_33_method_47_code 15 = .ok (.bipush 31, 2) := by decide +kernel
theorem d7_17 : decode jdk_33_method_47_code 17 = .ok (.istore_n 1, 1) := by decide +kernel
theorem d7_18 : decode jdk_33_method_47_code 18 = .ok (.iload_n 0, 1) := by decide +kernel
theorem d7_19 : decode jdk_33_method_47_code 19 = .ok (.ldc_w 264, 3) := by decide +kernel
theorem d7_22 : decode jdk_33_method_47_code 22 = .ok (.if_icmp .lt 11, 3) := by decide +kernel
theorem d7_25 : decode jdk_33_method_47_code 25 = .ok (.iinc 1 (-16), 3) := by decide +kernel
theorem d7_28 : decode jdk_33_method_47_code 28 = .ok (.iload_n 0, 1) := by decide +kernel
theorem d7_29 : decode jdk_33_method_47_code 29 = .ok (.bipush 16, 2) := by decide +kernel
theorem d7_31 : decode jdk_33_method_47_code 31 = .ok (.iushr, 1) := by decide +kernel
theorem d7_32 : decode jdk_33_method_47_code 32 = .ok (.istore_n 0, 1) := by decide +kernel
theorem d7_33 : decode jdk_33_method_47_code 33 = .ok (.iload_n 0, 1) := by decide +kernel
theorem d7_34 : decode jdk_33_method_47_code 34 = .ok (.sipush 256, 3) := by decide +kernel
theorem d7_37 : decode jdk_33_method_47_code 37 = .ok (.if_icmp .lt 11, 3) := by decide +kernel
theorem d7_40 : decode jdk_33_method_47_code 40 = .ok (.iinc 1 (-8), 3) := by decide +kernel
theorem d7_43 : decode jdk_33_method_47_code 43 = .ok (.iload_n 0, 1) := by decide +kernel
theorem d7_44 : decode jdk_33_method_47_code 44 = .ok (.bipush 8, 2) := by decide +kernel
theorem d7_46 : decode jdk_33_method_47_code 46 = .ok (.iushr, 1) := by decide +kernel
theorem d7_47 : decode jdk_33_method_47_code 47 = .ok (.istore_n 0, 1) := by decide +kernel
theorem d7_48 : decode jdk_33_method_47_code 48 = .ok (.iload_n 0, 1) := by decide +kernel
theorem d7_49 : decode jdk_33_method_47_code 49 = .ok (.bipush 16, 2) := by decide +kernel
theorem d7_51 : decode jdk_33_method_47_code 51 = .ok (.if_icmp .lt 10, 3) := by decide +kernel
theorem d7_54 : decode jdk_33_method_47_code 54 = .ok (.iinc 1 (-4), 3) := by decide +kernel
theorem d7_57 : decode jdk_33_method_47_code 57 = .ok (.iload_n 0, 1) := by decide +kernel
theorem d7_58 : decode jdk_33_method_47_code 58 = .ok (.iconst 4, 1) := by decide +kernel
theorem d7_59 : decode jdk_33_method_47_code 59 = .ok (.iushr, 1) := by decide +kernel
theorem d7_60 : decode jdk_33_method_47_code 60 = .ok (.istore_n 0, 1) := by decide +kernel
theorem d7_61 : decode jdk_33_method_47_code 61 = .ok (.iload_n 0, 1) := by decide +kernel
theorem d7_62 : decode jdk_33_method_47_code 62 = .ok (.iconst 4, 1) := by decide +kernel
theorem d7_63 : decode jdk_33_method_47_code 63 = .ok (.if_icmp .lt 10, 3) := by decide +kernel
theorem d7_66 : decode jdk_33_method_47_code 66 = .ok (.iinc 1 (-2), 3) := by decide +kernel
theorem d7_69 : decode jdk_33_method_47_code 69 = .ok (.iload_n 0, 1) := by decide +kernel
theorem d7_70 : decode jdk_33_method_47_code 70 = .ok (.iconst 2, 1) := by decide +kernel
theorem d7_71 : decode jdk_33_method_47_code 71 = .ok (.iushr, 1) := by decide +kernel
theorem d7_72 : decode jdk_33_method_47_code 72 = .ok (.istore_n 0, 1) := by decide +kernel
theorem d7_73 : decode jdk_33_method_47_code 73 = .ok (.iload_n 1, 1) := by decide +kernel
theorem d7_74 : decode jdk_33_method_47_code 74 = .ok (.iload_n 0, 1) := by decide +kernel
theorem d7_75 : decode jdk_33_method_47_code 75 = .ok (.iconst 1, 1) := by decide +kernel
theorem d7_76 : decode jdk_33_method_47_code 76 = .ok (.iushr, 1) := by decide +kernel
theorem d7_77 : decode jdk_33_method_47_code 77 = .ok (.isub, 1) := by decide +kernel
theorem d7_78 : decode jdk_33_method_47_code 78 = .ok (.ireturn, 1) := by decide +kernel
theorem pn_7 : plainName "java/lang/Integer" = true := by first | (simp [plainName, overriddenIn]; done) | decide +kernel
theorem ef_7 (m : MethodId) (x0 : Int32) : entryFrame m #[(.int x0)] 2 = mkF m 0 #[.val (.int x0), .unset] [] := by first | (simp [entryFrame, mkF, argsToLocals, Value.category]; done) | rfl
set_option maxRecDepth 65536 in
set_option maxHeartbeats 40000000 in
theorem rmNlzI (l : Launch) (Z : State) (a0 : Array Value) (hw : ∀ d ∈ tables_1, d.before a0 Z = true) (n0 : Nat) (h : Heap) (Z0 : n0 ≤ h.size) (p1 : Int32)  :
    Met1 l Z n0 [] (⟨"java/lang/Integer", "numberOfLeadingZeros", "(I)I"⟩ : MethodName) jdk_33_method_47_code 2 (some .int) ({ frames := 0, cells := 0, slots := 0, locals := 0 } : Room) #[(.int p1)] h (fun v h' => ∃ (r : Int32) (R : Nat), v = some (.int r) ∧ r.toInt = (R : Int) ∧ Nlz 32 p1.toBitVec.toNat R ∧ h = h') := by
  refine met_of (plainFor_of_name pn_7) Z0 (fun m => ef_7 m p1) ?_
  intro p e s m below meth c T hs0 X
  refine r_iloadN 1 X d7_0 rfl ?_
  by_cases h1_1 : (0 : Int32) < p1
  · refine r_ifY 15 X d7_1 ((if0 _ _).trans (tlt h1_1).2.2.1) ?_
    have hpos : 0 < p1.toInt := (ltI (a := 0) rfl rfl).mp h1_1
    have hu := own_u32 p1
    have hr1 := rng32 p1
    refine r_bipush 17 X (31 : Int32) d7_15 rfl ?_
    refine r_istoreN 18 X #[.val (.int p1), .val (.int (31 : Int32))] d7_17 rfl ?_
    refine r_iloadN 19 X d7_18 rfl ?_
    refine r_ldcwInt 22 X (hw _ (List.mem_of_getElem? (i := 47) rfl)) d7_19 ?_
    by_cases h22_2 : p1 < (65536 : Int32)
    · refine r_icmpY 33 X d7_22 (tlt h22_2).1 ?_
      have ih22_2 : p1.toInt < 65536 := (ltI rfl (b := 65536) rfl).mp h22_2
      refine r_iloadN 34 X d7_33 rfl ?_
      refine r_sipush 37 X (256 : Int32) d7_34 rfl ?_
      by_cases h37_3 : p1 < (256 : Int32)
      · refine r_icmpY 48 X d7_37 (tlt h37_3).1 ?_
        have ih37_3 : p1.toInt < 256 := (ltI rfl (b := 256) rfl).mp h37_3
        refine r_iloadN 49 X d7_48 rfl ?_
        refine r_bipush 51 X (16 : Int32) d7_49 rfl ?_
        by_cases h51_4 : p1 < (16 : Int32)
        · refine r_icmpY 61 X d7_51 (tlt h51_4).1 ?_
          have ih51_4 : p1.toInt < 16 := (ltI rfl (b := 16) rfl).mp h51_4
          refine r_iloadN 62 X d7_61 rfl ?_
          refine r_iconst 63 X (4 : Int32) d7_62 rfl ?_
          by_cases h63_5 : p1 < (4 : Int32)
          · refine r_icmpY 73 X d7_63 (tlt h63_5).1 ?_
            have ih63_5 : p1.toInt < 4 := (ltI rfl (b := 4) rfl).mp h63_5
            refine r_iloadN 74 X d7_73 rfl ?_
            refine r_iloadN 75 X d7_74 rfl ?_
            refine r_iconst 76 X (1 : Int32) d7_75 rfl ?_
            refine r_iushr 77 X d7_76 ?_
            obtain ⟨y1, ey1, hy1⟩ := own_shr p1 1 1 (by decide) (by decide) (by omega)
            refine r_topI ey1 ?_
            simp only [Nat.reducePow] at hy1
            refine r_isub 78 X d7_77 ?_
            refine r_retI X d7_78 (by decide) (by decide) ?_
            rcases (show y1.toInt = 0 ∨ y1.toInt = 1 by omega) with hz | hz
            · exact ⟨_, 31, rfl, (subI (a := 31) rfl hz (by omega) (by omega)).trans (by omega), Or.inr ⟨0, rfl, by simp only [Nat.reducePow]; omega, by simp only [Nat.reducePow, Nat.reduceAdd]; omega⟩, rfl⟩
            · exact ⟨_, 30, rfl, (subI (a := 31) rfl hz (by omega) (by omega)).trans (by omega), Or.inr ⟨1, rfl, by simp only [Nat.reducePow]; omega, by simp only [Nat.reducePow, Nat.reduceAdd]; omega⟩, rfl⟩
          · refine r_icmpN 66 X d7_63 (flt h63_5).1 ?_
            have ih63_5 : ¬ p1.toInt < 4 := mt (ltI rfl (b := 4) rfl).mpr h63_5
            refine r_iinc 69 X (-2 : Int32) #[.val (.int p1), .val (.int (29 : Int32))] d7_66 rfl rfl rfl ?_
            refine r_iloadN 70 X d7_69 rfl ?_
            refine r_iconst 71 X (2 : Int32) d7_70 rfl ?_
            refine r_iushr 72 X d7_71 ?_
            obtain ⟨y2, ey2, hy2⟩ := own_shr p1 2 2 (by decide) (by decide) (by omega)
            refine r_topI ey2 ?_
            simp only [Nat.reducePow] at hy2
            refine r_istoreN 73 X #[.val (.int y2), .val (.int (29 : Int32))] d7_72 rfl ?_
            refine r_iloadN 74 X d7_73 rfl ?_
            refine r_iloadN 75 X d7_74 rfl ?_
            refine r_iconst 76 X (1 : Int32) d7_75 rfl ?_
            refine r_iushr 77 X d7_76 ?_
            obtain ⟨y3, ey3, hy3⟩ := own_shr y2 1 1 (by decide) (by decide) (by omega)
            refine r_topI ey3 ?_
            simp only [Nat.reducePow] at hy3
            refine r_isub 78 X d7_77 ?_
            refine r_retI X d7_78 (by decide) (by decide) ?_
            rcases (show y3.toInt = 0 ∨ y3.toInt = 1 by omega) with hz | hz
            · exact ⟨_, 29, rfl, (subI (a := 29) rfl hz (by omega) (by omega)).trans (by omega), Or.inr ⟨2, rfl, by simp only [Nat.reducePow]; omega, by simp only [Nat.reducePow, Nat.reduceAdd]; omega⟩, rfl⟩
            · exact ⟨_, 28, rfl, (subI (a := 29) rfl hz (by omega) (by omega)).trans (by omega), Or.inr ⟨3, rfl, by simp only [Nat.reducePow]; omega, by simp only [Nat.reducePow, Nat.reduceAdd]; omega⟩, rfl⟩
        · refine r_icmpN 54 X d7_51 (flt h51_4).1 ?_
          have ih51_4 : ¬ p1.toInt < 16 := mt (ltI rfl (b := 16) rfl).mpr h51_4
          refine r_iinc 57 X (-4 : Int32) #[.val (.int p1), .val (.int (27 : Int32))] d7_54 rfl rfl rfl ?_
          refine r_iloadN 58 X d7_57 rfl ?_
          refine r_iconst 59 X (4 : Int32) d7_58 rfl ?_
          refine r_iushr 60 X d7_59 ?_
          obtain ⟨y4, ey4, hy4⟩ := own_shr p1 4 4 (by decide) (by decide) (by omega)
          refine r_topI ey4 ?_
          simp only [Nat.reducePow] at hy4
          refine r_istoreN 61 X #[.val (.int y4), .val (.int (27 : Int32))] d7_60 rfl ?_
          refine r_iloadN 62 X d7_61 rfl ?_
          refine r_iconst 63 X (4 : Int32) d7_62 rfl ?_
          by_cases h63_6 : y4 < (4 : Int32)
          · refine r_icmpY 73 X d7_63 (tlt h63_6).1 ?_
            have ih63_6 : y4.toInt < 4 := (ltI rfl (b := 4) rfl).mp h63_6
            refine r_iloadN 74 X d7_73 rfl ?_
            refine r_iloadN 75 X d7_74 rfl ?_
            refine r_iconst 76 X (1 : Int32) d7_75 rfl ?_
            refine r_iushr 77 X d7_76 ?_
            obtain ⟨y5, ey5, hy5⟩ := own_shr y4 1 1 (by decide) (by decide) (by omega)
            refine r_topI ey5 ?_
            simp only [Nat.reducePow] at hy5
            refine r_isub 78 X d7_77 ?_
            refine r_retI X d7_78 (by decide) (by decide) ?_
            rcases (show y5.toInt = 0 ∨ y5.toInt = 1 by omega) with hz | hz
            · exact ⟨_, 27, rfl, (subI (a := 27) rfl hz (by omega) (by omega)).trans (by omega), Or.inr ⟨4, rfl, by simp only [Nat.reducePow]; omega, by simp only [Nat.reducePow, Nat.reduceAdd]; omega⟩, rfl⟩
            · exact ⟨_, 26, rfl, (subI (a := 27) rfl hz (by omega) (by omega)).trans (by omega), Or.inr ⟨5, rfl, by simp only [Nat.reducePow]; omega, by simp only [Nat.reducePow, Nat.reduceAdd]; omega⟩, rfl⟩
          · refine r_icmpN 66 X d7_63 (flt h63_6).1 ?_
            have ih63_6 : ¬ y4.toInt < 4 := mt (ltI rfl (b := 4) rfl).mpr h63_6
            refine r_iinc 69 X (-2 : Int32) #[.val (.int y4), .val (.int (25 : Int32))] d7_66 rfl rfl rfl ?_
            refine r_iloadN 70 X d7_69 rfl ?_
            refine r_iconst 71 X (2 : Int32) d7_70 rfl ?_
            refine r_iushr 72 X d7_71 ?_
            obtain ⟨y6, ey6, hy6⟩ := own_shr y4 2 2 (by decide) (by decide) (by omega)
            refine r_topI ey6 ?_
            simp only [Nat.reducePow] at hy6
            refine r_istoreN 73 X #[.val (.int y6), .val (.int (25 : Int32))] d7_72 rfl ?_
            refine r_iloadN 74 X d7_73 rfl ?_
            refine r_iloadN 75 X d7_74 rfl ?_
            refine r_iconst 76 X (1 : Int32) d7_75 rfl ?_
            refine r_iushr 77 X d7_76 ?_
            obtain ⟨y7, ey7, hy7⟩ := own_shr y6 1 1 (by decide) (by decide) (by omega)
            refine r_topI ey7 ?_
            simp only [Nat.reducePow] at hy7
            refine r_isub 78 X d7_77 ?_
            refine r_retI X d7_78 (by decide) (by decide) ?_
            rcases (show y7.toInt = 0 ∨ y7.toInt = 1 by omega) with hz | hz
            · exact ⟨_, 25, rfl, (subI (a := 25) rfl hz (by omega) (by omega)).trans (by omega), Or.inr ⟨6, rfl, by simp only [Nat.reducePow]; omega, by simp only [Nat.reducePow, Nat.reduceAdd]; omega⟩, rfl⟩
            · exact ⟨_, 24, rfl, (subI (a := 25) rfl hz (by omega) (by omega)).trans (by omega), Or.inr ⟨7, rfl, by simp only [Nat.reducePow]; omega, by simp only [Nat.reducePow, Nat.reduceAdd]; omega⟩, rfl⟩
      · refine r_icmpN 40 X d7_37 (flt h37_3).1 ?_
        have ih37_3 : ¬ p1.toInt < 256 := mt (ltI rfl (b := 256) rfl).mpr h37_3
        refine r_iinc 43 X (-8 : Int32) #[.val (.int p1), .val (.int (23 : Int32))] d7_40 rfl rfl rfl ?_
        refine r_iloadN 44 X d7_43 rfl ?_
        refine r_bipush 46 X (8 : Int32) d7_44 rfl ?_
        refine r_iushr 47 X d7_46 ?_
        obtain ⟨y8, ey8, hy8⟩ := own_shr p1 8 8 (by decide) (by decide) (by omega)
        refine r_topI ey8 ?_
        simp only [Nat.reducePow] at hy8
        refine r_istoreN 48 X #[.val (.int y8), .val (.int (23 : Int32))] d7_47 rfl ?_
        refine r_iloadN 49 X d7_48 rfl ?_
        refine r_bipush 51 X (16 : Int32) d7_49 rfl ?_
        by_cases h51_7 : y8 < (16 : Int32)
        · refine r_icmpY 61 X d7_51 (tlt h51_7).1 ?_
          have ih51_7 : y8.toInt < 16 := (ltI rfl (b := 16) rfl).mp h51_7
          refine r_iloadN 62 X d7_61 rfl ?_
          refine r_iconst 63 X (4 : Int32) d7_62 rfl ?_
          by_cases h63_8 : y8 < (4 : Int32)
          · refine r_icmpY 73 X d7_63 (tlt h63_8).1 ?_
            have ih63_8 : y8.toInt < 4 := (ltI rfl (b := 4) rfl).mp h63_8
            refine r_iloadN 74 X d7_73 rfl ?_
            refine r_iloadN 75 X d7_74 rfl ?_
            refine r_iconst 76 X (1 : Int32) d7_75 rfl ?_
            refine r_iushr 77 X d7_76 ?_
            obtain ⟨y9, ey9, hy9⟩ := own_shr y8 1 1 (by decide) (by decide) (by omega)
            refine r_topI ey9 ?_
            simp only [Nat.reducePow] at hy9
            refine r_isub 78 X d7_77 ?_
            refine r_retI X d7_78 (by decide) (by decide) ?_
            rcases (show y9.toInt = 0 ∨ y9.toInt = 1 by omega) with hz | hz
            · exact ⟨_, 23, rfl, (subI (a := 23) rfl hz (by omega) (by omega)).trans (by omega), Or.inr ⟨8, rfl, by simp only [Nat.reducePow]; omega, by simp only [Nat.reducePow, Nat.reduceAdd]; omega⟩, rfl⟩
            · exact ⟨_, 22, rfl, (subI (a := 23) rfl hz (by omega) (by omega)).trans (by omega), Or.inr ⟨9, rfl, by simp only [Nat.reducePow]; omega, by simp only [Nat.reducePow, Nat.reduceAdd]; omega⟩, rfl⟩
          · refine r_icmpN 66 X d7_63 (flt h63_8).1 ?_
            have ih63_8 : ¬ y8.toInt < 4 := mt (ltI rfl (b := 4) rfl).mpr h63_8
            refine r_iinc 69 X (-2 : Int32) #[.val (.int y8), .val (.int (21 : Int32))] d7_66 rfl rfl rfl ?_
            refine r_iloadN 70 X d7_69 rfl ?_
            refine r_iconst 71 X (2 : Int32) d7_70 rfl ?_
            refine r_iushr 72 X d7_71 ?_
            obtain ⟨y10, ey10, hy10⟩ := own_shr y8 2 2 (by decide) (by decide) (by omega)
            refine r_topI ey10 ?_
            simp only [Nat.reducePow] at hy10
            refine r_istoreN 73 X #[.val (.int y10), .val (.int (21 : Int32))] d7_72 rfl ?_
            refine r_iloadN 74 X d7_73 rfl ?_
            refine r_iloadN 75 X d7_74 rfl ?_
            refine r_iconst 76 X (1 : Int32) d7_75 rfl ?_
            refine r_iushr 77 X d7_76 ?_
            obtain ⟨y11, ey11, hy11⟩ := own_shr y10 1 1 (by decide) (by decide) (by omega)
            refine r_topI ey11 ?_
            simp only [Nat.reducePow] at hy11
            refine r_isub 78 X d7_77 ?_
            refine r_retI X d7_78 (by decide) (by decide) ?_
            rcases (show y11.toInt = 0 ∨ y11.toInt = 1 by omega) with hz | hz
            · exact ⟨_, 21, rfl, (subI (a := 21) rfl hz (by omega) (by omega)).trans (by omega), Or.inr ⟨10, rfl, by simp only [Nat.reducePow]; omega, by simp only [Nat.reducePow, Nat.reduceAdd]; omega⟩, rfl⟩
            · exact ⟨_, 20, rfl, (subI (a := 21) rfl hz (by omega) (by omega)).trans (by omega), Or.inr ⟨11, rfl, by simp only [Nat.reducePow]; omega, by simp only [Nat.reducePow, Nat.reduceAdd]; omega⟩, rfl⟩
        · refine r_icmpN 54 X d7_51 (flt h51_7).1 ?_
          have ih51_7 : ¬ y8.toInt < 16 := mt (ltI rfl (b := 16) rfl).mpr h51_7
          refine r_iinc 57 X (-4 : Int32) #[.val (.int y8), .val (.int (19 : Int32))] d7_54 rfl rfl rfl ?_
          refine r_iloadN 58 X d7_57 rfl ?_
          refine r_iconst 59 X (4 : Int32) d7_58 rfl ?_
          refine r_iushr 60 X d7_59 ?_
          obtain ⟨y12, ey12, hy12⟩ := own_shr y8 4 4 (by decide) (by decide) (by omega)
          refine r_topI ey12 ?_
          simp only [Nat.reducePow] at hy12
          refine r_istoreN 61 X #[.val (.int y12), .val (.int (19 : Int32))] d7_60 rfl ?_
          refine r_iloadN 62 X d7_61 rfl ?_
          refine r_iconst 63 X (4 : Int32) d7_62 rfl ?_
          by_cases h63_9 : y12 < (4 : Int32)
          · refine r_icmpY 73 X d7_63 (tlt h63_9).1 ?_
            have ih63_9 : y12.toInt < 4 := (ltI rfl (b := 4) rfl).mp h63_9
            refine r_iloadN 74 X d7_73 rfl ?_
            refine r_iloadN 75 X d7_74 rfl ?_
            refine r_iconst 76 X (1 : Int32) d7_75 rfl ?_
            refine r_iushr 77 X d7_76 ?_
            obtain ⟨y13, ey13, hy13⟩ := own_shr y12 1 1 (by decide) (by decide) (by omega)
            refine r_topI ey13 ?_
            simp only [Nat.reducePow] at hy13
            refine r_isub 78 X d7_77 ?_
            refine r_retI X d7_78 (by decide) (by decide) ?_
            rcases (show y13.toInt = 0 ∨ y13.toInt = 1 by omega) with hz | hz
            · exact ⟨_, 19, rfl, (subI (a := 19) rfl hz (by omega) (by omega)).trans (by omega), Or.inr ⟨12, rfl, by simp only [Nat.reducePow]; omega, by simp only [Nat.reducePow, Nat.reduceAdd]; omega⟩, rfl⟩
            · exact ⟨_, 18, rfl, (subI (a := 19) rfl hz (by omega) (by omega)).trans (by omega), Or.inr ⟨13, rfl, by simp only [Nat.reducePow]; omega, by simp only [Nat.reducePow, Nat.reduceAdd]; omega⟩, rfl⟩
          · refine r_icmpN 66 X d7_63 (flt h63_9).1 ?_
            have ih63_9 : ¬ y12.toInt < 4 := mt (ltI rfl (b := 4) rfl).mpr h63_9
            refine r_iinc 69 X (-2 : Int32) #[.val (.int y12), .val (.int (17 : Int32))] d7_66 rfl rfl rfl ?_
            refine r_iloadN 70 X d7_69 rfl ?_
            refine r_iconst 71 X (2 : Int32) d7_70 rfl ?_
            refine r_iushr 72 X d7_71 ?_
            obtain ⟨y14, ey14, hy14⟩ := own_shr y12 2 2 (by decide) (by decide) (by omega)
            refine r_topI ey14 ?_
            simp only [Nat.reducePow] at hy14
            refine r_istoreN 73 X #[.val (.int y14), .val (.int (17 : Int32))] d7_72 rfl ?_
            refine r_iloadN 74 X d7_73 rfl ?_
            refine r_iloadN 75 X d7_74 rfl ?_
            refine r_iconst 76 X (1 : Int32) d7_75 rfl ?_
            refine r_iushr 77 X d7_76 ?_
            obtain ⟨y15, ey15, hy15⟩ := own_shr y14 1 1 (by decide) (by decide) (by omega)
            refine r_topI ey15 ?_
            simp only [Nat.reducePow] at hy15
            refine r_isub 78 X d7_77 ?_
            refine r_retI X d7_78 (by decide) (by decide) ?_
            rcases (show y15.toInt = 0 ∨ y15.toInt = 1 by omega) with hz | hz
            · exact ⟨_, 17, rfl, (subI (a := 17) rfl hz (by omega) (by omega)).trans (by omega), Or.inr ⟨14, rfl, by simp only [Nat.reducePow]; omega, by simp only [Nat.reducePow, Nat.reduceAdd]; omega⟩, rfl⟩
            · exact ⟨_, 16, rfl, (subI (a := 17) rfl hz (by omega) (by omega)).trans (by omega), Or.inr ⟨15, rfl, by simp only [Nat.reducePow]; omega, by simp only [Nat.reducePow, Nat.reduceAdd]; omega⟩, rfl⟩
    · refine r_icmpN 25 X d7_22 (flt h22_2).1 ?_
      have ih22_2 : ¬ p1.toInt < 65536 := mt (ltI rfl (b := 65536) rfl).mpr h22_2
      refine r_iinc 28 X (-16 : Int32) #[.val (.int p1), .val (.int (15 : Int32))] d7_25 rfl rfl rfl ?_
      refine r_iloadN 29 X d7_28 rfl ?_
      refine r_bipush 31 X (16 : Int32) d7_29 rfl ?_
      refine r_iushr 32 X d7_31 ?_
      obtain ⟨y16, ey16, hy16⟩ := own_shr p1 16 16 (by decide) (by decide) (by omega)
      refine r_topI ey16 ?_
      simp only [Nat.reducePow] at hy16
      refine r_istoreN 33 X #[.val (.int y16), .val (.int (15 : Int32))] d7_32 rfl ?_
      refine r_iloadN 34 X d7_33 rfl ?_
      refine r_sipush 37 X (256 : Int32) d7_34 rfl ?_
      by_cases h37_10 : y16 < (256 : Int32)
      · refine r_icmpY 48 X d7_37 (tlt h37_10).1 ?_
        have ih37_10 : y16.toInt < 256 := (ltI rfl (b := 256) rfl).mp h37_10
        refine r_iloadN 49 X d7_48 rfl ?_
        refine r_bipush 51 X (16 : Int32) d7_49 rfl ?_
        by_cases h51_11 : y16 < (16 : Int32)
        · refine r_icmpY 61 X d7_51 (tlt h51_11).1 ?_
          have ih51_11 : y16.toInt < 16 := (ltI rfl (b := 16) rfl).mp h51_11
          refine r_iloadN 62 X d7_61 rfl ?_
          refine r_iconst 63 X (4 : Int32) d7_62 rfl ?_
          by_cases h63_12 : y16 < (4 : Int32)
          · refine r_icmpY 73 X d7_63 (tlt h63_12).1 ?_
            have ih63_12 : y16.toInt < 4 := (ltI rfl (b := 4) rfl).mp h63_12
            refine r_iloadN 74 X d7_73 rfl ?_
            refine r_iloadN 75 X d7_74 rfl ?_
            refine r_iconst 76 X (1 : Int32) d7_75 rfl ?_
            refine r_iushr 77 X d7_76 ?_
            obtain ⟨y17, ey17, hy17⟩ := own_shr y16 1 1 (by decide) (by decide) (by omega)
            refine r_topI ey17 ?_
            simp only [Nat.reducePow] at hy17
            refine r_isub 78 X d7_77 ?_
            refine r_retI X d7_78 (by decide) (by decide) ?_
            rcases (show y17.toInt = 0 ∨ y17.toInt = 1 by omega) with hz | hz
            · exact ⟨_, 15, rfl, (subI (a := 15) rfl hz (by omega) (by omega)).trans (by omega), Or.inr ⟨16, rfl, by simp only [Nat.reducePow]; omega, by simp only [Nat.reducePow, Nat.reduceAdd]; omega⟩, rfl⟩
            · exact ⟨_, 14, rfl, (subI (a := 15) rfl hz (by omega) (by omega)).trans (by omega), Or.inr ⟨17, rfl, by simp only [Nat.reducePow]; omega, by simp only [Nat.reducePow, Nat.reduceAdd]; omega⟩, rfl⟩
          · refine r_icmpN 66 X d7_63 (flt h63_12).1 ?_
            have ih63_12 : ¬ y16.toInt < 4 := mt (ltI rfl (b := 4) rfl).mpr h63_12
            refine r_iinc 69 X (-2 : Int32) #[.val (.int y16), .val (.int (13 : Int32))] d7_66 rfl rfl rfl ?_
            refine r_iloadN 70 X d7_69 rfl ?_
            refine r_iconst 71 X (2 : Int32) d7_70 rfl ?_
            refine r_iushr 72 X d7_71 ?_
            obtain ⟨y18, ey18, hy18⟩ := own_shr y16 2 2 (by decide) (by decide) (by omega)
            refine r_topI ey18 ?_
            simp only [Nat.reducePow] at hy18
            refine r_istoreN 73 X #[.val (.int y18), .val (.int (13 : Int32))] d7_72 rfl ?_
            refine r_iloadN 74 X d7_73 rfl ?_
            refine r_iloadN 75 X d7_74 rfl ?_
            refine r_iconst 76 X (1 : Int32) d7_75 rfl ?_
            refine r_iushr 77 X d7_76 ?_
            obtain ⟨y19, ey19, hy19⟩ := own_shr y18 1 1 (by decide) (by decide) (by omega)
            refine r_topI ey19 ?_
            simp only [Nat.reducePow] at hy19
            refine r_isub 78 X d7_77 ?_
            refine r_retI X d7_78 (by decide) (by decide) ?_
            rcases (show y19.toInt = 0 ∨ y19.toInt = 1 by omega) with hz | hz
            · exact ⟨_, 13, rfl, (subI (a := 13) rfl hz (by omega) (by omega)).trans (by omega), Or.inr ⟨18, rfl, by simp only [Nat.reducePow]; omega, by simp only [Nat.reducePow, Nat.reduceAdd]; omega⟩, rfl⟩
            · exact ⟨_, 12, rfl, (subI (a := 13) rfl hz (by omega) (by omega)).trans (by omega), Or.inr ⟨19, rfl, by simp only [Nat.reducePow]; omega, by simp only [Nat.reducePow, Nat.reduceAdd]; omega⟩, rfl⟩
        · refine r_icmpN 54 X d7_51 (flt h51_11).1 ?_
          have ih51_11 : ¬ y16.toInt < 16 := mt (ltI rfl (b := 16) rfl).mpr h51_11
          refine r_iinc 57 X (-4 : Int32) #[.val (.int y16), .val (.int (11 : Int32))] d7_54 rfl rfl rfl ?_
          refine r_iloadN 58 X d7_57 rfl ?_
          refine r_iconst 59 X (4 : Int32) d7_58 rfl ?_
          refine r_iushr 60 X d7_59 ?_
          obtain ⟨y20, ey20, hy20⟩ := own_shr y16 4 4 (by decide) (by decide) (by omega)
          refine r_topI ey20 ?_
          simp only [Nat.reducePow] at hy20
          refine r_istoreN 61 X #[.val (.int y20), .val (.int (11 : Int32))] d7_60 rfl ?_
          refine r_iloadN 62 X d7_61 rfl ?_
          refine r_iconst 63 X (4 : Int32) d7_62 rfl ?_
          by_cases h63_13 : y20 < (4 : Int32)
          · refine r_icmpY 73 X d7_63 (tlt h63_13).1 ?_
            have ih63_13 : y20.toInt < 4 := (ltI rfl (b := 4) rfl).mp h63_13
            refine r_iloadN 74 X d7_73 rfl ?_
            refine r_iloadN 75 X d7_74 rfl ?_
            refine r_iconst 76 X (1 : Int32) d7_75 rfl ?_
            refine r_iushr 77 X d7_76 ?_
            obtain ⟨y21, ey21, hy21⟩ := own_shr y20 1 1 (by decide) (by decide) (by omega)
            refine r_topI ey21 ?_
            simp only [Nat.reducePow] at hy21
            refine r_isub 78 X d7_77 ?_
            refine r_retI X d7_78 (by decide) (by decide) ?_
            rcases (show y21.toInt = 0 ∨ y21.toInt = 1 by omega) with hz | hz
            · exact ⟨_, 11, rfl, (subI (a := 11) rfl hz (by omega) (by omega)).trans (by omega), Or.inr ⟨20, rfl, by simp only [Nat.reducePow]; omega, by simp only [Nat.reducePow, Nat.reduceAdd]; omega⟩, rfl⟩
            · exact ⟨_, 10, rfl, (subI (a := 11) rfl hz (by omega) (by omega)).trans (by omega), Or.inr ⟨21, rfl, by simp only [Nat.reducePow]; omega, by simp only [Nat.reducePow, Nat.reduceAdd]; omega⟩, rfl⟩
          · refine r_icmpN 66 X d7_63 (flt h63_13).1 ?_
            have ih63_13 : ¬ y20.toInt < 4 := mt (ltI rfl (b := 4) rfl).mpr h63_13
            refine r_iinc 69 X (-2 : Int32) #[.val (.int y20), .val (.int (9 : Int32))] d7_66 rfl rfl rfl ?_
            refine r_iloadN 70 X d7_69 rfl ?_
            refine r_iconst 71 X (2 : Int32) d7_70 rfl ?_
            refine r_iushr 72 X d7_71 ?_
            obtain ⟨y22, ey22, hy22⟩ := own_shr y20 2 2 (by decide) (by decide) (by omega)
            refine r_topI ey22 ?_
            simp only [Nat.reducePow] at hy22
            refine r_istoreN 73 X #[.val (.int y22), .val (.int (9 : Int32))] d7_72 rfl ?_
            refine r_iloadN 74 X d7_73 rfl ?_
            refine r_iloadN 75 X d7_74 rfl ?_
            refine r_iconst 76 X (1 : Int32) d7_75 rfl ?_
            refine r_iushr 77 X d7_76 ?_
            obtain ⟨y23, ey23, hy23⟩ := own_shr y22 1 1 (by decide) (by decide) (by omega)
            refine r_topI ey23 ?_
            simp only [Nat.reducePow] at hy23
            refine r_isub 78 X d7_77 ?_
            refine r_retI X d7_78 (by decide) (by decide) ?_
            rcases (show y23.toInt = 0 ∨ y23.toInt = 1 by omega) with hz | hz
            · exact ⟨_, 9, rfl, (subI (a := 9) rfl hz (by omega) (by omega)).trans (by omega), Or.inr ⟨22, rfl, by simp only [Nat.reducePow]; omega, by simp only [Nat.reducePow, Nat.reduceAdd]; omega⟩, rfl⟩
            · exact ⟨_, 8, rfl, (subI (a := 9) rfl hz (by omega) (by omega)).trans (by omega), Or.inr ⟨23, rfl, by simp only [Nat.reducePow]; omega, by simp only [Nat.reducePow, Nat.reduceAdd]; omega⟩, rfl⟩
      · refine r_icmpN 40 X d7_37 (flt h37_10).1 ?_
        have ih37_10 : ¬ y16.toInt < 256 := mt (ltI rfl (b := 256) rfl).mpr h37_10
        refine r_iinc 43 X (-8 : Int32) #[.val (.int y16), .val (.int (7 : Int32))] d7_40 rfl rfl rfl ?_
        refine r_iloadN 44 X d7_43 rfl ?_
        refine r_bipush 46 X (8 : Int32) d7_44 rfl ?_
        refine r_iushr 47 X d7_46 ?_
        obtain ⟨y24, ey24, hy24⟩ := own_shr y16 8 8 (by decide) (by decide) (by omega)
        refine r_topI ey24 ?_
        simp only [Nat.reducePow] at hy24
        refine r_istoreN 48 X #[.val (.int y24), .val (.int (7 : Int32))] d7_47 rfl ?_
        refine r_iloadN 49 X d7_48 rfl ?_
        refine r_bipush 51 X (16 : Int32) d7_49 rfl ?_
        by_cases h51_14 : y24 < (16 : Int32)
        · refine r_icmpY 61 X d7_51 (tlt h51_14).1 ?_
          have ih51_14 : y24.toInt < 16 := (ltI rfl (b := 16) rfl).mp h51_14
          refine r_iloadN 62 X d7_61 rfl ?_
          refine r_iconst 63 X (4 : Int32) d7_62 rfl ?_
          by_cases h63_15 : y24 < (4 : Int32)
          · refine r_icmpY 73 X d7_63 (tlt h63_15).1 ?_
            have ih63_15 : y24.toInt < 4 := (ltI rfl (b := 4) rfl).mp h63_15
            refine r_iloadN 74 X d7_73 rfl ?_
            refine r_iloadN 75 X d7_74 rfl ?_
            refine r_iconst 76 X (1 : Int32) d7_75 rfl ?_
            refine r_iushr 77 X d7_76 ?_
            obtain ⟨y25, ey25, hy25⟩ := own_shr y24 1 1 (by decide) (by decide) (by omega)
            refine r_topI ey25 ?_
            simp only [Nat.reducePow] at hy25
            refine r_isub 78 X d7_77 ?_
            refine r_retI X d7_78 (by decide) (by decide) ?_
            rcases (show y25.toInt = 0 ∨ y25.toInt = 1 by omega) with hz | hz
            · exact ⟨_, 7, rfl, (subI (a := 7) rfl hz (by omega) (by omega)).trans (by omega), Or.inr ⟨24, rfl, by simp only [Nat.reducePow]; omega, by simp only [Nat.reducePow, Nat.reduceAdd]; omega⟩, rfl⟩
            · exact ⟨_, 6, rfl, (subI (a := 7) rfl hz (by omega) (by omega)).trans (by omega), Or.inr ⟨25, rfl, by simp only [Nat.reducePow]; omega, by simp only [Nat.reducePow, Nat.reduceAdd]; omega⟩, rfl⟩
          · refine r_icmpN 66 X d7_63 (flt h63_15).1 ?_
            have ih63_15 : ¬ y24.toInt < 4 := mt (ltI rfl (b := 4) rfl).mpr h63_15
            refine r_iinc 69 X (-2 : Int32) #[.val (.int y24), .val (.int (5 : Int32))] d7_66 rfl rfl rfl ?_
            refine r_iloadN 70 X d7_69 rfl ?_
            refine r_iconst 71 X (2 : Int32) d7_70 rfl ?_
            refine r_iushr 72 X d7_71 ?_
            obtain ⟨y26, ey26, hy26⟩ := own_shr y24 2 2 (by decide) (by decide) (by omega)
            refine r_topI ey26 ?_
            simp only [Nat.reducePow] at hy26
            refine r_istoreN 73 X #[.val (.int y26), .val (.int (5 : Int32))] d7_72 rfl ?_
            refine r_iloadN 74 X d7_73 rfl ?_
            refine r_iloadN 75 X d7_74 rfl ?_
            refine r_iconst 76 X (1 : Int32) d7_75 rfl ?_
            refine r_iushr 77 X d7_76 ?_
            obtain ⟨y27, ey27, hy27⟩ := own_shr y26 1 1 (by decide) (by decide) (by omega)
            refine r_topI ey27 ?_
            simp only [Nat.reducePow] at hy27
            refine r_isub 78 X d7_77 ?_
            refine r_retI X d7_78 (by decide) (by decide) ?_
            rcases (show y27.toInt = 0 ∨ y27.toInt = 1 by omega) with hz | hz
            · exact ⟨_, 5, rfl, (subI (a := 5) rfl hz (by omega) (by omega)).trans (by omega), Or.inr ⟨26, rfl, by simp only [Nat.reducePow]; omega, by simp only [Nat.reducePow, Nat.reduceAdd]; omega⟩, rfl⟩
            · exact ⟨_, 4, rfl, (subI (a := 5) rfl hz (by omega) (by omega)).trans (by omega), Or.inr ⟨27, rfl, by simp only [Nat.reducePow]; omega, by simp only [Nat.reducePow, Nat.reduceAdd]; omega⟩, rfl⟩
        · refine r_icmpN 54 X d7_51 (flt h51_14).1 ?_
          have ih51_14 : ¬ y24.toInt < 16 := mt (ltI rfl (b := 16) rfl).mpr h51_14
          refine r_iinc 57 X (-4 : Int32) #[.val (.int y24), .val (.int (3 : Int32))] d7_54 rfl rfl rfl ?_
          refine r_iloadN 58 X d7_57 rfl ?_
          refine r_iconst 59 X (4 : Int32) d7_58 rfl ?_
          refine r_iushr 60 X d7_59 ?_
          obtain ⟨y28, ey28, hy28⟩ := own_shr y24 4 4 (by decide) (by decide) (by omega)
          refine r_topI ey28 ?_
          simp only [Nat.reducePow] at hy28
          refine r_istoreN 61 X #[.val (.int y28), .val (.int (3 : Int32))] d7_60 rfl ?_
          refine r_iloadN 62 X d7_61 rfl ?_
          refine r_iconst 63 X (4 : Int32) d7_62 rfl ?_
          by_cases h63_16 : y28 < (4 : Int32)
          · refine r_icmpY 73 X d7_63 (tlt h63_16).1 ?_
            have ih63_16 : y28.toInt < 4 := (ltI rfl (b := 4) rfl).mp h63_16
            refine r_iloadN 74 X d7_73 rfl ?_
            refine r_iloadN 75 X d7_74 rfl ?_
            refine r_iconst 76 X (1 : Int32) d7_75 rfl ?_
            refine r_iushr 77 X d7_76 ?_
            obtain ⟨y29, ey29, hy29⟩ := own_shr y28 1 1 (by decide) (by decide) (by omega)
            refine r_topI ey29 ?_
            simp only [Nat.reducePow] at hy29
            refine r_isub 78 X d7_77 ?_
            refine r_retI X d7_78 (by decide) (by decide) ?_
            rcases (show y29.toInt = 0 ∨ y29.toInt = 1 by omega) with hz | hz
            · exact ⟨_, 3, rfl, (subI (a := 3) rfl hz (by omega) (by omega)).trans (by omega), Or.inr ⟨28, rfl, by simp only [Nat.reducePow]; omega, by simp only [Nat.reducePow, Nat.reduceAdd]; omega⟩, rfl⟩
            · exact ⟨_, 2, rfl, (subI (a := 3) rfl hz (by omega) (by omega)).trans (by omega), Or.inr ⟨29, rfl, by simp only [Nat.reducePow]; omega, by simp only [Nat.reducePow, Nat.reduceAdd]; omega⟩, rfl⟩
          · refine r_icmpN 66 X d7_63 (flt h63_16).1 ?_
            have ih63_16 : ¬ y28.toInt < 4 := mt (ltI rfl (b := 4) rfl).mpr h63_16
            refine r_iinc 69 X (-2 : Int32) #[.val (.int y28), .val (.int (1 : Int32))] d7_66 rfl rfl rfl ?_
            refine r_iloadN 70 X d7_69 rfl ?_
            refine r_iconst 71 X (2 : Int32) d7_70 rfl ?_
            refine r_iushr 72 X d7_71 ?_
            obtain ⟨y30, ey30, hy30⟩ := own_shr y28 2 2 (by decide) (by decide) (by omega)
            refine r_topI ey30 ?_
            simp only [Nat.reducePow] at hy30
            refine r_istoreN 73 X #[.val (.int y30), .val (.int (1 : Int32))] d7_72 rfl ?_
            refine r_iloadN 74 X d7_73 rfl ?_
            refine r_iloadN 75 X d7_74 rfl ?_
            refine r_iconst 76 X (1 : Int32) d7_75 rfl ?_
            refine r_iushr 77 X d7_76 ?_
            obtain ⟨y31, ey31, hy31⟩ := own_shr y30 1 1 (by decide) (by decide) (by omega)
            refine r_topI ey31 ?_
            simp only [Nat.reducePow] at hy31
            refine r_isub 78 X d7_77 ?_
            refine r_retI X d7_78 (by decide) (by decide) ?_
            rcases (show y31.toInt = 0 ∨ y31.toInt = 1 by omega) with hz | hz
            · exact ⟨_, 1, rfl, (subI (a := 1) rfl hz (by omega) (by omega)).trans (by omega), Or.inr ⟨30, rfl, by simp only [Nat.reducePow]; omega, by simp only [Nat.reducePow, Nat.reduceAdd]; omega⟩, rfl⟩
            · exact ⟨_, 0, rfl, (subI (a := 1) rfl hz (by omega) (by omega)).trans (by omega), Or.inr ⟨31, rfl, by simp only [Nat.reducePow]; omega, by simp only [Nat.reducePow, Nat.reduceAdd]; omega⟩, rfl⟩
  · refine r_ifN 4 X d7_1 ((if0 _ _).trans (flt h1_1).2.2.1) ?_
    refine r_iloadN 5 X d7_4 rfl ?_
    by_cases h5_17 : p1 = (0 : Int32)
    · refine r_ifN 8 X d7_5 ((if0 _ _).trans (teq h5_17).2) ?_
      refine r_bipush 10 X (32 : Int32) d7_8 rfl ?_
      refine r_goto 14 X d7_10 ?_
      refine r_retI X d7_14 (by decide) (by decide) ?_
      exact ⟨32, 32, rfl, rfl, Or.inl ⟨(own_zero32 p1).mp h5_17, rfl⟩, rfl⟩
    · refine r_ifY 13 X d7_5 ((if0 _ _).trans (feq h5_17).2) ?_
      refine r_iconst 14 X (0 : Int32) d7_13 rfl ?_
      refine r_retI X d7_14 (by decide) (by decide) ?_
      exact ⟨0, 0, rfl, rfl, Or.inr ⟨31, rfl, by have h1 := mt (ltI (x := 0) (y := p1) rfl rfl).mpr h1_1; have h2 := mt (eqI (x := p1) (y := 0) rfl rfl).mpr h5_17; have h3 := own_u32 p1; have h4 := rng32 p1; have e0 : (0 : Int32).toInt = 0 := rfl; simp only [Nat.reducePow]; omega, (own_u32 p1).2.2⟩, rfl⟩
theorem d6_0 : decode jdk_35_method_48_code 0 = .ok (.lload_n 0, 1) := by decide +kernel
theorem d6_1 : decode jdk_35_method_48_code 1 = .ok (.bipush 32, 2) := by decide +kernel
theorem d6_3 : decode jdk_35_method_48_code 3 = .ok (.lushr, 1) := by decide +kernel
theorem d6_4 : decode jdk_35_method_48_code 4 = .ok (.l2i, 1) := by decide +kernel
theorem d6_5 : decode jdk_35_method_48_code 5 = .ok (.istore_n 2, 1) := by decide +kernel
theorem d6_6 : decode jdk_35_method_48_code 6 = .ok (.iload_n 2, 1) := by decide +kernel
theorem d6_7 : decode jdk_35_method_48_code 7 = .ok (.ifCond .ne 14, 3) := by decide +kernel
theorem d6_10 : decode jdk_35_method_48_code 10 = .ok (.bipush 32, 2) := by decide +kernel
theorem d6_12 : decode jdk_35_method_48_code 12 = .ok (.lload_n 0, 1) := by decide +kernel
theorem d6_13 : decode jdk_35_method_48_code 13 = .ok (.l2i, 1) := by decide +kernel
theorem d6_14 : decode jdk_35_method_48_code 14 = .ok (.invokestatic 308, 3) := by decide +kernel
theorem d6_17 : decode jdk_35_method_48_code 17 = .ok (.iadd, 1) := by decide +kernel
theorem d6_18 : decode jdk_35_method_48_code 18 = .ok (.goto 7, 3) := by decide +kernel
theorem d6_21 : decode jdk_35_method_48_code 21 = .ok (.iload_n 2, 1) := by decide +kernel
theorem d6_22 : decode jdk_35_method_48_code 22 = .ok (.invokestatic 308, 3) := by decide +kernel
theorem d6_25 : decode jdk_35_method_48_code 25 = .ok (.ireturn, 1) := by decide +kernel
theorem pn_6 : plainName "java/lang/Long" = true := by first | (simp [plainName, overriddenIn]; done) | decide +kernel
theorem ef_6 (m : MethodId) (x0 : Int64) : entryFrame m #[(.long x0)] 3 = mkF m 0 #[.val (.long x0), .second, .unset] [] := by first | (simp [entryFrame, mkF, argsToLocals, Value.category]; done) | rfl
set_option maxRecDepth 65536 in
set_option maxHeartbeats 40000000 in
theorem rmNlz (l : Launch) (Z : State) (a0 : Array Value) (hw : ∀ d ∈ tables_1, d.before a0 Z = true) (n0 : Nat) (h : Heap) (Z0 : n0 ≤ h.size) (q1 : Int64)  :
    Met1 l Z n0 [] (⟨"java/lang/Long", "numberOfLeadingZeros", "(J)I"⟩ : MethodName) jdk_35_method_48_code 3 (some .int) ({ frames := 1, cells := 0, slots := 0, locals := 14 } : Room) #[(.long q1)] h (fun v h' => ∃ (r : Int32) (R : Nat), v = some (.int r) ∧ r.toInt = (R : Int) ∧ Nlz 64 q1.toBitVec.toNat R ∧ h = h') := by
  refine met_of (plainFor_of_name pn_6) Z0 (fun m => ef_6 m q1) ?_
  intro p e s m below meth c T hs0 X
  refine r_lloadN 1 X d6_0 rfl ?_
  refine r_bipush 3 X (32 : Int32) d6_1 rfl ?_
  refine r_lushr 4 X d6_3 ?_
  refine r_l2i 5 X d6_4 ?_
  refine r_istoreN 6 X #[.val (.long q1), .second, .val (.int (((q1.toUInt64 >>> ((32 : Int32) &&& 0x3f).toInt64.toUInt64).toInt64).toInt32))] d6_5 rfl ?_
  refine r_iloadN 7 X d6_6 rfl ?_
  by_cases h7_1 : (((q1.toUInt64 >>> ((32 : Int32) &&& 0x3f).toInt64.toUInt64).toInt64).toInt32) = (0 : Int32)
  · refine r_ifN 10 X d6_7 ((if0 _ _).trans (teq h7_1).2) ?_
    refine r_bipush 12 X (32 : Int32) d6_10 rfl ?_
    refine r_lloadN 13 X d6_12 rfl ?_
    refine r_l2i 14 X d6_13 ?_
    refine r_callS 17 X (st := [(.int (32 : Int32))]) (rmNlzI l Z a0 hw n0 _ X.sz (q1.toInt32)) (hw _ (List.mem_of_getElem? (i := 43) rfl)) (hw _ (List.mem_of_getElem? (i := 44) rfl)) (hw _ (List.mem_of_getElem? (i := 46) rfl)) (hw _ (List.mem_of_getElem? (i := 45) rfl)) (by decide) pd_0 [(.int (q1.toInt32))] rfl rfl 1 (Nat.le_of_eq rfl) rfl (by decide) (by decide) (by decide) (by decide) d6_14 ?_
    rintro T h2 v2 ⟨r2, R2, rfl, hr2, hR2, rfl⟩ X
    change Run _ _ _ _ _ _ _ _ [(.int r2), (.int (32 : Int32))]
    refine r_iadd 18 X d6_17 ?_
    refine r_goto 25 X d6_18 ?_
    refine r_retI X d6_25 (by decide) (by decide) ?_
    exact ⟨_, 32 + R2, rfl, (addI (a := 32) rfl hr2 (by omega) (by have := nlz_le hR2; omega)).trans (by omega), nlz_lo (own_l2i q1 ▸ hR2) ((own_hi q1).symm.trans ((own_zero32 _).mp h7_1)), rfl⟩
  · refine r_ifY 21 X d6_7 ((if0 _ _).trans (feq h7_1).2) ?_
    refine r_iloadN 22 X d6_21 rfl ?_
    refine r_callS 25 X (st := []) (rmNlzI l Z a0 hw n0 _ X.sz (((q1.toUInt64 >>> ((32 : Int32) &&& 0x3f).toInt64.toUInt64).toInt64).toInt32)) (hw _ (List.mem_of_getElem? (i := 43) rfl)) (hw _ (List.mem_of_getElem? (i := 44) rfl)) (hw _ (List.mem_of_getElem? (i := 46) rfl)) (hw _ (List.mem_of_getElem? (i := 45) rfl)) (by decide) pd_0 [(.int (((q1.toUInt64 >>> ((32 : Int32) &&& 0x3f).toInt64.toUInt64).toInt64).toInt32))] rfl rfl 0 (Nat.le_of_eq rfl) rfl (by decide) (by decide) (by decide) (by decide) d6_22 ?_
    rintro T h3 v3 ⟨r3, R3, rfl, hr3, hR3, rfl⟩ X
    change Run _ _ _ _ _ _ _ _ [(.int r3)]
    refine r_retI X d6_25 (by decide) (by decide) ?_
    exact ⟨_, R3, rfl, hr3, nlz_hi (own_hi q1 ▸ hR3) (fun q => h7_1 ((own_zero32 _).mpr ((own_hi q1).trans q))), rfl⟩
theorem own_s6 {s : Int32} {k : Nat} (h : s.toInt = (k : Int)) : (s &&& 0x3f).toInt64.toBitVec.toNat % 64 = k % 64 := by
  have h1 := c_mask s 0x3f 6 (by decide) (by decide)
  have h2 := c_i2l (s &&& 0x3f)
  have h3 := (own_u64 (s &&& 0x3f).toInt64).1
  omega

def fldS (v lo s : Int32) : Int64 := (v.toInt64 - lo.toInt64) <<< (s &&& 0x3f).toInt64
def gtS (P : Int64) (s : Int32) (m : Int64) (lo : Int32) : Int32 := lo + ((((P.toUInt64 >>> (s &&& 0x3f).toInt64.toUInt64).toInt64) &&& m).toInt32)
theorem own_t6 {s : Int32} {k : Nat} (h : s.toInt = (k : Int)) : s.toBitVec.toNat % 64 = k % 64 := by
  have := own_u32 s; omega
theorem own_shlN {x : Int64} {s : Int32} {xn k : Nat} (hx : x.toInt = (xn : Int)) (hs : s.toInt = (k : Int)) (hb : xn * 2 ^ (k % 64) < 18446744073709551616) : (x <<< (s &&& 0x3f).toInt64).toBitVec.toNat = xn <<< (k % 64) := by
  have h := c_lshl x s (k % 64) (own_t6 hs)
  have hu := own_u64 (x <<< (s &&& 0x3f).toInt64)
  rw [hx] at h
  have e : (xn : Int) * ((2 ^ (k % 64) : Nat) : Int) = ((xn * 2 ^ (k % 64) : Nat) : Int) := by rw [Int.natCast_mul]
  rw [e] at h
  rw [Nat.shiftLeft_eq]
  generalize xn * 2 ^ (k % 64) = M at h hb ⊢
  by_cases q : 0 ≤ (x <<< (s &&& 0x3f).toInt64).toInt
  · have := hu.1 q; omega
  · have := hu.2.1 (by omega); omega
theorem own_maskN {w : Int32} {k : Nat} (hw : w.toInt = (k : Int)) (hk : k ≤ 32) : (((1 : Int64) <<< (w &&& 0x3f).toInt64) - (1 : Int64)).toBitVec.toNat = 2 ^ k - 1 := by
  have hp : 2 ^ k ≤ 2 ^ 32 := Nat.pow_le_pow_right (by decide) hk
  have h1 := own_shlN (x := 1) (xn := 1) rfl hw (by rw [Nat.mod_eq_of_lt (by omega)]; omega)
  rw [Nat.mod_eq_of_lt (by omega), Nat.shiftLeft_eq, Nat.one_mul] at h1
  have h2 : 1 ≤ 2 ^ k := Nat.one_le_two_pow
  have hu := own_u64 ((1 : Int64) <<< (w &&& 0x3f).toInt64)
  have h3 := c_lsub ((1 : Int64) <<< (w &&& 0x3f).toInt64) 1
  have hv := own_u64 (((1 : Int64) <<< (w &&& 0x3f).toInt64) - (1 : Int64))
  have e1 : (1 : Int64).toInt = 1 := rfl
  generalize (2 ^ k : Nat) = M at *
  omega
theorem own_pickN {N x t w : Nat} (hx : x < 2 ^ w) (h : ∀ j, j < w → N.testBit (t + j) = x.testBit j) : (N >>> t) % 2 ^ w = x := by
  apply Nat.eq_of_testBit_eq
  intro j
  rw [Nat.testBit_mod_two_pow, Nat.testBit_shiftRight]
  by_cases q : j < w
  · simp [q, h j q]
  · rw [Nat.testBit_lt_two_pow (Nat.lt_of_lt_of_le hx (Nat.pow_le_pow_right (by decide) (by omega)))]
    simp [q]
theorem own_bitS (x t j : Nat) : (x <<< t).testBit (t + j) = x.testBit j := by
  rw [Nat.testBit_shiftLeft]; simp
theorem own_bitD {y u wy t w j : Nat} (hy : y < 2 ^ wy) (h : u + wy ≤ t ∨ t + w ≤ u ∨ wy = 0) (hj : j < w) : (y <<< u).testBit (t + j) = false := by
  rw [Nat.testBit_shiftLeft]
  by_cases q : t + j ≥ u
  · rw [Nat.testBit_lt_two_pow (Nat.lt_of_lt_of_le hy (Nat.pow_le_pow_right (by decide) (by omega)))]
    simp
  · simp [q]
theorem own_getN {P m : Int64} {s lo v : Int32} {N k w x : Nat} (hP : P.toBitVec.toNat = N) (hm : m.toBitVec.toNat = 2 ^ w - 1) (hs : s.toInt = (k : Int)) (hw : w ≤ 32) (hx : x < 2 ^ w) (hv : v.toInt - lo.toInt = (x : Int)) (h : ∀ j, j < w → N.testBit (k % 64 + j) = x.testBit j) : gtS P s m lo = v := by
  have e1 : ((((P.toUInt64 >>> (s &&& 0x3f).toInt64.toUInt64).toInt64) &&& m).toInt32).toBitVec.toNat = x := by
    have hp : 2 ^ w ≤ 2 ^ 32 := Nat.pow_le_pow_right (by decide) hw
    rw [own_l2i, Int64.toBitVec_and, BitVec.toNat_and, own_ushr P s (k % 64) (own_s6 hs), BitVec.toNat_ushiftRight, hP, hm, Nat.and_two_pow_sub_one_eq_mod, own_pickN hx h]
    omega
  unfold gtS
  generalize ((((P.toUInt64 >>> (s &&& 0x3f).toInt64.toUInt64).toInt64) &&& m).toInt32) = y at e1 ⊢
  have h1 := c_iadd lo y
  have h2 := own_u32 y
  have h3 := rng32 (lo + y)
  have h4 := rng32 v
  rw [e1] at h2
  apply Int32.toInt_inj.mp
  omega
theorem own_diff {v lo : Int32} {x : Nat} (h : v.toInt - lo.toInt = (x : Int)) : (v.toInt64 - lo.toInt64).toInt = (x : Int) := by
  have h1 := c_lsub v.toInt64 lo.toInt64
  rw [c_i2l, c_i2l] at h1
  have h2 := rng32 v
  have h3 := rng32 lo
  have h4 := rng64 (v.toInt64 - lo.toInt64)
  omega
theorem own_fldN {v lo s : Int32} {x k w : Nat} (h : v.toInt - lo.toInt = (x : Int)) (hx : x < 2 ^ w) (hs : s.toInt = (k : Int)) (hk : k % 64 + w ≤ 64) : (fldS v lo s).toBitVec.toNat = x <<< (k % 64) := by
  refine own_shlN (own_diff h) hs ?_
  have h1 : x * 2 ^ (k % 64) < 2 ^ w * 2 ^ (k % 64) := Nat.mul_lt_mul_of_pos_right hx (Nat.two_pow_pos _)
  rw [← Nat.pow_add] at h1
  have h2 : 2 ^ (w + k % 64) ≤ 2 ^ 64 := Nat.pow_le_pow_right (by decide) (by omega)
  omega
theorem own_or0 (y : Int64) : ((0 : Int64) ||| y).toBitVec.toNat = y.toBitVec.toNat := by
  rw [Int64.toBitVec_or, BitVec.toNat_or]; simp
theorem own_ss0 {l0 l1 l2 v0 v1 v2 t1 t2 : Int32} {m0 m1 m2 : Int64} {x0 x1 x2 w0 w1 w2 : Nat} (hw : w0 ≤ 32 ∧ w1 ≤ 32 ∧ w2 ≤ 32) (hs : w0 + w1 + w2 ≤ 64) (d0 : v0.toInt - l0.toInt = (x0 : Int)) (d1 : v1.toInt - l1.toInt = (x1 : Int)) (d2 : v2.toInt - l2.toInt = (x2 : Int)) (r0 : x0 < 2 ^ w0) (r1 : x1 < 2 ^ w1) (r2 : x2 < 2 ^ w2) (ht1 : t1.toInt = (w0 : Int)) (ht2 : t2.toInt = ((w0 + w1 : Nat) : Int)) (k0 : m0.toBitVec.toNat = 2 ^ w0 - 1) (k1 : m1.toBitVec.toNat = 2 ^ w1 - 1) (k2 : m2.toBitVec.toNat = 2 ^ w2 - 1) :
    gtS ((((0 : Int64) ||| fldS v0 l0 (0 : Int32)) ||| fldS v1 l1 t1) ||| fldS v2 l2 t2) (0 : Int32) m0 l0 = v0 ∧ gtS ((((0 : Int64) ||| fldS v0 l0 (0 : Int32)) ||| fldS v1 l1 t1) ||| fldS v2 l2 t2) t1 m1 l1 = v1 ∧ gtS ((((0 : Int64) ||| fldS v0 l0 (0 : Int32)) ||| fldS v1 l1 t1) ||| fldS v2 l2 t2) t2 m2 l2 = v2 := by
  have e0 : (0 : Int32).toInt = ((0 : Nat) : Int) := rfl
  have f0 := own_fldN d0 r0 e0 (by omega)
  have f1 := own_fldN d1 r1 ht1 (by omega)
  have f2 := own_fldN d2 r2 ht2 (by omega)
  have hP : ((((0 : Int64) ||| fldS v0 l0 (0 : Int32)) ||| fldS v1 l1 t1) ||| fldS v2 l2 t2).toBitVec.toNat = (x0 <<< (0 % 64) ||| x1 <<< (w0 % 64)) ||| x2 <<< ((w0 + w1) % 64) := by
    rw [Int64.toBitVec_or, BitVec.toNat_or, Int64.toBitVec_or, BitVec.toNat_or, own_or0, f0, f1, f2]
  refine ⟨own_getN hP k0 e0 hw.1 r0 d0 fun j hj => ?_, own_getN hP k1 ht1 hw.2.1 r1 d1 fun j hj => ?_, own_getN hP k2 ht2 hw.2.2 r2 d2 fun j hj => ?_⟩
  · rw [Nat.testBit_or, Nat.testBit_or, own_bitS, own_bitD r1 (by omega) hj, own_bitD r2 (by omega) hj]; simp
  · rw [Nat.testBit_or, Nat.testBit_or, own_bitS, own_bitD r0 (by omega) hj, own_bitD r2 (by omega) hj]; simp
  · rw [Nat.testBit_or, Nat.testBit_or, own_bitS, own_bitD r0 (by omega) hj, own_bitD r1 (by omega) hj]; simp
theorem own_ss1 {l0 l1 l2 v0 v1 v2 t1 : Int32} {m0 m1 m2 : Int64} {x0 x1 x2 w0 w1 w2 : Nat} (hw : w0 ≤ 32 ∧ w1 ≤ 32 ∧ w2 ≤ 32) (d0 : v0.toInt - l0.toInt = (x0 : Int)) (d1 : v1.toInt - l1.toInt = (x1 : Int)) (d2 : v2.toInt - l2.toInt = (x2 : Int)) (r0 : x0 < 2 ^ w0) (r1 : x1 < 2 ^ w1) (r2 : x2 < 2 ^ w2) (ht1 : t1.toInt = (w0 : Int)) (k0 : m0.toBitVec.toNat = 2 ^ w0 - 1) (k1 : m1.toBitVec.toNat = 2 ^ w1 - 1) (k2 : m2.toBitVec.toNat = 2 ^ w2 - 1) :
    gtS (((0 : Int64) ||| fldS v0 l0 (0 : Int32)) ||| fldS v1 l1 t1) (0 : Int32) m0 l0 = v0 ∧ gtS (((0 : Int64) ||| fldS v0 l0 (0 : Int32)) ||| fldS v1 l1 t1) t1 m1 l1 = v1 ∧ gtS ((0 : Int64) ||| fldS v2 l2 (0 : Int32)) (0 : Int32) m2 l2 = v2 := by
  have e0 : (0 : Int32).toInt = ((0 : Nat) : Int) := rfl
  have f0 := own_fldN d0 r0 e0 (by omega)
  have f1 := own_fldN d1 r1 ht1 (by omega)
  have f2 := own_fldN d2 r2 e0 (by omega)
  have hP : (((0 : Int64) ||| fldS v0 l0 (0 : Int32)) ||| fldS v1 l1 t1).toBitVec.toNat = x0 <<< (0 % 64) ||| x1 <<< (w0 % 64) := by
    rw [Int64.toBitVec_or, BitVec.toNat_or, own_or0, f0, f1]
  have hP2 : ((0 : Int64) ||| fldS v2 l2 (0 : Int32)).toBitVec.toNat = x2 <<< (0 % 64) := by rw [own_or0, f2]
  refine ⟨own_getN hP k0 e0 hw.1 r0 d0 fun j hj => ?_, own_getN hP k1 ht1 hw.2.1 r1 d1 fun j hj => ?_, own_getN hP2 k2 e0 hw.2.2 r2 d2 fun j hj => ?_⟩
  · rw [Nat.testBit_or, own_bitS, own_bitD r1 (by omega) hj]; simp
  · rw [Nat.testBit_or, own_bitS, own_bitD r0 (by omega) hj]; simp
  · rw [own_bitS]
/-- the width of a range -/
theorem own_width {d : Int64} {n : Int32} {R D : Nat} (hd : d.toInt = (D : Int)) (hD : D < 4294967296) (hn : n.toInt = (R : Int)) (hR : Nlz 64 d.toBitVec.toNat R) : ∃ w : Nat, ((64 : Int32) - n).toInt = (w : Int) ∧ w ≤ 32 ∧ D < 2 ^ w := by
  have hu := own_u64 d
  have e : d.toBitVec.toNat = D := by omega
  rw [e] at hR
  refine ⟨64 - R, (subI (x := 64) (a := 64) rfl hn (by have := nlz_le hR; omega) (by have := nlz_le hR; omega)).trans (by have := nlz_le hR; omega), ?_, ?_⟩
  · rcases hR with ⟨q1, q2⟩ | ⟨b, q1, q2, q3⟩
    · omega
    · have : ¬ 32 ≤ b := fun z => by have := Nat.pow_le_pow_right (n := 2) (by decide) z; omega
      omega
  · rcases hR with ⟨q1, q2⟩ | ⟨b, q1, q2, q3⟩
    · subst q1; exact Nat.two_pow_pos _
    · rw [show 64 - R = b + 1 by omega]; exact q3
theorem own_cp1 (f g : Nat → Int64) (i1 i2 j : Nat) : cpF (fun j => .long (f j)) (fun j => .long (g j)) i1 i2 1 j = .long (updJ g i2 (f i1) j) := by
  unfold cpF updJ
  by_cases q : j = i2
  · subst q; rw [if_pos (by omega), if_pos rfl, Nat.sub_self]; rfl
  · rw [if_neg (by omega), if_neg q]
theorem own_cp2 (f g : Nat → Int64) (i1 i2 j : Nat) : cpF (fun j => .long (f j)) (fun j => .long (g j)) i1 i2 2 j = .long (updJ (updJ g i2 (f i1)) (i2 + 1) (f (i1 + 1)) j) := by
  unfold cpF updJ
  by_cases q : j = i2 + 1
  · subst q; rw [if_pos (by omega), if_pos rfl, show i2 + 1 - i2 = 1 by omega]
  · rw [if_neg q]
    by_cases q2 : j = i2
    · subst q2; rw [if_pos (by omega), if_pos rfl, Nat.sub_self]; rfl
    · rw [if_neg (by omega), if_neg q2]
def mnI (x y : Int32) : Int32 := if y < x then y else x
def mxI (x y : Int32) : Int32 := if x < y then y else x
theorem own_set (x y z : Int32) : (mnI x y).toInt ≤ (mxI (mnI x y) (mnI (mxI x y) z)).toInt ∧ (mxI (mnI x y) (mnI (mxI x y) z)).toInt ≤ (mxI x y).toInt := by
  unfold mxI mnI
  simp only [Int32.lt_iff_toInt_lt]
  (repeat' split) <;> omega
theorem own_mid {lo hi v : Int32} (h1 : lo.toInt ≤ v.toInt) (h2 : v.toInt ≤ hi.toInt) : lo.toInt ≤ ((lo.toInt64 + hi.toInt64 - v.toInt64).toInt32).toInt ∧ ((lo.toInt64 + hi.toInt64 - v.toInt64).toInt32).toInt ≤ hi.toInt := by
  have a1 := c_l2i (lo.toInt64 + hi.toInt64 - v.toInt64)
  have a2 := c_lsub (lo.toInt64 + hi.toInt64) v.toInt64
  have a3 := c_ladd lo.toInt64 hi.toInt64
  rw [c_i2l, c_i2l] at a3
  rw [c_i2l] at a2
  have r1 := rng32 lo
  have r2 := rng32 hi
  have r3 := rng32 v
  have r4 := rng32 ((lo.toInt64 + hi.toInt64 - v.toInt64).toInt32)
  have r5 := rng64 (lo.toInt64 + hi.toInt64 - v.toInt64)
  have r6 := rng64 (lo.toInt64 + hi.toInt64)
  omega
theorem own_slot (x : Int64) : ∃ k : Nat, (((x.toUInt64 >>> ((58 : Int32) &&& 0x3f).toInt64.toUInt64).toInt64).toInt32).toInt = (k : Int) ∧ k < 64 := by
  have h1 := own_l2i ((x.toUInt64 >>> ((58 : Int32) &&& 0x3f).toInt64.toUInt64).toInt64)
  rw [own_ushr x 58 58 (by decide), BitVec.toNat_ushiftRight, Nat.shiftRight_eq_div_pow] at h1
  have h2 := own_u32 (((x.toUInt64 >>> ((58 : Int32) &&& 0x3f).toInt64.toUInt64).toInt64).toInt32)
  have h3 := x.toBitVec.isLt
  simp only [Nat.reducePow] at h1 h3
  refine ⟨(((x.toUInt64 >>> ((58 : Int32) &&& 0x3f).toInt64.toUInt64).toInt64).toInt32).toBitVec.toNat, ?_, by omega⟩
  by_cases q : 0 ≤ (((x.toUInt64 >>> ((58 : Int32) &&& 0x3f).toInt64.toUInt64).toInt64).toInt32).toInt
  · exact (h2.1 q).symm
  · have h5 := rng32 (((x.toUInt64 >>> ((58 : Int32) &&& 0x3f).toInt64.toUInt64).toInt64).toInt32); have := h2.2.1 (by omega); omega
theorem own_next {s : Int32} {k : Nat} (h : s.toInt = (k : Int)) (hk : k < 64) : ((s + (1 : Int32)) &&& (63 : Int32)).toInt = (((k + 1) % 64 : Nat) : Int) := by
  have h1 := c_mask (s + 1) 63 6 (by decide) (by decide)
  have h2 := addI h (y := (1 : Int32)) (b := 1) rfl (by omega) (by omega)
  omega
theorem own_mul1 {r : Int32} {k : Nat} (h : r.toInt = (k : Int)) (hk : k ≤ 1) : (r * (1 : Int32)).toInt = ((k * 1 : Nat) : Int) := by
  rw [Int32.toInt_mul, h]; have : (1 : Int32).toInt = 1 := rfl
  rw [this]; exact (Int.bmod_eq_of_le (by omega) (by omega)).trans (by omega)
theorem own_mul2 {r : Int32} {k : Nat} (h : r.toInt = (k : Int)) (hk : k ≤ 1) : (r * (2 : Int32)).toInt = ((k * 2 : Nat) : Int) := by
  rw [Int32.toInt_mul, h]; have : (2 : Int32).toInt = 2 := rfl
  rw [this]; exact (Int.bmod_eq_of_le (by omega) (by omega)).trans (by omega)
theorem own_use0 {l0 l1 l2 h0 h1 h2 v0 v1 v2 t1 t2 : Int32} {m0 m1 m2 : Int64} {D0 D1 D2 w0 w1 w2 : Nat} (b0 : w0 ≤ 32) (b1 : w1 ≤ 32) (b2 : w2 ≤ 32) (r0 : D0 < 2 ^ w0) (r1 : D1 < 2 ^ w1) (r2 : D2 < 2 ^ w2) (ht1 : t1.toInt = (w0 : Int)) (k0 : m0.toBitVec.toNat = 2 ^ w0 - 1) (k1 : m1.toBitVec.toNat = 2 ^ w1 - 1) (k2 : m2.toBitVec.toNat = 2 ^ w2 - 1) (ht2 : t2.toInt = ((w0 + w1 : Nat) : Int)) (hs : w0 + w1 + w2 ≤ 64) (d0 : h0.toInt - l0.toInt = (D0 : Int)) (d1 : h1.toInt - l1.toInt = (D1 : Int)) (d2 : h2.toInt - l2.toInt = (D2 : Int)) (c0 : l0.toInt ≤ v0.toInt) (c0' : v0.toInt ≤ h0.toInt) (c1 : l1.toInt ≤ v1.toInt) (c1' : v1.toInt ≤ h1.toInt) (c2 : l2.toInt ≤ v2.toInt) (c2' : v2.toInt ≤ h2.toInt) :
    gtS ((((0 : Int64) ||| fldS v0 l0 (0 : Int32)) ||| fldS v1 l1 t1) ||| fldS v2 l2 t2) (0 : Int32) m0 l0 = v0 ∧ gtS ((((0 : Int64) ||| fldS v0 l0 (0 : Int32)) ||| fldS v1 l1 t1) ||| fldS v2 l2 t2) t1 m1 l1 = v1 ∧ gtS ((((0 : Int64) ||| fldS v0 l0 (0 : Int32)) ||| fldS v1 l1 t1) ||| fldS v2 l2 t2) t2 m2 l2 = v2 :=
  own_ss0 (l0 := l0) (l1 := l1) (l2 := l2) (v0 := v0) (v1 := v1) (v2 := v2) (x0 := (v0.toInt - l0.toInt).toNat) (x1 := (v1.toInt - l1.toInt).toNat) (x2 := (v2.toInt - l2.toInt).toNat) ⟨b0, b1, b2⟩ hs (by omega) (by omega) (by omega) (by omega) (by omega) (by omega) ht1 ht2 k0 k1 k2
theorem own_use1 {l0 l1 l2 h0 h1 h2 v0 v1 v2 t1 : Int32} {m0 m1 m2 : Int64} {D0 D1 D2 w0 w1 w2 : Nat} (b0 : w0 ≤ 32) (b1 : w1 ≤ 32) (b2 : w2 ≤ 32) (r0 : D0 < 2 ^ w0) (r1 : D1 < 2 ^ w1) (r2 : D2 < 2 ^ w2) (ht1 : t1.toInt = (w0 : Int)) (k0 : m0.toBitVec.toNat = 2 ^ w0 - 1) (k1 : m1.toBitVec.toNat = 2 ^ w1 - 1) (k2 : m2.toBitVec.toNat = 2 ^ w2 - 1) (d0 : h0.toInt - l0.toInt = (D0 : Int)) (d1 : h1.toInt - l1.toInt = (D1 : Int)) (d2 : h2.toInt - l2.toInt = (D2 : Int)) (c0 : l0.toInt ≤ v0.toInt) (c0' : v0.toInt ≤ h0.toInt) (c1 : l1.toInt ≤ v1.toInt) (c1' : v1.toInt ≤ h1.toInt) (c2 : l2.toInt ≤ v2.toInt) (c2' : v2.toInt ≤ h2.toInt) :
    gtS (((0 : Int64) ||| fldS v0 l0 (0 : Int32)) ||| fldS v1 l1 t1) (0 : Int32) m0 l0 = v0 ∧ gtS (((0 : Int64) ||| fldS v0 l0 (0 : Int32)) ||| fldS v1 l1 t1) t1 m1 l1 = v1 ∧ gtS ((0 : Int64) ||| fldS v2 l2 (0 : Int32)) (0 : Int32) m2 l2 = v2 :=
  own_ss1 (l0 := l0) (l1 := l1) (l2 := l2) (v0 := v0) (v1 := v1) (v2 := v2) (x0 := (v0.toInt - l0.toInt).toNat) (x1 := (v1.toInt - l1.toInt).toNat) (x2 := (v2.toInt - l2.toInt).toNat) ⟨b0, b1, b2⟩ (by omega) (by omega) (by omega) (by omega) (by omega) (by omega) ht1 k0 k1 k2

theorem d2_0 : decode jdk_29_method_69_code 0 = .ok (.iload_n 0, 1) := by decide +kernel
theorem d2_1 : decode jdk_29_method_69_code 1 = .ok (.iload_n 1, 1) := by decide +kernel
theorem d2_2 : decode jdk_29_method_69_code 2 = .ok (.if_icmp .gt 7, 3) := by decide +kernel
theorem d2_5 : decode jdk_29_method_69_code 5 = .ok (.iload_n 0, 1) := by decide +kernel
theorem d2_6 : decode jdk_29_method_69_code 6 = .ok (.goto 4, 3) := by decide +kernel
theorem d2_9 : decode jdk_29_method_69_code 9 = .ok (.iload_n 1, 1) := by decide +kernel
theorem d2_10 : decode jdk_29_method_69_code 10 = .ok (.ireturn, 1) := by decide +kernel
theorem ef_2 (m : MethodId) (x0 : Int32) (x1 : Int32) : entryFrame m #[(.int x0), (.int x1)] 2 = mkF m 0 #[.val (.int x0), .val (.int x1)] [] := by first | (simp [entryFrame, mkF, argsToLocals, Value.category]; done) | rfl
set_option maxRecDepth 65536 in
set_option maxHeartbeats 40000000 in
theorem rmMn (l : Launch) (Z : State) (a0 : Array Value) (hw : ∀ d ∈ tables_1, d.before a0 Z = true) (n0 : Nat) (h : Heap) (Z0 : n0 ≤ h.size) (p1 : Int32) (p2 : Int32)  :
    Met1 l Z n0 [] (⟨"java/lang/Math", "min", "(II)I"⟩ : MethodName) jdk_29_method_69_code 2 (some .int) ({ frames := 0, cells := 0, slots := 0, locals := 0 } : Room) #[(.int p1), (.int p2)] h (fun v h' => v = some (.int (mnI p1 p2)) ∧ h = h') := by
  refine met_of (Jvm.Free.JP.mathPlain rfl (by decide +kernel)) Z0 (fun m => ef_2 m p1 p2) ?_
  intro p e s m below meth c T hs0 X
  refine r_iloadN 1 X d2_0 rfl ?_
  refine r_iloadN 2 X d2_1 rfl ?_
  by_cases h2_1 : p2 < p1
  · refine r_icmpY 9 X d2_2 (tlt h2_1).2.2.1 ?_
    refine r_iloadN 10 X d2_9 rfl ?_
    refine r_retI X d2_10 (by decide) (by decide) ?_
    exact ⟨by simp only [mnI, h2_1, if_true, if_false], rfl⟩
  · refine r_icmpN 5 X d2_2 (flt h2_1).2.2.1 ?_
    refine r_iloadN 6 X d2_5 rfl ?_
    refine r_goto 10 X d2_6 ?_
    refine r_retI X d2_10 (by decide) (by decide) ?_
    exact ⟨by simp only [mnI, h2_1, if_true, if_false], rfl⟩
theorem d3_0 : decode jdk_29_method_65_code 0 = .ok (.iload_n 0, 1) := by decide +kernel
theorem d3_1 : decode jdk_29_method_65_code 1 = .ok (.iload_n 1, 1) := by decide +kernel
theorem d3_2 : decode jdk_29_method_65_code 2 = .ok (.if_icmp .lt 7, 3) := by decide +kernel
theorem d3_5 : decode jdk_29_method_65_code 5 = .ok (.iload_n 0, 1) := by decide +kernel
theorem d3_6 : decode jdk_29_method_65_code 6 = .ok (.goto 4, 3) := by decide +kernel
theorem d3_9 : decode jdk_29_method_65_code 9 = .ok (.iload_n 1, 1) := by decide +kernel
theorem d3_10 : decode jdk_29_method_65_code 10 = .ok (.ireturn, 1) := by decide +kernel
theorem ef_3 (m : MethodId) (x0 : Int32) (x1 : Int32) : entryFrame m #[(.int x0), (.int x1)] 2 = mkF m 0 #[.val (.int x0), .val (.int x1)] [] := by first | (simp [entryFrame, mkF, argsToLocals, Value.category]; done) | rfl
set_option maxRecDepth 65536 in
set_option maxHeartbeats 40000000 in
theorem rmMx (l : Launch) (Z : State) (a0 : Array Value) (hw : ∀ d ∈ tables_1, d.before a0 Z = true) (n0 : Nat) (h : Heap) (Z0 : n0 ≤ h.size) (p1 : Int32) (p2 : Int32)  :
    Met1 l Z n0 [] (⟨"java/lang/Math", "max", "(II)I"⟩ : MethodName) jdk_29_method_65_code 2 (some .int) ({ frames := 0, cells := 0, slots := 0, locals := 0 } : Room) #[(.int p1), (.int p2)] h (fun v h' => v = some (.int (mxI p1 p2)) ∧ h = h') := by
  refine met_of (Jvm.Free.JP.mathPlain rfl (by decide +kernel)) Z0 (fun m => ef_3 m p1 p2) ?_
  intro p e s m below meth c T hs0 X
  refine r_iloadN 1 X d3_0 rfl ?_
  refine r_iloadN 2 X d3_1 rfl ?_
  by_cases h2_1 : p1 < p2
  · refine r_icmpY 9 X d3_2 (tlt h2_1).1 ?_
    refine r_iloadN 10 X d3_9 rfl ?_
    refine r_retI X d3_10 (by decide) (by decide) ?_
    exact ⟨by simp only [mxI, h2_1, if_true, if_false], rfl⟩
  · refine r_icmpN 5 X d3_2 (flt h2_1).1 ?_
    refine r_iloadN 6 X d3_5 rfl ?_
    refine r_goto 10 X d3_6 ?_
    refine r_retI X d3_10 (by decide) (by decide) ?_
    exact ⟨by simp only [mxI, h2_1, if_true, if_false], rfl⟩
theorem d1_0 : decode method_3_code 0 = .ok (.lload 5, 2) := by decide +kernel
theorem d1_2 : decode method_3_code 2 = .ok (.bipush 32, 2) := by decide +kernel
theorem d1_4 : decode method_3_code 4 = .ok (.lshr, 1) := by decide +kernel
theorem d1_5 : decode method_3_code 5 = .ok (.l2i, 1) := by decide +kernel
theorem d1_6 : decode method_3_code 6 = .ok (.istore 8, 2) := by decide +kernel
theorem d1_8 : decode method_3_code 8 = .ok (.lload 5, 2) := by decide +kernel
theorem d1_10 : decode method_3_code 10 = .ok (.l2i, 1) := by decide +kernel
theorem d1_11 : decode method_3_code 11 = .ok (.istore 9, 2) := by decide +kernel
theorem d1_13 : decode method_3_code 13 = .ok (.iload 8, 2) := by decide +kernel
theorem d1_15 : decode method_3_code 15 = .ok (.iload 9, 2) := by decide +kernel
theorem d1_17 : decode method_3_code 17 = .ok (.invokestatic 30, 3) := by decide +kernel
theorem d1_20 : decode method_3_code 20 = .ok (.istore 10, 2) := by decide +kernel
theorem d1_22 : decode method_3_code 22 = .ok (.iload 8, 2) := by decide +kernel
theorem d1_24 : decode method_3_code 24 = .ok (.iload 9, 2) := by decide +kernel
theorem d1_26 : decode method_3_code 26 = .ok (.invokestatic 36, 3) := by decide +kernel
theorem d1_29 : decode method_3_code 29 = .ok (.istore 11, 2) := by decide +kernel
theorem d1_31 : decode method_3_code 31 = .ok (.iload 10, 2) := by decide +kernel
theorem d1_33 : decode method_3_code 33 = .ok (.iload 11, 2) := by decide +kernel
theorem d1_35 : decode method_3_code 35 = .ok (.iload 7, 2) := by decide +kernel
theorem d1_37 : decode method_3_code 37 = .ok (.invokestatic 30, 3) := by decide +kernel
theorem d1_40 : decode method_3_code 40 = .ok (.invokestatic 36, 3) := by decide +kernel
theorem d1_43 : decode method_3_code 43 = .ok (.istore 12, 2) := by decide +kernel
theorem d1_45 : decode method_3_code 45 = .ok (.aload_n 0, 1) := by decide +kernel
theorem d1_46 : decode method_3_code 46 = .ok (.iload 4, 2) := by decide +kernel
theorem d1_48 : decode method_3_code 48 = .ok (.iload 10, 2) := by decide +kernel
theorem d1_50 : decode method_3_code 50 = .ok (.iastore, 1) := by decide +kernel
theorem d1_51 : decode method_3_code 51 = .ok (.aload_n 1, 1) := by decide +kernel
theorem d1_52 : decode method_3_code 52 = .ok (.iload 4, 2) := by decide +kernel
theorem d1_54 : decode method_3_code 54 = .ok (.iload 11, 2) := by decide +kernel
theorem d1_56 : decode method_3_code 56 = .ok (.iastore, 1) := by decide +kernel
theorem d1_57 : decode method_3_code 57 = .ok (.aload_n 2, 1) := by decide +kernel
theorem d1_58 : decode method_3_code 58 = .ok (.iload 4, 2) := by decide +kernel
theorem d1_60 : decode method_3_code 60 = .ok (.iload 12, 2) := by decide +kernel
theorem d1_62 : decode method_3_code 62 = .ok (.iastore, 1) := by decide +kernel
theorem d1_63 : decode method_3_code 63 = .ok (.aload_n 3, 1) := by decide +kernel
theorem d1_64 : decode method_3_code 64 = .ok (.iload 4, 2) := by decide +kernel
theorem d1_66 : decode method_3_code 66 = .ok (.iload 10, 2) := by decide +kernel
theorem d1_68 : decode method_3_code 68 = .ok (.i2l, 1) := by decide +kernel
theorem d1_69 : decode method_3_code 69 = .ok (.iload 11, 2) := by decide +kernel
theorem d1_71 : decode method_3_code 71 = .ok (.i2l, 1) := by decide +kernel
theorem d1_72 : decode method_3_code 72 = .ok (.ladd, 1) := by decide +kernel
theorem d1_73 : decode method_3_code 73 = .ok (.iload 12, 2) := by decide +kernel
theorem d1_75 : decode method_3_code 75 = .ok (.i2l, 1) := by decide +kernel
theorem d1_76 : decode method_3_code 76 = .ok (.lsub, 1) := by decide +kernel
theorem d1_77 : decode method_3_code 77 = .ok (.l2i, 1) := by decide +kernel
theorem d1_78 : decode method_3_code 78 = .ok (.iastore, 1) := by decide +kernel
theorem d1_79 : decode method_3_code 79 = .ok (.return_, 1) := by decide +kernel
theorem pn_1 : plainName "com/example/heliotrope/heliotrope/language/StateStoreValuesPinLaw" = true := by first | (simp [plainName, overriddenIn]; done) | decide +kernel
theorem ef_1 (m : MethodId) (x0 : Addr) (x1 : Addr) (x2 : Addr) (x3 : Addr) (x4 : Int32) (x5 : Int64) (x6 : Int32) : entryFrame m #[(.ref x0), (.ref x1), (.ref x2), (.ref x3), (.int x4), (.long x5), (.int x6)] 13 = mkF m 0 #[.val (.ref x0), .val (.ref x1), .val (.ref x2), .val (.ref x3), .val (.int x4), .val (.long x5), .second, .val (.int x6), .unset, .unset, .unset, .unset, .unset] [] := by first | (simp [entryFrame, mkF, argsToLocals, Value.category]; done) | rfl
set_option maxRecDepth 65536 in
set_option maxHeartbeats 40000000 in
theorem rmSet0 (l : Launch) (Z : State) (a0 : Array Value) (hw : ∀ d ∈ tables_1, d.before a0 Z = true) (n0 : Nat) (h : Heap) (Z0 : n0 ≤ h.size) (a1 a2 a3 a4 : Addr) (fa1 fa2 fa3 fa4 : Nat → Int32) (q1 : Int64) (z1 : Int32) (ga1 : n0 ≤ a1) (ga2 : n0 ≤ a2) (ga3 : n0 ≤ a3) (ga4 : n0 ≤ a4) (ne_a1_a2 : a1 ≠ a2) (ne_a1_a3 : a1 ≠ a3) (ne_a1_a4 : a1 ≠ a4) (ne_a2_a3 : a2 ≠ a3) (ne_a2_a4 : a2 ≠ a4) (ne_a3_a4 : a3 ≠ a4) (A_a1 : AF Z h a1 .int 3 (fun j => .int (fa1 j))) (A_a2 : AF Z h a2 .int 3 (fun j => .int (fa2 j))) (A_a3 : AF Z h a3 .int 3 (fun j => .int (fa3 j))) (A_a4 : AF Z h a4 .int 3 (fun j => .int (fa4 j))) :
    Met1 l Z n0 [] (⟨"com/example/heliotrope/heliotrope/language/StateStoreValuesPinLaw", "set", "([I[I[I[IIJI)V"⟩ : MethodName) method_3_code 13 none ({ frames := 1, cells := 0, slots := 0, locals := 14 } : Room) #[(.ref a1), (.ref a2), (.ref a3), (.ref a4), (.int (0 : Int32)), (.long q1), (.int z1)] h (fun v h' => v = none ∧ Keep h h' [a1, a2, a3, a4] ∧ ∃ lo hi x y : Int32, lo.toInt ≤ x.toInt ∧ x.toInt ≤ hi.toInt ∧ lo.toInt ≤ y.toInt ∧ y.toInt ≤ hi.toInt ∧ AF Z h' a1 .int 3 (fun j => .int ((updI fa1 0 lo) j)) ∧ AF Z h' a2 .int 3 (fun j => .int ((updI fa2 0 hi) j)) ∧ AF Z h' a3 .int 3 (fun j => .int ((updI fa3 0 x) j)) ∧ AF Z h' a4 .int 3 (fun j => .int ((updI fa4 0 y) j))) := by
  refine met_of (plainFor_of_name pn_1) Z0 (fun m => ef_1 m a1 a2 a3 a4 (0 : Int32) q1 z1) ?_
  intro p e s m below meth c T hs0 X
  have K := Keep.refl h [a1, a2, a3, a4]
  refine r_lload 2 X d1_0 rfl ?_
  refine r_bipush 4 X (32 : Int32) d1_2 rfl ?_
  refine r_lshr 5 X d1_4 ?_
  refine r_l2i 6 X d1_5 ?_
  refine r_istore 8 X #[.val (.ref a1), .val (.ref a2), .val (.ref a3), .val (.ref a4), .val (.int (0 : Int32)), .val (.long q1), .second, .val (.int z1), .val (.int ((q1 >>> ((32 : Int32) &&& 0x3f).toInt64).toInt32)), .unset, .unset, .unset, .unset] d1_6 rfl ?_
  refine r_lload 10 X d1_8 rfl ?_
  refine r_l2i 11 X d1_10 ?_
  refine r_istore 13 X #[.val (.ref a1), .val (.ref a2), .val (.ref a3), .val (.ref a4), .val (.int (0 : Int32)), .val (.long q1), .second, .val (.int z1), .val (.int ((q1 >>> ((32 : Int32) &&& 0x3f).toInt64).toInt32)), .val (.int (q1.toInt32)), .unset, .unset, .unset] d1_11 rfl ?_
  refine r_iload 15 X d1_13 rfl ?_
  refine r_iload 17 X d1_15 rfl ?_
  refine r_callS 20 X (st := []) (rmMn l Z a0 hw n0 _ X.sz ((q1 >>> ((32 : Int32) &&& 0x3f).toInt64).toInt32) (q1.toInt32)) (hw _ (List.mem_of_getElem? (i := 5) rfl)) (hw _ (List.mem_of_getElem? (i := 6) rfl)) (hw _ (List.mem_of_getElem? (i := 8) rfl)) (hw _ (List.mem_of_getElem? (i := 7) rfl)) (by decide) pd_1 [(.int ((q1 >>> ((32 : Int32) &&& 0x3f).toInt64).toInt32)), (.int (q1.toInt32))] rfl rfl 0 (Nat.le_of_eq rfl) rfl (by decide) (by decide) (by decide) (by decide) d1_17 ?_
  rintro T h1 v1 ⟨rfl, rfl⟩ X
  change Run _ _ _ _ _ _ _ _ [(.int (mnI ((q1 >>> ((32 : Int32) &&& 0x3f).toInt64).toInt32) (q1.toInt32)))]
  refine r_istore 22 X #[.val (.ref a1), .val (.ref a2), .val (.ref a3), .val (.ref a4), .val (.int (0 : Int32)), .val (.long q1), .second, .val (.int z1), .val (.int ((q1 >>> ((32 : Int32) &&& 0x3f).toInt64).toInt32)), .val (.int (q1.toInt32)), .val (.int (mnI ((q1 >>> ((32 : Int32) &&& 0x3f).toInt64).toInt32) (q1.toInt32))), .unset, .unset] d1_20 rfl ?_
  refine r_iload 24 X d1_22 rfl ?_
  refine r_iload 26 X d1_24 rfl ?_
  refine r_callS 29 X (st := []) (rmMx l Z a0 hw n0 _ X.sz ((q1 >>> ((32 : Int32) &&& 0x3f).toInt64).toInt32) (q1.toInt32)) (hw _ (List.mem_of_getElem? (i := 9) rfl)) (hw _ (List.mem_of_getElem? (i := 10) rfl)) (hw _ (List.mem_of_getElem? (i := 11) rfl)) (hw _ (List.mem_of_getElem? (i := 7) rfl)) (by decide) pd_1 [(.int ((q1 >>> ((32 : Int32) &&& 0x3f).toInt64).toInt32)), (.int (q1.toInt32))] rfl rfl 0 (Nat.le_of_eq rfl) rfl (by decide) (by decide) (by decide) (by decide) d1_26 ?_
  rintro T h2 v2 ⟨rfl, rfl⟩ X
  change Run _ _ _ _ _ _ _ _ [(.int (mxI ((q1 >>> ((32 : Int32) &&& 0x3f).toInt64).toInt32) (q1.toInt32)))]
  refine r_istore 31 X #[.val (.ref a1), .val (.ref a2), .val (.ref a3), .val (.ref a4), .val (.int (0 : Int32)), .val (.long q1), .second, .val (.int z1), .val (.int ((q1 >>> ((32 : Int32) &&& 0x3f).toInt64).toInt32)), .val (.int (q1.toInt32)), .val (.int (mnI ((q1 >>> ((32 : Int32) &&& 0x3f).toInt64).toInt32) (q1.toInt32))), .val (.int (mxI ((q1 >>> ((32 : Int32) &&& 0x3f).toInt64).toInt32) (q1.toInt32))), .unset] d1_29 rfl ?_
  refine r_iload 33 X d1_31 rfl ?_
  refine r_iload 35 X d1_33 rfl ?_
  refine r_iload 37 X d1_35 rfl ?_
  refine r_callS 40 X (st := [(.int (mnI ((q1 >>> ((32 : Int32) &&& 0x3f).toInt64).toInt32) (q1.toInt32)))]) (rmMn l Z a0 hw n0 _ X.sz (mxI ((q1 >>> ((32 : Int32) &&& 0x3f).toInt64).toInt32) (q1.toInt32)) z1) (hw _ (List.mem_of_getElem? (i := 5) rfl)) (hw _ (List.mem_of_getElem? (i := 6) rfl)) (hw _ (List.mem_of_getElem? (i := 8) rfl)) (hw _ (List.mem_of_getElem? (i := 7) rfl)) (by decide) pd_1 [(.int (mxI ((q1 >>> ((32 : Int32) &&& 0x3f).toInt64).toInt32) (q1.toInt32))), (.int z1)] rfl rfl 1 (Nat.le_of_eq rfl) rfl (by decide) (by decide) (by decide) (by decide) d1_37 ?_
  rintro T h3 v3 ⟨rfl, rfl⟩ X
  change Run _ _ _ _ _ _ _ _ [(.int (mnI (mxI ((q1 >>> ((32 : Int32) &&& 0x3f).toInt64).toInt32) (q1.toInt32)) z1)), (.int (mnI ((q1 >>> ((32 : Int32) &&& 0x3f).toInt64).toInt32) (q1.toInt32)))]
  refine r_callS 43 X (st := []) (rmMx l Z a0 hw n0 _ X.sz (mnI ((q1 >>> ((32 : Int32) &&& 0x3f).toInt64).toInt32) (q1.toInt32)) (mnI (mxI ((q1 >>> ((32 : Int32) &&& 0x3f).toInt64).toInt32) (q1.toInt32)) z1)) (hw _ (List.mem_of_getElem? (i := 9) rfl)) (hw _ (List.mem_of_getElem? (i := 10) rfl)) (hw _ (List.mem_of_getElem? (i := 11) rfl)) (hw _ (List.mem_of_getElem? (i := 7) rfl)) (by decide) pd_1 [(.int (mnI ((q1 >>> ((32 : Int32) &&& 0x3f).toInt64).toInt32) (q1.toInt32))), (.int (mnI (mxI ((q1 >>> ((32 : Int32) &&& 0x3f).toInt64).toInt32) (q1.toInt32)) z1))] rfl rfl 0 (Nat.le_of_eq rfl) rfl (by decide) (by decide) (by decide) (by decide) d1_40 ?_
  rintro T h4 v4 ⟨rfl, rfl⟩ X
  change Run _ _ _ _ _ _ _ _ [(.int (mxI (mnI ((q1 >>> ((32 : Int32) &&& 0x3f).toInt64).toInt32) (q1.toInt32)) (mnI (mxI ((q1 >>> ((32 : Int32) &&& 0x3f).toInt64).toInt32) (q1.toInt32)) z1)))]
  have hb := own_set ((q1 >>> ((32 : Int32) &&& 0x3f).toInt64).toInt32) (q1.toInt32) z1
  refine r_istore 45 X #[.val (.ref a1), .val (.ref a2), .val (.ref a3), .val (.ref a4), .val (.int (0 : Int32)), .val (.long q1), .second, .val (.int z1), .val (.int ((q1 >>> ((32 : Int32) &&& 0x3f).toInt64).toInt32)), .val (.int (q1.toInt32)), .val (.int (mnI ((q1 >>> ((32 : Int32) &&& 0x3f).toInt64).toInt32) (q1.toInt32))), .val (.int (mxI ((q1 >>> ((32 : Int32) &&& 0x3f).toInt64).toInt32) (q1.toInt32))), .val (.int (mxI (mnI ((q1 >>> ((32 : Int32) &&& 0x3f).toInt64).toInt32) (q1.toInt32)) (mnI (mxI ((q1 >>> ((32 : Int32) &&& 0x3f).toInt64).toInt32) (q1.toInt32)) z1)))] d1_43 rfl ?_
  refine r_aloadN 46 X d1_45 rfl rfl ?_
  refine r_iload 48 X d1_46 rfl ?_
  refine r_iload 50 X d1_48 rfl ?_
  refine r_iastore 51 X A_a1 (i := 0) (v := (.int (mnI ((q1 >>> ((32 : Int32) &&& 0x3f).toInt64).toInt32) (q1.toInt32)))) (by decide) (by decide) rfl ga1 d1_50 ?_
  intro T h5 W5 X
  have K := K.wr W5 (Or.inl (List.mem_of_getElem? (i := 0) rfl))
  have A_a1 := A_a1.setI W5
  have A_a2 := A_a2.other W5 (Ne.symm ne_a1_a2)
  have A_a3 := A_a3.other W5 (Ne.symm ne_a1_a3)
  have A_a4 := A_a4.other W5 (Ne.symm ne_a1_a4)
  refine r_aloadN 52 X d1_51 rfl rfl ?_
  refine r_iload 54 X d1_52 rfl ?_
  refine r_iload 56 X d1_54 rfl ?_
  refine r_iastore 57 X A_a2 (i := 0) (v := (.int (mxI ((q1 >>> ((32 : Int32) &&& 0x3f).toInt64).toInt32) (q1.toInt32)))) (by decide) (by decide) rfl ga2 d1_56 ?_
  intro T h6 W6 X
  have K := K.wr W6 (Or.inl (List.mem_of_getElem? (i := 1) rfl))
  have A_a1 := A_a1.other W6 ne_a1_a2
  have A_a2 := A_a2.setI W6
  have A_a3 := A_a3.other W6 (Ne.symm ne_a2_a3)
  have A_a4 := A_a4.other W6 (Ne.symm ne_a2_a4)
  refine r_aloadN 58 X d1_57 rfl rfl ?_
  refine r_iload 60 X d1_58 rfl ?_
  refine r_iload 62 X d1_60 rfl ?_
  refine r_iastore 63 X A_a3 (i := 0) (v := (.int (mxI (mnI ((q1 >>> ((32 : Int32) &&& 0x3f).toInt64).toInt32) (q1.toInt32)) (mnI (mxI ((q1 >>> ((32 : Int32) &&& 0x3f).toInt64).toInt32) (q1.toInt32)) z1)))) (by decide) (by decide) rfl ga3 d1_62 ?_
  intro T h7 W7 X
  have K := K.wr W7 (Or.inl (List.mem_of_getElem? (i := 2) rfl))
  have A_a1 := A_a1.other W7 ne_a1_a3
  have A_a2 := A_a2.other W7 ne_a2_a3
  have A_a3 := A_a3.setI W7
  have A_a4 := A_a4.other W7 (Ne.symm ne_a3_a4)
  refine r_aloadN 64 X d1_63 rfl rfl ?_
  refine r_iload 66 X d1_64 rfl ?_
  refine r_iload 68 X d1_66 rfl ?_
  refine r_i2l 69 X d1_68 ?_
  refine r_iload 71 X d1_69 rfl ?_
  refine r_i2l 72 X d1_71 ?_
  refine r_ladd 73 X d1_72 ?_
  refine r_iload 75 X d1_73 rfl ?_
  refine r_i2l 76 X d1_75 ?_
  refine r_lsub 77 X d1_76 ?_
  refine r_l2i 78 X d1_77 ?_
  have hm := own_mid hb.1 hb.2
  refine r_iastore 79 X A_a4 (i := 0) (v := (.int (((((mnI ((q1 >>> ((32 : Int32) &&& 0x3f).toInt64).toInt32) (q1.toInt32)).toInt64) + ((mxI ((q1 >>> ((32 : Int32) &&& 0x3f).toInt64).toInt32) (q1.toInt32)).toInt64)) - ((mxI (mnI ((q1 >>> ((32 : Int32) &&& 0x3f).toInt64).toInt32) (q1.toInt32)) (mnI (mxI ((q1 >>> ((32 : Int32) &&& 0x3f).toInt64).toInt32) (q1.toInt32)) z1)).toInt64)).toInt32))) (by decide) (by decide) rfl ga4 d1_78 ?_
  intro T h8 W8 X
  have K := K.wr W8 (Or.inl (List.mem_of_getElem? (i := 3) rfl))
  have A_a1 := A_a1.other W8 ne_a1_a4
  have A_a2 := A_a2.other W8 ne_a2_a4
  have A_a3 := A_a3.other W8 ne_a3_a4
  have A_a4 := A_a4.setI W8
  refine r_retV X d1_79 (by decide) (by decide) ?_
  exact ⟨rfl, K, _, _, _, _, hb.1, hb.2, hm.1, hm.2, A_a1, A_a2, A_a3, A_a4⟩
set_option maxRecDepth 65536 in
set_option maxHeartbeats 40000000 in
theorem rmSet1 (l : Launch) (Z : State) (a0 : Array Value) (hw : ∀ d ∈ tables_1, d.before a0 Z = true) (n0 : Nat) (h : Heap) (Z0 : n0 ≤ h.size) (a1 a2 a3 a4 : Addr) (fa1 fa2 fa3 fa4 : Nat → Int32) (q1 : Int64) (z1 : Int32) (ga1 : n0 ≤ a1) (ga2 : n0 ≤ a2) (ga3 : n0 ≤ a3) (ga4 : n0 ≤ a4) (ne_a1_a2 : a1 ≠ a2) (ne_a1_a3 : a1 ≠ a3) (ne_a1_a4 : a1 ≠ a4) (ne_a2_a3 : a2 ≠ a3) (ne_a2_a4 : a2 ≠ a4) (ne_a3_a4 : a3 ≠ a4) (A_a1 : AF Z h a1 .int 3 (fun j => .int (fa1 j))) (A_a2 : AF Z h a2 .int 3 (fun j => .int (fa2 j))) (A_a3 : AF Z h a3 .int 3 (fun j => .int (fa3 j))) (A_a4 : AF Z h a4 .int 3 (fun j => .int (fa4 j))) :
    Met1 l Z n0 [] (⟨"com/example/heliotrope/heliotrope/language/StateStoreValuesPinLaw", "set", "([I[I[I[IIJI)V"⟩ : MethodName) method_3_code 13 none ({ frames := 1, cells := 0, slots := 0, locals := 14 } : Room) #[(.ref a1), (.ref a2), (.ref a3), (.ref a4), (.int (1 : Int32)), (.long q1), (.int z1)] h (fun v h' => v = none ∧ Keep h h' [a1, a2, a3, a4] ∧ ∃ lo hi x y : Int32, lo.toInt ≤ x.toInt ∧ x.toInt ≤ hi.toInt ∧ lo.toInt ≤ y.toInt ∧ y.toInt ≤ hi.toInt ∧ AF Z h' a1 .int 3 (fun j => .int ((updI fa1 1 lo) j)) ∧ AF Z h' a2 .int 3 (fun j => .int ((updI fa2 1 hi) j)) ∧ AF Z h' a3 .int 3 (fun j => .int ((updI fa3 1 x) j)) ∧ AF Z h' a4 .int 3 (fun j => .int ((updI fa4 1 y) j))) := by
  refine met_of (plainFor_of_name pn_1) Z0 (fun m => ef_1 m a1 a2 a3 a4 (1 : Int32) q1 z1) ?_
  intro p e s m below meth c T hs0 X
  have K := Keep.refl h [a1, a2, a3, a4]
  refine r_lload 2 X d1_0 rfl ?_
  refine r_bipush 4 X (32 : Int32) d1_2 rfl ?_
  refine r_lshr 5 X d1_4 ?_
  refine r_l2i 6 X d1_5 ?_
  refine r_istore 8 X #[.val (.ref a1), .val (.ref a2), .val (.ref a3), .val (.ref a4), .val (.int (1 : Int32)), .val (.long q1), .second, .val (.int z1), .val (.int ((q1 >>> ((32 : Int32) &&& 0x3f).toInt64).toInt32)), .unset, .unset, .unset, .unset] d1_6 rfl ?_
  refine r_lload 10 X d1_8 rfl ?_
  refine r_l2i 11 X d1_10 ?_
  refine r_istore 13 X #[.val (.ref a1), .val (.ref a2), .val (.ref a3), .val (.ref a4), .val (.int (1 : Int32)), .val (.long q1), .second, .val (.int z1), .val (.int ((q1 >>> ((32 : Int32) &&& 0x3f).toInt64).toInt32)), .val (.int (q1.toInt32)), .unset, .unset, .unset] d1_11 rfl ?_
  refine r_iload 15 X d1_13 rfl ?_
  refine r_iload 17 X d1_15 rfl ?_
  refine r_callS 20 X (st := []) (rmMn l Z a0 hw n0 _ X.sz ((q1 >>> ((32 : Int32) &&& 0x3f).toInt64).toInt32) (q1.toInt32)) (hw _ (List.mem_of_getElem? (i := 5) rfl)) (hw _ (List.mem_of_getElem? (i := 6) rfl)) (hw _ (List.mem_of_getElem? (i := 8) rfl)) (hw _ (List.mem_of_getElem? (i := 7) rfl)) (by decide) pd_1 [(.int ((q1 >>> ((32 : Int32) &&& 0x3f).toInt64).toInt32)), (.int (q1.toInt32))] rfl rfl 0 (Nat.le_of_eq rfl) rfl (by decide) (by decide) (by decide) (by decide) d1_17 ?_
  rintro T h1 v1 ⟨rfl, rfl⟩ X
  change Run _ _ _ _ _ _ _ _ [(.int (mnI ((q1 >>> ((32 : Int32) &&& 0x3f).toInt64).toInt32) (q1.toInt32)))]
  refine r_istore 22 X #[.val (.ref a1), .val (.ref a2), .val (.ref a3), .val (.ref a4), .val (.int (1 : Int32)), .val (.long q1), .second, .val (.int z1), .val (.int ((q1 >>> ((32 : Int32) &&& 0x3f).toInt64).toInt32)), .val (.int (q1.toInt32)), .val (.int (mnI ((q1 >>> ((32 : Int32) &&& 0x3f).toInt64).toInt32) (q1.toInt32))), .unset, .unset] d1_20 rfl ?_
  refine r_iload 24 X d1_22 rfl ?_
  refine r_iload 26 X d1_24 rfl ?_
  refine r_callS 29 X (st := []) (rmMx l Z a0 hw n0 _ X.sz ((q1 >>> ((32 : Int32) &&& 0x3f).toInt64).toInt32) (q1.toInt32)) (hw _ (List.mem_of_getElem? (i := 9) rfl)) (hw _ (List.mem_of_getElem? (i := 10) rfl)) (hw _ (List.mem_of_getElem? (i := 11) rfl)) (hw _ (List.mem_of_getElem? (i := 7) rfl)) (by decide) pd_1 [(.int ((q1 >>> ((32 : Int32) &&& 0x3f).toInt64).toInt32)), (.int (q1.toInt32))] rfl rfl 0 (Nat.le_of_eq rfl) rfl (by decide) (by decide) (by decide) (by decide) d1_26 ?_
  rintro T h2 v2 ⟨rfl, rfl⟩ X
  change Run _ _ _ _ _ _ _ _ [(.int (mxI ((q1 >>> ((32 : Int32) &&& 0x3f).toInt64).toInt32) (q1.toInt32)))]
  refine r_istore 31 X #[.val (.ref a1), .val (.ref a2), .val (.ref a3), .val (.ref a4), .val (.int (1 : Int32)), .val (.long q1), .second, .val (.int z1), .val (.int ((q1 >>> ((32 : Int32) &&& 0x3f).toInt64).toInt32)), .val (.int (q1.toInt32)), .val (.int (mnI ((q1 >>> ((32 : Int32) &&& 0x3f).toInt64).toInt32) (q1.toInt32))), .val (.int (mxI ((q1 >>> ((32 : Int32) &&& 0x3f).toInt64).toInt32) (q1.toInt32))), .unset] d1_29 rfl ?_
  refine r_iload 33 X d1_31 rfl ?_
  refine r_iload 35 X d1_33 rfl ?_
  refine r_iload 37 X d1_35 rfl ?_
  refine r_callS 40 X (st := [(.int (mnI ((q1 >>> ((32 : Int32) &&& 0x3f).toInt64).toInt32) (q1.toInt32)))]) (rmMn l Z a0 hw n0 _ X.sz (mxI ((q1 >>> ((32 : Int32) &&& 0x3f).toInt64).toInt32) (q1.toInt32)) z1) (hw _ (List.mem_of_getElem? (i := 5) rfl)) (hw _ (List.mem_of_getElem? (i := 6) rfl)) (hw _ (List.mem_of_getElem? (i := 8) rfl)) (hw _ (List.mem_of_getElem? (i := 7) rfl)) (by decide) pd_1 [(.int (mxI ((q1 >>> ((32 : Int32) &&& 0x3f).toInt64).toInt32) (q1.toInt32))), (.int z1)] rfl rfl 1 (Nat.le_of_eq rfl) rfl (by decide) (by decide) (by decide) (by decide) d1_37 ?_
  rintro T h3 v3 ⟨rfl, rfl⟩ X
  change Run _ _ _ _ _ _ _ _ [(.int (mnI (mxI ((q1 >>> ((32 : Int32) &&& 0x3f).toInt64).toInt32) (q1.toInt32)) z1)), (.int (mnI ((q1 >>> ((32 : Int32) &&& 0x3f).toInt64).toInt32) (q1.toInt32)))]
  refine r_callS 43 X (st := []) (rmMx l Z a0 hw n0 _ X.sz (mnI ((q1 >>> ((32 : Int32) &&& 0x3f).toInt64).toInt32) (q1.toInt32)) (mnI (mxI ((q1 >>> ((32 : Int32) &&& 0x3f).toInt64).toInt32) (q1.toInt32)) z1)) (hw _ (List.mem_of_getElem? (i := 9) rfl)) (hw _ (List.mem_of_getElem? (i := 10) rfl)) (hw _ (List.mem_of_getElem? (i := 11) rfl)) (hw _ (List.mem_of_getElem? (i := 7) rfl)) (by decide) pd_1 [(.int (mnI ((q1 >>> ((32 : Int32) &&& 0x3f).toInt64).toInt32) (q1.toInt32))), (.int (mnI (mxI ((q1 >>> ((32 : Int32) &&& 0x3f).toInt64).toInt32) (q1.toInt32)) z1))] rfl rfl 0 (Nat.le_of_eq rfl) rfl (by decide) (by decide) (by decide) (by decide) d1_40 ?_
  rintro T h4 v4 ⟨rfl, rfl⟩ X
  change Run _ _ _ _ _ _ _ _ [(.int (mxI (mnI ((q1 >>> ((32 : Int32) &&& 0x3f).toInt64).toInt32) (q1.toInt32)) (mnI (mxI ((q1 >>> ((32 : Int32) &&& 0x3f).toInt64).toInt32) (q1.toInt32)) z1)))]
  have hb := own_set ((q1 >>> ((32 : Int32) &&& 0x3f).toInt64).toInt32) (q1.toInt32) z1
  refine r_istore 45 X #[.val (.ref a1), .val (.ref a2), .val (.ref a3), .val (.ref a4), .val (.int (1 : Int32)), .val (.long q1), .second, .val (.int z1), .val (.int ((q1 >>> ((32 : Int32) &&& 0x3f).toInt64).toInt32)), .val (.int (q1.toInt32)), .val (.int (mnI ((q1 >>> ((32 : Int32) &&& 0x3f).toInt64).toInt32) (q1.toInt32))), .val (.int (mxI ((q1 >>> ((32 : Int32) &&& 0x3f).toInt64).toInt32) (q1.toInt32))), .val (.int (mxI (mnI ((q1 >>> ((32 : Int32) &&& 0x3f).toInt64).toInt32) (q1.toInt32)) (mnI (mxI ((q1 >>> ((32 : Int32) &&& 0x3f).toInt64).toInt32) (q1.toInt32)) z1)))] d1_43 rfl ?_
  refine r_aloadN 46 X d1_45 rfl rfl ?_
  refine r_iload 48 X d1_46 rfl ?_
  refine r_iload 50 X d1_48 rfl ?_
  refine r_iastore 51 X A_a1 (i := 1) (v := (.int (mnI ((q1 >>> ((32 : Int32) &&& 0x3f).toInt64).toInt32) (q1.toInt32)))) (by decide) (by decide) rfl ga1 d1_50 ?_
  intro T h5 W5 X
  have K := K.wr W5 (Or.inl (List.mem_of_getElem? (i := 0) rfl))
  have A_a1 := A_a1.setI W5
  have A_a2 := A_a2.other W5 (Ne.symm ne_a1_a2)
  have A_a3 := A_a3.other W5 (Ne.symm ne_a1_a3)
  have A_a4 := A_a4.other W5 (Ne.symm ne_a1_a4)
  refine r_aloadN 52 X d1_51 rfl rfl ?_
  refine r_iload 54 X d1_52 rfl ?_
  refine r_iload 56 X d1_54 rfl ?_
  refine r_iastore 57 X A_a2 (i := 1) (v := (.int (mxI ((q1 >>> ((32 : Int32) &&& 0x3f).toInt64).toInt32) (q1.toInt32)))) (by decide) (by decide) rfl ga2 d1_56 ?_
  intro T h6 W6 X
  have K := K.wr W6 (Or.inl (List.mem_of_getElem? (i := 1) rfl))
  have A_a1 := A_a1.other W6 ne_a1_a2
  have A_a2 := A_a2.setI W6
  have A_a3 := A_a3.other W6 (Ne.symm ne_a2_a3)
  have A_a4 := A_a4.other W6 (Ne.symm ne_a2_a4)
  refine r_aloadN 58 X d1_57 rfl rfl ?_
  refine r_iload 60 X d1_58 rfl ?_
  refine r_iload 62 X d1_60 rfl ?_
  refine r_iastore 63 X A_a3 (i := 1) (v := (.int (mxI (mnI ((q1 >>> ((32 : Int32) &&& 0x3f).toInt64).toInt32) (q1.toInt32)) (mnI (mxI ((q1 >>> ((32 : Int32) &&& 0x3f).toInt64).toInt32) (q1.toInt32)) z1)))) (by decide) (by decide) rfl ga3 d1_62 ?_
  intro T h7 W7 X
  have K := K.wr W7 (Or.inl (List.mem_of_getElem? (i := 2) rfl))
  have A_a1 := A_a1.other W7 ne_a1_a3
  have A_a2 := A_a2.other W7 ne_a2_a3
  have A_a3 := A_a3.setI W7
  have A_a4 := A_a4.other W7 (Ne.symm ne_a3_a4)
  refine r_aloadN 64 X d1_63 rfl rfl ?_
  refine r_iload 66 X d1_64 rfl ?_
  refine r_iload 68 X d1_66 rfl ?_
  refine r_i2l 69 X d1_68 ?_
  refine r_iload 71 X d1_69 rfl ?_
  refine r_i2l 72 X d1_71 ?_
  refine r_ladd 73 X d1_72 ?_
  refine r_iload 75 X d1_73 rfl ?_
  refine r_i2l 76 X d1_75 ?_
  refine r_lsub 77 X d1_76 ?_
  refine r_l2i 78 X d1_77 ?_
  have hm := own_mid hb.1 hb.2
  refine r_iastore 79 X A_a4 (i := 1) (v := (.int (((((mnI ((q1 >>> ((32 : Int32) &&& 0x3f).toInt64).toInt32) (q1.toInt32)).toInt64) + ((mxI ((q1 >>> ((32 : Int32) &&& 0x3f).toInt64).toInt32) (q1.toInt32)).toInt64)) - ((mxI (mnI ((q1 >>> ((32 : Int32) &&& 0x3f).toInt64).toInt32) (q1.toInt32)) (mnI (mxI ((q1 >>> ((32 : Int32) &&& 0x3f).toInt64).toInt32) (q1.toInt32)) z1)).toInt64)).toInt32))) (by decide) (by decide) rfl ga4 d1_78 ?_
  intro T h8 W8 X
  have K := K.wr W8 (Or.inl (List.mem_of_getElem? (i := 3) rfl))
  have A_a1 := A_a1.other W8 ne_a1_a4
  have A_a2 := A_a2.other W8 ne_a2_a4
  have A_a3 := A_a3.other W8 ne_a3_a4
  have A_a4 := A_a4.setI W8
  refine r_retV X d1_79 (by decide) (by decide) ?_
  exact ⟨rfl, K, _, _, _, _, hb.1, hb.2, hm.1, hm.2, A_a1, A_a2, A_a3, A_a4⟩
set_option maxRecDepth 65536 in
set_option maxHeartbeats 40000000 in
theorem rmSet2 (l : Launch) (Z : State) (a0 : Array Value) (hw : ∀ d ∈ tables_1, d.before a0 Z = true) (n0 : Nat) (h : Heap) (Z0 : n0 ≤ h.size) (a1 a2 a3 a4 : Addr) (fa1 fa2 fa3 fa4 : Nat → Int32) (q1 : Int64) (z1 : Int32) (ga1 : n0 ≤ a1) (ga2 : n0 ≤ a2) (ga3 : n0 ≤ a3) (ga4 : n0 ≤ a4) (ne_a1_a2 : a1 ≠ a2) (ne_a1_a3 : a1 ≠ a3) (ne_a1_a4 : a1 ≠ a4) (ne_a2_a3 : a2 ≠ a3) (ne_a2_a4 : a2 ≠ a4) (ne_a3_a4 : a3 ≠ a4) (A_a1 : AF Z h a1 .int 3 (fun j => .int (fa1 j))) (A_a2 : AF Z h a2 .int 3 (fun j => .int (fa2 j))) (A_a3 : AF Z h a3 .int 3 (fun j => .int (fa3 j))) (A_a4 : AF Z h a4 .int 3 (fun j => .int (fa4 j))) :
    Met1 l Z n0 [] (⟨"com/example/heliotrope/heliotrope/language/StateStoreValuesPinLaw", "set", "([I[I[I[IIJI)V"⟩ : MethodName) method_3_code 13 none ({ frames := 1, cells := 0, slots := 0, locals := 14 } : Room) #[(.ref a1), (.ref a2), (.ref a3), (.ref a4), (.int (2 : Int32)), (.long q1), (.int z1)] h (fun v h' => v = none ∧ Keep h h' [a1, a2, a3, a4] ∧ ∃ lo hi x y : Int32, lo.toInt ≤ x.toInt ∧ x.toInt ≤ hi.toInt ∧ lo.toInt ≤ y.toInt ∧ y.toInt ≤ hi.toInt ∧ AF Z h' a1 .int 3 (fun j => .int ((updI fa1 2 lo) j)) ∧ AF Z h' a2 .int 3 (fun j => .int ((updI fa2 2 hi) j)) ∧ AF Z h' a3 .int 3 (fun j => .int ((updI fa3 2 x) j)) ∧ AF Z h' a4 .int 3 (fun j => .int ((updI fa4 2 y) j))) := by
  refine met_of (plainFor_of_name pn_1) Z0 (fun m => ef_1 m a1 a2 a3 a4 (2 : Int32) q1 z1) ?_
  intro p e s m below meth c T hs0 X
  have K := Keep.refl h [a1, a2, a3, a4]
  refine r_lload 2 X d1_0 rfl ?_
  refine r_bipush 4 X (32 : Int32) d1_2 rfl ?_
  refine r_lshr 5 X d1_4 ?_
  refine r_l2i 6 X d1_5 ?_
  refine r_istore 8 X #[.val (.ref a1), .val (.ref a2), .val (.ref a3), .val (.ref a4), .val (.int (2 : Int32)), .val (.long q1), .second, .val (.int z1), .val (.int ((q1 >>> ((32 : Int32) &&& 0x3f).toInt64).toInt32)), .unset, .unset, .unset, .unset] d1_6 rfl ?_
  refine r_lload 10 X d1_8 rfl ?_
  refine r_l2i 11 X d1_10 ?_
  refine r_istore 13 X #[.val (.ref a1), .val (.ref a2), .val (.ref a3), .val (.ref a4), .val (.int (2 : Int32)), .val (.long q1), .second, .val (.int z1), .val (.int ((q1 >>> ((32 : Int32) &&& 0x3f).toInt64).toInt32)), .val (.int (q1.toInt32)), .unset, .unset, .unset] d1_11 rfl ?_
  refine r_iload 15 X d1_13 rfl ?_
  refine r_iload 17 X d1_15 rfl ?_
  refine r_callS 20 X (st := []) (rmMn l Z a0 hw n0 _ X.sz ((q1 >>> ((32 : Int32) &&& 0x3f).toInt64).toInt32) (q1.toInt32)) (hw _ (List.mem_of_getElem? (i := 5) rfl)) (hw _ (List.mem_of_getElem? (i := 6) rfl)) (hw _ (List.mem_of_getElem? (i := 8) rfl)) (hw _ (List.mem_of_getElem? (i := 7) rfl)) (by decide) pd_1 [(.int ((q1 >>> ((32 : Int32) &&& 0x3f).toInt64).toInt32)), (.int (q1.toInt32))] rfl rfl 0 (Nat.le_of_eq rfl) rfl (by decide) (by decide) (by decide) (by decide) d1_17 ?_
  rintro T h1 v1 ⟨rfl, rfl⟩ X
  change Run _ _ _ _ _ _ _ _ [(.int (mnI ((q1 >>> ((32 : Int32) &&& 0x3f).toInt64).toInt32) (q1.toInt32)))]
  refine r_istore 22 X #[.val (.ref a1), .val (.ref a2), .val (.ref a3), .val (.ref a4), .val (.int (2 : Int32)), .val (.long q1), .second, .val (.int z1), .val (.int ((q1 >>> ((32 : Int32) &&& 0x3f).toInt64).toInt32)), .val (.int (q1.toInt32)), .val (.int (mnI ((q1 >>> ((32 : Int32) &&& 0x3f).toInt64).toInt32) (q1.toInt32))), .unset, .unset] d1_20 rfl ?_
  refine r_iload 24 X d1_22 rfl ?_
  refine r_iload 26 X d1_24 rfl ?_
  refine r_callS 29 X (st := []) (rmMx l Z a0 hw n0 _ X.sz ((q1 >>> ((32 : Int32) &&& 0x3f).toInt64).toInt32) (q1.toInt32)) (hw _ (List.mem_of_getElem? (i := 9) rfl)) (hw _ (List.mem_of_getElem? (i := 10) rfl)) (hw _ (List.mem_of_getElem? (i := 11) rfl)) (hw _ (List.mem_of_getElem? (i := 7) rfl)) (by decide) pd_1 [(.int ((q1 >>> ((32 : Int32) &&& 0x3f).toInt64).toInt32)), (.int (q1.toInt32))] rfl rfl 0 (Nat.le_of_eq rfl) rfl (by decide) (by decide) (by decide) (by decide) d1_26 ?_
  rintro T h2 v2 ⟨rfl, rfl⟩ X
  change Run _ _ _ _ _ _ _ _ [(.int (mxI ((q1 >>> ((32 : Int32) &&& 0x3f).toInt64).toInt32) (q1.toInt32)))]
  refine r_istore 31 X #[.val (.ref a1), .val (.ref a2), .val (.ref a3), .val (.ref a4), .val (.int (2 : Int32)), .val (.long q1), .second, .val (.int z1), .val (.int ((q1 >>> ((32 : Int32) &&& 0x3f).toInt64).toInt32)), .val (.int (q1.toInt32)), .val (.int (mnI ((q1 >>> ((32 : Int32) &&& 0x3f).toInt64).toInt32) (q1.toInt32))), .val (.int (mxI ((q1 >>> ((32 : Int32) &&& 0x3f).toInt64).toInt32) (q1.toInt32))), .unset] d1_29 rfl ?_
  refine r_iload 33 X d1_31 rfl ?_
  refine r_iload 35 X d1_33 rfl ?_
  refine r_iload 37 X d1_35 rfl ?_
  refine r_callS 40 X (st := [(.int (mnI ((q1 >>> ((32 : Int32) &&& 0x3f).toInt64).toInt32) (q1.toInt32)))]) (rmMn l Z a0 hw n0 _ X.sz (mxI ((q1 >>> ((32 : Int32) &&& 0x3f).toInt64).toInt32) (q1.toInt32)) z1) (hw _ (List.mem_of_getElem? (i := 5) rfl)) (hw _ (List.mem_of_getElem? (i := 6) rfl)) (hw _ (List.mem_of_getElem? (i := 8) rfl)) (hw _ (List.mem_of_getElem? (i := 7) rfl)) (by decide) pd_1 [(.int (mxI ((q1 >>> ((32 : Int32) &&& 0x3f).toInt64).toInt32) (q1.toInt32))), (.int z1)] rfl rfl 1 (Nat.le_of_eq rfl) rfl (by decide) (by decide) (by decide) (by decide) d1_37 ?_
  rintro T h3 v3 ⟨rfl, rfl⟩ X
  change Run _ _ _ _ _ _ _ _ [(.int (mnI (mxI ((q1 >>> ((32 : Int32) &&& 0x3f).toInt64).toInt32) (q1.toInt32)) z1)), (.int (mnI ((q1 >>> ((32 : Int32) &&& 0x3f).toInt64).toInt32) (q1.toInt32)))]
  refine r_callS 43 X (st := []) (rmMx l Z a0 hw n0 _ X.sz (mnI ((q1 >>> ((32 : Int32) &&& 0x3f).toInt64).toInt32) (q1.toInt32)) (mnI (mxI ((q1 >>> ((32 : Int32) &&& 0x3f).toInt64).toInt32) (q1.toInt32)) z1)) (hw _ (List.mem_of_getElem? (i := 9) rfl)) (hw _ (List.mem_of_getElem? (i := 10) rfl)) (hw _ (List.mem_of_getElem? (i := 11) rfl)) (hw _ (List.mem_of_getElem? (i := 7) rfl)) (by decide) pd_1 [(.int (mnI ((q1 >>> ((32 : Int32) &&& 0x3f).toInt64).toInt32) (q1.toInt32))), (.int (mnI (mxI ((q1 >>> ((32 : Int32) &&& 0x3f).toInt64).toInt32) (q1.toInt32)) z1))] rfl rfl 0 (Nat.le_of_eq rfl) rfl (by decide) (by decide) (by decide) (by decide) d1_40 ?_
  rintro T h4 v4 ⟨rfl, rfl⟩ X
  change Run _ _ _ _ _ _ _ _ [(.int (mxI (mnI ((q1 >>> ((32 : Int32) &&& 0x3f).toInt64).toInt32) (q1.toInt32)) (mnI (mxI ((q1 >>> ((32 : Int32) &&& 0x3f).toInt64).toInt32) (q1.toInt32)) z1)))]
  have hb := own_set ((q1 >>> ((32 : Int32) &&& 0x3f).toInt64).toInt32) (q1.toInt32) z1
  refine r_istore 45 X #[.val (.ref a1), .val (.ref a2), .val (.ref a3), .val (.ref a4), .val (.int (2 : Int32)), .val (.long q1), .second, .val (.int z1), .val (.int ((q1 >>> ((32 : Int32) &&& 0x3f).toInt64).toInt32)), .val (.int (q1.toInt32)), .val (.int (mnI ((q1 >>> ((32 : Int32) &&& 0x3f).toInt64).toInt32) (q1.toInt32))), .val (.int (mxI ((q1 >>> ((32 : Int32) &&& 0x3f).toInt64).toInt32) (q1.toInt32))), .val (.int (mxI (mnI ((q1 >>> ((32 : Int32) &&& 0x3f).toInt64).toInt32) (q1.toInt32)) (mnI (mxI ((q1 >>> ((32 : Int32) &&& 0x3f).toInt64).toInt32) (q1.toInt32)) z1)))] d1_43 rfl ?_
  refine r_aloadN 46 X d1_45 rfl rfl ?_
  refine r_iload 48 X d1_46 rfl ?_
  refine r_iload 50 X d1_48 rfl ?_
  refine r_iastore 51 X A_a1 (i := 2) (v := (.int (mnI ((q1 >>> ((32 : Int32) &&& 0x3f).toInt64).toInt32) (q1.toInt32)))) (by decide) (by decide) rfl ga1 d1_50 ?_
  intro T h5 W5 X
  have K := K.wr W5 (Or.inl (List.mem_of_getElem? (i := 0) rfl))
  have A_a1 := A_a1.setI W5
  have A_a2 := A_a2.other W5 (Ne.symm ne_a1_a2)
  have A_a3 := A_a3.other W5 (Ne.symm ne_a1_a3)
  have A_a4 := A_a4.other W5 (Ne.symm ne_a1_a4)
  refine r_aloadN 52 X d1_51 rfl rfl ?_
  refine r_iload 54 X d1_52 rfl ?_
  refine r_iload 56 X d1_54 rfl ?_
  refine r_iastore 57 X A_a2 (i := 2) (v := (.int (mxI ((q1 >>> ((32 : Int32) &&& 0x3f).toInt64).toInt32) (q1.toInt32)))) (by decide) (by decide) rfl ga2 d1_56 ?_
  intro T h6 W6 X
  have K := K.wr W6 (Or.inl (List.mem_of_getElem? (i := 1) rfl))
  have A_a1 := A_a1.other W6 ne_a1_a2
  have A_a2 := A_a2.setI W6
  have A_a3 := A_a3.other W6 (Ne.symm ne_a2_a3)
  have A_a4 := A_a4.other W6 (Ne.symm ne_a2_a4)
  refine r_aloadN 58 X d1_57 rfl rfl ?_
  refine r_iload 60 X d1_58 rfl ?_
  refine r_iload 62 X d1_60 rfl ?_
  refine r_iastore 63 X A_a3 (i := 2) (v := (.int (mxI (mnI ((q1 >>> ((32 : Int32) &&& 0x3f).toInt64).toInt32) (q1.toInt32)) (mnI (mxI ((q1 >>> ((32 : Int32) &&& 0x3f).toInt64).toInt32) (q1.toInt32)) z1)))) (by decide) (by decide) rfl ga3 d1_62 ?_
  intro T h7 W7 X
  have K := K.wr W7 (Or.inl (List.mem_of_getElem? (i := 2) rfl))
  have A_a1 := A_a1.other W7 ne_a1_a3
  have A_a2 := A_a2.other W7 ne_a2_a3
  have A_a3 := A_a3.setI W7
  have A_a4 := A_a4.other W7 (Ne.symm ne_a3_a4)
  refine r_aloadN 64 X d1_63 rfl rfl ?_
  refine r_iload 66 X d1_64 rfl ?_
  refine r_iload 68 X d1_66 rfl ?_
  refine r_i2l 69 X d1_68 ?_
  refine r_iload 71 X d1_69 rfl ?_
  refine r_i2l 72 X d1_71 ?_
  refine r_ladd 73 X d1_72 ?_
  refine r_iload 75 X d1_73 rfl ?_
  refine r_i2l 76 X d1_75 ?_
  refine r_lsub 77 X d1_76 ?_
  refine r_l2i 78 X d1_77 ?_
  have hm := own_mid hb.1 hb.2
  refine r_iastore 79 X A_a4 (i := 2) (v := (.int (((((mnI ((q1 >>> ((32 : Int32) &&& 0x3f).toInt64).toInt32) (q1.toInt32)).toInt64) + ((mxI ((q1 >>> ((32 : Int32) &&& 0x3f).toInt64).toInt32) (q1.toInt32)).toInt64)) - ((mxI (mnI ((q1 >>> ((32 : Int32) &&& 0x3f).toInt64).toInt32) (q1.toInt32)) (mnI (mxI ((q1 >>> ((32 : Int32) &&& 0x3f).toInt64).toInt32) (q1.toInt32)) z1)).toInt64)).toInt32))) (by decide) (by decide) rfl ga4 d1_78 ?_
  intro T h8 W8 X
  have K := K.wr W8 (Or.inl (List.mem_of_getElem? (i := 3) rfl))
  have A_a1 := A_a1.other W8 ne_a1_a4
  have A_a2 := A_a2.other W8 ne_a2_a4
  have A_a3 := A_a3.other W8 ne_a3_a4
  have A_a4 := A_a4.setI W8
  refine r_retV X d1_79 (by decide) (by decide) ?_
  exact ⟨rfl, K, _, _, _, _, hb.1, hb.2, hm.1, hm.2, A_a1, A_a2, A_a3, A_a4⟩
theorem d4_0 : decode prog_47_method_1_code 0 = .ok (.aload_n 0, 1) := by decide +kernel
theorem d4_1 : decode prog_47_method_1_code 1 = .ok (.invokespecial 3, 3) := by decide +kernel
theorem d4_4 : decode prog_47_method_1_code 4 = .ok (.aload_n 0, 1) := by decide +kernel
theorem d4_5 : decode prog_47_method_1_code 5 = .ok (.aload_n 1, 1) := by decide +kernel
theorem d4_6 : decode prog_47_method_1_code 6 = .ok (.invokevirtual 9, 3) := by decide +kernel
theorem d4_9 : decode prog_47_method_1_code 9 = .ok (.checkcast 10, 3) := by decide +kernel
theorem d4_12 : decode prog_47_method_1_code 12 = .ok (.putfield 15, 3) := by decide +kernel
theorem d4_15 : decode prog_47_method_1_code 15 = .ok (.aload_n 0, 1) := by decide +kernel
theorem d4_16 : decode prog_47_method_1_code 16 = .ok (.aload_n 1, 1) := by decide +kernel
theorem d4_17 : decode prog_47_method_1_code 17 = .ok (.arraylength, 1) := by decide +kernel
theorem d4_18 : decode prog_47_method_1_code 18 = .ok (.newarray .int, 2) := by decide +kernel
theorem d4_20 : decode prog_47_method_1_code 20 = .ok (.putfield 20, 3) := by decide +kernel
theorem d4_23 : decode prog_47_method_1_code 23 = .ok (.aload_n 0, 1) := by decide +kernel
theorem d4_24 : decode prog_47_method_1_code 24 = .ok (.aload_n 1, 1) := by decide +kernel
theorem d4_25 : decode prog_47_method_1_code 25 = .ok (.arraylength, 1) := by decide +kernel
theorem d4_26 : decode prog_47_method_1_code 26 = .ok (.newarray .int, 2) := by decide +kernel
theorem d4_28 : decode prog_47_method_1_code 28 = .ok (.putfield 23, 3) := by decide +kernel
theorem d4_31 : decode prog_47_method_1_code 31 = .ok (.aload_n 0, 1) := by decide +kernel
theorem d4_32 : decode prog_47_method_1_code 32 = .ok (.aload_n 1, 1) := by decide +kernel
theorem d4_33 : decode prog_47_method_1_code 33 = .ok (.arraylength, 1) := by decide +kernel
theorem d4_34 : decode prog_47_method_1_code 34 = .ok (.newarray .long, 2) := by decide +kernel
theorem d4_36 : decode prog_47_method_1_code 36 = .ok (.putfield 26, 3) := by decide +kernel
theorem d4_39 : decode prog_47_method_1_code 39 = .ok (.iconst 0, 1) := by decide +kernel
theorem d4_40 : decode prog_47_method_1_code 40 = .ok (.istore_n 3, 1) := by decide +kernel
theorem d4_41 : decode prog_47_method_1_code 41 = .ok (.iconst 0, 1) := by decide +kernel
theorem d4_42 : decode prog_47_method_1_code 42 = .ok (.istore 4, 2) := by decide +kernel
theorem d4_44 : decode prog_47_method_1_code 44 = .ok (.iconst 0, 1) := by decide +kernel
theorem d4_45 : decode prog_47_method_1_code 45 = .ok (.istore 5, 2) := by decide +kernel
theorem d4_47 : decode prog_47_method_1_code 47 = .ok (.iload 5, 2) := by decide +kernel
theorem d4_49 : decode prog_47_method_1_code 49 = .ok (.aload_n 1, 1) := by decide +kernel
theorem d4_50 : decode prog_47_method_1_code 50 = .ok (.arraylength, 1) := by decide +kernel
theorem d4_51 : decode prog_47_method_1_code 51 = .ok (.if_icmp .ge 85, 3) := by decide +kernel
theorem d4_54 : decode prog_47_method_1_code 54 = .ok (.aload_n 2, 1) := by decide +kernel
theorem d4_55 : decode prog_47_method_1_code 55 = .ok (.iload 5, 2) := by decide +kernel
theorem d4_57 : decode prog_47_method_1_code 57 = .ok (.iaload, 1) := by decide +kernel
theorem d4_58 : decode prog_47_method_1_code 58 = .ok (.i2l, 1) := by decide +kernel
theorem d4_59 : decode prog_47_method_1_code 59 = .ok (.aload_n 1, 1) := by decide +kernel
theorem d4_60 : decode prog_47_method_1_code 60 = .ok (.iload 5, 2) := by decide +kernel
theorem d4_62 : decode prog_47_method_1_code 62 = .ok (.iaload, 1) := by decide +kernel
theorem d4_63 : decode prog_47_method_1_code 63 = .ok (.i2l, 1) := by decide +kernel
theorem d4_64 : decode prog_47_method_1_code 64 = .ok (.lsub, 1) := by decide +kernel
theorem d4_65 : decode prog_47_method_1_code 65 = .ok (.lstore 6, 2) := by decide +kernel
theorem d4_67 : decode prog_47_method_1_code 67 = .ok (.bipush 64, 2) := by decide +kernel
theorem d4_69 : decode prog_47_method_1_code 69 = .ok (.lload 6, 2) := by decide +kernel
theorem d4_71 : decode prog_47_method_1_code 71 = .ok (.invokestatic 32, 3) := by decide +kernel
theorem d4_74 : decode prog_47_method_1_code 74 = .ok (.isub, 1) := by decide +kernel
theorem d4_75 : decode prog_47_method_1_code 75 = .ok (.istore 8, 2) := by decide +kernel
theorem d4_77 : decode prog_47_method_1_code 77 = .ok (.iload 4, 2) := by decide +kernel
theorem d4_79 : decode prog_47_method_1_code 79 = .ok (.iload 8, 2) := by decide +kernel
theorem d4_81 : decode prog_47_method_1_code 81 = .ok (.iadd, 1) := by decide +kernel
theorem d4_82 : decode prog_47_method_1_code 82 = .ok (.bipush 64, 2) := by decide +kernel
theorem d4_84 : decode prog_47_method_1_code 84 = .ok (.if_icmp .le 9, 3) := by decide +kernel
theorem d4_87 : decode prog_47_method_1_code 87 = .ok (.iinc 3 1, 3) := by decide +kernel
theorem d4_90 : decode prog_47_method_1_code 90 = .ok (.iconst 0, 1) := by decide +kernel
theorem d4_91 : decode prog_47_method_1_code 91 = .ok (.istore 4, 2) := by decide +kernel
theorem d4_93 : decode prog_47_method_1_code 93 = .ok (.aload_n 0, 1) := by decide +kernel
theorem d4_94 : decode prog_47_method_1_code 94 = .ok (.getfield 20, 3) := by decide +kernel
theorem d4_97 : decode prog_47_method_1_code 97 = .ok (.iload 5, 2) := by decide +kernel
theorem d4_99 : decode prog_47_method_1_code 99 = .ok (.iload_n 3, 1) := by decide +kernel
theorem d4_100 : decode prog_47_method_1_code 100 = .ok (.iastore, 1) := by decide +kernel
theorem d4_101 : decode prog_47_method_1_code 101 = .ok (.aload_n 0, 1) := by decide +kernel
theorem d4_102 : decode prog_47_method_1_code 102 = .ok (.getfield 23, 3) := by decide +kernel
theorem d4_105 : decode prog_47_method_1_code 105 = .ok (.iload 5, 2) := by decide +kernel
theorem d4_107 : decode prog_47_method_1_code 107 = .ok (.iload 4, 2) := by decide +kernel
theorem d4_109 : decode prog_47_method_1_code 109 = .ok (.iastore, 1) := by decide +kernel
theorem d4_110 : decode prog_47_method_1_code 110 = .ok (.aload_n 0, 1) := by decide +kernel
theorem d4_111 : decode prog_47_method_1_code 111 = .ok (.getfield 26, 3) := by decide +kernel
theorem d4_114 : decode prog_47_method_1_code 114 = .ok (.iload 5, 2) := by decide +kernel
theorem d4_116 : decode prog_47_method_1_code 116 = .ok (.lconst 1, 1) := by decide +kernel
theorem d4_117 : decode prog_47_method_1_code 117 = .ok (.iload 8, 2) := by decide +kernel
theorem d4_119 : decode prog_47_method_1_code 119 = .ok (.lshl, 1) := by decide +kernel
theorem d4_120 : decode prog_47_method_1_code 120 = .ok (.lconst 1, 1) := by decide +kernel
theorem d4_121 : decode prog_47_method_1_code 121 = .ok (.lsub, 1) := by decide +kernel
theorem d4_122 : decode prog_47_method_1_code 122 = .ok (.lastore, 1) := by decide +kernel
theorem d4_123 : decode prog_47_method_1_code 123 = .ok (.iload 4, 2) := by decide +kernel
theorem d4_125 : decode prog_47_method_1_code 125 = .ok (.iload 8, 2) := by decide +kernel
theorem d4_127 : decode prog_47_method_1_code 127 = .ok (.iadd, 1) := by decide +kernel
theorem d4_128 : decode prog_47_method_1_code 128 = .ok (.istore 4, 2) := by decide +kernel
theorem d4_130 : decode prog_47_method_1_code 130 = .ok (.iinc 5 1, 3) := by decide +kernel
theorem d4_133 : decode prog_47_method_1_code 133 = .ok (.goto (-86), 3) := by decide +kernel
theorem d4_136 : decode prog_47_method_1_code 136 = .ok (.aload_n 0, 1) := by decide +kernel
theorem d4_137 : decode prog_47_method_1_code 137 = .ok (.iload_n 3, 1) := by decide +kernel
theorem d4_138 : decode prog_47_method_1_code 138 = .ok (.iconst 1, 1) := by decide +kernel
theorem d4_139 : decode prog_47_method_1_code 139 = .ok (.iadd, 1) := by decide +kernel
theorem d4_140 : decode prog_47_method_1_code 140 = .ok (.putfield 36, 3) := by decide +kernel
theorem d4_143 : decode prog_47_method_1_code 143 = .ok (.aload_n 0, 1) := by decide +kernel
theorem d4_144 : decode prog_47_method_1_code 144 = .ok (.aload_n 0, 1) := by decide +kernel
theorem d4_145 : decode prog_47_method_1_code 145 = .ok (.getfield 36, 3) := by decide +kernel
theorem d4_148 : decode prog_47_method_1_code 148 = .ok (.newarray .long, 2) := by decide +kernel
theorem d4_150 : decode prog_47_method_1_code 150 = .ok (.putfield 40, 3) := by decide +kernel
theorem d4_153 : decode prog_47_method_1_code 153 = .ok (.aload_n 0, 1) := by decide +kernel
theorem d4_154 : decode prog_47_method_1_code 154 = .ok (.bipush 16, 2) := by decide +kernel
theorem d4_156 : decode prog_47_method_1_code 156 = .ok (.aload_n 0, 1) := by decide +kernel
theorem d4_157 : decode prog_47_method_1_code 157 = .ok (.getfield 36, 3) := by decide +kernel
theorem d4_160 : decode prog_47_method_1_code 160 = .ok (.imul, 1) := by decide +kernel
theorem d4_161 : decode prog_47_method_1_code 161 = .ok (.newarray .long, 2) := by decide +kernel
theorem d4_163 : decode prog_47_method_1_code 163 = .ok (.putfield 43, 3) := by decide +kernel
theorem d4_166 : decode prog_47_method_1_code 166 = .ok (.aload_n 0, 1) := by decide +kernel
theorem d4_167 : decode prog_47_method_1_code 167 = .ok (.bipush 64, 2) := by decide +kernel
theorem d4_169 : decode prog_47_method_1_code 169 = .ok (.newarray .int, 2) := by decide +kernel
theorem d4_171 : decode prog_47_method_1_code 171 = .ok (.putfield 46, 3) := by decide +kernel
theorem d4_174 : decode prog_47_method_1_code 174 = .ok (.return_, 1) := by decide +kernel
theorem pn_4 : plainName "com/example/heliotrope/heliotrope/language/StateStore" = true := by first | (simp [plainName, overriddenIn]; done) | decide +kernel
theorem ef_4 (m : MethodId) (x0 : Addr) (x1 : Addr) (x2 : Addr) : entryFrame m #[(.ref x0), (.ref x1), (.ref x2)] 9 = mkF m 0 #[.val (.ref x0), .val (.ref x1), .val (.ref x2), .unset, .unset, .unset, .unset, .unset, .unset] [] := by first | (simp [entryFrame, mkF, argsToLocals, Value.category]; done) | rfl
set_option maxRecDepth 65536 in
set_option maxHeartbeats 40000000 in
theorem rmNew (l : Launch) (Z : State) (a0 : Array Value) (hw : ∀ d ∈ tables_1, d.before a0 Z = true) (n0 : Nat) (h : Heap) (Z0 : n0 ≤ h.size) (a1 a2 a3 : Addr) (fl fh : Nat → Int32) (D0 D1 D2 : Nat) (hd0 : (fh 0).toInt - (fl 0).toInt = (D0 : Int)) (hd1 : (fh 1).toInt - (fl 1).toInt = (D1 : Int)) (hd2 : (fh 2).toInt - (fl 2).toInt = (D2 : Int)) (ga1 : n0 ≤ a1) (ne_a1_a2 : a1 ≠ a2) (ne_a1_a3 : a1 ≠ a3) (E_a1 : Exa Z h a1 "com/example/heliotrope/heliotrope/language/StateStore") (E_a2 : Exa Z h a2 "[I") (F_a1_low : Fld Z h a1 "com/example/heliotrope/heliotrope/language/StateStore" "low" "[I" .null) (F_a1_word : Fld Z h a1 "com/example/heliotrope/heliotrope/language/StateStore" "word" "[I" .null) (F_a1_shift : Fld Z h a1 "com/example/heliotrope/heliotrope/language/StateStore" "shift" "[I" .null) (F_a1_mask : Fld Z h a1 "com/example/heliotrope/heliotrope/language/StateStore" "mask" "[J" .null) (F_a1_key : Fld Z h a1 "com/example/heliotrope/heliotrope/language/StateStore" "key" "[J" .null) (F_a1_packed : Fld Z h a1 "com/example/heliotrope/heliotrope/language/StateStore" "packed" "[J" .null) (F_a1_table : Fld Z h a1 "com/example/heliotrope/heliotrope/language/StateStore" "table" "[I" .null) (F_a1_words : Fld Z h a1 "com/example/heliotrope/heliotrope/language/StateStore" "words" "I" (.int (0 : Int32))) (F_a1_count : Fld Z h a1 "com/example/heliotrope/heliotrope/language/StateStore" "count" "I" (.int (0 : Int32))) (A_a2 : AF Z h a2 .int 3 (fun j => .int (fl j))) (A_a3 : AF Z h a3 .int 3 (fun j => .int (fh j))) :
    Met1 l Z n0 [] (⟨"com/example/heliotrope/heliotrope/language/StateStore", "<init>", "([I[I)V"⟩ : MethodName) prog_47_method_1_code 9 none ({ frames := 2, cells := 7, slots := 120, locals := 29 } : Room) #[(.ref a1), (.ref a2), (.ref a3)] h (fun v h' => v = none ∧ Keep h h' [a1] ∧ ((∃ (la wa sa ma ka pa ta : Addr) (u1 u2 : Int32) (m0 m1 m2 : Int64) (w0 w1 w2 : Nat), Fld Z h' a1 "com/example/heliotrope/heliotrope/language/StateStore" "low" "[I" (.ref la) ∧ Fld Z h' a1 "com/example/heliotrope/heliotrope/language/StateStore" "word" "[I" (.ref wa) ∧ Fld Z h' a1 "com/example/heliotrope/heliotrope/language/StateStore" "shift" "[I" (.ref sa) ∧ Fld Z h' a1 "com/example/heliotrope/heliotrope/language/StateStore" "mask" "[J" (.ref ma) ∧ Fld Z h' a1 "com/example/heliotrope/heliotrope/language/StateStore" "key" "[J" (.ref ka) ∧ Fld Z h' a1 "com/example/heliotrope/heliotrope/language/StateStore" "packed" "[J" (.ref pa) ∧ Fld Z h' a1 "com/example/heliotrope/heliotrope/language/StateStore" "table" "[I" (.ref ta) ∧ Fld Z h' a1 "com/example/heliotrope/heliotrope/language/StateStore" "words" "I" (.int (1 : Int32)) ∧ Fld Z h' a1 "com/example/heliotrope/heliotrope/language/StateStore" "count" "I" (.int (0 : Int32)) ∧ AF Z h' la .int 3 (fun j => .int (fl j)) ∧ AF Z h' wa .int 3 (fun j => .int ((updI (updI (updI (fun _ => (0 : Int32)) 0 (0 : Int32)) 1 (0 : Int32)) 2 (0 : Int32)) j)) ∧ AF Z h' sa .int 3 (fun j => .int ((updI (updI (updI (fun _ => (0 : Int32)) 0 (0 : Int32)) 1 u1) 2 u2) j)) ∧ AF Z h' ma .long 3 (fun j => .long ((updJ (updJ (updJ (fun _ => (0 : Int64)) 0 m0) 1 m1) 2 m2) j)) ∧ AF Z h' ka .long 1 (fun j => .long ((fun _ => (0 : Int64)) j)) ∧ AF Z h' pa .long 16 (fun j => .long ((fun _ => (0 : Int64)) j)) ∧ AF Z h' ta .int 64 (fun j => .int ((fun _ => (0 : Int32)) j)) ∧ h.size ≤ la ∧ h.size ≤ wa ∧ h.size ≤ sa ∧ h.size ≤ ma ∧ h.size ≤ ka ∧ h.size ≤ pa ∧ h.size ≤ ta ∧ n0 ≤ la ∧ n0 ≤ wa ∧ n0 ≤ sa ∧ n0 ≤ ma ∧ n0 ≤ ka ∧ n0 ≤ pa ∧ n0 ≤ ta ∧ la ≠ wa ∧ la ≠ sa ∧ la ≠ ma ∧ la ≠ ka ∧ la ≠ pa ∧ la ≠ ta ∧ wa ≠ sa ∧ wa ≠ ma ∧ wa ≠ ka ∧ wa ≠ pa ∧ wa ≠ ta ∧ sa ≠ ma ∧ sa ≠ ka ∧ sa ≠ pa ∧ sa ≠ ta ∧ ma ≠ ka ∧ ma ≠ pa ∧ ma ≠ ta ∧ ka ≠ pa ∧ ka ≠ ta ∧ pa ≠ ta ∧ w0 ≤ 32 ∧ w1 ≤ 32 ∧ w2 ≤ 32 ∧ D0 < 2 ^ w0 ∧ D1 < 2 ^ w1 ∧ D2 < 2 ^ w2 ∧ u1.toInt = (w0 : Int) ∧ m0.toBitVec.toNat = 2 ^ w0 - 1 ∧ m1.toBitVec.toNat = 2 ^ w1 - 1 ∧ m2.toBitVec.toNat = 2 ^ w2 - 1 ∧ u2.toInt = ((w0 + w1 : Nat) : Int) ∧ w0 + w1 + w2 ≤ 64) ∨ (∃ (la wa sa ma ka pa ta : Addr) (u1 : Int32) (m0 m1 m2 : Int64) (w0 w1 w2 : Nat), Fld Z h' a1 "com/example/heliotrope/heliotrope/language/StateStore" "low" "[I" (.ref la) ∧ Fld Z h' a1 "com/example/heliotrope/heliotrope/language/StateStore" "word" "[I" (.ref wa) ∧ Fld Z h' a1 "com/example/heliotrope/heliotrope/language/StateStore" "shift" "[I" (.ref sa) ∧ Fld Z h' a1 "com/example/heliotrope/heliotrope/language/StateStore" "mask" "[J" (.ref ma) ∧ Fld Z h' a1 "com/example/heliotrope/heliotrope/language/StateStore" "key" "[J" (.ref ka) ∧ Fld Z h' a1 "com/example/heliotrope/heliotrope/language/StateStore" "packed" "[J" (.ref pa) ∧ Fld Z h' a1 "com/example/heliotrope/heliotrope/language/StateStore" "table" "[I" (.ref ta) ∧ Fld Z h' a1 "com/example/heliotrope/heliotrope/language/StateStore" "words" "I" (.int (2 : Int32)) ∧ Fld Z h' a1 "com/example/heliotrope/heliotrope/language/StateStore" "count" "I" (.int (0 : Int32)) ∧ AF Z h' la .int 3 (fun j => .int (fl j)) ∧ AF Z h' wa .int 3 (fun j => .int ((updI (updI (updI (fun _ => (0 : Int32)) 0 (0 : Int32)) 1 (0 : Int32)) 2 (1 : Int32)) j)) ∧ AF Z h' sa .int 3 (fun j => .int ((updI (updI (updI (fun _ => (0 : Int32)) 0 (0 : Int32)) 1 u1) 2 (0 : Int32)) j)) ∧ AF Z h' ma .long 3 (fun j => .long ((updJ (updJ (updJ (fun _ => (0 : Int64)) 0 m0) 1 m1) 2 m2) j)) ∧ AF Z h' ka .long 2 (fun j => .long ((fun _ => (0 : Int64)) j)) ∧ AF Z h' pa .long 32 (fun j => .long ((fun _ => (0 : Int64)) j)) ∧ AF Z h' ta .int 64 (fun j => .int ((fun _ => (0 : Int32)) j)) ∧ h.size ≤ la ∧ h.size ≤ wa ∧ h.size ≤ sa ∧ h.size ≤ ma ∧ h.size ≤ ka ∧ h.size ≤ pa ∧ h.size ≤ ta ∧ n0 ≤ la ∧ n0 ≤ wa ∧ n0 ≤ sa ∧ n0 ≤ ma ∧ n0 ≤ ka ∧ n0 ≤ pa ∧ n0 ≤ ta ∧ la ≠ wa ∧ la ≠ sa ∧ la ≠ ma ∧ la ≠ ka ∧ la ≠ pa ∧ la ≠ ta ∧ wa ≠ sa ∧ wa ≠ ma ∧ wa ≠ ka ∧ wa ≠ pa ∧ wa ≠ ta ∧ sa ≠ ma ∧ sa ≠ ka ∧ sa ≠ pa ∧ sa ≠ ta ∧ ma ≠ ka ∧ ma ≠ pa ∧ ma ≠ ta ∧ ka ≠ pa ∧ ka ≠ ta ∧ pa ≠ ta ∧ w0 ≤ 32 ∧ w1 ≤ 32 ∧ w2 ≤ 32 ∧ D0 < 2 ^ w0 ∧ D1 < 2 ^ w1 ∧ D2 < 2 ^ w2 ∧ u1.toInt = (w0 : Int) ∧ m0.toBitVec.toNat = 2 ^ w0 - 1 ∧ m1.toBitVec.toNat = 2 ^ w1 - 1 ∧ m2.toBitVec.toNat = 2 ^ w2 - 1))) := by
  refine met_of (plainFor_of_name pn_4) Z0 (fun m => ef_4 m a1 a2 a3) ?_
  intro p e s m below meth c T hs0 X
  have K := Keep.refl h [a1]
  refine r_aloadN 1 X d4_0 rfl rfl ?_
  refine r_initO 4 X (hw _ (List.mem_of_getElem? (i := 18) rfl)) (hw _ (List.mem_of_getElem? (i := 19) rfl)) (hw _ (List.mem_of_getElem? (i := 20) rfl)) d4_1 rfl (by decide) 0 (Nat.le_of_eq rfl) (by decide) ?_
  intro T X
  refine r_aloadN 5 X d4_4 rfl rfl ?_
  refine r_aloadN 6 X d4_5 rfl rfl ?_
  refine r_clone 9 X (st := [(.ref a1)]) (hw _ (List.mem_of_getElem? (i := 21) rfl)) (hw _ (List.mem_of_getElem? (i := 22) rfl)) (hw _ (List.mem_of_getElem? (i := 26) rfl)) (hw _ (List.mem_of_getElem? (i := 24) rfl)) (hw _ (List.mem_of_getElem? (i := 25) rfl)) (hw _ (List.mem_of_getElem? (i := 27) rfl)) A_a2 E_a2 (fun _ _ => rfl) 3 (Nat.le_refl _) 1 (Nat.le_of_eq rfl) rfl (by decide) (by decide) (by decide) (by decide) d4_6 ?_
  intro T h1 b1 g1 gn_b1 E1 E_b1 A_b1 X
  have sz_b1 : h.size ≤ b1 := Nat.le_trans K.1 (Nat.le_of_eq g1.symm)
  have ne_a2_b1 : a2 ≠ b1 := Nat.ne_of_lt (Nat.lt_of_lt_of_eq E_a2.lt g1.symm)
  have ne_a3_b1 : a3 ≠ b1 := Nat.ne_of_lt (Nat.lt_of_lt_of_eq A_a3.lt g1.symm)
  have ne_a1_b1 : a1 ≠ b1 := Nat.ne_of_lt (Nat.lt_of_lt_of_eq E_a1.lt g1.symm)
  have K := K.ext E1
  have E_a1 := E_a1.ext E1
  have E_a2 := E_a2.ext E1
  have F_a1_low := F_a1_low.ext E1
  have F_a1_word := F_a1_word.ext E1
  have F_a1_shift := F_a1_shift.ext E1
  have F_a1_mask := F_a1_mask.ext E1
  have F_a1_key := F_a1_key.ext E1
  have F_a1_packed := F_a1_packed.ext E1
  have F_a1_table := F_a1_table.ext E1
  have F_a1_words := F_a1_words.ext E1
  have F_a1_count := F_a1_count.ext E1
  have A_a2 := A_a2.ext E1
  have A_a3 := A_a3.ext E1
  refine r_castY 12 X (hw _ (List.mem_of_getElem? (i := 28) rfl)) (Ins.self E_b1) d4_9 ?_
  intro T X
  refine r_putfield 15 X (host := "") (Or.inl (hw _ (List.mem_of_getElem? (i := 30) rfl))) Via.refl F_a1_low E_a1 (Or.inr ⟨(hw _ (List.mem_of_getElem? (i := 31) rfl)), rfl, rfl⟩) (hw _ (List.mem_of_getElem? (i := 13) rfl)) (ty := (.array .int)) (by decide) rfl rfl ga1 d4_12 ?_
  intro T h2 W2 X
  have K := K.wr W2 (Or.inl (List.mem_of_getElem? (i := 0) rfl))
  have E_a1 := E_a1.wr W2
  have E_a2 := E_a2.wr W2
  have F_a1_low := F_a1_low.same W2
  have F_a1_word := F_a1_word.other W2 (Or.inr (slot_ne (Or.inr (hw _ (List.mem_of_getElem? (i := 33) rfl))) (Or.inr (hw _ (List.mem_of_getElem? (i := 31) rfl))) (by decide) (t := (.array .int)) (t' := (.array .int)) (by decide) (by decide)))
  have F_a1_shift := F_a1_shift.other W2 (Or.inr (slot_ne (Or.inr (hw _ (List.mem_of_getElem? (i := 35) rfl))) (Or.inr (hw _ (List.mem_of_getElem? (i := 31) rfl))) (by decide) (t := (.array .int)) (t' := (.array .int)) (by decide) (by decide)))
  have F_a1_mask := F_a1_mask.other W2 (Or.inr (slot_ne (Or.inr (hw _ (List.mem_of_getElem? (i := 38) rfl))) (Or.inr (hw _ (List.mem_of_getElem? (i := 31) rfl))) (by decide) (t := (.array .long)) (t' := (.array .int)) (by decide) (by decide)))
  have F_a1_key := F_a1_key.other W2 (Or.inr (slot_ne (Or.inr (hw _ (List.mem_of_getElem? (i := 51) rfl))) (Or.inr (hw _ (List.mem_of_getElem? (i := 31) rfl))) (by decide) (t := (.array .long)) (t' := (.array .int)) (by decide) (by decide)))
  have F_a1_packed := F_a1_packed.other W2 (Or.inr (slot_ne (Or.inl (hw _ (List.mem_of_getElem? (i := 53) rfl))) (Or.inr (hw _ (List.mem_of_getElem? (i := 31) rfl))) (by decide) (t := (.array .long)) (t' := (.array .int)) (by decide) (by decide)))
  have F_a1_table := F_a1_table.other W2 (Or.inr (slot_ne (Or.inl (hw _ (List.mem_of_getElem? (i := 55) rfl))) (Or.inr (hw _ (List.mem_of_getElem? (i := 31) rfl))) (by decide) (t := (.array .int)) (t' := (.array .int)) (by decide) (by decide)))
  have F_a1_words := F_a1_words.other W2 (Or.inr (slot_ne (Or.inr (hw _ (List.mem_of_getElem? (i := 49) rfl))) (Or.inr (hw _ (List.mem_of_getElem? (i := 31) rfl))) (by decide) (t := .int) (t' := (.array .int)) (by decide) (by decide)))
  have F_a1_count := F_a1_count.other W2 (Or.inr (slot_ne (Or.inl (hw _ (List.mem_of_getElem? (i := 74) rfl))) (Or.inr (hw _ (List.mem_of_getElem? (i := 31) rfl))) (by decide) (t := .int) (t' := (.array .int)) (by decide) (by decide)))
  have A_a2 := A_a2.other W2 (Ne.symm ne_a1_a2)
  have A_a3 := A_a3.other W2 (Ne.symm ne_a1_a3)
  have E_b1 := E_b1.wr W2
  have A_b1 := A_b1.other W2 (Ne.symm ne_a1_b1)
  refine r_aloadN 16 X d4_15 rfl rfl ?_
  refine r_aloadN 17 X d4_16 rfl rfl ?_
  refine r_arraylength 18 X A_a2 (3 : Int32) (by decide) d4_17 ?_
  refine r_newarrayE 20 X 3 3 "[I" (by decide) (hw _ (List.mem_of_getElem? (i := 0) rfl)) d4_18 (by decide) (by decide) (by decide) (by decide) (by decide) ?_
  intro T h3 b3 g3 gn_b3 E3 E_b3 A_b3 X
  have sz_b3 : h.size ≤ b3 := Nat.le_trans K.1 (Nat.le_of_eq g3.symm)
  have ne_a2_b3 : a2 ≠ b3 := Nat.ne_of_lt (Nat.lt_of_lt_of_eq E_a2.lt g3.symm)
  have ne_a3_b3 : a3 ≠ b3 := Nat.ne_of_lt (Nat.lt_of_lt_of_eq A_a3.lt g3.symm)
  have ne_b1_b3 : b1 ≠ b3 := Nat.ne_of_lt (Nat.lt_of_lt_of_eq E_b1.lt g3.symm)
  have ne_a1_b3 : a1 ≠ b3 := Nat.ne_of_lt (Nat.lt_of_lt_of_eq E_a1.lt g3.symm)
  have K := K.ext E3
  have E_a1 := E_a1.ext E3
  have E_a2 := E_a2.ext E3
  have F_a1_low := F_a1_low.ext E3
  have F_a1_word := F_a1_word.ext E3
  have F_a1_shift := F_a1_shift.ext E3
  have F_a1_mask := F_a1_mask.ext E3
  have F_a1_key := F_a1_key.ext E3
  have F_a1_packed := F_a1_packed.ext E3
  have F_a1_table := F_a1_table.ext E3
  have F_a1_words := F_a1_words.ext E3
  have F_a1_count := F_a1_count.ext E3
  have A_a2 := A_a2.ext E3
  have A_a3 := A_a3.ext E3
  have E_b1 := E_b1.ext E3
  have A_b1 := A_b1.ext E3
  replace A_b3 : AF Z h3 b3 .int 3 (fun j => .int ((fun _ => (0 : Int32)) j)) := A_b3
  refine r_putfield 23 X (host := "") (Or.inl (hw _ (List.mem_of_getElem? (i := 32) rfl))) Via.refl F_a1_word E_a1 (Or.inr ⟨(hw _ (List.mem_of_getElem? (i := 33) rfl)), rfl, rfl⟩) (hw _ (List.mem_of_getElem? (i := 13) rfl)) (ty := (.array .int)) (by decide) rfl rfl ga1 d4_20 ?_
  intro T h4 W4 X
  have K := K.wr W4 (Or.inl (List.mem_of_getElem? (i := 0) rfl))
  have E_a1 := E_a1.wr W4
  have E_a2 := E_a2.wr W4
  have F_a1_low := F_a1_low.other W4 (Or.inr (slot_ne (Or.inr (hw _ (List.mem_of_getElem? (i := 31) rfl))) (Or.inr (hw _ (List.mem_of_getElem? (i := 33) rfl))) (by decide) (t := (.array .int)) (t' := (.array .int)) (by decide) (by decide)))
  have F_a1_word := F_a1_word.same W4
  have F_a1_shift := F_a1_shift.other W4 (Or.inr (slot_ne (Or.inr (hw _ (List.mem_of_getElem? (i := 35) rfl))) (Or.inr (hw _ (List.mem_of_getElem? (i := 33) rfl))) (by decide) (t := (.array .int)) (t' := (.array .int)) (by decide) (by decide)))
  have F_a1_mask := F_a1_mask.other W4 (Or.inr (slot_ne (Or.inr (hw _ (List.mem_of_getElem? (i := 38) rfl))) (Or.inr (hw _ (List.mem_of_getElem? (i := 33) rfl))) (by decide) (t := (.array .long)) (t' := (.array .int)) (by decide) (by decide)))
  have F_a1_key := F_a1_key.other W4 (Or.inr (slot_ne (Or.inr (hw _ (List.mem_of_getElem? (i := 51) rfl))) (Or.inr (hw _ (List.mem_of_getElem? (i := 33) rfl))) (by decide) (t := (.array .long)) (t' := (.array .int)) (by decide) (by decide)))
  have F_a1_packed := F_a1_packed.other W4 (Or.inr (slot_ne (Or.inl (hw _ (List.mem_of_getElem? (i := 53) rfl))) (Or.inr (hw _ (List.mem_of_getElem? (i := 33) rfl))) (by decide) (t := (.array .long)) (t' := (.array .int)) (by decide) (by decide)))
  have F_a1_table := F_a1_table.other W4 (Or.inr (slot_ne (Or.inl (hw _ (List.mem_of_getElem? (i := 55) rfl))) (Or.inr (hw _ (List.mem_of_getElem? (i := 33) rfl))) (by decide) (t := (.array .int)) (t' := (.array .int)) (by decide) (by decide)))
  have F_a1_words := F_a1_words.other W4 (Or.inr (slot_ne (Or.inr (hw _ (List.mem_of_getElem? (i := 49) rfl))) (Or.inr (hw _ (List.mem_of_getElem? (i := 33) rfl))) (by decide) (t := .int) (t' := (.array .int)) (by decide) (by decide)))
  have F_a1_count := F_a1_count.other W4 (Or.inr (slot_ne (Or.inl (hw _ (List.mem_of_getElem? (i := 74) rfl))) (Or.inr (hw _ (List.mem_of_getElem? (i := 33) rfl))) (by decide) (t := .int) (t' := (.array .int)) (by decide) (by decide)))
  have A_a2 := A_a2.other W4 (Ne.symm ne_a1_a2)
  have A_a3 := A_a3.other W4 (Ne.symm ne_a1_a3)
  have E_b1 := E_b1.wr W4
  have A_b1 := A_b1.other W4 (Ne.symm ne_a1_b1)
  have A_b3 := A_b3.other W4 (Ne.symm ne_a1_b3)
  have E_b3 := E_b3.wr W4
  refine r_aloadN 24 X d4_23 rfl rfl ?_
  refine r_aloadN 25 X d4_24 rfl rfl ?_
  refine r_arraylength 26 X A_a2 (3 : Int32) (by decide) d4_25 ?_
  refine r_newarrayE 28 X 3 3 "[I" (by decide) (hw _ (List.mem_of_getElem? (i := 0) rfl)) d4_26 (by decide) (by decide) (by decide) (by decide) (by decide) ?_
  intro T h5 b5 g5 gn_b5 E5 E_b5 A_b5 X
  have sz_b5 : h.size ≤ b5 := Nat.le_trans K.1 (Nat.le_of_eq g5.symm)
  have ne_b3_b5 : b3 ≠ b5 := Nat.ne_of_lt (Nat.lt_of_lt_of_eq A_b3.lt g5.symm)
  have ne_b1_b5 : b1 ≠ b5 := Nat.ne_of_lt (Nat.lt_of_lt_of_eq E_b1.lt g5.symm)
  have ne_a3_b5 : a3 ≠ b5 := Nat.ne_of_lt (Nat.lt_of_lt_of_eq A_a3.lt g5.symm)
  have ne_a2_b5 : a2 ≠ b5 := Nat.ne_of_lt (Nat.lt_of_lt_of_eq E_a2.lt g5.symm)
  have ne_a1_b5 : a1 ≠ b5 := Nat.ne_of_lt (Nat.lt_of_lt_of_eq E_a1.lt g5.symm)
  have K := K.ext E5
  have E_a1 := E_a1.ext E5
  have E_a2 := E_a2.ext E5
  have F_a1_low := F_a1_low.ext E5
  have F_a1_word := F_a1_word.ext E5
  have F_a1_shift := F_a1_shift.ext E5
  have F_a1_mask := F_a1_mask.ext E5
  have F_a1_key := F_a1_key.ext E5
  have F_a1_packed := F_a1_packed.ext E5
  have F_a1_table := F_a1_table.ext E5
  have F_a1_words := F_a1_words.ext E5
  have F_a1_count := F_a1_count.ext E5
  have A_a2 := A_a2.ext E5
  have A_a3 := A_a3.ext E5
  have E_b1 := E_b1.ext E5
  have A_b1 := A_b1.ext E5
  have A_b3 := A_b3.ext E5
  have E_b3 := E_b3.ext E5
  replace A_b5 : AF Z h5 b5 .int 3 (fun j => .int ((fun _ => (0 : Int32)) j)) := A_b5
  refine r_putfield 31 X (host := "") (Or.inl (hw _ (List.mem_of_getElem? (i := 34) rfl))) Via.refl F_a1_shift E_a1 (Or.inr ⟨(hw _ (List.mem_of_getElem? (i := 35) rfl)), rfl, rfl⟩) (hw _ (List.mem_of_getElem? (i := 13) rfl)) (ty := (.array .int)) (by decide) rfl rfl ga1 d4_28 ?_
  intro T h6 W6 X
  have K := K.wr W6 (Or.inl (List.mem_of_getElem? (i := 0) rfl))
  have E_a1 := E_a1.wr W6
  have E_a2 := E_a2.wr W6
  have F_a1_low := F_a1_low.other W6 (Or.inr (slot_ne (Or.inr (hw _ (List.mem_of_getElem? (i := 31) rfl))) (Or.inr (hw _ (List.mem_of_getElem? (i := 35) rfl))) (by decide) (t := (.array .int)) (t' := (.array .int)) (by decide) (by decide)))
  have F_a1_word := F_a1_word.other W6 (Or.inr (slot_ne (Or.inr (hw _ (List.mem_of_getElem? (i := 33) rfl))) (Or.inr (hw _ (List.mem_of_getElem? (i := 35) rfl))) (by decide) (t := (.array .int)) (t' := (.array .int)) (by decide) (by decide)))
  have F_a1_shift := F_a1_shift.same W6
  have F_a1_mask := F_a1_mask.other W6 (Or.inr (slot_ne (Or.inr (hw _ (List.mem_of_getElem? (i := 38) rfl))) (Or.inr (hw _ (List.mem_of_getElem? (i := 35) rfl))) (by decide) (t := (.array .long)) (t' := (.array .int)) (by decide) (by decide)))
  have F_a1_key := F_a1_key.other W6 (Or.inr (slot_ne (Or.inr (hw _ (List.mem_of_getElem? (i := 51) rfl))) (Or.inr (hw _ (List.mem_of_getElem? (i := 35) rfl))) (by decide) (t := (.array .long)) (t' := (.array .int)) (by decide) (by decide)))
  have F_a1_packed := F_a1_packed.other W6 (Or.inr (slot_ne (Or.inl (hw _ (List.mem_of_getElem? (i := 53) rfl))) (Or.inr (hw _ (List.mem_of_getElem? (i := 35) rfl))) (by decide) (t := (.array .long)) (t' := (.array .int)) (by decide) (by decide)))
  have F_a1_table := F_a1_table.other W6 (Or.inr (slot_ne (Or.inl (hw _ (List.mem_of_getElem? (i := 55) rfl))) (Or.inr (hw _ (List.mem_of_getElem? (i := 35) rfl))) (by decide) (t := (.array .int)) (t' := (.array .int)) (by decide) (by decide)))
  have F_a1_words := F_a1_words.other W6 (Or.inr (slot_ne (Or.inr (hw _ (List.mem_of_getElem? (i := 49) rfl))) (Or.inr (hw _ (List.mem_of_getElem? (i := 35) rfl))) (by decide) (t := .int) (t' := (.array .int)) (by decide) (by decide)))
  have F_a1_count := F_a1_count.other W6 (Or.inr (slot_ne (Or.inl (hw _ (List.mem_of_getElem? (i := 74) rfl))) (Or.inr (hw _ (List.mem_of_getElem? (i := 35) rfl))) (by decide) (t := .int) (t' := (.array .int)) (by decide) (by decide)))
  have A_a2 := A_a2.other W6 (Ne.symm ne_a1_a2)
  have A_a3 := A_a3.other W6 (Ne.symm ne_a1_a3)
  have E_b1 := E_b1.wr W6
  have A_b1 := A_b1.other W6 (Ne.symm ne_a1_b1)
  have A_b3 := A_b3.other W6 (Ne.symm ne_a1_b3)
  have E_b3 := E_b3.wr W6
  have A_b5 := A_b5.other W6 (Ne.symm ne_a1_b5)
  have E_b5 := E_b5.wr W6
  refine r_aloadN 32 X d4_31 rfl rfl ?_
  refine r_aloadN 33 X d4_32 rfl rfl ?_
  refine r_arraylength 34 X A_a2 (3 : Int32) (by decide) d4_33 ?_
  refine r_newarray 36 X 3 3 (hw _ (List.mem_of_getElem? (i := 36) rfl)) d4_34 (by decide) (by decide) (by decide) (by decide) (by decide) ?_
  intro T h7 b7 g7 gn_b7 E7 A_b7 X
  have sz_b7 : h.size ≤ b7 := Nat.le_trans K.1 (Nat.le_of_eq g7.symm)
  have ne_b3_b7 : b3 ≠ b7 := Nat.ne_of_lt (Nat.lt_of_lt_of_eq A_b3.lt g7.symm)
  have ne_b1_b7 : b1 ≠ b7 := Nat.ne_of_lt (Nat.lt_of_lt_of_eq E_b1.lt g7.symm)
  have ne_a3_b7 : a3 ≠ b7 := Nat.ne_of_lt (Nat.lt_of_lt_of_eq A_a3.lt g7.symm)
  have ne_b5_b7 : b5 ≠ b7 := Nat.ne_of_lt (Nat.lt_of_lt_of_eq A_b5.lt g7.symm)
  have ne_a2_b7 : a2 ≠ b7 := Nat.ne_of_lt (Nat.lt_of_lt_of_eq E_a2.lt g7.symm)
  have ne_a1_b7 : a1 ≠ b7 := Nat.ne_of_lt (Nat.lt_of_lt_of_eq E_a1.lt g7.symm)
  have K := K.ext E7
  have E_a1 := E_a1.ext E7
  have E_a2 := E_a2.ext E7
  have F_a1_low := F_a1_low.ext E7
  have F_a1_word := F_a1_word.ext E7
  have F_a1_shift := F_a1_shift.ext E7
  have F_a1_mask := F_a1_mask.ext E7
  have F_a1_key := F_a1_key.ext E7
  have F_a1_packed := F_a1_packed.ext E7
  have F_a1_table := F_a1_table.ext E7
  have F_a1_words := F_a1_words.ext E7
  have F_a1_count := F_a1_count.ext E7
  have A_a2 := A_a2.ext E7
  have A_a3 := A_a3.ext E7
  have E_b1 := E_b1.ext E7
  have A_b1 := A_b1.ext E7
  have A_b3 := A_b3.ext E7
  have E_b3 := E_b3.ext E7
  have A_b5 := A_b5.ext E7
  have E_b5 := E_b5.ext E7
  replace A_b7 : AF Z h7 b7 .long 3 (fun j => .long ((fun _ => (0 : Int64)) j)) := A_b7
  refine r_putfield 39 X (host := "") (Or.inl (hw _ (List.mem_of_getElem? (i := 37) rfl))) Via.refl F_a1_mask E_a1 (Or.inr ⟨(hw _ (List.mem_of_getElem? (i := 38) rfl)), rfl, rfl⟩) (hw _ (List.mem_of_getElem? (i := 13) rfl)) (ty := (.array .long)) (by decide) rfl rfl ga1 d4_36 ?_
  intro T h8 W8 X
  have K := K.wr W8 (Or.inl (List.mem_of_getElem? (i := 0) rfl))
  have E_a1 := E_a1.wr W8
  have E_a2 := E_a2.wr W8
  have F_a1_low := F_a1_low.other W8 (Or.inr (slot_ne (Or.inr (hw _ (List.mem_of_getElem? (i := 31) rfl))) (Or.inr (hw _ (List.mem_of_getElem? (i := 38) rfl))) (by decide) (t := (.array .int)) (t' := (.array .long)) (by decide) (by decide)))
  have F_a1_word := F_a1_word.other W8 (Or.inr (slot_ne (Or.inr (hw _ (List.mem_of_getElem? (i := 33) rfl))) (Or.inr (hw _ (List.mem_of_getElem? (i := 38) rfl))) (by decide) (t := (.array .int)) (t' := (.array .long)) (by decide) (by decide)))
  have F_a1_shift := F_a1_shift.other W8 (Or.inr (slot_ne (Or.inr (hw _ (List.mem_of_getElem? (i := 35) rfl))) (Or.inr (hw _ (List.mem_of_getElem? (i := 38) rfl))) (by decide) (t := (.array .int)) (t' := (.array .long)) (by decide) (by decide)))
  have F_a1_mask := F_a1_mask.same W8
  have F_a1_key := F_a1_key.other W8 (Or.inr (slot_ne (Or.inr (hw _ (List.mem_of_getElem? (i := 51) rfl))) (Or.inr (hw _ (List.mem_of_getElem? (i := 38) rfl))) (by decide) (t := (.array .long)) (t' := (.array .long)) (by decide) (by decide)))
  have F_a1_packed := F_a1_packed.other W8 (Or.inr (slot_ne (Or.inl (hw _ (List.mem_of_getElem? (i := 53) rfl))) (Or.inr (hw _ (List.mem_of_getElem? (i := 38) rfl))) (by decide) (t := (.array .long)) (t' := (.array .long)) (by decide) (by decide)))
  have F_a1_table := F_a1_table.other W8 (Or.inr (slot_ne (Or.inl (hw _ (List.mem_of_getElem? (i := 55) rfl))) (Or.inr (hw _ (List.mem_of_getElem? (i := 38) rfl))) (by decide) (t := (.array .int)) (t' := (.array .long)) (by decide) (by decide)))
  have F_a1_words := F_a1_words.other W8 (Or.inr (slot_ne (Or.inr (hw _ (List.mem_of_getElem? (i := 49) rfl))) (Or.inr (hw _ (List.mem_of_getElem? (i := 38) rfl))) (by decide) (t := .int) (t' := (.array .long)) (by decide) (by decide)))
  have F_a1_count := F_a1_count.other W8 (Or.inr (slot_ne (Or.inl (hw _ (List.mem_of_getElem? (i := 74) rfl))) (Or.inr (hw _ (List.mem_of_getElem? (i := 38) rfl))) (by decide) (t := .int) (t' := (.array .long)) (by decide) (by decide)))
  have A_a2 := A_a2.other W8 (Ne.symm ne_a1_a2)
  have A_a3 := A_a3.other W8 (Ne.symm ne_a1_a3)
  have E_b1 := E_b1.wr W8
  have A_b1 := A_b1.other W8 (Ne.symm ne_a1_b1)
  have A_b3 := A_b3.other W8 (Ne.symm ne_a1_b3)
  have E_b3 := E_b3.wr W8
  have A_b5 := A_b5.other W8 (Ne.symm ne_a1_b5)
  have E_b5 := E_b5.wr W8
  have A_b7 := A_b7.other W8 (Ne.symm ne_a1_b7)
  refine r_iconst 40 X (0 : Int32) d4_39 rfl ?_
  refine r_istoreN 41 X #[.val (.ref a1), .val (.ref a2), .val (.ref a3), .val (.int (0 : Int32)), .unset, .unset, .unset, .unset, .unset] d4_40 rfl ?_
  refine r_iconst 42 X (0 : Int32) d4_41 rfl ?_
  refine r_istore 44 X #[.val (.ref a1), .val (.ref a2), .val (.ref a3), .val (.int (0 : Int32)), .val (.int (0 : Int32)), .unset, .unset, .unset, .unset] d4_42 rfl ?_
  refine r_iconst 45 X (0 : Int32) d4_44 rfl ?_
  refine r_istore 47 X #[.val (.ref a1), .val (.ref a2), .val (.ref a3), .val (.int (0 : Int32)), .val (.int (0 : Int32)), .val (.int (0 : Int32)), .unset, .unset, .unset] d4_45 rfl ?_
  refine r_iload 49 X d4_47 rfl ?_
  refine r_aloadN 50 X d4_49 rfl rfl ?_
  refine r_arraylength 51 X A_a2 (3 : Int32) (by decide) d4_50 ?_
  refine r_icmpN 54 X d4_51 (tlt (by decide)).2.1 ?_
  refine r_aloadN 55 X d4_54 rfl rfl ?_
  refine r_iload 57 X d4_55 rfl ?_
  refine r_iaload 58 X A_a3 (i := 0) (v := (.int (fh 0))) (by decide) (by decide) rfl d4_57 ?_
  refine r_i2l 59 X d4_58 ?_
  refine r_aloadN 60 X d4_59 rfl rfl ?_
  refine r_iload 62 X d4_60 rfl ?_
  refine r_iaload 63 X A_a2 (i := 0) (v := (.int (fl 0))) (by decide) (by decide) rfl d4_62 ?_
  refine r_i2l 64 X d4_63 ?_
  refine r_lsub 65 X d4_64 ?_
  refine r_lstore 67 X #[.val (.ref a1), .val (.ref a2), .val (.ref a3), .val (.int (0 : Int32)), .val (.int (0 : Int32)), .val (.int (0 : Int32)), .val (.long (((fh 0).toInt64) - ((fl 0).toInt64))), .second, .unset] d4_65 rfl ?_
  refine r_bipush 69 X (64 : Int32) d4_67 rfl ?_
  refine r_lload 71 X d4_69 rfl ?_
  refine r_callS 74 X (st := [(.int (64 : Int32))]) (rmNlz l Z a0 hw n0 _ X.sz (((fh 0).toInt64) - ((fl 0).toInt64))) (hw _ (List.mem_of_getElem? (i := 39) rfl)) (hw _ (List.mem_of_getElem? (i := 40) rfl)) (hw _ (List.mem_of_getElem? (i := 42) rfl)) (hw _ (List.mem_of_getElem? (i := 41) rfl)) (by decide) pd_2 [(.long (((fh 0).toInt64) - ((fl 0).toInt64)))] rfl rfl 1 (Nat.le_of_eq rfl) rfl (by decide) (by decide) (by decide) (by decide) d4_71 ?_
  rintro T h9 v9 ⟨r9, R9, rfl, hr9, hR9, rfl⟩ X
  change Run _ _ _ _ _ _ _ _ [(.int r9), (.int (64 : Int32))]
  refine r_isub 75 X d4_74 ?_
  obtain ⟨w0, hw0, hb0, hD0⟩ := own_width (own_diff hd0) (by have := rng32 (fh 0); have := rng32 (fl 0); omega) hr9 hR9
  generalize ((64 : Int32) - r9) = wi0 at hw0 ⊢
  refine r_istore 77 X #[.val (.ref a1), .val (.ref a2), .val (.ref a3), .val (.int (0 : Int32)), .val (.int (0 : Int32)), .val (.int (0 : Int32)), .val (.long (((fh 0).toInt64) - ((fl 0).toInt64))), .second, .val (.int wi0)] d4_75 rfl ?_
  refine r_iload 79 X d4_77 rfl ?_
  refine r_iload 81 X d4_79 rfl ?_
  refine r_iadd 82 X d4_81 ?_
  refine r_bipush 84 X (64 : Int32) d4_82 rfl ?_
  have hu1 := (addI (x := (0 : Int32)) (a := 0) rfl hw0 (by omega) (by omega)).trans (show (0 : Int) + (w0 : Int) = (w0 : Int) by omega)
  obtain ⟨u1, hU1, hu1⟩ : ∃ u : Int32, ((0 : Int32) + wi0) = u ∧ u.toInt = (w0 : Int) := ⟨_, rfl, hu1⟩
  rw [hU1]
  refine r_icmpY 93 X d4_84 (flt (fun z => absurd ((ltI (x := (64 : Int32)) (a := 64) rfl hu1).mp z) (by omega))).2.2.2 ?_
  refine r_aloadN 94 X d4_93 rfl rfl ?_
  refine r_getfield 97 X (host := "") (Or.inl (hw _ (List.mem_of_getElem? (i := 32) rfl))) Via.refl F_a1_word d4_94 ?_
  intro T X
  refine r_iload 99 X d4_97 rfl ?_
  refine r_iloadN 100 X d4_99 rfl ?_
  refine r_iastore 101 X A_b3 (i := 0) (v := (.int (0 : Int32))) (by decide) (by decide) rfl gn_b3 d4_100 ?_
  intro T h10 W10 X
  have K := K.wr W10 (Or.inr sz_b3)
  have E_a1 := E_a1.wr W10
  have E_a2 := E_a2.wr W10
  have F_a1_low := F_a1_low.other W10 (Or.inl ne_a1_b3)
  have F_a1_word := F_a1_word.other W10 (Or.inl ne_a1_b3)
  have F_a1_shift := F_a1_shift.other W10 (Or.inl ne_a1_b3)
  have F_a1_mask := F_a1_mask.other W10 (Or.inl ne_a1_b3)
  have F_a1_key := F_a1_key.other W10 (Or.inl ne_a1_b3)
  have F_a1_packed := F_a1_packed.other W10 (Or.inl ne_a1_b3)
  have F_a1_table := F_a1_table.other W10 (Or.inl ne_a1_b3)
  have F_a1_words := F_a1_words.other W10 (Or.inl ne_a1_b3)
  have F_a1_count := F_a1_count.other W10 (Or.inl ne_a1_b3)
  have A_a2 := A_a2.other W10 ne_a2_b3
  have A_a3 := A_a3.other W10 ne_a3_b3
  have E_b1 := E_b1.wr W10
  have A_b1 := A_b1.other W10 ne_b1_b3
  have A_b3 := A_b3.setI W10
  have E_b3 := E_b3.wr W10
  have A_b5 := A_b5.other W10 (Ne.symm ne_b3_b5)
  have E_b5 := E_b5.wr W10
  have A_b7 := A_b7.other W10 (Ne.symm ne_b3_b7)
  refine r_aloadN 102 X d4_101 rfl rfl ?_
  refine r_getfield 105 X (host := "") (Or.inl (hw _ (List.mem_of_getElem? (i := 34) rfl))) Via.refl F_a1_shift d4_102 ?_
  intro T X
  refine r_iload 107 X d4_105 rfl ?_
  refine r_iload 109 X d4_107 rfl ?_
  refine r_iastore 110 X A_b5 (i := 0) (v := (.int (0 : Int32))) (by decide) (by decide) rfl gn_b5 d4_109 ?_
  intro T h11 W11 X
  have K := K.wr W11 (Or.inr sz_b5)
  have E_a1 := E_a1.wr W11
  have E_a2 := E_a2.wr W11
  have F_a1_low := F_a1_low.other W11 (Or.inl ne_a1_b5)
  have F_a1_word := F_a1_word.other W11 (Or.inl ne_a1_b5)
  have F_a1_shift := F_a1_shift.other W11 (Or.inl ne_a1_b5)
  have F_a1_mask := F_a1_mask.other W11 (Or.inl ne_a1_b5)
  have F_a1_key := F_a1_key.other W11 (Or.inl ne_a1_b5)
  have F_a1_packed := F_a1_packed.other W11 (Or.inl ne_a1_b5)
  have F_a1_table := F_a1_table.other W11 (Or.inl ne_a1_b5)
  have F_a1_words := F_a1_words.other W11 (Or.inl ne_a1_b5)
  have F_a1_count := F_a1_count.other W11 (Or.inl ne_a1_b5)
  have A_a2 := A_a2.other W11 ne_a2_b5
  have A_a3 := A_a3.other W11 ne_a3_b5
  have E_b1 := E_b1.wr W11
  have A_b1 := A_b1.other W11 ne_b1_b5
  have A_b3 := A_b3.other W11 ne_b3_b5
  have E_b3 := E_b3.wr W11
  have A_b5 := A_b5.setI W11
  have E_b5 := E_b5.wr W11
  have A_b7 := A_b7.other W11 (Ne.symm ne_b5_b7)
  refine r_aloadN 111 X d4_110 rfl rfl ?_
  refine r_getfield 114 X (host := "") (Or.inl (hw _ (List.mem_of_getElem? (i := 37) rfl))) Via.refl F_a1_mask d4_111 ?_
  intro T X
  refine r_iload 116 X d4_114 rfl ?_
  refine r_lconst 117 X (1 : Int64) d4_116 rfl ?_
  refine r_iload 119 X d4_117 rfl ?_
  refine r_lshl 120 X d4_119 ?_
  refine r_lconst 121 X (1 : Int64) d4_120 rfl ?_
  refine r_lsub 122 X d4_121 ?_
  have hm0 := own_maskN hw0 hb0
  generalize (((1 : Int64) <<< (wi0 &&& 0x3f).toInt64) - (1 : Int64)) = m0 at hm0 ⊢
  refine r_lastore 123 X A_b7 (i := 0) (v := (.long m0)) (by decide) (by decide) rfl gn_b7 d4_122 ?_
  intro T h12 W12 X
  have K := K.wr W12 (Or.inr sz_b7)
  have E_a1 := E_a1.wr W12
  have E_a2 := E_a2.wr W12
  have F_a1_low := F_a1_low.other W12 (Or.inl ne_a1_b7)
  have F_a1_word := F_a1_word.other W12 (Or.inl ne_a1_b7)
  have F_a1_shift := F_a1_shift.other W12 (Or.inl ne_a1_b7)
  have F_a1_mask := F_a1_mask.other W12 (Or.inl ne_a1_b7)
  have F_a1_key := F_a1_key.other W12 (Or.inl ne_a1_b7)
  have F_a1_packed := F_a1_packed.other W12 (Or.inl ne_a1_b7)
  have F_a1_table := F_a1_table.other W12 (Or.inl ne_a1_b7)
  have F_a1_words := F_a1_words.other W12 (Or.inl ne_a1_b7)
  have F_a1_count := F_a1_count.other W12 (Or.inl ne_a1_b7)
  have A_a2 := A_a2.other W12 ne_a2_b7
  have A_a3 := A_a3.other W12 ne_a3_b7
  have E_b1 := E_b1.wr W12
  have A_b1 := A_b1.other W12 ne_b1_b7
  have A_b3 := A_b3.other W12 ne_b3_b7
  have E_b3 := E_b3.wr W12
  have A_b5 := A_b5.other W12 ne_b5_b7
  have E_b5 := E_b5.wr W12
  have A_b7 := A_b7.setJ W12
  refine r_iload 125 X d4_123 rfl ?_
  refine r_iload 127 X d4_125 rfl ?_
  refine r_iadd 128 X d4_127 ?_
  refine r_topI hU1 ?_
  refine r_istore 130 X #[.val (.ref a1), .val (.ref a2), .val (.ref a3), .val (.int (0 : Int32)), .val (.int u1), .val (.int (0 : Int32)), .val (.long (((fh 0).toInt64) - ((fl 0).toInt64))), .second, .val (.int wi0)] d4_128 rfl ?_
  refine r_iinc 133 X (1 : Int32) #[.val (.ref a1), .val (.ref a2), .val (.ref a3), .val (.int (0 : Int32)), .val (.int u1), .val (.int (1 : Int32)), .val (.long (((fh 0).toInt64) - ((fl 0).toInt64))), .second, .val (.int wi0)] d4_130 rfl rfl rfl ?_
  refine r_goto 47 X d4_133 ?_
  refine r_iload 49 X d4_47 rfl ?_
  refine r_aloadN 50 X d4_49 rfl rfl ?_
  refine r_arraylength 51 X A_a2 (3 : Int32) (by decide) d4_50 ?_
  refine r_icmpN 54 X d4_51 (tlt (by decide)).2.1 ?_
  refine r_aloadN 55 X d4_54 rfl rfl ?_
  refine r_iload 57 X d4_55 rfl ?_
  refine r_iaload 58 X A_a3 (i := 1) (v := (.int (fh 1))) (by decide) (by decide) rfl d4_57 ?_
  refine r_i2l 59 X d4_58 ?_
  refine r_aloadN 60 X d4_59 rfl rfl ?_
  refine r_iload 62 X d4_60 rfl ?_
  refine r_iaload 63 X A_a2 (i := 1) (v := (.int (fl 1))) (by decide) (by decide) rfl d4_62 ?_
  refine r_i2l 64 X d4_63 ?_
  refine r_lsub 65 X d4_64 ?_
  refine r_lstore 67 X #[.val (.ref a1), .val (.ref a2), .val (.ref a3), .val (.int (0 : Int32)), .val (.int u1), .val (.int (1 : Int32)), .val (.long (((fh 1).toInt64) - ((fl 1).toInt64))), .second, .val (.int wi0)] d4_65 rfl ?_
  refine r_bipush 69 X (64 : Int32) d4_67 rfl ?_
  refine r_lload 71 X d4_69 rfl ?_
  refine r_callS 74 X (st := [(.int (64 : Int32))]) (rmNlz l Z a0 hw n0 _ X.sz (((fh 1).toInt64) - ((fl 1).toInt64))) (hw _ (List.mem_of_getElem? (i := 39) rfl)) (hw _ (List.mem_of_getElem? (i := 40) rfl)) (hw _ (List.mem_of_getElem? (i := 42) rfl)) (hw _ (List.mem_of_getElem? (i := 41) rfl)) (by decide) pd_2 [(.long (((fh 1).toInt64) - ((fl 1).toInt64)))] rfl rfl 1 (Nat.le_of_eq rfl) rfl (by decide) (by decide) (by decide) (by decide) d4_71 ?_
  rintro T h13 v13 ⟨r13, R13, rfl, hr13, hR13, rfl⟩ X
  change Run _ _ _ _ _ _ _ _ [(.int r13), (.int (64 : Int32))]
  refine r_isub 75 X d4_74 ?_
  obtain ⟨w1, hw1, hb1, hD1⟩ := own_width (own_diff hd1) (by have := rng32 (fh 1); have := rng32 (fl 1); omega) hr13 hR13
  generalize ((64 : Int32) - r13) = wi1 at hw1 ⊢
  refine r_istore 77 X #[.val (.ref a1), .val (.ref a2), .val (.ref a3), .val (.int (0 : Int32)), .val (.int u1), .val (.int (1 : Int32)), .val (.long (((fh 1).toInt64) - ((fl 1).toInt64))), .second, .val (.int wi1)] d4_75 rfl ?_
  refine r_iload 79 X d4_77 rfl ?_
  refine r_iload 81 X d4_79 rfl ?_
  refine r_iadd 82 X d4_81 ?_
  refine r_bipush 84 X (64 : Int32) d4_82 rfl ?_
  have hu2 := (addI hu1 hw1 (by omega) (by omega)).trans (show (w0 : Int) + (w1 : Int) = ((w0 + w1 : Nat) : Int) by omega)
  obtain ⟨u2, hU2, hu2⟩ : ∃ u : Int32, (u1 + wi1) = u ∧ u.toInt = ((w0 + w1 : Nat) : Int) := ⟨_, rfl, hu2⟩
  rw [hU2]
  refine r_icmpY 93 X d4_84 (flt (fun z => absurd ((ltI (x := (64 : Int32)) (a := 64) rfl hu2).mp z) (by omega))).2.2.2 ?_
  refine r_aloadN 94 X d4_93 rfl rfl ?_
  refine r_getfield 97 X (host := "") (Or.inl (hw _ (List.mem_of_getElem? (i := 32) rfl))) Via.refl F_a1_word d4_94 ?_
  intro T X
  refine r_iload 99 X d4_97 rfl ?_
  refine r_iloadN 100 X d4_99 rfl ?_
  refine r_iastore 101 X A_b3 (i := 1) (v := (.int (0 : Int32))) (by decide) (by decide) rfl gn_b3 d4_100 ?_
  intro T h14 W14 X
  have K := K.wr W14 (Or.inr sz_b3)
  have E_a1 := E_a1.wr W14
  have E_a2 := E_a2.wr W14
  have F_a1_low := F_a1_low.other W14 (Or.inl ne_a1_b3)
  have F_a1_word := F_a1_word.other W14 (Or.inl ne_a1_b3)
  have F_a1_shift := F_a1_shift.other W14 (Or.inl ne_a1_b3)
  have F_a1_mask := F_a1_mask.other W14 (Or.inl ne_a1_b3)
  have F_a1_key := F_a1_key.other W14 (Or.inl ne_a1_b3)
  have F_a1_packed := F_a1_packed.other W14 (Or.inl ne_a1_b3)
  have F_a1_table := F_a1_table.other W14 (Or.inl ne_a1_b3)
  have F_a1_words := F_a1_words.other W14 (Or.inl ne_a1_b3)
  have F_a1_count := F_a1_count.other W14 (Or.inl ne_a1_b3)
  have A_a2 := A_a2.other W14 ne_a2_b3
  have A_a3 := A_a3.other W14 ne_a3_b3
  have E_b1 := E_b1.wr W14
  have A_b1 := A_b1.other W14 ne_b1_b3
  have A_b3 := A_b3.setI W14
  have E_b3 := E_b3.wr W14
  have A_b5 := A_b5.other W14 (Ne.symm ne_b3_b5)
  have E_b5 := E_b5.wr W14
  have A_b7 := A_b7.other W14 (Ne.symm ne_b3_b7)
  refine r_aloadN 102 X d4_101 rfl rfl ?_
  refine r_getfield 105 X (host := "") (Or.inl (hw _ (List.mem_of_getElem? (i := 34) rfl))) Via.refl F_a1_shift d4_102 ?_
  intro T X
  refine r_iload 107 X d4_105 rfl ?_
  refine r_iload 109 X d4_107 rfl ?_
  refine r_iastore 110 X A_b5 (i := 1) (v := (.int u1)) (by decide) (by decide) rfl gn_b5 d4_109 ?_
  intro T h15 W15 X
  have K := K.wr W15 (Or.inr sz_b5)
  have E_a1 := E_a1.wr W15
  have E_a2 := E_a2.wr W15
  have F_a1_low := F_a1_low.other W15 (Or.inl ne_a1_b5)
  have F_a1_word := F_a1_word.other W15 (Or.inl ne_a1_b5)
  have F_a1_shift := F_a1_shift.other W15 (Or.inl ne_a1_b5)
  have F_a1_mask := F_a1_mask.other W15 (Or.inl ne_a1_b5)
  have F_a1_key := F_a1_key.other W15 (Or.inl ne_a1_b5)
  have F_a1_packed := F_a1_packed.other W15 (Or.inl ne_a1_b5)
  have F_a1_table := F_a1_table.other W15 (Or.inl ne_a1_b5)
  have F_a1_words := F_a1_words.other W15 (Or.inl ne_a1_b5)
  have F_a1_count := F_a1_count.other W15 (Or.inl ne_a1_b5)
  have A_a2 := A_a2.other W15 ne_a2_b5
  have A_a3 := A_a3.other W15 ne_a3_b5
  have E_b1 := E_b1.wr W15
  have A_b1 := A_b1.other W15 ne_b1_b5
  have A_b3 := A_b3.other W15 ne_b3_b5
  have E_b3 := E_b3.wr W15
  have A_b5 := A_b5.setI W15
  have E_b5 := E_b5.wr W15
  have A_b7 := A_b7.other W15 (Ne.symm ne_b5_b7)
  refine r_aloadN 111 X d4_110 rfl rfl ?_
  refine r_getfield 114 X (host := "") (Or.inl (hw _ (List.mem_of_getElem? (i := 37) rfl))) Via.refl F_a1_mask d4_111 ?_
  intro T X
  refine r_iload 116 X d4_114 rfl ?_
  refine r_lconst 117 X (1 : Int64) d4_116 rfl ?_
  refine r_iload 119 X d4_117 rfl ?_
  refine r_lshl 120 X d4_119 ?_
  refine r_lconst 121 X (1 : Int64) d4_120 rfl ?_
  refine r_lsub 122 X d4_121 ?_
  have hm1 := own_maskN hw1 hb1
  generalize (((1 : Int64) <<< (wi1 &&& 0x3f).toInt64) - (1 : Int64)) = m1 at hm1 ⊢
  refine r_lastore 123 X A_b7 (i := 1) (v := (.long m1)) (by decide) (by decide) rfl gn_b7 d4_122 ?_
  intro T h16 W16 X
  have K := K.wr W16 (Or.inr sz_b7)
  have E_a1 := E_a1.wr W16
  have E_a2 := E_a2.wr W16
  have F_a1_low := F_a1_low.other W16 (Or.inl ne_a1_b7)
  have F_a1_word := F_a1_word.other W16 (Or.inl ne_a1_b7)
  have F_a1_shift := F_a1_shift.other W16 (Or.inl ne_a1_b7)
  have F_a1_mask := F_a1_mask.other W16 (Or.inl ne_a1_b7)
  have F_a1_key := F_a1_key.other W16 (Or.inl ne_a1_b7)
  have F_a1_packed := F_a1_packed.other W16 (Or.inl ne_a1_b7)
  have F_a1_table := F_a1_table.other W16 (Or.inl ne_a1_b7)
  have F_a1_words := F_a1_words.other W16 (Or.inl ne_a1_b7)
  have F_a1_count := F_a1_count.other W16 (Or.inl ne_a1_b7)
  have A_a2 := A_a2.other W16 ne_a2_b7
  have A_a3 := A_a3.other W16 ne_a3_b7
  have E_b1 := E_b1.wr W16
  have A_b1 := A_b1.other W16 ne_b1_b7
  have A_b3 := A_b3.other W16 ne_b3_b7
  have E_b3 := E_b3.wr W16
  have A_b5 := A_b5.other W16 ne_b5_b7
  have E_b5 := E_b5.wr W16
  have A_b7 := A_b7.setJ W16
  refine r_iload 125 X d4_123 rfl ?_
  refine r_iload 127 X d4_125 rfl ?_
  refine r_iadd 128 X d4_127 ?_
  refine r_topI hU2 ?_
  refine r_istore 130 X #[.val (.ref a1), .val (.ref a2), .val (.ref a3), .val (.int (0 : Int32)), .val (.int u2), .val (.int (1 : Int32)), .val (.long (((fh 1).toInt64) - ((fl 1).toInt64))), .second, .val (.int wi1)] d4_128 rfl ?_
  refine r_iinc 133 X (1 : Int32) #[.val (.ref a1), .val (.ref a2), .val (.ref a3), .val (.int (0 : Int32)), .val (.int u2), .val (.int (2 : Int32)), .val (.long (((fh 1).toInt64) - ((fl 1).toInt64))), .second, .val (.int wi1)] d4_130 rfl rfl rfl ?_
  refine r_goto 47 X d4_133 ?_
  refine r_iload 49 X d4_47 rfl ?_
  refine r_aloadN 50 X d4_49 rfl rfl ?_
  refine r_arraylength 51 X A_a2 (3 : Int32) (by decide) d4_50 ?_
  refine r_icmpN 54 X d4_51 (tlt (by decide)).2.1 ?_
  refine r_aloadN 55 X d4_54 rfl rfl ?_
  refine r_iload 57 X d4_55 rfl ?_
  refine r_iaload 58 X A_a3 (i := 2) (v := (.int (fh 2))) (by decide) (by decide) rfl d4_57 ?_
  refine r_i2l 59 X d4_58 ?_
  refine r_aloadN 60 X d4_59 rfl rfl ?_
  refine r_iload 62 X d4_60 rfl ?_
  refine r_iaload 63 X A_a2 (i := 2) (v := (.int (fl 2))) (by decide) (by decide) rfl d4_62 ?_
  refine r_i2l 64 X d4_63 ?_
  refine r_lsub 65 X d4_64 ?_
  refine r_lstore 67 X #[.val (.ref a1), .val (.ref a2), .val (.ref a3), .val (.int (0 : Int32)), .val (.int u2), .val (.int (2 : Int32)), .val (.long (((fh 2).toInt64) - ((fl 2).toInt64))), .second, .val (.int wi1)] d4_65 rfl ?_
  refine r_bipush 69 X (64 : Int32) d4_67 rfl ?_
  refine r_lload 71 X d4_69 rfl ?_
  refine r_callS 74 X (st := [(.int (64 : Int32))]) (rmNlz l Z a0 hw n0 _ X.sz (((fh 2).toInt64) - ((fl 2).toInt64))) (hw _ (List.mem_of_getElem? (i := 39) rfl)) (hw _ (List.mem_of_getElem? (i := 40) rfl)) (hw _ (List.mem_of_getElem? (i := 42) rfl)) (hw _ (List.mem_of_getElem? (i := 41) rfl)) (by decide) pd_2 [(.long (((fh 2).toInt64) - ((fl 2).toInt64)))] rfl rfl 1 (Nat.le_of_eq rfl) rfl (by decide) (by decide) (by decide) (by decide) d4_71 ?_
  rintro T h17 v17 ⟨r17, R17, rfl, hr17, hR17, rfl⟩ X
  change Run _ _ _ _ _ _ _ _ [(.int r17), (.int (64 : Int32))]
  refine r_isub 75 X d4_74 ?_
  obtain ⟨w2, hw2, hb2, hD2⟩ := own_width (own_diff hd2) (by have := rng32 (fh 2); have := rng32 (fl 2); omega) hr17 hR17
  generalize ((64 : Int32) - r17) = wi2 at hw2 ⊢
  refine r_istore 77 X #[.val (.ref a1), .val (.ref a2), .val (.ref a3), .val (.int (0 : Int32)), .val (.int u2), .val (.int (2 : Int32)), .val (.long (((fh 2).toInt64) - ((fl 2).toInt64))), .second, .val (.int wi2)] d4_75 rfl ?_
  refine r_iload 79 X d4_77 rfl ?_
  refine r_iload 81 X d4_79 rfl ?_
  refine r_iadd 82 X d4_81 ?_
  refine r_bipush 84 X (64 : Int32) d4_82 rfl ?_
  have hu3 := (addI hu2 hw2 (by omega) (by omega))
  by_cases h84_18 : (64 : Int32) < (u2 + wi2)
  · refine r_icmpN 87 X d4_84 (tlt h84_18).2.2.2 ?_
    refine r_iinc 90 X (1 : Int32) #[.val (.ref a1), .val (.ref a2), .val (.ref a3), .val (.int (1 : Int32)), .val (.int u2), .val (.int (2 : Int32)), .val (.long (((fh 2).toInt64) - ((fl 2).toInt64))), .second, .val (.int wi2)] d4_87 rfl rfl rfl ?_
    refine r_iconst 91 X (0 : Int32) d4_90 rfl ?_
    refine r_istore 93 X #[.val (.ref a1), .val (.ref a2), .val (.ref a3), .val (.int (1 : Int32)), .val (.int (0 : Int32)), .val (.int (2 : Int32)), .val (.long (((fh 2).toInt64) - ((fl 2).toInt64))), .second, .val (.int wi2)] d4_91 rfl ?_
    refine r_aloadN 94 X d4_93 rfl rfl ?_
    refine r_getfield 97 X (host := "") (Or.inl (hw _ (List.mem_of_getElem? (i := 32) rfl))) Via.refl F_a1_word d4_94 ?_
    intro T X
    refine r_iload 99 X d4_97 rfl ?_
    refine r_iloadN 100 X d4_99 rfl ?_
    refine r_iastore 101 X A_b3 (i := 2) (v := (.int (1 : Int32))) (by decide) (by decide) rfl gn_b3 d4_100 ?_
    intro T h19 W19 X
    have K := K.wr W19 (Or.inr sz_b3)
    have E_a1 := E_a1.wr W19
    have E_a2 := E_a2.wr W19
    have F_a1_low := F_a1_low.other W19 (Or.inl ne_a1_b3)
    have F_a1_word := F_a1_word.other W19 (Or.inl ne_a1_b3)
    have F_a1_shift := F_a1_shift.other W19 (Or.inl ne_a1_b3)
    have F_a1_mask := F_a1_mask.other W19 (Or.inl ne_a1_b3)
    have F_a1_key := F_a1_key.other W19 (Or.inl ne_a1_b3)
    have F_a1_packed := F_a1_packed.other W19 (Or.inl ne_a1_b3)
    have F_a1_table := F_a1_table.other W19 (Or.inl ne_a1_b3)
    have F_a1_words := F_a1_words.other W19 (Or.inl ne_a1_b3)
    have F_a1_count := F_a1_count.other W19 (Or.inl ne_a1_b3)
    have A_a2 := A_a2.other W19 ne_a2_b3
    have A_a3 := A_a3.other W19 ne_a3_b3
    have E_b1 := E_b1.wr W19
    have A_b1 := A_b1.other W19 ne_b1_b3
    have A_b3 := A_b3.setI W19
    have E_b3 := E_b3.wr W19
    have A_b5 := A_b5.other W19 (Ne.symm ne_b3_b5)
    have E_b5 := E_b5.wr W19
    have A_b7 := A_b7.other W19 (Ne.symm ne_b3_b7)
    refine r_aloadN 102 X d4_101 rfl rfl ?_
    refine r_getfield 105 X (host := "") (Or.inl (hw _ (List.mem_of_getElem? (i := 34) rfl))) Via.refl F_a1_shift d4_102 ?_
    intro T X
    refine r_iload 107 X d4_105 rfl ?_
    refine r_iload 109 X d4_107 rfl ?_
    refine r_iastore 110 X A_b5 (i := 2) (v := (.int (0 : Int32))) (by decide) (by decide) rfl gn_b5 d4_109 ?_
    intro T h20 W20 X
    have K := K.wr W20 (Or.inr sz_b5)
    have E_a1 := E_a1.wr W20
    have E_a2 := E_a2.wr W20
    have F_a1_low := F_a1_low.other W20 (Or.inl ne_a1_b5)
    have F_a1_word := F_a1_word.other W20 (Or.inl ne_a1_b5)
    have F_a1_shift := F_a1_shift.other W20 (Or.inl ne_a1_b5)
    have F_a1_mask := F_a1_mask.other W20 (Or.inl ne_a1_b5)
    have F_a1_key := F_a1_key.other W20 (Or.inl ne_a1_b5)
    have F_a1_packed := F_a1_packed.other W20 (Or.inl ne_a1_b5)
    have F_a1_table := F_a1_table.other W20 (Or.inl ne_a1_b5)
    have F_a1_words := F_a1_words.other W20 (Or.inl ne_a1_b5)
    have F_a1_count := F_a1_count.other W20 (Or.inl ne_a1_b5)
    have A_a2 := A_a2.other W20 ne_a2_b5
    have A_a3 := A_a3.other W20 ne_a3_b5
    have E_b1 := E_b1.wr W20
    have A_b1 := A_b1.other W20 ne_b1_b5
    have A_b3 := A_b3.other W20 ne_b3_b5
    have E_b3 := E_b3.wr W20
    have A_b5 := A_b5.setI W20
    have E_b5 := E_b5.wr W20
    have A_b7 := A_b7.other W20 (Ne.symm ne_b5_b7)
    refine r_aloadN 111 X d4_110 rfl rfl ?_
    refine r_getfield 114 X (host := "") (Or.inl (hw _ (List.mem_of_getElem? (i := 37) rfl))) Via.refl F_a1_mask d4_111 ?_
    intro T X
    refine r_iload 116 X d4_114 rfl ?_
    refine r_lconst 117 X (1 : Int64) d4_116 rfl ?_
    refine r_iload 119 X d4_117 rfl ?_
    refine r_lshl 120 X d4_119 ?_
    refine r_lconst 121 X (1 : Int64) d4_120 rfl ?_
    refine r_lsub 122 X d4_121 ?_
    have hm2 := own_maskN hw2 hb2
    generalize (((1 : Int64) <<< (wi2 &&& 0x3f).toInt64) - (1 : Int64)) = m2 at hm2 ⊢
    refine r_lastore 123 X A_b7 (i := 2) (v := (.long m2)) (by decide) (by decide) rfl gn_b7 d4_122 ?_
    intro T h21 W21 X
    have K := K.wr W21 (Or.inr sz_b7)
    have E_a1 := E_a1.wr W21
    have E_a2 := E_a2.wr W21
    have F_a1_low := F_a1_low.other W21 (Or.inl ne_a1_b7)
    have F_a1_word := F_a1_word.other W21 (Or.inl ne_a1_b7)
    have F_a1_shift := F_a1_shift.other W21 (Or.inl ne_a1_b7)
    have F_a1_mask := F_a1_mask.other W21 (Or.inl ne_a1_b7)
    have F_a1_key := F_a1_key.other W21 (Or.inl ne_a1_b7)
    have F_a1_packed := F_a1_packed.other W21 (Or.inl ne_a1_b7)
    have F_a1_table := F_a1_table.other W21 (Or.inl ne_a1_b7)
    have F_a1_words := F_a1_words.other W21 (Or.inl ne_a1_b7)
    have F_a1_count := F_a1_count.other W21 (Or.inl ne_a1_b7)
    have A_a2 := A_a2.other W21 ne_a2_b7
    have A_a3 := A_a3.other W21 ne_a3_b7
    have E_b1 := E_b1.wr W21
    have A_b1 := A_b1.other W21 ne_b1_b7
    have A_b3 := A_b3.other W21 ne_b3_b7
    have E_b3 := E_b3.wr W21
    have A_b5 := A_b5.other W21 ne_b5_b7
    have E_b5 := E_b5.wr W21
    have A_b7 := A_b7.setJ W21
    refine r_iload 125 X d4_123 rfl ?_
    refine r_iload 127 X d4_125 rfl ?_
    refine r_iadd 128 X d4_127 ?_
    refine r_istore 130 X #[.val (.ref a1), .val (.ref a2), .val (.ref a3), .val (.int (1 : Int32)), .val (.int ((0 : Int32) + wi2)), .val (.int (2 : Int32)), .val (.long (((fh 2).toInt64) - ((fl 2).toInt64))), .second, .val (.int wi2)] d4_128 rfl ?_
    refine r_iinc 133 X (1 : Int32) #[.val (.ref a1), .val (.ref a2), .val (.ref a3), .val (.int (1 : Int32)), .val (.int ((0 : Int32) + wi2)), .val (.int (3 : Int32)), .val (.long (((fh 2).toInt64) - ((fl 2).toInt64))), .second, .val (.int wi2)] d4_130 rfl rfl rfl ?_
    refine r_goto 47 X d4_133 ?_
    refine r_iload 49 X d4_47 rfl ?_
    refine r_aloadN 50 X d4_49 rfl rfl ?_
    refine r_arraylength 51 X A_a2 (3 : Int32) (by decide) d4_50 ?_
    refine r_icmpY 136 X d4_51 (flt (by decide)).2.1 ?_
    refine r_aloadN 137 X d4_136 rfl rfl ?_
    refine r_iloadN 138 X d4_137 rfl ?_
    refine r_iconst 139 X (1 : Int32) d4_138 rfl ?_
    refine r_iadd 140 X d4_139 ?_
    refine r_topI (x' := (2 : Int32)) (by decide) ?_
    refine r_putfield 143 X (host := "") (Or.inl (hw _ (List.mem_of_getElem? (i := 48) rfl))) Via.refl F_a1_words E_a1 (Or.inr ⟨(hw _ (List.mem_of_getElem? (i := 49) rfl)), rfl, rfl⟩) (hw _ (List.mem_of_getElem? (i := 13) rfl)) (ty := .int) (by decide) rfl rfl ga1 d4_140 ?_
    intro T h22 W22 X
    have K := K.wr W22 (Or.inl (List.mem_of_getElem? (i := 0) rfl))
    have E_a1 := E_a1.wr W22
    have E_a2 := E_a2.wr W22
    have F_a1_low := F_a1_low.other W22 (Or.inr (slot_ne (Or.inr (hw _ (List.mem_of_getElem? (i := 31) rfl))) (Or.inr (hw _ (List.mem_of_getElem? (i := 49) rfl))) (by decide) (t := (.array .int)) (t' := .int) (by decide) (by decide)))
    have F_a1_word := F_a1_word.other W22 (Or.inr (slot_ne (Or.inr (hw _ (List.mem_of_getElem? (i := 33) rfl))) (Or.inr (hw _ (List.mem_of_getElem? (i := 49) rfl))) (by decide) (t := (.array .int)) (t' := .int) (by decide) (by decide)))
    have F_a1_shift := F_a1_shift.other W22 (Or.inr (slot_ne (Or.inr (hw _ (List.mem_of_getElem? (i := 35) rfl))) (Or.inr (hw _ (List.mem_of_getElem? (i := 49) rfl))) (by decide) (t := (.array .int)) (t' := .int) (by decide) (by decide)))
    have F_a1_mask := F_a1_mask.other W22 (Or.inr (slot_ne (Or.inr (hw _ (List.mem_of_getElem? (i := 38) rfl))) (Or.inr (hw _ (List.mem_of_getElem? (i := 49) rfl))) (by decide) (t := (.array .long)) (t' := .int) (by decide) (by decide)))
    have F_a1_key := F_a1_key.other W22 (Or.inr (slot_ne (Or.inr (hw _ (List.mem_of_getElem? (i := 51) rfl))) (Or.inr (hw _ (List.mem_of_getElem? (i := 49) rfl))) (by decide) (t := (.array .long)) (t' := .int) (by decide) (by decide)))
    have F_a1_packed := F_a1_packed.other W22 (Or.inr (slot_ne (Or.inl (hw _ (List.mem_of_getElem? (i := 53) rfl))) (Or.inr (hw _ (List.mem_of_getElem? (i := 49) rfl))) (by decide) (t := (.array .long)) (t' := .int) (by decide) (by decide)))
    have F_a1_table := F_a1_table.other W22 (Or.inr (slot_ne (Or.inl (hw _ (List.mem_of_getElem? (i := 55) rfl))) (Or.inr (hw _ (List.mem_of_getElem? (i := 49) rfl))) (by decide) (t := (.array .int)) (t' := .int) (by decide) (by decide)))
    have F_a1_words := F_a1_words.same W22
    have F_a1_count := F_a1_count.other W22 (Or.inr (slot_ne (Or.inl (hw _ (List.mem_of_getElem? (i := 74) rfl))) (Or.inr (hw _ (List.mem_of_getElem? (i := 49) rfl))) (by decide) (t := .int) (t' := .int) (by decide) (by decide)))
    have A_a2 := A_a2.other W22 (Ne.symm ne_a1_a2)
    have A_a3 := A_a3.other W22 (Ne.symm ne_a1_a3)
    have E_b1 := E_b1.wr W22
    have A_b1 := A_b1.other W22 (Ne.symm ne_a1_b1)
    have A_b3 := A_b3.other W22 (Ne.symm ne_a1_b3)
    have E_b3 := E_b3.wr W22
    have A_b5 := A_b5.other W22 (Ne.symm ne_a1_b5)
    have E_b5 := E_b5.wr W22
    have A_b7 := A_b7.other W22 (Ne.symm ne_a1_b7)
    refine r_aloadN 144 X d4_143 rfl rfl ?_
    refine r_aloadN 145 X d4_144 rfl rfl ?_
    refine r_getfield 148 X (host := "") (Or.inl (hw _ (List.mem_of_getElem? (i := 48) rfl))) Via.refl F_a1_words d4_145 ?_
    intro T X
    refine r_newarray 150 X 2 2 (hw _ (List.mem_of_getElem? (i := 36) rfl)) d4_148 (by decide) (by decide) (by decide) (by decide) (by decide) ?_
    intro T h23 b23 g23 gn_b23 E23 A_b23 X
    have sz_b23 : h.size ≤ b23 := Nat.le_trans K.1 (Nat.le_of_eq g23.symm)
    have ne_b3_b23 : b3 ≠ b23 := Nat.ne_of_lt (Nat.lt_of_lt_of_eq A_b3.lt g23.symm)
    have ne_b1_b23 : b1 ≠ b23 := Nat.ne_of_lt (Nat.lt_of_lt_of_eq E_b1.lt g23.symm)
    have ne_a3_b23 : a3 ≠ b23 := Nat.ne_of_lt (Nat.lt_of_lt_of_eq A_a3.lt g23.symm)
    have ne_b5_b23 : b5 ≠ b23 := Nat.ne_of_lt (Nat.lt_of_lt_of_eq A_b5.lt g23.symm)
    have ne_b7_b23 : b7 ≠ b23 := Nat.ne_of_lt (Nat.lt_of_lt_of_eq A_b7.lt g23.symm)
    have ne_a2_b23 : a2 ≠ b23 := Nat.ne_of_lt (Nat.lt_of_lt_of_eq E_a2.lt g23.symm)
    have ne_a1_b23 : a1 ≠ b23 := Nat.ne_of_lt (Nat.lt_of_lt_of_eq E_a1.lt g23.symm)
    have K := K.ext E23
    have E_a1 := E_a1.ext E23
    have E_a2 := E_a2.ext E23
    have F_a1_low := F_a1_low.ext E23
    have F_a1_word := F_a1_word.ext E23
    have F_a1_shift := F_a1_shift.ext E23
    have F_a1_mask := F_a1_mask.ext E23
    have F_a1_key := F_a1_key.ext E23
    have F_a1_packed := F_a1_packed.ext E23
    have F_a1_table := F_a1_table.ext E23
    have F_a1_words := F_a1_words.ext E23
    have F_a1_count := F_a1_count.ext E23
    have A_a2 := A_a2.ext E23
    have A_a3 := A_a3.ext E23
    have E_b1 := E_b1.ext E23
    have A_b1 := A_b1.ext E23
    have A_b3 := A_b3.ext E23
    have E_b3 := E_b3.ext E23
    have A_b5 := A_b5.ext E23
    have E_b5 := E_b5.ext E23
    have A_b7 := A_b7.ext E23
    replace A_b23 : AF Z h23 b23 .long 2 (fun j => .long ((fun _ => (0 : Int64)) j)) := A_b23
    refine r_putfield 153 X (host := "") (Or.inl (hw _ (List.mem_of_getElem? (i := 50) rfl))) Via.refl F_a1_key E_a1 (Or.inr ⟨(hw _ (List.mem_of_getElem? (i := 51) rfl)), rfl, rfl⟩) (hw _ (List.mem_of_getElem? (i := 13) rfl)) (ty := (.array .long)) (by decide) rfl rfl ga1 d4_150 ?_
    intro T h24 W24 X
    have K := K.wr W24 (Or.inl (List.mem_of_getElem? (i := 0) rfl))
    have E_a1 := E_a1.wr W24
    have E_a2 := E_a2.wr W24
    have F_a1_low := F_a1_low.other W24 (Or.inr (slot_ne (Or.inr (hw _ (List.mem_of_getElem? (i := 31) rfl))) (Or.inr (hw _ (List.mem_of_getElem? (i := 51) rfl))) (by decide) (t := (.array .int)) (t' := (.array .long)) (by decide) (by decide)))
    have F_a1_word := F_a1_word.other W24 (Or.inr (slot_ne (Or.inr (hw _ (List.mem_of_getElem? (i := 33) rfl))) (Or.inr (hw _ (List.mem_of_getElem? (i := 51) rfl))) (by decide) (t := (.array .int)) (t' := (.array .long)) (by decide) (by decide)))
    have F_a1_shift := F_a1_shift.other W24 (Or.inr (slot_ne (Or.inr (hw _ (List.mem_of_getElem? (i := 35) rfl))) (Or.inr (hw _ (List.mem_of_getElem? (i := 51) rfl))) (by decide) (t := (.array .int)) (t' := (.array .long)) (by decide) (by decide)))
    have F_a1_mask := F_a1_mask.other W24 (Or.inr (slot_ne (Or.inr (hw _ (List.mem_of_getElem? (i := 38) rfl))) (Or.inr (hw _ (List.mem_of_getElem? (i := 51) rfl))) (by decide) (t := (.array .long)) (t' := (.array .long)) (by decide) (by decide)))
    have F_a1_key := F_a1_key.same W24
    have F_a1_packed := F_a1_packed.other W24 (Or.inr (slot_ne (Or.inl (hw _ (List.mem_of_getElem? (i := 53) rfl))) (Or.inr (hw _ (List.mem_of_getElem? (i := 51) rfl))) (by decide) (t := (.array .long)) (t' := (.array .long)) (by decide) (by decide)))
    have F_a1_table := F_a1_table.other W24 (Or.inr (slot_ne (Or.inl (hw _ (List.mem_of_getElem? (i := 55) rfl))) (Or.inr (hw _ (List.mem_of_getElem? (i := 51) rfl))) (by decide) (t := (.array .int)) (t' := (.array .long)) (by decide) (by decide)))
    have F_a1_words := F_a1_words.other W24 (Or.inr (slot_ne (Or.inr (hw _ (List.mem_of_getElem? (i := 49) rfl))) (Or.inr (hw _ (List.mem_of_getElem? (i := 51) rfl))) (by decide) (t := .int) (t' := (.array .long)) (by decide) (by decide)))
    have F_a1_count := F_a1_count.other W24 (Or.inr (slot_ne (Or.inl (hw _ (List.mem_of_getElem? (i := 74) rfl))) (Or.inr (hw _ (List.mem_of_getElem? (i := 51) rfl))) (by decide) (t := .int) (t' := (.array .long)) (by decide) (by decide)))
    have A_a2 := A_a2.other W24 (Ne.symm ne_a1_a2)
    have A_a3 := A_a3.other W24 (Ne.symm ne_a1_a3)
    have E_b1 := E_b1.wr W24
    have A_b1 := A_b1.other W24 (Ne.symm ne_a1_b1)
    have A_b3 := A_b3.other W24 (Ne.symm ne_a1_b3)
    have E_b3 := E_b3.wr W24
    have A_b5 := A_b5.other W24 (Ne.symm ne_a1_b5)
    have E_b5 := E_b5.wr W24
    have A_b7 := A_b7.other W24 (Ne.symm ne_a1_b7)
    have A_b23 := A_b23.other W24 (Ne.symm ne_a1_b23)
    refine r_aloadN 154 X d4_153 rfl rfl ?_
    refine r_bipush 156 X (16 : Int32) d4_154 rfl ?_
    refine r_aloadN 157 X d4_156 rfl rfl ?_
    refine r_getfield 160 X (host := "") (Or.inl (hw _ (List.mem_of_getElem? (i := 48) rfl))) Via.refl F_a1_words d4_157 ?_
    intro T X
    refine r_imul 161 X d4_160 ?_
    refine r_topI (x' := (32 : Int32)) (by decide) ?_
    refine r_newarray 163 X 32 32 (hw _ (List.mem_of_getElem? (i := 36) rfl)) d4_161 (by decide) (by decide) (by decide) (by decide) (by decide) ?_
    intro T h25 b25 g25 gn_b25 E25 A_b25 X
    have sz_b25 : h.size ≤ b25 := Nat.le_trans K.1 (Nat.le_of_eq g25.symm)
    have ne_b3_b25 : b3 ≠ b25 := Nat.ne_of_lt (Nat.lt_of_lt_of_eq A_b3.lt g25.symm)
    have ne_b23_b25 : b23 ≠ b25 := Nat.ne_of_lt (Nat.lt_of_lt_of_eq A_b23.lt g25.symm)
    have ne_b1_b25 : b1 ≠ b25 := Nat.ne_of_lt (Nat.lt_of_lt_of_eq E_b1.lt g25.symm)
    have ne_a3_b25 : a3 ≠ b25 := Nat.ne_of_lt (Nat.lt_of_lt_of_eq A_a3.lt g25.symm)
    have ne_b5_b25 : b5 ≠ b25 := Nat.ne_of_lt (Nat.lt_of_lt_of_eq A_b5.lt g25.symm)
    have ne_b7_b25 : b7 ≠ b25 := Nat.ne_of_lt (Nat.lt_of_lt_of_eq A_b7.lt g25.symm)
    have ne_a2_b25 : a2 ≠ b25 := Nat.ne_of_lt (Nat.lt_of_lt_of_eq E_a2.lt g25.symm)
    have ne_a1_b25 : a1 ≠ b25 := Nat.ne_of_lt (Nat.lt_of_lt_of_eq E_a1.lt g25.symm)
    have K := K.ext E25
    have E_a1 := E_a1.ext E25
    have E_a2 := E_a2.ext E25
    have F_a1_low := F_a1_low.ext E25
    have F_a1_word := F_a1_word.ext E25
    have F_a1_shift := F_a1_shift.ext E25
    have F_a1_mask := F_a1_mask.ext E25
    have F_a1_key := F_a1_key.ext E25
    have F_a1_packed := F_a1_packed.ext E25
    have F_a1_table := F_a1_table.ext E25
    have F_a1_words := F_a1_words.ext E25
    have F_a1_count := F_a1_count.ext E25
    have A_a2 := A_a2.ext E25
    have A_a3 := A_a3.ext E25
    have E_b1 := E_b1.ext E25
    have A_b1 := A_b1.ext E25
    have A_b3 := A_b3.ext E25
    have E_b3 := E_b3.ext E25
    have A_b5 := A_b5.ext E25
    have E_b5 := E_b5.ext E25
    have A_b7 := A_b7.ext E25
    have A_b23 := A_b23.ext E25
    replace A_b25 : AF Z h25 b25 .long 32 (fun j => .long ((fun _ => (0 : Int64)) j)) := A_b25
    refine r_putfield 166 X (host := "") (Or.inl (hw _ (List.mem_of_getElem? (i := 52) rfl))) Via.refl F_a1_packed E_a1 (Or.inl (hw _ (List.mem_of_getElem? (i := 53) rfl))) (hw _ (List.mem_of_getElem? (i := 13) rfl)) (ty := (.array .long)) (by decide) rfl rfl ga1 d4_163 ?_
    intro T h26 W26 X
    have K := K.wr W26 (Or.inl (List.mem_of_getElem? (i := 0) rfl))
    have E_a1 := E_a1.wr W26
    have E_a2 := E_a2.wr W26
    have F_a1_low := F_a1_low.other W26 (Or.inr (slot_ne (Or.inr (hw _ (List.mem_of_getElem? (i := 31) rfl))) (Or.inl (hw _ (List.mem_of_getElem? (i := 53) rfl))) (by decide) (t := (.array .int)) (t' := (.array .long)) (by decide) (by decide)))
    have F_a1_word := F_a1_word.other W26 (Or.inr (slot_ne (Or.inr (hw _ (List.mem_of_getElem? (i := 33) rfl))) (Or.inl (hw _ (List.mem_of_getElem? (i := 53) rfl))) (by decide) (t := (.array .int)) (t' := (.array .long)) (by decide) (by decide)))
    have F_a1_shift := F_a1_shift.other W26 (Or.inr (slot_ne (Or.inr (hw _ (List.mem_of_getElem? (i := 35) rfl))) (Or.inl (hw _ (List.mem_of_getElem? (i := 53) rfl))) (by decide) (t := (.array .int)) (t' := (.array .long)) (by decide) (by decide)))
    have F_a1_mask := F_a1_mask.other W26 (Or.inr (slot_ne (Or.inr (hw _ (List.mem_of_getElem? (i := 38) rfl))) (Or.inl (hw _ (List.mem_of_getElem? (i := 53) rfl))) (by decide) (t := (.array .long)) (t' := (.array .long)) (by decide) (by decide)))
    have F_a1_key := F_a1_key.other W26 (Or.inr (slot_ne (Or.inr (hw _ (List.mem_of_getElem? (i := 51) rfl))) (Or.inl (hw _ (List.mem_of_getElem? (i := 53) rfl))) (by decide) (t := (.array .long)) (t' := (.array .long)) (by decide) (by decide)))
    have F_a1_packed := F_a1_packed.same W26
    have F_a1_table := F_a1_table.other W26 (Or.inr (slot_ne (Or.inl (hw _ (List.mem_of_getElem? (i := 55) rfl))) (Or.inl (hw _ (List.mem_of_getElem? (i := 53) rfl))) (by decide) (t := (.array .int)) (t' := (.array .long)) (by decide) (by decide)))
    have F_a1_words := F_a1_words.other W26 (Or.inr (slot_ne (Or.inr (hw _ (List.mem_of_getElem? (i := 49) rfl))) (Or.inl (hw _ (List.mem_of_getElem? (i := 53) rfl))) (by decide) (t := .int) (t' := (.array .long)) (by decide) (by decide)))
    have F_a1_count := F_a1_count.other W26 (Or.inr (slot_ne (Or.inl (hw _ (List.mem_of_getElem? (i := 74) rfl))) (Or.inl (hw _ (List.mem_of_getElem? (i := 53) rfl))) (by decide) (t := .int) (t' := (.array .long)) (by decide) (by decide)))
    have A_a2 := A_a2.other W26 (Ne.symm ne_a1_a2)
    have A_a3 := A_a3.other W26 (Ne.symm ne_a1_a3)
    have E_b1 := E_b1.wr W26
    have A_b1 := A_b1.other W26 (Ne.symm ne_a1_b1)
    have A_b3 := A_b3.other W26 (Ne.symm ne_a1_b3)
    have E_b3 := E_b3.wr W26
    have A_b5 := A_b5.other W26 (Ne.symm ne_a1_b5)
    have E_b5 := E_b5.wr W26
    have A_b7 := A_b7.other W26 (Ne.symm ne_a1_b7)
    have A_b23 := A_b23.other W26 (Ne.symm ne_a1_b23)
    have A_b25 := A_b25.other W26 (Ne.symm ne_a1_b25)
    refine r_aloadN 167 X d4_166 rfl rfl ?_
    refine r_bipush 169 X (64 : Int32) d4_167 rfl ?_
    refine r_newarrayE 171 X 64 64 "[I" (by decide) (hw _ (List.mem_of_getElem? (i := 0) rfl)) d4_169 (by decide) (by decide) (by decide) (by decide) (by decide) ?_
    intro T h27 b27 g27 gn_b27 E27 E_b27 A_b27 X
    have sz_b27 : h.size ≤ b27 := Nat.le_trans K.1 (Nat.le_of_eq g27.symm)
    have ne_b3_b27 : b3 ≠ b27 := Nat.ne_of_lt (Nat.lt_of_lt_of_eq A_b3.lt g27.symm)
    have ne_b23_b27 : b23 ≠ b27 := Nat.ne_of_lt (Nat.lt_of_lt_of_eq A_b23.lt g27.symm)
    have ne_b1_b27 : b1 ≠ b27 := Nat.ne_of_lt (Nat.lt_of_lt_of_eq E_b1.lt g27.symm)
    have ne_a3_b27 : a3 ≠ b27 := Nat.ne_of_lt (Nat.lt_of_lt_of_eq A_a3.lt g27.symm)
    have ne_b5_b27 : b5 ≠ b27 := Nat.ne_of_lt (Nat.lt_of_lt_of_eq A_b5.lt g27.symm)
    have ne_b7_b27 : b7 ≠ b27 := Nat.ne_of_lt (Nat.lt_of_lt_of_eq A_b7.lt g27.symm)
    have ne_b25_b27 : b25 ≠ b27 := Nat.ne_of_lt (Nat.lt_of_lt_of_eq A_b25.lt g27.symm)
    have ne_a2_b27 : a2 ≠ b27 := Nat.ne_of_lt (Nat.lt_of_lt_of_eq E_a2.lt g27.symm)
    have ne_a1_b27 : a1 ≠ b27 := Nat.ne_of_lt (Nat.lt_of_lt_of_eq E_a1.lt g27.symm)
    have K := K.ext E27
    have E_a1 := E_a1.ext E27
    have E_a2 := E_a2.ext E27
    have F_a1_low := F_a1_low.ext E27
    have F_a1_word := F_a1_word.ext E27
    have F_a1_shift := F_a1_shift.ext E27
    have F_a1_mask := F_a1_mask.ext E27
    have F_a1_key := F_a1_key.ext E27
    have F_a1_packed := F_a1_packed.ext E27
    have F_a1_table := F_a1_table.ext E27
    have F_a1_words := F_a1_words.ext E27
    have F_a1_count := F_a1_count.ext E27
    have A_a2 := A_a2.ext E27
    have A_a3 := A_a3.ext E27
    have E_b1 := E_b1.ext E27
    have A_b1 := A_b1.ext E27
    have A_b3 := A_b3.ext E27
    have E_b3 := E_b3.ext E27
    have A_b5 := A_b5.ext E27
    have E_b5 := E_b5.ext E27
    have A_b7 := A_b7.ext E27
    have A_b23 := A_b23.ext E27
    have A_b25 := A_b25.ext E27
    replace A_b27 : AF Z h27 b27 .int 64 (fun j => .int ((fun _ => (0 : Int32)) j)) := A_b27
    refine r_putfield 174 X (host := "") (Or.inl (hw _ (List.mem_of_getElem? (i := 54) rfl))) Via.refl F_a1_table E_a1 (Or.inl (hw _ (List.mem_of_getElem? (i := 55) rfl))) (hw _ (List.mem_of_getElem? (i := 13) rfl)) (ty := (.array .int)) (by decide) rfl rfl ga1 d4_171 ?_
    intro T h28 W28 X
    have K := K.wr W28 (Or.inl (List.mem_of_getElem? (i := 0) rfl))
    have E_a1 := E_a1.wr W28
    have E_a2 := E_a2.wr W28
    have F_a1_low := F_a1_low.other W28 (Or.inr (slot_ne (Or.inr (hw _ (List.mem_of_getElem? (i := 31) rfl))) (Or.inl (hw _ (List.mem_of_getElem? (i := 55) rfl))) (by decide) (t := (.array .int)) (t' := (.array .int)) (by decide) (by decide)))
    have F_a1_word := F_a1_word.other W28 (Or.inr (slot_ne (Or.inr (hw _ (List.mem_of_getElem? (i := 33) rfl))) (Or.inl (hw _ (List.mem_of_getElem? (i := 55) rfl))) (by decide) (t := (.array .int)) (t' := (.array .int)) (by decide) (by decide)))
    have F_a1_shift := F_a1_shift.other W28 (Or.inr (slot_ne (Or.inr (hw _ (List.mem_of_getElem? (i := 35) rfl))) (Or.inl (hw _ (List.mem_of_getElem? (i := 55) rfl))) (by decide) (t := (.array .int)) (t' := (.array .int)) (by decide) (by decide)))
    have F_a1_mask := F_a1_mask.other W28 (Or.inr (slot_ne (Or.inr (hw _ (List.mem_of_getElem? (i := 38) rfl))) (Or.inl (hw _ (List.mem_of_getElem? (i := 55) rfl))) (by decide) (t := (.array .long)) (t' := (.array .int)) (by decide) (by decide)))
    have F_a1_key := F_a1_key.other W28 (Or.inr (slot_ne (Or.inr (hw _ (List.mem_of_getElem? (i := 51) rfl))) (Or.inl (hw _ (List.mem_of_getElem? (i := 55) rfl))) (by decide) (t := (.array .long)) (t' := (.array .int)) (by decide) (by decide)))
    have F_a1_packed := F_a1_packed.other W28 (Or.inr (slot_ne (Or.inl (hw _ (List.mem_of_getElem? (i := 53) rfl))) (Or.inl (hw _ (List.mem_of_getElem? (i := 55) rfl))) (by decide) (t := (.array .long)) (t' := (.array .int)) (by decide) (by decide)))
    have F_a1_table := F_a1_table.same W28
    have F_a1_words := F_a1_words.other W28 (Or.inr (slot_ne (Or.inr (hw _ (List.mem_of_getElem? (i := 49) rfl))) (Or.inl (hw _ (List.mem_of_getElem? (i := 55) rfl))) (by decide) (t := .int) (t' := (.array .int)) (by decide) (by decide)))
    have F_a1_count := F_a1_count.other W28 (Or.inr (slot_ne (Or.inl (hw _ (List.mem_of_getElem? (i := 74) rfl))) (Or.inl (hw _ (List.mem_of_getElem? (i := 55) rfl))) (by decide) (t := .int) (t' := (.array .int)) (by decide) (by decide)))
    have A_a2 := A_a2.other W28 (Ne.symm ne_a1_a2)
    have A_a3 := A_a3.other W28 (Ne.symm ne_a1_a3)
    have E_b1 := E_b1.wr W28
    have A_b1 := A_b1.other W28 (Ne.symm ne_a1_b1)
    have A_b3 := A_b3.other W28 (Ne.symm ne_a1_b3)
    have E_b3 := E_b3.wr W28
    have A_b5 := A_b5.other W28 (Ne.symm ne_a1_b5)
    have E_b5 := E_b5.wr W28
    have A_b7 := A_b7.other W28 (Ne.symm ne_a1_b7)
    have A_b23 := A_b23.other W28 (Ne.symm ne_a1_b23)
    have A_b25 := A_b25.other W28 (Ne.symm ne_a1_b25)
    have A_b27 := A_b27.other W28 (Ne.symm ne_a1_b27)
    have E_b27 := E_b27.wr W28
    refine r_retV X d4_174 (by decide) (by decide) ?_
    exact ⟨rfl, K, Or.inr ⟨b1, b3, b5, b7, b23, b25, b27, u1, m0, m1, m2, w0, w1, w2, F_a1_low, F_a1_word, F_a1_shift, F_a1_mask, F_a1_key, F_a1_packed, F_a1_table, F_a1_words, F_a1_count, A_b1, A_b3, A_b5, A_b7, A_b23, A_b25, A_b27, sz_b1, sz_b3, sz_b5, sz_b7, sz_b23, sz_b25, sz_b27, gn_b1, gn_b3, gn_b5, gn_b7, gn_b23, gn_b25, gn_b27, ne_b1_b3, ne_b1_b5, ne_b1_b7, ne_b1_b23, ne_b1_b25, ne_b1_b27, ne_b3_b5, ne_b3_b7, ne_b3_b23, ne_b3_b25, ne_b3_b27, ne_b5_b7, ne_b5_b23, ne_b5_b25, ne_b5_b27, ne_b7_b23, ne_b7_b25, ne_b7_b27, ne_b23_b25, ne_b23_b27, ne_b25_b27, hb0, hb1, hb2, hD0, hD1, hD2, hu1, hm0, hm1, hm2⟩⟩
  · refine r_icmpY 93 X d4_84 (flt h84_18).2.2.2 ?_
    refine r_aloadN 94 X d4_93 rfl rfl ?_
    refine r_getfield 97 X (host := "") (Or.inl (hw _ (List.mem_of_getElem? (i := 32) rfl))) Via.refl F_a1_word d4_94 ?_
    intro T X
    refine r_iload 99 X d4_97 rfl ?_
    refine r_iloadN 100 X d4_99 rfl ?_
    refine r_iastore 101 X A_b3 (i := 2) (v := (.int (0 : Int32))) (by decide) (by decide) rfl gn_b3 d4_100 ?_
    intro T h29 W29 X
    have K := K.wr W29 (Or.inr sz_b3)
    have E_a1 := E_a1.wr W29
    have E_a2 := E_a2.wr W29
    have F_a1_low := F_a1_low.other W29 (Or.inl ne_a1_b3)
    have F_a1_word := F_a1_word.other W29 (Or.inl ne_a1_b3)
    have F_a1_shift := F_a1_shift.other W29 (Or.inl ne_a1_b3)
    have F_a1_mask := F_a1_mask.other W29 (Or.inl ne_a1_b3)
    have F_a1_key := F_a1_key.other W29 (Or.inl ne_a1_b3)
    have F_a1_packed := F_a1_packed.other W29 (Or.inl ne_a1_b3)
    have F_a1_table := F_a1_table.other W29 (Or.inl ne_a1_b3)
    have F_a1_words := F_a1_words.other W29 (Or.inl ne_a1_b3)
    have F_a1_count := F_a1_count.other W29 (Or.inl ne_a1_b3)
    have A_a2 := A_a2.other W29 ne_a2_b3
    have A_a3 := A_a3.other W29 ne_a3_b3
    have E_b1 := E_b1.wr W29
    have A_b1 := A_b1.other W29 ne_b1_b3
    have A_b3 := A_b3.setI W29
    have E_b3 := E_b3.wr W29
    have A_b5 := A_b5.other W29 (Ne.symm ne_b3_b5)
    have E_b5 := E_b5.wr W29
    have A_b7 := A_b7.other W29 (Ne.symm ne_b3_b7)
    refine r_aloadN 102 X d4_101 rfl rfl ?_
    refine r_getfield 105 X (host := "") (Or.inl (hw _ (List.mem_of_getElem? (i := 34) rfl))) Via.refl F_a1_shift d4_102 ?_
    intro T X
    refine r_iload 107 X d4_105 rfl ?_
    refine r_iload 109 X d4_107 rfl ?_
    refine r_iastore 110 X A_b5 (i := 2) (v := (.int u2)) (by decide) (by decide) rfl gn_b5 d4_109 ?_
    intro T h30 W30 X
    have K := K.wr W30 (Or.inr sz_b5)
    have E_a1 := E_a1.wr W30
    have E_a2 := E_a2.wr W30
    have F_a1_low := F_a1_low.other W30 (Or.inl ne_a1_b5)
    have F_a1_word := F_a1_word.other W30 (Or.inl ne_a1_b5)
    have F_a1_shift := F_a1_shift.other W30 (Or.inl ne_a1_b5)
    have F_a1_mask := F_a1_mask.other W30 (Or.inl ne_a1_b5)
    have F_a1_key := F_a1_key.other W30 (Or.inl ne_a1_b5)
    have F_a1_packed := F_a1_packed.other W30 (Or.inl ne_a1_b5)
    have F_a1_table := F_a1_table.other W30 (Or.inl ne_a1_b5)
    have F_a1_words := F_a1_words.other W30 (Or.inl ne_a1_b5)
    have F_a1_count := F_a1_count.other W30 (Or.inl ne_a1_b5)
    have A_a2 := A_a2.other W30 ne_a2_b5
    have A_a3 := A_a3.other W30 ne_a3_b5
    have E_b1 := E_b1.wr W30
    have A_b1 := A_b1.other W30 ne_b1_b5
    have A_b3 := A_b3.other W30 ne_b3_b5
    have E_b3 := E_b3.wr W30
    have A_b5 := A_b5.setI W30
    have E_b5 := E_b5.wr W30
    have A_b7 := A_b7.other W30 (Ne.symm ne_b5_b7)
    refine r_aloadN 111 X d4_110 rfl rfl ?_
    refine r_getfield 114 X (host := "") (Or.inl (hw _ (List.mem_of_getElem? (i := 37) rfl))) Via.refl F_a1_mask d4_111 ?_
    intro T X
    refine r_iload 116 X d4_114 rfl ?_
    refine r_lconst 117 X (1 : Int64) d4_116 rfl ?_
    refine r_iload 119 X d4_117 rfl ?_
    refine r_lshl 120 X d4_119 ?_
    refine r_lconst 121 X (1 : Int64) d4_120 rfl ?_
    refine r_lsub 122 X d4_121 ?_
    have hm2 := own_maskN hw2 hb2
    generalize (((1 : Int64) <<< (wi2 &&& 0x3f).toInt64) - (1 : Int64)) = m2 at hm2 ⊢
    refine r_lastore 123 X A_b7 (i := 2) (v := (.long m2)) (by decide) (by decide) rfl gn_b7 d4_122 ?_
    intro T h31 W31 X
    have K := K.wr W31 (Or.inr sz_b7)
    have E_a1 := E_a1.wr W31
    have E_a2 := E_a2.wr W31
    have F_a1_low := F_a1_low.other W31 (Or.inl ne_a1_b7)
    have F_a1_word := F_a1_word.other W31 (Or.inl ne_a1_b7)
    have F_a1_shift := F_a1_shift.other W31 (Or.inl ne_a1_b7)
    have F_a1_mask := F_a1_mask.other W31 (Or.inl ne_a1_b7)
    have F_a1_key := F_a1_key.other W31 (Or.inl ne_a1_b7)
    have F_a1_packed := F_a1_packed.other W31 (Or.inl ne_a1_b7)
    have F_a1_table := F_a1_table.other W31 (Or.inl ne_a1_b7)
    have F_a1_words := F_a1_words.other W31 (Or.inl ne_a1_b7)
    have F_a1_count := F_a1_count.other W31 (Or.inl ne_a1_b7)
    have A_a2 := A_a2.other W31 ne_a2_b7
    have A_a3 := A_a3.other W31 ne_a3_b7
    have E_b1 := E_b1.wr W31
    have A_b1 := A_b1.other W31 ne_b1_b7
    have A_b3 := A_b3.other W31 ne_b3_b7
    have E_b3 := E_b3.wr W31
    have A_b5 := A_b5.other W31 ne_b5_b7
    have E_b5 := E_b5.wr W31
    have A_b7 := A_b7.setJ W31
    refine r_iload 125 X d4_123 rfl ?_
    refine r_iload 127 X d4_125 rfl ?_
    refine r_iadd 128 X d4_127 ?_
    refine r_istore 130 X #[.val (.ref a1), .val (.ref a2), .val (.ref a3), .val (.int (0 : Int32)), .val (.int (u2 + wi2)), .val (.int (2 : Int32)), .val (.long (((fh 2).toInt64) - ((fl 2).toInt64))), .second, .val (.int wi2)] d4_128 rfl ?_
    refine r_iinc 133 X (1 : Int32) #[.val (.ref a1), .val (.ref a2), .val (.ref a3), .val (.int (0 : Int32)), .val (.int (u2 + wi2)), .val (.int (3 : Int32)), .val (.long (((fh 2).toInt64) - ((fl 2).toInt64))), .second, .val (.int wi2)] d4_130 rfl rfl rfl ?_
    refine r_goto 47 X d4_133 ?_
    refine r_iload 49 X d4_47 rfl ?_
    refine r_aloadN 50 X d4_49 rfl rfl ?_
    refine r_arraylength 51 X A_a2 (3 : Int32) (by decide) d4_50 ?_
    refine r_icmpY 136 X d4_51 (flt (by decide)).2.1 ?_
    refine r_aloadN 137 X d4_136 rfl rfl ?_
    refine r_iloadN 138 X d4_137 rfl ?_
    refine r_iconst 139 X (1 : Int32) d4_138 rfl ?_
    refine r_iadd 140 X d4_139 ?_
    refine r_topI (x' := (1 : Int32)) (by decide) ?_
    refine r_putfield 143 X (host := "") (Or.inl (hw _ (List.mem_of_getElem? (i := 48) rfl))) Via.refl F_a1_words E_a1 (Or.inr ⟨(hw _ (List.mem_of_getElem? (i := 49) rfl)), rfl, rfl⟩) (hw _ (List.mem_of_getElem? (i := 13) rfl)) (ty := .int) (by decide) rfl rfl ga1 d4_140 ?_
    intro T h32 W32 X
    have K := K.wr W32 (Or.inl (List.mem_of_getElem? (i := 0) rfl))
    have E_a1 := E_a1.wr W32
    have E_a2 := E_a2.wr W32
    have F_a1_low := F_a1_low.other W32 (Or.inr (slot_ne (Or.inr (hw _ (List.mem_of_getElem? (i := 31) rfl))) (Or.inr (hw _ (List.mem_of_getElem? (i := 49) rfl))) (by decide) (t := (.array .int)) (t' := .int) (by decide) (by decide)))
    have F_a1_word := F_a1_word.other W32 (Or.inr (slot_ne (Or.inr (hw _ (List.mem_of_getElem? (i := 33) rfl))) (Or.inr (hw _ (List.mem_of_getElem? (i := 49) rfl))) (by decide) (t := (.array .int)) (t' := .int) (by decide) (by decide)))
    have F_a1_shift := F_a1_shift.other W32 (Or.inr (slot_ne (Or.inr (hw _ (List.mem_of_getElem? (i := 35) rfl))) (Or.inr (hw _ (List.mem_of_getElem? (i := 49) rfl))) (by decide) (t := (.array .int)) (t' := .int) (by decide) (by decide)))
    have F_a1_mask := F_a1_mask.other W32 (Or.inr (slot_ne (Or.inr (hw _ (List.mem_of_getElem? (i := 38) rfl))) (Or.inr (hw _ (List.mem_of_getElem? (i := 49) rfl))) (by decide) (t := (.array .long)) (t' := .int) (by decide) (by decide)))
    have F_a1_key := F_a1_key.other W32 (Or.inr (slot_ne (Or.inr (hw _ (List.mem_of_getElem? (i := 51) rfl))) (Or.inr (hw _ (List.mem_of_getElem? (i := 49) rfl))) (by decide) (t := (.array .long)) (t' := .int) (by decide) (by decide)))
    have F_a1_packed := F_a1_packed.other W32 (Or.inr (slot_ne (Or.inl (hw _ (List.mem_of_getElem? (i := 53) rfl))) (Or.inr (hw _ (List.mem_of_getElem? (i := 49) rfl))) (by decide) (t := (.array .long)) (t' := .int) (by decide) (by decide)))
    have F_a1_table := F_a1_table.other W32 (Or.inr (slot_ne (Or.inl (hw _ (List.mem_of_getElem? (i := 55) rfl))) (Or.inr (hw _ (List.mem_of_getElem? (i := 49) rfl))) (by decide) (t := (.array .int)) (t' := .int) (by decide) (by decide)))
    have F_a1_words := F_a1_words.same W32
    have F_a1_count := F_a1_count.other W32 (Or.inr (slot_ne (Or.inl (hw _ (List.mem_of_getElem? (i := 74) rfl))) (Or.inr (hw _ (List.mem_of_getElem? (i := 49) rfl))) (by decide) (t := .int) (t' := .int) (by decide) (by decide)))
    have A_a2 := A_a2.other W32 (Ne.symm ne_a1_a2)
    have A_a3 := A_a3.other W32 (Ne.symm ne_a1_a3)
    have E_b1 := E_b1.wr W32
    have A_b1 := A_b1.other W32 (Ne.symm ne_a1_b1)
    have A_b3 := A_b3.other W32 (Ne.symm ne_a1_b3)
    have E_b3 := E_b3.wr W32
    have A_b5 := A_b5.other W32 (Ne.symm ne_a1_b5)
    have E_b5 := E_b5.wr W32
    have A_b7 := A_b7.other W32 (Ne.symm ne_a1_b7)
    refine r_aloadN 144 X d4_143 rfl rfl ?_
    refine r_aloadN 145 X d4_144 rfl rfl ?_
    refine r_getfield 148 X (host := "") (Or.inl (hw _ (List.mem_of_getElem? (i := 48) rfl))) Via.refl F_a1_words d4_145 ?_
    intro T X
    refine r_newarray 150 X 1 1 (hw _ (List.mem_of_getElem? (i := 36) rfl)) d4_148 (by decide) (by decide) (by decide) (by decide) (by decide) ?_
    intro T h33 b33 g33 gn_b33 E33 A_b33 X
    have sz_b33 : h.size ≤ b33 := Nat.le_trans K.1 (Nat.le_of_eq g33.symm)
    have ne_b3_b33 : b3 ≠ b33 := Nat.ne_of_lt (Nat.lt_of_lt_of_eq A_b3.lt g33.symm)
    have ne_b1_b33 : b1 ≠ b33 := Nat.ne_of_lt (Nat.lt_of_lt_of_eq E_b1.lt g33.symm)
    have ne_a3_b33 : a3 ≠ b33 := Nat.ne_of_lt (Nat.lt_of_lt_of_eq A_a3.lt g33.symm)
    have ne_b5_b33 : b5 ≠ b33 := Nat.ne_of_lt (Nat.lt_of_lt_of_eq A_b5.lt g33.symm)
    have ne_b7_b33 : b7 ≠ b33 := Nat.ne_of_lt (Nat.lt_of_lt_of_eq A_b7.lt g33.symm)
    have ne_a2_b33 : a2 ≠ b33 := Nat.ne_of_lt (Nat.lt_of_lt_of_eq E_a2.lt g33.symm)
    have ne_a1_b33 : a1 ≠ b33 := Nat.ne_of_lt (Nat.lt_of_lt_of_eq E_a1.lt g33.symm)
    have K := K.ext E33
    have E_a1 := E_a1.ext E33
    have E_a2 := E_a2.ext E33
    have F_a1_low := F_a1_low.ext E33
    have F_a1_word := F_a1_word.ext E33
    have F_a1_shift := F_a1_shift.ext E33
    have F_a1_mask := F_a1_mask.ext E33
    have F_a1_key := F_a1_key.ext E33
    have F_a1_packed := F_a1_packed.ext E33
    have F_a1_table := F_a1_table.ext E33
    have F_a1_words := F_a1_words.ext E33
    have F_a1_count := F_a1_count.ext E33
    have A_a2 := A_a2.ext E33
    have A_a3 := A_a3.ext E33
    have E_b1 := E_b1.ext E33
    have A_b1 := A_b1.ext E33
    have A_b3 := A_b3.ext E33
    have E_b3 := E_b3.ext E33
    have A_b5 := A_b5.ext E33
    have E_b5 := E_b5.ext E33
    have A_b7 := A_b7.ext E33
    replace A_b33 : AF Z h33 b33 .long 1 (fun j => .long ((fun _ => (0 : Int64)) j)) := A_b33
    refine r_putfield 153 X (host := "") (Or.inl (hw _ (List.mem_of_getElem? (i := 50) rfl))) Via.refl F_a1_key E_a1 (Or.inr ⟨(hw _ (List.mem_of_getElem? (i := 51) rfl)), rfl, rfl⟩) (hw _ (List.mem_of_getElem? (i := 13) rfl)) (ty := (.array .long)) (by decide) rfl rfl ga1 d4_150 ?_
    intro T h34 W34 X
    have K := K.wr W34 (Or.inl (List.mem_of_getElem? (i := 0) rfl))
    have E_a1 := E_a1.wr W34
    have E_a2 := E_a2.wr W34
    have F_a1_low := F_a1_low.other W34 (Or.inr (slot_ne (Or.inr (hw _ (List.mem_of_getElem? (i := 31) rfl))) (Or.inr (hw _ (List.mem_of_getElem? (i := 51) rfl))) (by decide) (t := (.array .int)) (t' := (.array .long)) (by decide) (by decide)))
    have F_a1_word := F_a1_word.other W34 (Or.inr (slot_ne (Or.inr (hw _ (List.mem_of_getElem? (i := 33) rfl))) (Or.inr (hw _ (List.mem_of_getElem? (i := 51) rfl))) (by decide) (t := (.array .int)) (t' := (.array .long)) (by decide) (by decide)))
    have F_a1_shift := F_a1_shift.other W34 (Or.inr (slot_ne (Or.inr (hw _ (List.mem_of_getElem? (i := 35) rfl))) (Or.inr (hw _ (List.mem_of_getElem? (i := 51) rfl))) (by decide) (t := (.array .int)) (t' := (.array .long)) (by decide) (by decide)))
    have F_a1_mask := F_a1_mask.other W34 (Or.inr (slot_ne (Or.inr (hw _ (List.mem_of_getElem? (i := 38) rfl))) (Or.inr (hw _ (List.mem_of_getElem? (i := 51) rfl))) (by decide) (t := (.array .long)) (t' := (.array .long)) (by decide) (by decide)))
    have F_a1_key := F_a1_key.same W34
    have F_a1_packed := F_a1_packed.other W34 (Or.inr (slot_ne (Or.inl (hw _ (List.mem_of_getElem? (i := 53) rfl))) (Or.inr (hw _ (List.mem_of_getElem? (i := 51) rfl))) (by decide) (t := (.array .long)) (t' := (.array .long)) (by decide) (by decide)))
    have F_a1_table := F_a1_table.other W34 (Or.inr (slot_ne (Or.inl (hw _ (List.mem_of_getElem? (i := 55) rfl))) (Or.inr (hw _ (List.mem_of_getElem? (i := 51) rfl))) (by decide) (t := (.array .int)) (t' := (.array .long)) (by decide) (by decide)))
    have F_a1_words := F_a1_words.other W34 (Or.inr (slot_ne (Or.inr (hw _ (List.mem_of_getElem? (i := 49) rfl))) (Or.inr (hw _ (List.mem_of_getElem? (i := 51) rfl))) (by decide) (t := .int) (t' := (.array .long)) (by decide) (by decide)))
    have F_a1_count := F_a1_count.other W34 (Or.inr (slot_ne (Or.inl (hw _ (List.mem_of_getElem? (i := 74) rfl))) (Or.inr (hw _ (List.mem_of_getElem? (i := 51) rfl))) (by decide) (t := .int) (t' := (.array .long)) (by decide) (by decide)))
    have A_a2 := A_a2.other W34 (Ne.symm ne_a1_a2)
    have A_a3 := A_a3.other W34 (Ne.symm ne_a1_a3)
    have E_b1 := E_b1.wr W34
    have A_b1 := A_b1.other W34 (Ne.symm ne_a1_b1)
    have A_b3 := A_b3.other W34 (Ne.symm ne_a1_b3)
    have E_b3 := E_b3.wr W34
    have A_b5 := A_b5.other W34 (Ne.symm ne_a1_b5)
    have E_b5 := E_b5.wr W34
    have A_b7 := A_b7.other W34 (Ne.symm ne_a1_b7)
    have A_b33 := A_b33.other W34 (Ne.symm ne_a1_b33)
    refine r_aloadN 154 X d4_153 rfl rfl ?_
    refine r_bipush 156 X (16 : Int32) d4_154 rfl ?_
    refine r_aloadN 157 X d4_156 rfl rfl ?_
    refine r_getfield 160 X (host := "") (Or.inl (hw _ (List.mem_of_getElem? (i := 48) rfl))) Via.refl F_a1_words d4_157 ?_
    intro T X
    refine r_imul 161 X d4_160 ?_
    refine r_topI (x' := (16 : Int32)) (by decide) ?_
    refine r_newarray 163 X 16 16 (hw _ (List.mem_of_getElem? (i := 36) rfl)) d4_161 (by decide) (by decide) (by decide) (by decide) (by decide) ?_
    intro T h35 b35 g35 gn_b35 E35 A_b35 X
    have sz_b35 : h.size ≤ b35 := Nat.le_trans K.1 (Nat.le_of_eq g35.symm)
    have ne_b3_b35 : b3 ≠ b35 := Nat.ne_of_lt (Nat.lt_of_lt_of_eq A_b3.lt g35.symm)
    have ne_b1_b35 : b1 ≠ b35 := Nat.ne_of_lt (Nat.lt_of_lt_of_eq E_b1.lt g35.symm)
    have ne_a3_b35 : a3 ≠ b35 := Nat.ne_of_lt (Nat.lt_of_lt_of_eq A_a3.lt g35.symm)
    have ne_b5_b35 : b5 ≠ b35 := Nat.ne_of_lt (Nat.lt_of_lt_of_eq A_b5.lt g35.symm)
    have ne_b7_b35 : b7 ≠ b35 := Nat.ne_of_lt (Nat.lt_of_lt_of_eq A_b7.lt g35.symm)
    have ne_b33_b35 : b33 ≠ b35 := Nat.ne_of_lt (Nat.lt_of_lt_of_eq A_b33.lt g35.symm)
    have ne_a2_b35 : a2 ≠ b35 := Nat.ne_of_lt (Nat.lt_of_lt_of_eq E_a2.lt g35.symm)
    have ne_a1_b35 : a1 ≠ b35 := Nat.ne_of_lt (Nat.lt_of_lt_of_eq E_a1.lt g35.symm)
    have K := K.ext E35
    have E_a1 := E_a1.ext E35
    have E_a2 := E_a2.ext E35
    have F_a1_low := F_a1_low.ext E35
    have F_a1_word := F_a1_word.ext E35
    have F_a1_shift := F_a1_shift.ext E35
    have F_a1_mask := F_a1_mask.ext E35
    have F_a1_key := F_a1_key.ext E35
    have F_a1_packed := F_a1_packed.ext E35
    have F_a1_table := F_a1_table.ext E35
    have F_a1_words := F_a1_words.ext E35
    have F_a1_count := F_a1_count.ext E35
    have A_a2 := A_a2.ext E35
    have A_a3 := A_a3.ext E35
    have E_b1 := E_b1.ext E35
    have A_b1 := A_b1.ext E35
    have A_b3 := A_b3.ext E35
    have E_b3 := E_b3.ext E35
    have A_b5 := A_b5.ext E35
    have E_b5 := E_b5.ext E35
    have A_b7 := A_b7.ext E35
    have A_b33 := A_b33.ext E35
    replace A_b35 : AF Z h35 b35 .long 16 (fun j => .long ((fun _ => (0 : Int64)) j)) := A_b35
    refine r_putfield 166 X (host := "") (Or.inl (hw _ (List.mem_of_getElem? (i := 52) rfl))) Via.refl F_a1_packed E_a1 (Or.inl (hw _ (List.mem_of_getElem? (i := 53) rfl))) (hw _ (List.mem_of_getElem? (i := 13) rfl)) (ty := (.array .long)) (by decide) rfl rfl ga1 d4_163 ?_
    intro T h36 W36 X
    have K := K.wr W36 (Or.inl (List.mem_of_getElem? (i := 0) rfl))
    have E_a1 := E_a1.wr W36
    have E_a2 := E_a2.wr W36
    have F_a1_low := F_a1_low.other W36 (Or.inr (slot_ne (Or.inr (hw _ (List.mem_of_getElem? (i := 31) rfl))) (Or.inl (hw _ (List.mem_of_getElem? (i := 53) rfl))) (by decide) (t := (.array .int)) (t' := (.array .long)) (by decide) (by decide)))
    have F_a1_word := F_a1_word.other W36 (Or.inr (slot_ne (Or.inr (hw _ (List.mem_of_getElem? (i := 33) rfl))) (Or.inl (hw _ (List.mem_of_getElem? (i := 53) rfl))) (by decide) (t := (.array .int)) (t' := (.array .long)) (by decide) (by decide)))
    have F_a1_shift := F_a1_shift.other W36 (Or.inr (slot_ne (Or.inr (hw _ (List.mem_of_getElem? (i := 35) rfl))) (Or.inl (hw _ (List.mem_of_getElem? (i := 53) rfl))) (by decide) (t := (.array .int)) (t' := (.array .long)) (by decide) (by decide)))
    have F_a1_mask := F_a1_mask.other W36 (Or.inr (slot_ne (Or.inr (hw _ (List.mem_of_getElem? (i := 38) rfl))) (Or.inl (hw _ (List.mem_of_getElem? (i := 53) rfl))) (by decide) (t := (.array .long)) (t' := (.array .long)) (by decide) (by decide)))
    have F_a1_key := F_a1_key.other W36 (Or.inr (slot_ne (Or.inr (hw _ (List.mem_of_getElem? (i := 51) rfl))) (Or.inl (hw _ (List.mem_of_getElem? (i := 53) rfl))) (by decide) (t := (.array .long)) (t' := (.array .long)) (by decide) (by decide)))
    have F_a1_packed := F_a1_packed.same W36
    have F_a1_table := F_a1_table.other W36 (Or.inr (slot_ne (Or.inl (hw _ (List.mem_of_getElem? (i := 55) rfl))) (Or.inl (hw _ (List.mem_of_getElem? (i := 53) rfl))) (by decide) (t := (.array .int)) (t' := (.array .long)) (by decide) (by decide)))
    have F_a1_words := F_a1_words.other W36 (Or.inr (slot_ne (Or.inr (hw _ (List.mem_of_getElem? (i := 49) rfl))) (Or.inl (hw _ (List.mem_of_getElem? (i := 53) rfl))) (by decide) (t := .int) (t' := (.array .long)) (by decide) (by decide)))
    have F_a1_count := F_a1_count.other W36 (Or.inr (slot_ne (Or.inl (hw _ (List.mem_of_getElem? (i := 74) rfl))) (Or.inl (hw _ (List.mem_of_getElem? (i := 53) rfl))) (by decide) (t := .int) (t' := (.array .long)) (by decide) (by decide)))
    have A_a2 := A_a2.other W36 (Ne.symm ne_a1_a2)
    have A_a3 := A_a3.other W36 (Ne.symm ne_a1_a3)
    have E_b1 := E_b1.wr W36
    have A_b1 := A_b1.other W36 (Ne.symm ne_a1_b1)
    have A_b3 := A_b3.other W36 (Ne.symm ne_a1_b3)
    have E_b3 := E_b3.wr W36
    have A_b5 := A_b5.other W36 (Ne.symm ne_a1_b5)
    have E_b5 := E_b5.wr W36
    have A_b7 := A_b7.other W36 (Ne.symm ne_a1_b7)
    have A_b33 := A_b33.other W36 (Ne.symm ne_a1_b33)
    have A_b35 := A_b35.other W36 (Ne.symm ne_a1_b35)
    refine r_aloadN 167 X d4_166 rfl rfl ?_
    refine r_bipush 169 X (64 : Int32) d4_167 rfl ?_
    refine r_newarrayE 171 X 64 64 "[I" (by decide) (hw _ (List.mem_of_getElem? (i := 0) rfl)) d4_169 (by decide) (by decide) (by decide) (by decide) (by decide) ?_
    intro T h37 b37 g37 gn_b37 E37 E_b37 A_b37 X
    have sz_b37 : h.size ≤ b37 := Nat.le_trans K.1 (Nat.le_of_eq g37.symm)
    have ne_b3_b37 : b3 ≠ b37 := Nat.ne_of_lt (Nat.lt_of_lt_of_eq A_b3.lt g37.symm)
    have ne_b1_b37 : b1 ≠ b37 := Nat.ne_of_lt (Nat.lt_of_lt_of_eq E_b1.lt g37.symm)
    have ne_b35_b37 : b35 ≠ b37 := Nat.ne_of_lt (Nat.lt_of_lt_of_eq A_b35.lt g37.symm)
    have ne_a3_b37 : a3 ≠ b37 := Nat.ne_of_lt (Nat.lt_of_lt_of_eq A_a3.lt g37.symm)
    have ne_b5_b37 : b5 ≠ b37 := Nat.ne_of_lt (Nat.lt_of_lt_of_eq A_b5.lt g37.symm)
    have ne_b7_b37 : b7 ≠ b37 := Nat.ne_of_lt (Nat.lt_of_lt_of_eq A_b7.lt g37.symm)
    have ne_b33_b37 : b33 ≠ b37 := Nat.ne_of_lt (Nat.lt_of_lt_of_eq A_b33.lt g37.symm)
    have ne_a2_b37 : a2 ≠ b37 := Nat.ne_of_lt (Nat.lt_of_lt_of_eq E_a2.lt g37.symm)
    have ne_a1_b37 : a1 ≠ b37 := Nat.ne_of_lt (Nat.lt_of_lt_of_eq E_a1.lt g37.symm)
    have K := K.ext E37
    have E_a1 := E_a1.ext E37
    have E_a2 := E_a2.ext E37
    have F_a1_low := F_a1_low.ext E37
    have F_a1_word := F_a1_word.ext E37
    have F_a1_shift := F_a1_shift.ext E37
    have F_a1_mask := F_a1_mask.ext E37
    have F_a1_key := F_a1_key.ext E37
    have F_a1_packed := F_a1_packed.ext E37
    have F_a1_table := F_a1_table.ext E37
    have F_a1_words := F_a1_words.ext E37
    have F_a1_count := F_a1_count.ext E37
    have A_a2 := A_a2.ext E37
    have A_a3 := A_a3.ext E37
    have E_b1 := E_b1.ext E37
    have A_b1 := A_b1.ext E37
    have A_b3 := A_b3.ext E37
    have E_b3 := E_b3.ext E37
    have A_b5 := A_b5.ext E37
    have E_b5 := E_b5.ext E37
    have A_b7 := A_b7.ext E37
    have A_b33 := A_b33.ext E37
    have A_b35 := A_b35.ext E37
    replace A_b37 : AF Z h37 b37 .int 64 (fun j => .int ((fun _ => (0 : Int32)) j)) := A_b37
    refine r_putfield 174 X (host := "") (Or.inl (hw _ (List.mem_of_getElem? (i := 54) rfl))) Via.refl F_a1_table E_a1 (Or.inl (hw _ (List.mem_of_getElem? (i := 55) rfl))) (hw _ (List.mem_of_getElem? (i := 13) rfl)) (ty := (.array .int)) (by decide) rfl rfl ga1 d4_171 ?_
    intro T h38 W38 X
    have K := K.wr W38 (Or.inl (List.mem_of_getElem? (i := 0) rfl))
    have E_a1 := E_a1.wr W38
    have E_a2 := E_a2.wr W38
    have F_a1_low := F_a1_low.other W38 (Or.inr (slot_ne (Or.inr (hw _ (List.mem_of_getElem? (i := 31) rfl))) (Or.inl (hw _ (List.mem_of_getElem? (i := 55) rfl))) (by decide) (t := (.array .int)) (t' := (.array .int)) (by decide) (by decide)))
    have F_a1_word := F_a1_word.other W38 (Or.inr (slot_ne (Or.inr (hw _ (List.mem_of_getElem? (i := 33) rfl))) (Or.inl (hw _ (List.mem_of_getElem? (i := 55) rfl))) (by decide) (t := (.array .int)) (t' := (.array .int)) (by decide) (by decide)))
    have F_a1_shift := F_a1_shift.other W38 (Or.inr (slot_ne (Or.inr (hw _ (List.mem_of_getElem? (i := 35) rfl))) (Or.inl (hw _ (List.mem_of_getElem? (i := 55) rfl))) (by decide) (t := (.array .int)) (t' := (.array .int)) (by decide) (by decide)))
    have F_a1_mask := F_a1_mask.other W38 (Or.inr (slot_ne (Or.inr (hw _ (List.mem_of_getElem? (i := 38) rfl))) (Or.inl (hw _ (List.mem_of_getElem? (i := 55) rfl))) (by decide) (t := (.array .long)) (t' := (.array .int)) (by decide) (by decide)))
    have F_a1_key := F_a1_key.other W38 (Or.inr (slot_ne (Or.inr (hw _ (List.mem_of_getElem? (i := 51) rfl))) (Or.inl (hw _ (List.mem_of_getElem? (i := 55) rfl))) (by decide) (t := (.array .long)) (t' := (.array .int)) (by decide) (by decide)))
    have F_a1_packed := F_a1_packed.other W38 (Or.inr (slot_ne (Or.inl (hw _ (List.mem_of_getElem? (i := 53) rfl))) (Or.inl (hw _ (List.mem_of_getElem? (i := 55) rfl))) (by decide) (t := (.array .long)) (t' := (.array .int)) (by decide) (by decide)))
    have F_a1_table := F_a1_table.same W38
    have F_a1_words := F_a1_words.other W38 (Or.inr (slot_ne (Or.inr (hw _ (List.mem_of_getElem? (i := 49) rfl))) (Or.inl (hw _ (List.mem_of_getElem? (i := 55) rfl))) (by decide) (t := .int) (t' := (.array .int)) (by decide) (by decide)))
    have F_a1_count := F_a1_count.other W38 (Or.inr (slot_ne (Or.inl (hw _ (List.mem_of_getElem? (i := 74) rfl))) (Or.inl (hw _ (List.mem_of_getElem? (i := 55) rfl))) (by decide) (t := .int) (t' := (.array .int)) (by decide) (by decide)))
    have A_a2 := A_a2.other W38 (Ne.symm ne_a1_a2)
    have A_a3 := A_a3.other W38 (Ne.symm ne_a1_a3)
    have E_b1 := E_b1.wr W38
    have A_b1 := A_b1.other W38 (Ne.symm ne_a1_b1)
    have A_b3 := A_b3.other W38 (Ne.symm ne_a1_b3)
    have E_b3 := E_b3.wr W38
    have A_b5 := A_b5.other W38 (Ne.symm ne_a1_b5)
    have E_b5 := E_b5.wr W38
    have A_b7 := A_b7.other W38 (Ne.symm ne_a1_b7)
    have A_b33 := A_b33.other W38 (Ne.symm ne_a1_b33)
    have A_b35 := A_b35.other W38 (Ne.symm ne_a1_b35)
    have A_b37 := A_b37.other W38 (Ne.symm ne_a1_b37)
    have E_b37 := E_b37.wr W38
    refine r_retV X d4_174 (by decide) (by decide) ?_
    exact ⟨rfl, K, Or.inl ⟨b1, b3, b5, b7, b33, b35, b37, u1, u2, m0, m1, m2, w0, w1, w2, F_a1_low, F_a1_word, F_a1_shift, F_a1_mask, F_a1_key, F_a1_packed, F_a1_table, F_a1_words, F_a1_count, A_b1, A_b3, A_b5, A_b7, A_b33, A_b35, A_b37, sz_b1, sz_b3, sz_b5, sz_b7, sz_b33, sz_b35, sz_b37, gn_b1, gn_b3, gn_b5, gn_b7, gn_b33, gn_b35, gn_b37, ne_b1_b3, ne_b1_b5, ne_b1_b7, ne_b1_b33, ne_b1_b35, ne_b1_b37, ne_b3_b5, ne_b3_b7, ne_b3_b33, ne_b3_b35, ne_b3_b37, ne_b5_b7, ne_b5_b33, ne_b5_b35, ne_b5_b37, ne_b7_b33, ne_b7_b35, ne_b7_b37, ne_b33_b35, ne_b33_b37, ne_b35_b37, hb0, hb1, hb2, hD0, hD1, hD2, hu1, hm0, hm1, hm2, hu2, by have q := mt (ltI (x := (64 : Int32)) (a := 64) rfl hu3).mpr h84_18; omega⟩⟩
theorem d11_0 : decode jdk_33_method_48_code 0 = .ok (.iload_n 0, 1) := by decide +kernel
theorem d11_1 : decode jdk_33_method_48_code 1 = .ok (.iconst (-1), 1) := by decide +kernel
theorem d11_2 : decode jdk_33_method_48_code 2 = .ok (.ixor, 1) := by decide +kernel
theorem d11_3 : decode jdk_33_method_48_code 3 = .ok (.iload_n 0, 1) := by decide +kernel
theorem d11_4 : decode jdk_33_method_48_code 4 = .ok (.iconst 1, 1) := by decide +kernel
theorem d11_5 : decode jdk_33_method_48_code 5 = .ok (.isub, 1) := by decide +kernel
theorem d11_6 : decode jdk_33_method_48_code 6 = .ok (.iand, 1) := by decide +kernel
theorem d11_7 : decode jdk_33_method_48_code 7 = .ok (.istore_n 0, 1) := by decide +kernel
theorem d11_8 : decode jdk_33_method_48_code 8 = .ok (.iload_n 0, 1) := by decide +kernel
theorem d11_9 : decode jdk_33_method_48_code 9 = .ok (.ifCond .gt 8, 3) := by decide +kernel
theorem d11_17 : decode jdk_33_method_48_code 17 = .ok (.iconst 1, 1) := by decide +kernel
theorem d11_18 : decode jdk_33_method_48_code 18 = .ok (.istore_n 1, 1) := by decide +kernel
theorem d11_19 : decode jdk_33_method_48_code 19 = .ok (.iload_n 0, 1) := by decide +kernel
theorem d11_20 : decode jdk_33_method_48_code 20 = .ok (.ldc_w 264, 3) := by decide +kernel
theorem d11_23 : decode jdk_33_method_48_code 23 = .ok (.if_icmp .le 11, 3) := by decide +kernel
theorem d11_34 : decode jdk_33_method_48_code 34 = .ok (.iload_n 0, 1) := by decide +kernel
theorem d11_35 : decode jdk_33_method_48_code 35 = .ok (.sipush 256, 3) := by decide +kernel
theorem d11_38 : decode jdk_33_method_48_code 38 = .ok (.if_icmp .le 11, 3) := by decide +kernel
theorem d11_49 : decode jdk_33_method_48_code 49 = .ok (.iload_n 0, 1) := by decide +kernel
theorem d11_50 : decode jdk_33_method_48_code 50 = .ok (.bipush 16, 2) := by decide +kernel
theorem d11_52 : decode jdk_33_method_48_code 52 = .ok (.if_icmp .le 10, 3) := by decide +kernel
theorem d11_55 : decode jdk_33_method_48_code 55 = .ok (.iinc 1 4, 3) := by decide +kernel
theorem d11_58 : decode jdk_33_method_48_code 58 = .ok (.iload_n 0, 1) := by decide +kernel
theorem d11_59 : decode jdk_33_method_48_code 59 = .ok (.iconst 4, 1) := by decide +kernel
theorem d11_60 : decode jdk_33_method_48_code 60 = .ok (.iushr, 1) := by decide +kernel
theorem d11_61 : decode jdk_33_method_48_code 61 = .ok (.istore_n 0, 1) := by decide +kernel
theorem d11_62 : decode jdk_33_method_48_code 62 = .ok (.iload_n 0, 1) := by decide +kernel
theorem d11_63 : decode jdk_33_method_48_code 63 = .ok (.iconst 4, 1) := by decide +kernel
theorem d11_64 : decode jdk_33_method_48_code 64 = .ok (.if_icmp .le 10, 3) := by decide +kernel
theorem d11_74 : decode jdk_33_method_48_code 74 = .ok (.iload_n 1, 1) := by decide +kernel
theorem d11_75 : decode jdk_33_method_48_code 75 = .ok (.iload_n 0, 1) := by decide +kernel
theorem d11_76 : decode jdk_33_method_48_code 76 = .ok (.iconst 1, 1) := by decide +kernel
theorem d11_77 : decode jdk_33_method_48_code 77 = .ok (.iushr, 1) := by decide +kernel
theorem d11_78 : decode jdk_33_method_48_code 78 = .ok (.iadd, 1) := by decide +kernel
theorem d11_79 : decode jdk_33_method_48_code 79 = .ok (.ireturn, 1) := by decide +kernel
theorem pn_11 : plainName "java/lang/Integer" = true := by first | (simp [plainName, overriddenIn]; done) | decide +kernel
theorem ef_11 (m : MethodId) (x0 : Int32) : entryFrame m #[(.int x0)] 2 = mkF m 0 #[.val (.int x0), .unset] [] := by first | (simp [entryFrame, mkF, argsToLocals, Value.category]; done) | rfl
set_option maxRecDepth 65536 in
set_option maxHeartbeats 40000000 in
theorem rmTz (l : Launch) (Z : State) (a0 : Array Value) (hw : ∀ d ∈ tables_1, d.before a0 Z = true) (n0 : Nat) (h : Heap) (Z0 : n0 ≤ h.size)   :
    Met1 l Z n0 [] (⟨"java/lang/Integer", "numberOfTrailingZeros", "(I)I"⟩ : MethodName) jdk_33_method_48_code 2 (some .int) ({ frames := 0, cells := 0, slots := 0, locals := 0 } : Room) #[(.int (64 : Int32))] h (fun v h' => v = some (.int 6) ∧ h = h') := by
  refine met_of (plainFor_of_name pn_11) Z0 (fun m => ef_11 m (64 : Int32)) ?_
  intro p e s m below meth c T hs0 X
  refine r_iloadN 1 X d11_0 rfl ?_
  refine r_iconst 2 X (-1 : Int32) d11_1 rfl ?_
  refine r_ixor 3 X d11_2 ?_
  refine r_topI (x' := (-65 : Int32)) (by decide) ?_
  refine r_iloadN 4 X d11_3 rfl ?_
  refine r_iconst 5 X (1 : Int32) d11_4 rfl ?_
  refine r_isub 6 X d11_5 ?_
  refine r_topI (x' := (63 : Int32)) (by decide) ?_
  refine r_iand 7 X d11_6 ?_
  refine r_topI (x' := (63 : Int32)) (by decide) ?_
  refine r_istoreN 8 X #[.val (.int (63 : Int32)), .unset] d11_7 rfl ?_
  refine r_iloadN 9 X d11_8 rfl ?_
  refine r_ifY 17 X d11_9 ((if0 _ _).trans (tlt (by decide)).2.2.1) ?_
  refine r_iconst 18 X (1 : Int32) d11_17 rfl ?_
  refine r_istoreN 19 X #[.val (.int (63 : Int32)), .val (.int (1 : Int32))] d11_18 rfl ?_
  refine r_iloadN 20 X d11_19 rfl ?_
  refine r_ldcwInt 23 X (hw _ (List.mem_of_getElem? (i := 47) rfl)) d11_20 ?_
  refine r_icmpY 34 X d11_23 (flt (by decide)).2.2.2 ?_
  refine r_iloadN 35 X d11_34 rfl ?_
  refine r_sipush 38 X (256 : Int32) d11_35 rfl ?_
  refine r_icmpY 49 X d11_38 (flt (by decide)).2.2.2 ?_
  refine r_iloadN 50 X d11_49 rfl ?_
  refine r_bipush 52 X (16 : Int32) d11_50 rfl ?_
  refine r_icmpN 55 X d11_52 (tlt (by decide)).2.2.2 ?_
  refine r_iinc 58 X (4 : Int32) #[.val (.int (63 : Int32)), .val (.int (5 : Int32))] d11_55 rfl rfl rfl ?_
  refine r_iloadN 59 X d11_58 rfl ?_
  refine r_iconst 60 X (4 : Int32) d11_59 rfl ?_
  refine r_iushr 61 X d11_60 ?_
  refine r_topI (x' := (3 : Int32)) (by decide) ?_
  refine r_istoreN 62 X #[.val (.int (3 : Int32)), .val (.int (5 : Int32))] d11_61 rfl ?_
  refine r_iloadN 63 X d11_62 rfl ?_
  refine r_iconst 64 X (4 : Int32) d11_63 rfl ?_
  refine r_icmpY 74 X d11_64 (flt (by decide)).2.2.2 ?_
  refine r_iloadN 75 X d11_74 rfl ?_
  refine r_iloadN 76 X d11_75 rfl ?_
  refine r_iconst 77 X (1 : Int32) d11_76 rfl ?_
  refine r_iushr 78 X d11_77 ?_
  refine r_topI (x' := (1 : Int32)) (by decide) ?_
  refine r_iadd 79 X d11_78 ?_
  refine r_topI (x' := (6 : Int32)) (by decide) ?_
  refine r_retI X d11_79 (by decide) (by decide) ?_
  exact ⟨rfl, rfl⟩
theorem d9_0 : decode prog_47_method_7_code 0 = .ok (.lconst 0, 1) := by decide +kernel
theorem d9_1 : decode prog_47_method_7_code 1 = .ok (.lstore_n 3, 1) := by decide +kernel
theorem d9_2 : decode prog_47_method_7_code 2 = .ok (.iconst 0, 1) := by decide +kernel
theorem d9_3 : decode prog_47_method_7_code 3 = .ok (.istore 5, 2) := by decide +kernel
theorem d9_5 : decode prog_47_method_7_code 5 = .ok (.iload 5, 2) := by decide +kernel
theorem d9_7 : decode prog_47_method_7_code 7 = .ok (.aload_n 0, 1) := by decide +kernel
theorem d9_8 : decode prog_47_method_7_code 8 = .ok (.getfield 36, 3) := by decide +kernel
theorem d9_11 : decode prog_47_method_7_code 11 = .ok (.if_icmp .ge 22, 3) := by decide +kernel
theorem d9_14 : decode prog_47_method_7_code 14 = .ok (.lload_n 3, 1) := by decide +kernel
theorem d9_15 : decode prog_47_method_7_code 15 = .ok (.aload_n 1, 1) := by decide +kernel
theorem d9_16 : decode prog_47_method_7_code 16 = .ok (.iload_n 2, 1) := by decide +kernel
theorem d9_17 : decode prog_47_method_7_code 17 = .ok (.iload 5, 2) := by decide +kernel
theorem d9_19 : decode prog_47_method_7_code 19 = .ok (.iadd, 1) := by decide +kernel
theorem d9_20 : decode prog_47_method_7_code 20 = .ok (.laload, 1) := by decide +kernel
theorem d9_21 : decode prog_47_method_7_code 21 = .ok (.lxor, 1) := by decide +kernel
theorem d9_22 : decode prog_47_method_7_code 22 = .ok (.ldc2_w 98, 3) := by decide +kernel
theorem d9_25 : decode prog_47_method_7_code 25 = .ok (.lmul, 1) := by decide +kernel
theorem d9_26 : decode prog_47_method_7_code 26 = .ok (.lstore_n 3, 1) := by decide +kernel
theorem d9_27 : decode prog_47_method_7_code 27 = .ok (.iinc 5 1, 3) := by decide +kernel
theorem d9_30 : decode prog_47_method_7_code 30 = .ok (.goto (-25), 3) := by decide +kernel
theorem d9_33 : decode prog_47_method_7_code 33 = .ok (.lload_n 3, 1) := by decide +kernel
theorem d9_34 : decode prog_47_method_7_code 34 = .ok (.lreturn, 1) := by decide +kernel
theorem pn_9 : plainName "com/example/heliotrope/heliotrope/language/StateStore" = true := by first | (simp [plainName, overriddenIn]; done) | decide +kernel
theorem ef_9 (m : MethodId) (x0 : Addr) (x1 : Addr) (x2 : Int32) : entryFrame m #[(.ref x0), (.ref x1), (.int x2)] 6 = mkF m 0 #[.val (.ref x0), .val (.ref x1), .val (.int x2), .unset, .unset, .unset] [] := by first | (simp [entryFrame, mkF, argsToLocals, Value.category]; done) | rfl
set_option maxRecDepth 65536 in
set_option maxHeartbeats 40000000 in
theorem rmHa0 (l : Launch) (Z : State) (a0 : Array Value) (hw : ∀ d ∈ tables_1, d.before a0 Z = true) (n0 : Nat) (h : Heap) (Z0 : n0 ≤ h.size) (a1 ka : Addr) (fk : Nat → Int64) (E_a1 : Exa Z h a1 "com/example/heliotrope/heliotrope/language/StateStore") (F_a1_words : Fld Z h a1 "com/example/heliotrope/heliotrope/language/StateStore" "words" "I" (.int (1 : Int32))) (A_ka : AF Z h ka .long 1 (fun j => .long (fk j))) :
    Met1 l Z n0 [] (⟨"com/example/heliotrope/heliotrope/language/StateStore", "hash", "([JI)J"⟩ : MethodName) prog_47_method_7_code 6 (some .long) ({ frames := 0, cells := 0, slots := 0, locals := 0 } : Room) #[(.ref a1), (.ref ka), (.int (0 : Int32))] h (fun v h' => ∃ r : Int64, v = some (.long r) ∧ h = h') := by
  refine met_of (plainFor_of_name pn_9) Z0 (fun m => ef_9 m a1 ka (0 : Int32)) ?_
  intro p e s m below meth c T hs0 X
  refine r_lconst 1 X (0 : Int64) d9_0 rfl ?_
  refine r_lstoreN 2 X #[.val (.ref a1), .val (.ref ka), .val (.int (0 : Int32)), .val (.long (0 : Int64)), .second, .unset] d9_1 rfl ?_
  refine r_iconst 3 X (0 : Int32) d9_2 rfl ?_
  refine r_istore 5 X #[.val (.ref a1), .val (.ref ka), .val (.int (0 : Int32)), .val (.long (0 : Int64)), .second, .val (.int (0 : Int32))] d9_3 rfl ?_
  refine r_iload 7 X d9_5 rfl ?_
  refine r_aloadN 8 X d9_7 rfl rfl ?_
  refine r_getfield 11 X (host := "") (Or.inl (hw _ (List.mem_of_getElem? (i := 48) rfl))) Via.refl F_a1_words d9_8 ?_
  intro T X
  refine r_icmpN 14 X d9_11 (tlt (by decide)).2.1 ?_
  refine r_lloadN 15 X d9_14 rfl ?_
  refine r_aloadN 16 X d9_15 rfl rfl ?_
  refine r_iloadN 17 X d9_16 rfl ?_
  refine r_iload 19 X d9_17 rfl ?_
  refine r_iadd 20 X d9_19 ?_
  refine r_topI (x' := (0 : Int32)) (by decide) ?_
  refine r_laload 21 X A_ka (i := 0) (v := (.long (fk 0))) (by decide) (by decide) rfl d9_20 ?_
  refine r_lxor 22 X d9_21 ?_
  refine r_ldc2Long 25 X (hw _ (List.mem_of_getElem? (i := 65) rfl)) d9_22 ?_
  refine r_lmul 26 X d9_25 ?_
  refine r_lstoreN 27 X #[.val (.ref a1), .val (.ref ka), .val (.int (0 : Int32)), .val (.long (((0 : Int64) ^^^ (fk 0)) * (-7046029254386353131 : Int64))), .second, .val (.int (0 : Int32))] d9_26 rfl ?_
  refine r_iinc 30 X (1 : Int32) #[.val (.ref a1), .val (.ref ka), .val (.int (0 : Int32)), .val (.long (((0 : Int64) ^^^ (fk 0)) * (-7046029254386353131 : Int64))), .second, .val (.int (1 : Int32))] d9_27 rfl rfl rfl ?_
  refine r_goto 5 X d9_30 ?_
  refine r_iload 7 X d9_5 rfl ?_
  refine r_aloadN 8 X d9_7 rfl rfl ?_
  refine r_getfield 11 X (host := "") (Or.inl (hw _ (List.mem_of_getElem? (i := 48) rfl))) Via.refl F_a1_words d9_8 ?_
  intro T X
  refine r_icmpY 33 X d9_11 (flt (by decide)).2.1 ?_
  refine r_lloadN 34 X d9_33 rfl ?_
  refine r_retJ X d9_34 (by decide) (by decide) ?_
  exact ⟨_, rfl, rfl⟩
theorem d14_0 : decode prog_47_method_5_code 0 = .ok (.iload_n 1, 1) := by decide +kernel
theorem d14_1 : decode prog_47_method_5_code 1 = .ok (.aload_n 0, 1) := by decide +kernel
theorem d14_2 : decode prog_47_method_5_code 2 = .ok (.getfield 36, 3) := by decide +kernel
theorem d14_5 : decode prog_47_method_5_code 5 = .ok (.imul, 1) := by decide +kernel
theorem d14_6 : decode prog_47_method_5_code 6 = .ok (.istore_n 2, 1) := by decide +kernel
theorem d14_7 : decode prog_47_method_5_code 7 = .ok (.iconst 0, 1) := by decide +kernel
theorem d14_8 : decode prog_47_method_5_code 8 = .ok (.istore_n 3, 1) := by decide +kernel
theorem d14_9 : decode prog_47_method_5_code 9 = .ok (.iload_n 3, 1) := by decide +kernel
theorem d14_10 : decode prog_47_method_5_code 10 = .ok (.aload_n 0, 1) := by decide +kernel
theorem d14_11 : decode prog_47_method_5_code 11 = .ok (.getfield 36, 3) := by decide +kernel
theorem d14_14 : decode prog_47_method_5_code 14 = .ok (.if_icmp .ge 29, 3) := by decide +kernel
theorem d14_17 : decode prog_47_method_5_code 17 = .ok (.aload_n 0, 1) := by decide +kernel
theorem d14_18 : decode prog_47_method_5_code 18 = .ok (.getfield 43, 3) := by decide +kernel
theorem d14_21 : decode prog_47_method_5_code 21 = .ok (.iload_n 2, 1) := by decide +kernel
theorem d14_22 : decode prog_47_method_5_code 22 = .ok (.iload_n 3, 1) := by decide +kernel
theorem d14_23 : decode prog_47_method_5_code 23 = .ok (.iadd, 1) := by decide +kernel
theorem d14_24 : decode prog_47_method_5_code 24 = .ok (.laload, 1) := by decide +kernel
theorem d14_25 : decode prog_47_method_5_code 25 = .ok (.aload_n 0, 1) := by decide +kernel
theorem d14_26 : decode prog_47_method_5_code 26 = .ok (.getfield 40, 3) := by decide +kernel
theorem d14_29 : decode prog_47_method_5_code 29 = .ok (.iload_n 3, 1) := by decide +kernel
theorem d14_30 : decode prog_47_method_5_code 30 = .ok (.laload, 1) := by decide +kernel
theorem d14_31 : decode prog_47_method_5_code 31 = .ok (.lcmp, 1) := by decide +kernel
theorem d14_32 : decode prog_47_method_5_code 32 = .ok (.ifCond .eq 5, 3) := by decide +kernel
theorem d14_35 : decode prog_47_method_5_code 35 = .ok (.iconst 0, 1) := by decide +kernel
theorem d14_36 : decode prog_47_method_5_code 36 = .ok (.ireturn, 1) := by decide +kernel
theorem d14_37 : decode prog_47_method_5_code 37 = .ok (.iinc 3 1, 3) := by decide +kernel
theorem d14_40 : decode prog_47_method_5_code 40 = .ok (.goto (-31), 3) := by decide +kernel
theorem d14_43 : decode prog_47_method_5_code 43 = .ok (.iconst 1, 1) := by decide +kernel
theorem d14_44 : decode prog_47_method_5_code 44 = .ok (.ireturn, 1) := by decide +kernel
theorem pn_14 : plainName "com/example/heliotrope/heliotrope/language/StateStore" = true := by first | (simp [plainName, overriddenIn]; done) | decide +kernel
theorem ef_14 (m : MethodId) (x0 : Addr) (x1 : Int32) : entryFrame m #[(.ref x0), (.int x1)] 4 = mkF m 0 #[.val (.ref x0), .val (.int x1), .unset, .unset] [] := by first | (simp [entryFrame, mkF, argsToLocals, Value.category]; done) | rfl
set_option maxRecDepth 65536 in
set_option maxHeartbeats 40000000 in
theorem rmEk0 (l : Launch) (Z : State) (a0 : Array Value) (hw : ∀ d ∈ tables_1, d.before a0 Z = true) (n0 : Nat) (h : Heap) (Z0 : n0 ≤ h.size) (a1 ka pa : Addr) (fk fp : Nat → Int64) (E_a1 : Exa Z h a1 "com/example/heliotrope/heliotrope/language/StateStore") (F_a1_words : Fld Z h a1 "com/example/heliotrope/heliotrope/language/StateStore" "words" "I" (.int (1 : Int32))) (F_a1_key : Fld Z h a1 "com/example/heliotrope/heliotrope/language/StateStore" "key" "[J" (.ref ka)) (F_a1_packed : Fld Z h a1 "com/example/heliotrope/heliotrope/language/StateStore" "packed" "[J" (.ref pa)) (A_ka : AF Z h ka .long 1 (fun j => .long (fk j))) (A_pa : AF Z h pa .long 16 (fun j => .long (fp j))) :
    Met1 l Z n0 [] (⟨"com/example/heliotrope/heliotrope/language/StateStore", "equalsKey", "(I)Z"⟩ : MethodName) prog_47_method_5_code 4 (some .boolean) ({ frames := 0, cells := 0, slots := 0, locals := 0 } : Room) #[(.ref a1), (.int (0 : Int32))] h (fun v h' => v = some (.int (b2i ((fp 0) = (fk 0)))) ∧ h = h') := by
  refine met_of (plainFor_of_name pn_14) Z0 (fun m => ef_14 m a1 (0 : Int32)) ?_
  intro p e s m below meth c T hs0 X
  refine r_iloadN 1 X d14_0 rfl ?_
  refine r_aloadN 2 X d14_1 rfl rfl ?_
  refine r_getfield 5 X (host := "") (Or.inl (hw _ (List.mem_of_getElem? (i := 48) rfl))) Via.refl F_a1_words d14_2 ?_
  intro T X
  refine r_imul 6 X d14_5 ?_
  refine r_topI (x' := (0 : Int32)) (by decide) ?_
  refine r_istoreN 7 X #[.val (.ref a1), .val (.int (0 : Int32)), .val (.int (0 : Int32)), .unset] d14_6 rfl ?_
  refine r_iconst 8 X (0 : Int32) d14_7 rfl ?_
  refine r_istoreN 9 X #[.val (.ref a1), .val (.int (0 : Int32)), .val (.int (0 : Int32)), .val (.int (0 : Int32))] d14_8 rfl ?_
  refine r_iloadN 10 X d14_9 rfl ?_
  refine r_aloadN 11 X d14_10 rfl rfl ?_
  refine r_getfield 14 X (host := "") (Or.inl (hw _ (List.mem_of_getElem? (i := 48) rfl))) Via.refl F_a1_words d14_11 ?_
  intro T X
  refine r_icmpN 17 X d14_14 (tlt (by decide)).2.1 ?_
  refine r_aloadN 18 X d14_17 rfl rfl ?_
  refine r_getfield 21 X (host := "") (Or.inl (hw _ (List.mem_of_getElem? (i := 52) rfl))) Via.refl F_a1_packed d14_18 ?_
  intro T X
  refine r_iloadN 22 X d14_21 rfl ?_
  refine r_iloadN 23 X d14_22 rfl ?_
  refine r_iadd 24 X d14_23 ?_
  refine r_topI (x' := (0 : Int32)) (by decide) ?_
  refine r_laload 25 X A_pa (i := 0) (v := (.long (fp 0))) (by decide) (by decide) rfl d14_24 ?_
  refine r_aloadN 26 X d14_25 rfl rfl ?_
  refine r_getfield 29 X (host := "") (Or.inl (hw _ (List.mem_of_getElem? (i := 50) rfl))) Via.refl F_a1_key d14_26 ?_
  intro T X
  refine r_iloadN 30 X d14_29 rfl ?_
  refine r_laload 31 X A_ka (i := 0) (v := (.long (fk 0))) (by decide) (by decide) rfl d14_30 ?_
  refine r_lcmp 32 X d14_31 ?_
  by_cases h32_1 : (fp 0) = (fk 0)
  · refine r_ifY 37 X d14_32 ((if0 _ _).trans (teq ((lw_eq _ _).mpr h32_1)).1) ?_
    refine r_iinc 40 X (1 : Int32) #[.val (.ref a1), .val (.int (0 : Int32)), .val (.int (0 : Int32)), .val (.int (1 : Int32))] d14_37 rfl rfl rfl ?_
    refine r_goto 9 X d14_40 ?_
    refine r_iloadN 10 X d14_9 rfl ?_
    refine r_aloadN 11 X d14_10 rfl rfl ?_
    refine r_getfield 14 X (host := "") (Or.inl (hw _ (List.mem_of_getElem? (i := 48) rfl))) Via.refl F_a1_words d14_11 ?_
    intro T X
    refine r_icmpY 43 X d14_14 (flt (by decide)).2.1 ?_
    refine r_iconst 44 X (1 : Int32) d14_43 rfl ?_
    refine r_retZ (z := (1 : Int32)) X d14_44 rfl (by decide) (by decide) ?_
    exact ⟨by simp only [b2i, h32_1, and_true, true_and, and_false, false_and, and_self, if_true, if_false], rfl⟩
  · refine r_ifN 35 X d14_32 ((if0 _ _).trans (feq (fun q => h32_1 ((lw_eq _ _).mp q))).1) ?_
    refine r_iconst 36 X (0 : Int32) d14_35 rfl ?_
    refine r_retZ (z := (0 : Int32)) X d14_36 rfl (by decide) (by decide) ?_
    exact ⟨by simp only [b2i, h32_1, and_true, true_and, and_false, false_and, and_self, if_true, if_false], rfl⟩
set_option maxRecDepth 65536 in
set_option maxHeartbeats 40000000 in
theorem rmHa1 (l : Launch) (Z : State) (a0 : Array Value) (hw : ∀ d ∈ tables_1, d.before a0 Z = true) (n0 : Nat) (h : Heap) (Z0 : n0 ≤ h.size) (a1 ka : Addr) (fk : Nat → Int64) (E_a1 : Exa Z h a1 "com/example/heliotrope/heliotrope/language/StateStore") (F_a1_words : Fld Z h a1 "com/example/heliotrope/heliotrope/language/StateStore" "words" "I" (.int (2 : Int32))) (A_ka : AF Z h ka .long 2 (fun j => .long (fk j))) :
    Met1 l Z n0 [] (⟨"com/example/heliotrope/heliotrope/language/StateStore", "hash", "([JI)J"⟩ : MethodName) prog_47_method_7_code 6 (some .long) ({ frames := 0, cells := 0, slots := 0, locals := 0 } : Room) #[(.ref a1), (.ref ka), (.int (0 : Int32))] h (fun v h' => ∃ r : Int64, v = some (.long r) ∧ h = h') := by
  refine met_of (plainFor_of_name pn_9) Z0 (fun m => ef_9 m a1 ka (0 : Int32)) ?_
  intro p e s m below meth c T hs0 X
  refine r_lconst 1 X (0 : Int64) d9_0 rfl ?_
  refine r_lstoreN 2 X #[.val (.ref a1), .val (.ref ka), .val (.int (0 : Int32)), .val (.long (0 : Int64)), .second, .unset] d9_1 rfl ?_
  refine r_iconst 3 X (0 : Int32) d9_2 rfl ?_
  refine r_istore 5 X #[.val (.ref a1), .val (.ref ka), .val (.int (0 : Int32)), .val (.long (0 : Int64)), .second, .val (.int (0 : Int32))] d9_3 rfl ?_
  refine r_iload 7 X d9_5 rfl ?_
  refine r_aloadN 8 X d9_7 rfl rfl ?_
  refine r_getfield 11 X (host := "") (Or.inl (hw _ (List.mem_of_getElem? (i := 48) rfl))) Via.refl F_a1_words d9_8 ?_
  intro T X
  refine r_icmpN 14 X d9_11 (tlt (by decide)).2.1 ?_
  refine r_lloadN 15 X d9_14 rfl ?_
  refine r_aloadN 16 X d9_15 rfl rfl ?_
  refine r_iloadN 17 X d9_16 rfl ?_
  refine r_iload 19 X d9_17 rfl ?_
  refine r_iadd 20 X d9_19 ?_
  refine r_topI (x' := (0 : Int32)) (by decide) ?_
  refine r_laload 21 X A_ka (i := 0) (v := (.long (fk 0))) (by decide) (by decide) rfl d9_20 ?_
  refine r_lxor 22 X d9_21 ?_
  refine r_ldc2Long 25 X (hw _ (List.mem_of_getElem? (i := 65) rfl)) d9_22 ?_
  refine r_lmul 26 X d9_25 ?_
  refine r_lstoreN 27 X #[.val (.ref a1), .val (.ref ka), .val (.int (0 : Int32)), .val (.long (((0 : Int64) ^^^ (fk 0)) * (-7046029254386353131 : Int64))), .second, .val (.int (0 : Int32))] d9_26 rfl ?_
  refine r_iinc 30 X (1 : Int32) #[.val (.ref a1), .val (.ref ka), .val (.int (0 : Int32)), .val (.long (((0 : Int64) ^^^ (fk 0)) * (-7046029254386353131 : Int64))), .second, .val (.int (1 : Int32))] d9_27 rfl rfl rfl ?_
  refine r_goto 5 X d9_30 ?_
  refine r_iload 7 X d9_5 rfl ?_
  refine r_aloadN 8 X d9_7 rfl rfl ?_
  refine r_getfield 11 X (host := "") (Or.inl (hw _ (List.mem_of_getElem? (i := 48) rfl))) Via.refl F_a1_words d9_8 ?_
  intro T X
  refine r_icmpN 14 X d9_11 (tlt (by decide)).2.1 ?_
  refine r_lloadN 15 X d9_14 rfl ?_
  refine r_aloadN 16 X d9_15 rfl rfl ?_
  refine r_iloadN 17 X d9_16 rfl ?_
  refine r_iload 19 X d9_17 rfl ?_
  refine r_iadd 20 X d9_19 ?_
  refine r_topI (x' := (1 : Int32)) (by decide) ?_
  refine r_laload 21 X A_ka (i := 1) (v := (.long (fk 1))) (by decide) (by decide) rfl d9_20 ?_
  refine r_lxor 22 X d9_21 ?_
  refine r_ldc2Long 25 X (hw _ (List.mem_of_getElem? (i := 65) rfl)) d9_22 ?_
  refine r_lmul 26 X d9_25 ?_
  refine r_lstoreN 27 X #[.val (.ref a1), .val (.ref ka), .val (.int (0 : Int32)), .val (.long (((((0 : Int64) ^^^ (fk 0)) * (-7046029254386353131 : Int64)) ^^^ (fk 1)) * (-7046029254386353131 : Int64))), .second, .val (.int (1 : Int32))] d9_26 rfl ?_
  refine r_iinc 30 X (1 : Int32) #[.val (.ref a1), .val (.ref ka), .val (.int (0 : Int32)), .val (.long (((((0 : Int64) ^^^ (fk 0)) * (-7046029254386353131 : Int64)) ^^^ (fk 1)) * (-7046029254386353131 : Int64))), .second, .val (.int (2 : Int32))] d9_27 rfl rfl rfl ?_
  refine r_goto 5 X d9_30 ?_
  refine r_iload 7 X d9_5 rfl ?_
  refine r_aloadN 8 X d9_7 rfl rfl ?_
  refine r_getfield 11 X (host := "") (Or.inl (hw _ (List.mem_of_getElem? (i := 48) rfl))) Via.refl F_a1_words d9_8 ?_
  intro T X
  refine r_icmpY 33 X d9_11 (flt (by decide)).2.1 ?_
  refine r_lloadN 34 X d9_33 rfl ?_
  refine r_retJ X d9_34 (by decide) (by decide) ?_
  exact ⟨_, rfl, rfl⟩
set_option maxRecDepth 65536 in
set_option maxHeartbeats 40000000 in
theorem rmEk1 (l : Launch) (Z : State) (a0 : Array Value) (hw : ∀ d ∈ tables_1, d.before a0 Z = true) (n0 : Nat) (h : Heap) (Z0 : n0 ≤ h.size) (a1 ka pa : Addr) (fk fp : Nat → Int64) (E_a1 : Exa Z h a1 "com/example/heliotrope/heliotrope/language/StateStore") (F_a1_words : Fld Z h a1 "com/example/heliotrope/heliotrope/language/StateStore" "words" "I" (.int (2 : Int32))) (F_a1_key : Fld Z h a1 "com/example/heliotrope/heliotrope/language/StateStore" "key" "[J" (.ref ka)) (F_a1_packed : Fld Z h a1 "com/example/heliotrope/heliotrope/language/StateStore" "packed" "[J" (.ref pa)) (A_ka : AF Z h ka .long 2 (fun j => .long (fk j))) (A_pa : AF Z h pa .long 32 (fun j => .long (fp j))) :
    Met1 l Z n0 [] (⟨"com/example/heliotrope/heliotrope/language/StateStore", "equalsKey", "(I)Z"⟩ : MethodName) prog_47_method_5_code 4 (some .boolean) ({ frames := 0, cells := 0, slots := 0, locals := 0 } : Room) #[(.ref a1), (.int (0 : Int32))] h (fun v h' => v = some (.int (b2i ((fp 0) = (fk 0) ∧ (fp 1) = (fk 1)))) ∧ h = h') := by
  refine met_of (plainFor_of_name pn_14) Z0 (fun m => ef_14 m a1 (0 : Int32)) ?_
  intro p e s m below meth c T hs0 X
  refine r_iloadN 1 X d14_0 rfl ?_
  refine r_aloadN 2 X d14_1 rfl rfl ?_
  refine r_getfield 5 X (host := "") (Or.inl (hw _ (List.mem_of_getElem? (i := 48) rfl))) Via.refl F_a1_words d14_2 ?_
  intro T X
  refine r_imul 6 X d14_5 ?_
  refine r_topI (x' := (0 : Int32)) (by decide) ?_
  refine r_istoreN 7 X #[.val (.ref a1), .val (.int (0 : Int32)), .val (.int (0 : Int32)), .unset] d14_6 rfl ?_
  refine r_iconst 8 X (0 : Int32) d14_7 rfl ?_
  refine r_istoreN 9 X #[.val (.ref a1), .val (.int (0 : Int32)), .val (.int (0 : Int32)), .val (.int (0 : Int32))] d14_8 rfl ?_
  refine r_iloadN 10 X d14_9 rfl ?_
  refine r_aloadN 11 X d14_10 rfl rfl ?_
  refine r_getfield 14 X (host := "") (Or.inl (hw _ (List.mem_of_getElem? (i := 48) rfl))) Via.refl F_a1_words d14_11 ?_
  intro T X
  refine r_icmpN 17 X d14_14 (tlt (by decide)).2.1 ?_
  refine r_aloadN 18 X d14_17 rfl rfl ?_
  refine r_getfield 21 X (host := "") (Or.inl (hw _ (List.mem_of_getElem? (i := 52) rfl))) Via.refl F_a1_packed d14_18 ?_
  intro T X
  refine r_iloadN 22 X d14_21 rfl ?_
  refine r_iloadN 23 X d14_22 rfl ?_
  refine r_iadd 24 X d14_23 ?_
  refine r_topI (x' := (0 : Int32)) (by decide) ?_
  refine r_laload 25 X A_pa (i := 0) (v := (.long (fp 0))) (by decide) (by decide) rfl d14_24 ?_
  refine r_aloadN 26 X d14_25 rfl rfl ?_
  refine r_getfield 29 X (host := "") (Or.inl (hw _ (List.mem_of_getElem? (i := 50) rfl))) Via.refl F_a1_key d14_26 ?_
  intro T X
  refine r_iloadN 30 X d14_29 rfl ?_
  refine r_laload 31 X A_ka (i := 0) (v := (.long (fk 0))) (by decide) (by decide) rfl d14_30 ?_
  refine r_lcmp 32 X d14_31 ?_
  by_cases h32_1 : (fp 0) = (fk 0)
  · refine r_ifY 37 X d14_32 ((if0 _ _).trans (teq ((lw_eq _ _).mpr h32_1)).1) ?_
    refine r_iinc 40 X (1 : Int32) #[.val (.ref a1), .val (.int (0 : Int32)), .val (.int (0 : Int32)), .val (.int (1 : Int32))] d14_37 rfl rfl rfl ?_
    refine r_goto 9 X d14_40 ?_
    refine r_iloadN 10 X d14_9 rfl ?_
    refine r_aloadN 11 X d14_10 rfl rfl ?_
    refine r_getfield 14 X (host := "") (Or.inl (hw _ (List.mem_of_getElem? (i := 48) rfl))) Via.refl F_a1_words d14_11 ?_
    intro T X
    refine r_icmpN 17 X d14_14 (tlt (by decide)).2.1 ?_
    refine r_aloadN 18 X d14_17 rfl rfl ?_
    refine r_getfield 21 X (host := "") (Or.inl (hw _ (List.mem_of_getElem? (i := 52) rfl))) Via.refl F_a1_packed d14_18 ?_
    intro T X
    refine r_iloadN 22 X d14_21 rfl ?_
    refine r_iloadN 23 X d14_22 rfl ?_
    refine r_iadd 24 X d14_23 ?_
    refine r_topI (x' := (1 : Int32)) (by decide) ?_
    refine r_laload 25 X A_pa (i := 1) (v := (.long (fp 1))) (by decide) (by decide) rfl d14_24 ?_
    refine r_aloadN 26 X d14_25 rfl rfl ?_
    refine r_getfield 29 X (host := "") (Or.inl (hw _ (List.mem_of_getElem? (i := 50) rfl))) Via.refl F_a1_key d14_26 ?_
    intro T X
    refine r_iloadN 30 X d14_29 rfl ?_
    refine r_laload 31 X A_ka (i := 1) (v := (.long (fk 1))) (by decide) (by decide) rfl d14_30 ?_
    refine r_lcmp 32 X d14_31 ?_
    by_cases h32_2 : (fp 1) = (fk 1)
    · refine r_ifY 37 X d14_32 ((if0 _ _).trans (teq ((lw_eq _ _).mpr h32_2)).1) ?_
      refine r_iinc 40 X (1 : Int32) #[.val (.ref a1), .val (.int (0 : Int32)), .val (.int (0 : Int32)), .val (.int (2 : Int32))] d14_37 rfl rfl rfl ?_
      refine r_goto 9 X d14_40 ?_
      refine r_iloadN 10 X d14_9 rfl ?_
      refine r_aloadN 11 X d14_10 rfl rfl ?_
      refine r_getfield 14 X (host := "") (Or.inl (hw _ (List.mem_of_getElem? (i := 48) rfl))) Via.refl F_a1_words d14_11 ?_
      intro T X
      refine r_icmpY 43 X d14_14 (flt (by decide)).2.1 ?_
      refine r_iconst 44 X (1 : Int32) d14_43 rfl ?_
      refine r_retZ (z := (1 : Int32)) X d14_44 rfl (by decide) (by decide) ?_
      exact ⟨by simp only [b2i, h32_1, h32_2, and_true, true_and, and_false, false_and, and_self, if_true, if_false], rfl⟩
    · refine r_ifN 35 X d14_32 ((if0 _ _).trans (feq (fun q => h32_2 ((lw_eq _ _).mp q))).1) ?_
      refine r_iconst 36 X (0 : Int32) d14_35 rfl ?_
      refine r_retZ (z := (0 : Int32)) X d14_36 rfl (by decide) (by decide) ?_
      exact ⟨by simp only [b2i, h32_1, h32_2, and_true, true_and, and_false, false_and, and_self, if_true, if_false], rfl⟩
  · refine r_ifN 35 X d14_32 ((if0 _ _).trans (feq (fun q => h32_1 ((lw_eq _ _).mp q))).1) ?_
    refine r_iconst 36 X (0 : Int32) d14_35 rfl ?_
    refine r_retZ (z := (0 : Int32)) X d14_36 rfl (by decide) (by decide) ?_
    exact ⟨by simp only [b2i, h32_1, and_true, true_and, and_false, false_and, and_self, if_true, if_false], rfl⟩
theorem d10_0 : decode prog_47_method_8_code 0 = .ok (.lload_n 1, 1) := by decide +kernel
theorem d10_1 : decode prog_47_method_8_code 1 = .ok (.bipush 64, 2) := by decide +kernel
theorem d10_3 : decode prog_47_method_8_code 3 = .ok (.aload_n 0, 1) := by decide +kernel
theorem d10_4 : decode prog_47_method_8_code 4 = .ok (.getfield 46, 3) := by decide +kernel
theorem d10_7 : decode prog_47_method_8_code 7 = .ok (.arraylength, 1) := by decide +kernel
theorem d10_8 : decode prog_47_method_8_code 8 = .ok (.invokestatic 100, 3) := by decide +kernel
theorem d10_11 : decode prog_47_method_8_code 11 = .ok (.isub, 1) := by decide +kernel
theorem d10_12 : decode prog_47_method_8_code 12 = .ok (.lushr, 1) := by decide +kernel
theorem d10_13 : decode prog_47_method_8_code 13 = .ok (.l2i, 1) := by decide +kernel
theorem d10_14 : decode prog_47_method_8_code 14 = .ok (.ireturn, 1) := by decide +kernel
theorem pn_10 : plainName "com/example/heliotrope/heliotrope/language/StateStore" = true := by first | (simp [plainName, overriddenIn]; done) | decide +kernel
theorem ef_10 (m : MethodId) (x0 : Addr) (x1 : Int64) : entryFrame m #[(.ref x0), (.long x1)] 3 = mkF m 0 #[.val (.ref x0), .val (.long x1), .second] [] := by first | (simp [entryFrame, mkF, argsToLocals, Value.category]; done) | rfl
set_option maxRecDepth 65536 in
set_option maxHeartbeats 40000000 in
theorem rmSl (l : Launch) (Z : State) (a0 : Array Value) (hw : ∀ d ∈ tables_1, d.before a0 Z = true) (n0 : Nat) (h : Heap) (Z0 : n0 ≤ h.size) (a1 ta : Addr) (ft : Nat → Value) (q1 : Int64) (E_a1 : Exa Z h a1 "com/example/heliotrope/heliotrope/language/StateStore") (F_a1_table : Fld Z h a1 "com/example/heliotrope/heliotrope/language/StateStore" "table" "[I" (.ref ta)) (A_ta : AF Z h ta .int 64 ft) :
    Met1 l Z n0 [] (⟨"com/example/heliotrope/heliotrope/language/StateStore", "slot", "(J)I"⟩ : MethodName) prog_47_method_8_code 3 (some .int) ({ frames := 1, cells := 0, slots := 0, locals := 16 } : Room) #[(.ref a1), (.long q1)] h (fun v h' => ∃ (r : Int32) (k : Nat), v = some (.int r) ∧ r.toInt = (k : Int) ∧ k < 64 ∧ h = h') := by
  refine met_of (plainFor_of_name pn_10) Z0 (fun m => ef_10 m a1 q1) ?_
  intro p e s m below meth c T hs0 X
  refine r_lloadN 1 X d10_0 rfl ?_
  refine r_bipush 3 X (64 : Int32) d10_1 rfl ?_
  refine r_aloadN 4 X d10_3 rfl rfl ?_
  refine r_getfield 7 X (host := "") (Or.inl (hw _ (List.mem_of_getElem? (i := 54) rfl))) Via.refl F_a1_table d10_4 ?_
  intro T X
  refine r_arraylength 8 X A_ta (64 : Int32) (by decide) d10_7 ?_
  refine r_callS 11 X (st := [(.int (64 : Int32)), (.long q1)]) (rmTz l Z a0 hw n0 _ X.sz) (hw _ (List.mem_of_getElem? (i := 70) rfl)) (hw _ (List.mem_of_getElem? (i := 71) rfl)) (hw _ (List.mem_of_getElem? (i := 72) rfl)) (hw _ (List.mem_of_getElem? (i := 45) rfl)) (by decide) pd_0 [(.int (64 : Int32))] rfl rfl 3 (Nat.le_of_eq rfl) rfl (by decide) (by decide) (by decide) (by decide) d10_8 ?_
  rintro T h1 v1 ⟨rfl, rfl⟩ X
  change Run _ _ _ _ _ _ _ _ [(.int (6 : Int32)), (.int (64 : Int32)), (.long q1)]
  refine r_isub 12 X d10_11 ?_
  refine r_topI (x' := (58 : Int32)) (by decide) ?_
  refine r_lushr 13 X d10_12 ?_
  refine r_l2i 14 X d10_13 ?_
  refine r_retI X d10_14 (by decide) (by decide) ?_
  exact (own_slot q1).elim fun k hk => ⟨_, k, rfl, hk.1, hk.2, rfl⟩
theorem d8_0 : decode prog_47_method_3_code 0 = .ok (.iconst 0, 1) := by decide +kernel
theorem d8_1 : decode prog_47_method_3_code 1 = .ok (.istore_n 2, 1) := by decide +kernel
theorem d8_2 : decode prog_47_method_3_code 2 = .ok (.iload_n 2, 1) := by decide +kernel
theorem d8_3 : decode prog_47_method_3_code 3 = .ok (.aload_n 0, 1) := by decide +kernel
theorem d8_4 : decode prog_47_method_3_code 4 = .ok (.getfield 36, 3) := by decide +kernel
theorem d8_7 : decode prog_47_method_3_code 7 = .ok (.if_icmp .ge 16, 3) := by decide +kernel
theorem d8_10 : decode prog_47_method_3_code 10 = .ok (.aload_n 0, 1) := by decide +kernel
theorem d8_11 : decode prog_47_method_3_code 11 = .ok (.getfield 40, 3) := by decide +kernel
theorem d8_14 : decode prog_47_method_3_code 14 = .ok (.iload_n 2, 1) := by decide +kernel
theorem d8_15 : decode prog_47_method_3_code 15 = .ok (.lconst 0, 1) := by decide +kernel
theorem d8_16 : decode prog_47_method_3_code 16 = .ok (.lastore, 1) := by decide +kernel
theorem d8_17 : decode prog_47_method_3_code 17 = .ok (.iinc 2 1, 3) := by decide +kernel
theorem d8_20 : decode prog_47_method_3_code 20 = .ok (.goto (-18), 3) := by decide +kernel
theorem d8_23 : decode prog_47_method_3_code 23 = .ok (.iconst 0, 1) := by decide +kernel
theorem d8_24 : decode prog_47_method_3_code 24 = .ok (.istore_n 2, 1) := by decide +kernel
theorem d8_25 : decode prog_47_method_3_code 25 = .ok (.iload_n 2, 1) := by decide +kernel
theorem d8_26 : decode prog_47_method_3_code 26 = .ok (.aload_n 0, 1) := by decide +kernel
theorem d8_27 : decode prog_47_method_3_code 27 = .ok (.getfield 15, 3) := by decide +kernel
theorem d8_30 : decode prog_47_method_3_code 30 = .ok (.arraylength, 1) := by decide +kernel
theorem d8_31 : decode prog_47_method_3_code 31 = .ok (.if_icmp .ge 42, 3) := by decide +kernel
theorem d8_34 : decode prog_47_method_3_code 34 = .ok (.aload_n 0, 1) := by decide +kernel
theorem d8_35 : decode prog_47_method_3_code 35 = .ok (.getfield 40, 3) := by decide +kernel
theorem d8_38 : decode prog_47_method_3_code 38 = .ok (.aload_n 0, 1) := by decide +kernel
theorem d8_39 : decode prog_47_method_3_code 39 = .ok (.getfield 20, 3) := by decide +kernel
theorem d8_42 : decode prog_47_method_3_code 42 = .ok (.iload_n 2, 1) := by decide +kernel
theorem d8_43 : decode prog_47_method_3_code 43 = .ok (.iaload, 1) := by decide +kernel
theorem d8_44 : decode prog_47_method_3_code 44 = .ok (.dup2, 1) := by decide +kernel
theorem d8_45 : decode prog_47_method_3_code 45 = .ok (.laload, 1) := by decide +kernel
theorem d8_46 : decode prog_47_method_3_code 46 = .ok (.aload_n 1, 1) := by decide +kernel
theorem d8_47 : decode prog_47_method_3_code 47 = .ok (.iload_n 2, 1) := by decide +kernel
theorem d8_48 : decode prog_47_method_3_code 48 = .ok (.iaload, 1) := by decide +kernel
theorem d8_49 : decode prog_47_method_3_code 49 = .ok (.i2l, 1) := by decide +kernel
theorem d8_50 : decode prog_47_method_3_code 50 = .ok (.aload_n 0, 1) := by decide +kernel
theorem d8_51 : decode prog_47_method_3_code 51 = .ok (.getfield 15, 3) := by decide +kernel
theorem d8_54 : decode prog_47_method_3_code 54 = .ok (.iload_n 2, 1) := by decide +kernel
theorem d8_55 : decode prog_47_method_3_code 55 = .ok (.iaload, 1) := by decide +kernel
theorem d8_56 : decode prog_47_method_3_code 56 = .ok (.i2l, 1) := by decide +kernel
theorem d8_57 : decode prog_47_method_3_code 57 = .ok (.lsub, 1) := by decide +kernel
theorem d8_58 : decode prog_47_method_3_code 58 = .ok (.aload_n 0, 1) := by decide +kernel
theorem d8_59 : decode prog_47_method_3_code 59 = .ok (.getfield 23, 3) := by decide +kernel
theorem d8_62 : decode prog_47_method_3_code 62 = .ok (.iload_n 2, 1) := by decide +kernel
theorem d8_63 : decode prog_47_method_3_code 63 = .ok (.iaload, 1) := by decide +kernel
theorem d8_64 : decode prog_47_method_3_code 64 = .ok (.lshl, 1) := by decide +kernel
theorem d8_65 : decode prog_47_method_3_code 65 = .ok (.lor, 1) := by decide +kernel
theorem d8_66 : decode prog_47_method_3_code 66 = .ok (.lastore, 1) := by decide +kernel
theorem d8_67 : decode prog_47_method_3_code 67 = .ok (.iinc 2 1, 3) := by decide +kernel
theorem d8_70 : decode prog_47_method_3_code 70 = .ok (.goto (-45), 3) := by decide +kernel
theorem d8_73 : decode prog_47_method_3_code 73 = .ok (.aload_n 0, 1) := by decide +kernel
theorem d8_74 : decode prog_47_method_3_code 74 = .ok (.aload_n 0, 1) := by decide +kernel
theorem d8_75 : decode prog_47_method_3_code 75 = .ok (.aload_n 0, 1) := by decide +kernel
theorem d8_76 : decode prog_47_method_3_code 76 = .ok (.getfield 40, 3) := by decide +kernel
theorem d8_79 : decode prog_47_method_3_code 79 = .ok (.iconst 0, 1) := by decide +kernel
theorem d8_80 : decode prog_47_method_3_code 80 = .ok (.invokevirtual 52, 3) := by decide +kernel
theorem d8_83 : decode prog_47_method_3_code 83 = .ok (.invokevirtual 56, 3) := by decide +kernel
theorem d8_86 : decode prog_47_method_3_code 86 = .ok (.istore_n 2, 1) := by decide +kernel
theorem d8_87 : decode prog_47_method_3_code 87 = .ok (.aload_n 0, 1) := by decide +kernel
theorem d8_88 : decode prog_47_method_3_code 88 = .ok (.getfield 46, 3) := by decide +kernel
theorem d8_91 : decode prog_47_method_3_code 91 = .ok (.iload_n 2, 1) := by decide +kernel
theorem d8_92 : decode prog_47_method_3_code 92 = .ok (.iaload, 1) := by decide +kernel
theorem d8_93 : decode prog_47_method_3_code 93 = .ok (.ifCond .eq 42, 3) := by decide +kernel
theorem d8_135 : decode prog_47_method_3_code 135 = .ok (.aload_n 0, 1) := by decide +kernel
theorem d8_136 : decode prog_47_method_3_code 136 = .ok (.getfield 49, 3) := by decide +kernel
theorem d8_139 : decode prog_47_method_3_code 139 = .ok (.ldc 63, 2) := by decide +kernel
theorem d8_141 : decode prog_47_method_3_code 141 = .ok (.if_icmp .eq 23, 3) := by decide +kernel
theorem d8_144 : decode prog_47_method_3_code 144 = .ok (.aload_n 0, 1) := by decide +kernel
theorem d8_145 : decode prog_47_method_3_code 145 = .ok (.getfield 49, 3) := by decide +kernel
theorem d8_148 : decode prog_47_method_3_code 148 = .ok (.iconst 1, 1) := by decide +kernel
theorem d8_149 : decode prog_47_method_3_code 149 = .ok (.iadd, 1) := by decide +kernel
theorem d8_150 : decode prog_47_method_3_code 150 = .ok (.i2l, 1) := by decide +kernel
theorem d8_151 : decode prog_47_method_3_code 151 = .ok (.aload_n 0, 1) := by decide +kernel
theorem d8_152 : decode prog_47_method_3_code 152 = .ok (.getfield 36, 3) := by decide +kernel
theorem d8_155 : decode prog_47_method_3_code 155 = .ok (.i2l, 1) := by decide +kernel
theorem d8_156 : decode prog_47_method_3_code 156 = .ok (.lmul, 1) := by decide +kernel
theorem d8_157 : decode prog_47_method_3_code 157 = .ok (.ldc2_w 64, 3) := by decide +kernel
theorem d8_160 : decode prog_47_method_3_code 160 = .ok (.lcmp, 1) := by decide +kernel
theorem d8_161 : decode prog_47_method_3_code 161 = .ok (.ifCond .le 20, 3) := by decide +kernel
theorem d8_181 : decode prog_47_method_3_code 181 = .ok (.aload_n 0, 1) := by decide +kernel
theorem d8_182 : decode prog_47_method_3_code 182 = .ok (.getfield 49, 3) := by decide +kernel
theorem d8_185 : decode prog_47_method_3_code 185 = .ok (.iconst 1, 1) := by decide +kernel
theorem d8_186 : decode prog_47_method_3_code 186 = .ok (.iadd, 1) := by decide +kernel
theorem d8_187 : decode prog_47_method_3_code 187 = .ok (.aload_n 0, 1) := by decide +kernel
theorem d8_188 : decode prog_47_method_3_code 188 = .ok (.getfield 36, 3) := by decide +kernel
theorem d8_191 : decode prog_47_method_3_code 191 = .ok (.imul, 1) := by decide +kernel
theorem d8_192 : decode prog_47_method_3_code 192 = .ok (.aload_n 0, 1) := by decide +kernel
theorem d8_193 : decode prog_47_method_3_code 193 = .ok (.getfield 43, 3) := by decide +kernel
theorem d8_196 : decode prog_47_method_3_code 196 = .ok (.arraylength, 1) := by decide +kernel
theorem d8_197 : decode prog_47_method_3_code 197 = .ok (.if_icmp .le 31, 3) := by decide +kernel
theorem d8_228 : decode prog_47_method_3_code 228 = .ok (.aload_n 0, 1) := by decide +kernel
theorem d8_229 : decode prog_47_method_3_code 229 = .ok (.getfield 40, 3) := by decide +kernel
theorem d8_232 : decode prog_47_method_3_code 232 = .ok (.iconst 0, 1) := by decide +kernel
theorem d8_233 : decode prog_47_method_3_code 233 = .ok (.aload_n 0, 1) := by decide +kernel
theorem d8_234 : decode prog_47_method_3_code 234 = .ok (.getfield 43, 3) := by decide +kernel
theorem d8_237 : decode prog_47_method_3_code 237 = .ok (.aload_n 0, 1) := by decide +kernel
theorem d8_238 : decode prog_47_method_3_code 238 = .ok (.getfield 49, 3) := by decide +kernel
theorem d8_241 : decode prog_47_method_3_code 241 = .ok (.aload_n 0, 1) := by decide +kernel
theorem d8_242 : decode prog_47_method_3_code 242 = .ok (.getfield 36, 3) := by decide +kernel
theorem d8_245 : decode prog_47_method_3_code 245 = .ok (.imul, 1) := by decide +kernel
theorem d8_246 : decode prog_47_method_3_code 246 = .ok (.aload_n 0, 1) := by decide +kernel
theorem d8_247 : decode prog_47_method_3_code 247 = .ok (.getfield 36, 3) := by decide +kernel
theorem d8_250 : decode prog_47_method_3_code 250 = .ok (.invokestatic 89, 3) := by decide +kernel
theorem d8_253 : decode prog_47_method_3_code 253 = .ok (.aload_n 0, 1) := by decide +kernel
theorem d8_254 : decode prog_47_method_3_code 254 = .ok (.getfield 46, 3) := by decide +kernel
theorem d8_257 : decode prog_47_method_3_code 257 = .ok (.iload_n 2, 1) := by decide +kernel
theorem d8_258 : decode prog_47_method_3_code 258 = .ok (.aload_n 0, 1) := by decide +kernel
theorem d8_259 : decode prog_47_method_3_code 259 = .ok (.getfield 49, 3) := by decide +kernel
theorem d8_262 : decode prog_47_method_3_code 262 = .ok (.iconst 1, 1) := by decide +kernel
theorem d8_263 : decode prog_47_method_3_code 263 = .ok (.iadd, 1) := by decide +kernel
theorem d8_264 : decode prog_47_method_3_code 264 = .ok (.iastore, 1) := by decide +kernel
theorem d8_265 : decode prog_47_method_3_code 265 = .ok (.aload_n 0, 1) := by decide +kernel
theorem d8_266 : decode prog_47_method_3_code 266 = .ok (.dup, 1) := by decide +kernel
theorem d8_267 : decode prog_47_method_3_code 267 = .ok (.getfield 49, 3) := by decide +kernel
theorem d8_270 : decode prog_47_method_3_code 270 = .ok (.iconst 1, 1) := by decide +kernel
theorem d8_271 : decode prog_47_method_3_code 271 = .ok (.iadd, 1) := by decide +kernel
theorem d8_272 : decode prog_47_method_3_code 272 = .ok (.putfield 49, 3) := by decide +kernel
theorem d8_275 : decode prog_47_method_3_code 275 = .ok (.aload_n 0, 1) := by decide +kernel
theorem d8_276 : decode prog_47_method_3_code 276 = .ok (.getfield 49, 3) := by decide +kernel
theorem d8_279 : decode prog_47_method_3_code 279 = .ok (.aload_n 0, 1) := by decide +kernel
theorem d8_280 : decode prog_47_method_3_code 280 = .ok (.getfield 46, 3) := by decide +kernel
theorem d8_283 : decode prog_47_method_3_code 283 = .ok (.arraylength, 1) := by decide +kernel
theorem d8_284 : decode prog_47_method_3_code 284 = .ok (.iconst 2, 1) := by decide +kernel
theorem d8_285 : decode prog_47_method_3_code 285 = .ok (.idiv, 1) := by decide +kernel
theorem d8_286 : decode prog_47_method_3_code 286 = .ok (.if_icmp .le 7, 3) := by decide +kernel
theorem d8_293 : decode prog_47_method_3_code 293 = .ok (.aload_n 0, 1) := by decide +kernel
theorem d8_294 : decode prog_47_method_3_code 294 = .ok (.getfield 49, 3) := by decide +kernel
theorem d8_297 : decode prog_47_method_3_code 297 = .ok (.iconst 1, 1) := by decide +kernel
theorem d8_298 : decode prog_47_method_3_code 298 = .ok (.isub, 1) := by decide +kernel
theorem d8_299 : decode prog_47_method_3_code 299 = .ok (.ireturn, 1) := by decide +kernel
theorem pn_8 : plainName "com/example/heliotrope/heliotrope/language/StateStore" = true := by first | (simp [plainName, overriddenIn]; done) | decide +kernel
theorem ef_8 (m : MethodId) (x0 : Addr) (x1 : Addr) : entryFrame m #[(.ref x0), (.ref x1)] 3 = mkF m 0 #[.val (.ref x0), .val (.ref x1), .unset] [] := by first | (simp [entryFrame, mkF, argsToLocals, Value.category]; done) | rfl
set_option maxRecDepth 65536 in
set_option maxHeartbeats 40000000 in
theorem rmAd00 (l : Launch) (Z : State) (a0 : Array Value) (hw : ∀ d ∈ tables_1, d.before a0 Z = true) (n0 : Nat) (h : Heap) (Z0 : n0 ≤ h.size) (a1 la wa sa ma ka pa ta a2 : Addr) (fl fv : Nat → Int32) (u1 u2 : Int32) (m0 m1 m2 : Int64) (fk fp : Nat → Int64) (ga1 : n0 ≤ a1) (gka : n0 ≤ ka) (gpa : n0 ≤ pa) (gta : n0 ≤ ta) (ne_a1_la : a1 ≠ la) (ne_a1_wa : a1 ≠ wa) (ne_a1_sa : a1 ≠ sa) (ne_a1_ma : a1 ≠ ma) (ne_a1_ka : a1 ≠ ka) (ne_a1_pa : a1 ≠ pa) (ne_a1_ta : a1 ≠ ta) (ne_a1_a2 : a1 ≠ a2) (ne_la_ka : la ≠ ka) (ne_la_pa : la ≠ pa) (ne_la_ta : la ≠ ta) (ne_wa_ka : wa ≠ ka) (ne_wa_pa : wa ≠ pa) (ne_wa_ta : wa ≠ ta) (ne_sa_ka : sa ≠ ka) (ne_sa_pa : sa ≠ pa) (ne_sa_ta : sa ≠ ta) (ne_ma_ka : ma ≠ ka) (ne_ma_pa : ma ≠ pa) (ne_ma_ta : ma ≠ ta) (ne_ka_pa : ka ≠ pa) (ne_ka_ta : ka ≠ ta) (ne_ka_a2 : ka ≠ a2) (ne_pa_ta : pa ≠ ta) (ne_pa_a2 : pa ≠ a2) (ne_ta_a2 : ta ≠ a2) (E_a1 : Exa Z h a1 "com/example/heliotrope/heliotrope/language/StateStore") (F_a1_low : Fld Z h a1 "com/example/heliotrope/heliotrope/language/StateStore" "low" "[I" (.ref la)) (F_a1_word : Fld Z h a1 "com/example/heliotrope/heliotrope/language/StateStore" "word" "[I" (.ref wa)) (F_a1_shift : Fld Z h a1 "com/example/heliotrope/heliotrope/language/StateStore" "shift" "[I" (.ref sa)) (F_a1_mask : Fld Z h a1 "com/example/heliotrope/heliotrope/language/StateStore" "mask" "[J" (.ref ma)) (F_a1_key : Fld Z h a1 "com/example/heliotrope/heliotrope/language/StateStore" "key" "[J" (.ref ka)) (F_a1_packed : Fld Z h a1 "com/example/heliotrope/heliotrope/language/StateStore" "packed" "[J" (.ref pa)) (F_a1_table : Fld Z h a1 "com/example/heliotrope/heliotrope/language/StateStore" "table" "[I" (.ref ta)) (F_a1_words : Fld Z h a1 "com/example/heliotrope/heliotrope/language/StateStore" "words" "I" (.int (1 : Int32))) (F_a1_count : Fld Z h a1 "com/example/heliotrope/heliotrope/language/StateStore" "count" "I" (.int (0 : Int32))) (A_la : AF Z h la .int 3 (fun j => .int (fl j))) (A_wa : AF Z h wa .int 3 (fun j => .int ((updI (updI (updI (fun _ => (0 : Int32)) 0 (0 : Int32)) 1 (0 : Int32)) 2 (0 : Int32)) j))) (A_sa : AF Z h sa .int 3 (fun j => .int ((updI (updI (updI (fun _ => (0 : Int32)) 0 (0 : Int32)) 1 u1) 2 u2) j))) (A_ma : AF Z h ma .long 3 (fun j => .long ((updJ (updJ (updJ (fun _ => (0 : Int64)) 0 m0) 1 m1) 2 m2) j))) (A_ka : AF Z h ka .long 1 (fun j => .long (fk j))) (A_pa : AF Z h pa .long 16 (fun j => .long (fp j))) (A_ta : AF Z h ta .int 64 (fun j => .int ((fun _ => (0 : Int32)) j))) (A_a2 : AF Z h a2 .int 3 (fun j => .int (fv j))) :
    Met1 l Z n0 [] (⟨"com/example/heliotrope/heliotrope/language/StateStore", "add", "([I)I"⟩ : MethodName) prog_47_method_3_code 3 (some .int) ({ frames := 2, cells := 0, slots := 0, locals := 30 } : Room) #[(.ref a1), (.ref a2)] h (fun v h' => v = some (.int 0) ∧ Keep h h' [a1, ka, pa, ta] ∧ Fld Z h' a1 "com/example/heliotrope/heliotrope/language/StateStore" "low" "[I" (.ref la) ∧ Fld Z h' a1 "com/example/heliotrope/heliotrope/language/StateStore" "word" "[I" (.ref wa) ∧ Fld Z h' a1 "com/example/heliotrope/heliotrope/language/StateStore" "shift" "[I" (.ref sa) ∧ Fld Z h' a1 "com/example/heliotrope/heliotrope/language/StateStore" "mask" "[J" (.ref ma) ∧ Fld Z h' a1 "com/example/heliotrope/heliotrope/language/StateStore" "key" "[J" (.ref ka) ∧ Fld Z h' a1 "com/example/heliotrope/heliotrope/language/StateStore" "packed" "[J" (.ref pa) ∧ Fld Z h' a1 "com/example/heliotrope/heliotrope/language/StateStore" "table" "[I" (.ref ta) ∧ Fld Z h' a1 "com/example/heliotrope/heliotrope/language/StateStore" "words" "I" (.int (1 : Int32)) ∧ Fld Z h' a1 "com/example/heliotrope/heliotrope/language/StateStore" "count" "I" (.int (1 : Int32)) ∧ (∃ gk : Nat → Int64, AF Z h' ka .long 1 (fun j => .long (gk j))) ∧ (∃ gp : Nat → Int64, AF Z h' pa .long 16 (fun j => .long (gp j)) ∧ gp 0 = ((((0 : Int64) ||| (fldS (fv 0) (fl 0) (0 : Int32))) ||| (fldS (fv 1) (fl 1) u1)) ||| (fldS (fv 2) (fl 2) u2))) ∧ ∃ k0 : Nat, AF Z h' ta .int 64 (fun j => .int ((updI (fun _ => (0 : Int32)) k0 (1 : Int32)) j))) := by
  refine met_of (plainFor_of_name pn_8) Z0 (fun m => ef_8 m a1 a2) ?_
  intro p e s m below meth c T hs0 X
  have K := Keep.refl h [a1, ka, pa, ta]
  refine r_iconst 1 X (0 : Int32) d8_0 rfl ?_
  refine r_istoreN 2 X #[.val (.ref a1), .val (.ref a2), .val (.int (0 : Int32))] d8_1 rfl ?_
  refine r_iloadN 3 X d8_2 rfl ?_
  refine r_aloadN 4 X d8_3 rfl rfl ?_
  refine r_getfield 7 X (host := "") (Or.inl (hw _ (List.mem_of_getElem? (i := 48) rfl))) Via.refl F_a1_words d8_4 ?_
  intro T X
  refine r_icmpN 10 X d8_7 (tlt (by decide)).2.1 ?_
  refine r_aloadN 11 X d8_10 rfl rfl ?_
  refine r_getfield 14 X (host := "") (Or.inl (hw _ (List.mem_of_getElem? (i := 50) rfl))) Via.refl F_a1_key d8_11 ?_
  intro T X
  refine r_iloadN 15 X d8_14 rfl ?_
  refine r_lconst 16 X (0 : Int64) d8_15 rfl ?_
  refine r_lastore 17 X A_ka (i := 0) (v := (.long (0 : Int64))) (by decide) (by decide) rfl gka d8_16 ?_
  intro T h1 W1 X
  have K := K.wr W1 (Or.inl (List.mem_of_getElem? (i := 1) rfl))
  have E_a1 := E_a1.wr W1
  have F_a1_low := F_a1_low.other W1 (Or.inl ne_a1_ka)
  have F_a1_word := F_a1_word.other W1 (Or.inl ne_a1_ka)
  have F_a1_shift := F_a1_shift.other W1 (Or.inl ne_a1_ka)
  have F_a1_mask := F_a1_mask.other W1 (Or.inl ne_a1_ka)
  have F_a1_key := F_a1_key.other W1 (Or.inl ne_a1_ka)
  have F_a1_packed := F_a1_packed.other W1 (Or.inl ne_a1_ka)
  have F_a1_table := F_a1_table.other W1 (Or.inl ne_a1_ka)
  have F_a1_words := F_a1_words.other W1 (Or.inl ne_a1_ka)
  have F_a1_count := F_a1_count.other W1 (Or.inl ne_a1_ka)
  have A_la := A_la.other W1 ne_la_ka
  have A_wa := A_wa.other W1 ne_wa_ka
  have A_sa := A_sa.other W1 ne_sa_ka
  have A_ma := A_ma.other W1 ne_ma_ka
  have A_ka := A_ka.setJ W1
  have A_pa := A_pa.other W1 (Ne.symm ne_ka_pa)
  have A_ta := A_ta.other W1 (Ne.symm ne_ka_ta)
  have A_a2 := A_a2.other W1 (Ne.symm ne_ka_a2)
  refine r_iinc 20 X (1 : Int32) #[.val (.ref a1), .val (.ref a2), .val (.int (1 : Int32))] d8_17 rfl rfl rfl ?_
  refine r_goto 2 X d8_20 ?_
  refine r_iloadN 3 X d8_2 rfl ?_
  refine r_aloadN 4 X d8_3 rfl rfl ?_
  refine r_getfield 7 X (host := "") (Or.inl (hw _ (List.mem_of_getElem? (i := 48) rfl))) Via.refl F_a1_words d8_4 ?_
  intro T X
  refine r_icmpY 23 X d8_7 (flt (by decide)).2.1 ?_
  refine r_iconst 24 X (0 : Int32) d8_23 rfl ?_
  refine r_istoreN 25 X #[.val (.ref a1), .val (.ref a2), .val (.int (0 : Int32))] d8_24 rfl ?_
  refine r_iloadN 26 X d8_25 rfl ?_
  refine r_aloadN 27 X d8_26 rfl rfl ?_
  refine r_getfield 30 X (host := "") (Or.inl (hw _ (List.mem_of_getElem? (i := 30) rfl))) Via.refl F_a1_low d8_27 ?_
  intro T X
  refine r_arraylength 31 X A_la (3 : Int32) (by decide) d8_30 ?_
  refine r_icmpN 34 X d8_31 (tlt (by decide)).2.1 ?_
  refine r_aloadN 35 X d8_34 rfl rfl ?_
  refine r_getfield 38 X (host := "") (Or.inl (hw _ (List.mem_of_getElem? (i := 50) rfl))) Via.refl F_a1_key d8_35 ?_
  intro T X
  refine r_aloadN 39 X d8_38 rfl rfl ?_
  refine r_getfield 42 X (host := "") (Or.inl (hw _ (List.mem_of_getElem? (i := 32) rfl))) Via.refl F_a1_word d8_39 ?_
  intro T X
  refine r_iloadN 43 X d8_42 rfl ?_
  refine r_iaload 44 X A_wa (i := 0) (v := (.int (0 : Int32))) (by decide) (by decide) rfl d8_43 ?_
  refine r_dup2_2 45 X d8_44 rfl rfl ?_
  refine r_laload 46 X A_ka (i := 0) (v := (.long (0 : Int64))) (by decide) (by decide) rfl d8_45 ?_
  refine r_aloadN 47 X d8_46 rfl rfl ?_
  refine r_iloadN 48 X d8_47 rfl ?_
  refine r_iaload 49 X A_a2 (i := 0) (v := (.int (fv 0))) (by decide) (by decide) rfl d8_48 ?_
  refine r_i2l 50 X d8_49 ?_
  refine r_aloadN 51 X d8_50 rfl rfl ?_
  refine r_getfield 54 X (host := "") (Or.inl (hw _ (List.mem_of_getElem? (i := 30) rfl))) Via.refl F_a1_low d8_51 ?_
  intro T X
  refine r_iloadN 55 X d8_54 rfl ?_
  refine r_iaload 56 X A_la (i := 0) (v := (.int (fl 0))) (by decide) (by decide) rfl d8_55 ?_
  refine r_i2l 57 X d8_56 ?_
  refine r_lsub 58 X d8_57 ?_
  refine r_aloadN 59 X d8_58 rfl rfl ?_
  refine r_getfield 62 X (host := "") (Or.inl (hw _ (List.mem_of_getElem? (i := 34) rfl))) Via.refl F_a1_shift d8_59 ?_
  intro T X
  refine r_iloadN 63 X d8_62 rfl ?_
  refine r_iaload 64 X A_sa (i := 0) (v := (.int (0 : Int32))) (by decide) (by decide) rfl d8_63 ?_
  refine r_lshl 65 X d8_64 ?_
  refine r_topJ (x' := (fldS (fv 0) (fl 0) (0 : Int32))) rfl ?_
  refine r_lor 66 X d8_65 ?_
  refine r_lastore 67 X A_ka (i := 0) (v := (.long ((0 : Int64) ||| (fldS (fv 0) (fl 0) (0 : Int32))))) (by decide) (by decide) rfl gka d8_66 ?_
  intro T h2 W2 X
  have K := K.wr W2 (Or.inl (List.mem_of_getElem? (i := 1) rfl))
  have E_a1 := E_a1.wr W2
  have F_a1_low := F_a1_low.other W2 (Or.inl ne_a1_ka)
  have F_a1_word := F_a1_word.other W2 (Or.inl ne_a1_ka)
  have F_a1_shift := F_a1_shift.other W2 (Or.inl ne_a1_ka)
  have F_a1_mask := F_a1_mask.other W2 (Or.inl ne_a1_ka)
  have F_a1_key := F_a1_key.other W2 (Or.inl ne_a1_ka)
  have F_a1_packed := F_a1_packed.other W2 (Or.inl ne_a1_ka)
  have F_a1_table := F_a1_table.other W2 (Or.inl ne_a1_ka)
  have F_a1_words := F_a1_words.other W2 (Or.inl ne_a1_ka)
  have F_a1_count := F_a1_count.other W2 (Or.inl ne_a1_ka)
  have A_la := A_la.other W2 ne_la_ka
  have A_wa := A_wa.other W2 ne_wa_ka
  have A_sa := A_sa.other W2 ne_sa_ka
  have A_ma := A_ma.other W2 ne_ma_ka
  have A_ka := A_ka.setJ W2
  have A_pa := A_pa.other W2 (Ne.symm ne_ka_pa)
  have A_ta := A_ta.other W2 (Ne.symm ne_ka_ta)
  have A_a2 := A_a2.other W2 (Ne.symm ne_ka_a2)
  refine r_iinc 70 X (1 : Int32) #[.val (.ref a1), .val (.ref a2), .val (.int (1 : Int32))] d8_67 rfl rfl rfl ?_
  refine r_goto 25 X d8_70 ?_
  refine r_iloadN 26 X d8_25 rfl ?_
  refine r_aloadN 27 X d8_26 rfl rfl ?_
  refine r_getfield 30 X (host := "") (Or.inl (hw _ (List.mem_of_getElem? (i := 30) rfl))) Via.refl F_a1_low d8_27 ?_
  intro T X
  refine r_arraylength 31 X A_la (3 : Int32) (by decide) d8_30 ?_
  refine r_icmpN 34 X d8_31 (tlt (by decide)).2.1 ?_
  refine r_aloadN 35 X d8_34 rfl rfl ?_
  refine r_getfield 38 X (host := "") (Or.inl (hw _ (List.mem_of_getElem? (i := 50) rfl))) Via.refl F_a1_key d8_35 ?_
  intro T X
  refine r_aloadN 39 X d8_38 rfl rfl ?_
  refine r_getfield 42 X (host := "") (Or.inl (hw _ (List.mem_of_getElem? (i := 32) rfl))) Via.refl F_a1_word d8_39 ?_
  intro T X
  refine r_iloadN 43 X d8_42 rfl ?_
  refine r_iaload 44 X A_wa (i := 1) (v := (.int (0 : Int32))) (by decide) (by decide) rfl d8_43 ?_
  refine r_dup2_2 45 X d8_44 rfl rfl ?_
  refine r_laload 46 X A_ka (i := 0) (v := (.long ((0 : Int64) ||| (fldS (fv 0) (fl 0) (0 : Int32))))) (by decide) (by decide) rfl d8_45 ?_
  refine r_aloadN 47 X d8_46 rfl rfl ?_
  refine r_iloadN 48 X d8_47 rfl ?_
  refine r_iaload 49 X A_a2 (i := 1) (v := (.int (fv 1))) (by decide) (by decide) rfl d8_48 ?_
  refine r_i2l 50 X d8_49 ?_
  refine r_aloadN 51 X d8_50 rfl rfl ?_
  refine r_getfield 54 X (host := "") (Or.inl (hw _ (List.mem_of_getElem? (i := 30) rfl))) Via.refl F_a1_low d8_51 ?_
  intro T X
  refine r_iloadN 55 X d8_54 rfl ?_
  refine r_iaload 56 X A_la (i := 1) (v := (.int (fl 1))) (by decide) (by decide) rfl d8_55 ?_
  refine r_i2l 57 X d8_56 ?_
  refine r_lsub 58 X d8_57 ?_
  refine r_aloadN 59 X d8_58 rfl rfl ?_
  refine r_getfield 62 X (host := "") (Or.inl (hw _ (List.mem_of_getElem? (i := 34) rfl))) Via.refl F_a1_shift d8_59 ?_
  intro T X
  refine r_iloadN 63 X d8_62 rfl ?_
  refine r_iaload 64 X A_sa (i := 1) (v := (.int u1)) (by decide) (by decide) rfl d8_63 ?_
  refine r_lshl 65 X d8_64 ?_
  refine r_topJ (x' := (fldS (fv 1) (fl 1) u1)) rfl ?_
  refine r_lor 66 X d8_65 ?_
  refine r_lastore 67 X A_ka (i := 0) (v := (.long (((0 : Int64) ||| (fldS (fv 0) (fl 0) (0 : Int32))) ||| (fldS (fv 1) (fl 1) u1)))) (by decide) (by decide) rfl gka d8_66 ?_
  intro T h3 W3 X
  have K := K.wr W3 (Or.inl (List.mem_of_getElem? (i := 1) rfl))
  have E_a1 := E_a1.wr W3
  have F_a1_low := F_a1_low.other W3 (Or.inl ne_a1_ka)
  have F_a1_word := F_a1_word.other W3 (Or.inl ne_a1_ka)
  have F_a1_shift := F_a1_shift.other W3 (Or.inl ne_a1_ka)
  have F_a1_mask := F_a1_mask.other W3 (Or.inl ne_a1_ka)
  have F_a1_key := F_a1_key.other W3 (Or.inl ne_a1_ka)
  have F_a1_packed := F_a1_packed.other W3 (Or.inl ne_a1_ka)
  have F_a1_table := F_a1_table.other W3 (Or.inl ne_a1_ka)
  have F_a1_words := F_a1_words.other W3 (Or.inl ne_a1_ka)
  have F_a1_count := F_a1_count.other W3 (Or.inl ne_a1_ka)
  have A_la := A_la.other W3 ne_la_ka
  have A_wa := A_wa.other W3 ne_wa_ka
  have A_sa := A_sa.other W3 ne_sa_ka
  have A_ma := A_ma.other W3 ne_ma_ka
  have A_ka := A_ka.setJ W3
  have A_pa := A_pa.other W3 (Ne.symm ne_ka_pa)
  have A_ta := A_ta.other W3 (Ne.symm ne_ka_ta)
  have A_a2 := A_a2.other W3 (Ne.symm ne_ka_a2)
  refine r_iinc 70 X (1 : Int32) #[.val (.ref a1), .val (.ref a2), .val (.int (2 : Int32))] d8_67 rfl rfl rfl ?_
  refine r_goto 25 X d8_70 ?_
  refine r_iloadN 26 X d8_25 rfl ?_
  refine r_aloadN 27 X d8_26 rfl rfl ?_
  refine r_getfield 30 X (host := "") (Or.inl (hw _ (List.mem_of_getElem? (i := 30) rfl))) Via.refl F_a1_low d8_27 ?_
  intro T X
  refine r_arraylength 31 X A_la (3 : Int32) (by decide) d8_30 ?_
  refine r_icmpN 34 X d8_31 (tlt (by decide)).2.1 ?_
  refine r_aloadN 35 X d8_34 rfl rfl ?_
  refine r_getfield 38 X (host := "") (Or.inl (hw _ (List.mem_of_getElem? (i := 50) rfl))) Via.refl F_a1_key d8_35 ?_
  intro T X
  refine r_aloadN 39 X d8_38 rfl rfl ?_
  refine r_getfield 42 X (host := "") (Or.inl (hw _ (List.mem_of_getElem? (i := 32) rfl))) Via.refl F_a1_word d8_39 ?_
  intro T X
  refine r_iloadN 43 X d8_42 rfl ?_
  refine r_iaload 44 X A_wa (i := 2) (v := (.int (0 : Int32))) (by decide) (by decide) rfl d8_43 ?_
  refine r_dup2_2 45 X d8_44 rfl rfl ?_
  refine r_laload 46 X A_ka (i := 0) (v := (.long (((0 : Int64) ||| (fldS (fv 0) (fl 0) (0 : Int32))) ||| (fldS (fv 1) (fl 1) u1)))) (by decide) (by decide) rfl d8_45 ?_
  refine r_aloadN 47 X d8_46 rfl rfl ?_
  refine r_iloadN 48 X d8_47 rfl ?_
  refine r_iaload 49 X A_a2 (i := 2) (v := (.int (fv 2))) (by decide) (by decide) rfl d8_48 ?_
  refine r_i2l 50 X d8_49 ?_
  refine r_aloadN 51 X d8_50 rfl rfl ?_
  refine r_getfield 54 X (host := "") (Or.inl (hw _ (List.mem_of_getElem? (i := 30) rfl))) Via.refl F_a1_low d8_51 ?_
  intro T X
  refine r_iloadN 55 X d8_54 rfl ?_
  refine r_iaload 56 X A_la (i := 2) (v := (.int (fl 2))) (by decide) (by decide) rfl d8_55 ?_
  refine r_i2l 57 X d8_56 ?_
  refine r_lsub 58 X d8_57 ?_
  refine r_aloadN 59 X d8_58 rfl rfl ?_
  refine r_getfield 62 X (host := "") (Or.inl (hw _ (List.mem_of_getElem? (i := 34) rfl))) Via.refl F_a1_shift d8_59 ?_
  intro T X
  refine r_iloadN 63 X d8_62 rfl ?_
  refine r_iaload 64 X A_sa (i := 2) (v := (.int u2)) (by decide) (by decide) rfl d8_63 ?_
  refine r_lshl 65 X d8_64 ?_
  refine r_topJ (x' := (fldS (fv 2) (fl 2) u2)) rfl ?_
  refine r_lor 66 X d8_65 ?_
  refine r_lastore 67 X A_ka (i := 0) (v := (.long ((((0 : Int64) ||| (fldS (fv 0) (fl 0) (0 : Int32))) ||| (fldS (fv 1) (fl 1) u1)) ||| (fldS (fv 2) (fl 2) u2)))) (by decide) (by decide) rfl gka d8_66 ?_
  intro T h4 W4 X
  have K := K.wr W4 (Or.inl (List.mem_of_getElem? (i := 1) rfl))
  have E_a1 := E_a1.wr W4
  have F_a1_low := F_a1_low.other W4 (Or.inl ne_a1_ka)
  have F_a1_word := F_a1_word.other W4 (Or.inl ne_a1_ka)
  have F_a1_shift := F_a1_shift.other W4 (Or.inl ne_a1_ka)
  have F_a1_mask := F_a1_mask.other W4 (Or.inl ne_a1_ka)
  have F_a1_key := F_a1_key.other W4 (Or.inl ne_a1_ka)
  have F_a1_packed := F_a1_packed.other W4 (Or.inl ne_a1_ka)
  have F_a1_table := F_a1_table.other W4 (Or.inl ne_a1_ka)
  have F_a1_words := F_a1_words.other W4 (Or.inl ne_a1_ka)
  have F_a1_count := F_a1_count.other W4 (Or.inl ne_a1_ka)
  have A_la := A_la.other W4 ne_la_ka
  have A_wa := A_wa.other W4 ne_wa_ka
  have A_sa := A_sa.other W4 ne_sa_ka
  have A_ma := A_ma.other W4 ne_ma_ka
  have A_ka := A_ka.setJ W4
  have A_pa := A_pa.other W4 (Ne.symm ne_ka_pa)
  have A_ta := A_ta.other W4 (Ne.symm ne_ka_ta)
  have A_a2 := A_a2.other W4 (Ne.symm ne_ka_a2)
  refine r_iinc 70 X (1 : Int32) #[.val (.ref a1), .val (.ref a2), .val (.int (3 : Int32))] d8_67 rfl rfl rfl ?_
  refine r_goto 25 X d8_70 ?_
  refine r_iloadN 26 X d8_25 rfl ?_
  refine r_aloadN 27 X d8_26 rfl rfl ?_
  refine r_getfield 30 X (host := "") (Or.inl (hw _ (List.mem_of_getElem? (i := 30) rfl))) Via.refl F_a1_low d8_27 ?_
  intro T X
  refine r_arraylength 31 X A_la (3 : Int32) (by decide) d8_30 ?_
  refine r_icmpY 73 X d8_31 (flt (by decide)).2.1 ?_
  refine r_aloadN 74 X d8_73 rfl rfl ?_
  refine r_aloadN 75 X d8_74 rfl rfl ?_
  refine r_aloadN 76 X d8_75 rfl rfl ?_
  refine r_getfield 79 X (host := "") (Or.inl (hw _ (List.mem_of_getElem? (i := 50) rfl))) Via.refl F_a1_key d8_76 ?_
  intro T X
  refine r_iconst 80 X (0 : Int32) d8_79 rfl ?_
  refine r_private 83 X (st := [(.ref a1)]) (a := a1) (rmHa0 l Z a0 hw n0 _ X.sz a1 ka (updJ (updJ (updJ (updJ fk 0 (0 : Int64)) 0 ((0 : Int64) ||| (fldS (fv 0) (fl 0) (0 : Int32)))) 0 (((0 : Int64) ||| (fldS (fv 0) (fl 0) (0 : Int32))) ||| (fldS (fv 1) (fl 1) u1))) 0 ((((0 : Int64) ||| (fldS (fv 0) (fl 0) (0 : Int32))) ||| (fldS (fv 1) (fl 1) u1)) ||| (fldS (fv 2) (fl 2) u2))) E_a1 F_a1_words A_ka) E_a1 (hw _ (List.mem_of_getElem? (i := 61) rfl)) (hw _ (List.mem_of_getElem? (i := 62) rfl)) (hw _ (List.mem_of_getElem? (i := 13) rfl)) (hw _ (List.mem_of_getElem? (i := 63) rfl)) (hw _ (List.mem_of_getElem? (i := 64) rfl)) (hw _ (List.mem_of_getElem? (i := 14) rfl)) (by decide) pd_3 [(.ref ka), (.int (0 : Int32))] rfl rfl 1 (Nat.le_of_eq rfl) rfl (by decide) (by decide) (by decide) (by decide) d8_80 ?_
  rintro T h5 v5 ⟨r5, rfl, rfl⟩ X
  change Run _ _ _ _ _ _ _ _ [(.long r5), (.ref a1)]
  refine r_private 86 X (st := []) (a := a1) (rmSl l Z a0 hw n0 _ X.sz a1 ta _ r5 E_a1 F_a1_table A_ta) E_a1 (hw _ (List.mem_of_getElem? (i := 66) rfl)) (hw _ (List.mem_of_getElem? (i := 67) rfl)) (hw _ (List.mem_of_getElem? (i := 13) rfl)) (hw _ (List.mem_of_getElem? (i := 68) rfl)) (hw _ (List.mem_of_getElem? (i := 69) rfl)) (hw _ (List.mem_of_getElem? (i := 14) rfl)) (by decide) pd_2 [(.long r5)] rfl rfl 0 (Nat.le_of_eq rfl) rfl (by decide) (by decide) (by decide) (by decide) d8_83 ?_
  rintro T h6 v6 ⟨sl, ks, rfl, hks, hks64, rfl⟩ X
  change Run _ _ _ _ _ _ _ _ [(.int sl)]
  refine r_istoreN 87 X #[.val (.ref a1), .val (.ref a2), .val (.int sl)] d8_86 rfl ?_
  refine r_aloadN 88 X d8_87 rfl rfl ?_
  refine r_getfield 91 X (host := "") (Or.inl (hw _ (List.mem_of_getElem? (i := 54) rfl))) Via.refl F_a1_table d8_88 ?_
  intro T X
  refine r_iloadN 92 X d8_91 rfl ?_
  refine r_iaload 93 X A_ta (i := ks) (v := (.int (0 : Int32))) hks hks64 rfl d8_92 ?_
  refine r_ifY 135 X d8_93 ((if0 _ _).trans (teq (by decide)).1) ?_
  refine r_aloadN 136 X d8_135 rfl rfl ?_
  refine r_getfield 139 X (host := "") (Or.inl (hw _ (List.mem_of_getElem? (i := 73) rfl))) Via.refl F_a1_count d8_136 ?_
  intro T X
  refine r_ldcInt 141 X (hw _ (List.mem_of_getElem? (i := 75) rfl)) d8_139 ?_
  refine r_icmpN 144 X d8_141 (feq (by decide)).1 ?_
  refine r_aloadN 145 X d8_144 rfl rfl ?_
  refine r_getfield 148 X (host := "") (Or.inl (hw _ (List.mem_of_getElem? (i := 73) rfl))) Via.refl F_a1_count d8_145 ?_
  intro T X
  refine r_iconst 149 X (1 : Int32) d8_148 rfl ?_
  refine r_iadd 150 X d8_149 ?_
  refine r_topI (x' := (1 : Int32)) (by decide) ?_
  refine r_i2l 151 X d8_150 ?_
  refine r_topJ (x' := (1 : Int64)) (by decide) ?_
  refine r_aloadN 152 X d8_151 rfl rfl ?_
  refine r_getfield 155 X (host := "") (Or.inl (hw _ (List.mem_of_getElem? (i := 48) rfl))) Via.refl F_a1_words d8_152 ?_
  intro T X
  refine r_i2l 156 X d8_155 ?_
  refine r_topJ (x' := (1 : Int64)) (by decide) ?_
  refine r_lmul 157 X d8_156 ?_
  refine r_topJ (x' := (1 : Int64)) (by decide) ?_
  refine r_ldc2Long 160 X (hw _ (List.mem_of_getElem? (i := 76) rfl)) d8_157 ?_
  refine r_lcmp 161 X d8_160 ?_
  refine r_ifY 181 X d8_161 ((if0 _ _).trans (flt (fun q => (show ¬ ((2147483639 : Int64) < (1 : Int64)) by decide) ((lw_gt _ _).mp q))).2.2.2) ?_
  refine r_aloadN 182 X d8_181 rfl rfl ?_
  refine r_getfield 185 X (host := "") (Or.inl (hw _ (List.mem_of_getElem? (i := 73) rfl))) Via.refl F_a1_count d8_182 ?_
  intro T X
  refine r_iconst 186 X (1 : Int32) d8_185 rfl ?_
  refine r_iadd 187 X d8_186 ?_
  refine r_topI (x' := (1 : Int32)) (by decide) ?_
  refine r_aloadN 188 X d8_187 rfl rfl ?_
  refine r_getfield 191 X (host := "") (Or.inl (hw _ (List.mem_of_getElem? (i := 48) rfl))) Via.refl F_a1_words d8_188 ?_
  intro T X
  refine r_imul 192 X d8_191 ?_
  refine r_topI (x' := (1 : Int32)) (by decide) ?_
  refine r_aloadN 193 X d8_192 rfl rfl ?_
  refine r_getfield 196 X (host := "") (Or.inl (hw _ (List.mem_of_getElem? (i := 52) rfl))) Via.refl F_a1_packed d8_193 ?_
  intro T X
  refine r_arraylength 197 X A_pa (16 : Int32) (by decide) d8_196 ?_
  refine r_icmpY 228 X d8_197 (flt (by decide)).2.2.2 ?_
  refine r_aloadN 229 X d8_228 rfl rfl ?_
  refine r_getfield 232 X (host := "") (Or.inl (hw _ (List.mem_of_getElem? (i := 50) rfl))) Via.refl F_a1_key d8_229 ?_
  intro T X
  refine r_iconst 233 X (0 : Int32) d8_232 rfl ?_
  refine r_aloadN 234 X d8_233 rfl rfl ?_
  refine r_getfield 237 X (host := "") (Or.inl (hw _ (List.mem_of_getElem? (i := 52) rfl))) Via.refl F_a1_packed d8_234 ?_
  intro T X
  refine r_aloadN 238 X d8_237 rfl rfl ?_
  refine r_getfield 241 X (host := "") (Or.inl (hw _ (List.mem_of_getElem? (i := 73) rfl))) Via.refl F_a1_count d8_238 ?_
  intro T X
  refine r_aloadN 242 X d8_241 rfl rfl ?_
  refine r_getfield 245 X (host := "") (Or.inl (hw _ (List.mem_of_getElem? (i := 48) rfl))) Via.refl F_a1_words d8_242 ?_
  intro T X
  refine r_imul 246 X d8_245 ?_
  refine r_topI (x' := (0 : Int32)) (by decide) ?_
  refine r_aloadN 247 X d8_246 rfl rfl ?_
  refine r_getfield 250 X (host := "") (Or.inl (hw _ (List.mem_of_getElem? (i := 48) rfl))) Via.refl F_a1_words d8_247 ?_
  intro T X
  refine r_arraycopy 253 X (st := []) (hw _ (List.mem_of_getElem? (i := 77) rfl)) (hw _ (List.mem_of_getElem? (i := 80) rfl)) (hw _ (List.mem_of_getElem? (i := 78) rfl)) (hw _ (List.mem_of_getElem? (i := 79) rfl)) A_ka A_pa rfl (fun _ _ => rfl) (fun _ _ => rfl) (i1 := 0) (i2 := 0) (k := 1) (by decide) (by decide) (by decide) (by decide) (by decide) gpa 0 (Nat.le_of_eq rfl) rfl (by decide) (by decide) d8_250 ?_
  intro T h7 K7 A7 X
  have K := K.trans K7 (allS (Or.inl (List.mem_of_getElem? (i := 2) rfl)) all0)
  have E_a1 := E_a1.keep K7
  have F_a1_low := F_a1_low.keep K7 (ninS ne_a1_pa nin0)
  have F_a1_word := F_a1_word.keep K7 (ninS ne_a1_pa nin0)
  have F_a1_shift := F_a1_shift.keep K7 (ninS ne_a1_pa nin0)
  have F_a1_mask := F_a1_mask.keep K7 (ninS ne_a1_pa nin0)
  have F_a1_key := F_a1_key.keep K7 (ninS ne_a1_pa nin0)
  have F_a1_packed := F_a1_packed.keep K7 (ninS ne_a1_pa nin0)
  have F_a1_table := F_a1_table.keep K7 (ninS ne_a1_pa nin0)
  have F_a1_words := F_a1_words.keep K7 (ninS ne_a1_pa nin0)
  have F_a1_count := F_a1_count.keep K7 (ninS ne_a1_pa nin0)
  have A_la := A_la.keep K7 (ninS ne_la_pa nin0)
  have A_wa := A_wa.keep K7 (ninS ne_wa_pa nin0)
  have A_sa := A_sa.keep K7 (ninS ne_sa_pa nin0)
  have A_ma := A_ma.keep K7 (ninS ne_ma_pa nin0)
  have A_ka := A_ka.keep K7 (ninS ne_ka_pa nin0)
  have A_ta := A_ta.keep K7 (ninS (Ne.symm ne_pa_ta) nin0)
  have A_a2 := A_a2.keep K7 (ninS (Ne.symm ne_pa_a2) nin0)
  have A_pa : AF Z h7 pa .long 16 (fun j => .long ((updJ fp 0 ((((0 : Int64) ||| (fldS (fv 0) (fl 0) (0 : Int32))) ||| (fldS (fv 1) (fl 1) u1)) ||| (fldS (fv 2) (fl 2) u2))) j)) := A7.congr fun j _ => own_cp1 _ _ _ _ _
  refine r_aloadN 254 X d8_253 rfl rfl ?_
  refine r_getfield 257 X (host := "") (Or.inl (hw _ (List.mem_of_getElem? (i := 54) rfl))) Via.refl F_a1_table d8_254 ?_
  intro T X
  refine r_iloadN 258 X d8_257 rfl ?_
  refine r_aloadN 259 X d8_258 rfl rfl ?_
  refine r_getfield 262 X (host := "") (Or.inl (hw _ (List.mem_of_getElem? (i := 73) rfl))) Via.refl F_a1_count d8_259 ?_
  intro T X
  refine r_iconst 263 X (1 : Int32) d8_262 rfl ?_
  refine r_iadd 264 X d8_263 ?_
  refine r_topI (x' := (1 : Int32)) (by decide) ?_
  refine r_iastore 265 X A_ta (i := ks) (v := (.int (1 : Int32))) hks hks64 rfl gta d8_264 ?_
  intro T h8 W8 X
  have K := K.wr W8 (Or.inl (List.mem_of_getElem? (i := 3) rfl))
  have E_a1 := E_a1.wr W8
  have F_a1_low := F_a1_low.other W8 (Or.inl ne_a1_ta)
  have F_a1_word := F_a1_word.other W8 (Or.inl ne_a1_ta)
  have F_a1_shift := F_a1_shift.other W8 (Or.inl ne_a1_ta)
  have F_a1_mask := F_a1_mask.other W8 (Or.inl ne_a1_ta)
  have F_a1_key := F_a1_key.other W8 (Or.inl ne_a1_ta)
  have F_a1_packed := F_a1_packed.other W8 (Or.inl ne_a1_ta)
  have F_a1_table := F_a1_table.other W8 (Or.inl ne_a1_ta)
  have F_a1_words := F_a1_words.other W8 (Or.inl ne_a1_ta)
  have F_a1_count := F_a1_count.other W8 (Or.inl ne_a1_ta)
  have A_la := A_la.other W8 ne_la_ta
  have A_wa := A_wa.other W8 ne_wa_ta
  have A_sa := A_sa.other W8 ne_sa_ta
  have A_ma := A_ma.other W8 ne_ma_ta
  have A_ka := A_ka.other W8 ne_ka_ta
  have A_ta := A_ta.setI W8
  have A_a2 := A_a2.other W8 (Ne.symm ne_ta_a2)
  have A_pa := A_pa.other W8 ne_pa_ta
  refine r_aloadN 266 X d8_265 rfl rfl ?_
  refine r_dup 267 X d8_266 rfl ?_
  refine r_getfield 270 X (host := "") (Or.inl (hw _ (List.mem_of_getElem? (i := 73) rfl))) Via.refl F_a1_count d8_267 ?_
  intro T X
  refine r_iconst 271 X (1 : Int32) d8_270 rfl ?_
  refine r_iadd 272 X d8_271 ?_
  refine r_topI (x' := (1 : Int32)) (by decide) ?_
  refine r_putfield 275 X (host := "") (Or.inl (hw _ (List.mem_of_getElem? (i := 73) rfl))) Via.refl F_a1_count E_a1 (Or.inl (hw _ (List.mem_of_getElem? (i := 74) rfl))) (hw _ (List.mem_of_getElem? (i := 13) rfl)) (ty := .int) (by decide) rfl rfl ga1 d8_272 ?_
  intro T h9 W9 X
  have K := K.wr W9 (Or.inl (List.mem_of_getElem? (i := 0) rfl))
  have E_a1 := E_a1.wr W9
  have F_a1_low := F_a1_low.other W9 (Or.inr (slot_ne (Or.inr (hw _ (List.mem_of_getElem? (i := 31) rfl))) (Or.inl (hw _ (List.mem_of_getElem? (i := 74) rfl))) (by decide) (t := (.array .int)) (t' := .int) (by decide) (by decide)))
  have F_a1_word := F_a1_word.other W9 (Or.inr (slot_ne (Or.inr (hw _ (List.mem_of_getElem? (i := 33) rfl))) (Or.inl (hw _ (List.mem_of_getElem? (i := 74) rfl))) (by decide) (t := (.array .int)) (t' := .int) (by decide) (by decide)))
  have F_a1_shift := F_a1_shift.other W9 (Or.inr (slot_ne (Or.inr (hw _ (List.mem_of_getElem? (i := 35) rfl))) (Or.inl (hw _ (List.mem_of_getElem? (i := 74) rfl))) (by decide) (t := (.array .int)) (t' := .int) (by decide) (by decide)))
  have F_a1_mask := F_a1_mask.other W9 (Or.inr (slot_ne (Or.inr (hw _ (List.mem_of_getElem? (i := 38) rfl))) (Or.inl (hw _ (List.mem_of_getElem? (i := 74) rfl))) (by decide) (t := (.array .long)) (t' := .int) (by decide) (by decide)))
  have F_a1_key := F_a1_key.other W9 (Or.inr (slot_ne (Or.inr (hw _ (List.mem_of_getElem? (i := 51) rfl))) (Or.inl (hw _ (List.mem_of_getElem? (i := 74) rfl))) (by decide) (t := (.array .long)) (t' := .int) (by decide) (by decide)))
  have F_a1_packed := F_a1_packed.other W9 (Or.inr (slot_ne (Or.inl (hw _ (List.mem_of_getElem? (i := 53) rfl))) (Or.inl (hw _ (List.mem_of_getElem? (i := 74) rfl))) (by decide) (t := (.array .long)) (t' := .int) (by decide) (by decide)))
  have F_a1_table := F_a1_table.other W9 (Or.inr (slot_ne (Or.inl (hw _ (List.mem_of_getElem? (i := 55) rfl))) (Or.inl (hw _ (List.mem_of_getElem? (i := 74) rfl))) (by decide) (t := (.array .int)) (t' := .int) (by decide) (by decide)))
  have F_a1_words := F_a1_words.other W9 (Or.inr (slot_ne (Or.inr (hw _ (List.mem_of_getElem? (i := 49) rfl))) (Or.inl (hw _ (List.mem_of_getElem? (i := 74) rfl))) (by decide) (t := .int) (t' := .int) (by decide) (by decide)))
  have F_a1_count := F_a1_count.same W9
  have A_la := A_la.other W9 (Ne.symm ne_a1_la)
  have A_wa := A_wa.other W9 (Ne.symm ne_a1_wa)
  have A_sa := A_sa.other W9 (Ne.symm ne_a1_sa)
  have A_ma := A_ma.other W9 (Ne.symm ne_a1_ma)
  have A_ka := A_ka.other W9 (Ne.symm ne_a1_ka)
  have A_ta := A_ta.other W9 (Ne.symm ne_a1_ta)
  have A_a2 := A_a2.other W9 (Ne.symm ne_a1_a2)
  have A_pa := A_pa.other W9 (Ne.symm ne_a1_pa)
  refine r_aloadN 276 X d8_275 rfl rfl ?_
  refine r_getfield 279 X (host := "") (Or.inl (hw _ (List.mem_of_getElem? (i := 73) rfl))) Via.refl F_a1_count d8_276 ?_
  intro T X
  refine r_aloadN 280 X d8_279 rfl rfl ?_
  refine r_getfield 283 X (host := "") (Or.inl (hw _ (List.mem_of_getElem? (i := 54) rfl))) Via.refl F_a1_table d8_280 ?_
  intro T X
  refine r_arraylength 284 X A_ta (64 : Int32) (by decide) d8_283 ?_
  refine r_iconst 285 X (2 : Int32) d8_284 rfl ?_
  refine r_idiv 286 X d8_285 (by decide) ?_
  refine r_topI (x' := (32 : Int32)) (by decide) ?_
  refine r_icmpY 293 X d8_286 (flt (by decide)).2.2.2 ?_
  refine r_aloadN 294 X d8_293 rfl rfl ?_
  refine r_getfield 297 X (host := "") (Or.inl (hw _ (List.mem_of_getElem? (i := 73) rfl))) Via.refl F_a1_count d8_294 ?_
  intro T X
  refine r_iconst 298 X (1 : Int32) d8_297 rfl ?_
  refine r_isub 299 X d8_298 ?_
  refine r_topI (x' := (0 : Int32)) (by decide) ?_
  refine r_retI X d8_299 (by decide) (by decide) ?_
  exact ⟨rfl, K, F_a1_low, F_a1_word, F_a1_shift, F_a1_mask, F_a1_key, F_a1_packed, F_a1_table, F_a1_words, F_a1_count, ⟨_, A_ka⟩, ⟨_, A_pa, rfl⟩, _, A_ta⟩
theorem d8_96 : decode prog_47_method_3_code 96 = .ok (.aload_n 0, 1) := by decide +kernel
theorem d8_97 : decode prog_47_method_3_code 97 = .ok (.aload_n 0, 1) := by decide +kernel
theorem d8_98 : decode prog_47_method_3_code 98 = .ok (.getfield 46, 3) := by decide +kernel
theorem d8_101 : decode prog_47_method_3_code 101 = .ok (.iload_n 2, 1) := by decide +kernel
theorem d8_102 : decode prog_47_method_3_code 102 = .ok (.iaload, 1) := by decide +kernel
theorem d8_103 : decode prog_47_method_3_code 103 = .ok (.iconst 1, 1) := by decide +kernel
theorem d8_104 : decode prog_47_method_3_code 104 = .ok (.isub, 1) := by decide +kernel
theorem d8_105 : decode prog_47_method_3_code 105 = .ok (.invokevirtual 59, 3) := by decide +kernel
theorem d8_108 : decode prog_47_method_3_code 108 = .ok (.ifCond .eq 12, 3) := by decide +kernel
theorem d8_111 : decode prog_47_method_3_code 111 = .ok (.aload_n 0, 1) := by decide +kernel
theorem d8_112 : decode prog_47_method_3_code 112 = .ok (.getfield 46, 3) := by decide +kernel
theorem d8_115 : decode prog_47_method_3_code 115 = .ok (.iload_n 2, 1) := by decide +kernel
theorem d8_116 : decode prog_47_method_3_code 116 = .ok (.iaload, 1) := by decide +kernel
theorem d8_117 : decode prog_47_method_3_code 117 = .ok (.iconst 1, 1) := by decide +kernel
theorem d8_118 : decode prog_47_method_3_code 118 = .ok (.isub, 1) := by decide +kernel
theorem d8_119 : decode prog_47_method_3_code 119 = .ok (.ireturn, 1) := by decide +kernel
theorem d8_120 : decode prog_47_method_3_code 120 = .ok (.iload_n 2, 1) := by decide +kernel
theorem d8_121 : decode prog_47_method_3_code 121 = .ok (.iconst 1, 1) := by decide +kernel
theorem d8_122 : decode prog_47_method_3_code 122 = .ok (.iadd, 1) := by decide +kernel
theorem d8_123 : decode prog_47_method_3_code 123 = .ok (.aload_n 0, 1) := by decide +kernel
theorem d8_124 : decode prog_47_method_3_code 124 = .ok (.getfield 46, 3) := by decide +kernel
theorem d8_127 : decode prog_47_method_3_code 127 = .ok (.arraylength, 1) := by decide +kernel
theorem d8_128 : decode prog_47_method_3_code 128 = .ok (.iconst 1, 1) := by decide +kernel
theorem d8_129 : decode prog_47_method_3_code 129 = .ok (.isub, 1) := by decide +kernel
theorem d8_130 : decode prog_47_method_3_code 130 = .ok (.iand, 1) := by decide +kernel
theorem d8_131 : decode prog_47_method_3_code 131 = .ok (.istore_n 2, 1) := by decide +kernel
theorem d8_132 : decode prog_47_method_3_code 132 = .ok (.goto (-45), 3) := by decide +kernel
set_option maxRecDepth 65536 in
set_option maxHeartbeats 40000000 in
theorem rmAd01 (l : Launch) (Z : State) (a0 : Array Value) (hw : ∀ d ∈ tables_1, d.before a0 Z = true) (n0 : Nat) (h : Heap) (Z0 : n0 ≤ h.size) (a1 la wa sa ma ka pa ta a2 : Addr) (fl fv : Nat → Int32) (u1 u2 : Int32) (m0 m1 m2 : Int64) (fk fp : Nat → Int64) (k0 : Nat) (wA0 : Int64) (ga1 : n0 ≤ a1) (gka : n0 ≤ ka) (gpa : n0 ≤ pa) (gta : n0 ≤ ta) (ne_a1_la : a1 ≠ la) (ne_a1_wa : a1 ≠ wa) (ne_a1_sa : a1 ≠ sa) (ne_a1_ma : a1 ≠ ma) (ne_a1_ka : a1 ≠ ka) (ne_a1_pa : a1 ≠ pa) (ne_a1_ta : a1 ≠ ta) (ne_a1_a2 : a1 ≠ a2) (ne_la_ka : la ≠ ka) (ne_la_pa : la ≠ pa) (ne_la_ta : la ≠ ta) (ne_wa_ka : wa ≠ ka) (ne_wa_pa : wa ≠ pa) (ne_wa_ta : wa ≠ ta) (ne_sa_ka : sa ≠ ka) (ne_sa_pa : sa ≠ pa) (ne_sa_ta : sa ≠ ta) (ne_ma_ka : ma ≠ ka) (ne_ma_pa : ma ≠ pa) (ne_ma_ta : ma ≠ ta) (ne_ka_pa : ka ≠ pa) (ne_ka_ta : ka ≠ ta) (ne_ka_a2 : ka ≠ a2) (ne_pa_ta : pa ≠ ta) (ne_pa_a2 : pa ≠ a2) (ne_ta_a2 : ta ≠ a2) (hA0 : fp 0 = wA0) (E_a1 : Exa Z h a1 "com/example/heliotrope/heliotrope/language/StateStore") (F_a1_low : Fld Z h a1 "com/example/heliotrope/heliotrope/language/StateStore" "low" "[I" (.ref la)) (F_a1_word : Fld Z h a1 "com/example/heliotrope/heliotrope/language/StateStore" "word" "[I" (.ref wa)) (F_a1_shift : Fld Z h a1 "com/example/heliotrope/heliotrope/language/StateStore" "shift" "[I" (.ref sa)) (F_a1_mask : Fld Z h a1 "com/example/heliotrope/heliotrope/language/StateStore" "mask" "[J" (.ref ma)) (F_a1_key : Fld Z h a1 "com/example/heliotrope/heliotrope/language/StateStore" "key" "[J" (.ref ka)) (F_a1_packed : Fld Z h a1 "com/example/heliotrope/heliotrope/language/StateStore" "packed" "[J" (.ref pa)) (F_a1_table : Fld Z h a1 "com/example/heliotrope/heliotrope/language/StateStore" "table" "[I" (.ref ta)) (F_a1_words : Fld Z h a1 "com/example/heliotrope/heliotrope/language/StateStore" "words" "I" (.int (1 : Int32))) (F_a1_count : Fld Z h a1 "com/example/heliotrope/heliotrope/language/StateStore" "count" "I" (.int (1 : Int32))) (A_la : AF Z h la .int 3 (fun j => .int (fl j))) (A_wa : AF Z h wa .int 3 (fun j => .int ((updI (updI (updI (fun _ => (0 : Int32)) 0 (0 : Int32)) 1 (0 : Int32)) 2 (0 : Int32)) j))) (A_sa : AF Z h sa .int 3 (fun j => .int ((updI (updI (updI (fun _ => (0 : Int32)) 0 (0 : Int32)) 1 u1) 2 u2) j))) (A_ma : AF Z h ma .long 3 (fun j => .long ((updJ (updJ (updJ (fun _ => (0 : Int64)) 0 m0) 1 m1) 2 m2) j))) (A_ka : AF Z h ka .long 1 (fun j => .long (fk j))) (A_pa : AF Z h pa .long 16 (fun j => .long (fp j))) (A_ta : AF Z h ta .int 64 (fun j => .int ((updI (fun _ => (0 : Int32)) k0 (1 : Int32)) j))) (A_a2 : AF Z h a2 .int 3 (fun j => .int (fv j))) :
    Met1 l Z n0 [] (⟨"com/example/heliotrope/heliotrope/language/StateStore", "add", "([I)I"⟩ : MethodName) prog_47_method_3_code 3 (some .int) ({ frames := 2, cells := 0, slots := 0, locals := 30 } : Room) #[(.ref a1), (.ref a2)] h (fun v h' => ∃ (r : Int32) (kb : Nat), v = some (.int r) ∧ r.toInt = (kb : Int) ∧ kb ≤ 1 ∧ Keep h h' [a1, ka, pa, ta] ∧ Fld Z h' a1 "com/example/heliotrope/heliotrope/language/StateStore" "low" "[I" (.ref la) ∧ Fld Z h' a1 "com/example/heliotrope/heliotrope/language/StateStore" "word" "[I" (.ref wa) ∧ Fld Z h' a1 "com/example/heliotrope/heliotrope/language/StateStore" "shift" "[I" (.ref sa) ∧ Fld Z h' a1 "com/example/heliotrope/heliotrope/language/StateStore" "mask" "[J" (.ref ma) ∧ Fld Z h' a1 "com/example/heliotrope/heliotrope/language/StateStore" "key" "[J" (.ref ka) ∧ Fld Z h' a1 "com/example/heliotrope/heliotrope/language/StateStore" "packed" "[J" (.ref pa) ∧ Fld Z h' a1 "com/example/heliotrope/heliotrope/language/StateStore" "table" "[I" (.ref ta) ∧ Fld Z h' a1 "com/example/heliotrope/heliotrope/language/StateStore" "words" "I" (.int (1 : Int32)) ∧ ∃ gp : Nat → Int64, AF Z h' pa .long 16 (fun j => .long (gp j)) ∧ gp 0 = wA0 ∧ gp (kb * 1 + 0) = ((((0 : Int64) ||| (fldS (fv 0) (fl 0) (0 : Int32))) ||| (fldS (fv 1) (fl 1) u1)) ||| (fldS (fv 2) (fl 2) u2))) := by
  refine met_of (plainFor_of_name pn_8) Z0 (fun m => ef_8 m a1 a2) ?_
  intro p e s m below meth c T hs0 X
  have K := Keep.refl h [a1, ka, pa, ta]
  refine r_iconst 1 X (0 : Int32) d8_0 rfl ?_
  refine r_istoreN 2 X #[.val (.ref a1), .val (.ref a2), .val (.int (0 : Int32))] d8_1 rfl ?_
  refine r_iloadN 3 X d8_2 rfl ?_
  refine r_aloadN 4 X d8_3 rfl rfl ?_
  refine r_getfield 7 X (host := "") (Or.inl (hw _ (List.mem_of_getElem? (i := 48) rfl))) Via.refl F_a1_words d8_4 ?_
  intro T X
  refine r_icmpN 10 X d8_7 (tlt (by decide)).2.1 ?_
  refine r_aloadN 11 X d8_10 rfl rfl ?_
  refine r_getfield 14 X (host := "") (Or.inl (hw _ (List.mem_of_getElem? (i := 50) rfl))) Via.refl F_a1_key d8_11 ?_
  intro T X
  refine r_iloadN 15 X d8_14 rfl ?_
  refine r_lconst 16 X (0 : Int64) d8_15 rfl ?_
  refine r_lastore 17 X A_ka (i := 0) (v := (.long (0 : Int64))) (by decide) (by decide) rfl gka d8_16 ?_
  intro T h1 W1 X
  have K := K.wr W1 (Or.inl (List.mem_of_getElem? (i := 1) rfl))
  have E_a1 := E_a1.wr W1
  have F_a1_low := F_a1_low.other W1 (Or.inl ne_a1_ka)
  have F_a1_word := F_a1_word.other W1 (Or.inl ne_a1_ka)
  have F_a1_shift := F_a1_shift.other W1 (Or.inl ne_a1_ka)
  have F_a1_mask := F_a1_mask.other W1 (Or.inl ne_a1_ka)
  have F_a1_key := F_a1_key.other W1 (Or.inl ne_a1_ka)
  have F_a1_packed := F_a1_packed.other W1 (Or.inl ne_a1_ka)
  have F_a1_table := F_a1_table.other W1 (Or.inl ne_a1_ka)
  have F_a1_words := F_a1_words.other W1 (Or.inl ne_a1_ka)
  have F_a1_count := F_a1_count.other W1 (Or.inl ne_a1_ka)
  have A_la := A_la.other W1 ne_la_ka
  have A_wa := A_wa.other W1 ne_wa_ka
  have A_sa := A_sa.other W1 ne_sa_ka
  have A_ma := A_ma.other W1 ne_ma_ka
  have A_ka := A_ka.setJ W1
  have A_pa := A_pa.other W1 (Ne.symm ne_ka_pa)
  have A_ta := A_ta.other W1 (Ne.symm ne_ka_ta)
  have A_a2 := A_a2.other W1 (Ne.symm ne_ka_a2)
  refine r_iinc 20 X (1 : Int32) #[.val (.ref a1), .val (.ref a2), .val (.int (1 : Int32))] d8_17 rfl rfl rfl ?_
  refine r_goto 2 X d8_20 ?_
  refine r_iloadN 3 X d8_2 rfl ?_
  refine r_aloadN 4 X d8_3 rfl rfl ?_
  refine r_getfield 7 X (host := "") (Or.inl (hw _ (List.mem_of_getElem? (i := 48) rfl))) Via.refl F_a1_words d8_4 ?_
  intro T X
  refine r_icmpY 23 X d8_7 (flt (by decide)).2.1 ?_
  refine r_iconst 24 X (0 : Int32) d8_23 rfl ?_
  refine r_istoreN 25 X #[.val (.ref a1), .val (.ref a2), .val (.int (0 : Int32))] d8_24 rfl ?_
  refine r_iloadN 26 X d8_25 rfl ?_
  refine r_aloadN 27 X d8_26 rfl rfl ?_
  refine r_getfield 30 X (host := "") (Or.inl (hw _ (List.mem_of_getElem? (i := 30) rfl))) Via.refl F_a1_low d8_27 ?_
  intro T X
  refine r_arraylength 31 X A_la (3 : Int32) (by decide) d8_30 ?_
  refine r_icmpN 34 X d8_31 (tlt (by decide)).2.1 ?_
  refine r_aloadN 35 X d8_34 rfl rfl ?_
  refine r_getfield 38 X (host := "") (Or.inl (hw _ (List.mem_of_getElem? (i := 50) rfl))) Via.refl F_a1_key d8_35 ?_
  intro T X
  refine r_aloadN 39 X d8_38 rfl rfl ?_
  refine r_getfield 42 X (host := "") (Or.inl (hw _ (List.mem_of_getElem? (i := 32) rfl))) Via.refl F_a1_word d8_39 ?_
  intro T X
  refine r_iloadN 43 X d8_42 rfl ?_
  refine r_iaload 44 X A_wa (i := 0) (v := (.int (0 : Int32))) (by decide) (by decide) rfl d8_43 ?_
  refine r_dup2_2 45 X d8_44 rfl rfl ?_
  refine r_laload 46 X A_ka (i := 0) (v := (.long (0 : Int64))) (by decide) (by decide) rfl d8_45 ?_
  refine r_aloadN 47 X d8_46 rfl rfl ?_
  refine r_iloadN 48 X d8_47 rfl ?_
  refine r_iaload 49 X A_a2 (i := 0) (v := (.int (fv 0))) (by decide) (by decide) rfl d8_48 ?_
  refine r_i2l 50 X d8_49 ?_
  refine r_aloadN 51 X d8_50 rfl rfl ?_
  refine r_getfield 54 X (host := "") (Or.inl (hw _ (List.mem_of_getElem? (i := 30) rfl))) Via.refl F_a1_low d8_51 ?_
  intro T X
  refine r_iloadN 55 X d8_54 rfl ?_
  refine r_iaload 56 X A_la (i := 0) (v := (.int (fl 0))) (by decide) (by decide) rfl d8_55 ?_
  refine r_i2l 57 X d8_56 ?_
  refine r_lsub 58 X d8_57 ?_
  refine r_aloadN 59 X d8_58 rfl rfl ?_
  refine r_getfield 62 X (host := "") (Or.inl (hw _ (List.mem_of_getElem? (i := 34) rfl))) Via.refl F_a1_shift d8_59 ?_
  intro T X
  refine r_iloadN 63 X d8_62 rfl ?_
  refine r_iaload 64 X A_sa (i := 0) (v := (.int (0 : Int32))) (by decide) (by decide) rfl d8_63 ?_
  refine r_lshl 65 X d8_64 ?_
  refine r_topJ (x' := (fldS (fv 0) (fl 0) (0 : Int32))) rfl ?_
  refine r_lor 66 X d8_65 ?_
  refine r_lastore 67 X A_ka (i := 0) (v := (.long ((0 : Int64) ||| (fldS (fv 0) (fl 0) (0 : Int32))))) (by decide) (by decide) rfl gka d8_66 ?_
  intro T h2 W2 X
  have K := K.wr W2 (Or.inl (List.mem_of_getElem? (i := 1) rfl))
  have E_a1 := E_a1.wr W2
  have F_a1_low := F_a1_low.other W2 (Or.inl ne_a1_ka)
  have F_a1_word := F_a1_word.other W2 (Or.inl ne_a1_ka)
  have F_a1_shift := F_a1_shift.other W2 (Or.inl ne_a1_ka)
  have F_a1_mask := F_a1_mask.other W2 (Or.inl ne_a1_ka)
  have F_a1_key := F_a1_key.other W2 (Or.inl ne_a1_ka)
  have F_a1_packed := F_a1_packed.other W2 (Or.inl ne_a1_ka)
  have F_a1_table := F_a1_table.other W2 (Or.inl ne_a1_ka)
  have F_a1_words := F_a1_words.other W2 (Or.inl ne_a1_ka)
  have F_a1_count := F_a1_count.other W2 (Or.inl ne_a1_ka)
  have A_la := A_la.other W2 ne_la_ka
  have A_wa := A_wa.other W2 ne_wa_ka
  have A_sa := A_sa.other W2 ne_sa_ka
  have A_ma := A_ma.other W2 ne_ma_ka
  have A_ka := A_ka.setJ W2
  have A_pa := A_pa.other W2 (Ne.symm ne_ka_pa)
  have A_ta := A_ta.other W2 (Ne.symm ne_ka_ta)
  have A_a2 := A_a2.other W2 (Ne.symm ne_ka_a2)
  refine r_iinc 70 X (1 : Int32) #[.val (.ref a1), .val (.ref a2), .val (.int (1 : Int32))] d8_67 rfl rfl rfl ?_
  refine r_goto 25 X d8_70 ?_
  refine r_iloadN 26 X d8_25 rfl ?_
  refine r_aloadN 27 X d8_26 rfl rfl ?_
  refine r_getfield 30 X (host := "") (Or.inl (hw _ (List.mem_of_getElem? (i := 30) rfl))) Via.refl F_a1_low d8_27 ?_
  intro T X
  refine r_arraylength 31 X A_la (3 : Int32) (by decide) d8_30 ?_
  refine r_icmpN 34 X d8_31 (tlt (by decide)).2.1 ?_
  refine r_aloadN 35 X d8_34 rfl rfl ?_
  refine r_getfield 38 X (host := "") (Or.inl (hw _ (List.mem_of_getElem? (i := 50) rfl))) Via.refl F_a1_key d8_35 ?_
  intro T X
  refine r_aloadN 39 X d8_38 rfl rfl ?_
  refine r_getfield 42 X (host := "") (Or.inl (hw _ (List.mem_of_getElem? (i := 32) rfl))) Via.refl F_a1_word d8_39 ?_
  intro T X
  refine r_iloadN 43 X d8_42 rfl ?_
  refine r_iaload 44 X A_wa (i := 1) (v := (.int (0 : Int32))) (by decide) (by decide) rfl d8_43 ?_
  refine r_dup2_2 45 X d8_44 rfl rfl ?_
  refine r_laload 46 X A_ka (i := 0) (v := (.long ((0 : Int64) ||| (fldS (fv 0) (fl 0) (0 : Int32))))) (by decide) (by decide) rfl d8_45 ?_
  refine r_aloadN 47 X d8_46 rfl rfl ?_
  refine r_iloadN 48 X d8_47 rfl ?_
  refine r_iaload 49 X A_a2 (i := 1) (v := (.int (fv 1))) (by decide) (by decide) rfl d8_48 ?_
  refine r_i2l 50 X d8_49 ?_
  refine r_aloadN 51 X d8_50 rfl rfl ?_
  refine r_getfield 54 X (host := "") (Or.inl (hw _ (List.mem_of_getElem? (i := 30) rfl))) Via.refl F_a1_low d8_51 ?_
  intro T X
  refine r_iloadN 55 X d8_54 rfl ?_
  refine r_iaload 56 X A_la (i := 1) (v := (.int (fl 1))) (by decide) (by decide) rfl d8_55 ?_
  refine r_i2l 57 X d8_56 ?_
  refine r_lsub 58 X d8_57 ?_
  refine r_aloadN 59 X d8_58 rfl rfl ?_
  refine r_getfield 62 X (host := "") (Or.inl (hw _ (List.mem_of_getElem? (i := 34) rfl))) Via.refl F_a1_shift d8_59 ?_
  intro T X
  refine r_iloadN 63 X d8_62 rfl ?_
  refine r_iaload 64 X A_sa (i := 1) (v := (.int u1)) (by decide) (by decide) rfl d8_63 ?_
  refine r_lshl 65 X d8_64 ?_
  refine r_topJ (x' := (fldS (fv 1) (fl 1) u1)) rfl ?_
  refine r_lor 66 X d8_65 ?_
  refine r_lastore 67 X A_ka (i := 0) (v := (.long (((0 : Int64) ||| (fldS (fv 0) (fl 0) (0 : Int32))) ||| (fldS (fv 1) (fl 1) u1)))) (by decide) (by decide) rfl gka d8_66 ?_
  intro T h3 W3 X
  have K := K.wr W3 (Or.inl (List.mem_of_getElem? (i := 1) rfl))
  have E_a1 := E_a1.wr W3
  have F_a1_low := F_a1_low.other W3 (Or.inl ne_a1_ka)
  have F_a1_word := F_a1_word.other W3 (Or.inl ne_a1_ka)
  have F_a1_shift := F_a1_shift.other W3 (Or.inl ne_a1_ka)
  have F_a1_mask := F_a1_mask.other W3 (Or.inl ne_a1_ka)
  have F_a1_key := F_a1_key.other W3 (Or.inl ne_a1_ka)
  have F_a1_packed := F_a1_packed.other W3 (Or.inl ne_a1_ka)
  have F_a1_table := F_a1_table.other W3 (Or.inl ne_a1_ka)
  have F_a1_words := F_a1_words.other W3 (Or.inl ne_a1_ka)
  have F_a1_count := F_a1_count.other W3 (Or.inl ne_a1_ka)
  have A_la := A_la.other W3 ne_la_ka
  have A_wa := A_wa.other W3 ne_wa_ka
  have A_sa := A_sa.other W3 ne_sa_ka
  have A_ma := A_ma.other W3 ne_ma_ka
  have A_ka := A_ka.setJ W3
  have A_pa := A_pa.other W3 (Ne.symm ne_ka_pa)
  have A_ta := A_ta.other W3 (Ne.symm ne_ka_ta)
  have A_a2 := A_a2.other W3 (Ne.symm ne_ka_a2)
  refine r_iinc 70 X (1 : Int32) #[.val (.ref a1), .val (.ref a2), .val (.int (2 : Int32))] d8_67 rfl rfl rfl ?_
  refine r_goto 25 X d8_70 ?_
  refine r_iloadN 26 X d8_25 rfl ?_
  refine r_aloadN 27 X d8_26 rfl rfl ?_
  refine r_getfield 30 X (host := "") (Or.inl (hw _ (List.mem_of_getElem? (i := 30) rfl))) Via.refl F_a1_low d8_27 ?_
  intro T X
  refine r_arraylength 31 X A_la (3 : Int32) (by decide) d8_30 ?_
  refine r_icmpN 34 X d8_31 (tlt (by decide)).2.1 ?_
  refine r_aloadN 35 X d8_34 rfl rfl ?_
  refine r_getfield 38 X (host := "") (Or.inl (hw _ (List.mem_of_getElem? (i := 50) rfl))) Via.refl F_a1_key d8_35 ?_
  intro T X
  refine r_aloadN 39 X d8_38 rfl rfl ?_
  refine r_getfield 42 X (host := "") (Or.inl (hw _ (List.mem_of_getElem? (i := 32) rfl))) Via.refl F_a1_word d8_39 ?_
  intro T X
  refine r_iloadN 43 X d8_42 rfl ?_
  refine r_iaload 44 X A_wa (i := 2) (v := (.int (0 : Int32))) (by decide) (by decide) rfl d8_43 ?_
  refine r_dup2_2 45 X d8_44 rfl rfl ?_
  refine r_laload 46 X A_ka (i := 0) (v := (.long (((0 : Int64) ||| (fldS (fv 0) (fl 0) (0 : Int32))) ||| (fldS (fv 1) (fl 1) u1)))) (by decide) (by decide) rfl d8_45 ?_
  refine r_aloadN 47 X d8_46 rfl rfl ?_
  refine r_iloadN 48 X d8_47 rfl ?_
  refine r_iaload 49 X A_a2 (i := 2) (v := (.int (fv 2))) (by decide) (by decide) rfl d8_48 ?_
  refine r_i2l 50 X d8_49 ?_
  refine r_aloadN 51 X d8_50 rfl rfl ?_
  refine r_getfield 54 X (host := "") (Or.inl (hw _ (List.mem_of_getElem? (i := 30) rfl))) Via.refl F_a1_low d8_51 ?_
  intro T X
  refine r_iloadN 55 X d8_54 rfl ?_
  refine r_iaload 56 X A_la (i := 2) (v := (.int (fl 2))) (by decide) (by decide) rfl d8_55 ?_
  refine r_i2l 57 X d8_56 ?_
  refine r_lsub 58 X d8_57 ?_
  refine r_aloadN 59 X d8_58 rfl rfl ?_
  refine r_getfield 62 X (host := "") (Or.inl (hw _ (List.mem_of_getElem? (i := 34) rfl))) Via.refl F_a1_shift d8_59 ?_
  intro T X
  refine r_iloadN 63 X d8_62 rfl ?_
  refine r_iaload 64 X A_sa (i := 2) (v := (.int u2)) (by decide) (by decide) rfl d8_63 ?_
  refine r_lshl 65 X d8_64 ?_
  refine r_topJ (x' := (fldS (fv 2) (fl 2) u2)) rfl ?_
  refine r_lor 66 X d8_65 ?_
  refine r_lastore 67 X A_ka (i := 0) (v := (.long ((((0 : Int64) ||| (fldS (fv 0) (fl 0) (0 : Int32))) ||| (fldS (fv 1) (fl 1) u1)) ||| (fldS (fv 2) (fl 2) u2)))) (by decide) (by decide) rfl gka d8_66 ?_
  intro T h4 W4 X
  have K := K.wr W4 (Or.inl (List.mem_of_getElem? (i := 1) rfl))
  have E_a1 := E_a1.wr W4
  have F_a1_low := F_a1_low.other W4 (Or.inl ne_a1_ka)
  have F_a1_word := F_a1_word.other W4 (Or.inl ne_a1_ka)
  have F_a1_shift := F_a1_shift.other W4 (Or.inl ne_a1_ka)
  have F_a1_mask := F_a1_mask.other W4 (Or.inl ne_a1_ka)
  have F_a1_key := F_a1_key.other W4 (Or.inl ne_a1_ka)
  have F_a1_packed := F_a1_packed.other W4 (Or.inl ne_a1_ka)
  have F_a1_table := F_a1_table.other W4 (Or.inl ne_a1_ka)
  have F_a1_words := F_a1_words.other W4 (Or.inl ne_a1_ka)
  have F_a1_count := F_a1_count.other W4 (Or.inl ne_a1_ka)
  have A_la := A_la.other W4 ne_la_ka
  have A_wa := A_wa.other W4 ne_wa_ka
  have A_sa := A_sa.other W4 ne_sa_ka
  have A_ma := A_ma.other W4 ne_ma_ka
  have A_ka := A_ka.setJ W4
  have A_pa := A_pa.other W4 (Ne.symm ne_ka_pa)
  have A_ta := A_ta.other W4 (Ne.symm ne_ka_ta)
  have A_a2 := A_a2.other W4 (Ne.symm ne_ka_a2)
  refine r_iinc 70 X (1 : Int32) #[.val (.ref a1), .val (.ref a2), .val (.int (3 : Int32))] d8_67 rfl rfl rfl ?_
  refine r_goto 25 X d8_70 ?_
  refine r_iloadN 26 X d8_25 rfl ?_
  refine r_aloadN 27 X d8_26 rfl rfl ?_
  refine r_getfield 30 X (host := "") (Or.inl (hw _ (List.mem_of_getElem? (i := 30) rfl))) Via.refl F_a1_low d8_27 ?_
  intro T X
  refine r_arraylength 31 X A_la (3 : Int32) (by decide) d8_30 ?_
  refine r_icmpY 73 X d8_31 (flt (by decide)).2.1 ?_
  refine r_aloadN 74 X d8_73 rfl rfl ?_
  refine r_aloadN 75 X d8_74 rfl rfl ?_
  refine r_aloadN 76 X d8_75 rfl rfl ?_
  refine r_getfield 79 X (host := "") (Or.inl (hw _ (List.mem_of_getElem? (i := 50) rfl))) Via.refl F_a1_key d8_76 ?_
  intro T X
  refine r_iconst 80 X (0 : Int32) d8_79 rfl ?_
  refine r_private 83 X (st := [(.ref a1)]) (a := a1) (rmHa0 l Z a0 hw n0 _ X.sz a1 ka (updJ (updJ (updJ (updJ fk 0 (0 : Int64)) 0 ((0 : Int64) ||| (fldS (fv 0) (fl 0) (0 : Int32)))) 0 (((0 : Int64) ||| (fldS (fv 0) (fl 0) (0 : Int32))) ||| (fldS (fv 1) (fl 1) u1))) 0 ((((0 : Int64) ||| (fldS (fv 0) (fl 0) (0 : Int32))) ||| (fldS (fv 1) (fl 1) u1)) ||| (fldS (fv 2) (fl 2) u2))) E_a1 F_a1_words A_ka) E_a1 (hw _ (List.mem_of_getElem? (i := 61) rfl)) (hw _ (List.mem_of_getElem? (i := 62) rfl)) (hw _ (List.mem_of_getElem? (i := 13) rfl)) (hw _ (List.mem_of_getElem? (i := 63) rfl)) (hw _ (List.mem_of_getElem? (i := 64) rfl)) (hw _ (List.mem_of_getElem? (i := 14) rfl)) (by decide) pd_3 [(.ref ka), (.int (0 : Int32))] rfl rfl 1 (Nat.le_of_eq rfl) rfl (by decide) (by decide) (by decide) (by decide) d8_80 ?_
  rintro T h5 v5 ⟨r5, rfl, rfl⟩ X
  change Run _ _ _ _ _ _ _ _ [(.long r5), (.ref a1)]
  refine r_private 86 X (st := []) (a := a1) (rmSl l Z a0 hw n0 _ X.sz a1 ta _ r5 E_a1 F_a1_table A_ta) E_a1 (hw _ (List.mem_of_getElem? (i := 66) rfl)) (hw _ (List.mem_of_getElem? (i := 67) rfl)) (hw _ (List.mem_of_getElem? (i := 13) rfl)) (hw _ (List.mem_of_getElem? (i := 68) rfl)) (hw _ (List.mem_of_getElem? (i := 69) rfl)) (hw _ (List.mem_of_getElem? (i := 14) rfl)) (by decide) pd_2 [(.long r5)] rfl rfl 0 (Nat.le_of_eq rfl) rfl (by decide) (by decide) (by decide) (by decide) d8_83 ?_
  rintro T h6 v6 ⟨sl, ks, rfl, hks, hks64, rfl⟩ X
  change Run _ _ _ _ _ _ _ _ [(.int sl)]
  refine r_istoreN 87 X #[.val (.ref a1), .val (.ref a2), .val (.int sl)] d8_86 rfl ?_
  by_cases hk0 : ks = k0
  ·
    refine r_aloadN 88 X d8_87 rfl rfl ?_
    refine r_getfield 91 X (host := "") (Or.inl (hw _ (List.mem_of_getElem? (i := 54) rfl))) Via.refl F_a1_table d8_88 ?_
    intro T X
    refine r_iloadN 92 X d8_91 rfl ?_
    refine r_iaload 93 X A_ta (i := ks) (v := (.int (1 : Int32))) hks hks64 (by simp [updI, hk0]) d8_92 ?_
    refine r_ifN 96 X d8_93 ((if0 _ _).trans (feq (by decide)).1) ?_
    refine r_aloadN 97 X d8_96 rfl rfl ?_
    refine r_aloadN 98 X d8_97 rfl rfl ?_
    refine r_getfield 101 X (host := "") (Or.inl (hw _ (List.mem_of_getElem? (i := 54) rfl))) Via.refl F_a1_table d8_98 ?_
    intro T X
    refine r_iloadN 102 X d8_101 rfl ?_
    refine r_iaload 103 X A_ta (i := ks) (v := (.int (1 : Int32))) hks hks64 (by simp [updI, hk0]) d8_102 ?_
    refine r_iconst 104 X (1 : Int32) d8_103 rfl ?_
    refine r_isub 105 X d8_104 ?_
    refine r_topI (x' := (0 : Int32)) (by decide) ?_
    refine r_private 108 X (st := []) (a := a1) (rmEk0 l Z a0 hw n0 _ X.sz a1 ka pa (updJ (updJ (updJ (updJ fk 0 (0 : Int64)) 0 ((0 : Int64) ||| (fldS (fv 0) (fl 0) (0 : Int32)))) 0 (((0 : Int64) ||| (fldS (fv 0) (fl 0) (0 : Int32))) ||| (fldS (fv 1) (fl 1) u1))) 0 ((((0 : Int64) ||| (fldS (fv 0) (fl 0) (0 : Int32))) ||| (fldS (fv 1) (fl 1) u1)) ||| (fldS (fv 2) (fl 2) u2))) fp E_a1 F_a1_words F_a1_key F_a1_packed A_ka A_pa) E_a1 (hw _ (List.mem_of_getElem? (i := 89) rfl)) (hw _ (List.mem_of_getElem? (i := 90) rfl)) (hw _ (List.mem_of_getElem? (i := 13) rfl)) (hw _ (List.mem_of_getElem? (i := 91) rfl)) (hw _ (List.mem_of_getElem? (i := 92) rfl)) (hw _ (List.mem_of_getElem? (i := 14) rfl)) (by decide) pd_4 [(.int (0 : Int32))] rfl rfl 0 (Nat.le_of_eq rfl) rfl (by decide) (by decide) (by decide) (by decide) d8_105 ?_
    rintro T h7 v7 ⟨rfl, rfl⟩ X
    change Run _ _ _ _ _ _ _ _ [(.int (b2i ((fp 0) = ((((0 : Int64) ||| (fldS (fv 0) (fl 0) (0 : Int32))) ||| (fldS (fv 1) (fl 1) u1)) ||| (fldS (fv 2) (fl 2) u2)))))]
    by_cases h108_8 : (fp 0) = ((((0 : Int64) ||| (fldS (fv 0) (fl 0) (0 : Int32))) ||| (fldS (fv 1) (fl 1) u1)) ||| (fldS (fv 2) (fl 2) u2))
    · refine r_ifN 111 X d8_108 ((if0 _ _).trans (feq (b2i_ne0 h108_8)).1) ?_
      refine r_aloadN 112 X d8_111 rfl rfl ?_
      refine r_getfield 115 X (host := "") (Or.inl (hw _ (List.mem_of_getElem? (i := 54) rfl))) Via.refl F_a1_table d8_112 ?_
      intro T X
      refine r_iloadN 116 X d8_115 rfl ?_
      refine r_iaload 117 X A_ta (i := ks) (v := (.int (1 : Int32))) hks hks64 (by simp [updI, hk0]) d8_116 ?_
      refine r_iconst 118 X (1 : Int32) d8_117 rfl ?_
      refine r_isub 119 X d8_118 ?_
      refine r_topI (x' := (0 : Int32)) (by decide) ?_
      refine r_retI X d8_119 (by decide) (by decide) ?_
      exact ⟨0, 0, rfl, rfl, by decide, K, F_a1_low, F_a1_word, F_a1_shift, F_a1_mask, F_a1_key, F_a1_packed, F_a1_table, F_a1_words, _, A_pa, hA0, h108_8⟩
    · refine r_ifY 120 X d8_108 ((if0 _ _).trans (teq (b2i_eq0 h108_8)).1) ?_
      refine r_iloadN 121 X d8_120 rfl ?_
      refine r_iconst 122 X (1 : Int32) d8_121 rfl ?_
      refine r_iadd 123 X d8_122 ?_
      refine r_aloadN 124 X d8_123 rfl rfl ?_
      refine r_getfield 127 X (host := "") (Or.inl (hw _ (List.mem_of_getElem? (i := 54) rfl))) Via.refl F_a1_table d8_124 ?_
      intro T X
      refine r_arraylength 128 X A_ta (64 : Int32) (by decide) d8_127 ?_
      refine r_iconst 129 X (1 : Int32) d8_128 rfl ?_
      refine r_isub 130 X d8_129 ?_
      refine r_topI (x' := (63 : Int32)) (by decide) ?_
      refine r_iand 131 X d8_130 ?_
      have hk2 := own_next hks hks64
      generalize ((sl + (1 : Int32)) &&& (63 : Int32)) = s2 at hk2 ⊢
      refine r_istoreN 132 X #[.val (.ref a1), .val (.ref a2), .val (.int s2)] d8_131 rfl ?_
      refine r_goto 87 X d8_132 ?_
      refine r_aloadN 88 X d8_87 rfl rfl ?_
      refine r_getfield 91 X (host := "") (Or.inl (hw _ (List.mem_of_getElem? (i := 54) rfl))) Via.refl F_a1_table d8_88 ?_
      intro T X
      refine r_iloadN 92 X d8_91 rfl ?_
      refine r_iaload 93 X A_ta (i := ((ks + 1) % 64)) (v := (.int (0 : Int32))) hk2 (by omega) (by show Value.int (updI _ k0 _ _) = _; rw [updI, if_neg (by omega)]) d8_92 ?_
      refine r_ifY 135 X d8_93 ((if0 _ _).trans (teq (by decide)).1) ?_
      refine r_aloadN 136 X d8_135 rfl rfl ?_
      refine r_getfield 139 X (host := "") (Or.inl (hw _ (List.mem_of_getElem? (i := 73) rfl))) Via.refl F_a1_count d8_136 ?_
      intro T X
      refine r_ldcInt 141 X (hw _ (List.mem_of_getElem? (i := 75) rfl)) d8_139 ?_
      refine r_icmpN 144 X d8_141 (feq (by decide)).1 ?_
      refine r_aloadN 145 X d8_144 rfl rfl ?_
      refine r_getfield 148 X (host := "") (Or.inl (hw _ (List.mem_of_getElem? (i := 73) rfl))) Via.refl F_a1_count d8_145 ?_
      intro T X
      refine r_iconst 149 X (1 : Int32) d8_148 rfl ?_
      refine r_iadd 150 X d8_149 ?_
      refine r_topI (x' := (2 : Int32)) (by decide) ?_
      refine r_i2l 151 X d8_150 ?_
      refine r_topJ (x' := (2 : Int64)) (by decide) ?_
      refine r_aloadN 152 X d8_151 rfl rfl ?_
      refine r_getfield 155 X (host := "") (Or.inl (hw _ (List.mem_of_getElem? (i := 48) rfl))) Via.refl F_a1_words d8_152 ?_
      intro T X
      refine r_i2l 156 X d8_155 ?_
      refine r_topJ (x' := (1 : Int64)) (by decide) ?_
      refine r_lmul 157 X d8_156 ?_
      refine r_topJ (x' := (2 : Int64)) (by decide) ?_
      refine r_ldc2Long 160 X (hw _ (List.mem_of_getElem? (i := 76) rfl)) d8_157 ?_
      refine r_lcmp 161 X d8_160 ?_
      refine r_ifY 181 X d8_161 ((if0 _ _).trans (flt (fun q => (show ¬ ((2147483639 : Int64) < (2 : Int64)) by decide) ((lw_gt _ _).mp q))).2.2.2) ?_
      refine r_aloadN 182 X d8_181 rfl rfl ?_
      refine r_getfield 185 X (host := "") (Or.inl (hw _ (List.mem_of_getElem? (i := 73) rfl))) Via.refl F_a1_count d8_182 ?_
      intro T X
      refine r_iconst 186 X (1 : Int32) d8_185 rfl ?_
      refine r_iadd 187 X d8_186 ?_
      refine r_topI (x' := (2 : Int32)) (by decide) ?_
      refine r_aloadN 188 X d8_187 rfl rfl ?_
      refine r_getfield 191 X (host := "") (Or.inl (hw _ (List.mem_of_getElem? (i := 48) rfl))) Via.refl F_a1_words d8_188 ?_
      intro T X
      refine r_imul 192 X d8_191 ?_
      refine r_topI (x' := (2 : Int32)) (by decide) ?_
      refine r_aloadN 193 X d8_192 rfl rfl ?_
      refine r_getfield 196 X (host := "") (Or.inl (hw _ (List.mem_of_getElem? (i := 52) rfl))) Via.refl F_a1_packed d8_193 ?_
      intro T X
      refine r_arraylength 197 X A_pa (16 : Int32) (by decide) d8_196 ?_
      refine r_icmpY 228 X d8_197 (flt (by decide)).2.2.2 ?_
      refine r_aloadN 229 X d8_228 rfl rfl ?_
      refine r_getfield 232 X (host := "") (Or.inl (hw _ (List.mem_of_getElem? (i := 50) rfl))) Via.refl F_a1_key d8_229 ?_
      intro T X
      refine r_iconst 233 X (0 : Int32) d8_232 rfl ?_
      refine r_aloadN 234 X d8_233 rfl rfl ?_
      refine r_getfield 237 X (host := "") (Or.inl (hw _ (List.mem_of_getElem? (i := 52) rfl))) Via.refl F_a1_packed d8_234 ?_
      intro T X
      refine r_aloadN 238 X d8_237 rfl rfl ?_
      refine r_getfield 241 X (host := "") (Or.inl (hw _ (List.mem_of_getElem? (i := 73) rfl))) Via.refl F_a1_count d8_238 ?_
      intro T X
      refine r_aloadN 242 X d8_241 rfl rfl ?_
      refine r_getfield 245 X (host := "") (Or.inl (hw _ (List.mem_of_getElem? (i := 48) rfl))) Via.refl F_a1_words d8_242 ?_
      intro T X
      refine r_imul 246 X d8_245 ?_
      refine r_topI (x' := (1 : Int32)) (by decide) ?_
      refine r_aloadN 247 X d8_246 rfl rfl ?_
      refine r_getfield 250 X (host := "") (Or.inl (hw _ (List.mem_of_getElem? (i := 48) rfl))) Via.refl F_a1_words d8_247 ?_
      intro T X
      refine r_arraycopy 253 X (st := []) (hw _ (List.mem_of_getElem? (i := 77) rfl)) (hw _ (List.mem_of_getElem? (i := 80) rfl)) (hw _ (List.mem_of_getElem? (i := 78) rfl)) (hw _ (List.mem_of_getElem? (i := 79) rfl)) A_ka A_pa rfl (fun _ _ => rfl) (fun _ _ => rfl) (i1 := 0) (i2 := 1) (k := 1) (by decide) (by decide) (by decide) (by decide) (by decide) gpa 0 (Nat.le_of_eq rfl) rfl (by decide) (by decide) d8_250 ?_
      intro T h9 K9 A9 X
      have K := K.trans K9 (allS (Or.inl (List.mem_of_getElem? (i := 2) rfl)) all0)
      have E_a1 := E_a1.keep K9
      have F_a1_low := F_a1_low.keep K9 (ninS ne_a1_pa nin0)
      have F_a1_word := F_a1_word.keep K9 (ninS ne_a1_pa nin0)
      have F_a1_shift := F_a1_shift.keep K9 (ninS ne_a1_pa nin0)
      have F_a1_mask := F_a1_mask.keep K9 (ninS ne_a1_pa nin0)
      have F_a1_key := F_a1_key.keep K9 (ninS ne_a1_pa nin0)
      have F_a1_packed := F_a1_packed.keep K9 (ninS ne_a1_pa nin0)
      have F_a1_table := F_a1_table.keep K9 (ninS ne_a1_pa nin0)
      have F_a1_words := F_a1_words.keep K9 (ninS ne_a1_pa nin0)
      have F_a1_count := F_a1_count.keep K9 (ninS ne_a1_pa nin0)
      have A_la := A_la.keep K9 (ninS ne_la_pa nin0)
      have A_wa := A_wa.keep K9 (ninS ne_wa_pa nin0)
      have A_sa := A_sa.keep K9 (ninS ne_sa_pa nin0)
      have A_ma := A_ma.keep K9 (ninS ne_ma_pa nin0)
      have A_ka := A_ka.keep K9 (ninS ne_ka_pa nin0)
      have A_ta := A_ta.keep K9 (ninS (Ne.symm ne_pa_ta) nin0)
      have A_a2 := A_a2.keep K9 (ninS (Ne.symm ne_pa_a2) nin0)
      have A_pa : AF Z h9 pa .long 16 (fun j => .long ((updJ fp 1 ((((0 : Int64) ||| (fldS (fv 0) (fl 0) (0 : Int32))) ||| (fldS (fv 1) (fl 1) u1)) ||| (fldS (fv 2) (fl 2) u2))) j)) := A9.congr fun j _ => own_cp1 _ _ _ _ _
      refine r_aloadN 254 X d8_253 rfl rfl ?_
      refine r_getfield 257 X (host := "") (Or.inl (hw _ (List.mem_of_getElem? (i := 54) rfl))) Via.refl F_a1_table d8_254 ?_
      intro T X
      refine r_iloadN 258 X d8_257 rfl ?_
      refine r_aloadN 259 X d8_258 rfl rfl ?_
      refine r_getfield 262 X (host := "") (Or.inl (hw _ (List.mem_of_getElem? (i := 73) rfl))) Via.refl F_a1_count d8_259 ?_
      intro T X
      refine r_iconst 263 X (1 : Int32) d8_262 rfl ?_
      refine r_iadd 264 X d8_263 ?_
      refine r_topI (x' := (2 : Int32)) (by decide) ?_
      refine r_iastore 265 X A_ta (i := ((ks + 1) % 64)) (v := (.int (2 : Int32))) hk2 (by omega) rfl gta d8_264 ?_
      intro T h10 W10 X
      have K := K.wr W10 (Or.inl (List.mem_of_getElem? (i := 3) rfl))
      have E_a1 := E_a1.wr W10
      have F_a1_low := F_a1_low.other W10 (Or.inl ne_a1_ta)
      have F_a1_word := F_a1_word.other W10 (Or.inl ne_a1_ta)
      have F_a1_shift := F_a1_shift.other W10 (Or.inl ne_a1_ta)
      have F_a1_mask := F_a1_mask.other W10 (Or.inl ne_a1_ta)
      have F_a1_key := F_a1_key.other W10 (Or.inl ne_a1_ta)
      have F_a1_packed := F_a1_packed.other W10 (Or.inl ne_a1_ta)
      have F_a1_table := F_a1_table.other W10 (Or.inl ne_a1_ta)
      have F_a1_words := F_a1_words.other W10 (Or.inl ne_a1_ta)
      have F_a1_count := F_a1_count.other W10 (Or.inl ne_a1_ta)
      have A_la := A_la.other W10 ne_la_ta
      have A_wa := A_wa.other W10 ne_wa_ta
      have A_sa := A_sa.other W10 ne_sa_ta
      have A_ma := A_ma.other W10 ne_ma_ta
      have A_ka := A_ka.other W10 ne_ka_ta
      have A_ta := A_ta.setI W10
      have A_a2 := A_a2.other W10 (Ne.symm ne_ta_a2)
      have A_pa := A_pa.other W10 ne_pa_ta
      refine r_aloadN 266 X d8_265 rfl rfl ?_
      refine r_dup 267 X d8_266 rfl ?_
      refine r_getfield 270 X (host := "") (Or.inl (hw _ (List.mem_of_getElem? (i := 73) rfl))) Via.refl F_a1_count d8_267 ?_
      intro T X
      refine r_iconst 271 X (1 : Int32) d8_270 rfl ?_
      refine r_iadd 272 X d8_271 ?_
      refine r_topI (x' := (2 : Int32)) (by decide) ?_
      refine r_putfield 275 X (host := "") (Or.inl (hw _ (List.mem_of_getElem? (i := 73) rfl))) Via.refl F_a1_count E_a1 (Or.inl (hw _ (List.mem_of_getElem? (i := 74) rfl))) (hw _ (List.mem_of_getElem? (i := 13) rfl)) (ty := .int) (by decide) rfl rfl ga1 d8_272 ?_
      intro T h11 W11 X
      have K := K.wr W11 (Or.inl (List.mem_of_getElem? (i := 0) rfl))
      have E_a1 := E_a1.wr W11
      have F_a1_low := F_a1_low.other W11 (Or.inr (slot_ne (Or.inr (hw _ (List.mem_of_getElem? (i := 31) rfl))) (Or.inl (hw _ (List.mem_of_getElem? (i := 74) rfl))) (by decide) (t := (.array .int)) (t' := .int) (by decide) (by decide)))
      have F_a1_word := F_a1_word.other W11 (Or.inr (slot_ne (Or.inr (hw _ (List.mem_of_getElem? (i := 33) rfl))) (Or.inl (hw _ (List.mem_of_getElem? (i := 74) rfl))) (by decide) (t := (.array .int)) (t' := .int) (by decide) (by decide)))
      have F_a1_shift := F_a1_shift.other W11 (Or.inr (slot_ne (Or.inr (hw _ (List.mem_of_getElem? (i := 35) rfl))) (Or.inl (hw _ (List.mem_of_getElem? (i := 74) rfl))) (by decide) (t := (.array .int)) (t' := .int) (by decide) (by decide)))
      have F_a1_mask := F_a1_mask.other W11 (Or.inr (slot_ne (Or.inr (hw _ (List.mem_of_getElem? (i := 38) rfl))) (Or.inl (hw _ (List.mem_of_getElem? (i := 74) rfl))) (by decide) (t := (.array .long)) (t' := .int) (by decide) (by decide)))
      have F_a1_key := F_a1_key.other W11 (Or.inr (slot_ne (Or.inr (hw _ (List.mem_of_getElem? (i := 51) rfl))) (Or.inl (hw _ (List.mem_of_getElem? (i := 74) rfl))) (by decide) (t := (.array .long)) (t' := .int) (by decide) (by decide)))
      have F_a1_packed := F_a1_packed.other W11 (Or.inr (slot_ne (Or.inl (hw _ (List.mem_of_getElem? (i := 53) rfl))) (Or.inl (hw _ (List.mem_of_getElem? (i := 74) rfl))) (by decide) (t := (.array .long)) (t' := .int) (by decide) (by decide)))
      have F_a1_table := F_a1_table.other W11 (Or.inr (slot_ne (Or.inl (hw _ (List.mem_of_getElem? (i := 55) rfl))) (Or.inl (hw _ (List.mem_of_getElem? (i := 74) rfl))) (by decide) (t := (.array .int)) (t' := .int) (by decide) (by decide)))
      have F_a1_words := F_a1_words.other W11 (Or.inr (slot_ne (Or.inr (hw _ (List.mem_of_getElem? (i := 49) rfl))) (Or.inl (hw _ (List.mem_of_getElem? (i := 74) rfl))) (by decide) (t := .int) (t' := .int) (by decide) (by decide)))
      have F_a1_count := F_a1_count.same W11
      have A_la := A_la.other W11 (Ne.symm ne_a1_la)
      have A_wa := A_wa.other W11 (Ne.symm ne_a1_wa)
      have A_sa := A_sa.other W11 (Ne.symm ne_a1_sa)
      have A_ma := A_ma.other W11 (Ne.symm ne_a1_ma)
      have A_ka := A_ka.other W11 (Ne.symm ne_a1_ka)
      have A_ta := A_ta.other W11 (Ne.symm ne_a1_ta)
      have A_a2 := A_a2.other W11 (Ne.symm ne_a1_a2)
      have A_pa := A_pa.other W11 (Ne.symm ne_a1_pa)
      refine r_aloadN 276 X d8_275 rfl rfl ?_
      refine r_getfield 279 X (host := "") (Or.inl (hw _ (List.mem_of_getElem? (i := 73) rfl))) Via.refl F_a1_count d8_276 ?_
      intro T X
      refine r_aloadN 280 X d8_279 rfl rfl ?_
      refine r_getfield 283 X (host := "") (Or.inl (hw _ (List.mem_of_getElem? (i := 54) rfl))) Via.refl F_a1_table d8_280 ?_
      intro T X
      refine r_arraylength 284 X A_ta (64 : Int32) (by decide) d8_283 ?_
      refine r_iconst 285 X (2 : Int32) d8_284 rfl ?_
      refine r_idiv 286 X d8_285 (by decide) ?_
      refine r_topI (x' := (32 : Int32)) (by decide) ?_
      refine r_icmpY 293 X d8_286 (flt (by decide)).2.2.2 ?_
      refine r_aloadN 294 X d8_293 rfl rfl ?_
      refine r_getfield 297 X (host := "") (Or.inl (hw _ (List.mem_of_getElem? (i := 73) rfl))) Via.refl F_a1_count d8_294 ?_
      intro T X
      refine r_iconst 298 X (1 : Int32) d8_297 rfl ?_
      refine r_isub 299 X d8_298 ?_
      refine r_topI (x' := (1 : Int32)) (by decide) ?_
      refine r_retI X d8_299 (by decide) (by decide) ?_
      exact ⟨1, 1, rfl, rfl, by decide, K, F_a1_low, F_a1_word, F_a1_shift, F_a1_mask, F_a1_key, F_a1_packed, F_a1_table, F_a1_words, _, A_pa, hA0, rfl⟩
  ·
    refine r_aloadN 88 X d8_87 rfl rfl ?_
    refine r_getfield 91 X (host := "") (Or.inl (hw _ (List.mem_of_getElem? (i := 54) rfl))) Via.refl F_a1_table d8_88 ?_
    intro T X
    refine r_iloadN 92 X d8_91 rfl ?_
    refine r_iaload 93 X A_ta (i := ks) (v := (.int (0 : Int32))) hks hks64 (by simp [updI, hk0]) d8_92 ?_
    refine r_ifY 135 X d8_93 ((if0 _ _).trans (teq (by decide)).1) ?_
    refine r_aloadN 136 X d8_135 rfl rfl ?_
    refine r_getfield 139 X (host := "") (Or.inl (hw _ (List.mem_of_getElem? (i := 73) rfl))) Via.refl F_a1_count d8_136 ?_
    intro T X
    refine r_ldcInt 141 X (hw _ (List.mem_of_getElem? (i := 75) rfl)) d8_139 ?_
    refine r_icmpN 144 X d8_141 (feq (by decide)).1 ?_
    refine r_aloadN 145 X d8_144 rfl rfl ?_
    refine r_getfield 148 X (host := "") (Or.inl (hw _ (List.mem_of_getElem? (i := 73) rfl))) Via.refl F_a1_count d8_145 ?_
    intro T X
    refine r_iconst 149 X (1 : Int32) d8_148 rfl ?_
    refine r_iadd 150 X d8_149 ?_
    refine r_topI (x' := (2 : Int32)) (by decide) ?_
    refine r_i2l 151 X d8_150 ?_
    refine r_topJ (x' := (2 : Int64)) (by decide) ?_
    refine r_aloadN 152 X d8_151 rfl rfl ?_
    refine r_getfield 155 X (host := "") (Or.inl (hw _ (List.mem_of_getElem? (i := 48) rfl))) Via.refl F_a1_words d8_152 ?_
    intro T X
    refine r_i2l 156 X d8_155 ?_
    refine r_topJ (x' := (1 : Int64)) (by decide) ?_
    refine r_lmul 157 X d8_156 ?_
    refine r_topJ (x' := (2 : Int64)) (by decide) ?_
    refine r_ldc2Long 160 X (hw _ (List.mem_of_getElem? (i := 76) rfl)) d8_157 ?_
    refine r_lcmp 161 X d8_160 ?_
    refine r_ifY 181 X d8_161 ((if0 _ _).trans (flt (fun q => (show ¬ ((2147483639 : Int64) < (2 : Int64)) by decide) ((lw_gt _ _).mp q))).2.2.2) ?_
    refine r_aloadN 182 X d8_181 rfl rfl ?_
    refine r_getfield 185 X (host := "") (Or.inl (hw _ (List.mem_of_getElem? (i := 73) rfl))) Via.refl F_a1_count d8_182 ?_
    intro T X
    refine r_iconst 186 X (1 : Int32) d8_185 rfl ?_
    refine r_iadd 187 X d8_186 ?_
    refine r_topI (x' := (2 : Int32)) (by decide) ?_
    refine r_aloadN 188 X d8_187 rfl rfl ?_
    refine r_getfield 191 X (host := "") (Or.inl (hw _ (List.mem_of_getElem? (i := 48) rfl))) Via.refl F_a1_words d8_188 ?_
    intro T X
    refine r_imul 192 X d8_191 ?_
    refine r_topI (x' := (2 : Int32)) (by decide) ?_
    refine r_aloadN 193 X d8_192 rfl rfl ?_
    refine r_getfield 196 X (host := "") (Or.inl (hw _ (List.mem_of_getElem? (i := 52) rfl))) Via.refl F_a1_packed d8_193 ?_
    intro T X
    refine r_arraylength 197 X A_pa (16 : Int32) (by decide) d8_196 ?_
    refine r_icmpY 228 X d8_197 (flt (by decide)).2.2.2 ?_
    refine r_aloadN 229 X d8_228 rfl rfl ?_
    refine r_getfield 232 X (host := "") (Or.inl (hw _ (List.mem_of_getElem? (i := 50) rfl))) Via.refl F_a1_key d8_229 ?_
    intro T X
    refine r_iconst 233 X (0 : Int32) d8_232 rfl ?_
    refine r_aloadN 234 X d8_233 rfl rfl ?_
    refine r_getfield 237 X (host := "") (Or.inl (hw _ (List.mem_of_getElem? (i := 52) rfl))) Via.refl F_a1_packed d8_234 ?_
    intro T X
    refine r_aloadN 238 X d8_237 rfl rfl ?_
    refine r_getfield 241 X (host := "") (Or.inl (hw _ (List.mem_of_getElem? (i := 73) rfl))) Via.refl F_a1_count d8_238 ?_
    intro T X
    refine r_aloadN 242 X d8_241 rfl rfl ?_
    refine r_getfield 245 X (host := "") (Or.inl (hw _ (List.mem_of_getElem? (i := 48) rfl))) Via.refl F_a1_words d8_242 ?_
    intro T X
    refine r_imul 246 X d8_245 ?_
    refine r_topI (x' := (1 : Int32)) (by decide) ?_
    refine r_aloadN 247 X d8_246 rfl rfl ?_
    refine r_getfield 250 X (host := "") (Or.inl (hw _ (List.mem_of_getElem? (i := 48) rfl))) Via.refl F_a1_words d8_247 ?_
    intro T X
    refine r_arraycopy 253 X (st := []) (hw _ (List.mem_of_getElem? (i := 77) rfl)) (hw _ (List.mem_of_getElem? (i := 80) rfl)) (hw _ (List.mem_of_getElem? (i := 78) rfl)) (hw _ (List.mem_of_getElem? (i := 79) rfl)) A_ka A_pa rfl (fun _ _ => rfl) (fun _ _ => rfl) (i1 := 0) (i2 := 1) (k := 1) (by decide) (by decide) (by decide) (by decide) (by decide) gpa 0 (Nat.le_of_eq rfl) rfl (by decide) (by decide) d8_250 ?_
    intro T h12 K12 A12 X
    have K := K.trans K12 (allS (Or.inl (List.mem_of_getElem? (i := 2) rfl)) all0)
    have E_a1 := E_a1.keep K12
    have F_a1_low := F_a1_low.keep K12 (ninS ne_a1_pa nin0)
    have F_a1_word := F_a1_word.keep K12 (ninS ne_a1_pa nin0)
    have F_a1_shift := F_a1_shift.keep K12 (ninS ne_a1_pa nin0)
    have F_a1_mask := F_a1_mask.keep K12 (ninS ne_a1_pa nin0)
    have F_a1_key := F_a1_key.keep K12 (ninS ne_a1_pa nin0)
    have F_a1_packed := F_a1_packed.keep K12 (ninS ne_a1_pa nin0)
    have F_a1_table := F_a1_table.keep K12 (ninS ne_a1_pa nin0)
    have F_a1_words := F_a1_words.keep K12 (ninS ne_a1_pa nin0)
    have F_a1_count := F_a1_count.keep K12 (ninS ne_a1_pa nin0)
    have A_la := A_la.keep K12 (ninS ne_la_pa nin0)
    have A_wa := A_wa.keep K12 (ninS ne_wa_pa nin0)
    have A_sa := A_sa.keep K12 (ninS ne_sa_pa nin0)
    have A_ma := A_ma.keep K12 (ninS ne_ma_pa nin0)
    have A_ka := A_ka.keep K12 (ninS ne_ka_pa nin0)
    have A_ta := A_ta.keep K12 (ninS (Ne.symm ne_pa_ta) nin0)
    have A_a2 := A_a2.keep K12 (ninS (Ne.symm ne_pa_a2) nin0)
    have A_pa : AF Z h12 pa .long 16 (fun j => .long ((updJ fp 1 ((((0 : Int64) ||| (fldS (fv 0) (fl 0) (0 : Int32))) ||| (fldS (fv 1) (fl 1) u1)) ||| (fldS (fv 2) (fl 2) u2))) j)) := A12.congr fun j _ => own_cp1 _ _ _ _ _
    refine r_aloadN 254 X d8_253 rfl rfl ?_
    refine r_getfield 257 X (host := "") (Or.inl (hw _ (List.mem_of_getElem? (i := 54) rfl))) Via.refl F_a1_table d8_254 ?_
    intro T X
    refine r_iloadN 258 X d8_257 rfl ?_
    refine r_aloadN 259 X d8_258 rfl rfl ?_
    refine r_getfield 262 X (host := "") (Or.inl (hw _ (List.mem_of_getElem? (i := 73) rfl))) Via.refl F_a1_count d8_259 ?_
    intro T X
    refine r_iconst 263 X (1 : Int32) d8_262 rfl ?_
    refine r_iadd 264 X d8_263 ?_
    refine r_topI (x' := (2 : Int32)) (by decide) ?_
    refine r_iastore 265 X A_ta (i := ks) (v := (.int (2 : Int32))) hks hks64 rfl gta d8_264 ?_
    intro T h13 W13 X
    have K := K.wr W13 (Or.inl (List.mem_of_getElem? (i := 3) rfl))
    have E_a1 := E_a1.wr W13
    have F_a1_low := F_a1_low.other W13 (Or.inl ne_a1_ta)
    have F_a1_word := F_a1_word.other W13 (Or.inl ne_a1_ta)
    have F_a1_shift := F_a1_shift.other W13 (Or.inl ne_a1_ta)
    have F_a1_mask := F_a1_mask.other W13 (Or.inl ne_a1_ta)
    have F_a1_key := F_a1_key.other W13 (Or.inl ne_a1_ta)
    have F_a1_packed := F_a1_packed.other W13 (Or.inl ne_a1_ta)
    have F_a1_table := F_a1_table.other W13 (Or.inl ne_a1_ta)
    have F_a1_words := F_a1_words.other W13 (Or.inl ne_a1_ta)
    have F_a1_count := F_a1_count.other W13 (Or.inl ne_a1_ta)
    have A_la := A_la.other W13 ne_la_ta
    have A_wa := A_wa.other W13 ne_wa_ta
    have A_sa := A_sa.other W13 ne_sa_ta
    have A_ma := A_ma.other W13 ne_ma_ta
    have A_ka := A_ka.other W13 ne_ka_ta
    have A_ta := A_ta.setI W13
    have A_a2 := A_a2.other W13 (Ne.symm ne_ta_a2)
    have A_pa := A_pa.other W13 ne_pa_ta
    refine r_aloadN 266 X d8_265 rfl rfl ?_
    refine r_dup 267 X d8_266 rfl ?_
    refine r_getfield 270 X (host := "") (Or.inl (hw _ (List.mem_of_getElem? (i := 73) rfl))) Via.refl F_a1_count d8_267 ?_
    intro T X
    refine r_iconst 271 X (1 : Int32) d8_270 rfl ?_
    refine r_iadd 272 X d8_271 ?_
    refine r_topI (x' := (2 : Int32)) (by decide) ?_
    refine r_putfield 275 X (host := "") (Or.inl (hw _ (List.mem_of_getElem? (i := 73) rfl))) Via.refl F_a1_count E_a1 (Or.inl (hw _ (List.mem_of_getElem? (i := 74) rfl))) (hw _ (List.mem_of_getElem? (i := 13) rfl)) (ty := .int) (by decide) rfl rfl ga1 d8_272 ?_
    intro T h14 W14 X
    have K := K.wr W14 (Or.inl (List.mem_of_getElem? (i := 0) rfl))
    have E_a1 := E_a1.wr W14
    have F_a1_low := F_a1_low.other W14 (Or.inr (slot_ne (Or.inr (hw _ (List.mem_of_getElem? (i := 31) rfl))) (Or.inl (hw _ (List.mem_of_getElem? (i := 74) rfl))) (by decide) (t := (.array .int)) (t' := .int) (by decide) (by decide)))
    have F_a1_word := F_a1_word.other W14 (Or.inr (slot_ne (Or.inr (hw _ (List.mem_of_getElem? (i := 33) rfl))) (Or.inl (hw _ (List.mem_of_getElem? (i := 74) rfl))) (by decide) (t := (.array .int)) (t' := .int) (by decide) (by decide)))
    have F_a1_shift := F_a1_shift.other W14 (Or.inr (slot_ne (Or.inr (hw _ (List.mem_of_getElem? (i := 35) rfl))) (Or.inl (hw _ (List.mem_of_getElem? (i := 74) rfl))) (by decide) (t := (.array .int)) (t' := .int) (by decide) (by decide)))
    have F_a1_mask := F_a1_mask.other W14 (Or.inr (slot_ne (Or.inr (hw _ (List.mem_of_getElem? (i := 38) rfl))) (Or.inl (hw _ (List.mem_of_getElem? (i := 74) rfl))) (by decide) (t := (.array .long)) (t' := .int) (by decide) (by decide)))
    have F_a1_key := F_a1_key.other W14 (Or.inr (slot_ne (Or.inr (hw _ (List.mem_of_getElem? (i := 51) rfl))) (Or.inl (hw _ (List.mem_of_getElem? (i := 74) rfl))) (by decide) (t := (.array .long)) (t' := .int) (by decide) (by decide)))
    have F_a1_packed := F_a1_packed.other W14 (Or.inr (slot_ne (Or.inl (hw _ (List.mem_of_getElem? (i := 53) rfl))) (Or.inl (hw _ (List.mem_of_getElem? (i := 74) rfl))) (by decide) (t := (.array .long)) (t' := .int) (by decide) (by decide)))
    have F_a1_table := F_a1_table.other W14 (Or.inr (slot_ne (Or.inl (hw _ (List.mem_of_getElem? (i := 55) rfl))) (Or.inl (hw _ (List.mem_of_getElem? (i := 74) rfl))) (by decide) (t := (.array .int)) (t' := .int) (by decide) (by decide)))
    have F_a1_words := F_a1_words.other W14 (Or.inr (slot_ne (Or.inr (hw _ (List.mem_of_getElem? (i := 49) rfl))) (Or.inl (hw _ (List.mem_of_getElem? (i := 74) rfl))) (by decide) (t := .int) (t' := .int) (by decide) (by decide)))
    have F_a1_count := F_a1_count.same W14
    have A_la := A_la.other W14 (Ne.symm ne_a1_la)
    have A_wa := A_wa.other W14 (Ne.symm ne_a1_wa)
    have A_sa := A_sa.other W14 (Ne.symm ne_a1_sa)
    have A_ma := A_ma.other W14 (Ne.symm ne_a1_ma)
    have A_ka := A_ka.other W14 (Ne.symm ne_a1_ka)
    have A_ta := A_ta.other W14 (Ne.symm ne_a1_ta)
    have A_a2 := A_a2.other W14 (Ne.symm ne_a1_a2)
    have A_pa := A_pa.other W14 (Ne.symm ne_a1_pa)
    refine r_aloadN 276 X d8_275 rfl rfl ?_
    refine r_getfield 279 X (host := "") (Or.inl (hw _ (List.mem_of_getElem? (i := 73) rfl))) Via.refl F_a1_count d8_276 ?_
    intro T X
    refine r_aloadN 280 X d8_279 rfl rfl ?_
    refine r_getfield 283 X (host := "") (Or.inl (hw _ (List.mem_of_getElem? (i := 54) rfl))) Via.refl F_a1_table d8_280 ?_
    intro T X
    refine r_arraylength 284 X A_ta (64 : Int32) (by decide) d8_283 ?_
    refine r_iconst 285 X (2 : Int32) d8_284 rfl ?_
    refine r_idiv 286 X d8_285 (by decide) ?_
    refine r_topI (x' := (32 : Int32)) (by decide) ?_
    refine r_icmpY 293 X d8_286 (flt (by decide)).2.2.2 ?_
    refine r_aloadN 294 X d8_293 rfl rfl ?_
    refine r_getfield 297 X (host := "") (Or.inl (hw _ (List.mem_of_getElem? (i := 73) rfl))) Via.refl F_a1_count d8_294 ?_
    intro T X
    refine r_iconst 298 X (1 : Int32) d8_297 rfl ?_
    refine r_isub 299 X d8_298 ?_
    refine r_topI (x' := (1 : Int32)) (by decide) ?_
    refine r_retI X d8_299 (by decide) (by decide) ?_
    exact ⟨1, 1, rfl, rfl, by decide, K, F_a1_low, F_a1_word, F_a1_shift, F_a1_mask, F_a1_key, F_a1_packed, F_a1_table, F_a1_words, _, A_pa, hA0, rfl⟩
set_option maxRecDepth 65536 in
set_option maxHeartbeats 40000000 in
theorem rmAd10 (l : Launch) (Z : State) (a0 : Array Value) (hw : ∀ d ∈ tables_1, d.before a0 Z = true) (n0 : Nat) (h : Heap) (Z0 : n0 ≤ h.size) (a1 la wa sa ma ka pa ta a2 : Addr) (fl fv : Nat → Int32) (u1 : Int32) (m0 m1 m2 : Int64) (fk fp : Nat → Int64) (ga1 : n0 ≤ a1) (gka : n0 ≤ ka) (gpa : n0 ≤ pa) (gta : n0 ≤ ta) (ne_a1_la : a1 ≠ la) (ne_a1_wa : a1 ≠ wa) (ne_a1_sa : a1 ≠ sa) (ne_a1_ma : a1 ≠ ma) (ne_a1_ka : a1 ≠ ka) (ne_a1_pa : a1 ≠ pa) (ne_a1_ta : a1 ≠ ta) (ne_a1_a2 : a1 ≠ a2) (ne_la_ka : la ≠ ka) (ne_la_pa : la ≠ pa) (ne_la_ta : la ≠ ta) (ne_wa_ka : wa ≠ ka) (ne_wa_pa : wa ≠ pa) (ne_wa_ta : wa ≠ ta) (ne_sa_ka : sa ≠ ka) (ne_sa_pa : sa ≠ pa) (ne_sa_ta : sa ≠ ta) (ne_ma_ka : ma ≠ ka) (ne_ma_pa : ma ≠ pa) (ne_ma_ta : ma ≠ ta) (ne_ka_pa : ka ≠ pa) (ne_ka_ta : ka ≠ ta) (ne_ka_a2 : ka ≠ a2) (ne_pa_ta : pa ≠ ta) (ne_pa_a2 : pa ≠ a2) (ne_ta_a2 : ta ≠ a2) (E_a1 : Exa Z h a1 "com/example/heliotrope/heliotrope/language/StateStore") (F_a1_low : Fld Z h a1 "com/example/heliotrope/heliotrope/language/StateStore" "low" "[I" (.ref la)) (F_a1_word : Fld Z h a1 "com/example/heliotrope/heliotrope/language/StateStore" "word" "[I" (.ref wa)) (F_a1_shift : Fld Z h a1 "com/example/heliotrope/heliotrope/language/StateStore" "shift" "[I" (.ref sa)) (F_a1_mask : Fld Z h a1 "com/example/heliotrope/heliotrope/language/StateStore" "mask" "[J" (.ref ma)) (F_a1_key : Fld Z h a1 "com/example/heliotrope/heliotrope/language/StateStore" "key" "[J" (.ref ka)) (F_a1_packed : Fld Z h a1 "com/example/heliotrope/heliotrope/language/StateStore" "packed" "[J" (.ref pa)) (F_a1_table : Fld Z h a1 "com/example/heliotrope/heliotrope/language/StateStore" "table" "[I" (.ref ta)) (F_a1_words : Fld Z h a1 "com/example/heliotrope/heliotrope/language/StateStore" "words" "I" (.int (2 : Int32))) (F_a1_count : Fld Z h a1 "com/example/heliotrope/heliotrope/language/StateStore" "count" "I" (.int (0 : Int32))) (A_la : AF Z h la .int 3 (fun j => .int (fl j))) (A_wa : AF Z h wa .int 3 (fun j => .int ((updI (updI (updI (fun _ => (0 : Int32)) 0 (0 : Int32)) 1 (0 : Int32)) 2 (1 : Int32)) j))) (A_sa : AF Z h sa .int 3 (fun j => .int ((updI (updI (updI (fun _ => (0 : Int32)) 0 (0 : Int32)) 1 u1) 2 (0 : Int32)) j))) (A_ma : AF Z h ma .long 3 (fun j => .long ((updJ (updJ (updJ (fun _ => (0 : Int64)) 0 m0) 1 m1) 2 m2) j))) (A_ka : AF Z h ka .long 2 (fun j => .long (fk j))) (A_pa : AF Z h pa .long 32 (fun j => .long (fp j))) (A_ta : AF Z h ta .int 64 (fun j => .int ((fun _ => (0 : Int32)) j))) (A_a2 : AF Z h a2 .int 3 (fun j => .int (fv j))) :
    Met1 l Z n0 [] (⟨"com/example/heliotrope/heliotrope/language/StateStore", "add", "([I)I"⟩ : MethodName) prog_47_method_3_code 3 (some .int) ({ frames := 2, cells := 0, slots := 0, locals := 30 } : Room) #[(.ref a1), (.ref a2)] h (fun v h' => v = some (.int 0) ∧ Keep h h' [a1, ka, pa, ta] ∧ Fld Z h' a1 "com/example/heliotrope/heliotrope/language/StateStore" "low" "[I" (.ref la) ∧ Fld Z h' a1 "com/example/heliotrope/heliotrope/language/StateStore" "word" "[I" (.ref wa) ∧ Fld Z h' a1 "com/example/heliotrope/heliotrope/language/StateStore" "shift" "[I" (.ref sa) ∧ Fld Z h' a1 "com/example/heliotrope/heliotrope/language/StateStore" "mask" "[J" (.ref ma) ∧ Fld Z h' a1 "com/example/heliotrope/heliotrope/language/StateStore" "key" "[J" (.ref ka) ∧ Fld Z h' a1 "com/example/heliotrope/heliotrope/language/StateStore" "packed" "[J" (.ref pa) ∧ Fld Z h' a1 "com/example/heliotrope/heliotrope/language/StateStore" "table" "[I" (.ref ta) ∧ Fld Z h' a1 "com/example/heliotrope/heliotrope/language/StateStore" "words" "I" (.int (2 : Int32)) ∧ Fld Z h' a1 "com/example/heliotrope/heliotrope/language/StateStore" "count" "I" (.int (1 : Int32)) ∧ (∃ gk : Nat → Int64, AF Z h' ka .long 2 (fun j => .long (gk j))) ∧ (∃ gp : Nat → Int64, AF Z h' pa .long 32 (fun j => .long (gp j)) ∧ gp 0 = (((0 : Int64) ||| (fldS (fv 0) (fl 0) (0 : Int32))) ||| (fldS (fv 1) (fl 1) u1)) ∧ gp 1 = ((0 : Int64) ||| (fldS (fv 2) (fl 2) (0 : Int32)))) ∧ ∃ k0 : Nat, AF Z h' ta .int 64 (fun j => .int ((updI (fun _ => (0 : Int32)) k0 (1 : Int32)) j))) := by
  refine met_of (plainFor_of_name pn_8) Z0 (fun m => ef_8 m a1 a2) ?_
  intro p e s m below meth c T hs0 X
  have K := Keep.refl h [a1, ka, pa, ta]
  refine r_iconst 1 X (0 : Int32) d8_0 rfl ?_
  refine r_istoreN 2 X #[.val (.ref a1), .val (.ref a2), .val (.int (0 : Int32))] d8_1 rfl ?_
  refine r_iloadN 3 X d8_2 rfl ?_
  refine r_aloadN 4 X d8_3 rfl rfl ?_
  refine r_getfield 7 X (host := "") (Or.inl (hw _ (List.mem_of_getElem? (i := 48) rfl))) Via.refl F_a1_words d8_4 ?_
  intro T X
  refine r_icmpN 10 X d8_7 (tlt (by decide)).2.1 ?_
  refine r_aloadN 11 X d8_10 rfl rfl ?_
  refine r_getfield 14 X (host := "") (Or.inl (hw _ (List.mem_of_getElem? (i := 50) rfl))) Via.refl F_a1_key d8_11 ?_
  intro T X
  refine r_iloadN 15 X d8_14 rfl ?_
  refine r_lconst 16 X (0 : Int64) d8_15 rfl ?_
  refine r_lastore 17 X A_ka (i := 0) (v := (.long (0 : Int64))) (by decide) (by decide) rfl gka d8_16 ?_
  intro T h1 W1 X
  have K := K.wr W1 (Or.inl (List.mem_of_getElem? (i := 1) rfl))
  have E_a1 := E_a1.wr W1
  have F_a1_low := F_a1_low.other W1 (Or.inl ne_a1_ka)
  have F_a1_word := F_a1_word.other W1 (Or.inl ne_a1_ka)
  have F_a1_shift := F_a1_shift.other W1 (Or.inl ne_a1_ka)
  have F_a1_mask := F_a1_mask.other W1 (Or.inl ne_a1_ka)
  have F_a1_key := F_a1_key.other W1 (Or.inl ne_a1_ka)
  have F_a1_packed := F_a1_packed.other W1 (Or.inl ne_a1_ka)
  have F_a1_table := F_a1_table.other W1 (Or.inl ne_a1_ka)
  have F_a1_words := F_a1_words.other W1 (Or.inl ne_a1_ka)
  have F_a1_count := F_a1_count.other W1 (Or.inl ne_a1_ka)
  have A_la := A_la.other W1 ne_la_ka
  have A_wa := A_wa.other W1 ne_wa_ka
  have A_sa := A_sa.other W1 ne_sa_ka
  have A_ma := A_ma.other W1 ne_ma_ka
  have A_ka := A_ka.setJ W1
  have A_pa := A_pa.other W1 (Ne.symm ne_ka_pa)
  have A_ta := A_ta.other W1 (Ne.symm ne_ka_ta)
  have A_a2 := A_a2.other W1 (Ne.symm ne_ka_a2)
  refine r_iinc 20 X (1 : Int32) #[.val (.ref a1), .val (.ref a2), .val (.int (1 : Int32))] d8_17 rfl rfl rfl ?_
  refine r_goto 2 X d8_20 ?_
  refine r_iloadN 3 X d8_2 rfl ?_
  refine r_aloadN 4 X d8_3 rfl rfl ?_
  refine r_getfield 7 X (host := "") (Or.inl (hw _ (List.mem_of_getElem? (i := 48) rfl))) Via.refl F_a1_words d8_4 ?_
  intro T X
  refine r_icmpN 10 X d8_7 (tlt (by decide)).2.1 ?_
  refine r_aloadN 11 X d8_10 rfl rfl ?_
  refine r_getfield 14 X (host := "") (Or.inl (hw _ (List.mem_of_getElem? (i := 50) rfl))) Via.refl F_a1_key d8_11 ?_
  intro T X
  refine r_iloadN 15 X d8_14 rfl ?_
  refine r_lconst 16 X (0 : Int64) d8_15 rfl ?_
  refine r_lastore 17 X A_ka (i := 1) (v := (.long (0 : Int64))) (by decide) (by decide) rfl gka d8_16 ?_
  intro T h2 W2 X
  have K := K.wr W2 (Or.inl (List.mem_of_getElem? (i := 1) rfl))
  have E_a1 := E_a1.wr W2
  have F_a1_low := F_a1_low.other W2 (Or.inl ne_a1_ka)
  have F_a1_word := F_a1_word.other W2 (Or.inl ne_a1_ka)
  have F_a1_shift := F_a1_shift.other W2 (Or.inl ne_a1_ka)
  have F_a1_mask := F_a1_mask.other W2 (Or.inl ne_a1_ka)
  have F_a1_key := F_a1_key.other W2 (Or.inl ne_a1_ka)
  have F_a1_packed := F_a1_packed.other W2 (Or.inl ne_a1_ka)
  have F_a1_table := F_a1_table.other W2 (Or.inl ne_a1_ka)
  have F_a1_words := F_a1_words.other W2 (Or.inl ne_a1_ka)
  have F_a1_count := F_a1_count.other W2 (Or.inl ne_a1_ka)
  have A_la := A_la.other W2 ne_la_ka
  have A_wa := A_wa.other W2 ne_wa_ka
  have A_sa := A_sa.other W2 ne_sa_ka
  have A_ma := A_ma.other W2 ne_ma_ka
  have A_ka := A_ka.setJ W2
  have A_pa := A_pa.other W2 (Ne.symm ne_ka_pa)
  have A_ta := A_ta.other W2 (Ne.symm ne_ka_ta)
  have A_a2 := A_a2.other W2 (Ne.symm ne_ka_a2)
  refine r_iinc 20 X (1 : Int32) #[.val (.ref a1), .val (.ref a2), .val (.int (2 : Int32))] d8_17 rfl rfl rfl ?_
  refine r_goto 2 X d8_20 ?_
  refine r_iloadN 3 X d8_2 rfl ?_
  refine r_aloadN 4 X d8_3 rfl rfl ?_
  refine r_getfield 7 X (host := "") (Or.inl (hw _ (List.mem_of_getElem? (i := 48) rfl))) Via.refl F_a1_words d8_4 ?_
  intro T X
  refine r_icmpY 23 X d8_7 (flt (by decide)).2.1 ?_
  refine r_iconst 24 X (0 : Int32) d8_23 rfl ?_
  refine r_istoreN 25 X #[.val (.ref a1), .val (.ref a2), .val (.int (0 : Int32))] d8_24 rfl ?_
  refine r_iloadN 26 X d8_25 rfl ?_
  refine r_aloadN 27 X d8_26 rfl rfl ?_
  refine r_getfield 30 X (host := "") (Or.inl (hw _ (List.mem_of_getElem? (i := 30) rfl))) Via.refl F_a1_low d8_27 ?_
  intro T X
  refine r_arraylength 31 X A_la (3 : Int32) (by decide) d8_30 ?_
  refine r_icmpN 34 X d8_31 (tlt (by decide)).2.1 ?_
  refine r_aloadN 35 X d8_34 rfl rfl ?_
  refine r_getfield 38 X (host := "") (Or.inl (hw _ (List.mem_of_getElem? (i := 50) rfl))) Via.refl F_a1_key d8_35 ?_
  intro T X
  refine r_aloadN 39 X d8_38 rfl rfl ?_
  refine r_getfield 42 X (host := "") (Or.inl (hw _ (List.mem_of_getElem? (i := 32) rfl))) Via.refl F_a1_word d8_39 ?_
  intro T X
  refine r_iloadN 43 X d8_42 rfl ?_
  refine r_iaload 44 X A_wa (i := 0) (v := (.int (0 : Int32))) (by decide) (by decide) rfl d8_43 ?_
  refine r_dup2_2 45 X d8_44 rfl rfl ?_
  refine r_laload 46 X A_ka (i := 0) (v := (.long (0 : Int64))) (by decide) (by decide) rfl d8_45 ?_
  refine r_aloadN 47 X d8_46 rfl rfl ?_
  refine r_iloadN 48 X d8_47 rfl ?_
  refine r_iaload 49 X A_a2 (i := 0) (v := (.int (fv 0))) (by decide) (by decide) rfl d8_48 ?_
  refine r_i2l 50 X d8_49 ?_
  refine r_aloadN 51 X d8_50 rfl rfl ?_
  refine r_getfield 54 X (host := "") (Or.inl (hw _ (List.mem_of_getElem? (i := 30) rfl))) Via.refl F_a1_low d8_51 ?_
  intro T X
  refine r_iloadN 55 X d8_54 rfl ?_
  refine r_iaload 56 X A_la (i := 0) (v := (.int (fl 0))) (by decide) (by decide) rfl d8_55 ?_
  refine r_i2l 57 X d8_56 ?_
  refine r_lsub 58 X d8_57 ?_
  refine r_aloadN 59 X d8_58 rfl rfl ?_
  refine r_getfield 62 X (host := "") (Or.inl (hw _ (List.mem_of_getElem? (i := 34) rfl))) Via.refl F_a1_shift d8_59 ?_
  intro T X
  refine r_iloadN 63 X d8_62 rfl ?_
  refine r_iaload 64 X A_sa (i := 0) (v := (.int (0 : Int32))) (by decide) (by decide) rfl d8_63 ?_
  refine r_lshl 65 X d8_64 ?_
  refine r_topJ (x' := (fldS (fv 0) (fl 0) (0 : Int32))) rfl ?_
  refine r_lor 66 X d8_65 ?_
  refine r_lastore 67 X A_ka (i := 0) (v := (.long ((0 : Int64) ||| (fldS (fv 0) (fl 0) (0 : Int32))))) (by decide) (by decide) rfl gka d8_66 ?_
  intro T h3 W3 X
  have K := K.wr W3 (Or.inl (List.mem_of_getElem? (i := 1) rfl))
  have E_a1 := E_a1.wr W3
  have F_a1_low := F_a1_low.other W3 (Or.inl ne_a1_ka)
  have F_a1_word := F_a1_word.other W3 (Or.inl ne_a1_ka)
  have F_a1_shift := F_a1_shift.other W3 (Or.inl ne_a1_ka)
  have F_a1_mask := F_a1_mask.other W3 (Or.inl ne_a1_ka)
  have F_a1_key := F_a1_key.other W3 (Or.inl ne_a1_ka)
  have F_a1_packed := F_a1_packed.other W3 (Or.inl ne_a1_ka)
  have F_a1_table := F_a1_table.other W3 (Or.inl ne_a1_ka)
  have F_a1_words := F_a1_words.other W3 (Or.inl ne_a1_ka)
  have F_a1_count := F_a1_count.other W3 (Or.inl ne_a1_ka)
  have A_la := A_la.other W3 ne_la_ka
  have A_wa := A_wa.other W3 ne_wa_ka
  have A_sa := A_sa.other W3 ne_sa_ka
  have A_ma := A_ma.other W3 ne_ma_ka
  have A_ka := A_ka.setJ W3
  have A_pa := A_pa.other W3 (Ne.symm ne_ka_pa)
  have A_ta := A_ta.other W3 (Ne.symm ne_ka_ta)
  have A_a2 := A_a2.other W3 (Ne.symm ne_ka_a2)
  refine r_iinc 70 X (1 : Int32) #[.val (.ref a1), .val (.ref a2), .val (.int (1 : Int32))] d8_67 rfl rfl rfl ?_
  refine r_goto 25 X d8_70 ?_
  refine r_iloadN 26 X d8_25 rfl ?_
  refine r_aloadN 27 X d8_26 rfl rfl ?_
  refine r_getfield 30 X (host := "") (Or.inl (hw _ (List.mem_of_getElem? (i := 30) rfl))) Via.refl F_a1_low d8_27 ?_
  intro T X
  refine r_arraylength 31 X A_la (3 : Int32) (by decide) d8_30 ?_
  refine r_icmpN 34 X d8_31 (tlt (by decide)).2.1 ?_
  refine r_aloadN 35 X d8_34 rfl rfl ?_
  refine r_getfield 38 X (host := "") (Or.inl (hw _ (List.mem_of_getElem? (i := 50) rfl))) Via.refl F_a1_key d8_35 ?_
  intro T X
  refine r_aloadN 39 X d8_38 rfl rfl ?_
  refine r_getfield 42 X (host := "") (Or.inl (hw _ (List.mem_of_getElem? (i := 32) rfl))) Via.refl F_a1_word d8_39 ?_
  intro T X
  refine r_iloadN 43 X d8_42 rfl ?_
  refine r_iaload 44 X A_wa (i := 1) (v := (.int (0 : Int32))) (by decide) (by decide) rfl d8_43 ?_
  refine r_dup2_2 45 X d8_44 rfl rfl ?_
  refine r_laload 46 X A_ka (i := 0) (v := (.long ((0 : Int64) ||| (fldS (fv 0) (fl 0) (0 : Int32))))) (by decide) (by decide) rfl d8_45 ?_
  refine r_aloadN 47 X d8_46 rfl rfl ?_
  refine r_iloadN 48 X d8_47 rfl ?_
  refine r_iaload 49 X A_a2 (i := 1) (v := (.int (fv 1))) (by decide) (by decide) rfl d8_48 ?_
  refine r_i2l 50 X d8_49 ?_
  refine r_aloadN 51 X d8_50 rfl rfl ?_
  refine r_getfield 54 X (host := "") (Or.inl (hw _ (List.mem_of_getElem? (i := 30) rfl))) Via.refl F_a1_low d8_51 ?_
  intro T X
  refine r_iloadN 55 X d8_54 rfl ?_
  refine r_iaload 56 X A_la (i := 1) (v := (.int (fl 1))) (by decide) (by decide) rfl d8_55 ?_
  refine r_i2l 57 X d8_56 ?_
  refine r_lsub 58 X d8_57 ?_
  refine r_aloadN 59 X d8_58 rfl rfl ?_
  refine r_getfield 62 X (host := "") (Or.inl (hw _ (List.mem_of_getElem? (i := 34) rfl))) Via.refl F_a1_shift d8_59 ?_
  intro T X
  refine r_iloadN 63 X d8_62 rfl ?_
  refine r_iaload 64 X A_sa (i := 1) (v := (.int u1)) (by decide) (by decide) rfl d8_63 ?_
  refine r_lshl 65 X d8_64 ?_
  refine r_topJ (x' := (fldS (fv 1) (fl 1) u1)) rfl ?_
  refine r_lor 66 X d8_65 ?_
  refine r_lastore 67 X A_ka (i := 0) (v := (.long (((0 : Int64) ||| (fldS (fv 0) (fl 0) (0 : Int32))) ||| (fldS (fv 1) (fl 1) u1)))) (by decide) (by decide) rfl gka d8_66 ?_
  intro T h4 W4 X
  have K := K.wr W4 (Or.inl (List.mem_of_getElem? (i := 1) rfl))
  have E_a1 := E_a1.wr W4
  have F_a1_low := F_a1_low.other W4 (Or.inl ne_a1_ka)
  have F_a1_word := F_a1_word.other W4 (Or.inl ne_a1_ka)
  have F_a1_shift := F_a1_shift.other W4 (Or.inl ne_a1_ka)
  have F_a1_mask := F_a1_mask.other W4 (Or.inl ne_a1_ka)
  have F_a1_key := F_a1_key.other W4 (Or.inl ne_a1_ka)
  have F_a1_packed := F_a1_packed.other W4 (Or.inl ne_a1_ka)
  have F_a1_table := F_a1_table.other W4 (Or.inl ne_a1_ka)
  have F_a1_words := F_a1_words.other W4 (Or.inl ne_a1_ka)
  have F_a1_count := F_a1_count.other W4 (Or.inl ne_a1_ka)
  have A_la := A_la.other W4 ne_la_ka
  have A_wa := A_wa.other W4 ne_wa_ka
  have A_sa := A_sa.other W4 ne_sa_ka
  have A_ma := A_ma.other W4 ne_ma_ka
  have A_ka := A_ka.setJ W4
  have A_pa := A_pa.other W4 (Ne.symm ne_ka_pa)
  have A_ta := A_ta.other W4 (Ne.symm ne_ka_ta)
  have A_a2 := A_a2.other W4 (Ne.symm ne_ka_a2)
  refine r_iinc 70 X (1 : Int32) #[.val (.ref a1), .val (.ref a2), .val (.int (2 : Int32))] d8_67 rfl rfl rfl ?_
  refine r_goto 25 X d8_70 ?_
  refine r_iloadN 26 X d8_25 rfl ?_
  refine r_aloadN 27 X d8_26 rfl rfl ?_
  refine r_getfield 30 X (host := "") (Or.inl (hw _ (List.mem_of_getElem? (i := 30) rfl))) Via.refl F_a1_low d8_27 ?_
  intro T X
  refine r_arraylength 31 X A_la (3 : Int32) (by decide) d8_30 ?_
  refine r_icmpN 34 X d8_31 (tlt (by decide)).2.1 ?_
  refine r_aloadN 35 X d8_34 rfl rfl ?_
  refine r_getfield 38 X (host := "") (Or.inl (hw _ (List.mem_of_getElem? (i := 50) rfl))) Via.refl F_a1_key d8_35 ?_
  intro T X
  refine r_aloadN 39 X d8_38 rfl rfl ?_
  refine r_getfield 42 X (host := "") (Or.inl (hw _ (List.mem_of_getElem? (i := 32) rfl))) Via.refl F_a1_word d8_39 ?_
  intro T X
  refine r_iloadN 43 X d8_42 rfl ?_
  refine r_iaload 44 X A_wa (i := 2) (v := (.int (1 : Int32))) (by decide) (by decide) rfl d8_43 ?_
  refine r_dup2_2 45 X d8_44 rfl rfl ?_
  refine r_laload 46 X A_ka (i := 1) (v := (.long (0 : Int64))) (by decide) (by decide) rfl d8_45 ?_
  refine r_aloadN 47 X d8_46 rfl rfl ?_
  refine r_iloadN 48 X d8_47 rfl ?_
  refine r_iaload 49 X A_a2 (i := 2) (v := (.int (fv 2))) (by decide) (by decide) rfl d8_48 ?_
  refine r_i2l 50 X d8_49 ?_
  refine r_aloadN 51 X d8_50 rfl rfl ?_
  refine r_getfield 54 X (host := "") (Or.inl (hw _ (List.mem_of_getElem? (i := 30) rfl))) Via.refl F_a1_low d8_51 ?_
  intro T X
  refine r_iloadN 55 X d8_54 rfl ?_
  refine r_iaload 56 X A_la (i := 2) (v := (.int (fl 2))) (by decide) (by decide) rfl d8_55 ?_
  refine r_i2l 57 X d8_56 ?_
  refine r_lsub 58 X d8_57 ?_
  refine r_aloadN 59 X d8_58 rfl rfl ?_
  refine r_getfield 62 X (host := "") (Or.inl (hw _ (List.mem_of_getElem? (i := 34) rfl))) Via.refl F_a1_shift d8_59 ?_
  intro T X
  refine r_iloadN 63 X d8_62 rfl ?_
  refine r_iaload 64 X A_sa (i := 2) (v := (.int (0 : Int32))) (by decide) (by decide) rfl d8_63 ?_
  refine r_lshl 65 X d8_64 ?_
  refine r_topJ (x' := (fldS (fv 2) (fl 2) (0 : Int32))) rfl ?_
  refine r_lor 66 X d8_65 ?_
  refine r_lastore 67 X A_ka (i := 1) (v := (.long ((0 : Int64) ||| (fldS (fv 2) (fl 2) (0 : Int32))))) (by decide) (by decide) rfl gka d8_66 ?_
  intro T h5 W5 X
  have K := K.wr W5 (Or.inl (List.mem_of_getElem? (i := 1) rfl))
  have E_a1 := E_a1.wr W5
  have F_a1_low := F_a1_low.other W5 (Or.inl ne_a1_ka)
  have F_a1_word := F_a1_word.other W5 (Or.inl ne_a1_ka)
  have F_a1_shift := F_a1_shift.other W5 (Or.inl ne_a1_ka)
  have F_a1_mask := F_a1_mask.other W5 (Or.inl ne_a1_ka)
  have F_a1_key := F_a1_key.other W5 (Or.inl ne_a1_ka)
  have F_a1_packed := F_a1_packed.other W5 (Or.inl ne_a1_ka)
  have F_a1_table := F_a1_table.other W5 (Or.inl ne_a1_ka)
  have F_a1_words := F_a1_words.other W5 (Or.inl ne_a1_ka)
  have F_a1_count := F_a1_count.other W5 (Or.inl ne_a1_ka)
  have A_la := A_la.other W5 ne_la_ka
  have A_wa := A_wa.other W5 ne_wa_ka
  have A_sa := A_sa.other W5 ne_sa_ka
  have A_ma := A_ma.other W5 ne_ma_ka
  have A_ka := A_ka.setJ W5
  have A_pa := A_pa.other W5 (Ne.symm ne_ka_pa)
  have A_ta := A_ta.other W5 (Ne.symm ne_ka_ta)
  have A_a2 := A_a2.other W5 (Ne.symm ne_ka_a2)
  refine r_iinc 70 X (1 : Int32) #[.val (.ref a1), .val (.ref a2), .val (.int (3 : Int32))] d8_67 rfl rfl rfl ?_
  refine r_goto 25 X d8_70 ?_
  refine r_iloadN 26 X d8_25 rfl ?_
  refine r_aloadN 27 X d8_26 rfl rfl ?_
  refine r_getfield 30 X (host := "") (Or.inl (hw _ (List.mem_of_getElem? (i := 30) rfl))) Via.refl F_a1_low d8_27 ?_
  intro T X
  refine r_arraylength 31 X A_la (3 : Int32) (by decide) d8_30 ?_
  refine r_icmpY 73 X d8_31 (flt (by decide)).2.1 ?_
  refine r_aloadN 74 X d8_73 rfl rfl ?_
  refine r_aloadN 75 X d8_74 rfl rfl ?_
  refine r_aloadN 76 X d8_75 rfl rfl ?_
  refine r_getfield 79 X (host := "") (Or.inl (hw _ (List.mem_of_getElem? (i := 50) rfl))) Via.refl F_a1_key d8_76 ?_
  intro T X
  refine r_iconst 80 X (0 : Int32) d8_79 rfl ?_
  refine r_private 83 X (st := [(.ref a1)]) (a := a1) (rmHa1 l Z a0 hw n0 _ X.sz a1 ka (updJ (updJ (updJ (updJ (updJ fk 0 (0 : Int64)) 1 (0 : Int64)) 0 ((0 : Int64) ||| (fldS (fv 0) (fl 0) (0 : Int32)))) 0 (((0 : Int64) ||| (fldS (fv 0) (fl 0) (0 : Int32))) ||| (fldS (fv 1) (fl 1) u1))) 1 ((0 : Int64) ||| (fldS (fv 2) (fl 2) (0 : Int32)))) E_a1 F_a1_words A_ka) E_a1 (hw _ (List.mem_of_getElem? (i := 61) rfl)) (hw _ (List.mem_of_getElem? (i := 62) rfl)) (hw _ (List.mem_of_getElem? (i := 13) rfl)) (hw _ (List.mem_of_getElem? (i := 63) rfl)) (hw _ (List.mem_of_getElem? (i := 64) rfl)) (hw _ (List.mem_of_getElem? (i := 14) rfl)) (by decide) pd_3 [(.ref ka), (.int (0 : Int32))] rfl rfl 1 (Nat.le_of_eq rfl) rfl (by decide) (by decide) (by decide) (by decide) d8_80 ?_
  rintro T h6 v6 ⟨r6, rfl, rfl⟩ X
  change Run _ _ _ _ _ _ _ _ [(.long r6), (.ref a1)]
  refine r_private 86 X (st := []) (a := a1) (rmSl l Z a0 hw n0 _ X.sz a1 ta _ r6 E_a1 F_a1_table A_ta) E_a1 (hw _ (List.mem_of_getElem? (i := 66) rfl)) (hw _ (List.mem_of_getElem? (i := 67) rfl)) (hw _ (List.mem_of_getElem? (i := 13) rfl)) (hw _ (List.mem_of_getElem? (i := 68) rfl)) (hw _ (List.mem_of_getElem? (i := 69) rfl)) (hw _ (List.mem_of_getElem? (i := 14) rfl)) (by decide) pd_2 [(.long r6)] rfl rfl 0 (Nat.le_of_eq rfl) rfl (by decide) (by decide) (by decide) (by decide) d8_83 ?_
  rintro T h7 v7 ⟨sl, ks, rfl, hks, hks64, rfl⟩ X
  change Run _ _ _ _ _ _ _ _ [(.int sl)]
  refine r_istoreN 87 X #[.val (.ref a1), .val (.ref a2), .val (.int sl)] d8_86 rfl ?_
  refine r_aloadN 88 X d8_87 rfl rfl ?_
  refine r_getfield 91 X (host := "") (Or.inl (hw _ (List.mem_of_getElem? (i := 54) rfl))) Via.refl F_a1_table d8_88 ?_
  intro T X
  refine r_iloadN 92 X d8_91 rfl ?_
  refine r_iaload 93 X A_ta (i := ks) (v := (.int (0 : Int32))) hks hks64 rfl d8_92 ?_
  refine r_ifY 135 X d8_93 ((if0 _ _).trans (teq (by decide)).1) ?_
  refine r_aloadN 136 X d8_135 rfl rfl ?_
  refine r_getfield 139 X (host := "") (Or.inl (hw _ (List.mem_of_getElem? (i := 73) rfl))) Via.refl F_a1_count d8_136 ?_
  intro T X
  refine r_ldcInt 141 X (hw _ (List.mem_of_getElem? (i := 75) rfl)) d8_139 ?_
  refine r_icmpN 144 X d8_141 (feq (by decide)).1 ?_
  refine r_aloadN 145 X d8_144 rfl rfl ?_
  refine r_getfield 148 X (host := "") (Or.inl (hw _ (List.mem_of_getElem? (i := 73) rfl))) Via.refl F_a1_count d8_145 ?_
  intro T X
  refine r_iconst 149 X (1 : Int32) d8_148 rfl ?_
  refine r_iadd 150 X d8_149 ?_
  refine r_topI (x' := (1 : Int32)) (by decide) ?_
  refine r_i2l 151 X d8_150 ?_
  refine r_topJ (x' := (1 : Int64)) (by decide) ?_
  refine r_aloadN 152 X d8_151 rfl rfl ?_
  refine r_getfield 155 X (host := "") (Or.inl (hw _ (List.mem_of_getElem? (i := 48) rfl))) Via.refl F_a1_words d8_152 ?_
  intro T X
  refine r_i2l 156 X d8_155 ?_
  refine r_topJ (x' := (2 : Int64)) (by decide) ?_
  refine r_lmul 157 X d8_156 ?_
  refine r_topJ (x' := (2 : Int64)) (by decide) ?_
  refine r_ldc2Long 160 X (hw _ (List.mem_of_getElem? (i := 76) rfl)) d8_157 ?_
  refine r_lcmp 161 X d8_160 ?_
  refine r_ifY 181 X d8_161 ((if0 _ _).trans (flt (fun q => (show ¬ ((2147483639 : Int64) < (2 : Int64)) by decide) ((lw_gt _ _).mp q))).2.2.2) ?_
  refine r_aloadN 182 X d8_181 rfl rfl ?_
  refine r_getfield 185 X (host := "") (Or.inl (hw _ (List.mem_of_getElem? (i := 73) rfl))) Via.refl F_a1_count d8_182 ?_
  intro T X
  refine r_iconst 186 X (1 : Int32) d8_185 rfl ?_
  refine r_iadd 187 X d8_186 ?_
  refine r_topI (x' := (1 : Int32)) (by decide) ?_
  refine r_aloadN 188 X d8_187 rfl rfl ?_
  refine r_getfield 191 X (host := "") (Or.inl (hw _ (List.mem_of_getElem? (i := 48) rfl))) Via.refl F_a1_words d8_188 ?_
  intro T X
  refine r_imul 192 X d8_191 ?_
  refine r_topI (x' := (2 : Int32)) (by decide) ?_
  refine r_aloadN 193 X d8_192 rfl rfl ?_
  refine r_getfield 196 X (host := "") (Or.inl (hw _ (List.mem_of_getElem? (i := 52) rfl))) Via.refl F_a1_packed d8_193 ?_
  intro T X
  refine r_arraylength 197 X A_pa (32 : Int32) (by decide) d8_196 ?_
  refine r_icmpY 228 X d8_197 (flt (by decide)).2.2.2 ?_
  refine r_aloadN 229 X d8_228 rfl rfl ?_
  refine r_getfield 232 X (host := "") (Or.inl (hw _ (List.mem_of_getElem? (i := 50) rfl))) Via.refl F_a1_key d8_229 ?_
  intro T X
  refine r_iconst 233 X (0 : Int32) d8_232 rfl ?_
  refine r_aloadN 234 X d8_233 rfl rfl ?_
  refine r_getfield 237 X (host := "") (Or.inl (hw _ (List.mem_of_getElem? (i := 52) rfl))) Via.refl F_a1_packed d8_234 ?_
  intro T X
  refine r_aloadN 238 X d8_237 rfl rfl ?_
  refine r_getfield 241 X (host := "") (Or.inl (hw _ (List.mem_of_getElem? (i := 73) rfl))) Via.refl F_a1_count d8_238 ?_
  intro T X
  refine r_aloadN 242 X d8_241 rfl rfl ?_
  refine r_getfield 245 X (host := "") (Or.inl (hw _ (List.mem_of_getElem? (i := 48) rfl))) Via.refl F_a1_words d8_242 ?_
  intro T X
  refine r_imul 246 X d8_245 ?_
  refine r_topI (x' := (0 : Int32)) (by decide) ?_
  refine r_aloadN 247 X d8_246 rfl rfl ?_
  refine r_getfield 250 X (host := "") (Or.inl (hw _ (List.mem_of_getElem? (i := 48) rfl))) Via.refl F_a1_words d8_247 ?_
  intro T X
  refine r_arraycopy 253 X (st := []) (hw _ (List.mem_of_getElem? (i := 77) rfl)) (hw _ (List.mem_of_getElem? (i := 80) rfl)) (hw _ (List.mem_of_getElem? (i := 78) rfl)) (hw _ (List.mem_of_getElem? (i := 79) rfl)) A_ka A_pa rfl (fun _ _ => rfl) (fun _ _ => rfl) (i1 := 0) (i2 := 0) (k := 2) (by decide) (by decide) (by decide) (by decide) (by decide) gpa 0 (Nat.le_of_eq rfl) rfl (by decide) (by decide) d8_250 ?_
  intro T h8 K8 A8 X
  have K := K.trans K8 (allS (Or.inl (List.mem_of_getElem? (i := 2) rfl)) all0)
  have E_a1 := E_a1.keep K8
  have F_a1_low := F_a1_low.keep K8 (ninS ne_a1_pa nin0)
  have F_a1_word := F_a1_word.keep K8 (ninS ne_a1_pa nin0)
  have F_a1_shift := F_a1_shift.keep K8 (ninS ne_a1_pa nin0)
  have F_a1_mask := F_a1_mask.keep K8 (ninS ne_a1_pa nin0)
  have F_a1_key := F_a1_key.keep K8 (ninS ne_a1_pa nin0)
  have F_a1_packed := F_a1_packed.keep K8 (ninS ne_a1_pa nin0)
  have F_a1_table := F_a1_table.keep K8 (ninS ne_a1_pa nin0)
  have F_a1_words := F_a1_words.keep K8 (ninS ne_a1_pa nin0)
  have F_a1_count := F_a1_count.keep K8 (ninS ne_a1_pa nin0)
  have A_la := A_la.keep K8 (ninS ne_la_pa nin0)
  have A_wa := A_wa.keep K8 (ninS ne_wa_pa nin0)
  have A_sa := A_sa.keep K8 (ninS ne_sa_pa nin0)
  have A_ma := A_ma.keep K8 (ninS ne_ma_pa nin0)
  have A_ka := A_ka.keep K8 (ninS ne_ka_pa nin0)
  have A_ta := A_ta.keep K8 (ninS (Ne.symm ne_pa_ta) nin0)
  have A_a2 := A_a2.keep K8 (ninS (Ne.symm ne_pa_a2) nin0)
  have A_pa : AF Z h8 pa .long 32 (fun j => .long ((updJ (updJ fp 0 (((0 : Int64) ||| (fldS (fv 0) (fl 0) (0 : Int32))) ||| (fldS (fv 1) (fl 1) u1))) 1 ((0 : Int64) ||| (fldS (fv 2) (fl 2) (0 : Int32)))) j)) := A8.congr fun j _ => own_cp2 _ _ _ _ _
  refine r_aloadN 254 X d8_253 rfl rfl ?_
  refine r_getfield 257 X (host := "") (Or.inl (hw _ (List.mem_of_getElem? (i := 54) rfl))) Via.refl F_a1_table d8_254 ?_
  intro T X
  refine r_iloadN 258 X d8_257 rfl ?_
  refine r_aloadN 259 X d8_258 rfl rfl ?_
  refine r_getfield 262 X (host := "") (Or.inl (hw _ (List.mem_of_getElem? (i := 73) rfl))) Via.refl F_a1_count d8_259 ?_
  intro T X
  refine r_iconst 263 X (1 : Int32) d8_262 rfl ?_
  refine r_iadd 264 X d8_263 ?_
  refine r_topI (x' := (1 : Int32)) (by decide) ?_
  refine r_iastore 265 X A_ta (i := ks) (v := (.int (1 : Int32))) hks hks64 rfl gta d8_264 ?_
  intro T h9 W9 X
  have K := K.wr W9 (Or.inl (List.mem_of_getElem? (i := 3) rfl))
  have E_a1 := E_a1.wr W9
  have F_a1_low := F_a1_low.other W9 (Or.inl ne_a1_ta)
  have F_a1_word := F_a1_word.other W9 (Or.inl ne_a1_ta)
  have F_a1_shift := F_a1_shift.other W9 (Or.inl ne_a1_ta)
  have F_a1_mask := F_a1_mask.other W9 (Or.inl ne_a1_ta)
  have F_a1_key := F_a1_key.other W9 (Or.inl ne_a1_ta)
  have F_a1_packed := F_a1_packed.other W9 (Or.inl ne_a1_ta)
  have F_a1_table := F_a1_table.other W9 (Or.inl ne_a1_ta)
  have F_a1_words := F_a1_words.other W9 (Or.inl ne_a1_ta)
  have F_a1_count := F_a1_count.other W9 (Or.inl ne_a1_ta)
  have A_la := A_la.other W9 ne_la_ta
  have A_wa := A_wa.other W9 ne_wa_ta
  have A_sa := A_sa.other W9 ne_sa_ta
  have A_ma := A_ma.other W9 ne_ma_ta
  have A_ka := A_ka.other W9 ne_ka_ta
  have A_ta := A_ta.setI W9
  have A_a2 := A_a2.other W9 (Ne.symm ne_ta_a2)
  have A_pa := A_pa.other W9 ne_pa_ta
  refine r_aloadN 266 X d8_265 rfl rfl ?_
  refine r_dup 267 X d8_266 rfl ?_
  refine r_getfield 270 X (host := "") (Or.inl (hw _ (List.mem_of_getElem? (i := 73) rfl))) Via.refl F_a1_count d8_267 ?_
  intro T X
  refine r_iconst 271 X (1 : Int32) d8_270 rfl ?_
  refine r_iadd 272 X d8_271 ?_
  refine r_topI (x' := (1 : Int32)) (by decide) ?_
  refine r_putfield 275 X (host := "") (Or.inl (hw _ (List.mem_of_getElem? (i := 73) rfl))) Via.refl F_a1_count E_a1 (Or.inl (hw _ (List.mem_of_getElem? (i := 74) rfl))) (hw _ (List.mem_of_getElem? (i := 13) rfl)) (ty := .int) (by decide) rfl rfl ga1 d8_272 ?_
  intro T h10 W10 X
  have K := K.wr W10 (Or.inl (List.mem_of_getElem? (i := 0) rfl))
  have E_a1 := E_a1.wr W10
  have F_a1_low := F_a1_low.other W10 (Or.inr (slot_ne (Or.inr (hw _ (List.mem_of_getElem? (i := 31) rfl))) (Or.inl (hw _ (List.mem_of_getElem? (i := 74) rfl))) (by decide) (t := (.array .int)) (t' := .int) (by decide) (by decide)))
  have F_a1_word := F_a1_word.other W10 (Or.inr (slot_ne (Or.inr (hw _ (List.mem_of_getElem? (i := 33) rfl))) (Or.inl (hw _ (List.mem_of_getElem? (i := 74) rfl))) (by decide) (t := (.array .int)) (t' := .int) (by decide) (by decide)))
  have F_a1_shift := F_a1_shift.other W10 (Or.inr (slot_ne (Or.inr (hw _ (List.mem_of_getElem? (i := 35) rfl))) (Or.inl (hw _ (List.mem_of_getElem? (i := 74) rfl))) (by decide) (t := (.array .int)) (t' := .int) (by decide) (by decide)))
  have F_a1_mask := F_a1_mask.other W10 (Or.inr (slot_ne (Or.inr (hw _ (List.mem_of_getElem? (i := 38) rfl))) (Or.inl (hw _ (List.mem_of_getElem? (i := 74) rfl))) (by decide) (t := (.array .long)) (t' := .int) (by decide) (by decide)))
  have F_a1_key := F_a1_key.other W10 (Or.inr (slot_ne (Or.inr (hw _ (List.mem_of_getElem? (i := 51) rfl))) (Or.inl (hw _ (List.mem_of_getElem? (i := 74) rfl))) (by decide) (t := (.array .long)) (t' := .int) (by decide) (by decide)))
  have F_a1_packed := F_a1_packed.other W10 (Or.inr (slot_ne (Or.inl (hw _ (List.mem_of_getElem? (i := 53) rfl))) (Or.inl (hw _ (List.mem_of_getElem? (i := 74) rfl))) (by decide) (t := (.array .long)) (t' := .int) (by decide) (by decide)))
  have F_a1_table := F_a1_table.other W10 (Or.inr (slot_ne (Or.inl (hw _ (List.mem_of_getElem? (i := 55) rfl))) (Or.inl (hw _ (List.mem_of_getElem? (i := 74) rfl))) (by decide) (t := (.array .int)) (t' := .int) (by decide) (by decide)))
  have F_a1_words := F_a1_words.other W10 (Or.inr (slot_ne (Or.inr (hw _ (List.mem_of_getElem? (i := 49) rfl))) (Or.inl (hw _ (List.mem_of_getElem? (i := 74) rfl))) (by decide) (t := .int) (t' := .int) (by decide) (by decide)))
  have F_a1_count := F_a1_count.same W10
  have A_la := A_la.other W10 (Ne.symm ne_a1_la)
  have A_wa := A_wa.other W10 (Ne.symm ne_a1_wa)
  have A_sa := A_sa.other W10 (Ne.symm ne_a1_sa)
  have A_ma := A_ma.other W10 (Ne.symm ne_a1_ma)
  have A_ka := A_ka.other W10 (Ne.symm ne_a1_ka)
  have A_ta := A_ta.other W10 (Ne.symm ne_a1_ta)
  have A_a2 := A_a2.other W10 (Ne.symm ne_a1_a2)
  have A_pa := A_pa.other W10 (Ne.symm ne_a1_pa)
  refine r_aloadN 276 X d8_275 rfl rfl ?_
  refine r_getfield 279 X (host := "") (Or.inl (hw _ (List.mem_of_getElem? (i := 73) rfl))) Via.refl F_a1_count d8_276 ?_
  intro T X
  refine r_aloadN 280 X d8_279 rfl rfl ?_
  refine r_getfield 283 X (host := "") (Or.inl (hw _ (List.mem_of_getElem? (i := 54) rfl))) Via.refl F_a1_table d8_280 ?_
  intro T X
  refine r_arraylength 284 X A_ta (64 : Int32) (by decide) d8_283 ?_
  refine r_iconst 285 X (2 : Int32) d8_284 rfl ?_
  refine r_idiv 286 X d8_285 (by decide) ?_
  refine r_topI (x' := (32 : Int32)) (by decide) ?_
  refine r_icmpY 293 X d8_286 (flt (by decide)).2.2.2 ?_
  refine r_aloadN 294 X d8_293 rfl rfl ?_
  refine r_getfield 297 X (host := "") (Or.inl (hw _ (List.mem_of_getElem? (i := 73) rfl))) Via.refl F_a1_count d8_294 ?_
  intro T X
  refine r_iconst 298 X (1 : Int32) d8_297 rfl ?_
  refine r_isub 299 X d8_298 ?_
  refine r_topI (x' := (0 : Int32)) (by decide) ?_
  refine r_retI X d8_299 (by decide) (by decide) ?_
  exact ⟨rfl, K, F_a1_low, F_a1_word, F_a1_shift, F_a1_mask, F_a1_key, F_a1_packed, F_a1_table, F_a1_words, F_a1_count, ⟨_, A_ka⟩, ⟨_, A_pa, rfl, rfl⟩, _, A_ta⟩
set_option maxRecDepth 65536 in
set_option maxHeartbeats 40000000 in
theorem rmAd11 (l : Launch) (Z : State) (a0 : Array Value) (hw : ∀ d ∈ tables_1, d.before a0 Z = true) (n0 : Nat) (h : Heap) (Z0 : n0 ≤ h.size) (a1 la wa sa ma ka pa ta a2 : Addr) (fl fv : Nat → Int32) (u1 : Int32) (m0 m1 m2 : Int64) (fk fp : Nat → Int64) (k0 : Nat) (wA0 wA1 : Int64) (ga1 : n0 ≤ a1) (gka : n0 ≤ ka) (gpa : n0 ≤ pa) (gta : n0 ≤ ta) (ne_a1_la : a1 ≠ la) (ne_a1_wa : a1 ≠ wa) (ne_a1_sa : a1 ≠ sa) (ne_a1_ma : a1 ≠ ma) (ne_a1_ka : a1 ≠ ka) (ne_a1_pa : a1 ≠ pa) (ne_a1_ta : a1 ≠ ta) (ne_a1_a2 : a1 ≠ a2) (ne_la_ka : la ≠ ka) (ne_la_pa : la ≠ pa) (ne_la_ta : la ≠ ta) (ne_wa_ka : wa ≠ ka) (ne_wa_pa : wa ≠ pa) (ne_wa_ta : wa ≠ ta) (ne_sa_ka : sa ≠ ka) (ne_sa_pa : sa ≠ pa) (ne_sa_ta : sa ≠ ta) (ne_ma_ka : ma ≠ ka) (ne_ma_pa : ma ≠ pa) (ne_ma_ta : ma ≠ ta) (ne_ka_pa : ka ≠ pa) (ne_ka_ta : ka ≠ ta) (ne_ka_a2 : ka ≠ a2) (ne_pa_ta : pa ≠ ta) (ne_pa_a2 : pa ≠ a2) (ne_ta_a2 : ta ≠ a2) (hA0 : fp 0 = wA0) (hA1 : fp 1 = wA1) (E_a1 : Exa Z h a1 "com/example/heliotrope/heliotrope/language/StateStore") (F_a1_low : Fld Z h a1 "com/example/heliotrope/heliotrope/language/StateStore" "low" "[I" (.ref la)) (F_a1_word : Fld Z h a1 "com/example/heliotrope/heliotrope/language/StateStore" "word" "[I" (.ref wa)) (F_a1_shift : Fld Z h a1 "com/example/heliotrope/heliotrope/language/StateStore" "shift" "[I" (.ref sa)) (F_a1_mask : Fld Z h a1 "com/example/heliotrope/heliotrope/language/StateStore" "mask" "[J" (.ref ma)) (F_a1_key : Fld Z h a1 "com/example/heliotrope/heliotrope/language/StateStore" "key" "[J" (.ref ka)) (F_a1_packed : Fld Z h a1 "com/example/heliotrope/heliotrope/language/StateStore" "packed" "[J" (.ref pa)) (F_a1_table : Fld Z h a1 "com/example/heliotrope/heliotrope/language/StateStore" "table" "[I" (.ref ta)) (F_a1_words : Fld Z h a1 "com/example/heliotrope/heliotrope/language/StateStore" "words" "I" (.int (2 : Int32))) (F_a1_count : Fld Z h a1 "com/example/heliotrope/heliotrope/language/StateStore" "count" "I" (.int (1 : Int32))) (A_la : AF Z h la .int 3 (fun j => .int (fl j))) (A_wa : AF Z h wa .int 3 (fun j => .int ((updI (updI (updI (fun _ => (0 : Int32)) 0 (0 : Int32)) 1 (0 : Int32)) 2 (1 : Int32)) j))) (A_sa : AF Z h sa .int 3 (fun j => .int ((updI (updI (updI (fun _ => (0 : Int32)) 0 (0 : Int32)) 1 u1) 2 (0 : Int32)) j))) (A_ma : AF Z h ma .long 3 (fun j => .long ((updJ (updJ (updJ (fun _ => (0 : Int64)) 0 m0) 1 m1) 2 m2) j))) (A_ka : AF Z h ka .long 2 (fun j => .long (fk j))) (A_pa : AF Z h pa .long 32 (fun j => .long (fp j))) (A_ta : AF Z h ta .int 64 (fun j => .int ((updI (fun _ => (0 : Int32)) k0 (1 : Int32)) j))) (A_a2 : AF Z h a2 .int 3 (fun j => .int (fv j))) :
    Met1 l Z n0 [] (⟨"com/example/heliotrope/heliotrope/language/StateStore", "add", "([I)I"⟩ : MethodName) prog_47_method_3_code 3 (some .int) ({ frames := 2, cells := 0, slots := 0, locals := 30 } : Room) #[(.ref a1), (.ref a2)] h (fun v h' => ∃ (r : Int32) (kb : Nat), v = some (.int r) ∧ r.toInt = (kb : Int) ∧ kb ≤ 1 ∧ Keep h h' [a1, ka, pa, ta] ∧ Fld Z h' a1 "com/example/heliotrope/heliotrope/language/StateStore" "low" "[I" (.ref la) ∧ Fld Z h' a1 "com/example/heliotrope/heliotrope/language/StateStore" "word" "[I" (.ref wa) ∧ Fld Z h' a1 "com/example/heliotrope/heliotrope/language/StateStore" "shift" "[I" (.ref sa) ∧ Fld Z h' a1 "com/example/heliotrope/heliotrope/language/StateStore" "mask" "[J" (.ref ma) ∧ Fld Z h' a1 "com/example/heliotrope/heliotrope/language/StateStore" "key" "[J" (.ref ka) ∧ Fld Z h' a1 "com/example/heliotrope/heliotrope/language/StateStore" "packed" "[J" (.ref pa) ∧ Fld Z h' a1 "com/example/heliotrope/heliotrope/language/StateStore" "table" "[I" (.ref ta) ∧ Fld Z h' a1 "com/example/heliotrope/heliotrope/language/StateStore" "words" "I" (.int (2 : Int32)) ∧ ∃ gp : Nat → Int64, AF Z h' pa .long 32 (fun j => .long (gp j)) ∧ gp 0 = wA0 ∧ gp 1 = wA1 ∧ gp (kb * 2 + 0) = (((0 : Int64) ||| (fldS (fv 0) (fl 0) (0 : Int32))) ||| (fldS (fv 1) (fl 1) u1)) ∧ gp (kb * 2 + 1) = ((0 : Int64) ||| (fldS (fv 2) (fl 2) (0 : Int32)))) := by
  refine met_of (plainFor_of_name pn_8) Z0 (fun m => ef_8 m a1 a2) ?_
  intro p e s m below meth c T hs0 X
  have K := Keep.refl h [a1, ka, pa, ta]
  refine r_iconst 1 X (0 : Int32) d8_0 rfl ?_
  refine r_istoreN 2 X #[.val (.ref a1), .val (.ref a2), .val (.int (0 : Int32))] d8_1 rfl ?_
  refine r_iloadN 3 X d8_2 rfl ?_
  refine r_aloadN 4 X d8_3 rfl rfl ?_
  refine r_getfield 7 X (host := "") (Or.inl (hw _ (List.mem_of_getElem? (i := 48) rfl))) Via.refl F_a1_words d8_4 ?_
  intro T X
  refine r_icmpN 10 X d8_7 (tlt (by decide)).2.1 ?_
  refine r_aloadN 11 X d8_10 rfl rfl ?_
  refine r_getfield 14 X (host := "") (Or.inl (hw _ (List.mem_of_getElem? (i := 50) rfl))) Via.refl F_a1_key d8_11 ?_
  intro T X
  refine r_iloadN 15 X d8_14 rfl ?_
  refine r_lconst 16 X (0 : Int64) d8_15 rfl ?_
  refine r_lastore 17 X A_ka (i := 0) (v := (.long (0 : Int64))) (by decide) (by decide) rfl gka d8_16 ?_
  intro T h1 W1 X
  have K := K.wr W1 (Or.inl (List.mem_of_getElem? (i := 1) rfl))
  have E_a1 := E_a1.wr W1
  have F_a1_low := F_a1_low.other W1 (Or.inl ne_a1_ka)
  have F_a1_word := F_a1_word.other W1 (Or.inl ne_a1_ka)
  have F_a1_shift := F_a1_shift.other W1 (Or.inl ne_a1_ka)
  have F_a1_mask := F_a1_mask.other W1 (Or.inl ne_a1_ka)
  have F_a1_key := F_a1_key.other W1 (Or.inl ne_a1_ka)
  have F_a1_packed := F_a1_packed.other W1 (Or.inl ne_a1_ka)
  have F_a1_table := F_a1_table.other W1 (Or.inl ne_a1_ka)
  have F_a1_words := F_a1_words.other W1 (Or.inl ne_a1_ka)
  have F_a1_count := F_a1_count.other W1 (Or.inl ne_a1_ka)
  have A_la := A_la.other W1 ne_la_ka
  have A_wa := A_wa.other W1 ne_wa_ka
  have A_sa := A_sa.other W1 ne_sa_ka
  have A_ma := A_ma.other W1 ne_ma_ka
  have A_ka := A_ka.setJ W1
  have A_pa := A_pa.other W1 (Ne.symm ne_ka_pa)
  have A_ta := A_ta.other W1 (Ne.symm ne_ka_ta)
  have A_a2 := A_a2.other W1 (Ne.symm ne_ka_a2)
  refine r_iinc 20 X (1 : Int32) #[.val (.ref a1), .val (.ref a2), .val (.int (1 : Int32))] d8_17 rfl rfl rfl ?_
  refine r_goto 2 X d8_20 ?_
  refine r_iloadN 3 X d8_2 rfl ?_
  refine r_aloadN 4 X d8_3 rfl rfl ?_
  refine r_getfield 7 X (host := "") (Or.inl (hw _ (List.mem_of_getElem? (i := 48) rfl))) Via.refl F_a1_words d8_4 ?_
  intro T X
  refine r_icmpN 10 X d8_7 (tlt (by decide)).2.1 ?_
  refine r_aloadN 11 X d8_10 rfl rfl ?_
  refine r_getfield 14 X (host := "") (Or.inl (hw _ (List.mem_of_getElem? (i := 50) rfl))) Via.refl F_a1_key d8_11 ?_
  intro T X
  refine r_iloadN 15 X d8_14 rfl ?_
  refine r_lconst 16 X (0 : Int64) d8_15 rfl ?_
  refine r_lastore 17 X A_ka (i := 1) (v := (.long (0 : Int64))) (by decide) (by decide) rfl gka d8_16 ?_
  intro T h2 W2 X
  have K := K.wr W2 (Or.inl (List.mem_of_getElem? (i := 1) rfl))
  have E_a1 := E_a1.wr W2
  have F_a1_low := F_a1_low.other W2 (Or.inl ne_a1_ka)
  have F_a1_word := F_a1_word.other W2 (Or.inl ne_a1_ka)
  have F_a1_shift := F_a1_shift.other W2 (Or.inl ne_a1_ka)
  have F_a1_mask := F_a1_mask.other W2 (Or.inl ne_a1_ka)
  have F_a1_key := F_a1_key.other W2 (Or.inl ne_a1_ka)
  have F_a1_packed := F_a1_packed.other W2 (Or.inl ne_a1_ka)
  have F_a1_table := F_a1_table.other W2 (Or.inl ne_a1_ka)
  have F_a1_words := F_a1_words.other W2 (Or.inl ne_a1_ka)
  have F_a1_count := F_a1_count.other W2 (Or.inl ne_a1_ka)
  have A_la := A_la.other W2 ne_la_ka
  have A_wa := A_wa.other W2 ne_wa_ka
  have A_sa := A_sa.other W2 ne_sa_ka
  have A_ma := A_ma.other W2 ne_ma_ka
  have A_ka := A_ka.setJ W2
  have A_pa := A_pa.other W2 (Ne.symm ne_ka_pa)
  have A_ta := A_ta.other W2 (Ne.symm ne_ka_ta)
  have A_a2 := A_a2.other W2 (Ne.symm ne_ka_a2)
  refine r_iinc 20 X (1 : Int32) #[.val (.ref a1), .val (.ref a2), .val (.int (2 : Int32))] d8_17 rfl rfl rfl ?_
  refine r_goto 2 X d8_20 ?_
  refine r_iloadN 3 X d8_2 rfl ?_
  refine r_aloadN 4 X d8_3 rfl rfl ?_
  refine r_getfield 7 X (host := "") (Or.inl (hw _ (List.mem_of_getElem? (i := 48) rfl))) Via.refl F_a1_words d8_4 ?_
  intro T X
  refine r_icmpY 23 X d8_7 (flt (by decide)).2.1 ?_
  refine r_iconst 24 X (0 : Int32) d8_23 rfl ?_
  refine r_istoreN 25 X #[.val (.ref a1), .val (.ref a2), .val (.int (0 : Int32))] d8_24 rfl ?_
  refine r_iloadN 26 X d8_25 rfl ?_
  refine r_aloadN 27 X d8_26 rfl rfl ?_
  refine r_getfield 30 X (host := "") (Or.inl (hw _ (List.mem_of_getElem? (i := 30) rfl))) Via.refl F_a1_low d8_27 ?_
  intro T X
  refine r_arraylength 31 X A_la (3 : Int32) (by decide) d8_30 ?_
  refine r_icmpN 34 X d8_31 (tlt (by decide)).2.1 ?_
  refine r_aloadN 35 X d8_34 rfl rfl ?_
  refine r_getfield 38 X (host := "") (Or.inl (hw _ (List.mem_of_getElem? (i := 50) rfl))) Via.refl F_a1_key d8_35 ?_
  intro T X
  refine r_aloadN 39 X d8_38 rfl rfl ?_
  refine r_getfield 42 X (host := "") (Or.inl (hw _ (List.mem_of_getElem? (i := 32) rfl))) Via.refl F_a1_word d8_39 ?_
  intro T X
  refine r_iloadN 43 X d8_42 rfl ?_
  refine r_iaload 44 X A_wa (i := 0) (v := (.int (0 : Int32))) (by decide) (by decide) rfl d8_43 ?_
  refine r_dup2_2 45 X d8_44 rfl rfl ?_
  refine r_laload 46 X A_ka (i := 0) (v := (.long (0 : Int64))) (by decide) (by decide) rfl d8_45 ?_
  refine r_aloadN 47 X d8_46 rfl rfl ?_
  refine r_iloadN 48 X d8_47 rfl ?_
  refine r_iaload 49 X A_a2 (i := 0) (v := (.int (fv 0))) (by decide) (by decide) rfl d8_48 ?_
  refine r_i2l 50 X d8_49 ?_
  refine r_aloadN 51 X d8_50 rfl rfl ?_
  refine r_getfield 54 X (host := "") (Or.inl (hw _ (List.mem_of_getElem? (i := 30) rfl))) Via.refl F_a1_low d8_51 ?_
  intro T X
  refine r_iloadN 55 X d8_54 rfl ?_
  refine r_iaload 56 X A_la (i := 0) (v := (.int (fl 0))) (by decide) (by decide) rfl d8_55 ?_
  refine r_i2l 57 X d8_56 ?_
  refine r_lsub 58 X d8_57 ?_
  refine r_aloadN 59 X d8_58 rfl rfl ?_
  refine r_getfield 62 X (host := "") (Or.inl (hw _ (List.mem_of_getElem? (i := 34) rfl))) Via.refl F_a1_shift d8_59 ?_
  intro T X
  refine r_iloadN 63 X d8_62 rfl ?_
  refine r_iaload 64 X A_sa (i := 0) (v := (.int (0 : Int32))) (by decide) (by decide) rfl d8_63 ?_
  refine r_lshl 65 X d8_64 ?_
  refine r_topJ (x' := (fldS (fv 0) (fl 0) (0 : Int32))) rfl ?_
  refine r_lor 66 X d8_65 ?_
  refine r_lastore 67 X A_ka (i := 0) (v := (.long ((0 : Int64) ||| (fldS (fv 0) (fl 0) (0 : Int32))))) (by decide) (by decide) rfl gka d8_66 ?_
  intro T h3 W3 X
  have K := K.wr W3 (Or.inl (List.mem_of_getElem? (i := 1) rfl))
  have E_a1 := E_a1.wr W3
  have F_a1_low := F_a1_low.other W3 (Or.inl ne_a1_ka)
  have F_a1_word := F_a1_word.other W3 (Or.inl ne_a1_ka)
  have F_a1_shift := F_a1_shift.other W3 (Or.inl ne_a1_ka)
  have F_a1_mask := F_a1_mask.other W3 (Or.inl ne_a1_ka)
  have F_a1_key := F_a1_key.other W3 (Or.inl ne_a1_ka)
  have F_a1_packed := F_a1_packed.other W3 (Or.inl ne_a1_ka)
  have F_a1_table := F_a1_table.other W3 (Or.inl ne_a1_ka)
  have F_a1_words := F_a1_words.other W3 (Or.inl ne_a1_ka)
  have F_a1_count := F_a1_count.other W3 (Or.inl ne_a1_ka)
  have A_la := A_la.other W3 ne_la_ka
  have A_wa := A_wa.other W3 ne_wa_ka
  have A_sa := A_sa.other W3 ne_sa_ka
  have A_ma := A_ma.other W3 ne_ma_ka
  have A_ka := A_ka.setJ W3
  have A_pa := A_pa.other W3 (Ne.symm ne_ka_pa)
  have A_ta := A_ta.other W3 (Ne.symm ne_ka_ta)
  have A_a2 := A_a2.other W3 (Ne.symm ne_ka_a2)
  refine r_iinc 70 X (1 : Int32) #[.val (.ref a1), .val (.ref a2), .val (.int (1 : Int32))] d8_67 rfl rfl rfl ?_
  refine r_goto 25 X d8_70 ?_
  refine r_iloadN 26 X d8_25 rfl ?_
  refine r_aloadN 27 X d8_26 rfl rfl ?_
  refine r_getfield 30 X (host := "") (Or.inl (hw _ (List.mem_of_getElem? (i := 30) rfl))) Via.refl F_a1_low d8_27 ?_
  intro T X
  refine r_arraylength 31 X A_la (3 : Int32) (by decide) d8_30 ?_
  refine r_icmpN 34 X d8_31 (tlt (by decide)).2.1 ?_
  refine r_aloadN 35 X d8_34 rfl rfl ?_
  refine r_getfield 38 X (host := "") (Or.inl (hw _ (List.mem_of_getElem? (i := 50) rfl))) Via.refl F_a1_key d8_35 ?_
  intro T X
  refine r_aloadN 39 X d8_38 rfl rfl ?_
  refine r_getfield 42 X (host := "") (Or.inl (hw _ (List.mem_of_getElem? (i := 32) rfl))) Via.refl F_a1_word d8_39 ?_
  intro T X
  refine r_iloadN 43 X d8_42 rfl ?_
  refine r_iaload 44 X A_wa (i := 1) (v := (.int (0 : Int32))) (by decide) (by decide) rfl d8_43 ?_
  refine r_dup2_2 45 X d8_44 rfl rfl ?_
  refine r_laload 46 X A_ka (i := 0) (v := (.long ((0 : Int64) ||| (fldS (fv 0) (fl 0) (0 : Int32))))) (by decide) (by decide) rfl d8_45 ?_
  refine r_aloadN 47 X d8_46 rfl rfl ?_
  refine r_iloadN 48 X d8_47 rfl ?_
  refine r_iaload 49 X A_a2 (i := 1) (v := (.int (fv 1))) (by decide) (by decide) rfl d8_48 ?_
  refine r_i2l 50 X d8_49 ?_
  refine r_aloadN 51 X d8_50 rfl rfl ?_
  refine r_getfield 54 X (host := "") (Or.inl (hw _ (List.mem_of_getElem? (i := 30) rfl))) Via.refl F_a1_low d8_51 ?_
  intro T X
  refine r_iloadN 55 X d8_54 rfl ?_
  refine r_iaload 56 X A_la (i := 1) (v := (.int (fl 1))) (by decide) (by decide) rfl d8_55 ?_
  refine r_i2l 57 X d8_56 ?_
  refine r_lsub 58 X d8_57 ?_
  refine r_aloadN 59 X d8_58 rfl rfl ?_
  refine r_getfield 62 X (host := "") (Or.inl (hw _ (List.mem_of_getElem? (i := 34) rfl))) Via.refl F_a1_shift d8_59 ?_
  intro T X
  refine r_iloadN 63 X d8_62 rfl ?_
  refine r_iaload 64 X A_sa (i := 1) (v := (.int u1)) (by decide) (by decide) rfl d8_63 ?_
  refine r_lshl 65 X d8_64 ?_
  refine r_topJ (x' := (fldS (fv 1) (fl 1) u1)) rfl ?_
  refine r_lor 66 X d8_65 ?_
  refine r_lastore 67 X A_ka (i := 0) (v := (.long (((0 : Int64) ||| (fldS (fv 0) (fl 0) (0 : Int32))) ||| (fldS (fv 1) (fl 1) u1)))) (by decide) (by decide) rfl gka d8_66 ?_
  intro T h4 W4 X
  have K := K.wr W4 (Or.inl (List.mem_of_getElem? (i := 1) rfl))
  have E_a1 := E_a1.wr W4
  have F_a1_low := F_a1_low.other W4 (Or.inl ne_a1_ka)
  have F_a1_word := F_a1_word.other W4 (Or.inl ne_a1_ka)
  have F_a1_shift := F_a1_shift.other W4 (Or.inl ne_a1_ka)
  have F_a1_mask := F_a1_mask.other W4 (Or.inl ne_a1_ka)
  have F_a1_key := F_a1_key.other W4 (Or.inl ne_a1_ka)
  have F_a1_packed := F_a1_packed.other W4 (Or.inl ne_a1_ka)
  have F_a1_table := F_a1_table.other W4 (Or.inl ne_a1_ka)
  have F_a1_words := F_a1_words.other W4 (Or.inl ne_a1_ka)
  have F_a1_count := F_a1_count.other W4 (Or.inl ne_a1_ka)
  have A_la := A_la.other W4 ne_la_ka
  have A_wa := A_wa.other W4 ne_wa_ka
  have A_sa := A_sa.other W4 ne_sa_ka
  have A_ma := A_ma.other W4 ne_ma_ka
  have A_ka := A_ka.setJ W4
  have A_pa := A_pa.other W4 (Ne.symm ne_ka_pa)
  have A_ta := A_ta.other W4 (Ne.symm ne_ka_ta)
  have A_a2 := A_a2.other W4 (Ne.symm ne_ka_a2)
  refine r_iinc 70 X (1 : Int32) #[.val (.ref a1), .val (.ref a2), .val (.int (2 : Int32))] d8_67 rfl rfl rfl ?_
  refine r_goto 25 X d8_70 ?_
  refine r_iloadN 26 X d8_25 rfl ?_
  refine r_aloadN 27 X d8_26 rfl rfl ?_
  refine r_getfield 30 X (host := "") (Or.inl (hw _ (List.mem_of_getElem? (i := 30) rfl))) Via.refl F_a1_low d8_27 ?_
  intro T X
  refine r_arraylength 31 X A_la (3 : Int32) (by decide) d8_30 ?_
  refine r_icmpN 34 X d8_31 (tlt (by decide)).2.1 ?_
  refine r_aloadN 35 X d8_34 rfl rfl ?_
  refine r_getfield 38 X (host := "") (Or.inl (hw _ (List.mem_of_getElem? (i := 50) rfl))) Via.refl F_a1_key d8_35 ?_
  intro T X
  refine r_aloadN 39 X d8_38 rfl rfl ?_
  refine r_getfield 42 X (host := "") (Or.inl (hw _ (List.mem_of_getElem? (i := 32) rfl))) Via.refl F_a1_word d8_39 ?_
  intro T X
  refine r_iloadN 43 X d8_42 rfl ?_
  refine r_iaload 44 X A_wa (i := 2) (v := (.int (1 : Int32))) (by decide) (by decide) rfl d8_43 ?_
  refine r_dup2_2 45 X d8_44 rfl rfl ?_
  refine r_laload 46 X A_ka (i := 1) (v := (.long (0 : Int64))) (by decide) (by decide) rfl d8_45 ?_
  refine r_aloadN 47 X d8_46 rfl rfl ?_
  refine r_iloadN 48 X d8_47 rfl ?_
  refine r_iaload 49 X A_a2 (i := 2) (v := (.int (fv 2))) (by decide) (by decide) rfl d8_48 ?_
  refine r_i2l 50 X d8_49 ?_
  refine r_aloadN 51 X d8_50 rfl rfl ?_
  refine r_getfield 54 X (host := "") (Or.inl (hw _ (List.mem_of_getElem? (i := 30) rfl))) Via.refl F_a1_low d8_51 ?_
  intro T X
  refine r_iloadN 55 X d8_54 rfl ?_
  refine r_iaload 56 X A_la (i := 2) (v := (.int (fl 2))) (by decide) (by decide) rfl d8_55 ?_
  refine r_i2l 57 X d8_56 ?_
  refine r_lsub 58 X d8_57 ?_
  refine r_aloadN 59 X d8_58 rfl rfl ?_
  refine r_getfield 62 X (host := "") (Or.inl (hw _ (List.mem_of_getElem? (i := 34) rfl))) Via.refl F_a1_shift d8_59 ?_
  intro T X
  refine r_iloadN 63 X d8_62 rfl ?_
  refine r_iaload 64 X A_sa (i := 2) (v := (.int (0 : Int32))) (by decide) (by decide) rfl d8_63 ?_
  refine r_lshl 65 X d8_64 ?_
  refine r_topJ (x' := (fldS (fv 2) (fl 2) (0 : Int32))) rfl ?_
  refine r_lor 66 X d8_65 ?_
  refine r_lastore 67 X A_ka (i := 1) (v := (.long ((0 : Int64) ||| (fldS (fv 2) (fl 2) (0 : Int32))))) (by decide) (by decide) rfl gka d8_66 ?_
  intro T h5 W5 X
  have K := K.wr W5 (Or.inl (List.mem_of_getElem? (i := 1) rfl))
  have E_a1 := E_a1.wr W5
  have F_a1_low := F_a1_low.other W5 (Or.inl ne_a1_ka)
  have F_a1_word := F_a1_word.other W5 (Or.inl ne_a1_ka)
  have F_a1_shift := F_a1_shift.other W5 (Or.inl ne_a1_ka)
  have F_a1_mask := F_a1_mask.other W5 (Or.inl ne_a1_ka)
  have F_a1_key := F_a1_key.other W5 (Or.inl ne_a1_ka)
  have F_a1_packed := F_a1_packed.other W5 (Or.inl ne_a1_ka)
  have F_a1_table := F_a1_table.other W5 (Or.inl ne_a1_ka)
  have F_a1_words := F_a1_words.other W5 (Or.inl ne_a1_ka)
  have F_a1_count := F_a1_count.other W5 (Or.inl ne_a1_ka)
  have A_la := A_la.other W5 ne_la_ka
  have A_wa := A_wa.other W5 ne_wa_ka
  have A_sa := A_sa.other W5 ne_sa_ka
  have A_ma := A_ma.other W5 ne_ma_ka
  have A_ka := A_ka.setJ W5
  have A_pa := A_pa.other W5 (Ne.symm ne_ka_pa)
  have A_ta := A_ta.other W5 (Ne.symm ne_ka_ta)
  have A_a2 := A_a2.other W5 (Ne.symm ne_ka_a2)
  refine r_iinc 70 X (1 : Int32) #[.val (.ref a1), .val (.ref a2), .val (.int (3 : Int32))] d8_67 rfl rfl rfl ?_
  refine r_goto 25 X d8_70 ?_
  refine r_iloadN 26 X d8_25 rfl ?_
  refine r_aloadN 27 X d8_26 rfl rfl ?_
  refine r_getfield 30 X (host := "") (Or.inl (hw _ (List.mem_of_getElem? (i := 30) rfl))) Via.refl F_a1_low d8_27 ?_
  intro T X
  refine r_arraylength 31 X A_la (3 : Int32) (by decide) d8_30 ?_
  refine r_icmpY 73 X d8_31 (flt (by decide)).2.1 ?_
  refine r_aloadN 74 X d8_73 rfl rfl ?_
  refine r_aloadN 75 X d8_74 rfl rfl ?_
  refine r_aloadN 76 X d8_75 rfl rfl ?_
  refine r_getfield 79 X (host := "") (Or.inl (hw _ (List.mem_of_getElem? (i := 50) rfl))) Via.refl F_a1_key d8_76 ?_
  intro T X
  refine r_iconst 80 X (0 : Int32) d8_79 rfl ?_
  refine r_private 83 X (st := [(.ref a1)]) (a := a1) (rmHa1 l Z a0 hw n0 _ X.sz a1 ka (updJ (updJ (updJ (updJ (updJ fk 0 (0 : Int64)) 1 (0 : Int64)) 0 ((0 : Int64) ||| (fldS (fv 0) (fl 0) (0 : Int32)))) 0 (((0 : Int64) ||| (fldS (fv 0) (fl 0) (0 : Int32))) ||| (fldS (fv 1) (fl 1) u1))) 1 ((0 : Int64) ||| (fldS (fv 2) (fl 2) (0 : Int32)))) E_a1 F_a1_words A_ka) E_a1 (hw _ (List.mem_of_getElem? (i := 61) rfl)) (hw _ (List.mem_of_getElem? (i := 62) rfl)) (hw _ (List.mem_of_getElem? (i := 13) rfl)) (hw _ (List.mem_of_getElem? (i := 63) rfl)) (hw _ (List.mem_of_getElem? (i := 64) rfl)) (hw _ (List.mem_of_getElem? (i := 14) rfl)) (by decide) pd_3 [(.ref ka), (.int (0 : Int32))] rfl rfl 1 (Nat.le_of_eq rfl) rfl (by decide) (by decide) (by decide) (by decide) d8_80 ?_
  rintro T h6 v6 ⟨r6, rfl, rfl⟩ X
  change Run _ _ _ _ _ _ _ _ [(.long r6), (.ref a1)]
  refine r_private 86 X (st := []) (a := a1) (rmSl l Z a0 hw n0 _ X.sz a1 ta _ r6 E_a1 F_a1_table A_ta) E_a1 (hw _ (List.mem_of_getElem? (i := 66) rfl)) (hw _ (List.mem_of_getElem? (i := 67) rfl)) (hw _ (List.mem_of_getElem? (i := 13) rfl)) (hw _ (List.mem_of_getElem? (i := 68) rfl)) (hw _ (List.mem_of_getElem? (i := 69) rfl)) (hw _ (List.mem_of_getElem? (i := 14) rfl)) (by decide) pd_2 [(.long r6)] rfl rfl 0 (Nat.le_of_eq rfl) rfl (by decide) (by decide) (by decide) (by decide) d8_83 ?_
  rintro T h7 v7 ⟨sl, ks, rfl, hks, hks64, rfl⟩ X
  change Run _ _ _ _ _ _ _ _ [(.int sl)]
  refine r_istoreN 87 X #[.val (.ref a1), .val (.ref a2), .val (.int sl)] d8_86 rfl ?_
  by_cases hk0 : ks = k0
  ·
    refine r_aloadN 88 X d8_87 rfl rfl ?_
    refine r_getfield 91 X (host := "") (Or.inl (hw _ (List.mem_of_getElem? (i := 54) rfl))) Via.refl F_a1_table d8_88 ?_
    intro T X
    refine r_iloadN 92 X d8_91 rfl ?_
    refine r_iaload 93 X A_ta (i := ks) (v := (.int (1 : Int32))) hks hks64 (by simp [updI, hk0]) d8_92 ?_
    refine r_ifN 96 X d8_93 ((if0 _ _).trans (feq (by decide)).1) ?_
    refine r_aloadN 97 X d8_96 rfl rfl ?_
    refine r_aloadN 98 X d8_97 rfl rfl ?_
    refine r_getfield 101 X (host := "") (Or.inl (hw _ (List.mem_of_getElem? (i := 54) rfl))) Via.refl F_a1_table d8_98 ?_
    intro T X
    refine r_iloadN 102 X d8_101 rfl ?_
    refine r_iaload 103 X A_ta (i := ks) (v := (.int (1 : Int32))) hks hks64 (by simp [updI, hk0]) d8_102 ?_
    refine r_iconst 104 X (1 : Int32) d8_103 rfl ?_
    refine r_isub 105 X d8_104 ?_
    refine r_topI (x' := (0 : Int32)) (by decide) ?_
    refine r_private 108 X (st := []) (a := a1) (rmEk1 l Z a0 hw n0 _ X.sz a1 ka pa (updJ (updJ (updJ (updJ (updJ fk 0 (0 : Int64)) 1 (0 : Int64)) 0 ((0 : Int64) ||| (fldS (fv 0) (fl 0) (0 : Int32)))) 0 (((0 : Int64) ||| (fldS (fv 0) (fl 0) (0 : Int32))) ||| (fldS (fv 1) (fl 1) u1))) 1 ((0 : Int64) ||| (fldS (fv 2) (fl 2) (0 : Int32)))) fp E_a1 F_a1_words F_a1_key F_a1_packed A_ka A_pa) E_a1 (hw _ (List.mem_of_getElem? (i := 89) rfl)) (hw _ (List.mem_of_getElem? (i := 90) rfl)) (hw _ (List.mem_of_getElem? (i := 13) rfl)) (hw _ (List.mem_of_getElem? (i := 91) rfl)) (hw _ (List.mem_of_getElem? (i := 92) rfl)) (hw _ (List.mem_of_getElem? (i := 14) rfl)) (by decide) pd_4 [(.int (0 : Int32))] rfl rfl 0 (Nat.le_of_eq rfl) rfl (by decide) (by decide) (by decide) (by decide) d8_105 ?_
    rintro T h8 v8 ⟨rfl, rfl⟩ X
    change Run _ _ _ _ _ _ _ _ [(.int (b2i ((fp 0) = (((0 : Int64) ||| (fldS (fv 0) (fl 0) (0 : Int32))) ||| (fldS (fv 1) (fl 1) u1)) ∧ (fp 1) = ((0 : Int64) ||| (fldS (fv 2) (fl 2) (0 : Int32))))))]
    by_cases h108_9 : (fp 0) = (((0 : Int64) ||| (fldS (fv 0) (fl 0) (0 : Int32))) ||| (fldS (fv 1) (fl 1) u1)) ∧ (fp 1) = ((0 : Int64) ||| (fldS (fv 2) (fl 2) (0 : Int32)))
    · refine r_ifN 111 X d8_108 ((if0 _ _).trans (feq (b2i_ne0 h108_9)).1) ?_
      refine r_aloadN 112 X d8_111 rfl rfl ?_
      refine r_getfield 115 X (host := "") (Or.inl (hw _ (List.mem_of_getElem? (i := 54) rfl))) Via.refl F_a1_table d8_112 ?_
      intro T X
      refine r_iloadN 116 X d8_115 rfl ?_
      refine r_iaload 117 X A_ta (i := ks) (v := (.int (1 : Int32))) hks hks64 (by simp [updI, hk0]) d8_116 ?_
      refine r_iconst 118 X (1 : Int32) d8_117 rfl ?_
      refine r_isub 119 X d8_118 ?_
      refine r_topI (x' := (0 : Int32)) (by decide) ?_
      refine r_retI X d8_119 (by decide) (by decide) ?_
      exact ⟨0, 0, rfl, rfl, by decide, K, F_a1_low, F_a1_word, F_a1_shift, F_a1_mask, F_a1_key, F_a1_packed, F_a1_table, F_a1_words, _, A_pa, hA0, hA1, h108_9.1, h108_9.2⟩
    · refine r_ifY 120 X d8_108 ((if0 _ _).trans (teq (b2i_eq0 h108_9)).1) ?_
      refine r_iloadN 121 X d8_120 rfl ?_
      refine r_iconst 122 X (1 : Int32) d8_121 rfl ?_
      refine r_iadd 123 X d8_122 ?_
      refine r_aloadN 124 X d8_123 rfl rfl ?_
      refine r_getfield 127 X (host := "") (Or.inl (hw _ (List.mem_of_getElem? (i := 54) rfl))) Via.refl F_a1_table d8_124 ?_
      intro T X
      refine r_arraylength 128 X A_ta (64 : Int32) (by decide) d8_127 ?_
      refine r_iconst 129 X (1 : Int32) d8_128 rfl ?_
      refine r_isub 130 X d8_129 ?_
      refine r_topI (x' := (63 : Int32)) (by decide) ?_
      refine r_iand 131 X d8_130 ?_
      have hk2 := own_next hks hks64
      generalize ((sl + (1 : Int32)) &&& (63 : Int32)) = s2 at hk2 ⊢
      refine r_istoreN 132 X #[.val (.ref a1), .val (.ref a2), .val (.int s2)] d8_131 rfl ?_
      refine r_goto 87 X d8_132 ?_
      refine r_aloadN 88 X d8_87 rfl rfl ?_
      refine r_getfield 91 X (host := "") (Or.inl (hw _ (List.mem_of_getElem? (i := 54) rfl))) Via.refl F_a1_table d8_88 ?_
      intro T X
      refine r_iloadN 92 X d8_91 rfl ?_
      refine r_iaload 93 X A_ta (i := ((ks + 1) % 64)) (v := (.int (0 : Int32))) hk2 (by omega) (by show Value.int (updI _ k0 _ _) = _; rw [updI, if_neg (by omega)]) d8_92 ?_
      refine r_ifY 135 X d8_93 ((if0 _ _).trans (teq (by decide)).1) ?_
      refine r_aloadN 136 X d8_135 rfl rfl ?_
      refine r_getfield 139 X (host := "") (Or.inl (hw _ (List.mem_of_getElem? (i := 73) rfl))) Via.refl F_a1_count d8_136 ?_
      intro T X
      refine r_ldcInt 141 X (hw _ (List.mem_of_getElem? (i := 75) rfl)) d8_139 ?_
      refine r_icmpN 144 X d8_141 (feq (by decide)).1 ?_
      refine r_aloadN 145 X d8_144 rfl rfl ?_
      refine r_getfield 148 X (host := "") (Or.inl (hw _ (List.mem_of_getElem? (i := 73) rfl))) Via.refl F_a1_count d8_145 ?_
      intro T X
      refine r_iconst 149 X (1 : Int32) d8_148 rfl ?_
      refine r_iadd 150 X d8_149 ?_
      refine r_topI (x' := (2 : Int32)) (by decide) ?_
      refine r_i2l 151 X d8_150 ?_
      refine r_topJ (x' := (2 : Int64)) (by decide) ?_
      refine r_aloadN 152 X d8_151 rfl rfl ?_
      refine r_getfield 155 X (host := "") (Or.inl (hw _ (List.mem_of_getElem? (i := 48) rfl))) Via.refl F_a1_words d8_152 ?_
      intro T X
      refine r_i2l 156 X d8_155 ?_
      refine r_topJ (x' := (2 : Int64)) (by decide) ?_
      refine r_lmul 157 X d8_156 ?_
      refine r_topJ (x' := (4 : Int64)) (by decide) ?_
      refine r_ldc2Long 160 X (hw _ (List.mem_of_getElem? (i := 76) rfl)) d8_157 ?_
      refine r_lcmp 161 X d8_160 ?_
      refine r_ifY 181 X d8_161 ((if0 _ _).trans (flt (fun q => (show ¬ ((2147483639 : Int64) < (4 : Int64)) by decide) ((lw_gt _ _).mp q))).2.2.2) ?_
      refine r_aloadN 182 X d8_181 rfl rfl ?_
      refine r_getfield 185 X (host := "") (Or.inl (hw _ (List.mem_of_getElem? (i := 73) rfl))) Via.refl F_a1_count d8_182 ?_
      intro T X
      refine r_iconst 186 X (1 : Int32) d8_185 rfl ?_
      refine r_iadd 187 X d8_186 ?_
      refine r_topI (x' := (2 : Int32)) (by decide) ?_
      refine r_aloadN 188 X d8_187 rfl rfl ?_
      refine r_getfield 191 X (host := "") (Or.inl (hw _ (List.mem_of_getElem? (i := 48) rfl))) Via.refl F_a1_words d8_188 ?_
      intro T X
      refine r_imul 192 X d8_191 ?_
      refine r_topI (x' := (4 : Int32)) (by decide) ?_
      refine r_aloadN 193 X d8_192 rfl rfl ?_
      refine r_getfield 196 X (host := "") (Or.inl (hw _ (List.mem_of_getElem? (i := 52) rfl))) Via.refl F_a1_packed d8_193 ?_
      intro T X
      refine r_arraylength 197 X A_pa (32 : Int32) (by decide) d8_196 ?_
      refine r_icmpY 228 X d8_197 (flt (by decide)).2.2.2 ?_
      refine r_aloadN 229 X d8_228 rfl rfl ?_
      refine r_getfield 232 X (host := "") (Or.inl (hw _ (List.mem_of_getElem? (i := 50) rfl))) Via.refl F_a1_key d8_229 ?_
      intro T X
      refine r_iconst 233 X (0 : Int32) d8_232 rfl ?_
      refine r_aloadN 234 X d8_233 rfl rfl ?_
      refine r_getfield 237 X (host := "") (Or.inl (hw _ (List.mem_of_getElem? (i := 52) rfl))) Via.refl F_a1_packed d8_234 ?_
      intro T X
      refine r_aloadN 238 X d8_237 rfl rfl ?_
      refine r_getfield 241 X (host := "") (Or.inl (hw _ (List.mem_of_getElem? (i := 73) rfl))) Via.refl F_a1_count d8_238 ?_
      intro T X
      refine r_aloadN 242 X d8_241 rfl rfl ?_
      refine r_getfield 245 X (host := "") (Or.inl (hw _ (List.mem_of_getElem? (i := 48) rfl))) Via.refl F_a1_words d8_242 ?_
      intro T X
      refine r_imul 246 X d8_245 ?_
      refine r_topI (x' := (2 : Int32)) (by decide) ?_
      refine r_aloadN 247 X d8_246 rfl rfl ?_
      refine r_getfield 250 X (host := "") (Or.inl (hw _ (List.mem_of_getElem? (i := 48) rfl))) Via.refl F_a1_words d8_247 ?_
      intro T X
      refine r_arraycopy 253 X (st := []) (hw _ (List.mem_of_getElem? (i := 77) rfl)) (hw _ (List.mem_of_getElem? (i := 80) rfl)) (hw _ (List.mem_of_getElem? (i := 78) rfl)) (hw _ (List.mem_of_getElem? (i := 79) rfl)) A_ka A_pa rfl (fun _ _ => rfl) (fun _ _ => rfl) (i1 := 0) (i2 := 2) (k := 2) (by decide) (by decide) (by decide) (by decide) (by decide) gpa 0 (Nat.le_of_eq rfl) rfl (by decide) (by decide) d8_250 ?_
      intro T h10 K10 A10 X
      have K := K.trans K10 (allS (Or.inl (List.mem_of_getElem? (i := 2) rfl)) all0)
      have E_a1 := E_a1.keep K10
      have F_a1_low := F_a1_low.keep K10 (ninS ne_a1_pa nin0)
      have F_a1_word := F_a1_word.keep K10 (ninS ne_a1_pa nin0)
      have F_a1_shift := F_a1_shift.keep K10 (ninS ne_a1_pa nin0)
      have F_a1_mask := F_a1_mask.keep K10 (ninS ne_a1_pa nin0)
      have F_a1_key := F_a1_key.keep K10 (ninS ne_a1_pa nin0)
      have F_a1_packed := F_a1_packed.keep K10 (ninS ne_a1_pa nin0)
      have F_a1_table := F_a1_table.keep K10 (ninS ne_a1_pa nin0)
      have F_a1_words := F_a1_words.keep K10 (ninS ne_a1_pa nin0)
      have F_a1_count := F_a1_count.keep K10 (ninS ne_a1_pa nin0)
      have A_la := A_la.keep K10 (ninS ne_la_pa nin0)
      have A_wa := A_wa.keep K10 (ninS ne_wa_pa nin0)
      have A_sa := A_sa.keep K10 (ninS ne_sa_pa nin0)
      have A_ma := A_ma.keep K10 (ninS ne_ma_pa nin0)
      have A_ka := A_ka.keep K10 (ninS ne_ka_pa nin0)
      have A_ta := A_ta.keep K10 (ninS (Ne.symm ne_pa_ta) nin0)
      have A_a2 := A_a2.keep K10 (ninS (Ne.symm ne_pa_a2) nin0)
      have A_pa : AF Z h10 pa .long 32 (fun j => .long ((updJ (updJ fp 2 (((0 : Int64) ||| (fldS (fv 0) (fl 0) (0 : Int32))) ||| (fldS (fv 1) (fl 1) u1))) 3 ((0 : Int64) ||| (fldS (fv 2) (fl 2) (0 : Int32)))) j)) := A10.congr fun j _ => own_cp2 _ _ _ _ _
      refine r_aloadN 254 X d8_253 rfl rfl ?_
      refine r_getfield 257 X (host := "") (Or.inl (hw _ (List.mem_of_getElem? (i := 54) rfl))) Via.refl F_a1_table d8_254 ?_
      intro T X
      refine r_iloadN 258 X d8_257 rfl ?_
      refine r_aloadN 259 X d8_258 rfl rfl ?_
      refine r_getfield 262 X (host := "") (Or.inl (hw _ (List.mem_of_getElem? (i := 73) rfl))) Via.refl F_a1_count d8_259 ?_
      intro T X
      refine r_iconst 263 X (1 : Int32) d8_262 rfl ?_
      refine r_iadd 264 X d8_263 ?_
      refine r_topI (x' := (2 : Int32)) (by decide) ?_
      refine r_iastore 265 X A_ta (i := ((ks + 1) % 64)) (v := (.int (2 : Int32))) hk2 (by omega) rfl gta d8_264 ?_
      intro T h11 W11 X
      have K := K.wr W11 (Or.inl (List.mem_of_getElem? (i := 3) rfl))
      have E_a1 := E_a1.wr W11
      have F_a1_low := F_a1_low.other W11 (Or.inl ne_a1_ta)
      have F_a1_word := F_a1_word.other W11 (Or.inl ne_a1_ta)
      have F_a1_shift := F_a1_shift.other W11 (Or.inl ne_a1_ta)
      have F_a1_mask := F_a1_mask.other W11 (Or.inl ne_a1_ta)
      have F_a1_key := F_a1_key.other W11 (Or.inl ne_a1_ta)
      have F_a1_packed := F_a1_packed.other W11 (Or.inl ne_a1_ta)
      have F_a1_table := F_a1_table.other W11 (Or.inl ne_a1_ta)
      have F_a1_words := F_a1_words.other W11 (Or.inl ne_a1_ta)
      have F_a1_count := F_a1_count.other W11 (Or.inl ne_a1_ta)
      have A_la := A_la.other W11 ne_la_ta
      have A_wa := A_wa.other W11 ne_wa_ta
      have A_sa := A_sa.other W11 ne_sa_ta
      have A_ma := A_ma.other W11 ne_ma_ta
      have A_ka := A_ka.other W11 ne_ka_ta
      have A_ta := A_ta.setI W11
      have A_a2 := A_a2.other W11 (Ne.symm ne_ta_a2)
      have A_pa := A_pa.other W11 ne_pa_ta
      refine r_aloadN 266 X d8_265 rfl rfl ?_
      refine r_dup 267 X d8_266 rfl ?_
      refine r_getfield 270 X (host := "") (Or.inl (hw _ (List.mem_of_getElem? (i := 73) rfl))) Via.refl F_a1_count d8_267 ?_
      intro T X
      refine r_iconst 271 X (1 : Int32) d8_270 rfl ?_
      refine r_iadd 272 X d8_271 ?_
      refine r_topI (x' := (2 : Int32)) (by decide) ?_
      refine r_putfield 275 X (host := "") (Or.inl (hw _ (List.mem_of_getElem? (i := 73) rfl))) Via.refl F_a1_count E_a1 (Or.inl (hw _ (List.mem_of_getElem? (i := 74) rfl))) (hw _ (List.mem_of_getElem? (i := 13) rfl)) (ty := .int) (by decide) rfl rfl ga1 d8_272 ?_
      intro T h12 W12 X
      have K := K.wr W12 (Or.inl (List.mem_of_getElem? (i := 0) rfl))
      have E_a1 := E_a1.wr W12
      have F_a1_low := F_a1_low.other W12 (Or.inr (slot_ne (Or.inr (hw _ (List.mem_of_getElem? (i := 31) rfl))) (Or.inl (hw _ (List.mem_of_getElem? (i := 74) rfl))) (by decide) (t := (.array .int)) (t' := .int) (by decide) (by decide)))
      have F_a1_word := F_a1_word.other W12 (Or.inr (slot_ne (Or.inr (hw _ (List.mem_of_getElem? (i := 33) rfl))) (Or.inl (hw _ (List.mem_of_getElem? (i := 74) rfl))) (by decide) (t := (.array .int)) (t' := .int) (by decide) (by decide)))
      have F_a1_shift := F_a1_shift.other W12 (Or.inr (slot_ne (Or.inr (hw _ (List.mem_of_getElem? (i := 35) rfl))) (Or.inl (hw _ (List.mem_of_getElem? (i := 74) rfl))) (by decide) (t := (.array .int)) (t' := .int) (by decide) (by decide)))
      have F_a1_mask := F_a1_mask.other W12 (Or.inr (slot_ne (Or.inr (hw _ (List.mem_of_getElem? (i := 38) rfl))) (Or.inl (hw _ (List.mem_of_getElem? (i := 74) rfl))) (by decide) (t := (.array .long)) (t' := .int) (by decide) (by decide)))
      have F_a1_key := F_a1_key.other W12 (Or.inr (slot_ne (Or.inr (hw _ (List.mem_of_getElem? (i := 51) rfl))) (Or.inl (hw _ (List.mem_of_getElem? (i := 74) rfl))) (by decide) (t := (.array .long)) (t' := .int) (by decide) (by decide)))
      have F_a1_packed := F_a1_packed.other W12 (Or.inr (slot_ne (Or.inl (hw _ (List.mem_of_getElem? (i := 53) rfl))) (Or.inl (hw _ (List.mem_of_getElem? (i := 74) rfl))) (by decide) (t := (.array .long)) (t' := .int) (by decide) (by decide)))
      have F_a1_table := F_a1_table.other W12 (Or.inr (slot_ne (Or.inl (hw _ (List.mem_of_getElem? (i := 55) rfl))) (Or.inl (hw _ (List.mem_of_getElem? (i := 74) rfl))) (by decide) (t := (.array .int)) (t' := .int) (by decide) (by decide)))
      have F_a1_words := F_a1_words.other W12 (Or.inr (slot_ne (Or.inr (hw _ (List.mem_of_getElem? (i := 49) rfl))) (Or.inl (hw _ (List.mem_of_getElem? (i := 74) rfl))) (by decide) (t := .int) (t' := .int) (by decide) (by decide)))
      have F_a1_count := F_a1_count.same W12
      have A_la := A_la.other W12 (Ne.symm ne_a1_la)
      have A_wa := A_wa.other W12 (Ne.symm ne_a1_wa)
      have A_sa := A_sa.other W12 (Ne.symm ne_a1_sa)
      have A_ma := A_ma.other W12 (Ne.symm ne_a1_ma)
      have A_ka := A_ka.other W12 (Ne.symm ne_a1_ka)
      have A_ta := A_ta.other W12 (Ne.symm ne_a1_ta)
      have A_a2 := A_a2.other W12 (Ne.symm ne_a1_a2)
      have A_pa := A_pa.other W12 (Ne.symm ne_a1_pa)
      refine r_aloadN 276 X d8_275 rfl rfl ?_
      refine r_getfield 279 X (host := "") (Or.inl (hw _ (List.mem_of_getElem? (i := 73) rfl))) Via.refl F_a1_count d8_276 ?_
      intro T X
      refine r_aloadN 280 X d8_279 rfl rfl ?_
      refine r_getfield 283 X (host := "") (Or.inl (hw _ (List.mem_of_getElem? (i := 54) rfl))) Via.refl F_a1_table d8_280 ?_
      intro T X
      refine r_arraylength 284 X A_ta (64 : Int32) (by decide) d8_283 ?_
      refine r_iconst 285 X (2 : Int32) d8_284 rfl ?_
      refine r_idiv 286 X d8_285 (by decide) ?_
      refine r_topI (x' := (32 : Int32)) (by decide) ?_
      refine r_icmpY 293 X d8_286 (flt (by decide)).2.2.2 ?_
      refine r_aloadN 294 X d8_293 rfl rfl ?_
      refine r_getfield 297 X (host := "") (Or.inl (hw _ (List.mem_of_getElem? (i := 73) rfl))) Via.refl F_a1_count d8_294 ?_
      intro T X
      refine r_iconst 298 X (1 : Int32) d8_297 rfl ?_
      refine r_isub 299 X d8_298 ?_
      refine r_topI (x' := (1 : Int32)) (by decide) ?_
      refine r_retI X d8_299 (by decide) (by decide) ?_
      exact ⟨1, 1, rfl, rfl, by decide, K, F_a1_low, F_a1_word, F_a1_shift, F_a1_mask, F_a1_key, F_a1_packed, F_a1_table, F_a1_words, _, A_pa, hA0, hA1, rfl, rfl⟩
  ·
    refine r_aloadN 88 X d8_87 rfl rfl ?_
    refine r_getfield 91 X (host := "") (Or.inl (hw _ (List.mem_of_getElem? (i := 54) rfl))) Via.refl F_a1_table d8_88 ?_
    intro T X
    refine r_iloadN 92 X d8_91 rfl ?_
    refine r_iaload 93 X A_ta (i := ks) (v := (.int (0 : Int32))) hks hks64 (by simp [updI, hk0]) d8_92 ?_
    refine r_ifY 135 X d8_93 ((if0 _ _).trans (teq (by decide)).1) ?_
    refine r_aloadN 136 X d8_135 rfl rfl ?_
    refine r_getfield 139 X (host := "") (Or.inl (hw _ (List.mem_of_getElem? (i := 73) rfl))) Via.refl F_a1_count d8_136 ?_
    intro T X
    refine r_ldcInt 141 X (hw _ (List.mem_of_getElem? (i := 75) rfl)) d8_139 ?_
    refine r_icmpN 144 X d8_141 (feq (by decide)).1 ?_
    refine r_aloadN 145 X d8_144 rfl rfl ?_
    refine r_getfield 148 X (host := "") (Or.inl (hw _ (List.mem_of_getElem? (i := 73) rfl))) Via.refl F_a1_count d8_145 ?_
    intro T X
    refine r_iconst 149 X (1 : Int32) d8_148 rfl ?_
    refine r_iadd 150 X d8_149 ?_
    refine r_topI (x' := (2 : Int32)) (by decide) ?_
    refine r_i2l 151 X d8_150 ?_
    refine r_topJ (x' := (2 : Int64)) (by decide) ?_
    refine r_aloadN 152 X d8_151 rfl rfl ?_
    refine r_getfield 155 X (host := "") (Or.inl (hw _ (List.mem_of_getElem? (i := 48) rfl))) Via.refl F_a1_words d8_152 ?_
    intro T X
    refine r_i2l 156 X d8_155 ?_
    refine r_topJ (x' := (2 : Int64)) (by decide) ?_
    refine r_lmul 157 X d8_156 ?_
    refine r_topJ (x' := (4 : Int64)) (by decide) ?_
    refine r_ldc2Long 160 X (hw _ (List.mem_of_getElem? (i := 76) rfl)) d8_157 ?_
    refine r_lcmp 161 X d8_160 ?_
    refine r_ifY 181 X d8_161 ((if0 _ _).trans (flt (fun q => (show ¬ ((2147483639 : Int64) < (4 : Int64)) by decide) ((lw_gt _ _).mp q))).2.2.2) ?_
    refine r_aloadN 182 X d8_181 rfl rfl ?_
    refine r_getfield 185 X (host := "") (Or.inl (hw _ (List.mem_of_getElem? (i := 73) rfl))) Via.refl F_a1_count d8_182 ?_
    intro T X
    refine r_iconst 186 X (1 : Int32) d8_185 rfl ?_
    refine r_iadd 187 X d8_186 ?_
    refine r_topI (x' := (2 : Int32)) (by decide) ?_
    refine r_aloadN 188 X d8_187 rfl rfl ?_
    refine r_getfield 191 X (host := "") (Or.inl (hw _ (List.mem_of_getElem? (i := 48) rfl))) Via.refl F_a1_words d8_188 ?_
    intro T X
    refine r_imul 192 X d8_191 ?_
    refine r_topI (x' := (4 : Int32)) (by decide) ?_
    refine r_aloadN 193 X d8_192 rfl rfl ?_
    refine r_getfield 196 X (host := "") (Or.inl (hw _ (List.mem_of_getElem? (i := 52) rfl))) Via.refl F_a1_packed d8_193 ?_
    intro T X
    refine r_arraylength 197 X A_pa (32 : Int32) (by decide) d8_196 ?_
    refine r_icmpY 228 X d8_197 (flt (by decide)).2.2.2 ?_
    refine r_aloadN 229 X d8_228 rfl rfl ?_
    refine r_getfield 232 X (host := "") (Or.inl (hw _ (List.mem_of_getElem? (i := 50) rfl))) Via.refl F_a1_key d8_229 ?_
    intro T X
    refine r_iconst 233 X (0 : Int32) d8_232 rfl ?_
    refine r_aloadN 234 X d8_233 rfl rfl ?_
    refine r_getfield 237 X (host := "") (Or.inl (hw _ (List.mem_of_getElem? (i := 52) rfl))) Via.refl F_a1_packed d8_234 ?_
    intro T X
    refine r_aloadN 238 X d8_237 rfl rfl ?_
    refine r_getfield 241 X (host := "") (Or.inl (hw _ (List.mem_of_getElem? (i := 73) rfl))) Via.refl F_a1_count d8_238 ?_
    intro T X
    refine r_aloadN 242 X d8_241 rfl rfl ?_
    refine r_getfield 245 X (host := "") (Or.inl (hw _ (List.mem_of_getElem? (i := 48) rfl))) Via.refl F_a1_words d8_242 ?_
    intro T X
    refine r_imul 246 X d8_245 ?_
    refine r_topI (x' := (2 : Int32)) (by decide) ?_
    refine r_aloadN 247 X d8_246 rfl rfl ?_
    refine r_getfield 250 X (host := "") (Or.inl (hw _ (List.mem_of_getElem? (i := 48) rfl))) Via.refl F_a1_words d8_247 ?_
    intro T X
    refine r_arraycopy 253 X (st := []) (hw _ (List.mem_of_getElem? (i := 77) rfl)) (hw _ (List.mem_of_getElem? (i := 80) rfl)) (hw _ (List.mem_of_getElem? (i := 78) rfl)) (hw _ (List.mem_of_getElem? (i := 79) rfl)) A_ka A_pa rfl (fun _ _ => rfl) (fun _ _ => rfl) (i1 := 0) (i2 := 2) (k := 2) (by decide) (by decide) (by decide) (by decide) (by decide) gpa 0 (Nat.le_of_eq rfl) rfl (by decide) (by decide) d8_250 ?_
    intro T h13 K13 A13 X
    have K := K.trans K13 (allS (Or.inl (List.mem_of_getElem? (i := 2) rfl)) all0)
    have E_a1 := E_a1.keep K13
    have F_a1_low := F_a1_low.keep K13 (ninS ne_a1_pa nin0)
    have F_a1_word := F_a1_word.keep K13 (ninS ne_a1_pa nin0)
    have F_a1_shift := F_a1_shift.keep K13 (ninS ne_a1_pa nin0)
    have F_a1_mask := F_a1_mask.keep K13 (ninS ne_a1_pa nin0)
    have F_a1_key := F_a1_key.keep K13 (ninS ne_a1_pa nin0)
    have F_a1_packed := F_a1_packed.keep K13 (ninS ne_a1_pa nin0)
    have F_a1_table := F_a1_table.keep K13 (ninS ne_a1_pa nin0)
    have F_a1_words := F_a1_words.keep K13 (ninS ne_a1_pa nin0)
    have F_a1_count := F_a1_count.keep K13 (ninS ne_a1_pa nin0)
    have A_la := A_la.keep K13 (ninS ne_la_pa nin0)
    have A_wa := A_wa.keep K13 (ninS ne_wa_pa nin0)
    have A_sa := A_sa.keep K13 (ninS ne_sa_pa nin0)
    have A_ma := A_ma.keep K13 (ninS ne_ma_pa nin0)
    have A_ka := A_ka.keep K13 (ninS ne_ka_pa nin0)
    have A_ta := A_ta.keep K13 (ninS (Ne.symm ne_pa_ta) nin0)
    have A_a2 := A_a2.keep K13 (ninS (Ne.symm ne_pa_a2) nin0)
    have A_pa : AF Z h13 pa .long 32 (fun j => .long ((updJ (updJ fp 2 (((0 : Int64) ||| (fldS (fv 0) (fl 0) (0 : Int32))) ||| (fldS (fv 1) (fl 1) u1))) 3 ((0 : Int64) ||| (fldS (fv 2) (fl 2) (0 : Int32)))) j)) := A13.congr fun j _ => own_cp2 _ _ _ _ _
    refine r_aloadN 254 X d8_253 rfl rfl ?_
    refine r_getfield 257 X (host := "") (Or.inl (hw _ (List.mem_of_getElem? (i := 54) rfl))) Via.refl F_a1_table d8_254 ?_
    intro T X
    refine r_iloadN 258 X d8_257 rfl ?_
    refine r_aloadN 259 X d8_258 rfl rfl ?_
    refine r_getfield 262 X (host := "") (Or.inl (hw _ (List.mem_of_getElem? (i := 73) rfl))) Via.refl F_a1_count d8_259 ?_
    intro T X
    refine r_iconst 263 X (1 : Int32) d8_262 rfl ?_
    refine r_iadd 264 X d8_263 ?_
    refine r_topI (x' := (2 : Int32)) (by decide) ?_
    refine r_iastore 265 X A_ta (i := ks) (v := (.int (2 : Int32))) hks hks64 rfl gta d8_264 ?_
    intro T h14 W14 X
    have K := K.wr W14 (Or.inl (List.mem_of_getElem? (i := 3) rfl))
    have E_a1 := E_a1.wr W14
    have F_a1_low := F_a1_low.other W14 (Or.inl ne_a1_ta)
    have F_a1_word := F_a1_word.other W14 (Or.inl ne_a1_ta)
    have F_a1_shift := F_a1_shift.other W14 (Or.inl ne_a1_ta)
    have F_a1_mask := F_a1_mask.other W14 (Or.inl ne_a1_ta)
    have F_a1_key := F_a1_key.other W14 (Or.inl ne_a1_ta)
    have F_a1_packed := F_a1_packed.other W14 (Or.inl ne_a1_ta)
    have F_a1_table := F_a1_table.other W14 (Or.inl ne_a1_ta)
    have F_a1_words := F_a1_words.other W14 (Or.inl ne_a1_ta)
    have F_a1_count := F_a1_count.other W14 (Or.inl ne_a1_ta)
    have A_la := A_la.other W14 ne_la_ta
    have A_wa := A_wa.other W14 ne_wa_ta
    have A_sa := A_sa.other W14 ne_sa_ta
    have A_ma := A_ma.other W14 ne_ma_ta
    have A_ka := A_ka.other W14 ne_ka_ta
    have A_ta := A_ta.setI W14
    have A_a2 := A_a2.other W14 (Ne.symm ne_ta_a2)
    have A_pa := A_pa.other W14 ne_pa_ta
    refine r_aloadN 266 X d8_265 rfl rfl ?_
    refine r_dup 267 X d8_266 rfl ?_
    refine r_getfield 270 X (host := "") (Or.inl (hw _ (List.mem_of_getElem? (i := 73) rfl))) Via.refl F_a1_count d8_267 ?_
    intro T X
    refine r_iconst 271 X (1 : Int32) d8_270 rfl ?_
    refine r_iadd 272 X d8_271 ?_
    refine r_topI (x' := (2 : Int32)) (by decide) ?_
    refine r_putfield 275 X (host := "") (Or.inl (hw _ (List.mem_of_getElem? (i := 73) rfl))) Via.refl F_a1_count E_a1 (Or.inl (hw _ (List.mem_of_getElem? (i := 74) rfl))) (hw _ (List.mem_of_getElem? (i := 13) rfl)) (ty := .int) (by decide) rfl rfl ga1 d8_272 ?_
    intro T h15 W15 X
    have K := K.wr W15 (Or.inl (List.mem_of_getElem? (i := 0) rfl))
    have E_a1 := E_a1.wr W15
    have F_a1_low := F_a1_low.other W15 (Or.inr (slot_ne (Or.inr (hw _ (List.mem_of_getElem? (i := 31) rfl))) (Or.inl (hw _ (List.mem_of_getElem? (i := 74) rfl))) (by decide) (t := (.array .int)) (t' := .int) (by decide) (by decide)))
    have F_a1_word := F_a1_word.other W15 (Or.inr (slot_ne (Or.inr (hw _ (List.mem_of_getElem? (i := 33) rfl))) (Or.inl (hw _ (List.mem_of_getElem? (i := 74) rfl))) (by decide) (t := (.array .int)) (t' := .int) (by decide) (by decide)))
    have F_a1_shift := F_a1_shift.other W15 (Or.inr (slot_ne (Or.inr (hw _ (List.mem_of_getElem? (i := 35) rfl))) (Or.inl (hw _ (List.mem_of_getElem? (i := 74) rfl))) (by decide) (t := (.array .int)) (t' := .int) (by decide) (by decide)))
    have F_a1_mask := F_a1_mask.other W15 (Or.inr (slot_ne (Or.inr (hw _ (List.mem_of_getElem? (i := 38) rfl))) (Or.inl (hw _ (List.mem_of_getElem? (i := 74) rfl))) (by decide) (t := (.array .long)) (t' := .int) (by decide) (by decide)))
    have F_a1_key := F_a1_key.other W15 (Or.inr (slot_ne (Or.inr (hw _ (List.mem_of_getElem? (i := 51) rfl))) (Or.inl (hw _ (List.mem_of_getElem? (i := 74) rfl))) (by decide) (t := (.array .long)) (t' := .int) (by decide) (by decide)))
    have F_a1_packed := F_a1_packed.other W15 (Or.inr (slot_ne (Or.inl (hw _ (List.mem_of_getElem? (i := 53) rfl))) (Or.inl (hw _ (List.mem_of_getElem? (i := 74) rfl))) (by decide) (t := (.array .long)) (t' := .int) (by decide) (by decide)))
    have F_a1_table := F_a1_table.other W15 (Or.inr (slot_ne (Or.inl (hw _ (List.mem_of_getElem? (i := 55) rfl))) (Or.inl (hw _ (List.mem_of_getElem? (i := 74) rfl))) (by decide) (t := (.array .int)) (t' := .int) (by decide) (by decide)))
    have F_a1_words := F_a1_words.other W15 (Or.inr (slot_ne (Or.inr (hw _ (List.mem_of_getElem? (i := 49) rfl))) (Or.inl (hw _ (List.mem_of_getElem? (i := 74) rfl))) (by decide) (t := .int) (t' := .int) (by decide) (by decide)))
    have F_a1_count := F_a1_count.same W15
    have A_la := A_la.other W15 (Ne.symm ne_a1_la)
    have A_wa := A_wa.other W15 (Ne.symm ne_a1_wa)
    have A_sa := A_sa.other W15 (Ne.symm ne_a1_sa)
    have A_ma := A_ma.other W15 (Ne.symm ne_a1_ma)
    have A_ka := A_ka.other W15 (Ne.symm ne_a1_ka)
    have A_ta := A_ta.other W15 (Ne.symm ne_a1_ta)
    have A_a2 := A_a2.other W15 (Ne.symm ne_a1_a2)
    have A_pa := A_pa.other W15 (Ne.symm ne_a1_pa)
    refine r_aloadN 276 X d8_275 rfl rfl ?_
    refine r_getfield 279 X (host := "") (Or.inl (hw _ (List.mem_of_getElem? (i := 73) rfl))) Via.refl F_a1_count d8_276 ?_
    intro T X
    refine r_aloadN 280 X d8_279 rfl rfl ?_
    refine r_getfield 283 X (host := "") (Or.inl (hw _ (List.mem_of_getElem? (i := 54) rfl))) Via.refl F_a1_table d8_280 ?_
    intro T X
    refine r_arraylength 284 X A_ta (64 : Int32) (by decide) d8_283 ?_
    refine r_iconst 285 X (2 : Int32) d8_284 rfl ?_
    refine r_idiv 286 X d8_285 (by decide) ?_
    refine r_topI (x' := (32 : Int32)) (by decide) ?_
    refine r_icmpY 293 X d8_286 (flt (by decide)).2.2.2 ?_
    refine r_aloadN 294 X d8_293 rfl rfl ?_
    refine r_getfield 297 X (host := "") (Or.inl (hw _ (List.mem_of_getElem? (i := 73) rfl))) Via.refl F_a1_count d8_294 ?_
    intro T X
    refine r_iconst 298 X (1 : Int32) d8_297 rfl ?_
    refine r_isub 299 X d8_298 ?_
    refine r_topI (x' := (1 : Int32)) (by decide) ?_
    refine r_retI X d8_299 (by decide) (by decide) ?_
    exact ⟨1, 1, rfl, rfl, by decide, K, F_a1_low, F_a1_word, F_a1_shift, F_a1_mask, F_a1_key, F_a1_packed, F_a1_table, F_a1_words, _, A_pa, hA0, hA1, rfl, rfl⟩
theorem d12_0 : decode prog_47_method_4_code 0 = .ok (.iload_n 1, 1) := by decide +kernel
theorem d12_1 : decode prog_47_method_4_code 1 = .ok (.aload_n 0, 1) := by decide +kernel
theorem d12_2 : decode prog_47_method_4_code 2 = .ok (.getfield 36, 3) := by decide +kernel
theorem d12_5 : decode prog_47_method_4_code 5 = .ok (.imul, 1) := by decide +kernel
theorem d12_6 : decode prog_47_method_4_code 6 = .ok (.istore_n 3, 1) := by decide +kernel
theorem d12_7 : decode prog_47_method_4_code 7 = .ok (.iconst 0, 1) := by decide +kernel
theorem d12_8 : decode prog_47_method_4_code 8 = .ok (.istore 4, 2) := by decide +kernel
theorem d12_10 : decode prog_47_method_4_code 10 = .ok (.iload 4, 2) := by decide +kernel
theorem d12_12 : decode prog_47_method_4_code 12 = .ok (.aload_n 0, 1) := by decide +kernel
theorem d12_13 : decode prog_47_method_4_code 13 = .ok (.getfield 15, 3) := by decide +kernel
theorem d12_16 : decode prog_47_method_4_code 16 = .ok (.arraylength, 1) := by decide +kernel
theorem d12_17 : decode prog_47_method_4_code 17 = .ok (.if_icmp .ge 52, 3) := by decide +kernel
theorem d12_20 : decode prog_47_method_4_code 20 = .ok (.aload_n 2, 1) := by decide +kernel
theorem d12_21 : decode prog_47_method_4_code 21 = .ok (.iload 4, 2) := by decide +kernel
theorem d12_23 : decode prog_47_method_4_code 23 = .ok (.aload_n 0, 1) := by decide +kernel
theorem d12_24 : decode prog_47_method_4_code 24 = .ok (.getfield 15, 3) := by decide +kernel
theorem d12_27 : decode prog_47_method_4_code 27 = .ok (.iload 4, 2) := by decide +kernel
theorem d12_29 : decode prog_47_method_4_code 29 = .ok (.iaload, 1) := by decide +kernel
theorem d12_30 : decode prog_47_method_4_code 30 = .ok (.aload_n 0, 1) := by decide +kernel
theorem d12_31 : decode prog_47_method_4_code 31 = .ok (.getfield 43, 3) := by decide +kernel
theorem d12_34 : decode prog_47_method_4_code 34 = .ok (.iload_n 3, 1) := by decide +kernel
theorem d12_35 : decode prog_47_method_4_code 35 = .ok (.aload_n 0, 1) := by decide +kernel
theorem d12_36 : decode prog_47_method_4_code 36 = .ok (.getfield 20, 3) := by decide +kernel
theorem d12_39 : decode prog_47_method_4_code 39 = .ok (.iload 4, 2) := by decide +kernel
theorem d12_41 : decode prog_47_method_4_code 41 = .ok (.iaload, 1) := by decide +kernel
theorem d12_42 : decode prog_47_method_4_code 42 = .ok (.iadd, 1) := by decide +kernel
theorem d12_43 : decode prog_47_method_4_code 43 = .ok (.laload, 1) := by decide +kernel
theorem d12_44 : decode prog_47_method_4_code 44 = .ok (.aload_n 0, 1) := by decide +kernel
theorem d12_45 : decode prog_47_method_4_code 45 = .ok (.getfield 23, 3) := by decide +kernel
theorem d12_48 : decode prog_47_method_4_code 48 = .ok (.iload 4, 2) := by decide +kernel
theorem d12_50 : decode prog_47_method_4_code 50 = .ok (.iaload, 1) := by decide +kernel
theorem d12_51 : decode prog_47_method_4_code 51 = .ok (.lushr, 1) := by decide +kernel
theorem d12_52 : decode prog_47_method_4_code 52 = .ok (.aload_n 0, 1) := by decide +kernel
theorem d12_53 : decode prog_47_method_4_code 53 = .ok (.getfield 26, 3) := by decide +kernel
theorem d12_56 : decode prog_47_method_4_code 56 = .ok (.iload 4, 2) := by decide +kernel
theorem d12_58 : decode prog_47_method_4_code 58 = .ok (.laload, 1) := by decide +kernel
theorem d12_59 : decode prog_47_method_4_code 59 = .ok (.land, 1) := by decide +kernel
theorem d12_60 : decode prog_47_method_4_code 60 = .ok (.l2i, 1) := by decide +kernel
theorem d12_61 : decode prog_47_method_4_code 61 = .ok (.iadd, 1) := by decide +kernel
theorem d12_62 : decode prog_47_method_4_code 62 = .ok (.iastore, 1) := by decide +kernel
theorem d12_63 : decode prog_47_method_4_code 63 = .ok (.iinc 4 1, 3) := by decide +kernel
theorem d12_66 : decode prog_47_method_4_code 66 = .ok (.goto (-56), 3) := by decide +kernel
theorem d12_69 : decode prog_47_method_4_code 69 = .ok (.return_, 1) := by decide +kernel
theorem pn_12 : plainName "com/example/heliotrope/heliotrope/language/StateStore" = true := by first | (simp [plainName, overriddenIn]; done) | decide +kernel
theorem ef_12 (m : MethodId) (x0 : Addr) (x1 : Int32) (x2 : Addr) : entryFrame m #[(.ref x0), (.int x1), (.ref x2)] 5 = mkF m 0 #[.val (.ref x0), .val (.int x1), .val (.ref x2), .unset, .unset] [] := by first | (simp [entryFrame, mkF, argsToLocals, Value.category]; done) | rfl
set_option maxRecDepth 65536 in
set_option maxHeartbeats 40000000 in
theorem rmVl0 (l : Launch) (Z : State) (a0 : Array Value) (hw : ∀ d ∈ tables_1, d.before a0 Z = true) (n0 : Nat) (h : Heap) (Z0 : n0 ≤ h.size) (a1 la wa sa ma pa a2 : Addr) (fl fo : Nat → Int32) (u1 u2 : Int32) (m0 m1 m2 : Int64) (gp : Nat → Int64) (rr : Int32) (kb : Nat) (wQ0 : Int64) (x0 x1 x2 : Int32) (hkb : rr.toInt = (kb : Int)) (hkb1 : kb ≤ 1) (hQ0 : gp (kb * 1 + 0) = wQ0) (hx0 : gtS wQ0 (0 : Int32) m0 (fl 0) = x0) (hx1 : gtS wQ0 u1 m1 (fl 1) = x1) (hx2 : gtS wQ0 u2 m2 (fl 2) = x2) (ga2 : n0 ≤ a2) (ne_a1_a2 : a1 ≠ a2) (ne_la_a2 : la ≠ a2) (ne_wa_a2 : wa ≠ a2) (ne_sa_a2 : sa ≠ a2) (ne_ma_a2 : ma ≠ a2) (ne_pa_a2 : pa ≠ a2) (E_a1 : Exa Z h a1 "com/example/heliotrope/heliotrope/language/StateStore") (F_a1_low : Fld Z h a1 "com/example/heliotrope/heliotrope/language/StateStore" "low" "[I" (.ref la)) (F_a1_word : Fld Z h a1 "com/example/heliotrope/heliotrope/language/StateStore" "word" "[I" (.ref wa)) (F_a1_shift : Fld Z h a1 "com/example/heliotrope/heliotrope/language/StateStore" "shift" "[I" (.ref sa)) (F_a1_mask : Fld Z h a1 "com/example/heliotrope/heliotrope/language/StateStore" "mask" "[J" (.ref ma)) (F_a1_packed : Fld Z h a1 "com/example/heliotrope/heliotrope/language/StateStore" "packed" "[J" (.ref pa)) (F_a1_words : Fld Z h a1 "com/example/heliotrope/heliotrope/language/StateStore" "words" "I" (.int (1 : Int32))) (A_la : AF Z h la .int 3 (fun j => .int (fl j))) (A_wa : AF Z h wa .int 3 (fun j => .int ((updI (updI (updI (fun _ => (0 : Int32)) 0 (0 : Int32)) 1 (0 : Int32)) 2 (0 : Int32)) j))) (A_sa : AF Z h sa .int 3 (fun j => .int ((updI (updI (updI (fun _ => (0 : Int32)) 0 (0 : Int32)) 1 u1) 2 u2) j))) (A_ma : AF Z h ma .long 3 (fun j => .long ((updJ (updJ (updJ (fun _ => (0 : Int64)) 0 m0) 1 m1) 2 m2) j))) (A_pa : AF Z h pa .long 16 (fun j => .long (gp j))) (A_a2 : AF Z h a2 .int 3 (fun j => .int (fo j))) :
    Met1 l Z n0 [] (⟨"com/example/heliotrope/heliotrope/language/StateStore", "values", "(I[I)V"⟩ : MethodName) prog_47_method_4_code 5 none ({ frames := 0, cells := 0, slots := 0, locals := 0 } : Room) #[(.ref a1), (.int rr), (.ref a2)] h (fun v h' => v = none ∧ Keep h h' [a2] ∧ AF Z h' a2 .int 3 (fun j => .int ((updI (updI (updI fo 0 x0) 1 x1) 2 x2) j))) := by
  refine met_of (plainFor_of_name pn_12) Z0 (fun m => ef_12 m a1 rr a2) ?_
  intro p e s m below meth c T hs0 X
  have K := Keep.refl h [a2]
  refine r_iloadN 1 X d12_0 rfl ?_
  refine r_aloadN 2 X d12_1 rfl rfl ?_
  refine r_getfield 5 X (host := "") (Or.inl (hw _ (List.mem_of_getElem? (i := 48) rfl))) Via.refl F_a1_words d12_2 ?_
  intro T X
  refine r_imul 6 X d12_5 ?_
  have hbs := own_mul1 hkb hkb1
  generalize (rr * (1 : Int32)) = bs at hbs ⊢
  refine r_istoreN 7 X #[.val (.ref a1), .val (.int rr), .val (.ref a2), .val (.int bs), .unset] d12_6 rfl ?_
  refine r_iconst 8 X (0 : Int32) d12_7 rfl ?_
  refine r_istore 10 X #[.val (.ref a1), .val (.int rr), .val (.ref a2), .val (.int bs), .val (.int (0 : Int32))] d12_8 rfl ?_
  refine r_iload 12 X d12_10 rfl ?_
  refine r_aloadN 13 X d12_12 rfl rfl ?_
  refine r_getfield 16 X (host := "") (Or.inl (hw _ (List.mem_of_getElem? (i := 30) rfl))) Via.refl F_a1_low d12_13 ?_
  intro T X
  refine r_arraylength 17 X A_la (3 : Int32) (by decide) d12_16 ?_
  refine r_icmpN 20 X d12_17 (tlt (by decide)).2.1 ?_
  refine r_aloadN 21 X d12_20 rfl rfl ?_
  refine r_iload 23 X d12_21 rfl ?_
  refine r_aloadN 24 X d12_23 rfl rfl ?_
  refine r_getfield 27 X (host := "") (Or.inl (hw _ (List.mem_of_getElem? (i := 30) rfl))) Via.refl F_a1_low d12_24 ?_
  intro T X
  refine r_iload 29 X d12_27 rfl ?_
  refine r_iaload 30 X A_la (i := 0) (v := (.int (fl 0))) (by decide) (by decide) rfl d12_29 ?_
  refine r_aloadN 31 X d12_30 rfl rfl ?_
  refine r_getfield 34 X (host := "") (Or.inl (hw _ (List.mem_of_getElem? (i := 52) rfl))) Via.refl F_a1_packed d12_31 ?_
  intro T X
  refine r_iloadN 35 X d12_34 rfl ?_
  refine r_aloadN 36 X d12_35 rfl rfl ?_
  refine r_getfield 39 X (host := "") (Or.inl (hw _ (List.mem_of_getElem? (i := 32) rfl))) Via.refl F_a1_word d12_36 ?_
  intro T X
  refine r_iload 41 X d12_39 rfl ?_
  refine r_iaload 42 X A_wa (i := 0) (v := (.int (0 : Int32))) (by decide) (by decide) rfl d12_41 ?_
  refine r_iadd 43 X d12_42 ?_
  refine r_laload 44 X A_pa (i := (kb * 1 + 0)) (v := (.long (gp (kb * 1 + 0)))) ((addI hbs (y := (0 : Int32)) (b := 0) rfl (by omega) (by omega)).trans (by omega)) (by omega) rfl d12_43 ?_
  refine r_topJ (x' := wQ0) hQ0 ?_
  refine r_aloadN 45 X d12_44 rfl rfl ?_
  refine r_getfield 48 X (host := "") (Or.inl (hw _ (List.mem_of_getElem? (i := 34) rfl))) Via.refl F_a1_shift d12_45 ?_
  intro T X
  refine r_iload 50 X d12_48 rfl ?_
  refine r_iaload 51 X A_sa (i := 0) (v := (.int (0 : Int32))) (by decide) (by decide) rfl d12_50 ?_
  refine r_lushr 52 X d12_51 ?_
  refine r_aloadN 53 X d12_52 rfl rfl ?_
  refine r_getfield 56 X (host := "") (Or.inl (hw _ (List.mem_of_getElem? (i := 37) rfl))) Via.refl F_a1_mask d12_53 ?_
  intro T X
  refine r_iload 58 X d12_56 rfl ?_
  refine r_laload 59 X A_ma (i := 0) (v := (.long m0)) (by decide) (by decide) rfl d12_58 ?_
  refine r_land 60 X d12_59 ?_
  refine r_l2i 61 X d12_60 ?_
  refine r_iadd 62 X d12_61 ?_
  refine r_topI (x' := x0) hx0 ?_
  refine r_iastore 63 X A_a2 (i := 0) (v := (.int x0)) (by decide) (by decide) rfl ga2 d12_62 ?_
  intro T h1 W1 X
  have K := K.wr W1 (Or.inl (List.mem_of_getElem? (i := 0) rfl))
  have E_a1 := E_a1.wr W1
  have F_a1_low := F_a1_low.other W1 (Or.inl ne_a1_a2)
  have F_a1_word := F_a1_word.other W1 (Or.inl ne_a1_a2)
  have F_a1_shift := F_a1_shift.other W1 (Or.inl ne_a1_a2)
  have F_a1_mask := F_a1_mask.other W1 (Or.inl ne_a1_a2)
  have F_a1_packed := F_a1_packed.other W1 (Or.inl ne_a1_a2)
  have F_a1_words := F_a1_words.other W1 (Or.inl ne_a1_a2)
  have A_la := A_la.other W1 ne_la_a2
  have A_wa := A_wa.other W1 ne_wa_a2
  have A_sa := A_sa.other W1 ne_sa_a2
  have A_ma := A_ma.other W1 ne_ma_a2
  have A_pa := A_pa.other W1 ne_pa_a2
  have A_a2 := A_a2.setI W1
  refine r_iinc 66 X (1 : Int32) #[.val (.ref a1), .val (.int rr), .val (.ref a2), .val (.int bs), .val (.int (1 : Int32))] d12_63 rfl rfl rfl ?_
  refine r_goto 10 X d12_66 ?_
  refine r_iload 12 X d12_10 rfl ?_
  refine r_aloadN 13 X d12_12 rfl rfl ?_
  refine r_getfield 16 X (host := "") (Or.inl (hw _ (List.mem_of_getElem? (i := 30) rfl))) Via.refl F_a1_low d12_13 ?_
  intro T X
  refine r_arraylength 17 X A_la (3 : Int32) (by decide) d12_16 ?_
  refine r_icmpN 20 X d12_17 (tlt (by decide)).2.1 ?_
  refine r_aloadN 21 X d12_20 rfl rfl ?_
  refine r_iload 23 X d12_21 rfl ?_
  refine r_aloadN 24 X d12_23 rfl rfl ?_
  refine r_getfield 27 X (host := "") (Or.inl (hw _ (List.mem_of_getElem? (i := 30) rfl))) Via.refl F_a1_low d12_24 ?_
  intro T X
  refine r_iload 29 X d12_27 rfl ?_
  refine r_iaload 30 X A_la (i := 1) (v := (.int (fl 1))) (by decide) (by decide) rfl d12_29 ?_
  refine r_aloadN 31 X d12_30 rfl rfl ?_
  refine r_getfield 34 X (host := "") (Or.inl (hw _ (List.mem_of_getElem? (i := 52) rfl))) Via.refl F_a1_packed d12_31 ?_
  intro T X
  refine r_iloadN 35 X d12_34 rfl ?_
  refine r_aloadN 36 X d12_35 rfl rfl ?_
  refine r_getfield 39 X (host := "") (Or.inl (hw _ (List.mem_of_getElem? (i := 32) rfl))) Via.refl F_a1_word d12_36 ?_
  intro T X
  refine r_iload 41 X d12_39 rfl ?_
  refine r_iaload 42 X A_wa (i := 1) (v := (.int (0 : Int32))) (by decide) (by decide) rfl d12_41 ?_
  refine r_iadd 43 X d12_42 ?_
  refine r_laload 44 X A_pa (i := (kb * 1 + 0)) (v := (.long (gp (kb * 1 + 0)))) ((addI hbs (y := (0 : Int32)) (b := 0) rfl (by omega) (by omega)).trans (by omega)) (by omega) rfl d12_43 ?_
  refine r_topJ (x' := wQ0) hQ0 ?_
  refine r_aloadN 45 X d12_44 rfl rfl ?_
  refine r_getfield 48 X (host := "") (Or.inl (hw _ (List.mem_of_getElem? (i := 34) rfl))) Via.refl F_a1_shift d12_45 ?_
  intro T X
  refine r_iload 50 X d12_48 rfl ?_
  refine r_iaload 51 X A_sa (i := 1) (v := (.int u1)) (by decide) (by decide) rfl d12_50 ?_
  refine r_lushr 52 X d12_51 ?_
  refine r_aloadN 53 X d12_52 rfl rfl ?_
  refine r_getfield 56 X (host := "") (Or.inl (hw _ (List.mem_of_getElem? (i := 37) rfl))) Via.refl F_a1_mask d12_53 ?_
  intro T X
  refine r_iload 58 X d12_56 rfl ?_
  refine r_laload 59 X A_ma (i := 1) (v := (.long m1)) (by decide) (by decide) rfl d12_58 ?_
  refine r_land 60 X d12_59 ?_
  refine r_l2i 61 X d12_60 ?_
  refine r_iadd 62 X d12_61 ?_
  refine r_topI (x' := x1) hx1 ?_
  refine r_iastore 63 X A_a2 (i := 1) (v := (.int x1)) (by decide) (by decide) rfl ga2 d12_62 ?_
  intro T h2 W2 X
  have K := K.wr W2 (Or.inl (List.mem_of_getElem? (i := 0) rfl))
  have E_a1 := E_a1.wr W2
  have F_a1_low := F_a1_low.other W2 (Or.inl ne_a1_a2)
  have F_a1_word := F_a1_word.other W2 (Or.inl ne_a1_a2)
  have F_a1_shift := F_a1_shift.other W2 (Or.inl ne_a1_a2)
  have F_a1_mask := F_a1_mask.other W2 (Or.inl ne_a1_a2)
  have F_a1_packed := F_a1_packed.other W2 (Or.inl ne_a1_a2)
  have F_a1_words := F_a1_words.other W2 (Or.inl ne_a1_a2)
  have A_la := A_la.other W2 ne_la_a2
  have A_wa := A_wa.other W2 ne_wa_a2
  have A_sa := A_sa.other W2 ne_sa_a2
  have A_ma := A_ma.other W2 ne_ma_a2
  have A_pa := A_pa.other W2 ne_pa_a2
  have A_a2 := A_a2.setI W2
  refine r_iinc 66 X (1 : Int32) #[.val (.ref a1), .val (.int rr), .val (.ref a2), .val (.int bs), .val (.int (2 : Int32))] d12_63 rfl rfl rfl ?_
  refine r_goto 10 X d12_66 ?_
  refine r_iload 12 X d12_10 rfl ?_
  refine r_aloadN 13 X d12_12 rfl rfl ?_
  refine r_getfield 16 X (host := "") (Or.inl (hw _ (List.mem_of_getElem? (i := 30) rfl))) Via.refl F_a1_low d12_13 ?_
  intro T X
  refine r_arraylength 17 X A_la (3 : Int32) (by decide) d12_16 ?_
  refine r_icmpN 20 X d12_17 (tlt (by decide)).2.1 ?_
  refine r_aloadN 21 X d12_20 rfl rfl ?_
  refine r_iload 23 X d12_21 rfl ?_
  refine r_aloadN 24 X d12_23 rfl rfl ?_
  refine r_getfield 27 X (host := "") (Or.inl (hw _ (List.mem_of_getElem? (i := 30) rfl))) Via.refl F_a1_low d12_24 ?_
  intro T X
  refine r_iload 29 X d12_27 rfl ?_
  refine r_iaload 30 X A_la (i := 2) (v := (.int (fl 2))) (by decide) (by decide) rfl d12_29 ?_
  refine r_aloadN 31 X d12_30 rfl rfl ?_
  refine r_getfield 34 X (host := "") (Or.inl (hw _ (List.mem_of_getElem? (i := 52) rfl))) Via.refl F_a1_packed d12_31 ?_
  intro T X
  refine r_iloadN 35 X d12_34 rfl ?_
  refine r_aloadN 36 X d12_35 rfl rfl ?_
  refine r_getfield 39 X (host := "") (Or.inl (hw _ (List.mem_of_getElem? (i := 32) rfl))) Via.refl F_a1_word d12_36 ?_
  intro T X
  refine r_iload 41 X d12_39 rfl ?_
  refine r_iaload 42 X A_wa (i := 2) (v := (.int (0 : Int32))) (by decide) (by decide) rfl d12_41 ?_
  refine r_iadd 43 X d12_42 ?_
  refine r_laload 44 X A_pa (i := (kb * 1 + 0)) (v := (.long (gp (kb * 1 + 0)))) ((addI hbs (y := (0 : Int32)) (b := 0) rfl (by omega) (by omega)).trans (by omega)) (by omega) rfl d12_43 ?_
  refine r_topJ (x' := wQ0) hQ0 ?_
  refine r_aloadN 45 X d12_44 rfl rfl ?_
  refine r_getfield 48 X (host := "") (Or.inl (hw _ (List.mem_of_getElem? (i := 34) rfl))) Via.refl F_a1_shift d12_45 ?_
  intro T X
  refine r_iload 50 X d12_48 rfl ?_
  refine r_iaload 51 X A_sa (i := 2) (v := (.int u2)) (by decide) (by decide) rfl d12_50 ?_
  refine r_lushr 52 X d12_51 ?_
  refine r_aloadN 53 X d12_52 rfl rfl ?_
  refine r_getfield 56 X (host := "") (Or.inl (hw _ (List.mem_of_getElem? (i := 37) rfl))) Via.refl F_a1_mask d12_53 ?_
  intro T X
  refine r_iload 58 X d12_56 rfl ?_
  refine r_laload 59 X A_ma (i := 2) (v := (.long m2)) (by decide) (by decide) rfl d12_58 ?_
  refine r_land 60 X d12_59 ?_
  refine r_l2i 61 X d12_60 ?_
  refine r_iadd 62 X d12_61 ?_
  refine r_topI (x' := x2) hx2 ?_
  refine r_iastore 63 X A_a2 (i := 2) (v := (.int x2)) (by decide) (by decide) rfl ga2 d12_62 ?_
  intro T h3 W3 X
  have K := K.wr W3 (Or.inl (List.mem_of_getElem? (i := 0) rfl))
  have E_a1 := E_a1.wr W3
  have F_a1_low := F_a1_low.other W3 (Or.inl ne_a1_a2)
  have F_a1_word := F_a1_word.other W3 (Or.inl ne_a1_a2)
  have F_a1_shift := F_a1_shift.other W3 (Or.inl ne_a1_a2)
  have F_a1_mask := F_a1_mask.other W3 (Or.inl ne_a1_a2)
  have F_a1_packed := F_a1_packed.other W3 (Or.inl ne_a1_a2)
  have F_a1_words := F_a1_words.other W3 (Or.inl ne_a1_a2)
  have A_la := A_la.other W3 ne_la_a2
  have A_wa := A_wa.other W3 ne_wa_a2
  have A_sa := A_sa.other W3 ne_sa_a2
  have A_ma := A_ma.other W3 ne_ma_a2
  have A_pa := A_pa.other W3 ne_pa_a2
  have A_a2 := A_a2.setI W3
  refine r_iinc 66 X (1 : Int32) #[.val (.ref a1), .val (.int rr), .val (.ref a2), .val (.int bs), .val (.int (3 : Int32))] d12_63 rfl rfl rfl ?_
  refine r_goto 10 X d12_66 ?_
  refine r_iload 12 X d12_10 rfl ?_
  refine r_aloadN 13 X d12_12 rfl rfl ?_
  refine r_getfield 16 X (host := "") (Or.inl (hw _ (List.mem_of_getElem? (i := 30) rfl))) Via.refl F_a1_low d12_13 ?_
  intro T X
  refine r_arraylength 17 X A_la (3 : Int32) (by decide) d12_16 ?_
  refine r_icmpY 69 X d12_17 (flt (by decide)).2.1 ?_
  refine r_retV X d12_69 (by decide) (by decide) ?_
  exact ⟨rfl, K, A_a2⟩
set_option maxRecDepth 65536 in
set_option maxHeartbeats 40000000 in
theorem rmVl1 (l : Launch) (Z : State) (a0 : Array Value) (hw : ∀ d ∈ tables_1, d.before a0 Z = true) (n0 : Nat) (h : Heap) (Z0 : n0 ≤ h.size) (a1 la wa sa ma pa a2 : Addr) (fl fo : Nat → Int32) (u1 : Int32) (m0 m1 m2 : Int64) (gp : Nat → Int64) (rr : Int32) (kb : Nat) (wQ0 wQ1 : Int64) (x0 x1 x2 : Int32) (hkb : rr.toInt = (kb : Int)) (hkb1 : kb ≤ 1) (hQ0 : gp (kb * 2 + 0) = wQ0) (hQ1 : gp (kb * 2 + 1) = wQ1) (hx0 : gtS wQ0 (0 : Int32) m0 (fl 0) = x0) (hx1 : gtS wQ0 u1 m1 (fl 1) = x1) (hx2 : gtS wQ1 (0 : Int32) m2 (fl 2) = x2) (ga2 : n0 ≤ a2) (ne_a1_a2 : a1 ≠ a2) (ne_la_a2 : la ≠ a2) (ne_wa_a2 : wa ≠ a2) (ne_sa_a2 : sa ≠ a2) (ne_ma_a2 : ma ≠ a2) (ne_pa_a2 : pa ≠ a2) (E_a1 : Exa Z h a1 "com/example/heliotrope/heliotrope/language/StateStore") (F_a1_low : Fld Z h a1 "com/example/heliotrope/heliotrope/language/StateStore" "low" "[I" (.ref la)) (F_a1_word : Fld Z h a1 "com/example/heliotrope/heliotrope/language/StateStore" "word" "[I" (.ref wa)) (F_a1_shift : Fld Z h a1 "com/example/heliotrope/heliotrope/language/StateStore" "shift" "[I" (.ref sa)) (F_a1_mask : Fld Z h a1 "com/example/heliotrope/heliotrope/language/StateStore" "mask" "[J" (.ref ma)) (F_a1_packed : Fld Z h a1 "com/example/heliotrope/heliotrope/language/StateStore" "packed" "[J" (.ref pa)) (F_a1_words : Fld Z h a1 "com/example/heliotrope/heliotrope/language/StateStore" "words" "I" (.int (2 : Int32))) (A_la : AF Z h la .int 3 (fun j => .int (fl j))) (A_wa : AF Z h wa .int 3 (fun j => .int ((updI (updI (updI (fun _ => (0 : Int32)) 0 (0 : Int32)) 1 (0 : Int32)) 2 (1 : Int32)) j))) (A_sa : AF Z h sa .int 3 (fun j => .int ((updI (updI (updI (fun _ => (0 : Int32)) 0 (0 : Int32)) 1 u1) 2 (0 : Int32)) j))) (A_ma : AF Z h ma .long 3 (fun j => .long ((updJ (updJ (updJ (fun _ => (0 : Int64)) 0 m0) 1 m1) 2 m2) j))) (A_pa : AF Z h pa .long 32 (fun j => .long (gp j))) (A_a2 : AF Z h a2 .int 3 (fun j => .int (fo j))) :
    Met1 l Z n0 [] (⟨"com/example/heliotrope/heliotrope/language/StateStore", "values", "(I[I)V"⟩ : MethodName) prog_47_method_4_code 5 none ({ frames := 0, cells := 0, slots := 0, locals := 0 } : Room) #[(.ref a1), (.int rr), (.ref a2)] h (fun v h' => v = none ∧ Keep h h' [a2] ∧ AF Z h' a2 .int 3 (fun j => .int ((updI (updI (updI fo 0 x0) 1 x1) 2 x2) j))) := by
  refine met_of (plainFor_of_name pn_12) Z0 (fun m => ef_12 m a1 rr a2) ?_
  intro p e s m below meth c T hs0 X
  have K := Keep.refl h [a2]
  refine r_iloadN 1 X d12_0 rfl ?_
  refine r_aloadN 2 X d12_1 rfl rfl ?_
  refine r_getfield 5 X (host := "") (Or.inl (hw _ (List.mem_of_getElem? (i := 48) rfl))) Via.refl F_a1_words d12_2 ?_
  intro T X
  refine r_imul 6 X d12_5 ?_
  have hbs := own_mul2 hkb hkb1
  generalize (rr * (2 : Int32)) = bs at hbs ⊢
  refine r_istoreN 7 X #[.val (.ref a1), .val (.int rr), .val (.ref a2), .val (.int bs), .unset] d12_6 rfl ?_
  refine r_iconst 8 X (0 : Int32) d12_7 rfl ?_
  refine r_istore 10 X #[.val (.ref a1), .val (.int rr), .val (.ref a2), .val (.int bs), .val (.int (0 : Int32))] d12_8 rfl ?_
  refine r_iload 12 X d12_10 rfl ?_
  refine r_aloadN 13 X d12_12 rfl rfl ?_
  refine r_getfield 16 X (host := "") (Or.inl (hw _ (List.mem_of_getElem? (i := 30) rfl))) Via.refl F_a1_low d12_13 ?_
  intro T X
  refine r_arraylength 17 X A_la (3 : Int32) (by decide) d12_16 ?_
  refine r_icmpN 20 X d12_17 (tlt (by decide)).2.1 ?_
  refine r_aloadN 21 X d12_20 rfl rfl ?_
  refine r_iload 23 X d12_21 rfl ?_
  refine r_aloadN 24 X d12_23 rfl rfl ?_
  refine r_getfield 27 X (host := "") (Or.inl (hw _ (List.mem_of_getElem? (i := 30) rfl))) Via.refl F_a1_low d12_24 ?_
  intro T X
  refine r_iload 29 X d12_27 rfl ?_
  refine r_iaload 30 X A_la (i := 0) (v := (.int (fl 0))) (by decide) (by decide) rfl d12_29 ?_
  refine r_aloadN 31 X d12_30 rfl rfl ?_
  refine r_getfield 34 X (host := "") (Or.inl (hw _ (List.mem_of_getElem? (i := 52) rfl))) Via.refl F_a1_packed d12_31 ?_
  intro T X
  refine r_iloadN 35 X d12_34 rfl ?_
  refine r_aloadN 36 X d12_35 rfl rfl ?_
  refine r_getfield 39 X (host := "") (Or.inl (hw _ (List.mem_of_getElem? (i := 32) rfl))) Via.refl F_a1_word d12_36 ?_
  intro T X
  refine r_iload 41 X d12_39 rfl ?_
  refine r_iaload 42 X A_wa (i := 0) (v := (.int (0 : Int32))) (by decide) (by decide) rfl d12_41 ?_
  refine r_iadd 43 X d12_42 ?_
  refine r_laload 44 X A_pa (i := (kb * 2 + 0)) (v := (.long (gp (kb * 2 + 0)))) ((addI hbs (y := (0 : Int32)) (b := 0) rfl (by omega) (by omega)).trans (by omega)) (by omega) rfl d12_43 ?_
  refine r_topJ (x' := wQ0) hQ0 ?_
  refine r_aloadN 45 X d12_44 rfl rfl ?_
  refine r_getfield 48 X (host := "") (Or.inl (hw _ (List.mem_of_getElem? (i := 34) rfl))) Via.refl F_a1_shift d12_45 ?_
  intro T X
  refine r_iload 50 X d12_48 rfl ?_
  refine r_iaload 51 X A_sa (i := 0) (v := (.int (0 : Int32))) (by decide) (by decide) rfl d12_50 ?_
  refine r_lushr 52 X d12_51 ?_
  refine r_aloadN 53 X d12_52 rfl rfl ?_
  refine r_getfield 56 X (host := "") (Or.inl (hw _ (List.mem_of_getElem? (i := 37) rfl))) Via.refl F_a1_mask d12_53 ?_
  intro T X
  refine r_iload 58 X d12_56 rfl ?_
  refine r_laload 59 X A_ma (i := 0) (v := (.long m0)) (by decide) (by decide) rfl d12_58 ?_
  refine r_land 60 X d12_59 ?_
  refine r_l2i 61 X d12_60 ?_
  refine r_iadd 62 X d12_61 ?_
  refine r_topI (x' := x0) hx0 ?_
  refine r_iastore 63 X A_a2 (i := 0) (v := (.int x0)) (by decide) (by decide) rfl ga2 d12_62 ?_
  intro T h1 W1 X
  have K := K.wr W1 (Or.inl (List.mem_of_getElem? (i := 0) rfl))
  have E_a1 := E_a1.wr W1
  have F_a1_low := F_a1_low.other W1 (Or.inl ne_a1_a2)
  have F_a1_word := F_a1_word.other W1 (Or.inl ne_a1_a2)
  have F_a1_shift := F_a1_shift.other W1 (Or.inl ne_a1_a2)
  have F_a1_mask := F_a1_mask.other W1 (Or.inl ne_a1_a2)
  have F_a1_packed := F_a1_packed.other W1 (Or.inl ne_a1_a2)
  have F_a1_words := F_a1_words.other W1 (Or.inl ne_a1_a2)
  have A_la := A_la.other W1 ne_la_a2
  have A_wa := A_wa.other W1 ne_wa_a2
  have A_sa := A_sa.other W1 ne_sa_a2
  have A_ma := A_ma.other W1 ne_ma_a2
  have A_pa := A_pa.other W1 ne_pa_a2
  have A_a2 := A_a2.setI W1
  refine r_iinc 66 X (1 : Int32) #[.val (.ref a1), .val (.int rr), .val (.ref a2), .val (.int bs), .val (.int (1 : Int32))] d12_63 rfl rfl rfl ?_
  refine r_goto 10 X d12_66 ?_
  refine r_iload 12 X d12_10 rfl ?_
  refine r_aloadN 13 X d12_12 rfl rfl ?_
  refine r_getfield 16 X (host := "") (Or.inl (hw _ (List.mem_of_getElem? (i := 30) rfl))) Via.refl F_a1_low d12_13 ?_
  intro T X
  refine r_arraylength 17 X A_la (3 : Int32) (by decide) d12_16 ?_
  refine r_icmpN 20 X d12_17 (tlt (by decide)).2.1 ?_
  refine r_aloadN 21 X d12_20 rfl rfl ?_
  refine r_iload 23 X d12_21 rfl ?_
  refine r_aloadN 24 X d12_23 rfl rfl ?_
  refine r_getfield 27 X (host := "") (Or.inl (hw _ (List.mem_of_getElem? (i := 30) rfl))) Via.refl F_a1_low d12_24 ?_
  intro T X
  refine r_iload 29 X d12_27 rfl ?_
  refine r_iaload 30 X A_la (i := 1) (v := (.int (fl 1))) (by decide) (by decide) rfl d12_29 ?_
  refine r_aloadN 31 X d12_30 rfl rfl ?_
  refine r_getfield 34 X (host := "") (Or.inl (hw _ (List.mem_of_getElem? (i := 52) rfl))) Via.refl F_a1_packed d12_31 ?_
  intro T X
  refine r_iloadN 35 X d12_34 rfl ?_
  refine r_aloadN 36 X d12_35 rfl rfl ?_
  refine r_getfield 39 X (host := "") (Or.inl (hw _ (List.mem_of_getElem? (i := 32) rfl))) Via.refl F_a1_word d12_36 ?_
  intro T X
  refine r_iload 41 X d12_39 rfl ?_
  refine r_iaload 42 X A_wa (i := 1) (v := (.int (0 : Int32))) (by decide) (by decide) rfl d12_41 ?_
  refine r_iadd 43 X d12_42 ?_
  refine r_laload 44 X A_pa (i := (kb * 2 + 0)) (v := (.long (gp (kb * 2 + 0)))) ((addI hbs (y := (0 : Int32)) (b := 0) rfl (by omega) (by omega)).trans (by omega)) (by omega) rfl d12_43 ?_
  refine r_topJ (x' := wQ0) hQ0 ?_
  refine r_aloadN 45 X d12_44 rfl rfl ?_
  refine r_getfield 48 X (host := "") (Or.inl (hw _ (List.mem_of_getElem? (i := 34) rfl))) Via.refl F_a1_shift d12_45 ?_
  intro T X
  refine r_iload 50 X d12_48 rfl ?_
  refine r_iaload 51 X A_sa (i := 1) (v := (.int u1)) (by decide) (by decide) rfl d12_50 ?_
  refine r_lushr 52 X d12_51 ?_
  refine r_aloadN 53 X d12_52 rfl rfl ?_
  refine r_getfield 56 X (host := "") (Or.inl (hw _ (List.mem_of_getElem? (i := 37) rfl))) Via.refl F_a1_mask d12_53 ?_
  intro T X
  refine r_iload 58 X d12_56 rfl ?_
  refine r_laload 59 X A_ma (i := 1) (v := (.long m1)) (by decide) (by decide) rfl d12_58 ?_
  refine r_land 60 X d12_59 ?_
  refine r_l2i 61 X d12_60 ?_
  refine r_iadd 62 X d12_61 ?_
  refine r_topI (x' := x1) hx1 ?_
  refine r_iastore 63 X A_a2 (i := 1) (v := (.int x1)) (by decide) (by decide) rfl ga2 d12_62 ?_
  intro T h2 W2 X
  have K := K.wr W2 (Or.inl (List.mem_of_getElem? (i := 0) rfl))
  have E_a1 := E_a1.wr W2
  have F_a1_low := F_a1_low.other W2 (Or.inl ne_a1_a2)
  have F_a1_word := F_a1_word.other W2 (Or.inl ne_a1_a2)
  have F_a1_shift := F_a1_shift.other W2 (Or.inl ne_a1_a2)
  have F_a1_mask := F_a1_mask.other W2 (Or.inl ne_a1_a2)
  have F_a1_packed := F_a1_packed.other W2 (Or.inl ne_a1_a2)
  have F_a1_words := F_a1_words.other W2 (Or.inl ne_a1_a2)
  have A_la := A_la.other W2 ne_la_a2
  have A_wa := A_wa.other W2 ne_wa_a2
  have A_sa := A_sa.other W2 ne_sa_a2
  have A_ma := A_ma.other W2 ne_ma_a2
  have A_pa := A_pa.other W2 ne_pa_a2
  have A_a2 := A_a2.setI W2
  refine r_iinc 66 X (1 : Int32) #[.val (.ref a1), .val (.int rr), .val (.ref a2), .val (.int bs), .val (.int (2 : Int32))] d12_63 rfl rfl rfl ?_
  refine r_goto 10 X d12_66 ?_
  refine r_iload 12 X d12_10 rfl ?_
  refine r_aloadN 13 X d12_12 rfl rfl ?_
  refine r_getfield 16 X (host := "") (Or.inl (hw _ (List.mem_of_getElem? (i := 30) rfl))) Via.refl F_a1_low d12_13 ?_
  intro T X
  refine r_arraylength 17 X A_la (3 : Int32) (by decide) d12_16 ?_
  refine r_icmpN 20 X d12_17 (tlt (by decide)).2.1 ?_
  refine r_aloadN 21 X d12_20 rfl rfl ?_
  refine r_iload 23 X d12_21 rfl ?_
  refine r_aloadN 24 X d12_23 rfl rfl ?_
  refine r_getfield 27 X (host := "") (Or.inl (hw _ (List.mem_of_getElem? (i := 30) rfl))) Via.refl F_a1_low d12_24 ?_
  intro T X
  refine r_iload 29 X d12_27 rfl ?_
  refine r_iaload 30 X A_la (i := 2) (v := (.int (fl 2))) (by decide) (by decide) rfl d12_29 ?_
  refine r_aloadN 31 X d12_30 rfl rfl ?_
  refine r_getfield 34 X (host := "") (Or.inl (hw _ (List.mem_of_getElem? (i := 52) rfl))) Via.refl F_a1_packed d12_31 ?_
  intro T X
  refine r_iloadN 35 X d12_34 rfl ?_
  refine r_aloadN 36 X d12_35 rfl rfl ?_
  refine r_getfield 39 X (host := "") (Or.inl (hw _ (List.mem_of_getElem? (i := 32) rfl))) Via.refl F_a1_word d12_36 ?_
  intro T X
  refine r_iload 41 X d12_39 rfl ?_
  refine r_iaload 42 X A_wa (i := 2) (v := (.int (1 : Int32))) (by decide) (by decide) rfl d12_41 ?_
  refine r_iadd 43 X d12_42 ?_
  refine r_laload 44 X A_pa (i := (kb * 2 + 1)) (v := (.long (gp (kb * 2 + 1)))) ((addI hbs (y := (1 : Int32)) (b := 1) rfl (by omega) (by omega)).trans (by omega)) (by omega) rfl d12_43 ?_
  refine r_topJ (x' := wQ1) hQ1 ?_
  refine r_aloadN 45 X d12_44 rfl rfl ?_
  refine r_getfield 48 X (host := "") (Or.inl (hw _ (List.mem_of_getElem? (i := 34) rfl))) Via.refl F_a1_shift d12_45 ?_
  intro T X
  refine r_iload 50 X d12_48 rfl ?_
  refine r_iaload 51 X A_sa (i := 2) (v := (.int (0 : Int32))) (by decide) (by decide) rfl d12_50 ?_
  refine r_lushr 52 X d12_51 ?_
  refine r_aloadN 53 X d12_52 rfl rfl ?_
  refine r_getfield 56 X (host := "") (Or.inl (hw _ (List.mem_of_getElem? (i := 37) rfl))) Via.refl F_a1_mask d12_53 ?_
  intro T X
  refine r_iload 58 X d12_56 rfl ?_
  refine r_laload 59 X A_ma (i := 2) (v := (.long m2)) (by decide) (by decide) rfl d12_58 ?_
  refine r_land 60 X d12_59 ?_
  refine r_l2i 61 X d12_60 ?_
  refine r_iadd 62 X d12_61 ?_
  refine r_topI (x' := x2) hx2 ?_
  refine r_iastore 63 X A_a2 (i := 2) (v := (.int x2)) (by decide) (by decide) rfl ga2 d12_62 ?_
  intro T h3 W3 X
  have K := K.wr W3 (Or.inl (List.mem_of_getElem? (i := 0) rfl))
  have E_a1 := E_a1.wr W3
  have F_a1_low := F_a1_low.other W3 (Or.inl ne_a1_a2)
  have F_a1_word := F_a1_word.other W3 (Or.inl ne_a1_a2)
  have F_a1_shift := F_a1_shift.other W3 (Or.inl ne_a1_a2)
  have F_a1_mask := F_a1_mask.other W3 (Or.inl ne_a1_a2)
  have F_a1_packed := F_a1_packed.other W3 (Or.inl ne_a1_a2)
  have F_a1_words := F_a1_words.other W3 (Or.inl ne_a1_a2)
  have A_la := A_la.other W3 ne_la_a2
  have A_wa := A_wa.other W3 ne_wa_a2
  have A_sa := A_sa.other W3 ne_sa_a2
  have A_ma := A_ma.other W3 ne_ma_a2
  have A_pa := A_pa.other W3 ne_pa_a2
  have A_a2 := A_a2.setI W3
  refine r_iinc 66 X (1 : Int32) #[.val (.ref a1), .val (.int rr), .val (.ref a2), .val (.int bs), .val (.int (3 : Int32))] d12_63 rfl rfl rfl ?_
  refine r_goto 10 X d12_66 ?_
  refine r_iload 12 X d12_10 rfl ?_
  refine r_aloadN 13 X d12_12 rfl rfl ?_
  refine r_getfield 16 X (host := "") (Or.inl (hw _ (List.mem_of_getElem? (i := 30) rfl))) Via.refl F_a1_low d12_13 ?_
  intro T X
  refine r_arraylength 17 X A_la (3 : Int32) (by decide) d12_16 ?_
  refine r_icmpY 69 X d12_17 (flt (by decide)).2.1 ?_
  refine r_retV X d12_69 (by decide) (by decide) ?_
  exact ⟨rfl, K, A_a2⟩
theorem d13_0 : decode method_4_code 0 = .ok (.aload_n 0, 1) := by decide +kernel
theorem d13_1 : decode method_4_code 1 = .ok (.iconst 0, 1) := by decide +kernel
theorem d13_2 : decode method_4_code 2 = .ok (.iaload, 1) := by decide +kernel
theorem d13_3 : decode method_4_code 3 = .ok (.aload_n 1, 1) := by decide +kernel
theorem d13_4 : decode method_4_code 4 = .ok (.iconst 0, 1) := by decide +kernel
theorem d13_5 : decode method_4_code 5 = .ok (.iaload, 1) := by decide +kernel
theorem d13_6 : decode method_4_code 6 = .ok (.if_icmp .ne 25, 3) := by decide +kernel
theorem d13_9 : decode method_4_code 9 = .ok (.aload_n 0, 1) := by decide +kernel
theorem d13_10 : decode method_4_code 10 = .ok (.iconst 1, 1) := by decide +kernel
theorem d13_11 : decode method_4_code 11 = .ok (.iaload, 1) := by decide +kernel
theorem d13_12 : decode method_4_code 12 = .ok (.aload_n 1, 1) := by decide +kernel
theorem d13_13 : decode method_4_code 13 = .ok (.iconst 1, 1) := by decide +kernel
theorem d13_14 : decode method_4_code 14 = .ok (.iaload, 1) := by decide +kernel
theorem d13_15 : decode method_4_code 15 = .ok (.if_icmp .ne 16, 3) := by decide +kernel
theorem d13_18 : decode method_4_code 18 = .ok (.aload_n 0, 1) := by decide +kernel
theorem d13_19 : decode method_4_code 19 = .ok (.iconst 2, 1) := by decide +kernel
theorem d13_20 : decode method_4_code 20 = .ok (.iaload, 1) := by decide +kernel
theorem d13_21 : decode method_4_code 21 = .ok (.aload_n 1, 1) := by decide +kernel
theorem d13_22 : decode method_4_code 22 = .ok (.iconst 2, 1) := by decide +kernel
theorem d13_23 : decode method_4_code 23 = .ok (.iaload, 1) := by decide +kernel
theorem d13_24 : decode method_4_code 24 = .ok (.if_icmp .ne 7, 3) := by decide +kernel
theorem d13_27 : decode method_4_code 27 = .ok (.iconst 1, 1) := by decide +kernel
theorem d13_28 : decode method_4_code 28 = .ok (.goto 4, 3) := by decide +kernel
theorem d13_32 : decode method_4_code 32 = .ok (.ireturn, 1) := by decide +kernel
theorem pn_13 : plainName "com/example/heliotrope/heliotrope/language/StateStoreValuesPinLaw" = true := by first | (simp [plainName, overriddenIn]; done) | decide +kernel
theorem ef_13 (m : MethodId) (x0 : Addr) (x1 : Addr) : entryFrame m #[(.ref x0), (.ref x1)] 2 = mkF m 0 #[.val (.ref x0), .val (.ref x1)] [] := by first | (simp [entryFrame, mkF, argsToLocals, Value.category]; done) | rfl
set_option maxRecDepth 65536 in
set_option maxHeartbeats 40000000 in
theorem rmSm (l : Launch) (Z : State) (a0 : Array Value) (hw : ∀ d ∈ tables_1, d.before a0 Z = true) (n0 : Nat) (h : Heap) (Z0 : n0 ≤ h.size) (a1 a2 : Addr) (f g : Nat → Int32) (e0 : f 0 = g 0) (e1 : f 1 = g 1) (e2 : f 2 = g 2) (A_a1 : AF Z h a1 .int 3 (fun j => .int (f j))) (A_a2 : AF Z h a2 .int 3 (fun j => .int (g j))) :
    Met1 l Z n0 [] (⟨"com/example/heliotrope/heliotrope/language/StateStoreValuesPinLaw", "same", "([I[I)Z"⟩ : MethodName) method_4_code 2 (some .boolean) ({ frames := 0, cells := 0, slots := 0, locals := 0 } : Room) #[(.ref a1), (.ref a2)] h (fun v h' => v = some (.int 1) ∧ h = h') := by
  refine met_of (plainFor_of_name pn_13) Z0 (fun m => ef_13 m a1 a2) ?_
  intro p e s m below meth c T hs0 X
  refine r_aloadN 1 X d13_0 rfl rfl ?_
  refine r_iconst 2 X (0 : Int32) d13_1 rfl ?_
  refine r_iaload 3 X A_a1 (i := 0) (v := (.int (f 0))) (by decide) (by decide) rfl d13_2 ?_
  refine r_aloadN 4 X d13_3 rfl rfl ?_
  refine r_iconst 5 X (0 : Int32) d13_4 rfl ?_
  refine r_iaload 6 X A_a2 (i := 0) (v := (.int (g 0))) (by decide) (by decide) rfl d13_5 ?_
  refine r_icmpN 9 X d13_6 (teq e0).2 ?_
  refine r_aloadN 10 X d13_9 rfl rfl ?_
  refine r_iconst 11 X (1 : Int32) d13_10 rfl ?_
  refine r_iaload 12 X A_a1 (i := 1) (v := (.int (f 1))) (by decide) (by decide) rfl d13_11 ?_
  refine r_aloadN 13 X d13_12 rfl rfl ?_
  refine r_iconst 14 X (1 : Int32) d13_13 rfl ?_
  refine r_iaload 15 X A_a2 (i := 1) (v := (.int (g 1))) (by decide) (by decide) rfl d13_14 ?_
  refine r_icmpN 18 X d13_15 (teq e1).2 ?_
  refine r_aloadN 19 X d13_18 rfl rfl ?_
  refine r_iconst 20 X (2 : Int32) d13_19 rfl ?_
  refine r_iaload 21 X A_a1 (i := 2) (v := (.int (f 2))) (by decide) (by decide) rfl d13_20 ?_
  refine r_aloadN 22 X d13_21 rfl rfl ?_
  refine r_iconst 23 X (2 : Int32) d13_22 rfl ?_
  refine r_iaload 24 X A_a2 (i := 2) (v := (.int (g 2))) (by decide) (by decide) rfl d13_23 ?_
  refine r_icmpN 27 X d13_24 (teq e2).2 ?_
  refine r_iconst 28 X (1 : Int32) d13_27 rfl ?_
  refine r_goto 32 X d13_28 ?_
  refine r_retZ (z := (1 : Int32)) X d13_32 rfl (by decide) (by decide) ?_
  exact ⟨rfl, rfl⟩
theorem pn_0 : plainName "com/example/heliotrope/heliotrope/language/StateStoreValuesPinLaw" = true := by first | (simp [plainName, overriddenIn]; done) | decide +kernel
theorem ef_0 (m : MethodId) (x0 : Int64) (x1 : Int64) (x2 : Int64) (x3 : Int32) (x4 : Int32) (x5 : Int32) : entryFrame m #[(.long x0), (.long x1), (.long x2), (.int x3), (.int x4), (.int x5)] maxLocals = mkF m 0 #[.val (.long x0), .second, .val (.long x1), .second, .val (.long x2), .second, .val (.int x3), .val (.int x4), .val (.int x5), .unset, .unset, .unset, .unset, .unset, .unset, .unset, .unset, .unset] [] := by first | (simp [entryFrame, mkF, argsToLocals, Value.category, maxLocals]; done) | rfl
set_option maxRecDepth 65536 in
set_option maxHeartbeats 40000000 in
theorem rm0 (l : Launch) (Z : State) (a0 : Array Value) (hw : ∀ d ∈ tables_1, d.before a0 Z = true) (n0 : Nat) (h : Heap) (Z0 : n0 ≤ h.size) (q1 : Int64) (q2 : Int64) (q3 : Int64) (p1 : Int32) (p2 : Int32) (p3 : Int32)  :
    Met1 l Z n0 tables_1 x code maxLocals ret room_1 #[(.long q1), (.long q2), (.long q3), (.int p1), (.int p2), (.int p3)] h (fun v h' => v = some (.int 1)) := by
  refine met_of (plainFor_of_name pn_0) Z0 (fun m => ef_0 m q1 q2 q3 p1 p2 p3) ?_
  intro p e s m below meth c T hs0 X
  refine r_iconst 1 X (3 : Int32) at_0 rfl ?_
  refine r_newarrayE 3 X 3 3 "[I" (by decide) (hw _ (List.mem_of_getElem? (i := 0) rfl)) at_1 (by decide) (by decide) (by decide) (by decide) (by decide) ?_
  intro T h1 b1 g1 gn_b1 E1 E_b1 A_b1 X
  replace A_b1 : AF Z h1 b1 .int 3 (fun j => .int ((fun _ => (0 : Int32)) j)) := A_b1
  refine r_astore 5 X #[.val (.long q1), .second, .val (.long q2), .second, .val (.long q3), .second, .val (.int p1), .val (.int p2), .val (.int p3), .val (.ref b1), .unset, .unset, .unset, .unset, .unset, .unset, .unset, .unset] at_3 rfl rfl ?_
  refine r_iconst 6 X (3 : Int32) at_5 rfl ?_
  refine r_newarrayE 8 X 3 3 "[I" (by decide) (hw _ (List.mem_of_getElem? (i := 0) rfl)) at_6 (by decide) (by decide) (by decide) (by decide) (by decide) ?_
  intro T h2 b2 g2 gn_b2 E2 E_b2 A_b2 X
  have ne_b1_b2 : b1 ≠ b2 := Nat.ne_of_lt (Nat.lt_of_lt_of_eq A_b1.lt g2.symm)
  have A_b1 := A_b1.ext E2
  have E_b1 := E_b1.ext E2
  replace A_b2 : AF Z h2 b2 .int 3 (fun j => .int ((fun _ => (0 : Int32)) j)) := A_b2
  refine r_astore 10 X #[.val (.long q1), .second, .val (.long q2), .second, .val (.long q3), .second, .val (.int p1), .val (.int p2), .val (.int p3), .val (.ref b1), .val (.ref b2), .unset, .unset, .unset, .unset, .unset, .unset, .unset] at_8 rfl rfl ?_
  refine r_iconst 11 X (3 : Int32) at_10 rfl ?_
  refine r_newarrayE 13 X 3 3 "[I" (by decide) (hw _ (List.mem_of_getElem? (i := 0) rfl)) at_11 (by decide) (by decide) (by decide) (by decide) (by decide) ?_
  intro T h3 b3 g3 gn_b3 E3 E_b3 A_b3 X
  have ne_b1_b3 : b1 ≠ b3 := Nat.ne_of_lt (Nat.lt_of_lt_of_eq A_b1.lt g3.symm)
  have ne_b2_b3 : b2 ≠ b3 := Nat.ne_of_lt (Nat.lt_of_lt_of_eq A_b2.lt g3.symm)
  have A_b1 := A_b1.ext E3
  have E_b1 := E_b1.ext E3
  have A_b2 := A_b2.ext E3
  have E_b2 := E_b2.ext E3
  replace A_b3 : AF Z h3 b3 .int 3 (fun j => .int ((fun _ => (0 : Int32)) j)) := A_b3
  refine r_astore 15 X #[.val (.long q1), .second, .val (.long q2), .second, .val (.long q3), .second, .val (.int p1), .val (.int p2), .val (.int p3), .val (.ref b1), .val (.ref b2), .val (.ref b3), .unset, .unset, .unset, .unset, .unset, .unset] at_13 rfl rfl ?_
  refine r_iconst 16 X (3 : Int32) at_15 rfl ?_
  refine r_newarrayE 18 X 3 3 "[I" (by decide) (hw _ (List.mem_of_getElem? (i := 0) rfl)) at_16 (by decide) (by decide) (by decide) (by decide) (by decide) ?_
  intro T h4 b4 g4 gn_b4 E4 E_b4 A_b4 X
  have ne_b3_b4 : b3 ≠ b4 := Nat.ne_of_lt (Nat.lt_of_lt_of_eq A_b3.lt g4.symm)
  have ne_b1_b4 : b1 ≠ b4 := Nat.ne_of_lt (Nat.lt_of_lt_of_eq A_b1.lt g4.symm)
  have ne_b2_b4 : b2 ≠ b4 := Nat.ne_of_lt (Nat.lt_of_lt_of_eq A_b2.lt g4.symm)
  have A_b1 := A_b1.ext E4
  have E_b1 := E_b1.ext E4
  have A_b2 := A_b2.ext E4
  have E_b2 := E_b2.ext E4
  have A_b3 := A_b3.ext E4
  have E_b3 := E_b3.ext E4
  replace A_b4 : AF Z h4 b4 .int 3 (fun j => .int ((fun _ => (0 : Int32)) j)) := A_b4
  refine r_astore 20 X #[.val (.long q1), .second, .val (.long q2), .second, .val (.long q3), .second, .val (.int p1), .val (.int p2), .val (.int p3), .val (.ref b1), .val (.ref b2), .val (.ref b3), .val (.ref b4), .unset, .unset, .unset, .unset, .unset] at_18 rfl rfl ?_
  refine r_aload 22 X at_20 rfl rfl ?_
  refine r_aload 24 X at_22 rfl rfl ?_
  refine r_aload 26 X at_24 rfl rfl ?_
  refine r_aload 28 X at_26 rfl rfl ?_
  refine r_iconst 29 X (0 : Int32) at_28 rfl ?_
  refine r_lloadN 30 X at_29 rfl ?_
  refine r_iload 32 X at_30 rfl ?_
  refine r_callS 35 X (st := []) (rmSet0 l Z a0 hw n0 _ X.sz b1 b2 b3 b4 (fun _ => (0 : Int32)) (fun _ => (0 : Int32)) (fun _ => (0 : Int32)) (fun _ => (0 : Int32)) q1 p1 gn_b1 gn_b2 gn_b3 gn_b4 ne_b1_b2 ne_b1_b3 ne_b1_b4 ne_b2_b3 ne_b2_b4 ne_b3_b4 A_b1 A_b2 A_b3 A_b4) (hw _ (List.mem_of_getElem? (i := 1) rfl)) (hw _ (List.mem_of_getElem? (i := 2) rfl)) (hw _ (List.mem_of_getElem? (i := 4) rfl)) (hw _ (List.mem_of_getElem? (i := 3) rfl)) (by decide) pd_5 [(.ref b1), (.ref b2), (.ref b3), (.ref b4), (.int (0 : Int32)), (.long q1), (.int p1)] rfl rfl 0 (Nat.le_of_eq rfl) rfl (by decide) (by decide) (by decide) (by decide) at_32 ?_
  rintro T h5 v5 ⟨rfl, K5, lo0, hi0, va0, vb0, ra0, ra0', rb0, rb0', Bb10, Bb20, Bb30, Bb40⟩ X
  have E_b1 := E_b1.keep K5
  have E_b2 := E_b2.keep K5
  have E_b3 := E_b3.keep K5
  have E_b4 := E_b4.keep K5
  replace Bb10 : AF Z h5 b1 .int 3 (fun j => .int ((updI (fun _ => (0 : Int32)) 0 lo0) j)) := Bb10
  have A_b1 := Bb10
  replace Bb20 : AF Z h5 b2 .int 3 (fun j => .int ((updI (fun _ => (0 : Int32)) 0 hi0) j)) := Bb20
  have A_b2 := Bb20
  replace Bb30 : AF Z h5 b3 .int 3 (fun j => .int ((updI (fun _ => (0 : Int32)) 0 va0) j)) := Bb30
  have A_b3 := Bb30
  replace Bb40 : AF Z h5 b4 .int 3 (fun j => .int ((updI (fun _ => (0 : Int32)) 0 vb0) j)) := Bb40
  have A_b4 := Bb40
  change Run _ _ _ _ _ _ _ _ []
  refine r_aload 37 X at_35 rfl rfl ?_
  refine r_aload 39 X at_37 rfl rfl ?_
  refine r_aload 41 X at_39 rfl rfl ?_
  refine r_aload 43 X at_41 rfl rfl ?_
  refine r_iconst 44 X (1 : Int32) at_43 rfl ?_
  refine r_lloadN 45 X at_44 rfl ?_
  refine r_iload 47 X at_45 rfl ?_
  refine r_callS 50 X (st := []) (rmSet1 l Z a0 hw n0 _ X.sz b1 b2 b3 b4 (updI (fun _ => (0 : Int32)) 0 lo0) (updI (fun _ => (0 : Int32)) 0 hi0) (updI (fun _ => (0 : Int32)) 0 va0) (updI (fun _ => (0 : Int32)) 0 vb0) q2 p2 gn_b1 gn_b2 gn_b3 gn_b4 ne_b1_b2 ne_b1_b3 ne_b1_b4 ne_b2_b3 ne_b2_b4 ne_b3_b4 A_b1 A_b2 A_b3 A_b4) (hw _ (List.mem_of_getElem? (i := 1) rfl)) (hw _ (List.mem_of_getElem? (i := 2) rfl)) (hw _ (List.mem_of_getElem? (i := 4) rfl)) (hw _ (List.mem_of_getElem? (i := 3) rfl)) (by decide) pd_5 [(.ref b1), (.ref b2), (.ref b3), (.ref b4), (.int (1 : Int32)), (.long q2), (.int p2)] rfl rfl 0 (Nat.le_of_eq rfl) rfl (by decide) (by decide) (by decide) (by decide) at_47 ?_
  rintro T h6 v6 ⟨rfl, K6, lo1, hi1, va1, vb1, ra1, ra1', rb1, rb1', Bb11, Bb21, Bb31, Bb41⟩ X
  have E_b1 := E_b1.keep K6
  have E_b2 := E_b2.keep K6
  have E_b3 := E_b3.keep K6
  have E_b4 := E_b4.keep K6
  replace Bb11 : AF Z h6 b1 .int 3 (fun j => .int ((updI (updI (fun _ => (0 : Int32)) 0 lo0) 1 lo1) j)) := Bb11
  have A_b1 := Bb11
  replace Bb21 : AF Z h6 b2 .int 3 (fun j => .int ((updI (updI (fun _ => (0 : Int32)) 0 hi0) 1 hi1) j)) := Bb21
  have A_b2 := Bb21
  replace Bb31 : AF Z h6 b3 .int 3 (fun j => .int ((updI (updI (fun _ => (0 : Int32)) 0 va0) 1 va1) j)) := Bb31
  have A_b3 := Bb31
  replace Bb41 : AF Z h6 b4 .int 3 (fun j => .int ((updI (updI (fun _ => (0 : Int32)) 0 vb0) 1 vb1) j)) := Bb41
  have A_b4 := Bb41
  change Run _ _ _ _ _ _ _ _ []
  refine r_aload 52 X at_50 rfl rfl ?_
  refine r_aload 54 X at_52 rfl rfl ?_
  refine r_aload 56 X at_54 rfl rfl ?_
  refine r_aload 58 X at_56 rfl rfl ?_
  refine r_iconst 59 X (2 : Int32) at_58 rfl ?_
  refine r_lload 61 X at_59 rfl ?_
  refine r_iload 63 X at_61 rfl ?_
  refine r_callS 66 X (st := []) (rmSet2 l Z a0 hw n0 _ X.sz b1 b2 b3 b4 (updI (updI (fun _ => (0 : Int32)) 0 lo0) 1 lo1) (updI (updI (fun _ => (0 : Int32)) 0 hi0) 1 hi1) (updI (updI (fun _ => (0 : Int32)) 0 va0) 1 va1) (updI (updI (fun _ => (0 : Int32)) 0 vb0) 1 vb1) q3 p3 gn_b1 gn_b2 gn_b3 gn_b4 ne_b1_b2 ne_b1_b3 ne_b1_b4 ne_b2_b3 ne_b2_b4 ne_b3_b4 A_b1 A_b2 A_b3 A_b4) (hw _ (List.mem_of_getElem? (i := 1) rfl)) (hw _ (List.mem_of_getElem? (i := 2) rfl)) (hw _ (List.mem_of_getElem? (i := 4) rfl)) (hw _ (List.mem_of_getElem? (i := 3) rfl)) (by decide) pd_5 [(.ref b1), (.ref b2), (.ref b3), (.ref b4), (.int (2 : Int32)), (.long q3), (.int p3)] rfl rfl 0 (Nat.le_of_eq rfl) rfl (by decide) (by decide) (by decide) (by decide) at_63 ?_
  rintro T h7 v7 ⟨rfl, K7, lo2, hi2, va2, vb2, ra2, ra2', rb2, rb2', Bb12, Bb22, Bb32, Bb42⟩ X
  have E_b1 := E_b1.keep K7
  have E_b2 := E_b2.keep K7
  have E_b3 := E_b3.keep K7
  have E_b4 := E_b4.keep K7
  replace Bb12 : AF Z h7 b1 .int 3 (fun j => .int ((updI (updI (updI (fun _ => (0 : Int32)) 0 lo0) 1 lo1) 2 lo2) j)) := Bb12
  have A_b1 := Bb12
  replace Bb22 : AF Z h7 b2 .int 3 (fun j => .int ((updI (updI (updI (fun _ => (0 : Int32)) 0 hi0) 1 hi1) 2 hi2) j)) := Bb22
  have A_b2 := Bb22
  replace Bb32 : AF Z h7 b3 .int 3 (fun j => .int ((updI (updI (updI (fun _ => (0 : Int32)) 0 va0) 1 va1) 2 va2) j)) := Bb32
  have A_b3 := Bb32
  replace Bb42 : AF Z h7 b4 .int 3 (fun j => .int ((updI (updI (updI (fun _ => (0 : Int32)) 0 vb0) 1 vb1) 2 vb2) j)) := Bb42
  have A_b4 := Bb42
  change Run _ _ _ _ _ _ _ _ []
  refine r_iconst 67 X (3 : Int32) at_66 rfl ?_
  refine r_newarrayE 69 X 3 3 "[I" (by decide) (hw _ (List.mem_of_getElem? (i := 0) rfl)) at_67 (by decide) (by decide) (by decide) (by decide) (by decide) ?_
  intro T h8 b8 g8 gn_b8 E8 E_b8 A_b8 X
  have ne_b3_b8 : b3 ≠ b8 := Nat.ne_of_lt (Nat.lt_of_lt_of_eq E_b3.lt g8.symm)
  have ne_b1_b8 : b1 ≠ b8 := Nat.ne_of_lt (Nat.lt_of_lt_of_eq E_b1.lt g8.symm)
  have ne_b2_b8 : b2 ≠ b8 := Nat.ne_of_lt (Nat.lt_of_lt_of_eq E_b2.lt g8.symm)
  have ne_b4_b8 : b4 ≠ b8 := Nat.ne_of_lt (Nat.lt_of_lt_of_eq E_b4.lt g8.symm)
  have E_b1 := E_b1.ext E8
  have E_b2 := E_b2.ext E8
  have E_b3 := E_b3.ext E8
  have E_b4 := E_b4.ext E8
  have A_b1 := A_b1.ext E8
  have A_b2 := A_b2.ext E8
  have A_b3 := A_b3.ext E8
  have A_b4 := A_b4.ext E8
  replace A_b8 : AF Z h8 b8 .int 3 (fun j => .int ((fun _ => (0 : Int32)) j)) := A_b8
  refine r_astore 71 X #[.val (.long q1), .second, .val (.long q2), .second, .val (.long q3), .second, .val (.int p1), .val (.int p2), .val (.int p3), .val (.ref b1), .val (.ref b2), .val (.ref b3), .val (.ref b4), .val (.ref b8), .unset, .unset, .unset, .unset] at_69 rfl rfl ?_
  refine r_iconst 72 X (3 : Int32) at_71 rfl ?_
  refine r_newarrayE 74 X 3 3 "[I" (by decide) (hw _ (List.mem_of_getElem? (i := 0) rfl)) at_72 (by decide) (by decide) (by decide) (by decide) (by decide) ?_
  intro T h9 b9 g9 gn_b9 E9 E_b9 A_b9 X
  have ne_b4_b9 : b4 ≠ b9 := Nat.ne_of_lt (Nat.lt_of_lt_of_eq E_b4.lt g9.symm)
  have ne_b3_b9 : b3 ≠ b9 := Nat.ne_of_lt (Nat.lt_of_lt_of_eq E_b3.lt g9.symm)
  have ne_b1_b9 : b1 ≠ b9 := Nat.ne_of_lt (Nat.lt_of_lt_of_eq E_b1.lt g9.symm)
  have ne_b8_b9 : b8 ≠ b9 := Nat.ne_of_lt (Nat.lt_of_lt_of_eq A_b8.lt g9.symm)
  have ne_b2_b9 : b2 ≠ b9 := Nat.ne_of_lt (Nat.lt_of_lt_of_eq E_b2.lt g9.symm)
  have E_b1 := E_b1.ext E9
  have E_b2 := E_b2.ext E9
  have E_b3 := E_b3.ext E9
  have E_b4 := E_b4.ext E9
  have A_b1 := A_b1.ext E9
  have A_b2 := A_b2.ext E9
  have A_b3 := A_b3.ext E9
  have A_b4 := A_b4.ext E9
  have A_b8 := A_b8.ext E9
  have E_b8 := E_b8.ext E9
  replace A_b9 : AF Z h9 b9 .int 3 (fun j => .int ((fun _ => (0 : Int32)) j)) := A_b9
  refine r_astore 76 X #[.val (.long q1), .second, .val (.long q2), .second, .val (.long q3), .second, .val (.int p1), .val (.int p2), .val (.int p3), .val (.ref b1), .val (.ref b2), .val (.ref b3), .val (.ref b4), .val (.ref b8), .val (.ref b9), .unset, .unset, .unset] at_74 rfl rfl ?_
  refine r_new 79 X (hw _ (List.mem_of_getElem? (i := 12) rfl)) (hw _ (List.mem_of_getElem? (i := 13) rfl)) (hw _ (List.mem_of_getElem? (i := 14) rfl)) at_76 (by decide) (by decide) ?_
  intro T h10 b10 g10 gn_b10 E10 A10 D10 X
  have ne_b4_b10 : b4 ≠ b10 := Nat.ne_of_lt (Nat.lt_of_lt_of_eq E_b4.lt g10.symm)
  have ne_b3_b10 : b3 ≠ b10 := Nat.ne_of_lt (Nat.lt_of_lt_of_eq E_b3.lt g10.symm)
  have ne_b1_b10 : b1 ≠ b10 := Nat.ne_of_lt (Nat.lt_of_lt_of_eq E_b1.lt g10.symm)
  have ne_b9_b10 : b9 ≠ b10 := Nat.ne_of_lt (Nat.lt_of_lt_of_eq A_b9.lt g10.symm)
  have ne_b8_b10 : b8 ≠ b10 := Nat.ne_of_lt (Nat.lt_of_lt_of_eq A_b8.lt g10.symm)
  have ne_b2_b10 : b2 ≠ b10 := Nat.ne_of_lt (Nat.lt_of_lt_of_eq E_b2.lt g10.symm)
  have E_b1 := E_b1.ext E10
  have E_b2 := E_b2.ext E10
  have E_b3 := E_b3.ext E10
  have E_b4 := E_b4.ext E10
  have A_b1 := A_b1.ext E10
  have A_b2 := A_b2.ext E10
  have A_b3 := A_b3.ext E10
  have A_b4 := A_b4.ext E10
  have A_b8 := A_b8.ext E10
  have E_b8 := E_b8.ext E10
  have A_b9 := A_b9.ext E10
  have E_b9 := E_b9.ext E10
  have E_b10 := A10
  have F_b10_low : Fld Z h10 b10 "com/example/heliotrope/heliotrope/language/StateStore" "low" "[I" .null := D10 (Or.inr (hw _ (List.mem_of_getElem? (i := 31) rfl))) (ty := (.array .int)) (by decide)
  have F_b10_word : Fld Z h10 b10 "com/example/heliotrope/heliotrope/language/StateStore" "word" "[I" .null := D10 (Or.inr (hw _ (List.mem_of_getElem? (i := 33) rfl))) (ty := (.array .int)) (by decide)
  have F_b10_shift : Fld Z h10 b10 "com/example/heliotrope/heliotrope/language/StateStore" "shift" "[I" .null := D10 (Or.inr (hw _ (List.mem_of_getElem? (i := 35) rfl))) (ty := (.array .int)) (by decide)
  have F_b10_mask : Fld Z h10 b10 "com/example/heliotrope/heliotrope/language/StateStore" "mask" "[J" .null := D10 (Or.inr (hw _ (List.mem_of_getElem? (i := 38) rfl))) (ty := (.array .long)) (by decide)
  have F_b10_words : Fld Z h10 b10 "com/example/heliotrope/heliotrope/language/StateStore" "words" "I" (.int (0 : Int32)) := D10 (Or.inr (hw _ (List.mem_of_getElem? (i := 49) rfl))) (ty := .int) (by decide)
  have F_b10_key : Fld Z h10 b10 "com/example/heliotrope/heliotrope/language/StateStore" "key" "[J" .null := D10 (Or.inr (hw _ (List.mem_of_getElem? (i := 51) rfl))) (ty := (.array .long)) (by decide)
  have F_b10_packed : Fld Z h10 b10 "com/example/heliotrope/heliotrope/language/StateStore" "packed" "[J" .null := D10 (Or.inl (hw _ (List.mem_of_getElem? (i := 53) rfl))) (ty := (.array .long)) (by decide)
  have F_b10_table : Fld Z h10 b10 "com/example/heliotrope/heliotrope/language/StateStore" "table" "[I" .null := D10 (Or.inl (hw _ (List.mem_of_getElem? (i := 55) rfl))) (ty := (.array .int)) (by decide)
  have F_b10_count : Fld Z h10 b10 "com/example/heliotrope/heliotrope/language/StateStore" "count" "I" (.int (0 : Int32)) := D10 (Or.inl (hw _ (List.mem_of_getElem? (i := 74) rfl))) (ty := .int) (by decide)
  refine r_dup 80 X at_79 rfl ?_
  refine r_aload 82 X at_80 rfl rfl ?_
  refine r_aload 84 X at_82 rfl rfl ?_
  have hd0 : hi0.toInt - lo0.toInt = (((hi0.toInt - lo0.toInt).toNat : Nat) : Int) := by omega
  have hd1 : hi1.toInt - lo1.toInt = (((hi1.toInt - lo1.toInt).toNat : Nat) : Int) := by omega
  have hd2 : hi2.toInt - lo2.toInt = (((hi2.toInt - lo2.toInt).toNat : Nat) : Int) := by omega
  refine r_special 87 X (st := [(.ref b10)]) (a := b10) (rmNew l Z a0 hw n0 _ X.sz b10 b1 b2 (updI (updI (updI (fun _ => (0 : Int32)) 0 lo0) 1 lo1) 2 lo2) (updI (updI (updI (fun _ => (0 : Int32)) 0 hi0) 1 hi1) 2 hi2) _ _ _ hd0 hd1 hd2 gn_b10 (Ne.symm ne_b1_b10) (Ne.symm ne_b2_b10) E_b10 E_b1 F_b10_low F_b10_word F_b10_shift F_b10_mask F_b10_key F_b10_packed F_b10_table F_b10_words F_b10_count A_b1 A_b2) rfl rfl (hw _ (List.mem_of_getElem? (i := 15) rfl)) (hw _ (List.mem_of_getElem? (i := 16) rfl)) (hw _ (List.mem_of_getElem? (i := 17) rfl)) (hw _ (List.mem_of_getElem? (i := 14) rfl)) (by decide) pd_6 [(.ref b1), (.ref b2)] rfl rfl 1 (Nat.le_of_eq rfl) rfl (by decide) (by decide) (by decide) (by decide) at_84 ?_
  rintro T h11 v11 ⟨rfl, K11, DD⟩ X
  change Run _ _ _ _ _ _ _ _ [(.ref b10)]
  rcases DD with ⟨la, wa, sa, ma, ka, pa, ta, u1, u2, m0, m1, m2, w0, w1, w2, G_low, G_word, G_shift, G_mask, G_key, G_packed, G_table, G_words, G_count, B_la, B_wa, B_sa, B_ma, B_ka, B_pa, B_ta, zla, zwa, zsa, zma, zka, zpa, zta, gla, gwa, gsa, gma, gka, gpa, gta, ne_la_wa, ne_la_sa, ne_la_ma, ne_la_ka, ne_la_pa, ne_la_ta, ne_wa_sa, ne_wa_ma, ne_wa_ka, ne_wa_pa, ne_wa_ta, ne_sa_ma, ne_sa_ka, ne_sa_pa, ne_sa_ta, ne_ma_ka, ne_ma_pa, ne_ma_ta, ne_ka_pa, ne_ka_ta, ne_pa_ta, hb0, hb1, hb2, hD0, hD1, hD2, hu1, hm0, hm1, hm2, hu2, hsum⟩ | ⟨la, wa, sa, ma, ka, pa, ta, u1, m0, m1, m2, w0, w1, w2, G_low, G_word, G_shift, G_mask, G_key, G_packed, G_table, G_words, G_count, B_la, B_wa, B_sa, B_ma, B_ka, B_pa, B_ta, zla, zwa, zsa, zma, zka, zpa, zta, gla, gwa, gsa, gma, gka, gpa, gta, ne_la_wa, ne_la_sa, ne_la_ma, ne_la_ka, ne_la_pa, ne_la_ta, ne_wa_sa, ne_wa_ma, ne_wa_ka, ne_wa_pa, ne_wa_ta, ne_sa_ma, ne_sa_ka, ne_sa_pa, ne_sa_ta, ne_ma_ka, ne_ma_pa, ne_ma_ta, ne_ka_pa, ne_ka_ta, ne_pa_ta, hb0, hb1, hb2, hD0, hD1, hD2, hu1, hm0, hm1, hm2⟩
  ·
    have ne_b1_la : b1 ≠ la := Nat.ne_of_lt (Nat.lt_of_lt_of_le E_b1.lt zla)
    have ne_b10_la : b10 ≠ la := Nat.ne_of_lt (Nat.lt_of_lt_of_le E_b10.lt zla)
    have ne_b2_la : b2 ≠ la := Nat.ne_of_lt (Nat.lt_of_lt_of_le E_b2.lt zla)
    have ne_b3_la : b3 ≠ la := Nat.ne_of_lt (Nat.lt_of_lt_of_le E_b3.lt zla)
    have ne_b4_la : b4 ≠ la := Nat.ne_of_lt (Nat.lt_of_lt_of_le E_b4.lt zla)
    have ne_b8_la : b8 ≠ la := Nat.ne_of_lt (Nat.lt_of_lt_of_le A_b8.lt zla)
    have ne_b9_la : b9 ≠ la := Nat.ne_of_lt (Nat.lt_of_lt_of_le A_b9.lt zla)
    have ne_b1_wa : b1 ≠ wa := Nat.ne_of_lt (Nat.lt_of_lt_of_le E_b1.lt zwa)
    have ne_b10_wa : b10 ≠ wa := Nat.ne_of_lt (Nat.lt_of_lt_of_le E_b10.lt zwa)
    have ne_b2_wa : b2 ≠ wa := Nat.ne_of_lt (Nat.lt_of_lt_of_le E_b2.lt zwa)
    have ne_b3_wa : b3 ≠ wa := Nat.ne_of_lt (Nat.lt_of_lt_of_le E_b3.lt zwa)
    have ne_b4_wa : b4 ≠ wa := Nat.ne_of_lt (Nat.lt_of_lt_of_le E_b4.lt zwa)
    have ne_b8_wa : b8 ≠ wa := Nat.ne_of_lt (Nat.lt_of_lt_of_le A_b8.lt zwa)
    have ne_b9_wa : b9 ≠ wa := Nat.ne_of_lt (Nat.lt_of_lt_of_le A_b9.lt zwa)
    have ne_b1_sa : b1 ≠ sa := Nat.ne_of_lt (Nat.lt_of_lt_of_le E_b1.lt zsa)
    have ne_b10_sa : b10 ≠ sa := Nat.ne_of_lt (Nat.lt_of_lt_of_le E_b10.lt zsa)
    have ne_b2_sa : b2 ≠ sa := Nat.ne_of_lt (Nat.lt_of_lt_of_le E_b2.lt zsa)
    have ne_b3_sa : b3 ≠ sa := Nat.ne_of_lt (Nat.lt_of_lt_of_le E_b3.lt zsa)
    have ne_b4_sa : b4 ≠ sa := Nat.ne_of_lt (Nat.lt_of_lt_of_le E_b4.lt zsa)
    have ne_b8_sa : b8 ≠ sa := Nat.ne_of_lt (Nat.lt_of_lt_of_le A_b8.lt zsa)
    have ne_b9_sa : b9 ≠ sa := Nat.ne_of_lt (Nat.lt_of_lt_of_le A_b9.lt zsa)
    have ne_b1_ma : b1 ≠ ma := Nat.ne_of_lt (Nat.lt_of_lt_of_le E_b1.lt zma)
    have ne_b10_ma : b10 ≠ ma := Nat.ne_of_lt (Nat.lt_of_lt_of_le E_b10.lt zma)
    have ne_b2_ma : b2 ≠ ma := Nat.ne_of_lt (Nat.lt_of_lt_of_le E_b2.lt zma)
    have ne_b3_ma : b3 ≠ ma := Nat.ne_of_lt (Nat.lt_of_lt_of_le E_b3.lt zma)
    have ne_b4_ma : b4 ≠ ma := Nat.ne_of_lt (Nat.lt_of_lt_of_le E_b4.lt zma)
    have ne_b8_ma : b8 ≠ ma := Nat.ne_of_lt (Nat.lt_of_lt_of_le A_b8.lt zma)
    have ne_b9_ma : b9 ≠ ma := Nat.ne_of_lt (Nat.lt_of_lt_of_le A_b9.lt zma)
    have ne_b1_ka : b1 ≠ ka := Nat.ne_of_lt (Nat.lt_of_lt_of_le E_b1.lt zka)
    have ne_b10_ka : b10 ≠ ka := Nat.ne_of_lt (Nat.lt_of_lt_of_le E_b10.lt zka)
    have ne_b2_ka : b2 ≠ ka := Nat.ne_of_lt (Nat.lt_of_lt_of_le E_b2.lt zka)
    have ne_b3_ka : b3 ≠ ka := Nat.ne_of_lt (Nat.lt_of_lt_of_le E_b3.lt zka)
    have ne_b4_ka : b4 ≠ ka := Nat.ne_of_lt (Nat.lt_of_lt_of_le E_b4.lt zka)
    have ne_b8_ka : b8 ≠ ka := Nat.ne_of_lt (Nat.lt_of_lt_of_le A_b8.lt zka)
    have ne_b9_ka : b9 ≠ ka := Nat.ne_of_lt (Nat.lt_of_lt_of_le A_b9.lt zka)
    have ne_b1_pa : b1 ≠ pa := Nat.ne_of_lt (Nat.lt_of_lt_of_le E_b1.lt zpa)
    have ne_b10_pa : b10 ≠ pa := Nat.ne_of_lt (Nat.lt_of_lt_of_le E_b10.lt zpa)
    have ne_b2_pa : b2 ≠ pa := Nat.ne_of_lt (Nat.lt_of_lt_of_le E_b2.lt zpa)
    have ne_b3_pa : b3 ≠ pa := Nat.ne_of_lt (Nat.lt_of_lt_of_le E_b3.lt zpa)
    have ne_b4_pa : b4 ≠ pa := Nat.ne_of_lt (Nat.lt_of_lt_of_le E_b4.lt zpa)
    have ne_b8_pa : b8 ≠ pa := Nat.ne_of_lt (Nat.lt_of_lt_of_le A_b8.lt zpa)
    have ne_b9_pa : b9 ≠ pa := Nat.ne_of_lt (Nat.lt_of_lt_of_le A_b9.lt zpa)
    have ne_b1_ta : b1 ≠ ta := Nat.ne_of_lt (Nat.lt_of_lt_of_le E_b1.lt zta)
    have ne_b10_ta : b10 ≠ ta := Nat.ne_of_lt (Nat.lt_of_lt_of_le E_b10.lt zta)
    have ne_b2_ta : b2 ≠ ta := Nat.ne_of_lt (Nat.lt_of_lt_of_le E_b2.lt zta)
    have ne_b3_ta : b3 ≠ ta := Nat.ne_of_lt (Nat.lt_of_lt_of_le E_b3.lt zta)
    have ne_b4_ta : b4 ≠ ta := Nat.ne_of_lt (Nat.lt_of_lt_of_le E_b4.lt zta)
    have ne_b8_ta : b8 ≠ ta := Nat.ne_of_lt (Nat.lt_of_lt_of_le A_b8.lt zta)
    have ne_b9_ta : b9 ≠ ta := Nat.ne_of_lt (Nat.lt_of_lt_of_le A_b9.lt zta)
    have E_b1 := E_b1.keep K11
    have E_b2 := E_b2.keep K11
    have E_b3 := E_b3.keep K11
    have E_b4 := E_b4.keep K11
    have A_b1 := A_b1.keep K11 (ninS ne_b1_b10 nin0)
    have A_b2 := A_b2.keep K11 (ninS ne_b2_b10 nin0)
    have A_b3 := A_b3.keep K11 (ninS ne_b3_b10 nin0)
    have A_b4 := A_b4.keep K11 (ninS ne_b4_b10 nin0)
    have A_b8 := A_b8.keep K11 (ninS ne_b8_b10 nin0)
    have E_b8 := E_b8.keep K11
    have A_b9 := A_b9.keep K11 (ninS ne_b9_b10 nin0)
    have E_b9 := E_b9.keep K11
    have E_b10 := E_b10.keep K11
    have F_b10_low := G_low
    have F_b10_word := G_word
    have F_b10_shift := G_shift
    have F_b10_mask := G_mask
    have F_b10_key := G_key
    have F_b10_packed := G_packed
    have F_b10_table := G_table
    have F_b10_words := G_words
    have F_b10_count := G_count
    have A_la : AF Z h11 la .int 3 (fun j => .int ((updI (updI (updI (fun _ => (0 : Int32)) 0 lo0) 1 lo1) 2 lo2) j)) := B_la
    have A_wa : AF Z h11 wa .int 3 (fun j => .int ((updI (updI (updI (fun _ => (0 : Int32)) 0 (0 : Int32)) 1 (0 : Int32)) 2 (0 : Int32)) j)) := B_wa
    have A_sa : AF Z h11 sa .int 3 (fun j => .int ((updI (updI (updI (fun _ => (0 : Int32)) 0 (0 : Int32)) 1 u1) 2 u2) j)) := B_sa
    have A_ma : AF Z h11 ma .long 3 (fun j => .long ((updJ (updJ (updJ (fun _ => (0 : Int64)) 0 m0) 1 m1) 2 m2) j)) := B_ma
    have A_ka : AF Z h11 ka .long 1 (fun j => .long ((fun _ => (0 : Int64)) j)) := B_ka
    have A_pa : AF Z h11 pa .long 16 (fun j => .long ((fun _ => (0 : Int64)) j)) := B_pa
    have A_ta : AF Z h11 ta .int 64 (fun j => .int ((fun _ => (0 : Int32)) j)) := B_ta
    have sA := own_use0 hb0 hb1 hb2 hD0 hD1 hD2 hu1 hm0 hm1 hm2 hu2 hsum hd0 hd1 hd2 ra0 ra0' ra1 ra1' ra2 ra2'
    have sB := own_use0 hb0 hb1 hb2 hD0 hD1 hD2 hu1 hm0 hm1 hm2 hu2 hsum hd0 hd1 hd2 rb0 rb0' rb1 rb1' rb2 rb2'
    refine r_astore 89 X #[.val (.long q1), .second, .val (.long q2), .second, .val (.long q3), .second, .val (.int p1), .val (.int p2), .val (.int p3), .val (.ref b1), .val (.ref b2), .val (.ref b3), .val (.ref b4), .val (.ref b8), .val (.ref b9), .val (.ref b10), .unset, .unset] at_87 rfl rfl ?_
    refine r_aload 91 X at_89 rfl rfl ?_
    refine r_aload 93 X at_91 rfl rfl ?_
    refine r_virtual 96 X (st := []) (a := b10) (rmAd00 l Z a0 hw n0 _ X.sz b10 la wa sa ma ka pa ta b3 (updI (updI (updI (fun _ => (0 : Int32)) 0 lo0) 1 lo1) 2 lo2) (updI (updI (updI (fun _ => (0 : Int32)) 0 va0) 1 va1) 2 va2) u1 u2 m0 m1 m2 (fun _ => (0 : Int64)) (fun _ => (0 : Int64)) gn_b10 gka gpa gta ne_b10_la ne_b10_wa ne_b10_sa ne_b10_ma ne_b10_ka ne_b10_pa ne_b10_ta (Ne.symm ne_b3_b10) ne_la_ka ne_la_pa ne_la_ta ne_wa_ka ne_wa_pa ne_wa_ta ne_sa_ka ne_sa_pa ne_sa_ta ne_ma_ka ne_ma_pa ne_ma_ta ne_ka_pa ne_ka_ta (Ne.symm ne_b3_ka) ne_pa_ta (Ne.symm ne_b3_pa) (Ne.symm ne_b3_ta) E_b10 F_b10_low F_b10_word F_b10_shift F_b10_mask F_b10_key F_b10_packed F_b10_table F_b10_words F_b10_count A_la A_wa A_sa A_ma A_ka A_pa A_ta A_b3) E_b10 (hw _ (List.mem_of_getElem? (i := 56) rfl)) (hw _ (List.mem_of_getElem? (i := 57) rfl)) (hw _ (List.mem_of_getElem? (i := 59) rfl)) (hw _ (List.mem_of_getElem? (i := 59) rfl)) (hw _ (List.mem_of_getElem? (i := 58) rfl)) (hw _ (List.mem_of_getElem? (i := 60) rfl)) (hw _ (List.mem_of_getElem? (i := 14) rfl)) (by decide) pd_7 [(.ref b3)] rfl rfl 0 (Nat.le_of_eq rfl) rfl (by decide) (by decide) (by decide) (by decide) at_93 ?_
    rintro T h12 v12 ⟨rfl, K12, G0_low, G0_word, G0_shift, G0_mask, G0_key, G0_packed, G0_table, G0_words, G0_count, ⟨gk, Bk⟩, ⟨gp0, Bp0, hp0⟩, k0, Bt⟩ X
    have E_b1 := E_b1.keep K12
    have E_b2 := E_b2.keep K12
    have E_b3 := E_b3.keep K12
    have E_b4 := E_b4.keep K12
    have A_b1 := A_b1.keep K12 (ninS ne_b1_b10 (ninS ne_b1_ka (ninS ne_b1_pa (ninS ne_b1_ta nin0))))
    have A_b2 := A_b2.keep K12 (ninS ne_b2_b10 (ninS ne_b2_ka (ninS ne_b2_pa (ninS ne_b2_ta nin0))))
    have A_b3 := A_b3.keep K12 (ninS ne_b3_b10 (ninS ne_b3_ka (ninS ne_b3_pa (ninS ne_b3_ta nin0))))
    have A_b4 := A_b4.keep K12 (ninS ne_b4_b10 (ninS ne_b4_ka (ninS ne_b4_pa (ninS ne_b4_ta nin0))))
    have A_b8 := A_b8.keep K12 (ninS ne_b8_b10 (ninS ne_b8_ka (ninS ne_b8_pa (ninS ne_b8_ta nin0))))
    have E_b8 := E_b8.keep K12
    have A_b9 := A_b9.keep K12 (ninS ne_b9_b10 (ninS ne_b9_ka (ninS ne_b9_pa (ninS ne_b9_ta nin0))))
    have E_b9 := E_b9.keep K12
    have E_b10 := E_b10.keep K12
    have A_la := A_la.keep K12 (ninS (Ne.symm ne_b10_la) (ninS ne_la_ka (ninS ne_la_pa (ninS ne_la_ta nin0))))
    have A_wa := A_wa.keep K12 (ninS (Ne.symm ne_b10_wa) (ninS ne_wa_ka (ninS ne_wa_pa (ninS ne_wa_ta nin0))))
    have A_sa := A_sa.keep K12 (ninS (Ne.symm ne_b10_sa) (ninS ne_sa_ka (ninS ne_sa_pa (ninS ne_sa_ta nin0))))
    have A_ma := A_ma.keep K12 (ninS (Ne.symm ne_b10_ma) (ninS ne_ma_ka (ninS ne_ma_pa (ninS ne_ma_ta nin0))))
    have F_b10_low := G0_low
    have F_b10_word := G0_word
    have F_b10_shift := G0_shift
    have F_b10_mask := G0_mask
    have F_b10_key := G0_key
    have F_b10_packed := G0_packed
    have F_b10_table := G0_table
    have F_b10_words := G0_words
    have F_b10_count := G0_count
    have A_pa := Bp0
    have A_ka := Bk
    have A_ta := Bt
    change Run _ _ _ _ _ _ _ _ [(.int (0 : Int32))]
    refine r_istore 98 X #[.val (.long q1), .second, .val (.long q2), .second, .val (.long q3), .second, .val (.int p1), .val (.int p2), .val (.int p3), .val (.ref b1), .val (.ref b2), .val (.ref b3), .val (.ref b4), .val (.ref b8), .val (.ref b9), .val (.ref b10), .val (.int (0 : Int32)), .unset] at_96 rfl ?_
    refine r_aload 100 X at_98 rfl rfl ?_
    refine r_aload 102 X at_100 rfl rfl ?_
    refine r_virtual 105 X (st := []) (a := b10) (rmAd01 l Z a0 hw n0 _ X.sz b10 la wa sa ma ka pa ta b4 (updI (updI (updI (fun _ => (0 : Int32)) 0 lo0) 1 lo1) 2 lo2) (updI (updI (updI (fun _ => (0 : Int32)) 0 vb0) 1 vb1) 2 vb2) u1 u2 m0 m1 m2 gk gp0 k0 ((((0 : Int64) ||| (fldS va0 lo0 (0 : Int32))) ||| (fldS va1 lo1 u1)) ||| (fldS va2 lo2 u2)) gn_b10 gka gpa gta ne_b10_la ne_b10_wa ne_b10_sa ne_b10_ma ne_b10_ka ne_b10_pa ne_b10_ta (Ne.symm ne_b4_b10) ne_la_ka ne_la_pa ne_la_ta ne_wa_ka ne_wa_pa ne_wa_ta ne_sa_ka ne_sa_pa ne_sa_ta ne_ma_ka ne_ma_pa ne_ma_ta ne_ka_pa ne_ka_ta (Ne.symm ne_b4_ka) ne_pa_ta (Ne.symm ne_b4_pa) (Ne.symm ne_b4_ta) hp0 E_b10 F_b10_low F_b10_word F_b10_shift F_b10_mask F_b10_key F_b10_packed F_b10_table F_b10_words F_b10_count A_la A_wa A_sa A_ma A_ka A_pa A_ta A_b4) E_b10 (hw _ (List.mem_of_getElem? (i := 56) rfl)) (hw _ (List.mem_of_getElem? (i := 57) rfl)) (hw _ (List.mem_of_getElem? (i := 59) rfl)) (hw _ (List.mem_of_getElem? (i := 59) rfl)) (hw _ (List.mem_of_getElem? (i := 58) rfl)) (hw _ (List.mem_of_getElem? (i := 60) rfl)) (hw _ (List.mem_of_getElem? (i := 14) rfl)) (by decide) pd_7 [(.ref b4)] rfl rfl 0 (Nat.le_of_eq rfl) rfl (by decide) (by decide) (by decide) (by decide) at_102 ?_
    rintro T h13 v13 ⟨rB, kb, rfl, hrB, hkb, K13, G1_low, G1_word, G1_shift, G1_mask, G1_key, G1_packed, G1_table, G1_words, gp1, Bp1, hq0, hs0⟩ X
    have E_b1 := E_b1.keep K13
    have E_b2 := E_b2.keep K13
    have E_b3 := E_b3.keep K13
    have E_b4 := E_b4.keep K13
    have A_b1 := A_b1.keep K13 (ninS ne_b1_b10 (ninS ne_b1_ka (ninS ne_b1_pa (ninS ne_b1_ta nin0))))
    have A_b2 := A_b2.keep K13 (ninS ne_b2_b10 (ninS ne_b2_ka (ninS ne_b2_pa (ninS ne_b2_ta nin0))))
    have A_b3 := A_b3.keep K13 (ninS ne_b3_b10 (ninS ne_b3_ka (ninS ne_b3_pa (ninS ne_b3_ta nin0))))
    have A_b4 := A_b4.keep K13 (ninS ne_b4_b10 (ninS ne_b4_ka (ninS ne_b4_pa (ninS ne_b4_ta nin0))))
    have A_b8 := A_b8.keep K13 (ninS ne_b8_b10 (ninS ne_b8_ka (ninS ne_b8_pa (ninS ne_b8_ta nin0))))
    have E_b8 := E_b8.keep K13
    have A_b9 := A_b9.keep K13 (ninS ne_b9_b10 (ninS ne_b9_ka (ninS ne_b9_pa (ninS ne_b9_ta nin0))))
    have E_b9 := E_b9.keep K13
    have E_b10 := E_b10.keep K13
    have A_la := A_la.keep K13 (ninS (Ne.symm ne_b10_la) (ninS ne_la_ka (ninS ne_la_pa (ninS ne_la_ta nin0))))
    have A_wa := A_wa.keep K13 (ninS (Ne.symm ne_b10_wa) (ninS ne_wa_ka (ninS ne_wa_pa (ninS ne_wa_ta nin0))))
    have A_sa := A_sa.keep K13 (ninS (Ne.symm ne_b10_sa) (ninS ne_sa_ka (ninS ne_sa_pa (ninS ne_sa_ta nin0))))
    have A_ma := A_ma.keep K13 (ninS (Ne.symm ne_b10_ma) (ninS ne_ma_ka (ninS ne_ma_pa (ninS ne_ma_ta nin0))))
    have F_b10_low := G1_low
    have F_b10_word := G1_word
    have F_b10_shift := G1_shift
    have F_b10_mask := G1_mask
    have F_b10_key := G1_key
    have F_b10_packed := G1_packed
    have F_b10_table := G1_table
    have F_b10_words := G1_words
    have A_pa := Bp1
    change Run _ _ _ _ _ _ _ _ [(.int rB)]
    refine r_istore 107 X #[.val (.long q1), .second, .val (.long q2), .second, .val (.long q3), .second, .val (.int p1), .val (.int p2), .val (.int p3), .val (.ref b1), .val (.ref b2), .val (.ref b3), .val (.ref b4), .val (.ref b8), .val (.ref b9), .val (.ref b10), .val (.int (0 : Int32)), .val (.int rB)] at_105 rfl ?_
    refine r_aload 109 X at_107 rfl rfl ?_
    refine r_iload 111 X at_109 rfl ?_
    refine r_aload 113 X at_111 rfl rfl ?_
    refine r_virtual 116 X (st := []) (a := b10) (rmVl0 l Z a0 hw n0 _ X.sz b10 la wa sa ma pa b8 (updI (updI (updI (fun _ => (0 : Int32)) 0 lo0) 1 lo1) 2 lo2) (fun _ => (0 : Int32)) u1 u2 m0 m1 m2 gp1 (0 : Int32) 0 ((((0 : Int64) ||| (fldS va0 lo0 (0 : Int32))) ||| (fldS va1 lo1 u1)) ||| (fldS va2 lo2 u2)) va0 va1 va2 rfl (by decide) hq0 sA.1 sA.2.1 sA.2.2 gn_b8 (Ne.symm ne_b8_b10) (Ne.symm ne_b8_la) (Ne.symm ne_b8_wa) (Ne.symm ne_b8_sa) (Ne.symm ne_b8_ma) (Ne.symm ne_b8_pa) E_b10 F_b10_low F_b10_word F_b10_shift F_b10_mask F_b10_packed F_b10_words A_la A_wa A_sa A_ma A_pa A_b8) E_b10 (hw _ (List.mem_of_getElem? (i := 81) rfl)) (hw _ (List.mem_of_getElem? (i := 82) rfl)) (hw _ (List.mem_of_getElem? (i := 84) rfl)) (hw _ (List.mem_of_getElem? (i := 84) rfl)) (hw _ (List.mem_of_getElem? (i := 83) rfl)) (hw _ (List.mem_of_getElem? (i := 85) rfl)) (hw _ (List.mem_of_getElem? (i := 14) rfl)) (by decide) pd_8 [(.int (0 : Int32)), (.ref b8)] rfl rfl 0 (Nat.le_of_eq rfl) rfl (by decide) (by decide) (by decide) (by decide) at_113 ?_
    rintro T h14 v14 ⟨rfl, K14, Bo14⟩ X
    have E_b1 := E_b1.keep K14
    have E_b2 := E_b2.keep K14
    have E_b3 := E_b3.keep K14
    have E_b4 := E_b4.keep K14
    have A_b1 := A_b1.keep K14 (ninS ne_b1_b8 nin0)
    have A_b2 := A_b2.keep K14 (ninS ne_b2_b8 nin0)
    have A_b3 := A_b3.keep K14 (ninS ne_b3_b8 nin0)
    have A_b4 := A_b4.keep K14 (ninS ne_b4_b8 nin0)
    have E_b8 := E_b8.keep K14
    have A_b9 := A_b9.keep K14 (ninS (Ne.symm ne_b8_b9) nin0)
    have E_b9 := E_b9.keep K14
    have E_b10 := E_b10.keep K14
    have A_la := A_la.keep K14 (ninS (Ne.symm ne_b8_la) nin0)
    have A_wa := A_wa.keep K14 (ninS (Ne.symm ne_b8_wa) nin0)
    have A_sa := A_sa.keep K14 (ninS (Ne.symm ne_b8_sa) nin0)
    have A_ma := A_ma.keep K14 (ninS (Ne.symm ne_b8_ma) nin0)
    have F_b10_low := F_b10_low.keep K14 (ninS (Ne.symm ne_b8_b10) nin0)
    have F_b10_word := F_b10_word.keep K14 (ninS (Ne.symm ne_b8_b10) nin0)
    have F_b10_shift := F_b10_shift.keep K14 (ninS (Ne.symm ne_b8_b10) nin0)
    have F_b10_mask := F_b10_mask.keep K14 (ninS (Ne.symm ne_b8_b10) nin0)
    have F_b10_key := F_b10_key.keep K14 (ninS (Ne.symm ne_b8_b10) nin0)
    have F_b10_packed := F_b10_packed.keep K14 (ninS (Ne.symm ne_b8_b10) nin0)
    have F_b10_table := F_b10_table.keep K14 (ninS (Ne.symm ne_b8_b10) nin0)
    have F_b10_words := F_b10_words.keep K14 (ninS (Ne.symm ne_b8_b10) nin0)
    have A_pa := A_pa.keep K14 (ninS (Ne.symm ne_b8_pa) nin0)
    have A_b8 : AF Z h14 b8 .int 3 (fun j => .int ((updI (updI (updI (fun _ => (0 : Int32)) 0 va0) 1 va1) 2 va2) j)) := Bo14
    change Run _ _ _ _ _ _ _ _ []
    refine r_aload 118 X at_116 rfl rfl ?_
    refine r_iload 120 X at_118 rfl ?_
    refine r_aload 122 X at_120 rfl rfl ?_
    refine r_virtual 125 X (st := []) (a := b10) (rmVl0 l Z a0 hw n0 _ X.sz b10 la wa sa ma pa b9 (updI (updI (updI (fun _ => (0 : Int32)) 0 lo0) 1 lo1) 2 lo2) (fun _ => (0 : Int32)) u1 u2 m0 m1 m2 gp1 rB kb ((((0 : Int64) ||| (fldS vb0 lo0 (0 : Int32))) ||| (fldS vb1 lo1 u1)) ||| (fldS vb2 lo2 u2)) vb0 vb1 vb2 hrB hkb hs0 sB.1 sB.2.1 sB.2.2 gn_b9 (Ne.symm ne_b9_b10) (Ne.symm ne_b9_la) (Ne.symm ne_b9_wa) (Ne.symm ne_b9_sa) (Ne.symm ne_b9_ma) (Ne.symm ne_b9_pa) E_b10 F_b10_low F_b10_word F_b10_shift F_b10_mask F_b10_packed F_b10_words A_la A_wa A_sa A_ma A_pa A_b9) E_b10 (hw _ (List.mem_of_getElem? (i := 81) rfl)) (hw _ (List.mem_of_getElem? (i := 82) rfl)) (hw _ (List.mem_of_getElem? (i := 84) rfl)) (hw _ (List.mem_of_getElem? (i := 84) rfl)) (hw _ (List.mem_of_getElem? (i := 83) rfl)) (hw _ (List.mem_of_getElem? (i := 85) rfl)) (hw _ (List.mem_of_getElem? (i := 14) rfl)) (by decide) pd_8 [(.int rB), (.ref b9)] rfl rfl 0 (Nat.le_of_eq rfl) rfl (by decide) (by decide) (by decide) (by decide) at_122 ?_
    rintro T h15 v15 ⟨rfl, K15, Bo15⟩ X
    have E_b1 := E_b1.keep K15
    have E_b2 := E_b2.keep K15
    have E_b3 := E_b3.keep K15
    have E_b4 := E_b4.keep K15
    have A_b1 := A_b1.keep K15 (ninS ne_b1_b9 nin0)
    have A_b2 := A_b2.keep K15 (ninS ne_b2_b9 nin0)
    have A_b3 := A_b3.keep K15 (ninS ne_b3_b9 nin0)
    have A_b4 := A_b4.keep K15 (ninS ne_b4_b9 nin0)
    have E_b8 := E_b8.keep K15
    have E_b9 := E_b9.keep K15
    have E_b10 := E_b10.keep K15
    have A_la := A_la.keep K15 (ninS (Ne.symm ne_b9_la) nin0)
    have A_wa := A_wa.keep K15 (ninS (Ne.symm ne_b9_wa) nin0)
    have A_sa := A_sa.keep K15 (ninS (Ne.symm ne_b9_sa) nin0)
    have A_ma := A_ma.keep K15 (ninS (Ne.symm ne_b9_ma) nin0)
    have F_b10_low := F_b10_low.keep K15 (ninS (Ne.symm ne_b9_b10) nin0)
    have F_b10_word := F_b10_word.keep K15 (ninS (Ne.symm ne_b9_b10) nin0)
    have F_b10_shift := F_b10_shift.keep K15 (ninS (Ne.symm ne_b9_b10) nin0)
    have F_b10_mask := F_b10_mask.keep K15 (ninS (Ne.symm ne_b9_b10) nin0)
    have F_b10_key := F_b10_key.keep K15 (ninS (Ne.symm ne_b9_b10) nin0)
    have F_b10_packed := F_b10_packed.keep K15 (ninS (Ne.symm ne_b9_b10) nin0)
    have F_b10_table := F_b10_table.keep K15 (ninS (Ne.symm ne_b9_b10) nin0)
    have F_b10_words := F_b10_words.keep K15 (ninS (Ne.symm ne_b9_b10) nin0)
    have A_pa := A_pa.keep K15 (ninS (Ne.symm ne_b9_pa) nin0)
    have A_b8 := A_b8.keep K15 (ninS ne_b8_b9 nin0)
    have A_b9 : AF Z h15 b9 .int 3 (fun j => .int ((updI (updI (updI (fun _ => (0 : Int32)) 0 vb0) 1 vb1) 2 vb2) j)) := Bo15
    change Run _ _ _ _ _ _ _ _ []
    refine r_aload 127 X at_125 rfl rfl ?_
    refine r_aload 129 X at_127 rfl rfl ?_
    refine r_callS 132 X (st := []) (rmSm l Z a0 hw n0 _ X.sz b8 b3 (updI (updI (updI (fun _ => (0 : Int32)) 0 va0) 1 va1) 2 va2) (updI (updI (updI (fun _ => (0 : Int32)) 0 va0) 1 va1) 2 va2) rfl rfl rfl A_b8 A_b3) (hw _ (List.mem_of_getElem? (i := 86) rfl)) (hw _ (List.mem_of_getElem? (i := 87) rfl)) (hw _ (List.mem_of_getElem? (i := 88) rfl)) (hw _ (List.mem_of_getElem? (i := 3) rfl)) (by decide) pd_9 [(.ref b8), (.ref b3)] rfl rfl 0 (Nat.le_of_eq rfl) rfl (by decide) (by decide) (by decide) (by decide) at_129 ?_
    rintro T h16 v16 ⟨rfl, rfl⟩ X
    change Run _ _ _ _ _ _ _ _ [(.int (1 : Int32))]
    refine r_ifN 135 X at_132 ((if0 _ _).trans (feq (by decide)).1) ?_
    refine r_aload 137 X at_135 rfl rfl ?_
    refine r_aload 139 X at_137 rfl rfl ?_
    refine r_callS 142 X (st := []) (rmSm l Z a0 hw n0 _ X.sz b9 b4 (updI (updI (updI (fun _ => (0 : Int32)) 0 vb0) 1 vb1) 2 vb2) (updI (updI (updI (fun _ => (0 : Int32)) 0 vb0) 1 vb1) 2 vb2) rfl rfl rfl A_b9 A_b4) (hw _ (List.mem_of_getElem? (i := 86) rfl)) (hw _ (List.mem_of_getElem? (i := 87) rfl)) (hw _ (List.mem_of_getElem? (i := 88) rfl)) (hw _ (List.mem_of_getElem? (i := 3) rfl)) (by decide) pd_9 [(.ref b9), (.ref b4)] rfl rfl 0 (Nat.le_of_eq rfl) rfl (by decide) (by decide) (by decide) (by decide) at_139 ?_
    rintro T h17 v17 ⟨rfl, rfl⟩ X
    change Run _ _ _ _ _ _ _ _ [(.int (1 : Int32))]
    refine r_ifN 145 X at_142 ((if0 _ _).trans (feq (by decide)).1) ?_
    refine r_iconst 146 X (1 : Int32) at_145 rfl ?_
    refine r_goto 150 X at_146 ?_
    refine r_retZ (z := (1 : Int32)) X at_150 rfl (by decide) (by decide) ?_
    exact rfl
  ·
    have ne_b1_la : b1 ≠ la := Nat.ne_of_lt (Nat.lt_of_lt_of_le E_b1.lt zla)
    have ne_b10_la : b10 ≠ la := Nat.ne_of_lt (Nat.lt_of_lt_of_le E_b10.lt zla)
    have ne_b2_la : b2 ≠ la := Nat.ne_of_lt (Nat.lt_of_lt_of_le E_b2.lt zla)
    have ne_b3_la : b3 ≠ la := Nat.ne_of_lt (Nat.lt_of_lt_of_le E_b3.lt zla)
    have ne_b4_la : b4 ≠ la := Nat.ne_of_lt (Nat.lt_of_lt_of_le E_b4.lt zla)
    have ne_b8_la : b8 ≠ la := Nat.ne_of_lt (Nat.lt_of_lt_of_le A_b8.lt zla)
    have ne_b9_la : b9 ≠ la := Nat.ne_of_lt (Nat.lt_of_lt_of_le A_b9.lt zla)
    have ne_b1_wa : b1 ≠ wa := Nat.ne_of_lt (Nat.lt_of_lt_of_le E_b1.lt zwa)
    have ne_b10_wa : b10 ≠ wa := Nat.ne_of_lt (Nat.lt_of_lt_of_le E_b10.lt zwa)
    have ne_b2_wa : b2 ≠ wa := Nat.ne_of_lt (Nat.lt_of_lt_of_le E_b2.lt zwa)
    have ne_b3_wa : b3 ≠ wa := Nat.ne_of_lt (Nat.lt_of_lt_of_le E_b3.lt zwa)
    have ne_b4_wa : b4 ≠ wa := Nat.ne_of_lt (Nat.lt_of_lt_of_le E_b4.lt zwa)
    have ne_b8_wa : b8 ≠ wa := Nat.ne_of_lt (Nat.lt_of_lt_of_le A_b8.lt zwa)
    have ne_b9_wa : b9 ≠ wa := Nat.ne_of_lt (Nat.lt_of_lt_of_le A_b9.lt zwa)
    have ne_b1_sa : b1 ≠ sa := Nat.ne_of_lt (Nat.lt_of_lt_of_le E_b1.lt zsa)
    have ne_b10_sa : b10 ≠ sa := Nat.ne_of_lt (Nat.lt_of_lt_of_le E_b10.lt zsa)
    have ne_b2_sa : b2 ≠ sa := Nat.ne_of_lt (Nat.lt_of_lt_of_le E_b2.lt zsa)
    have ne_b3_sa : b3 ≠ sa := Nat.ne_of_lt (Nat.lt_of_lt_of_le E_b3.lt zsa)
    have ne_b4_sa : b4 ≠ sa := Nat.ne_of_lt (Nat.lt_of_lt_of_le E_b4.lt zsa)
    have ne_b8_sa : b8 ≠ sa := Nat.ne_of_lt (Nat.lt_of_lt_of_le A_b8.lt zsa)
    have ne_b9_sa : b9 ≠ sa := Nat.ne_of_lt (Nat.lt_of_lt_of_le A_b9.lt zsa)
    have ne_b1_ma : b1 ≠ ma := Nat.ne_of_lt (Nat.lt_of_lt_of_le E_b1.lt zma)
    have ne_b10_ma : b10 ≠ ma := Nat.ne_of_lt (Nat.lt_of_lt_of_le E_b10.lt zma)
    have ne_b2_ma : b2 ≠ ma := Nat.ne_of_lt (Nat.lt_of_lt_of_le E_b2.lt zma)
    have ne_b3_ma : b3 ≠ ma := Nat.ne_of_lt (Nat.lt_of_lt_of_le E_b3.lt zma)
    have ne_b4_ma : b4 ≠ ma := Nat.ne_of_lt (Nat.lt_of_lt_of_le E_b4.lt zma)
    have ne_b8_ma : b8 ≠ ma := Nat.ne_of_lt (Nat.lt_of_lt_of_le A_b8.lt zma)
    have ne_b9_ma : b9 ≠ ma := Nat.ne_of_lt (Nat.lt_of_lt_of_le A_b9.lt zma)
    have ne_b1_ka : b1 ≠ ka := Nat.ne_of_lt (Nat.lt_of_lt_of_le E_b1.lt zka)
    have ne_b10_ka : b10 ≠ ka := Nat.ne_of_lt (Nat.lt_of_lt_of_le E_b10.lt zka)
    have ne_b2_ka : b2 ≠ ka := Nat.ne_of_lt (Nat.lt_of_lt_of_le E_b2.lt zka)
    have ne_b3_ka : b3 ≠ ka := Nat.ne_of_lt (Nat.lt_of_lt_of_le E_b3.lt zka)
    have ne_b4_ka : b4 ≠ ka := Nat.ne_of_lt (Nat.lt_of_lt_of_le E_b4.lt zka)
    have ne_b8_ka : b8 ≠ ka := Nat.ne_of_lt (Nat.lt_of_lt_of_le A_b8.lt zka)
    have ne_b9_ka : b9 ≠ ka := Nat.ne_of_lt (Nat.lt_of_lt_of_le A_b9.lt zka)
    have ne_b1_pa : b1 ≠ pa := Nat.ne_of_lt (Nat.lt_of_lt_of_le E_b1.lt zpa)
    have ne_b10_pa : b10 ≠ pa := Nat.ne_of_lt (Nat.lt_of_lt_of_le E_b10.lt zpa)
    have ne_b2_pa : b2 ≠ pa := Nat.ne_of_lt (Nat.lt_of_lt_of_le E_b2.lt zpa)
    have ne_b3_pa : b3 ≠ pa := Nat.ne_of_lt (Nat.lt_of_lt_of_le E_b3.lt zpa)
    have ne_b4_pa : b4 ≠ pa := Nat.ne_of_lt (Nat.lt_of_lt_of_le E_b4.lt zpa)
    have ne_b8_pa : b8 ≠ pa := Nat.ne_of_lt (Nat.lt_of_lt_of_le A_b8.lt zpa)
    have ne_b9_pa : b9 ≠ pa := Nat.ne_of_lt (Nat.lt_of_lt_of_le A_b9.lt zpa)
    have ne_b1_ta : b1 ≠ ta := Nat.ne_of_lt (Nat.lt_of_lt_of_le E_b1.lt zta)
    have ne_b10_ta : b10 ≠ ta := Nat.ne_of_lt (Nat.lt_of_lt_of_le E_b10.lt zta)
    have ne_b2_ta : b2 ≠ ta := Nat.ne_of_lt (Nat.lt_of_lt_of_le E_b2.lt zta)
    have ne_b3_ta : b3 ≠ ta := Nat.ne_of_lt (Nat.lt_of_lt_of_le E_b3.lt zta)
    have ne_b4_ta : b4 ≠ ta := Nat.ne_of_lt (Nat.lt_of_lt_of_le E_b4.lt zta)
    have ne_b8_ta : b8 ≠ ta := Nat.ne_of_lt (Nat.lt_of_lt_of_le A_b8.lt zta)
    have ne_b9_ta : b9 ≠ ta := Nat.ne_of_lt (Nat.lt_of_lt_of_le A_b9.lt zta)
    have E_b1 := E_b1.keep K11
    have E_b2 := E_b2.keep K11
    have E_b3 := E_b3.keep K11
    have E_b4 := E_b4.keep K11
    have A_b1 := A_b1.keep K11 (ninS ne_b1_b10 nin0)
    have A_b2 := A_b2.keep K11 (ninS ne_b2_b10 nin0)
    have A_b3 := A_b3.keep K11 (ninS ne_b3_b10 nin0)
    have A_b4 := A_b4.keep K11 (ninS ne_b4_b10 nin0)
    have A_b8 := A_b8.keep K11 (ninS ne_b8_b10 nin0)
    have E_b8 := E_b8.keep K11
    have A_b9 := A_b9.keep K11 (ninS ne_b9_b10 nin0)
    have E_b9 := E_b9.keep K11
    have E_b10 := E_b10.keep K11
    have F_b10_low := G_low
    have F_b10_word := G_word
    have F_b10_shift := G_shift
    have F_b10_mask := G_mask
    have F_b10_key := G_key
    have F_b10_packed := G_packed
    have F_b10_table := G_table
    have F_b10_words := G_words
    have F_b10_count := G_count
    have A_la : AF Z h11 la .int 3 (fun j => .int ((updI (updI (updI (fun _ => (0 : Int32)) 0 lo0) 1 lo1) 2 lo2) j)) := B_la
    have A_wa : AF Z h11 wa .int 3 (fun j => .int ((updI (updI (updI (fun _ => (0 : Int32)) 0 (0 : Int32)) 1 (0 : Int32)) 2 (1 : Int32)) j)) := B_wa
    have A_sa : AF Z h11 sa .int 3 (fun j => .int ((updI (updI (updI (fun _ => (0 : Int32)) 0 (0 : Int32)) 1 u1) 2 (0 : Int32)) j)) := B_sa
    have A_ma : AF Z h11 ma .long 3 (fun j => .long ((updJ (updJ (updJ (fun _ => (0 : Int64)) 0 m0) 1 m1) 2 m2) j)) := B_ma
    have A_ka : AF Z h11 ka .long 2 (fun j => .long ((fun _ => (0 : Int64)) j)) := B_ka
    have A_pa : AF Z h11 pa .long 32 (fun j => .long ((fun _ => (0 : Int64)) j)) := B_pa
    have A_ta : AF Z h11 ta .int 64 (fun j => .int ((fun _ => (0 : Int32)) j)) := B_ta
    have sA := own_use1 hb0 hb1 hb2 hD0 hD1 hD2 hu1 hm0 hm1 hm2 hd0 hd1 hd2 ra0 ra0' ra1 ra1' ra2 ra2'
    have sB := own_use1 hb0 hb1 hb2 hD0 hD1 hD2 hu1 hm0 hm1 hm2 hd0 hd1 hd2 rb0 rb0' rb1 rb1' rb2 rb2'
    refine r_astore 89 X #[.val (.long q1), .second, .val (.long q2), .second, .val (.long q3), .second, .val (.int p1), .val (.int p2), .val (.int p3), .val (.ref b1), .val (.ref b2), .val (.ref b3), .val (.ref b4), .val (.ref b8), .val (.ref b9), .val (.ref b10), .unset, .unset] at_87 rfl rfl ?_
    refine r_aload 91 X at_89 rfl rfl ?_
    refine r_aload 93 X at_91 rfl rfl ?_
    refine r_virtual 96 X (st := []) (a := b10) (rmAd10 l Z a0 hw n0 _ X.sz b10 la wa sa ma ka pa ta b3 (updI (updI (updI (fun _ => (0 : Int32)) 0 lo0) 1 lo1) 2 lo2) (updI (updI (updI (fun _ => (0 : Int32)) 0 va0) 1 va1) 2 va2) u1 m0 m1 m2 (fun _ => (0 : Int64)) (fun _ => (0 : Int64)) gn_b10 gka gpa gta ne_b10_la ne_b10_wa ne_b10_sa ne_b10_ma ne_b10_ka ne_b10_pa ne_b10_ta (Ne.symm ne_b3_b10) ne_la_ka ne_la_pa ne_la_ta ne_wa_ka ne_wa_pa ne_wa_ta ne_sa_ka ne_sa_pa ne_sa_ta ne_ma_ka ne_ma_pa ne_ma_ta ne_ka_pa ne_ka_ta (Ne.symm ne_b3_ka) ne_pa_ta (Ne.symm ne_b3_pa) (Ne.symm ne_b3_ta) E_b10 F_b10_low F_b10_word F_b10_shift F_b10_mask F_b10_key F_b10_packed F_b10_table F_b10_words F_b10_count A_la A_wa A_sa A_ma A_ka A_pa A_ta A_b3) E_b10 (hw _ (List.mem_of_getElem? (i := 56) rfl)) (hw _ (List.mem_of_getElem? (i := 57) rfl)) (hw _ (List.mem_of_getElem? (i := 59) rfl)) (hw _ (List.mem_of_getElem? (i := 59) rfl)) (hw _ (List.mem_of_getElem? (i := 58) rfl)) (hw _ (List.mem_of_getElem? (i := 60) rfl)) (hw _ (List.mem_of_getElem? (i := 14) rfl)) (by decide) pd_7 [(.ref b3)] rfl rfl 0 (Nat.le_of_eq rfl) rfl (by decide) (by decide) (by decide) (by decide) at_93 ?_
    rintro T h18 v18 ⟨rfl, K18, G0_low, G0_word, G0_shift, G0_mask, G0_key, G0_packed, G0_table, G0_words, G0_count, ⟨gk, Bk⟩, ⟨gp0, Bp0, hp0, hp1⟩, k0, Bt⟩ X
    have E_b1 := E_b1.keep K18
    have E_b2 := E_b2.keep K18
    have E_b3 := E_b3.keep K18
    have E_b4 := E_b4.keep K18
    have A_b1 := A_b1.keep K18 (ninS ne_b1_b10 (ninS ne_b1_ka (ninS ne_b1_pa (ninS ne_b1_ta nin0))))
    have A_b2 := A_b2.keep K18 (ninS ne_b2_b10 (ninS ne_b2_ka (ninS ne_b2_pa (ninS ne_b2_ta nin0))))
    have A_b3 := A_b3.keep K18 (ninS ne_b3_b10 (ninS ne_b3_ka (ninS ne_b3_pa (ninS ne_b3_ta nin0))))
    have A_b4 := A_b4.keep K18 (ninS ne_b4_b10 (ninS ne_b4_ka (ninS ne_b4_pa (ninS ne_b4_ta nin0))))
    have A_b8 := A_b8.keep K18 (ninS ne_b8_b10 (ninS ne_b8_ka (ninS ne_b8_pa (ninS ne_b8_ta nin0))))
    have E_b8 := E_b8.keep K18
    have A_b9 := A_b9.keep K18 (ninS ne_b9_b10 (ninS ne_b9_ka (ninS ne_b9_pa (ninS ne_b9_ta nin0))))
    have E_b9 := E_b9.keep K18
    have E_b10 := E_b10.keep K18
    have A_la := A_la.keep K18 (ninS (Ne.symm ne_b10_la) (ninS ne_la_ka (ninS ne_la_pa (ninS ne_la_ta nin0))))
    have A_wa := A_wa.keep K18 (ninS (Ne.symm ne_b10_wa) (ninS ne_wa_ka (ninS ne_wa_pa (ninS ne_wa_ta nin0))))
    have A_sa := A_sa.keep K18 (ninS (Ne.symm ne_b10_sa) (ninS ne_sa_ka (ninS ne_sa_pa (ninS ne_sa_ta nin0))))
    have A_ma := A_ma.keep K18 (ninS (Ne.symm ne_b10_ma) (ninS ne_ma_ka (ninS ne_ma_pa (ninS ne_ma_ta nin0))))
    have F_b10_low := G0_low
    have F_b10_word := G0_word
    have F_b10_shift := G0_shift
    have F_b10_mask := G0_mask
    have F_b10_key := G0_key
    have F_b10_packed := G0_packed
    have F_b10_table := G0_table
    have F_b10_words := G0_words
    have F_b10_count := G0_count
    have A_pa := Bp0
    have A_ka := Bk
    have A_ta := Bt
    change Run _ _ _ _ _ _ _ _ [(.int (0 : Int32))]
    refine r_istore 98 X #[.val (.long q1), .second, .val (.long q2), .second, .val (.long q3), .second, .val (.int p1), .val (.int p2), .val (.int p3), .val (.ref b1), .val (.ref b2), .val (.ref b3), .val (.ref b4), .val (.ref b8), .val (.ref b9), .val (.ref b10), .val (.int (0 : Int32)), .unset] at_96 rfl ?_
    refine r_aload 100 X at_98 rfl rfl ?_
    refine r_aload 102 X at_100 rfl rfl ?_
    refine r_virtual 105 X (st := []) (a := b10) (rmAd11 l Z a0 hw n0 _ X.sz b10 la wa sa ma ka pa ta b4 (updI (updI (updI (fun _ => (0 : Int32)) 0 lo0) 1 lo1) 2 lo2) (updI (updI (updI (fun _ => (0 : Int32)) 0 vb0) 1 vb1) 2 vb2) u1 m0 m1 m2 gk gp0 k0 (((0 : Int64) ||| (fldS va0 lo0 (0 : Int32))) ||| (fldS va1 lo1 u1)) ((0 : Int64) ||| (fldS va2 lo2 (0 : Int32))) gn_b10 gka gpa gta ne_b10_la ne_b10_wa ne_b10_sa ne_b10_ma ne_b10_ka ne_b10_pa ne_b10_ta (Ne.symm ne_b4_b10) ne_la_ka ne_la_pa ne_la_ta ne_wa_ka ne_wa_pa ne_wa_ta ne_sa_ka ne_sa_pa ne_sa_ta ne_ma_ka ne_ma_pa ne_ma_ta ne_ka_pa ne_ka_ta (Ne.symm ne_b4_ka) ne_pa_ta (Ne.symm ne_b4_pa) (Ne.symm ne_b4_ta) hp0 hp1 E_b10 F_b10_low F_b10_word F_b10_shift F_b10_mask F_b10_key F_b10_packed F_b10_table F_b10_words F_b10_count A_la A_wa A_sa A_ma A_ka A_pa A_ta A_b4) E_b10 (hw _ (List.mem_of_getElem? (i := 56) rfl)) (hw _ (List.mem_of_getElem? (i := 57) rfl)) (hw _ (List.mem_of_getElem? (i := 59) rfl)) (hw _ (List.mem_of_getElem? (i := 59) rfl)) (hw _ (List.mem_of_getElem? (i := 58) rfl)) (hw _ (List.mem_of_getElem? (i := 60) rfl)) (hw _ (List.mem_of_getElem? (i := 14) rfl)) (by decide) pd_7 [(.ref b4)] rfl rfl 0 (Nat.le_of_eq rfl) rfl (by decide) (by decide) (by decide) (by decide) at_102 ?_
    rintro T h19 v19 ⟨rB, kb, rfl, hrB, hkb, K19, G1_low, G1_word, G1_shift, G1_mask, G1_key, G1_packed, G1_table, G1_words, gp1, Bp1, hq0, hq1, hs0, hs1⟩ X
    have E_b1 := E_b1.keep K19
    have E_b2 := E_b2.keep K19
    have E_b3 := E_b3.keep K19
    have E_b4 := E_b4.keep K19
    have A_b1 := A_b1.keep K19 (ninS ne_b1_b10 (ninS ne_b1_ka (ninS ne_b1_pa (ninS ne_b1_ta nin0))))
    have A_b2 := A_b2.keep K19 (ninS ne_b2_b10 (ninS ne_b2_ka (ninS ne_b2_pa (ninS ne_b2_ta nin0))))
    have A_b3 := A_b3.keep K19 (ninS ne_b3_b10 (ninS ne_b3_ka (ninS ne_b3_pa (ninS ne_b3_ta nin0))))
    have A_b4 := A_b4.keep K19 (ninS ne_b4_b10 (ninS ne_b4_ka (ninS ne_b4_pa (ninS ne_b4_ta nin0))))
    have A_b8 := A_b8.keep K19 (ninS ne_b8_b10 (ninS ne_b8_ka (ninS ne_b8_pa (ninS ne_b8_ta nin0))))
    have E_b8 := E_b8.keep K19
    have A_b9 := A_b9.keep K19 (ninS ne_b9_b10 (ninS ne_b9_ka (ninS ne_b9_pa (ninS ne_b9_ta nin0))))
    have E_b9 := E_b9.keep K19
    have E_b10 := E_b10.keep K19
    have A_la := A_la.keep K19 (ninS (Ne.symm ne_b10_la) (ninS ne_la_ka (ninS ne_la_pa (ninS ne_la_ta nin0))))
    have A_wa := A_wa.keep K19 (ninS (Ne.symm ne_b10_wa) (ninS ne_wa_ka (ninS ne_wa_pa (ninS ne_wa_ta nin0))))
    have A_sa := A_sa.keep K19 (ninS (Ne.symm ne_b10_sa) (ninS ne_sa_ka (ninS ne_sa_pa (ninS ne_sa_ta nin0))))
    have A_ma := A_ma.keep K19 (ninS (Ne.symm ne_b10_ma) (ninS ne_ma_ka (ninS ne_ma_pa (ninS ne_ma_ta nin0))))
    have F_b10_low := G1_low
    have F_b10_word := G1_word
    have F_b10_shift := G1_shift
    have F_b10_mask := G1_mask
    have F_b10_key := G1_key
    have F_b10_packed := G1_packed
    have F_b10_table := G1_table
    have F_b10_words := G1_words
    have A_pa := Bp1
    change Run _ _ _ _ _ _ _ _ [(.int rB)]
    refine r_istore 107 X #[.val (.long q1), .second, .val (.long q2), .second, .val (.long q3), .second, .val (.int p1), .val (.int p2), .val (.int p3), .val (.ref b1), .val (.ref b2), .val (.ref b3), .val (.ref b4), .val (.ref b8), .val (.ref b9), .val (.ref b10), .val (.int (0 : Int32)), .val (.int rB)] at_105 rfl ?_
    refine r_aload 109 X at_107 rfl rfl ?_
    refine r_iload 111 X at_109 rfl ?_
    refine r_aload 113 X at_111 rfl rfl ?_
    refine r_virtual 116 X (st := []) (a := b10) (rmVl1 l Z a0 hw n0 _ X.sz b10 la wa sa ma pa b8 (updI (updI (updI (fun _ => (0 : Int32)) 0 lo0) 1 lo1) 2 lo2) (fun _ => (0 : Int32)) u1 m0 m1 m2 gp1 (0 : Int32) 0 (((0 : Int64) ||| (fldS va0 lo0 (0 : Int32))) ||| (fldS va1 lo1 u1)) ((0 : Int64) ||| (fldS va2 lo2 (0 : Int32))) va0 va1 va2 rfl (by decide) hq0 hq1 sA.1 sA.2.1 sA.2.2 gn_b8 (Ne.symm ne_b8_b10) (Ne.symm ne_b8_la) (Ne.symm ne_b8_wa) (Ne.symm ne_b8_sa) (Ne.symm ne_b8_ma) (Ne.symm ne_b8_pa) E_b10 F_b10_low F_b10_word F_b10_shift F_b10_mask F_b10_packed F_b10_words A_la A_wa A_sa A_ma A_pa A_b8) E_b10 (hw _ (List.mem_of_getElem? (i := 81) rfl)) (hw _ (List.mem_of_getElem? (i := 82) rfl)) (hw _ (List.mem_of_getElem? (i := 84) rfl)) (hw _ (List.mem_of_getElem? (i := 84) rfl)) (hw _ (List.mem_of_getElem? (i := 83) rfl)) (hw _ (List.mem_of_getElem? (i := 85) rfl)) (hw _ (List.mem_of_getElem? (i := 14) rfl)) (by decide) pd_8 [(.int (0 : Int32)), (.ref b8)] rfl rfl 0 (Nat.le_of_eq rfl) rfl (by decide) (by decide) (by decide) (by decide) at_113 ?_
    rintro T h20 v20 ⟨rfl, K20, Bo20⟩ X
    have E_b1 := E_b1.keep K20
    have E_b2 := E_b2.keep K20
    have E_b3 := E_b3.keep K20
    have E_b4 := E_b4.keep K20
    have A_b1 := A_b1.keep K20 (ninS ne_b1_b8 nin0)
    have A_b2 := A_b2.keep K20 (ninS ne_b2_b8 nin0)
    have A_b3 := A_b3.keep K20 (ninS ne_b3_b8 nin0)
    have A_b4 := A_b4.keep K20 (ninS ne_b4_b8 nin0)
    have E_b8 := E_b8.keep K20
    have A_b9 := A_b9.keep K20 (ninS (Ne.symm ne_b8_b9) nin0)
    have E_b9 := E_b9.keep K20
    have E_b10 := E_b10.keep K20
    have A_la := A_la.keep K20 (ninS (Ne.symm ne_b8_la) nin0)
    have A_wa := A_wa.keep K20 (ninS (Ne.symm ne_b8_wa) nin0)
    have A_sa := A_sa.keep K20 (ninS (Ne.symm ne_b8_sa) nin0)
    have A_ma := A_ma.keep K20 (ninS (Ne.symm ne_b8_ma) nin0)
    have F_b10_low := F_b10_low.keep K20 (ninS (Ne.symm ne_b8_b10) nin0)
    have F_b10_word := F_b10_word.keep K20 (ninS (Ne.symm ne_b8_b10) nin0)
    have F_b10_shift := F_b10_shift.keep K20 (ninS (Ne.symm ne_b8_b10) nin0)
    have F_b10_mask := F_b10_mask.keep K20 (ninS (Ne.symm ne_b8_b10) nin0)
    have F_b10_key := F_b10_key.keep K20 (ninS (Ne.symm ne_b8_b10) nin0)
    have F_b10_packed := F_b10_packed.keep K20 (ninS (Ne.symm ne_b8_b10) nin0)
    have F_b10_table := F_b10_table.keep K20 (ninS (Ne.symm ne_b8_b10) nin0)
    have F_b10_words := F_b10_words.keep K20 (ninS (Ne.symm ne_b8_b10) nin0)
    have A_pa := A_pa.keep K20 (ninS (Ne.symm ne_b8_pa) nin0)
    have A_b8 : AF Z h20 b8 .int 3 (fun j => .int ((updI (updI (updI (fun _ => (0 : Int32)) 0 va0) 1 va1) 2 va2) j)) := Bo20
    change Run _ _ _ _ _ _ _ _ []
    refine r_aload 118 X at_116 rfl rfl ?_
    refine r_iload 120 X at_118 rfl ?_
    refine r_aload 122 X at_120 rfl rfl ?_
    refine r_virtual 125 X (st := []) (a := b10) (rmVl1 l Z a0 hw n0 _ X.sz b10 la wa sa ma pa b9 (updI (updI (updI (fun _ => (0 : Int32)) 0 lo0) 1 lo1) 2 lo2) (fun _ => (0 : Int32)) u1 m0 m1 m2 gp1 rB kb (((0 : Int64) ||| (fldS vb0 lo0 (0 : Int32))) ||| (fldS vb1 lo1 u1)) ((0 : Int64) ||| (fldS vb2 lo2 (0 : Int32))) vb0 vb1 vb2 hrB hkb hs0 hs1 sB.1 sB.2.1 sB.2.2 gn_b9 (Ne.symm ne_b9_b10) (Ne.symm ne_b9_la) (Ne.symm ne_b9_wa) (Ne.symm ne_b9_sa) (Ne.symm ne_b9_ma) (Ne.symm ne_b9_pa) E_b10 F_b10_low F_b10_word F_b10_shift F_b10_mask F_b10_packed F_b10_words A_la A_wa A_sa A_ma A_pa A_b9) E_b10 (hw _ (List.mem_of_getElem? (i := 81) rfl)) (hw _ (List.mem_of_getElem? (i := 82) rfl)) (hw _ (List.mem_of_getElem? (i := 84) rfl)) (hw _ (List.mem_of_getElem? (i := 84) rfl)) (hw _ (List.mem_of_getElem? (i := 83) rfl)) (hw _ (List.mem_of_getElem? (i := 85) rfl)) (hw _ (List.mem_of_getElem? (i := 14) rfl)) (by decide) pd_8 [(.int rB), (.ref b9)] rfl rfl 0 (Nat.le_of_eq rfl) rfl (by decide) (by decide) (by decide) (by decide) at_122 ?_
    rintro T h21 v21 ⟨rfl, K21, Bo21⟩ X
    have E_b1 := E_b1.keep K21
    have E_b2 := E_b2.keep K21
    have E_b3 := E_b3.keep K21
    have E_b4 := E_b4.keep K21
    have A_b1 := A_b1.keep K21 (ninS ne_b1_b9 nin0)
    have A_b2 := A_b2.keep K21 (ninS ne_b2_b9 nin0)
    have A_b3 := A_b3.keep K21 (ninS ne_b3_b9 nin0)
    have A_b4 := A_b4.keep K21 (ninS ne_b4_b9 nin0)
    have E_b8 := E_b8.keep K21
    have E_b9 := E_b9.keep K21
    have E_b10 := E_b10.keep K21
    have A_la := A_la.keep K21 (ninS (Ne.symm ne_b9_la) nin0)
    have A_wa := A_wa.keep K21 (ninS (Ne.symm ne_b9_wa) nin0)
    have A_sa := A_sa.keep K21 (ninS (Ne.symm ne_b9_sa) nin0)
    have A_ma := A_ma.keep K21 (ninS (Ne.symm ne_b9_ma) nin0)
    have F_b10_low := F_b10_low.keep K21 (ninS (Ne.symm ne_b9_b10) nin0)
    have F_b10_word := F_b10_word.keep K21 (ninS (Ne.symm ne_b9_b10) nin0)
    have F_b10_shift := F_b10_shift.keep K21 (ninS (Ne.symm ne_b9_b10) nin0)
    have F_b10_mask := F_b10_mask.keep K21 (ninS (Ne.symm ne_b9_b10) nin0)
    have F_b10_key := F_b10_key.keep K21 (ninS (Ne.symm ne_b9_b10) nin0)
    have F_b10_packed := F_b10_packed.keep K21 (ninS (Ne.symm ne_b9_b10) nin0)
    have F_b10_table := F_b10_table.keep K21 (ninS (Ne.symm ne_b9_b10) nin0)
    have F_b10_words := F_b10_words.keep K21 (ninS (Ne.symm ne_b9_b10) nin0)
    have A_pa := A_pa.keep K21 (ninS (Ne.symm ne_b9_pa) nin0)
    have A_b8 := A_b8.keep K21 (ninS ne_b8_b9 nin0)
    have A_b9 : AF Z h21 b9 .int 3 (fun j => .int ((updI (updI (updI (fun _ => (0 : Int32)) 0 vb0) 1 vb1) 2 vb2) j)) := Bo21
    change Run _ _ _ _ _ _ _ _ []
    refine r_aload 127 X at_125 rfl rfl ?_
    refine r_aload 129 X at_127 rfl rfl ?_
    refine r_callS 132 X (st := []) (rmSm l Z a0 hw n0 _ X.sz b8 b3 (updI (updI (updI (fun _ => (0 : Int32)) 0 va0) 1 va1) 2 va2) (updI (updI (updI (fun _ => (0 : Int32)) 0 va0) 1 va1) 2 va2) rfl rfl rfl A_b8 A_b3) (hw _ (List.mem_of_getElem? (i := 86) rfl)) (hw _ (List.mem_of_getElem? (i := 87) rfl)) (hw _ (List.mem_of_getElem? (i := 88) rfl)) (hw _ (List.mem_of_getElem? (i := 3) rfl)) (by decide) pd_9 [(.ref b8), (.ref b3)] rfl rfl 0 (Nat.le_of_eq rfl) rfl (by decide) (by decide) (by decide) (by decide) at_129 ?_
    rintro T h22 v22 ⟨rfl, rfl⟩ X
    change Run _ _ _ _ _ _ _ _ [(.int (1 : Int32))]
    refine r_ifN 135 X at_132 ((if0 _ _).trans (feq (by decide)).1) ?_
    refine r_aload 137 X at_135 rfl rfl ?_
    refine r_aload 139 X at_137 rfl rfl ?_
    refine r_callS 142 X (st := []) (rmSm l Z a0 hw n0 _ X.sz b9 b4 (updI (updI (updI (fun _ => (0 : Int32)) 0 vb0) 1 vb1) 2 vb2) (updI (updI (updI (fun _ => (0 : Int32)) 0 vb0) 1 vb1) 2 vb2) rfl rfl rfl A_b9 A_b4) (hw _ (List.mem_of_getElem? (i := 86) rfl)) (hw _ (List.mem_of_getElem? (i := 87) rfl)) (hw _ (List.mem_of_getElem? (i := 88) rfl)) (hw _ (List.mem_of_getElem? (i := 3) rfl)) (by decide) pd_9 [(.ref b9), (.ref b4)] rfl rfl 0 (Nat.le_of_eq rfl) rfl (by decide) (by decide) (by decide) (by decide) at_139 ?_
    rintro T h23 v23 ⟨rfl, rfl⟩ X
    change Run _ _ _ _ _ _ _ _ [(.int (1 : Int32))]
    refine r_ifN 145 X at_142 ((if0 _ _).trans (feq (by decide)).1) ?_
    refine r_iconst 146 X (1 : Int32) at_145 rfl ?_
    refine r_goto 150 X at_146 ?_
    refine r_retZ (z := (1 : Int32)) X at_150 rfl (by decide) (by decide) ?_
    exact rfl
set_option maxRecDepth 65536 in
set_option maxHeartbeats 40000000 in
theorem comes_1 {Post : Tables → Env → Array Value → State → Outcome → State → Prop} (hpost : ∀ tb e args s v u, (limb_1_1.after args s (.returned v) u = true ∧ limb_1_2.after args s (.returned v) u = true ∧ True) → FrameEnd s (.returned v) u (Jvm.fieldLocs frame_1_writes args s ++ Jvm.arrayLocs frame_1_arrays args s ++ Jvm.staticLocs frame_1_statics s) 40 384 → Post tb e args s (.returned v) u) :
    ArmFor flags0 classFile x code maxLocals ret World_1 tables_1 room_1 Calls_1 rest_1 Pre_1 Post := by
  intro l hfl _ _ p e ha hc hk s m args below hf hA hF happ hP
  obtain ⟨hcalls, hrest, hpre⟩ := hP
  obtain ⟨-, -, -, hnamed, -, -, -, hat⟩ := (Spec.applies_iff hf).mp happ
  obtain ⟨hg, hn⟩ := and_e (Cond.before_iff.mp (show (Jvm.Cond.and given_1 narrow_1).before args s = true from hpre))
  obtain ⟨g1, g2⟩ := and_e hg
  obtain ⟨g3, g4⟩ := and_e g2
  obtain ⟨g5, g6⟩ := and_e g4
  obtain ⟨g7, g8⟩ := and_e g6
  obtain ⟨g9, g10⟩ := and_e g8
  obtain ⟨g11, g12⟩ := and_e g10
  obtain ⟨w0, w1, w2, w3, w4, w5, rfl⟩ : ∃ w0 w1 w2 w3 w4 w5 : Value, args = #[w0, w1, w2, w3, w4, w5] := by
    have hs : args.size = 6 := by simpa [Cond.value, given_1] using g1
    obtain ⟨L⟩ := args
    match L, hs with
    | [w0, w1, w2, w3, w4, w5], _ => exact ⟨w0, w1, w2, w3, w4, w5, rfl⟩
  have hw := fun d (hd : d ∈ tables_1) => atoms_spec (ws := Jvm.Cond.code x code maxLocals ret :: tables_1) hat d (List.mem_cons_of_mem _ hd)
  have hfit : Fit s := fun {y c} hc i hi => by
    obtain ⟨ha, rfl⟩ := Array.getElem?_eq_some_iff.mp hc
    have q := List.all_eq_true.mp ((Array.all_eq_true_iff_forall_mem.mp hF) _ (Array.getElem_mem ha)) i (List.mem_range.mpr hi)
    simpa [Array.getElem?_eq_getElem hi] using q
  obtain ⟨i0, ei0⟩ := isL_v g3
  obtain rfl : w0 = (.long i0) := Option.some.inj ei0
  obtain ⟨i1, ei1⟩ := isL_v g5
  obtain rfl : w1 = (.long i1) := Option.some.inj ei1
  obtain ⟨i2, ei2⟩ := isL_v g7
  obtain rfl : w2 = (.long i2) := Option.some.inj ei2
  obtain ⟨i3, ei3⟩ := is_v g9
  obtain rfl : w3 = (.int i3) := Option.some.inj ei3
  obtain ⟨i4, ei4⟩ := is_v g11
  obtain rfl : w4 = (.int i4) := Option.some.inj ei4
  obtain ⟨i5, ei5⟩ := is_v g12
  obtain rfl : w5 = (.int i5) := Option.some.inj ei5
  obtain ⟨n, o, h1, h2, h3, _, L, rfl, ⟨rfl, N, -⟩, hq⟩ := rm0 l s _ hw s.heap.size s.heap (Nat.le_refl _) i0 i1 i2 i3 i4 i5  p e ha hc hk s m _ below hf ((Spec.applies_iff_loose hf).mp happ).1 ⟨rfl, State.Warmed39.refl s, rfl⟩ trivial
  refine ⟨n, _, h1, h2, h3, hpost _ _ _ _ _ _ ⟨Cond.after_iff.mpr rfl, Cond.after_iff.mpr (eq_i res_at (Term.int_eval (1)) rfl), trivial⟩ ⟨hq.1, hq.2.1, (hq.2.2.sift fun y hy => Or.inr (N y hy)).mono (by decide) (by decide)⟩⟩
theorem main_1_1 : Claimed_1_1 := comes_1 fun _ _ _ _ _ _ h hF => ⟨h.1, hF⟩
theorem main_1_2 : Claimed_1_2 := comes_1 fun _ _ _ _ _ _ h hF => ⟨h.2.1, hF⟩
end Jvm.Pilot.@@N@@
namespace Jvm.Pilot.@@N@@
open Jvm Jvm.ClassFile Sem Op Lib Jvm.Free Jvm.Stand Jvm.Pilot.@@N@@.Jvm.D
/-! MADE BY PROGRAM (witnessworld.py) out of the Statement's table words and the real class files: 19 classes; the members and pool entries that the words name. The judged class is class 1, her method 1. -/
namespace start1
open Jvm.ClassFile
def u (s : String) : CpInfo := .utf8 (stringToUtf16 s)
/-- a pool by its gaps: so many unusable entries, then the entry; so many at the end -/
def gap : Nat → List CpInfo → List CpInfo
  | 0, r => r
  | n + 1, r => .unusable :: gap n r
def poolList (es : List (Nat × CpInfo)) (last : Nat) : List CpInfo := es.foldr (fun e r => gap e.1 (e.2 :: r)) (gap last [])
def pool (es : List (Nat × CpInfo)) (last : Nat) : Array CpInfo := ⟨poolList es last⟩
def fileOf (pool : Array CpInfo) (this : Nat) (attrs : Array Attribute := #[]) (ms : Array MethodInfo := #[]) (fl : Nat := 33) (sup : Nat := 0) (ifs : Array Nat := #[]) (fds : Array FieldInfo := #[]) : ClassFile where
  minorVersion := 0
  majorVersion := 65
  constantPool := pool
  accessFlags := fl
  thisClass := this
  superClass := sup
  interfaces := ifs
  fields := fds
  methods := ms
  attributes := attrs
def plain (name : String) (sup : Option ClassId) : Class where
  name := name
  kind := .ordinary
  loader := none
  accessFlags := 33
  super := sup
  interfaces := #[]
  cf := none
  fields := #[]
  methods := #[]
  instanceTypes := #[]
  staticTypes := #[]
  resolved := #[]
  callSites := []
  init := .initialized
  statics := none
  mirror := none

def pool0 : Array CpInfo := pool [(5, u "<init>"), (0, u "()V"), (1, .class_ 10), (1, u "java/lang/Object"), (85, u "clone"), (0, u "()Ljava/lang/Object;")] 26

def k0c0 : Code := { maxStack := 0, maxLocals := 1, code := object_method_1_code, exceptionTable := #[], attributes := #[] }
def k0m0 : Method := { name := "<init>", desc := "()V", sig := { parameters := [], returnType := none }, accessFlags := 1, code := some k0c0 }
def k0m1 : Method := { name := "clone", desc := "()Ljava/lang/Object;", sig := { parameters := [], returnType := some (.object "java/lang/Object") }, accessFlags := 260, code := none }
/-- java/lang/Object -/
def k0 : Class := { plain "java/lang/Object" none with
  accessFlags := 33
  interfaces := #[]
  cf := some (fileOf pool0 8 #[] #[{ accessFlags := 1, nameIndex := 5, descriptorIndex := 6, attributes := #[] }, { accessFlags := 260, nameIndex := 96, descriptorIndex := 97, attributes := #[] }] 33 0 #[] #[])
  fields := #[]
  methods := #[k0m0, k0m1]
  instanceTypes := #[]
  staticTypes := #[]
  resolved := Array.replicate 124 none
  statics := none }

def pool1 : Array CpInfo := pool [(2, .class_ 4), (1, u "java/lang/Object"), (0, u "<init>"), (0, u "()V"), (0, .methodref 8 9), (0, .class_ 10), (0, .nameAndType 11 12), (0, u "com/example/heliotrope/heliotrope/language/StateStoreValuesPinLaw"), (0, u "set"), (0, u "([I[I[I[IIJI)V"), (0, .class_ 14), (0, u "com/example/heliotrope/heliotrope/language/StateStore"), (0, .methodref 13 16), (0, .nameAndType 5 17), (0, u "([I[I)V"), (0, .methodref 13 19), (0, .nameAndType 20 21), (0, u "add"), (0, u "([I)I"), (0, .methodref 13 23), (0, .nameAndType 24 25), (0, u "values"), (0, u "(I[I)V"), (0, .methodref 8 27), (0, .nameAndType 28 29), (0, u "same"), (0, u "([I[I)Z"), (0, .methodref 31 32), (0, .class_ 33), (0, .nameAndType 34 35), (0, u "java/lang/Math"), (0, u "min"), (0, u "(II)I"), (0, .methodref 31 37), (0, .nameAndType 38 35), (0, u "max"), (2, u "law"), (0, u "(JJJIII)Z")] 5

def k1m0 : Method := { name := "<init>", desc := "()V", sig := { parameters := [], returnType := none }, accessFlags := 1, code := none }
def k1c1 : Code := { maxStack := 8, maxLocals := 18, code := code, exceptionTable := #[], attributes := #[] }
def k1m1 : Method := { name := "law", desc := "(JJJIII)Z", sig := { parameters := [.long, .long, .long, .int, .int, .int], returnType := some .boolean }, accessFlags := 9, code := some k1c1 }
def k1c2 : Code := { maxStack := 6, maxLocals := 13, code := method_3_code, exceptionTable := #[], attributes := #[] }
def k1m2 : Method := { name := "set", desc := "([I[I[I[IIJI)V", sig := { parameters := [(.array .int), (.array .int), (.array .int), (.array .int), .int, .long, .int], returnType := none }, accessFlags := 10, code := some k1c2 }
def k1c3 : Code := { maxStack := 3, maxLocals := 2, code := method_4_code, exceptionTable := #[], attributes := #[] }
def k1m3 : Method := { name := "same", desc := "([I[I)Z", sig := { parameters := [(.array .int), (.array .int)], returnType := some .boolean }, accessFlags := 10, code := some k1c3 }
/-- com/example/heliotrope/heliotrope/language/StateStoreValuesPinLaw -/
def k1 : Class := { plain "com/example/heliotrope/heliotrope/language/StateStoreValuesPinLaw" (some 0) with
  accessFlags := 49
  interfaces := #[]
  cf := some (fileOf pool1 8 #[] #[{ accessFlags := 1, nameIndex := 5, descriptorIndex := 6, attributes := #[] }, { accessFlags := 9, nameIndex := 41, descriptorIndex := 42, attributes := #[] }, { accessFlags := 10, nameIndex := 11, descriptorIndex := 12, attributes := #[] }, { accessFlags := 10, nameIndex := 28, descriptorIndex := 29, attributes := #[] }] 49 2 #[] #[])
  fields := #[]
  methods := #[k1m0, k1m1, k1m2, k1m3]
  instanceTypes := #[]
  staticTypes := #[]
  resolved := Array.replicate 48 none
  statics := none }

def pool2 : Array CpInfo := pool [(1, .class_ 2), (0, u "java/lang/Math"), (1, .class_ 6), (1, u "java/lang/Object"), (0, u "<init>"), (0, u "()V"), (89, .class_ 100), (1, u "java/lang/Math$RandomNumberGeneratorHolder"), (71, u "negativeZeroFloatBits"), (0, u "J"), (2, u "negativeZeroDoubleBits"), (21, u "max"), (2, u "min"), (43, u "$assertionsDisabled"), (0, u "Z"), (88, u "(II)I"), (2, u "twoToTheDoubleScaleDown"), (0, u "D"), (4, u "twoToTheDoubleScaleUp"), (9, u "E"), (3, u "PI"), (2, u "TAU"), (2, u "DEGREES_TO_RADIANS"), (0, u "RADIANS_TO_DEGREES")] 94

def k2m0 : Method := { name := "<init>", desc := "()V", sig := { parameters := [], returnType := none }, accessFlags := 2, code := none }
def k2c1 : Code := { maxStack := 2, maxLocals := 2, code := jdk_29_method_65_code, exceptionTable := #[], attributes := #[] }
def k2m1 : Method := { name := "max", desc := "(II)I", sig := { parameters := [.int, .int], returnType := some .int }, accessFlags := 9, code := some k2c1 }
def k2c2 : Code := { maxStack := 2, maxLocals := 2, code := jdk_29_method_69_code, exceptionTable := #[], attributes := #[] }
def k2m2 : Method := { name := "min", desc := "(II)I", sig := { parameters := [.int, .int], returnType := some .int }, accessFlags := 9, code := some k2c2 }
/-- java/lang/Math -/
def k2 : Class := { plain "java/lang/Math" (some 0) with
  accessFlags := 49
  interfaces := #[]
  cf := some (fileOf pool2 1 #[.nestMembers #[98]] #[{ accessFlags := 2, nameIndex := 7, descriptorIndex := 8, attributes := #[] }, { accessFlags := 9, nameIndex := 198, descriptorIndex := 335, attributes := #[] }, { accessFlags := 9, nameIndex := 201, descriptorIndex := 335, attributes := #[] }] 49 4 #[] #[{ accessFlags := 25, nameIndex := 354, descriptorIndex := 339, attributes := #[] }, { accessFlags := 25, nameIndex := 358, descriptorIndex := 339, attributes := #[] }, { accessFlags := 25, nameIndex := 361, descriptorIndex := 339, attributes := #[] }, { accessFlags := 26, nameIndex := 364, descriptorIndex := 339, attributes := #[] }, { accessFlags := 26, nameIndex := 365, descriptorIndex := 339, attributes := #[] }, { accessFlags := 26, nameIndex := 172, descriptorIndex := 173, attributes := #[] }, { accessFlags := 26, nameIndex := 176, descriptorIndex := 173, attributes := #[] }, { accessFlags := 8, nameIndex := 344, descriptorIndex := 339, attributes := #[] }, { accessFlags := 8, nameIndex := 338, descriptorIndex := 339, attributes := #[] }, { accessFlags := 4120, nameIndex := 245, descriptorIndex := 246, attributes := #[] }])
  fields := #[{ name := "E", type := .double, accessFlags := 25, slot := 0, constantValue := 0 }, { name := "PI", type := .double, accessFlags := 25, slot := 1, constantValue := 0 }, { name := "TAU", type := .double, accessFlags := 25, slot := 2, constantValue := 0 }, { name := "DEGREES_TO_RADIANS", type := .double, accessFlags := 26, slot := 3, constantValue := 0 }, { name := "RADIANS_TO_DEGREES", type := .double, accessFlags := 26, slot := 4, constantValue := 0 }, { name := "negativeZeroFloatBits", type := .long, accessFlags := 26, slot := 5, constantValue := 0 }, { name := "negativeZeroDoubleBits", type := .long, accessFlags := 26, slot := 6, constantValue := 0 }, { name := "twoToTheDoubleScaleUp", type := .double, accessFlags := 8, slot := 7, constantValue := 0 }, { name := "twoToTheDoubleScaleDown", type := .double, accessFlags := 8, slot := 8, constantValue := 0 }, { name := "$assertionsDisabled", type := .boolean, accessFlags := 4120, slot := 9, constantValue := 0 }]
  methods := #[k2m0, k2m1, k2m2]
  instanceTypes := #[]
  staticTypes := #[.double, .double, .double, .double, .double, .long, .long, .double, .double, .boolean]
  resolved := Array.replicate 460 none
  statics := none }

def pool3 : Array CpInfo := pool [(1, .class_ 2), (0, u "java/lang/Integer"), (0, .methodref 4 5), (0, .class_ 6), (0, .nameAndType 7 8), (0, u "java/lang/Object"), (0, u "<init>"), (0, u "()V"), (0, .methodref 10 11), (0, .class_ 12), (0, .nameAndType 13 14), (0, u "[I"), (0, u "clone"), (0, u "()Ljava/lang/Object;"), (0, .fieldref 16 17), (0, .class_ 18), (0, .nameAndType 19 12), (0, u "com/example/heliotrope/heliotrope/language/StateStore"), (0, u "low"), (0, .fieldref 16 21), (0, .nameAndType 22 12), (0, u "word"), (0, .fieldref 16 24), (0, .nameAndType 25 12), (0, u "shift"), (0, .fieldref 16 27), (0, .nameAndType 28 29), (0, u "mask"), (0, u "[J"), (0, .class_ 31), (0, u "java/lang/Long"), (0, .methodref 30 33), (0, .nameAndType 34 35), (0, u "numberOfLeadingZeros"), (0, u "(J)I"), (0, .fieldref 16 37), (0, .nameAndType 38 39), (0, u "words"), (0, u "I"), (0, .fieldref 16 41), (0, .nameAndType 42 29), (0, u "key"), (0, .fieldref 16 44), (0, .nameAndType 45 29), (0, u "packed"), (0, .fieldref 16 47), (0, .nameAndType 48 12), (0, u "table"), (0, .fieldref 16 50), (0, .nameAndType 51 39), (0, u "count"), (0, .methodref 16 53), (0, .nameAndType 54 55), (0, u "hash"), (0, u "([JI)J"), (0, .methodref 16 57), (0, .nameAndType 58 35), (0, u "slot"), (0, .methodref 16 60), (0, .nameAndType 61 62), (0, u "equalsKey"), (0, u "(I)Z"), (0, .integer 536870912), (0, .long 2147483639), (10, .long 2), (13, .methodref 90 91), (0, .class_ 92), (0, .nameAndType 93 94), (0, u "java/lang/System"), (0, u "arraycopy"), (0, u "(Ljava/lang/Object;ILjava/lang/Object;II)V"), (3, .long 11400714819323198485), (1, .methodref 1 101), (0, .nameAndType 102 103), (0, u "numberOfTrailingZeros"), (0, u "(I)I"), (0, u "LARGEST_ARRAY"), (2, u "MOST_STATES"), (0, u "MIX"), (0, u "J"), (0, u "([I[I)V"), (5, u "add"), (0, u "([I)I"), (0, u "values"), (0, u "(I[I)V")] 17

def k3c0 : Code := { maxStack := 6, maxLocals := 9, code := prog_47_method_1_code, exceptionTable := #[], attributes := #[] }
def k3m0 : Method := { name := "<init>", desc := "([I[I)V", sig := { parameters := [(.array .int), (.array .int)], returnType := none }, accessFlags := 0, code := some k3c0 }
def k3c1 : Code := { maxStack := 8, maxLocals := 3, code := prog_47_method_3_code, exceptionTable := #[], attributes := #[] }
def k3m1 : Method := { name := "add", desc := "([I)I", sig := { parameters := [(.array .int)], returnType := some .int }, accessFlags := 0, code := some k3c1 }
def k3c2 : Code := { maxStack := 7, maxLocals := 5, code := prog_47_method_4_code, exceptionTable := #[], attributes := #[] }
def k3m2 : Method := { name := "values", desc := "(I[I)V", sig := { parameters := [.int, (.array .int)], returnType := none }, accessFlags := 0, code := some k3c2 }
def k3c3 : Code := { maxStack := 4, maxLocals := 4, code := prog_47_method_5_code, exceptionTable := #[], attributes := #[] }
def k3m3 : Method := { name := "equalsKey", desc := "(I)Z", sig := { parameters := [.int], returnType := some .boolean }, accessFlags := 2, code := some k3c3 }
def k3c4 : Code := { maxStack := 5, maxLocals := 6, code := prog_47_method_7_code, exceptionTable := #[], attributes := #[] }
def k3m4 : Method := { name := "hash", desc := "([JI)J", sig := { parameters := [(.array .long), .int], returnType := some .long }, accessFlags := 2, code := some k3c4 }
def k3c5 : Code := { maxStack := 4, maxLocals := 3, code := prog_47_method_8_code, exceptionTable := #[], attributes := #[] }
def k3m5 : Method := { name := "slot", desc := "(J)I", sig := { parameters := [.long], returnType := some .int }, accessFlags := 2, code := some k3c5 }
/-- com/example/heliotrope/heliotrope/language/StateStore -/
def k3 : Class := { plain "com/example/heliotrope/heliotrope/language/StateStore" (some 0) with
  accessFlags := 48
  interfaces := #[]
  cf := some (fileOf pool3 16 #[] #[{ accessFlags := 0, nameIndex := 7, descriptorIndex := 110, attributes := #[] }, { accessFlags := 0, nameIndex := 116, descriptorIndex := 117, attributes := #[] }, { accessFlags := 0, nameIndex := 118, descriptorIndex := 119, attributes := #[] }, { accessFlags := 2, nameIndex := 61, descriptorIndex := 62, attributes := #[] }, { accessFlags := 2, nameIndex := 54, descriptorIndex := 55, attributes := #[] }, { accessFlags := 2, nameIndex := 58, descriptorIndex := 35, attributes := #[] }] 48 4 #[] #[{ accessFlags := 26, nameIndex := 104, descriptorIndex := 39, attributes := #[] }, { accessFlags := 26, nameIndex := 107, descriptorIndex := 39, attributes := #[] }, { accessFlags := 26, nameIndex := 108, descriptorIndex := 109, attributes := #[] }, { accessFlags := 18, nameIndex := 19, descriptorIndex := 12, attributes := #[] }, { accessFlags := 18, nameIndex := 22, descriptorIndex := 12, attributes := #[] }, { accessFlags := 18, nameIndex := 25, descriptorIndex := 12, attributes := #[] }, { accessFlags := 18, nameIndex := 28, descriptorIndex := 29, attributes := #[] }, { accessFlags := 18, nameIndex := 38, descriptorIndex := 39, attributes := #[] }, { accessFlags := 2, nameIndex := 45, descriptorIndex := 29, attributes := #[] }, { accessFlags := 2, nameIndex := 51, descriptorIndex := 39, attributes := #[] }, { accessFlags := 2, nameIndex := 48, descriptorIndex := 12, attributes := #[] }, { accessFlags := 18, nameIndex := 42, descriptorIndex := 29, attributes := #[] }])
  fields := #[{ name := "LARGEST_ARRAY", type := .int, accessFlags := 26, slot := 0, constantValue := 0 }, { name := "MOST_STATES", type := .int, accessFlags := 26, slot := 1, constantValue := 0 }, { name := "MIX", type := .long, accessFlags := 26, slot := 2, constantValue := 0 }, { name := "low", type := (.array .int), accessFlags := 18, slot := 0, constantValue := 0 }, { name := "word", type := (.array .int), accessFlags := 18, slot := 1, constantValue := 0 }, { name := "shift", type := (.array .int), accessFlags := 18, slot := 2, constantValue := 0 }, { name := "mask", type := (.array .long), accessFlags := 18, slot := 3, constantValue := 0 }, { name := "words", type := .int, accessFlags := 18, slot := 4, constantValue := 0 }, { name := "packed", type := (.array .long), accessFlags := 2, slot := 5, constantValue := 0 }, { name := "count", type := .int, accessFlags := 2, slot := 6, constantValue := 0 }, { name := "table", type := (.array .int), accessFlags := 2, slot := 7, constantValue := 0 }, { name := "key", type := (.array .long), accessFlags := 18, slot := 8, constantValue := 0 }]
  methods := #[k3m0, k3m1, k3m2, k3m3, k3m4, k3m5]
  instanceTypes := #[(.array .int), (.array .int), (.array .int), (.array .long), .int, (.array .long), .int, (.array .int), (.array .long)]
  staticTypes := #[.int, .int, .long]
  resolved := Array.replicate 137 none
  statics := none }

def pool4 : Array CpInfo := pool [(1, .class_ 2), (0, u "java/lang/Cloneable"), (0, .class_ 4), (0, u "java/lang/Object")] 2

/-- java/lang/Cloneable -/
def k4 : Class := { plain "java/lang/Cloneable" (some 0) with
  accessFlags := 1537
  interfaces := #[]
  cf := some (fileOf pool4 1 #[] #[] 1537 3 #[] #[])
  fields := #[]
  methods := #[]
  instanceTypes := #[]
  staticTypes := #[]
  resolved := Array.replicate 7 none
  statics := none }

def pool5 : Array CpInfo := pool [(1, .class_ 2), (0, u "java/io/Serializable"), (0, .class_ 4), (0, u "java/lang/Object")] 2

/-- java/io/Serializable -/
def k5 : Class := { plain "java/io/Serializable" (some 0) with
  accessFlags := 1537
  interfaces := #[]
  cf := some (fileOf pool5 1 #[] #[] 1537 3 #[] #[])
  fields := #[]
  methods := #[]
  instanceTypes := #[]
  staticTypes := #[]
  resolved := Array.replicate 7 none
  statics := none }

def pool6 : Array CpInfo := pool [(2, .class_ 4), (1, u "java/lang/Object"), (0, u "<init>"), (0, u "()V"), (1, .class_ 10), (1, u "java/lang/Number"), (2, .class_ 14), (0, u "java/io/Serializable"), (0, u "serialVersionUID"), (0, u "J")] 20

def k6m0 : Method := { name := "<init>", desc := "()V", sig := { parameters := [], returnType := none }, accessFlags := 1, code := none }
/-- java/lang/Number -/
def k6 : Class := { plain "java/lang/Number" (some 0) with
  accessFlags := 1057
  interfaces := #[5]
  cf := some (fileOf pool6 8 #[] #[{ accessFlags := 1, nameIndex := 5, descriptorIndex := 6, attributes := #[] }] 1057 2 #[13] #[{ accessFlags := 26, nameIndex := 15, descriptorIndex := 16, attributes := #[] }])
  fields := #[{ name := "serialVersionUID", type := .long, accessFlags := 26, slot := 0, constantValue := 0 }]
  methods := #[k6m0]
  instanceTypes := #[]
  staticTypes := #[.long]
  resolved := Array.replicate 37 none
  statics := none }

def pool7 : Array CpInfo := pool [(1, .class_ 2), (0, u "java/lang/Comparable"), (0, .class_ 4), (0, u "java/lang/Object")] 7

/-- java/lang/Comparable -/
def k7 : Class := { plain "java/lang/Comparable" (some 0) with
  accessFlags := 1537
  interfaces := #[]
  cf := some (fileOf pool7 1 #[] #[] 1537 3 #[] #[])
  fields := #[]
  methods := #[]
  instanceTypes := #[]
  staticTypes := #[]
  resolved := Array.replicate 12 none
  statics := none }

def pool8 : Array CpInfo := pool [(1, .class_ 2), (0, u "java/lang/constant/Constable"), (0, .class_ 4), (0, u "java/lang/Object")] 6

/-- java/lang/constant/Constable -/
def k8 : Class := { plain "java/lang/constant/Constable" (some 0) with
  accessFlags := 1537
  interfaces := #[]
  cf := some (fileOf pool8 1 #[] #[] 1537 3 #[] #[])
  fields := #[]
  methods := #[]
  instanceTypes := #[]
  staticTypes := #[]
  resolved := Array.replicate 11 none
  statics := none }

def pool9 : Array CpInfo := pool [(1, .class_ 2), (0, u "java/lang/constant/ConstantDesc"), (0, .class_ 4), (0, u "java/lang/Object")] 32

/-- java/lang/constant/ConstantDesc -/
def k9 : Class := { plain "java/lang/constant/ConstantDesc" (some 0) with
  accessFlags := 1537
  interfaces := #[]
  cf := some (fileOf pool9 1 #[] #[] 1537 3 #[] #[])
  fields := #[]
  methods := #[]
  instanceTypes := #[]
  staticTypes := #[]
  resolved := Array.replicate 37 none
  statics := none }

def pool10 : Array CpInfo := pool [(1, .class_ 2), (0, u "java/lang/Long"), (15, .class_ 20), (1, u "java/lang/Integer"), (79, u "numberOfLeadingZeros"), (0, u "(J)I"), (133, .class_ 237), (1, u "java/lang/Long$LongCache"), (33, .class_ 272), (0, u "java/lang/Number"), (2, u "value"), (0, u "J"), (31, .methodref 18 309), (0, .nameAndType 100 310), (0, u "(I)I"), (50, u "TYPE"), (0, u "Ljava/lang/Class;"), (0, .class_ 364), (0, u "java/lang/Comparable"), (0, .class_ 366), (0, u "java/lang/constant/Constable"), (0, .class_ 368), (0, u "java/lang/constant/ConstantDesc"), (0, u "MIN_VALUE"), (1, u "MAX_VALUE"), (4, u "SIZE"), (0, u "I"), (1, u "BYTES"), (1, u "serialVersionUID")] 142

def k10c0 : Code := { maxStack := 3, maxLocals := 3, code := jdk_35_method_48_code, exceptionTable := #[], attributes := #[] }
def k10m0 : Method := { name := "numberOfLeadingZeros", desc := "(J)I", sig := { parameters := [.long], returnType := some .int }, accessFlags := 9, code := some k10c0 }
/-- java/lang/Long -/
def k10 : Class := { plain "java/lang/Long" (some 6) with
  accessFlags := 49
  interfaces := #[7, 8, 9]
  cf := some (fileOf pool10 1 #[.nestMembers #[235]] #[{ accessFlags := 9, nameIndex := 100, descriptorIndex := 101, attributes := #[] }] 49 271 #[363, 365, 367] #[{ accessFlags := 25, nameIndex := 369, descriptorIndex := 276, attributes := #[] }, { accessFlags := 25, nameIndex := 371, descriptorIndex := 276, attributes := #[] }, { accessFlags := 25, nameIndex := 361, descriptorIndex := 362, attributes := #[] }, { accessFlags := 18, nameIndex := 275, descriptorIndex := 276, attributes := #[] }, { accessFlags := 25, nameIndex := 376, descriptorIndex := 377, attributes := #[] }, { accessFlags := 25, nameIndex := 379, descriptorIndex := 377, attributes := #[] }, { accessFlags := 26, nameIndex := 381, descriptorIndex := 276, attributes := #[] }])
  fields := #[{ name := "MIN_VALUE", type := .long, accessFlags := 25, slot := 0, constantValue := 0 }, { name := "MAX_VALUE", type := .long, accessFlags := 25, slot := 1, constantValue := 0 }, { name := "TYPE", type := (.object "java/lang/Class"), accessFlags := 25, slot := 2, constantValue := 0 }, { name := "value", type := .long, accessFlags := 18, slot := 0, constantValue := 0 }, { name := "SIZE", type := .int, accessFlags := 25, slot := 3, constantValue := 0 }, { name := "BYTES", type := .int, accessFlags := 25, slot := 4, constantValue := 0 }, { name := "serialVersionUID", type := .long, accessFlags := 26, slot := 5, constantValue := 0 }]
  methods := #[k10m0]
  instanceTypes := #[.long]
  staticTypes := #[.long, .long, (.object "java/lang/Class"), .int, .int, .long]
  resolved := Array.replicate 524 none
  statics := none }

def pool11 : Array CpInfo := pool [(1, .class_ 2), (0, u "java/lang/Integer"), (16, u "digits"), (0, u "[C"), (32, u "numberOfLeadingZeros"), (0, u "(I)I"), (30, u "DigitOnes"), (0, u "[B"), (2, u "DigitTens"), (99, .class_ 190), (0, u "java/lang/Integer$IntegerCache"), (3, u "I"), (8, .class_ 204), (0, u "java/lang/Number"), (2, u "value"), (56, .integer 65536), (37, u "TYPE"), (0, u "Ljava/lang/Class;"), (0, .class_ 305), (0, u "java/lang/Comparable"), (0, .class_ 307), (0, u "java/lang/constant/Constable"), (0, .class_ 309), (0, u "java/lang/constant/ConstantDesc"), (0, u "MIN_VALUE"), (1, u "MAX_VALUE"), (3, u "SIZE"), (1, u "BYTES"), (1, u "serialVersionUID"), (0, u "J"), (84, u "numberOfTrailingZeros")] 46

def k11c0 : Code := { maxStack := 3, maxLocals := 2, code := jdk_33_method_47_code, exceptionTable := #[], attributes := #[] }
def k11m0 : Method := { name := "numberOfLeadingZeros", desc := "(I)I", sig := { parameters := [.int], returnType := some .int }, accessFlags := 9, code := some k11c0 }
def k11c1 : Code := { maxStack := 3, maxLocals := 2, code := jdk_33_method_48_code, exceptionTable := #[], attributes := #[] }
def k11m1 : Method := { name := "numberOfTrailingZeros", desc := "(I)I", sig := { parameters := [.int], returnType := some .int }, accessFlags := 9, code := some k11c1 }
/-- java/lang/Integer -/
def k11 : Class := { plain "java/lang/Integer" (some 6) with
  accessFlags := 49
  interfaces := #[7, 8, 9]
  cf := some (fileOf pool11 1 #[.nestMembers #[189]] #[{ accessFlags := 9, nameIndex := 53, descriptorIndex := 54, attributes := #[] }, { accessFlags := 9, nameIndex := 406, descriptorIndex := 54, attributes := #[] }] 49 203 #[304, 306, 308] #[{ accessFlags := 25, nameIndex := 310, descriptorIndex := 194, attributes := #[] }, { accessFlags := 25, nameIndex := 312, descriptorIndex := 194, attributes := #[] }, { accessFlags := 25, nameIndex := 302, descriptorIndex := 303, attributes := #[] }, { accessFlags := 24, nameIndex := 19, descriptorIndex := 20, attributes := #[] }, { accessFlags := 24, nameIndex := 89, descriptorIndex := 86, attributes := #[] }, { accessFlags := 24, nameIndex := 85, descriptorIndex := 86, attributes := #[] }, { accessFlags := 18, nameIndex := 207, descriptorIndex := 194, attributes := #[] }, { accessFlags := 25, nameIndex := 316, descriptorIndex := 194, attributes := #[] }, { accessFlags := 25, nameIndex := 318, descriptorIndex := 194, attributes := #[] }, { accessFlags := 26, nameIndex := 320, descriptorIndex := 321, attributes := #[] }])
  fields := #[{ name := "MIN_VALUE", type := .int, accessFlags := 25, slot := 0, constantValue := 0 }, { name := "MAX_VALUE", type := .int, accessFlags := 25, slot := 1, constantValue := 0 }, { name := "TYPE", type := (.object "java/lang/Class"), accessFlags := 25, slot := 2, constantValue := 0 }, { name := "digits", type := (.array .char), accessFlags := 24, slot := 3, constantValue := 0 }, { name := "DigitTens", type := (.array .byte), accessFlags := 24, slot := 4, constantValue := 0 }, { name := "DigitOnes", type := (.array .byte), accessFlags := 24, slot := 5, constantValue := 0 }, { name := "value", type := .int, accessFlags := 18, slot := 0, constantValue := 0 }, { name := "SIZE", type := .int, accessFlags := 25, slot := 6, constantValue := 0 }, { name := "BYTES", type := .int, accessFlags := 25, slot := 7, constantValue := 0 }, { name := "serialVersionUID", type := .long, accessFlags := 26, slot := 8, constantValue := 0 }]
  methods := #[k11m0, k11m1]
  instanceTypes := #[.int]
  staticTypes := #[.int, .int, (.object "java/lang/Class"), (.array .char), (.array .byte), (.array .byte), .int, .int, .long]
  resolved := Array.replicate 453 none
  statics := none }

def pool12 : Array CpInfo := pool [(2, .class_ 4), (1, u "java/lang/Object"), (0, u "<init>"), (0, u "()V"), (1, .class_ 10), (1, u "java/lang/System"), (0, u "allowSecurityManager"), (0, u "I"), (16, u "cons"), (0, u "Ljava/io/Console;"), (77, .class_ 110), (1, u "java/lang/System$CallersHolder"), (43, u "initialErrStream"), (0, u "Ljava/io/PrintStream;"), (19, u "security"), (0, u "Ljava/lang/SecurityManager;"), (31, .class_ 209), (0, u "java/lang/System$1"), (7, u "props"), (0, u "Ljava/util/Properties;"), (2, u "lineSeparator"), (0, u "Ljava/lang/String;"), (96, .class_ 321), (1, u "java/lang/System$LoggerFinder"), (5, .class_ 328), (0, u "java/lang/System$Logger"), (67, u "err"), (2, u "out"), (91, u "notSupportedJnuEncoding"), (15, u "in"), (17, u "initialIn"), (0, u "Ljava/io/InputStream;"), (35, u "bootLayer"), (0, u "Ljava/lang/ModuleLayer;"), (99, .class_ 664), (0, u "java/lang/System$2"), (9, u "NEVER"), (2, u "MAYBE"), (49, u "arraycopy"), (0, u "(Ljava/lang/Object;ILjava/lang/Object;II)V"), (72, .class_ 802), (0, u "java/lang/System$Logger$Level")] 31

def k12m0 : Method := { name := "<init>", desc := "()V", sig := { parameters := [], returnType := none }, accessFlags := 2, code := none }
def k12m1 : Method := { name := "arraycopy", desc := "(Ljava/lang/Object;ILjava/lang/Object;II)V", sig := { parameters := [(.object "java/lang/Object"), .int, (.object "java/lang/Object"), .int, .int], returnType := none }, accessFlags := 265, code := none }
/-- java/lang/System -/
def k12 : Class := { plain "java/lang/System" (some 0) with
  accessFlags := 49
  interfaces := #[]
  cf := some (fileOf pool12 8 #[.nestMembers #[319, 327, 801, 108, 663, 208]] #[{ accessFlags := 2, nameIndex := 5, descriptorIndex := 6, attributes := #[] }, { accessFlags := 265, nameIndex := 727, descriptorIndex := 728, attributes := #[] }] 49 2 #[] #[{ accessFlags := 25, nameIndex := 507, descriptorIndex := 526, attributes := #[] }, { accessFlags := 25, nameIndex := 399, descriptorIndex := 155, attributes := #[] }, { accessFlags := 25, nameIndex := 396, descriptorIndex := 155, attributes := #[] }, { accessFlags := 10, nameIndex := 525, descriptorIndex := 526, attributes := #[] }, { accessFlags := 26, nameIndex := 674, descriptorIndex := 12, attributes := #[] }, { accessFlags := 26, nameIndex := 677, descriptorIndex := 12, attributes := #[] }, { accessFlags := 10, nameIndex := 11, descriptorIndex := 12, attributes := #[] }, { accessFlags := 74, nameIndex := 175, descriptorIndex := 176, attributes := #[] }, { accessFlags := 10, nameIndex := 491, descriptorIndex := 222, attributes := #[] }, { accessFlags := 74, nameIndex := 29, descriptorIndex := 30, attributes := #[] }, { accessFlags := 74, nameIndex := 154, descriptorIndex := 155, attributes := #[] }, { accessFlags := 10, nameIndex := 217, descriptorIndex := 218, attributes := #[] }, { accessFlags := 10, nameIndex := 221, descriptorIndex := 222, attributes := #[] }, { accessFlags := 8, nameIndex := 562, descriptorIndex := 563, attributes := #[] }])
  fields := #[{ name := "in", type := (.object "java/io/InputStream"), accessFlags := 25, slot := 0, constantValue := 0 }, { name := "out", type := (.object "java/io/PrintStream"), accessFlags := 25, slot := 1, constantValue := 0 }, { name := "err", type := (.object "java/io/PrintStream"), accessFlags := 25, slot := 2, constantValue := 0 }, { name := "initialIn", type := (.object "java/io/InputStream"), accessFlags := 10, slot := 3, constantValue := 0 }, { name := "NEVER", type := .int, accessFlags := 26, slot := 4, constantValue := 0 }, { name := "MAYBE", type := .int, accessFlags := 26, slot := 5, constantValue := 0 }, { name := "allowSecurityManager", type := .int, accessFlags := 10, slot := 6, constantValue := 0 }, { name := "security", type := (.object "java/lang/SecurityManager"), accessFlags := 74, slot := 7, constantValue := 0 }, { name := "notSupportedJnuEncoding", type := (.object "java/lang/String"), accessFlags := 10, slot := 8, constantValue := 0 }, { name := "cons", type := (.object "java/io/Console"), accessFlags := 74, slot := 9, constantValue := 0 }, { name := "initialErrStream", type := (.object "java/io/PrintStream"), accessFlags := 74, slot := 10, constantValue := 0 }, { name := "props", type := (.object "java/util/Properties"), accessFlags := 10, slot := 11, constantValue := 0 }, { name := "lineSeparator", type := (.object "java/lang/String"), accessFlags := 10, slot := 12, constantValue := 0 }, { name := "bootLayer", type := (.object "java/lang/ModuleLayer"), accessFlags := 8, slot := 13, constantValue := 0 }]
  methods := #[k12m0, k12m1]
  instanceTypes := #[]
  staticTypes := #[(.object "java/io/InputStream"), (.object "java/io/PrintStream"), (.object "java/io/PrintStream"), (.object "java/io/InputStream"), .int, .int, .int, (.object "java/lang/SecurityManager"), (.object "java/lang/String"), (.object "java/io/Console"), (.object "java/io/PrintStream"), (.object "java/util/Properties"), (.object "java/lang/String"), (.object "java/lang/ModuleLayer")]
  resolved := Array.replicate 834 none
  statics := none }

/-- the primitive byte -/
def k13 : Class := { plain "byte" none with kind := .primitive 'B', accessFlags := 0x411 }
/-- [B -/
def k14 : Class := { plain "[B" (some 0) with kind := .array 13 .byte, interfaces := #[4, 5], accessFlags := 1041 }

/-- the primitive int -/
def k15 : Class := { plain "int" none with kind := .primitive 'I', accessFlags := 0x411 }
/-- [I -/
def k16 : Class := { plain "[I" (some 0) with kind := .array 15 .int, interfaces := #[4, 5], accessFlags := 1041 }

/-- the primitive long -/
def k17 : Class := { plain "long" none with kind := .primitive 'J', accessFlags := 0x411 }
/-- [J -/
def k18 : Class := { plain "[J" (some 0) with kind := .array 17 .long, interfaces := #[4, 5], accessFlags := 1041 }

def heap : Heap := #[]
def classes : Array Class := #[k0, k1, k2, k3, k4, k5, k6, k7, k8, k9, k10, k11, k12, k13, k14, k15, k16, k17, k18]
def interned : List (Array UInt16 × Addr) := []
def slotsUsed : Nat := 0
def theMethod : MethodId := ⟨1, 1⟩
def args0 : Array Value := #[.long 1, .long 2, .long 3, .int 4, .int 5, .int 6]
def aboutOver (below : List Frame) : State where
  vm := { classes := classes, interned := interned.toArray }
  heap := heap
  slotsUsed := slotsUsed
  threads := #[{ frames := .invoking theMethod args0 :: below }]
def below0 : List Frame := [.native { method := ⟨0, 0⟩, args := #[] }]
def about1 : State := aboutOver below0
def p0 : Program := .bare "" "" ""
def e0 : Env := launch0.env 0 0 0
theorem w_frames : about1.frames = Frame.invoking theMethod args0 :: below0 := rfl
set_option maxRecDepth 65536 in
theorem w_args : argsFit about1.vm theMethod args0 = true := by decide +kernel
set_option maxRecDepth 65536 in
theorem w_heap : heapFits about1 = true := by decide +kernel
set_option maxRecDepth 65536 in
theorem w_runnable : about1.curStatus? = some .runnable := by decide +kernel
set_option maxRecDepth 65536 in
theorem w_alone : about1.alone = true := by decide +kernel
set_option maxRecDepth 65536 in
theorem w_named : about1.methodNamed? x = some theMethod := by decide +kernel
set_option maxRecDepth 65536 in
theorem w_hears : about1.hears theMethod below0 = true := by decide +kernel
set_option maxRecDepth 65536 in
theorem w_ripe : about1.ripe theMethod args0 below0 = true := by decide +kernel
theorem w_running : about1.status = .running := rfl
set_option maxRecDepth 65536 in
theorem w_room : about1.hasRoom e0.platform room_1 = true :=
  launch0.hasRoom_least _ room_1 (by decide +kernel) (by decide +kernel) (by decide +kernel) (by decide +kernel) (by decide +kernel) (by decide +kernel)
theorem allAtoms_all (ts : List Jvm.Cond) (a : Array Jvm.Value) (st : Jvm.State) : (allAtoms ts).before a st = ts.all (fun c => c.before a st) := by
  induction ts with
  | nil => rfl
  | cons c t ih =>
    show (Jvm.Cond.and c (allAtoms t)).before a st = _
    rw [Jvm.Cond.before_and, ih, List.all_cons]
def words1 : List Jvm.Cond := Jvm.Cond.code x code maxLocals ret :: tables_1
/-- a 'code' word, met by the world's own term for the bytes: nothing is compared byte by byte -/
theorem code_word {y : MethodName} {bytes : ByteArray} {mx : Nat} {rt : Option FieldType} {a : Array Value} {s : State} {m : MethodId} {meth : Method} {c : Code} (h1 : s.methodNamed? y = some m) (h2 : s.vm.method? m = some meth) (h3 : meth.code = some c) (h4 : c.code = bytes)
    (h5 : (c.maxLocals == mx && c.exceptionTable.isEmpty && decide (c.maxStack ≤ mostOperands) && decide (meth.sig.returnType = rt) && !meth.locks && decide (parseMethodDescriptor y.desc = some meth.sig)) = true) : (Jvm.Cond.code y bytes mx rt).before a s = true := by
  simp only [Bool.and_eq_true, beq_iff_eq, Bool.not_eq_true', decide_eq_true_eq] at h5
  obtain ⟨⟨⟨⟨⟨g1, g2⟩, g3⟩, g4⟩, g5⟩, g6⟩ := h5
  simp [Cond.before, Cond.holds, Cond.value, h1, h2, h3, h4, g1, g2, g3, g4, g5, g6]
def isCode : Jvm.Cond → Bool
  | .code _ _ _ _ => true
  | _ => false
theorem all_split {L : List Jvm.Cond} {P : Jvm.Cond → Bool} (h1 : L.all (fun c => isCode c || P c) = true) (h2 : ∀ c ∈ L.filter isCode, P c = true) : L.all P = true := by
  refine List.all_eq_true.mpr fun c hc => ?_
  have h := List.all_eq_true.mp h1 c hc
  rcases Bool.eq_false_or_eq_true (isCode c) with hi | hi
  · exact h2 c (List.mem_filter.mpr ⟨hc, hi⟩)
  · simpa [hi] using h
set_option maxRecDepth 65536 in
theorem w_c0 : (Jvm.Cond.code x code maxLocals ret).before args0 about1 = true := code_word (m := ⟨1, 1⟩) (meth := k1m1) (c := k1c1) (by decide +kernel) rfl rfl rfl (by decide +kernel)
set_option maxRecDepth 65536 in
theorem w_c1 : (Jvm.Cond.code ({ cls := "com/example/heliotrope/heliotrope/language/StateStoreValuesPinLaw", name := "set", desc := "([I[I[I[IIJI)V" } : Jvm.MethodName) method_3_code (13 : Nat) (Option.none : Option Jvm.ClassFile.FieldType)).before args0 about1 = true := code_word (m := ⟨1, 2⟩) (meth := k1m2) (c := k1c2) (by decide +kernel) rfl rfl rfl (by decide +kernel)
set_option maxRecDepth 65536 in
theorem w_c2 : (Jvm.Cond.code ({ cls := "java/lang/Math", name := "min", desc := "(II)I" } : Jvm.MethodName) jdk_29_method_69_code (2 : Nat) (Option.some Jvm.ClassFile.FieldType.int)).before args0 about1 = true := code_word (m := ⟨2, 2⟩) (meth := k2m2) (c := k2c2) (by decide +kernel) rfl rfl rfl (by decide +kernel)
set_option maxRecDepth 65536 in
theorem w_c3 : (Jvm.Cond.code ({ cls := "java/lang/Math", name := "max", desc := "(II)I" } : Jvm.MethodName) jdk_29_method_65_code (2 : Nat) (Option.some Jvm.ClassFile.FieldType.int)).before args0 about1 = true := code_word (m := ⟨2, 1⟩) (meth := k2m1) (c := k2c1) (by decide +kernel) rfl rfl rfl (by decide +kernel)
set_option maxRecDepth 65536 in
theorem w_c4 : (Jvm.Cond.code ({ cls := "com/example/heliotrope/heliotrope/language/StateStore", name := "<init>", desc := "([I[I)V" } : Jvm.MethodName) prog_47_method_1_code (9 : Nat) (Option.none : Option Jvm.ClassFile.FieldType)).before args0 about1 = true := code_word (m := ⟨3, 0⟩) (meth := k3m0) (c := k3c0) (by decide +kernel) rfl rfl rfl (by decide +kernel)
set_option maxRecDepth 65536 in
theorem w_c5 : (Jvm.Cond.code ({ cls := "java/lang/Object", name := "<init>", desc := "()V" } : Jvm.MethodName) object_method_1_code (1 : Nat) (Option.none : Option Jvm.ClassFile.FieldType)).before args0 about1 = true := code_word (m := ⟨0, 0⟩) (meth := k0m0) (c := k0c0) (by decide +kernel) rfl rfl rfl (by decide +kernel)
set_option maxRecDepth 65536 in
theorem w_c6 : (Jvm.Cond.code ({ cls := "java/lang/Long", name := "numberOfLeadingZeros", desc := "(J)I" } : Jvm.MethodName) jdk_35_method_48_code (3 : Nat) (Option.some Jvm.ClassFile.FieldType.int)).before args0 about1 = true := code_word (m := ⟨10, 0⟩) (meth := k10m0) (c := k10c0) (by decide +kernel) rfl rfl rfl (by decide +kernel)
set_option maxRecDepth 65536 in
theorem w_c7 : (Jvm.Cond.code ({ cls := "java/lang/Integer", name := "numberOfLeadingZeros", desc := "(I)I" } : Jvm.MethodName) jdk_33_method_47_code (2 : Nat) (Option.some Jvm.ClassFile.FieldType.int)).before args0 about1 = true := code_word (m := ⟨11, 0⟩) (meth := k11m0) (c := k11c0) (by decide +kernel) rfl rfl rfl (by decide +kernel)
set_option maxRecDepth 65536 in
theorem w_c8 : (Jvm.Cond.code ({ cls := "com/example/heliotrope/heliotrope/language/StateStore", name := "add", desc := "([I)I" } : Jvm.MethodName) prog_47_method_3_code (3 : Nat) (Option.some Jvm.ClassFile.FieldType.int)).before args0 about1 = true := code_word (m := ⟨3, 1⟩) (meth := k3m1) (c := k3c1) (by decide +kernel) rfl rfl rfl (by decide +kernel)
set_option maxRecDepth 65536 in
theorem w_c9 : (Jvm.Cond.code ({ cls := "com/example/heliotrope/heliotrope/language/StateStore", name := "hash", desc := "([JI)J" } : Jvm.MethodName) prog_47_method_7_code (6 : Nat) (Option.some Jvm.ClassFile.FieldType.long)).before args0 about1 = true := code_word (m := ⟨3, 4⟩) (meth := k3m4) (c := k3c4) (by decide +kernel) rfl rfl rfl (by decide +kernel)
set_option maxRecDepth 65536 in
theorem w_c10 : (Jvm.Cond.code ({ cls := "com/example/heliotrope/heliotrope/language/StateStore", name := "slot", desc := "(J)I" } : Jvm.MethodName) prog_47_method_8_code (3 : Nat) (Option.some Jvm.ClassFile.FieldType.int)).before args0 about1 = true := code_word (m := ⟨3, 5⟩) (meth := k3m5) (c := k3c5) (by decide +kernel) rfl rfl rfl (by decide +kernel)
set_option maxRecDepth 65536 in
theorem w_c11 : (Jvm.Cond.code ({ cls := "java/lang/Integer", name := "numberOfTrailingZeros", desc := "(I)I" } : Jvm.MethodName) jdk_33_method_48_code (2 : Nat) (Option.some Jvm.ClassFile.FieldType.int)).before args0 about1 = true := code_word (m := ⟨11, 1⟩) (meth := k11m1) (c := k11c1) (by decide +kernel) rfl rfl rfl (by decide +kernel)
set_option maxRecDepth 65536 in
theorem w_c12 : (Jvm.Cond.code ({ cls := "com/example/heliotrope/heliotrope/language/StateStore", name := "values", desc := "(I[I)V" } : Jvm.MethodName) prog_47_method_4_code (5 : Nat) (Option.none : Option Jvm.ClassFile.FieldType)).before args0 about1 = true := code_word (m := ⟨3, 2⟩) (meth := k3m2) (c := k3c2) (by decide +kernel) rfl rfl rfl (by decide +kernel)
set_option maxRecDepth 65536 in
theorem w_c13 : (Jvm.Cond.code ({ cls := "com/example/heliotrope/heliotrope/language/StateStoreValuesPinLaw", name := "same", desc := "([I[I)Z" } : Jvm.MethodName) method_4_code (2 : Nat) (Option.some Jvm.ClassFile.FieldType.boolean)).before args0 about1 = true := code_word (m := ⟨1, 3⟩) (meth := k1m3) (c := k1c3) (by decide +kernel) rfl rfl rfl (by decide +kernel)
set_option maxRecDepth 65536 in
theorem w_c14 : (Jvm.Cond.code ({ cls := "com/example/heliotrope/heliotrope/language/StateStore", name := "equalsKey", desc := "(I)Z" } : Jvm.MethodName) prog_47_method_5_code (4 : Nat) (Option.some Jvm.ClassFile.FieldType.boolean)).before args0 about1 = true := code_word (m := ⟨3, 3⟩) (meth := k3m3) (c := k3c3) (by decide +kernel) rfl rfl rfl (by decide +kernel)
def codes1 : List Jvm.Cond := [Jvm.Cond.code x code maxLocals ret, Jvm.Cond.code ({ cls := "com/example/heliotrope/heliotrope/language/StateStoreValuesPinLaw", name := "set", desc := "([I[I[I[IIJI)V" } : Jvm.MethodName) method_3_code (13 : Nat) (Option.none : Option Jvm.ClassFile.FieldType), Jvm.Cond.code ({ cls := "java/lang/Math", name := "min", desc := "(II)I" } : Jvm.MethodName) jdk_29_method_69_code (2 : Nat) (Option.some Jvm.ClassFile.FieldType.int), Jvm.Cond.code ({ cls := "java/lang/Math", name := "max", desc := "(II)I" } : Jvm.MethodName) jdk_29_method_65_code (2 : Nat) (Option.some Jvm.ClassFile.FieldType.int), Jvm.Cond.code ({ cls := "com/example/heliotrope/heliotrope/language/StateStore", name := "<init>", desc := "([I[I)V" } : Jvm.MethodName) prog_47_method_1_code (9 : Nat) (Option.none : Option Jvm.ClassFile.FieldType), Jvm.Cond.code ({ cls := "java/lang/Object", name := "<init>", desc := "()V" } : Jvm.MethodName) object_method_1_code (1 : Nat) (Option.none : Option Jvm.ClassFile.FieldType), Jvm.Cond.code ({ cls := "java/lang/Long", name := "numberOfLeadingZeros", desc := "(J)I" } : Jvm.MethodName) jdk_35_method_48_code (3 : Nat) (Option.some Jvm.ClassFile.FieldType.int), Jvm.Cond.code ({ cls := "java/lang/Integer", name := "numberOfLeadingZeros", desc := "(I)I" } : Jvm.MethodName) jdk_33_method_47_code (2 : Nat) (Option.some Jvm.ClassFile.FieldType.int), Jvm.Cond.code ({ cls := "com/example/heliotrope/heliotrope/language/StateStore", name := "add", desc := "([I)I" } : Jvm.MethodName) prog_47_method_3_code (3 : Nat) (Option.some Jvm.ClassFile.FieldType.int), Jvm.Cond.code ({ cls := "com/example/heliotrope/heliotrope/language/StateStore", name := "hash", desc := "([JI)J" } : Jvm.MethodName) prog_47_method_7_code (6 : Nat) (Option.some Jvm.ClassFile.FieldType.long), Jvm.Cond.code ({ cls := "com/example/heliotrope/heliotrope/language/StateStore", name := "slot", desc := "(J)I" } : Jvm.MethodName) prog_47_method_8_code (3 : Nat) (Option.some Jvm.ClassFile.FieldType.int), Jvm.Cond.code ({ cls := "java/lang/Integer", name := "numberOfTrailingZeros", desc := "(I)I" } : Jvm.MethodName) jdk_33_method_48_code (2 : Nat) (Option.some Jvm.ClassFile.FieldType.int), Jvm.Cond.code ({ cls := "com/example/heliotrope/heliotrope/language/StateStore", name := "values", desc := "(I[I)V" } : Jvm.MethodName) prog_47_method_4_code (5 : Nat) (Option.none : Option Jvm.ClassFile.FieldType), Jvm.Cond.code ({ cls := "com/example/heliotrope/heliotrope/language/StateStoreValuesPinLaw", name := "same", desc := "([I[I)Z" } : Jvm.MethodName) method_4_code (2 : Nat) (Option.some Jvm.ClassFile.FieldType.boolean), Jvm.Cond.code ({ cls := "com/example/heliotrope/heliotrope/language/StateStore", name := "equalsKey", desc := "(I)Z" } : Jvm.MethodName) prog_47_method_5_code (4 : Nat) (Option.some Jvm.ClassFile.FieldType.boolean)]
set_option maxRecDepth 65536 in
theorem codes_eq : words1.filter isCode = codes1 := rfl
theorem w_codes : ∀ c ∈ words1.filter isCode, c.before args0 about1 = true := by
  rw [codes_eq]
  intro c hc
  simp only [codes1, List.mem_cons, List.not_mem_nil, or_false] at hc
  rcases hc with rfl | rfl | rfl | rfl | rfl | rfl | rfl | rfl | rfl | rfl | rfl | rfl | rfl | rfl | rfl
  · exact w_c0
  · exact w_c1
  · exact w_c2
  · exact w_c3
  · exact w_c4
  · exact w_c5
  · exact w_c6
  · exact w_c7
  · exact w_c8
  · exact w_c9
  · exact w_c10
  · exact w_c11
  · exact w_c12
  · exact w_c13
  · exact w_c14
set_option maxRecDepth 65536 in
theorem w_t1 : (words1.take 24).all (fun c => isCode c || c.before args0 about1) = true := by decide +kernel
set_option maxRecDepth 65536 in
theorem w_t2 : ((words1.drop 24).take 24).all (fun c => isCode c || c.before args0 about1) = true := by decide +kernel
set_option maxRecDepth 65536 in
theorem w_t3 : (((words1.drop 24).drop 24).take 24).all (fun c => isCode c || c.before args0 about1) = true := by decide +kernel
set_option maxRecDepth 65536 in
theorem w_t4 : (((words1.drop 24).drop 24).drop 24).all (fun c => isCode c || c.before args0 about1) = true := by decide +kernel
theorem w_tables : (allAtoms (Jvm.Cond.code x code maxLocals ret :: tables_1)).before args0 about1 = true := by
  rw [allAtoms_all]
  show words1.all (fun c => c.before args0 about1) = true
  refine all_split ?_ w_codes
  rw [← List.take_append_drop 24 words1, List.all_append, w_t1, ← List.take_append_drop 24 (words1.drop 24), List.all_append, w_t2, ← List.take_append_drop 24 ((words1.drop 24).drop 24), List.all_append, w_t3, w_t4]
  rfl
set_option maxRecDepth 65536 in
theorem w_case : (Jvm.Cond.and given_1 narrow_1).before args0 about1 = true := by decide +kernel
theorem w_applies : (headSpec (Jvm.Cond.code x code maxLocals ret :: tables_1) room_1).applies x e0.platform about1 = true :=
  (Spec.applies_iff w_frames).mpr ⟨w_running, w_runnable, w_alone, w_named, w_hears, w_ripe, w_room, w_tables⟩
theorem atStart : AtStart classFile x code maxLocals ret World_1 tables_1 room_1 Calls_1 rest_1 Pre_1 launch0 p0 e0 about1 theMethod args0 below0 :=
  ⟨lists_1, trivial, launch0.admits_env _ _ _, launch0.least_env, fairChoices_fair.cas, fairChoices_fair.clock, w_frames, w_args, w_heap, w_applies, trivial, trivial, w_case⟩
end start1
theorem witness_1 : WitnessClaimed_1 := ⟨start1.p0, start1.e0, start1.about1, start1.theMethod, start1.args0, start1.below0, start1.atStart⟩
end Jvm.Pilot.@@N@@
