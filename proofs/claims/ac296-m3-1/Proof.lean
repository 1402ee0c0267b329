import JvmDerived
import JvmDerived.Pilot.@@N@@Statement
import JvmDerived.Pilot.@@N@@Code
set_option linter.unusedVariables false
set_option linter.unusedSimpArgs false
namespace Jvm.Pilot.@@N@@
open Jvm Jvm.ClassFile Sem Op Lib Jvm.Free Jvm.Stand Jvm.LawKit Jvm.RoadKit Bundle Jvm.Pilot.@@N@@.Jvm.D
/-! own kit (printed by wip/gen/kit.py) -/
/-- from here the walk comes to an end that K takes -/
def Run (p : Program) (e : Env) (below : List Frame) (m : MethodId) (K : State → Prop) (T : State) (pc : Nat) (L : Array Slot) (st : List Value) : Prop :=
  ∃ u, Steps p.tables e below (T.setTop (mkF m pc L st)) u ∧ K u
/-- what goes through a whole body -/
def Cx (p : Program) (l : Launch) (e : Env) (R : Room) (s : State) (m : MethodId) (args : Array Value) (below : List Frame) (meth : Method) (c : Code) (Z : State) (bytes : ByteArray) (ml : Nat) (own : String) (ret : Option FieldType) (mname : String) (n0 : Nat) (T : State) (h : Heap) (cells slots : Nat) : Prop :=
  (∃ locs, Stand p l e R s m args below meth c T locs cells slots ∧ Fr n0 locs) ∧ T.heap = h ∧ p.tables.exec = Jvm.exec ∧ c.code = bytes ∧ c.maxLocals = ml ∧ Z.Warmed39 s.vm ∧ s.vm.findClass own = some m.cls ∧ meth.sig.returnType = ret ∧ meth.name = mname ∧ meth.locks = false ∧ n0 ≤ h.size
/-- the end of a body: what it returns and leaves is Q's -/
def Fin1 (below : List Frame) (s : State) (n0 : Nat) (Q : Option Value → Heap → Prop) (cN sN : Nat) (u : State) : Prop :=
  u.status = .running ∧ ∃ o, Ended u below o ∧ ∃ v L, o = .returned v ∧ (Q v u.heap ∧ Fr n0 L ∧ n0 ≤ u.heap.size) ∧ FrameEnd s o u L cN sN
/-- a body's contract -/
def Met1 (l : Launch) (Z : State) (n0 : Nat) (ws : List Jvm.Cond) (y : MethodName) (bytes : ByteArray) (ml : Nat) (ret : Option FieldType) (rm : Room) (as : Array Value) (h0 : Heap) (Q : Option Value → Heap → Prop) : Prop :=
  MetFree l y (head1 (Jvm.Cond.code y bytes ml ret :: ws) rm) (fun a U => a = as ∧ Z.Warmed39 U.vm ∧ U.heap = h0) (fun _ _ _ _ _ => True) (fun _ U o U' => ∃ v L, o = .returned v ∧ (Q v U'.heap ∧ Fr n0 L ∧ n0 ≤ U'.heap.size) ∧ FrameEnd U o U' L rm.cells rm.slots)
/-- an array: its kind, its length, what each place holds -/
def AF (Z : State) (h : Heap) (a : Addr) (ty : FieldType) (n : Nat) (f : Nat → Value) : Prop := ∃ c : Cell, Arr Z h a c ty ∧ c.slots.size = n ∧ n < 2 ^ 31 ∧ ∀ j, j < n → c.slots[j]? = some (f j)
def upd (f : Nat → Value) (i : Nat) (v : Value) : Nat → Value := fun j => if j = i then v else f j
section Own
variable {p : Program} {l : Launch} {e : Env} {R : Room} {s : State} {m : MethodId} {args : Array Value} {below : List Frame} {meth : Method} {c : Code} {Z : State} {bytes : ByteArray} {ml : Nat} {own mname : String} {ret : Option FieldType} {n0 : Nat} {T : State} {h : Heap} {cells slots : Nat} {K : State → Prop} {pc : Nat} {L : Array Slot} {st : List Value}
theorem Cx.sz (X : Cx p l e R s m args below meth c Z bytes ml own ret mname n0 T h cells slots) : n0 ≤ h.size := X.2.2.2.2.2.2.2.2.2.2
theorem Run.of {T' : State} {pc' : Nat} {L' : Array Slot} {st' : List Value} (h : ∀ t, Steps p.tables e below (T'.setTop (mkF m pc' L' st')) t → Steps p.tables e below (T.setTop (mkF m pc L st)) t) (r : Run p e below m K T' pc' L' st') : Run p e below m K T pc L st :=
  r.imp fun u q => ⟨h u q.1, q.2⟩
theorem upd_hit {f : Nat → Value} {i : Nat} {v : Value} : upd f i v i = v := if_pos rfl
theorem upd_miss {f : Nat → Value} {i j : Nat} {v : Value} (q : j ≠ i) : upd f i v j = f j := if_neg q
theorem idx_of {j : Int32} {i n : Nat} (hj : j.toInt = (i : Int)) (hi : i < n) : ¬ (j < 0 ∨ n ≤ j.toNatClampNeg) ∧ j.toNatClampNeg = i := by
  have q : j.toNatClampNeg = i := by show j.toInt.toNat = i; omega
  refine ⟨?_, q⟩
  rw [q, Int32.lt_iff_toInt_lt]
  have : (0 : Int32).toInt = 0 := rfl
  omega
theorem AF.lt {a : Addr} {ty : FieldType} {n : Nat} {f : Nat → Value} (A : AF Z h a ty n f) : a < h.size := by obtain ⟨c, A, -⟩ := A; exact A.lt
theorem AF.small {a : Addr} {ty : FieldType} {n : Nat} {f : Nat → Value} (A : AF Z h a ty n f) : n < 2 ^ 31 := by obtain ⟨c, -, -, q, -⟩ := A; exact q
theorem AF.ext {a : Addr} {ty : FieldType} {n : Nat} {f : Nat → Value} {h' : Heap} (A : AF Z h a ty n f) (E : Ext h h') : AF Z h' a ty n f := by obtain ⟨c, A, r⟩ := A; exact ⟨c, A.ext E, r⟩
theorem AF.other {a b : Addr} {ty : FieldType} {n sl : Nat} {v : Value} {f : Nat → Value} {h' : Heap} (A : AF Z h b ty n f) (W : Wr h h' a sl v) (q : b ≠ a) : AF Z h' b ty n f := by obtain ⟨c, A, r⟩ := A; exact ⟨c, A.other W q, r⟩
theorem AF.keep {a : Addr} {ty : FieldType} {n : Nat} {f : Nat → Value} {h' : Heap} {ws : List Addr} (A : AF Z h a ty n f) (K : Keep h h' ws) (q : a ∉ ws) : AF Z h' a ty n f := by obtain ⟨c, A, r⟩ := A; exact ⟨c, ⟨K.2.1 a c A.1 q, A.2⟩, r⟩
theorem AF.set {a : Addr} {ty : FieldType} {n i : Nat} {v : Value} {f : Nat → Value} {h' : Heap} (A : AF Z h a ty n f) (W : Wr h h' a i v) : AF Z h' a ty n (upd f i v) := by
  obtain ⟨c, A, S, q, H⟩ := A
  refine ⟨_, A.same W, by rw [sz_set]; exact S, q, fun j hj => ?_⟩
  show (c.slots.setIfInBounds i v)[j]? = _
  rw [Array.getElem?_setIfInBounds, S]
  by_cases e : i = j
  · subst e; simp [hj, upd]
  · have e' : j ≠ i := fun q => e q.symm
    simp [e, upd, e', H j hj]
theorem AF.congr {a : Addr} {ty : FieldType} {n : Nat} {f g : Nat → Value} (A : AF Z h a ty n f) (q : ∀ j, j < n → f j = g j) : AF Z h a ty n g := by
  obtain ⟨c, A, S, r, H⟩ := A; exact ⟨c, A, S, r, fun j hj => by rw [H j hj, q j hj]⟩
theorem AF.ne_obj {a b : Addr} {ty : FieldType} {n k : Nat} {f : Nat → Value} {C : String} {a0 : Array Value} (A : AF Z h b ty n f) (E : Exa Z h a C) (wi : (Jvm.Cond.instantiable C k).before a0 Z = true) : a ≠ b := by obtain ⟨c, A, -⟩ := A; exact ne_arr E wi A
theorem r_topI {x x' : Int32} (q : x = x') (r : Run p e below m K T pc L (.int x' :: st)) : Run p e below m K T pc L (.int x :: st) := q ▸ r
theorem r_topJ {x x' : Int64} (q : x = x') (r : Run p e below m K T pc L (.long x' :: st)) : Run p e below m K T pc L (.long x :: st) := q ▸ r
theorem r_top {x x' : Value} (q : x = x') (r : Run p e below m K T pc L (x' :: st)) : Run p e below m K T pc L (x :: st) := q ▸ r
theorem r_loc {L' : Array Slot} (q : L = L') (r : Run p e below m K T pc L' st) : Run p e below m K T pc L st := q ▸ r
theorem r_iload (pc' : Nat) (X : Cx p l e R s m args below meth c Z bytes ml own ret mname n0 T h cells slots) {k : Nat} {v : Int32} (hd : decode bytes pc = .ok (.iload k, 2)) (hl : L[k]? = some (.val (.int v))) (r : Run p e below m K T pc' L (.int v :: st)) (q : pc + 2 = pc' := by rfl) : Run p e below m K T pc L st := by
  obtain ⟨⟨locs, X, -⟩, -, hx, hby, -⟩ := X
  subst q hby
  exact Run.of (fun t k => XS.iload X.here hx rfl hd hl k) r
theorem r_iloadN (pc' : Nat) (X : Cx p l e R s m args below meth c Z bytes ml own ret mname n0 T h cells slots) {k : Fin 4} {v : Int32} (hd : decode bytes pc = .ok (.iload_n k, 1)) (hl : L[k.val]? = some (.val (.int v))) (r : Run p e below m K T pc' L (.int v :: st)) (q : pc + 1 = pc' := by rfl) : Run p e below m K T pc L st := by
  obtain ⟨⟨locs, X, -⟩, -, hx, hby, -⟩ := X
  subst q hby
  exact Run.of (fun t k => XS.iloadN X.here hx rfl hd hl k) r
theorem r_istore (pc' : Nat) (X : Cx p l e R s m args below meth c Z bytes ml own ret mname n0 T h cells slots) {k : Nat} {v : Int32} (L' : Array Slot) (hd : decode bytes pc = .ok (.istore k, 2)) (hl : storeLocals L k (.int v) = some L') (r : Run p e below m K T pc' L' st) (q : pc + 2 = pc' := by rfl) : Run p e below m K T pc L (.int v :: st) := by
  obtain ⟨⟨locs, X, -⟩, -, hx, hby, -⟩ := X
  subst q hby
  exact Run.of (fun t k => XS.istore X.here hx rfl hd rfl hl k) r
theorem r_istoreN (pc' : Nat) (X : Cx p l e R s m args below meth c Z bytes ml own ret mname n0 T h cells slots) {k : Fin 4} {v : Int32} (L' : Array Slot) (hd : decode bytes pc = .ok (.istore_n k, 1)) (hl : storeLocals L k.val (.int v) = some L') (r : Run p e below m K T pc' L' st) (q : pc + 1 = pc' := by rfl) : Run p e below m K T pc L (.int v :: st) := by
  obtain ⟨⟨locs, X, -⟩, -, hx, hby, -⟩ := X
  subst q hby
  exact Run.of (fun t k => XS.istoreN X.here hx rfl hd rfl hl k) r
theorem r_lload (pc' : Nat) (X : Cx p l e R s m args below meth c Z bytes ml own ret mname n0 T h cells slots) {k : Nat} {v : Int64} (hd : decode bytes pc = .ok (.lload k, 2)) (hl : L[k]? = some (.val (.long v))) (r : Run p e below m K T pc' L (.long v :: st)) (q : pc + 2 = pc' := by rfl) : Run p e below m K T pc L st := by
  obtain ⟨⟨locs, X, -⟩, -, hx, hby, -⟩ := X
  subst q hby
  exact Run.of (fun t k => XS.lload X.here hx rfl hd hl k) r
theorem r_lloadN (pc' : Nat) (X : Cx p l e R s m args below meth c Z bytes ml own ret mname n0 T h cells slots) {k : Fin 4} {v : Int64} (hd : decode bytes pc = .ok (.lload_n k, 1)) (hl : L[k.val]? = some (.val (.long v))) (r : Run p e below m K T pc' L (.long v :: st)) (q : pc + 1 = pc' := by rfl) : Run p e below m K T pc L st := by
  obtain ⟨⟨locs, X, -⟩, -, hx, hby, -⟩ := X
  subst q hby
  exact Run.of (fun t k => XS.lloadN X.here hx rfl hd hl k) r
theorem r_lstore (pc' : Nat) (X : Cx p l e R s m args below meth c Z bytes ml own ret mname n0 T h cells slots) {k : Nat} {v : Int64} (L' : Array Slot) (hd : decode bytes pc = .ok (.lstore k, 2)) (hl : storeLocals L k (.long v) = some L') (r : Run p e below m K T pc' L' st) (q : pc + 2 = pc' := by rfl) : Run p e below m K T pc L (.long v :: st) := by
  obtain ⟨⟨locs, X, -⟩, -, hx, hby, -⟩ := X
  subst q hby
  exact Run.of (fun t k => XS.lstore X.here hx rfl hd rfl hl k) r
theorem r_lstoreN (pc' : Nat) (X : Cx p l e R s m args below meth c Z bytes ml own ret mname n0 T h cells slots) {k : Fin 4} {v : Int64} (L' : Array Slot) (hd : decode bytes pc = .ok (.lstore_n k, 1)) (hl : storeLocals L k.val (.long v) = some L') (r : Run p e below m K T pc' L' st) (q : pc + 1 = pc' := by rfl) : Run p e below m K T pc L (.long v :: st) := by
  obtain ⟨⟨locs, X, -⟩, -, hx, hby, -⟩ := X
  subst q hby
  exact Run.of (fun t k => XS.lstoreN X.here hx rfl hd rfl hl k) r
theorem r_dload (pc' : Nat) (X : Cx p l e R s m args below meth c Z bytes ml own ret mname n0 T h cells slots) {k : Nat} {v : UInt64} (hd : decode bytes pc = .ok (.dload k, 2)) (hl : L[k]? = some (.val (.double v))) (r : Run p e below m K T pc' L (.double v :: st)) (q : pc + 2 = pc' := by rfl) : Run p e below m K T pc L st := by
  obtain ⟨⟨locs, X, -⟩, -, hx, hby, -⟩ := X
  subst q hby
  exact Run.of (fun t k => XS.dload X.here hx rfl hd hl k) r
theorem r_dloadN (pc' : Nat) (X : Cx p l e R s m args below meth c Z bytes ml own ret mname n0 T h cells slots) {k : Fin 4} {v : UInt64} (hd : decode bytes pc = .ok (.dload_n k, 1)) (hl : L[k.val]? = some (.val (.double v))) (r : Run p e below m K T pc' L (.double v :: st)) (q : pc + 1 = pc' := by rfl) : Run p e below m K T pc L st := by
  obtain ⟨⟨locs, X, -⟩, -, hx, hby, -⟩ := X
  subst q hby
  exact Run.of (fun t k => XS.dloadN X.here hx rfl hd hl k) r
theorem r_dstore (pc' : Nat) (X : Cx p l e R s m args below meth c Z bytes ml own ret mname n0 T h cells slots) {k : Nat} {v : UInt64} (L' : Array Slot) (hd : decode bytes pc = .ok (.dstore k, 2)) (hl : storeLocals L k (.double v) = some L') (r : Run p e below m K T pc' L' st) (q : pc + 2 = pc' := by rfl) : Run p e below m K T pc L (.double v :: st) := by
  obtain ⟨⟨locs, X, -⟩, -, hx, hby, -⟩ := X
  subst q hby
  exact Run.of (fun t k => XS.dstore X.here hx rfl hd rfl hl k) r
theorem r_dstoreN (pc' : Nat) (X : Cx p l e R s m args below meth c Z bytes ml own ret mname n0 T h cells slots) {k : Fin 4} {v : UInt64} (L' : Array Slot) (hd : decode bytes pc = .ok (.dstore_n k, 1)) (hl : storeLocals L k.val (.double v) = some L') (r : Run p e below m K T pc' L' st) (q : pc + 1 = pc' := by rfl) : Run p e below m K T pc L (.double v :: st) := by
  obtain ⟨⟨locs, X, -⟩, -, hx, hby, -⟩ := X
  subst q hby
  exact Run.of (fun t k => XS.dstoreN X.here hx rfl hd rfl hl k) r
theorem r_aload (pc' : Nat) (X : Cx p l e R s m args below meth c Z bytes ml own ret mname n0 T h cells slots) {k : Nat} {v : Value} (hd : decode bytes pc = .ok (.aload k, 2)) (hl : L[k]? = some (.val v)) (hv : v.isRef = true) (r : Run p e below m K T pc' L (v :: st)) (q : pc + 2 = pc' := by rfl) : Run p e below m K T pc L st := by
  obtain ⟨⟨locs, X, -⟩, -, hx, hby, -⟩ := X
  subst q hby
  exact Run.of (fun t k => XS.aload X.here hx rfl hd hl hv k) r
theorem r_aloadN (pc' : Nat) (X : Cx p l e R s m args below meth c Z bytes ml own ret mname n0 T h cells slots) {k : Fin 4} {v : Value} (hd : decode bytes pc = .ok (.aload_n k, 1)) (hl : L[k.val]? = some (.val v)) (hv : v.isRef = true) (r : Run p e below m K T pc' L (v :: st)) (q : pc + 1 = pc' := by rfl) : Run p e below m K T pc L st := by
  obtain ⟨⟨locs, X, -⟩, -, hx, hby, -⟩ := X
  subst q hby
  exact Run.of (fun t k => XS.aloadN X.here hx rfl hd hl hv k) r
theorem r_astore (pc' : Nat) (X : Cx p l e R s m args below meth c Z bytes ml own ret mname n0 T h cells slots) {k : Nat} {v : Value} (L' : Array Slot) (hd : decode bytes pc = .ok (.astore k, 2)) (hv : v.isRef = true) (hl : storeLocals L k v = some L') (r : Run p e below m K T pc' L' st) (q : pc + 2 = pc' := by rfl) : Run p e below m K T pc L (v :: st) := by
  obtain ⟨⟨locs, X, -⟩, -, hx, hby, -⟩ := X
  subst q hby
  exact Run.of (fun t k => XS.astore X.here hx rfl hd rfl hv hl k) r
theorem r_astoreN (pc' : Nat) (X : Cx p l e R s m args below meth c Z bytes ml own ret mname n0 T h cells slots) {k : Fin 4} {v : Value} (L' : Array Slot) (hd : decode bytes pc = .ok (.astore_n k, 1)) (hv : v.isRef = true) (hl : storeLocals L k.val v = some L') (r : Run p e below m K T pc' L' st) (q : pc + 1 = pc' := by rfl) : Run p e below m K T pc L (v :: st) := by
  obtain ⟨⟨locs, X, -⟩, -, hx, hby, -⟩ := X
  subst q hby
  exact Run.of (fun t k => XS.astoreN X.here hx rfl hd rfl hv hl k) r
theorem r_iconst (pc' : Nat) (X : Cx p l e R s m args below meth c Z bytes ml own ret mname n0 T h cells slots) {i : Int} (z : Int32) (hd : decode bytes pc = .ok (.iconst i, 1)) (hz : Int32.ofInt i = z) (r : Run p e below m K T pc' L (.int z :: st)) (q : pc + 1 = pc' := by rfl) : Run p e below m K T pc L st := by
  obtain ⟨⟨locs, X, -⟩, -, hx, hby, -⟩ := X
  subst q hby hz
  exact Run.of (fun t k => XS.iconst X.here hx rfl hd  k) r
theorem r_bipush (pc' : Nat) (X : Cx p l e R s m args below meth c Z bytes ml own ret mname n0 T h cells slots) {i : Int} (z : Int32) (hd : decode bytes pc = .ok (.bipush i, 2)) (hz : (Int8.ofInt i).toInt32 = z) (r : Run p e below m K T pc' L (.int z :: st)) (q : pc + 2 = pc' := by rfl) : Run p e below m K T pc L st := by
  obtain ⟨⟨locs, X, -⟩, -, hx, hby, -⟩ := X
  subst q hby hz
  exact Run.of (fun t k => XS.bipush X.here hx rfl hd  k) r
theorem r_sipush (pc' : Nat) (X : Cx p l e R s m args below meth c Z bytes ml own ret mname n0 T h cells slots) {i : Int} (z : Int32) (hd : decode bytes pc = .ok (.sipush i, 3)) (hz : (Int16.ofInt i).toInt32 = z) (r : Run p e below m K T pc' L (.int z :: st)) (q : pc + 3 = pc' := by rfl) : Run p e below m K T pc L st := by
  obtain ⟨⟨locs, X, -⟩, -, hx, hby, -⟩ := X
  subst q hby hz
  exact Run.of (fun t k => XS.sipush X.here hx rfl hd  k) r
theorem r_lconst (pc' : Nat) (X : Cx p l e R s m args below meth c Z bytes ml own ret mname n0 T h cells slots) {i : Fin 2} (z : Int64) (hd : decode bytes pc = .ok (.lconst i, 1)) (hz : Int64.ofNat i = z) (r : Run p e below m K T pc' L (.long z :: st)) (q : pc + 1 = pc' := by rfl) : Run p e below m K T pc L st := by
  obtain ⟨⟨locs, X, -⟩, -, hx, hby, -⟩ := X
  subst q hby hz
  exact Run.of (fun t k => XS.lconst X.here hx rfl hd  k) r
theorem r_aconst_null (pc' : Nat) (X : Cx p l e R s m args below meth c Z bytes ml own ret mname n0 T h cells slots)  (hd : decode bytes pc = .ok (.aconst_null, 1))  (r : Run p e below m K T pc' L (.null :: st)) (q : pc + 1 = pc' := by rfl) : Run p e below m K T pc L st := by
  obtain ⟨⟨locs, X, -⟩, -, hx, hby, -⟩ := X
  subst q hby
  exact Run.of (fun t k => XS.aconstNull X.here hx rfl hd  k) r
theorem r_dconst0 (pc' : Nat) (X : Cx p l e R s m args below meth c Z bytes ml own ret mname n0 T h cells slots)  (hd : decode bytes pc = .ok (.dconst 0, 1))  (r : Run p e below m K T pc' L (.double FP.dconst0 :: st)) (q : pc + 1 = pc' := by rfl) : Run p e below m K T pc L st := by
  obtain ⟨⟨locs, X, -⟩, -, hx, hby, -⟩ := X
  subst q hby
  exact Run.of (fun t k => XS.dconst0 X.here hx rfl hd rfl k) r
theorem r_dconst1 (pc' : Nat) (X : Cx p l e R s m args below meth c Z bytes ml own ret mname n0 T h cells slots)  (hd : decode bytes pc = .ok (.dconst 1, 1))  (r : Run p e below m K T pc' L (.double FP.dconst1 :: st)) (q : pc + 1 = pc' := by rfl) : Run p e below m K T pc L st := by
  obtain ⟨⟨locs, X, -⟩, -, hx, hby, -⟩ := X
  subst q hby
  exact Run.of (fun t k => XS.dconst1 X.here hx rfl hd rfl k) r
theorem r_iadd (pc' : Nat) (X : Cx p l e R s m args below meth c Z bytes ml own ret mname n0 T h cells slots) {x y : Int32} (hd : decode bytes pc = .ok (.iadd, 1))  (r : Run p e below m K T pc' L (.int (x + y) :: st)) (q : pc + 1 = pc' := by rfl) : Run p e below m K T pc L (.int y :: .int x :: st) := by
  obtain ⟨⟨locs, X, -⟩, -, hx, hby, -⟩ := X
  subst q hby
  exact Run.of (fun t k => XS.iadd X.here hx rfl hd rfl k) r
theorem r_isub (pc' : Nat) (X : Cx p l e R s m args below meth c Z bytes ml own ret mname n0 T h cells slots) {x y : Int32} (hd : decode bytes pc = .ok (.isub, 1))  (r : Run p e below m K T pc' L (.int (x - y) :: st)) (q : pc + 1 = pc' := by rfl) : Run p e below m K T pc L (.int y :: .int x :: st) := by
  obtain ⟨⟨locs, X, -⟩, -, hx, hby, -⟩ := X
  subst q hby
  exact Run.of (fun t k => XS.isub X.here hx rfl hd rfl k) r
theorem r_imul (pc' : Nat) (X : Cx p l e R s m args below meth c Z bytes ml own ret mname n0 T h cells slots) {x y : Int32} (hd : decode bytes pc = .ok (.imul, 1))  (r : Run p e below m K T pc' L (.int (x * y) :: st)) (q : pc + 1 = pc' := by rfl) : Run p e below m K T pc L (.int y :: .int x :: st) := by
  obtain ⟨⟨locs, X, -⟩, -, hx, hby, -⟩ := X
  subst q hby
  exact Run.of (fun t k => XS.imul X.here hx rfl hd rfl k) r
theorem r_iand (pc' : Nat) (X : Cx p l e R s m args below meth c Z bytes ml own ret mname n0 T h cells slots) {x y : Int32} (hd : decode bytes pc = .ok (.iand, 1))  (r : Run p e below m K T pc' L (.int (x &&& y) :: st)) (q : pc + 1 = pc' := by rfl) : Run p e below m K T pc L (.int y :: .int x :: st) := by
  obtain ⟨⟨locs, X, -⟩, -, hx, hby, -⟩ := X
  subst q hby
  exact Run.of (fun t k => XS.iand X.here hx rfl hd rfl k) r
theorem r_ior (pc' : Nat) (X : Cx p l e R s m args below meth c Z bytes ml own ret mname n0 T h cells slots) {x y : Int32} (hd : decode bytes pc = .ok (.ior, 1))  (r : Run p e below m K T pc' L (.int (x ||| y) :: st)) (q : pc + 1 = pc' := by rfl) : Run p e below m K T pc L (.int y :: .int x :: st) := by
  obtain ⟨⟨locs, X, -⟩, -, hx, hby, -⟩ := X
  subst q hby
  exact Run.of (fun t k => XS.ior X.here hx rfl hd rfl k) r
theorem r_ixor (pc' : Nat) (X : Cx p l e R s m args below meth c Z bytes ml own ret mname n0 T h cells slots) {x y : Int32} (hd : decode bytes pc = .ok (.ixor, 1))  (r : Run p e below m K T pc' L (.int (x ^^^ y) :: st)) (q : pc + 1 = pc' := by rfl) : Run p e below m K T pc L (.int y :: .int x :: st) := by
  obtain ⟨⟨locs, X, -⟩, -, hx, hby, -⟩ := X
  subst q hby
  exact Run.of (fun t k => XS.ixor X.here hx rfl hd rfl k) r
theorem r_ishl (pc' : Nat) (X : Cx p l e R s m args below meth c Z bytes ml own ret mname n0 T h cells slots) {x y : Int32} (hd : decode bytes pc = .ok (.ishl, 1))  (r : Run p e below m K T pc' L (.int (x <<< (y &&& 31)) :: st)) (q : pc + 1 = pc' := by rfl) : Run p e below m K T pc L (.int y :: .int x :: st) := by
  obtain ⟨⟨locs, X, -⟩, -, hx, hby, -⟩ := X
  subst q hby
  exact Run.of (fun t k => XS.ishl X.here hx rfl hd rfl k) r
theorem r_ishr (pc' : Nat) (X : Cx p l e R s m args below meth c Z bytes ml own ret mname n0 T h cells slots) {x y : Int32} (hd : decode bytes pc = .ok (.ishr, 1))  (r : Run p e below m K T pc' L (.int (x >>> (y &&& 31)) :: st)) (q : pc + 1 = pc' := by rfl) : Run p e below m K T pc L (.int y :: .int x :: st) := by
  obtain ⟨⟨locs, X, -⟩, -, hx, hby, -⟩ := X
  subst q hby
  exact Run.of (fun t k => XS.ishr X.here hx rfl hd rfl k) r
theorem r_iushr (pc' : Nat) (X : Cx p l e R s m args below meth c Z bytes ml own ret mname n0 T h cells slots) {x y : Int32} (hd : decode bytes pc = .ok (.iushr, 1))  (r : Run p e below m K T pc' L (.int ((x.toUInt32 >>> (y &&& 31).toUInt32).toInt32) :: st)) (q : pc + 1 = pc' := by rfl) : Run p e below m K T pc L (.int y :: .int x :: st) := by
  obtain ⟨⟨locs, X, -⟩, -, hx, hby, -⟩ := X
  subst q hby
  exact Run.of (fun t k => XS.iushr X.here hx rfl hd rfl k) r
theorem r_ladd (pc' : Nat) (X : Cx p l e R s m args below meth c Z bytes ml own ret mname n0 T h cells slots) {x y : Int64} (hd : decode bytes pc = .ok (.ladd, 1))  (r : Run p e below m K T pc' L (.long (x + y) :: st)) (q : pc + 1 = pc' := by rfl) : Run p e below m K T pc L (.long y :: .long x :: st) := by
  obtain ⟨⟨locs, X, -⟩, -, hx, hby, -⟩ := X
  subst q hby
  exact Run.of (fun t k => XS.ladd X.here hx rfl hd rfl k) r
theorem r_lsub (pc' : Nat) (X : Cx p l e R s m args below meth c Z bytes ml own ret mname n0 T h cells slots) {x y : Int64} (hd : decode bytes pc = .ok (.lsub, 1))  (r : Run p e below m K T pc' L (.long (x - y) :: st)) (q : pc + 1 = pc' := by rfl) : Run p e below m K T pc L (.long y :: .long x :: st) := by
  obtain ⟨⟨locs, X, -⟩, -, hx, hby, -⟩ := X
  subst q hby
  exact Run.of (fun t k => XS.lsub X.here hx rfl hd rfl k) r
theorem r_lmul (pc' : Nat) (X : Cx p l e R s m args below meth c Z bytes ml own ret mname n0 T h cells slots) {x y : Int64} (hd : decode bytes pc = .ok (.lmul, 1))  (r : Run p e below m K T pc' L (.long (x * y) :: st)) (q : pc + 1 = pc' := by rfl) : Run p e below m K T pc L (.long y :: .long x :: st) := by
  obtain ⟨⟨locs, X, -⟩, -, hx, hby, -⟩ := X
  subst q hby
  exact Run.of (fun t k => XS.lmul X.here hx rfl hd rfl k) r
theorem r_land (pc' : Nat) (X : Cx p l e R s m args below meth c Z bytes ml own ret mname n0 T h cells slots) {x y : Int64} (hd : decode bytes pc = .ok (.land, 1))  (r : Run p e below m K T pc' L (.long (x &&& y) :: st)) (q : pc + 1 = pc' := by rfl) : Run p e below m K T pc L (.long y :: .long x :: st) := by
  obtain ⟨⟨locs, X, -⟩, -, hx, hby, -⟩ := X
  subst q hby
  exact Run.of (fun t k => XS.land X.here hx rfl hd rfl k) r
theorem r_lor (pc' : Nat) (X : Cx p l e R s m args below meth c Z bytes ml own ret mname n0 T h cells slots) {x y : Int64} (hd : decode bytes pc = .ok (.lor, 1))  (r : Run p e below m K T pc' L (.long (x ||| y) :: st)) (q : pc + 1 = pc' := by rfl) : Run p e below m K T pc L (.long y :: .long x :: st) := by
  obtain ⟨⟨locs, X, -⟩, -, hx, hby, -⟩ := X
  subst q hby
  exact Run.of (fun t k => XS.lor X.here hx rfl hd rfl k) r
theorem r_lxor (pc' : Nat) (X : Cx p l e R s m args below meth c Z bytes ml own ret mname n0 T h cells slots) {x y : Int64} (hd : decode bytes pc = .ok (.lxor, 1))  (r : Run p e below m K T pc' L (.long (x ^^^ y) :: st)) (q : pc + 1 = pc' := by rfl) : Run p e below m K T pc L (.long y :: .long x :: st) := by
  obtain ⟨⟨locs, X, -⟩, -, hx, hby, -⟩ := X
  subst q hby
  exact Run.of (fun t k => XS.lxor X.here hx rfl hd rfl k) r
theorem r_lshl (pc' : Nat) (X : Cx p l e R s m args below meth c Z bytes ml own ret mname n0 T h cells slots) {x : Int64} {y : Int32} (hd : decode bytes pc = .ok (.lshl, 1))  (r : Run p e below m K T pc' L (.long (x <<< (y &&& 0x3f).toInt64) :: st)) (q : pc + 1 = pc' := by rfl) : Run p e below m K T pc L (.int y :: .long x :: st) := by
  obtain ⟨⟨locs, X, -⟩, -, hx, hby, -⟩ := X
  subst q hby
  exact Run.of (fun t k => XS.lshl X.here hx rfl hd rfl k) r
theorem r_lshr (pc' : Nat) (X : Cx p l e R s m args below meth c Z bytes ml own ret mname n0 T h cells slots) {x : Int64} {y : Int32} (hd : decode bytes pc = .ok (.lshr, 1))  (r : Run p e below m K T pc' L (.long (x >>> (y &&& 0x3f).toInt64) :: st)) (q : pc + 1 = pc' := by rfl) : Run p e below m K T pc L (.int y :: .long x :: st) := by
  obtain ⟨⟨locs, X, -⟩, -, hx, hby, -⟩ := X
  subst q hby
  exact Run.of (fun t k => XS.lshr X.here hx rfl hd rfl k) r
theorem r_lushr (pc' : Nat) (X : Cx p l e R s m args below meth c Z bytes ml own ret mname n0 T h cells slots) {x : Int64} {y : Int32} (hd : decode bytes pc = .ok (.lushr, 1))  (r : Run p e below m K T pc' L (.long ((x.toUInt64 >>> (y &&& 0x3f).toInt64.toUInt64).toInt64) :: st)) (q : pc + 1 = pc' := by rfl) : Run p e below m K T pc L (.int y :: .long x :: st) := by
  obtain ⟨⟨locs, X, -⟩, -, hx, hby, -⟩ := X
  subst q hby
  exact Run.of (fun t k => XS.lushr X.here hx rfl hd rfl k) r
theorem r_lcmp (pc' : Nat) (X : Cx p l e R s m args below meth c Z bytes ml own ret mname n0 T h cells slots) {x y : Int64} (hd : decode bytes pc = .ok (.lcmp, 1))  (r : Run p e below m K T pc' L (.int (lcmpW x y) :: st)) (q : pc + 1 = pc' := by rfl) : Run p e below m K T pc L (.long y :: .long x :: st) := by
  obtain ⟨⟨locs, X, -⟩, -, hx, hby, -⟩ := X
  subst q hby
  exact Run.of (fun t k => XS.lcmp X.here hx rfl hd rfl k) r
theorem r_idiv (pc' : Nat) (X : Cx p l e R s m args below meth c Z bytes ml own ret mname n0 T h cells slots) {x y : Int32} (hd : decode bytes pc = .ok (.idiv, 1)) (hy : y ≠ 0) (r : Run p e below m K T pc' L (.int (x / y) :: st)) (q : pc + 1 = pc' := by rfl) : Run p e below m K T pc L (.int y :: .int x :: st) := by
  obtain ⟨⟨locs, X, -⟩, -, hx, hby, -⟩ := X
  subst q hby
  exact Run.of (fun t k => XS.idiv X.here hx rfl hd rfl hy k) r
theorem r_ldiv (pc' : Nat) (X : Cx p l e R s m args below meth c Z bytes ml own ret mname n0 T h cells slots) {x y : Int64} (hd : decode bytes pc = .ok (.ldiv, 1)) (hy : y ≠ 0) (r : Run p e below m K T pc' L (.long (x / y) :: st)) (q : pc + 1 = pc' := by rfl) : Run p e below m K T pc L (.long y :: .long x :: st) := by
  obtain ⟨⟨locs, X, -⟩, -, hx, hby, -⟩ := X
  subst q hby
  exact Run.of (fun t k => XS.ldiv X.here hx rfl hd rfl hy k) r
theorem r_irem (pc' : Nat) (X : Cx p l e R s m args below meth c Z bytes ml own ret mname n0 T h cells slots) {x y : Int32} (hd : decode bytes pc = .ok (.irem, 1)) (hy : y ≠ 0) (r : Run p e below m K T pc' L (.int (x % y) :: st)) (q : pc + 1 = pc' := by rfl) : Run p e below m K T pc L (.int y :: .int x :: st) := by
  obtain ⟨⟨locs, X, -⟩, -, hx, hby, -⟩ := X
  subst q hby
  exact Run.of (fun t k => iremM (g := mkF m pc L (.int y :: .int x :: st)) X hx rfl hd rfl hy k) r
theorem r_lrem (pc' : Nat) (X : Cx p l e R s m args below meth c Z bytes ml own ret mname n0 T h cells slots) {x y : Int64} (hd : decode bytes pc = .ok (.lrem, 1)) (hy : y ≠ 0) (r : Run p e below m K T pc' L (.long (x % y) :: st)) (q : pc + 1 = pc' := by rfl) : Run p e below m K T pc L (.long y :: .long x :: st) := by
  obtain ⟨⟨locs, X, -⟩, -, hx, hby, -⟩ := X
  subst q hby
  rw [← lrem_mod x y] at r
  exact Run.of (fun t k => XS.lrem X.here hx rfl hd rfl hy k) r
theorem r_ineg (pc' : Nat) (X : Cx p l e R s m args below meth c Z bytes ml own ret mname n0 T h cells slots) {x : Int32} (hd : decode bytes pc = .ok (.ineg, 1))  (r : Run p e below m K T pc' L (.int (-x) :: st)) (q : pc + 1 = pc' := by rfl) : Run p e below m K T pc L (.int x :: st) := by
  obtain ⟨⟨locs, X, -⟩, -, hx, hby, -⟩ := X
  subst q hby
  exact Run.of (fun t k => XS.ineg X.here hx rfl hd rfl k) r
theorem r_lneg (pc' : Nat) (X : Cx p l e R s m args below meth c Z bytes ml own ret mname n0 T h cells slots) {x : Int64} (hd : decode bytes pc = .ok (.lneg, 1))  (r : Run p e below m K T pc' L (.long (-x) :: st)) (q : pc + 1 = pc' := by rfl) : Run p e below m K T pc L (.long x :: st) := by
  obtain ⟨⟨locs, X, -⟩, -, hx, hby, -⟩ := X
  subst q hby
  exact Run.of (fun t k => XS.lneg X.here hx rfl hd rfl k) r
theorem r_i2l (pc' : Nat) (X : Cx p l e R s m args below meth c Z bytes ml own ret mname n0 T h cells slots) {x : Int32} (hd : decode bytes pc = .ok (.i2l, 1))  (r : Run p e below m K T pc' L (.long (x.toInt64) :: st)) (q : pc + 1 = pc' := by rfl) : Run p e below m K T pc L (.int x :: st) := by
  obtain ⟨⟨locs, X, -⟩, -, hx, hby, -⟩ := X
  subst q hby
  exact Run.of (fun t k => XS.i2l X.here hx rfl hd rfl k) r
theorem r_l2i (pc' : Nat) (X : Cx p l e R s m args below meth c Z bytes ml own ret mname n0 T h cells slots) {x : Int64} (hd : decode bytes pc = .ok (.l2i, 1))  (r : Run p e below m K T pc' L (.int (x.toInt32) :: st)) (q : pc + 1 = pc' := by rfl) : Run p e below m K T pc L (.long x :: st) := by
  obtain ⟨⟨locs, X, -⟩, -, hx, hby, -⟩ := X
  subst q hby
  exact Run.of (fun t k => XS.l2i X.here hx rfl hd rfl k) r
theorem r_i2b (pc' : Nat) (X : Cx p l e R s m args below meth c Z bytes ml own ret mname n0 T h cells slots) {x : Int32} (hd : decode bytes pc = .ok (.i2b, 1))  (r : Run p e below m K T pc' L (.int (x.toInt8.toInt32) :: st)) (q : pc + 1 = pc' := by rfl) : Run p e below m K T pc L (.int x :: st) := by
  obtain ⟨⟨locs, X, -⟩, -, hx, hby, -⟩ := X
  subst q hby
  exact Run.of (fun t k => XS.i2b X.here hx rfl hd rfl k) r
theorem r_i2s (pc' : Nat) (X : Cx p l e R s m args below meth c Z bytes ml own ret mname n0 T h cells slots) {x : Int32} (hd : decode bytes pc = .ok (.i2s, 1))  (r : Run p e below m K T pc' L (.int (x.toInt16.toInt32) :: st)) (q : pc + 1 = pc' := by rfl) : Run p e below m K T pc L (.int x :: st) := by
  obtain ⟨⟨locs, X, -⟩, -, hx, hby, -⟩ := X
  subst q hby
  exact Run.of (fun t k => XS.i2s X.here hx rfl hd rfl k) r
theorem r_i2c (pc' : Nat) (X : Cx p l e R s m args below meth c Z bytes ml own ret mname n0 T h cells slots) {x : Int32} (hd : decode bytes pc = .ok (.i2c, 1))  (r : Run p e below m K T pc' L (.int (x.toUInt32.toUInt16.toUInt32.toInt32) :: st)) (q : pc + 1 = pc' := by rfl) : Run p e below m K T pc L (.int x :: st) := by
  obtain ⟨⟨locs, X, -⟩, -, hx, hby, -⟩ := X
  subst q hby
  exact Run.of (fun t k => XS.i2c X.here hx rfl hd rfl k) r
theorem r_iinc (pc' : Nat) (X : Cx p l e R s m args below meth c Z bytes ml own ret mname n0 T h cells slots) {k : Nat} {cst : Int} {x : Int32} (z : Int32) (L' : Array Slot) (hd : decode bytes pc = .ok (.iinc k cst, 3)) (hl : L[k]? = some (.val (.int x))) (hz : Int32.ofInt cst = z) (hl' : storeLocals L k (.int (x + z)) = some L') (r : Run p e below m K T pc' L' st) (q : pc + 3 = pc' := by rfl) : Run p e below m K T pc L st := by
  obtain ⟨⟨locs, X, -⟩, -, hx, hby, -⟩ := X
  subst q hby
  exact Run.of (fun t k => XS.iinc X.here hx rfl hd hl (hz.symm ▸ hl') k) r
theorem r_dup (pc' : Nat) (X : Cx p l e R s m args below meth c Z bytes ml own ret mname n0 T h cells slots) {x : Value} (hd : decode bytes pc = .ok (.dup, 1)) (hc : x.category = 1) (r : Run p e below m K T pc' L (x :: x :: st)) (q : pc + 1 = pc' := by rfl) : Run p e below m K T pc L (x :: st) := by
  obtain ⟨⟨locs, X, -⟩, -, hx, hby, -⟩ := X
  subst q hby
  exact Run.of (fun t k => XS.dup X.here hx rfl hd rfl hc k) r
theorem r_pop (pc' : Nat) (X : Cx p l e R s m args below meth c Z bytes ml own ret mname n0 T h cells slots) {x : Value} (hd : decode bytes pc = .ok (.pop, 1)) (hc : x.category = 1) (r : Run p e below m K T pc' L st) (q : pc + 1 = pc' := by rfl) : Run p e below m K T pc L (x :: st) := by
  obtain ⟨⟨locs, X, -⟩, -, hx, hby, -⟩ := X
  subst q hby
  exact Run.of (fun t k => XS.pop X.here hx rfl hd rfl hc k) r
theorem r_swap (pc' : Nat) (X : Cx p l e R s m args below meth c Z bytes ml own ret mname n0 T h cells slots) {x y : Value} (hd : decode bytes pc = .ok (.swap, 1)) (hc : x.category = 1) (hc2 : y.category = 1) (r : Run p e below m K T pc' L (y :: x :: st)) (q : pc + 1 = pc' := by rfl) : Run p e below m K T pc L (x :: y :: st) := by
  obtain ⟨⟨locs, X, -⟩, -, hx, hby, -⟩ := X
  subst q hby
  exact Run.of (fun t k => XS.swap X.here hx rfl hd rfl hc hc2 k) r
theorem r_dup_x1 (pc' : Nat) (X : Cx p l e R s m args below meth c Z bytes ml own ret mname n0 T h cells slots) {x y : Value} (hd : decode bytes pc = .ok (.dup_x1, 1)) (hc : x.category = 1) (hc2 : y.category = 1) (r : Run p e below m K T pc' L (x :: y :: x :: st)) (q : pc + 1 = pc' := by rfl) : Run p e below m K T pc L (x :: y :: st) := by
  obtain ⟨⟨locs, X, -⟩, -, hx, hby, -⟩ := X
  subst q hby
  exact Run.of (fun t k => XS.dupX1 X.here hx rfl hd rfl hc hc2 k) r
theorem r_i2d (pc' : Nat) (X : Cx p l e R s m args below meth c Z bytes ml own ret mname n0 T h cells slots) {x : Int32} (hd : decode bytes pc = .ok (.i2d, 1))  (r : Run p e below m K T pc' L (.double (FP.i2d x) :: st)) (q : pc + 1 = pc' := by rfl) : Run p e below m K T pc L (.int x :: st) := by
  obtain ⟨⟨locs, X, -⟩, -, hx, hby, -⟩ := X
  subst q hby
  exact Run.of (fun t k => XS.i2dS X.here hx rfl hd rfl rfl k) r
theorem r_dneg (pc' : Nat) (X : Cx p l e R s m args below meth c Z bytes ml own ret mname n0 T h cells slots) {x : UInt64} (hd : decode bytes pc = .ok (.dneg, 1))  (r : Run p e below m K T pc' L (.double (FP.dneg x) :: st)) (q : pc + 1 = pc' := by rfl) : Run p e below m K T pc L (.double x :: st) := by
  obtain ⟨⟨locs, X, -⟩, -, hx, hby, -⟩ := X
  subst q hby
  exact Run.of (fun t k => XS.dnegS X.here hx rfl hd rfl rfl k) r
theorem r_dadd (pc' : Nat) (X : Cx p l e R s m args below meth c Z bytes ml own ret mname n0 T h cells slots) {x y : UInt64} (hd : decode bytes pc = .ok (.dadd, 1)) (hn : Jvm.Free.Fl.NoNaN64 (FP.dadd x y)) (r : Run p e below m K T pc' L (.double (FP.dadd x y) :: st)) (q : pc + 1 = pc' := by rfl) : Run p e below m K T pc L (.double y :: .double x :: st) := by
  obtain ⟨⟨locs, X, -⟩, -, hx, hby, -⟩ := X
  subst q hby
  exact Run.of (fun t k => XS.daddS X.here hx rfl hd rfl hn rfl k) r
theorem r_dsub (pc' : Nat) (X : Cx p l e R s m args below meth c Z bytes ml own ret mname n0 T h cells slots) {x y : UInt64} (hd : decode bytes pc = .ok (.dsub, 1)) (hn : Jvm.Free.Fl.NoNaN64 (FP.dsub x y)) (r : Run p e below m K T pc' L (.double (FP.dsub x y) :: st)) (q : pc + 1 = pc' := by rfl) : Run p e below m K T pc L (.double y :: .double x :: st) := by
  obtain ⟨⟨locs, X, -⟩, -, hx, hby, -⟩ := X
  subst q hby
  exact Run.of (fun t k => XS.dsubS X.here hx rfl hd rfl hn rfl k) r
theorem r_dcmpSelf (pc' : Nat) (X : Cx p l e R s m args below meth c Z bytes ml own ret mname n0 T h cells slots) {o : CmpOp} {x : UInt64} (hd : decode bytes pc = .ok (.dcmp o, 1)) (hn : Jvm.Free.Fl.NoNaN64 x) (r : Run p e below m K T pc' L (.int 0 :: st)) (q : pc + 1 = pc' := by rfl) : Run p e below m K T pc L (.double x :: .double x :: st) := by
  obtain ⟨⟨locs, X, -⟩, -, hx, hby, -⟩ := X
  subst q hby
  exact Run.of (fun t k => XS.dcmpS X.here hx rfl hd rfl (dcmpV_self hn o) k) r
theorem r_dup2_2 (pc' : Nat) (X : Cx p l e R s m args below meth c Z bytes ml own ret mname n0 T h cells slots) {x y : Value} (hd : decode bytes pc = .ok (.dup2, 1)) (hc : x.category = 1) (hc2 : y.category = 1) (r : Run p e below m K T pc' L (x :: y :: x :: y :: st)) (q : pc + 1 = pc' := by rfl) : Run p e below m K T pc L (x :: y :: st) := by
  obtain ⟨⟨locs, X, -⟩, -, hx, hby, -⟩ := X
  subst q hby
  refine Run.of (fun t k => ?_) r
  jvm_step X.here [X.here.top, hx, hd, hc, hc2]
  exact k
theorem r_dup2_1 (pc' : Nat) (X : Cx p l e R s m args below meth c Z bytes ml own ret mname n0 T h cells slots) {x : Value} (hd : decode bytes pc = .ok (.dup2, 1)) (hc : x.category = 2) (r : Run p e below m K T pc' L (x :: x :: st)) (q : pc + 1 = pc' := by rfl) : Run p e below m K T pc L (x :: st) := by
  obtain ⟨⟨locs, X, -⟩, -, hx, hby, -⟩ := X
  subst q hby
  refine Run.of (fun t k => ?_) r
  jvm_step X.here [X.here.top, hx, hd, hc]
  exact k
theorem r_dup_x2_111 (pc' : Nat) (X : Cx p l e R s m args below meth c Z bytes ml own ret mname n0 T h cells slots) {x y z : Value} (hd : decode bytes pc = .ok (.dup_x2, 1)) (hc : x.category = 1) (hc2 : y.category = 1) (hc3 : z.category = 1) (r : Run p e below m K T pc' L (x :: y :: z :: x :: st)) (q : pc + 1 = pc' := by rfl) : Run p e below m K T pc L (x :: y :: z :: st) := by
  obtain ⟨⟨locs, X, -⟩, -, hx, hby, -⟩ := X
  subst q hby
  refine Run.of (fun t k => ?_) r
  jvm_step X.here [X.here.top, hx, hd, hc, hc2, hc3]
  exact k
theorem r_dup2_x1_2 (pc' : Nat) (X : Cx p l e R s m args below meth c Z bytes ml own ret mname n0 T h cells slots) {x y : Value} (hd : decode bytes pc = .ok (.dup2_x1, 1)) (hc : x.category = 2) (hc2 : y.category = 1) (r : Run p e below m K T pc' L (x :: y :: x :: st)) (q : pc + 1 = pc' := by rfl) : Run p e below m K T pc L (x :: y :: st) := by
  obtain ⟨⟨locs, X, -⟩, -, hx, hby, -⟩ := X
  subst q hby
  refine Run.of (fun t k => ?_) r
  jvm_step X.here [X.here.top, hx, hd, hc, hc2]
  exact k
theorem r_dup2_x2_2 (pc' : Nat) (X : Cx p l e R s m args below meth c Z bytes ml own ret mname n0 T h cells slots) {x y z : Value} (hd : decode bytes pc = .ok (.dup2_x2, 1)) (hc : x.category = 2) (hc2 : y.category = 1) (hc3 : z.category = 1) (r : Run p e below m K T pc' L (x :: y :: z :: x :: st)) (q : pc + 1 = pc' := by rfl) : Run p e below m K T pc L (x :: y :: z :: st) := by
  obtain ⟨⟨locs, X, -⟩, -, hx, hby, -⟩ := X
  subst q hby
  refine Run.of (fun t k => ?_) r
  jvm_step X.here [X.here.top, hx, hd, hc, hc2, hc3]
  exact k
theorem r_pop2_1 (pc' : Nat) (X : Cx p l e R s m args below meth c Z bytes ml own ret mname n0 T h cells slots) {x : Value} (hd : decode bytes pc = .ok (.pop2, 1)) (hc : x.category = 2) (r : Run p e below m K T pc' L st) (q : pc + 1 = pc' := by rfl) : Run p e below m K T pc L (x :: st) := by
  obtain ⟨⟨locs, X, -⟩, -, hx, hby, -⟩ := X
  subst q hby
  refine Run.of (fun t k => ?_) r
  jvm_step X.here [X.here.top, hx, hd, hc]
  exact k
theorem r_goto (pc' : Nat) (X : Cx p l e R s m args below meth c Z bytes ml own ret mname n0 T h cells slots) {o : Int} (hd : decode bytes pc = .ok (.goto o, 3)) (r : Run p e below m K T pc' L st) (ho : 0 ≤ (pc : Int) + o := by decide) (hp : ((pc : Int) + o).toNat = pc' := by decide) : Run p e below m K T pc L st := by
  obtain ⟨⟨locs, X, -⟩, -, hx, hby, -⟩ := X
  subst hby
  exact Run.of (fun t k => XS.goto X.here hx rfl (pc0 := pc) (pc' := pc') rfl hd ho hp k) r
theorem r_ifY (pc' : Nat) (X : Cx p l e R s m args below meth c Z bytes ml own ret mname n0 T h cells slots) {cd : ClassFile.Cond} {o : Int} {x : Int32} (hd : decode bytes pc = .ok (.ifCond cd o, 3)) (hc : ifCond.holds cd x = true) (r : Run p e below m K T pc' L st) (ho : 0 ≤ (pc : Int) + o := by decide) (hp : ((pc : Int) + o).toNat = pc' := by decide) : Run p e below m K T pc L (.int x :: st) := by
  obtain ⟨⟨locs, X, -⟩, -, hx, hby, -⟩ := X
  subst hby
  exact Run.of (fun t k => XS.ifYes X.here hx rfl (pc0 := pc) (pc' := pc') rfl hd rfl hc ho hp k) r
theorem r_ifN (pc' : Nat) (X : Cx p l e R s m args below meth c Z bytes ml own ret mname n0 T h cells slots) {cd : ClassFile.Cond} {o : Int} {x : Int32} (hd : decode bytes pc = .ok (.ifCond cd o, 3)) (hc : ifCond.holds cd x = false) (r : Run p e below m K T pc' L st) (q : pc + 3 = pc' := by rfl) : Run p e below m K T pc L (.int x :: st) := by
  obtain ⟨⟨locs, X, -⟩, -, hx, hby, -⟩ := X
  subst q hby
  exact Run.of (fun t k => XS.ifNo X.here hx rfl hd rfl hc k) r
theorem r_icmpY (pc' : Nat) (X : Cx p l e R s m args below meth c Z bytes ml own ret mname n0 T h cells slots) {cd : ClassFile.Cond} {o : Int} {x y : Int32} (hd : decode bytes pc = .ok (.if_icmp cd o, 3)) (hc : if_icmp.holds cd x y = true) (r : Run p e below m K T pc' L st) (ho : 0 ≤ (pc : Int) + o := by decide) (hp : ((pc : Int) + o).toNat = pc' := by decide) : Run p e below m K T pc L (.int y :: .int x :: st) := by
  obtain ⟨⟨locs, X, -⟩, -, hx, hby, -⟩ := X
  subst hby
  exact Run.of (fun t k => XS.icmpYes X.here hx rfl (pc0 := pc) (pc' := pc') rfl hd rfl hc ho hp k) r
theorem r_icmpN (pc' : Nat) (X : Cx p l e R s m args below meth c Z bytes ml own ret mname n0 T h cells slots) {cd : ClassFile.Cond} {o : Int} {x y : Int32} (hd : decode bytes pc = .ok (.if_icmp cd o, 3)) (hc : if_icmp.holds cd x y = false) (r : Run p e below m K T pc' L st) (q : pc + 3 = pc' := by rfl) : Run p e below m K T pc L (.int y :: .int x :: st) := by
  obtain ⟨⟨locs, X, -⟩, -, hx, hby, -⟩ := X
  subst q hby
  exact Run.of (fun t k => XS.icmpNo X.here hx rfl hd rfl hc k) r
theorem r_ifnullY (pc' : Nat) (X : Cx p l e R s m args below meth c Z bytes ml own ret mname n0 T h cells slots) {o : Int}  (hd : decode bytes pc = .ok (.ifnull o, 3)) (r : Run p e below m K T pc' L st) (ho : 0 ≤ (pc : Int) + o := by decide) (hp : ((pc : Int) + o).toNat = pc' := by decide) : Run p e below m K T pc L (.null :: st) := by
  obtain ⟨⟨locs, X, -⟩, -, hx, hby, -⟩ := X
  subst hby
  exact Run.of (fun t k => XS.ifnullYes X.here hx rfl (pc0 := pc) (pc' := pc') rfl hd rfl ho hp k) r
theorem r_ifnullN (pc' : Nat) (X : Cx p l e R s m args below meth c Z bytes ml own ret mname n0 T h cells slots) {o : Int} {b : Addr} (hd : decode bytes pc = .ok (.ifnull o, 3)) (r : Run p e below m K T pc' L st) (q : pc + 3 = pc' := by rfl) : Run p e below m K T pc L (.ref b :: st) := by
  obtain ⟨⟨locs, X, -⟩, -, hx, hby, -⟩ := X
  subst q hby
  exact Run.of (fun t k => XS.ifnullNo X.here hx rfl hd rfl k) r
theorem r_ifnonnullY (pc' : Nat) (X : Cx p l e R s m args below meth c Z bytes ml own ret mname n0 T h cells slots) {o : Int} {b : Addr} (hd : decode bytes pc = .ok (.ifnonnull o, 3)) (r : Run p e below m K T pc' L st) (ho : 0 ≤ (pc : Int) + o := by decide) (hp : ((pc : Int) + o).toNat = pc' := by decide) : Run p e below m K T pc L (.ref b :: st) := by
  obtain ⟨⟨locs, X, -⟩, -, hx, hby, -⟩ := X
  subst hby
  exact Run.of (fun t k => XS.ifnonnullYes X.here hx rfl (pc0 := pc) (pc' := pc') rfl hd rfl ho hp k) r
theorem r_ifnonnullN (pc' : Nat) (X : Cx p l e R s m args below meth c Z bytes ml own ret mname n0 T h cells slots) {o : Int}  (hd : decode bytes pc = .ok (.ifnonnull o, 3)) (r : Run p e below m K T pc' L st) (q : pc + 3 = pc' := by rfl) : Run p e below m K T pc L (.null :: st) := by
  obtain ⟨⟨locs, X, -⟩, -, hx, hby, -⟩ := X
  subst q hby
  exact Run.of (fun t k => XS.ifnonnullNo X.here hx rfl hd rfl k) r
theorem r_acmpY (pc' : Nat) (X : Cx p l e R s m args below meth c Z bytes ml own ret mname n0 T h cells slots) {cd : ACond} {o : Int} {a b : Addr} (hd : decode bytes pc = .ok (.if_acmp cd o, 3)) (hc : if_acmp.holds cd (some a) (some b) = true) (r : Run p e below m K T pc' L st) (ho : 0 ≤ (pc : Int) + o := by decide) (hp : ((pc : Int) + o).toNat = pc' := by decide) : Run p e below m K T pc L (.ref b :: .ref a :: st) := by
  obtain ⟨⟨locs, X, -⟩, -, hx, hby, -⟩ := X
  subst hby
  exact Run.of (fun t k => XS.acmpYes X.here hx rfl (pc0 := pc) (pc' := pc') rfl hd rfl hc ho hp k) r
theorem r_acmpN (pc' : Nat) (X : Cx p l e R s m args below meth c Z bytes ml own ret mname n0 T h cells slots) {cd : ACond} {o : Int} {a b : Addr} (hd : decode bytes pc = .ok (.if_acmp cd o, 3)) (hc : if_acmp.holds cd (some a) (some b) = false) (r : Run p e below m K T pc' L st) (q : pc + 3 = pc' := by rfl) : Run p e below m K T pc L (.ref b :: .ref a :: st) := by
  obtain ⟨⟨locs, X, -⟩, -, hx, hby, -⟩ := X
  subst q hby
  exact Run.of (fun t k => XS.acmpNo X.here hx rfl hd rfl hc k) r
theorem r_ldcInt (pc' : Nat) (X : Cx p l e R s m args below meth c Z bytes ml own ret mname n0 T h cells slots) {a0 : Array Value} {i : Nat} {z : Int32} (w : (Jvm.Cond.constant own i z).before a0 Z = true) (hd : decode bytes pc = .ok (.ldc i, 2)) (r : Run p e below m K T pc' L (.int z :: st)) (q : pc + 2 = pc' := by rfl) : Run p e below m K T pc L st := by
  obtain ⟨⟨locs, X, -⟩, -, hx, hby, -, hZ, hown, -⟩ := X
  subst q hby
  exact Run.of (fun t k => X.ldcInt hx hown (mvT hZ w) (g := mkF m pc L st) rfl hd _ k) r
theorem r_ldcwInt (pc' : Nat) (X : Cx p l e R s m args below meth c Z bytes ml own ret mname n0 T h cells slots) {a0 : Array Value} {i : Nat} {z : Int32} (w : (Jvm.Cond.constant own i z).before a0 Z = true) (hd : decode bytes pc = .ok (.ldc_w i, 3)) (r : Run p e below m K T pc' L (.int z :: st)) (q : pc + 3 = pc' := by rfl) : Run p e below m K T pc L st := by
  obtain ⟨⟨locs, X, -⟩, -, hx, hby, -, hZ, hown, -⟩ := X
  subst q hby
  exact Run.of (fun t k => X.ldcwInt hx hown (mvT hZ w) (g := mkF m pc L st) rfl hd _ k) r
theorem r_ldc2Long (pc' : Nat) (X : Cx p l e R s m args below meth c Z bytes ml own ret mname n0 T h cells slots) {a0 : Array Value} {i : Nat} {z : Int64} (w : (Jvm.Cond.constantLong own i z).before a0 Z = true) (hd : decode bytes pc = .ok (.ldc2_w i, 3)) (r : Run p e below m K T pc' L (.long z :: st)) (q : pc + 3 = pc' := by rfl) : Run p e below m K T pc L st := by
  obtain ⟨⟨locs, X, -⟩, -, hx, hby, -, hZ, hown, -⟩ := X
  subst q hby
  exact Run.of (fun t k => X.ldc2Long hx hown (mvT hZ w) (g := mkF m pc L st) rfl hd _ k) r
theorem r_ldc2Double (pc' : Nat) (X : Cx p l e R s m args below meth c Z bytes ml own ret mname n0 T h cells slots) {a0 : Array Value} {i : Nat} {z : UInt64} (w : (Jvm.Cond.constantDouble own i z).before a0 Z = true) (hd : decode bytes pc = .ok (.ldc2_w i, 3)) (r : Run p e below m K T pc' L (.double z :: st)) (q : pc + 3 = pc' := by rfl) : Run p e below m K T pc L st := by
  obtain ⟨⟨locs, X, -⟩, -, hx, hby, -, hZ, hown, -⟩ := X
  subst q hby
  exact Run.of (fun t k => X.ldc2DoubleC hx hown (mvT hZ w) (g := mkF m pc L st) rfl hd _ k) r
theorem r_getfield (pc' : Nat) (X : Cx p l e R s m args below meth c Z bytes ml own ret mname n0 T h cells slots) {a0 : Array Value} {R0 O n d host : String} {index : Nat} (w : (Jvm.Cond.fieldLink own index R0 n d).before a0 Z = true ∨ (Jvm.Cond.fieldLinkNest own index R0 n d host).before a0 Z = true) (via : Via Z R0 O n d) {a : Addr} {v : Value} (F : Fld Z h a O n d v) (hd : decode bytes pc = .ok (.getfield index, 3)) (r : ∀ T', Cx p l e R s m args below meth c Z bytes ml own ret mname n0 T' h cells slots → Run p e below m K T' pc' L (v :: st)) (q : pc + 3 = pc' := by rfl) : Run p e below m K T pc L (.ref a :: st) := by
  obtain ⟨⟨locs, X, N⟩, e0, hx, hby, hml, hZ, hown, r1⟩ := X
  subst q
  obtain ⟨T', X', e', stp⟩ := getF X hx hZ hown w via e0 F (g := mkF m pc L (.ref a :: st)) rfl rfl (hb hby hd)
  exact Run.of stp (r T' ⟨⟨locs, X', N⟩, e', hx, hby, hml, hZ, hown, r1⟩)
theorem r_getstatic (pc' : Nat) (X : Cx p l e R s m args below meth c Z bytes ml own ret mname n0 T h cells slots) {a0 : Array Value} {R0 O n d host : String} {index : Nat} (w : (Jvm.Cond.fieldLink own index R0 n d).before a0 Z = true ∨ (Jvm.Cond.fieldLinkNest own index R0 n d host).before a0 Z = true) (via : Via Z R0 O n d) {v : Value} (F : Sta Z h O n d v) (hd : decode bytes pc = .ok (.getstatic index, 3)) (r : ∀ T', Cx p l e R s m args below meth c Z bytes ml own ret mname n0 T' h cells slots → Run p e below m K T' pc' L (v :: st)) (q : pc + 3 = pc' := by rfl) : Run p e below m K T pc L st := by
  obtain ⟨⟨locs, X, N⟩, e0, hx, hby, hml, hZ, hown, r1⟩ := X
  subst q
  obtain ⟨T', X', e', stp⟩ := getS2 X hx hZ hown w via e0 F (g := mkF m pc L st) rfl (hb hby hd)
  exact Run.of stp (r T' ⟨⟨locs, X', N⟩, e', hx, hby, hml, hZ, hown, r1⟩)
theorem r_putfield (pc' : Nat) (X : Cx p l e R s m args below meth c Z bytes ml own ret mname n0 T h cells slots) {a0 : Array Value} {R0 O n d host C : String} {index kk : Nat} {ty : FieldType} (w : (Jvm.Cond.fieldLink own index R0 n d).before a0 Z = true ∨ (Jvm.Cond.fieldLinkNest own index R0 n d host).before a0 Z = true) (via : Via Z R0 O n d) {a : Addr} {v old : Value} (F : Fld Z h a O n d old) (E : Exa Z h a C) (Lw : (Jvm.Cond.lays C O n d).before a0 Z = true ∨ ((Jvm.Cond.laysFinal C O n d).before a0 Z = true ∧ own = O ∧ mname = "<init>")) (wi : (Jvm.Cond.instantiable C kk).before a0 Z = true) (hty : parseFieldDescriptor d = some ty) (hn : narrow ty v = v) (hf : fits ty v = true) (ga : n0 ≤ a) (hd : decode bytes pc = .ok (.putfield index, 3)) (r : ∀ T' h', Wr h h' a (Jvm.RoadKit.slotOf Z O n d) v → Cx p l e R s m args below meth c Z bytes ml own ret mname n0 T' h' cells slots → Run p e below m K T' pc' L st) (q : pc + 3 = pc' := by rfl) : Run p e below m K T pc L (v :: .ref a :: st) := by
  obtain ⟨⟨locs, X, N⟩, e0, hx, hby, hml, hZ, hown, hret, hnm, hlk, hsz⟩ := X
  subst q
  obtain ⟨T', h', X', e', W', stp⟩ := putF X hx hZ hown w via e0 F E (Lw.imp id fun q => ⟨q.1, q.2.1, hnm.trans q.2.2⟩) wi hty hn hf (g := mkF m pc L (v :: .ref a :: st)) rfl rfl (hb hby hd)
  exact Run.of stp (r T' h' W' ⟨⟨_, X', Fr.snoc X' N ga⟩, e', hx, hby, hml, hZ, hown, hret, hnm, hlk, by rw [W'.size]; exact hsz⟩)
theorem r_putfieldN (pc' : Nat) (X : Cx p l e R s m args below meth c Z bytes ml own ret mname n0 T h cells slots) {a0 : Array Value} {R0 O n d C : String} {index kk : Nat} {ty : FieldType} (w : (Jvm.Cond.fieldLink own index R0 n d).before a0 Z = true) (via : Via Z R0 O n d) {a : Addr} {v v' old : Value} (F : Fld Z h a O n d old) (E : Exa Z h a C) (Lw : (Jvm.Cond.lays C O n d).before a0 Z = true ∨ ((Jvm.Cond.laysFinal C O n d).before a0 Z = true ∧ own = O ∧ mname = "<init>")) (wi : (Jvm.Cond.instantiable C kk).before a0 Z = true) (hty : parseFieldDescriptor d = some ty) (hn : narrow ty v = v') (hf : fits ty v' = true) (ga : n0 ≤ a) (hd : decode bytes pc = .ok (.putfield index, 3)) (r : ∀ T' h', Wr h h' a (Jvm.RoadKit.slotOf Z O n d) v' → Cx p l e R s m args below meth c Z bytes ml own ret mname n0 T' h' cells slots → Run p e below m K T' pc' L st) (q : pc + 3 = pc' := by rfl) : Run p e below m K T pc L (v :: .ref a :: st) := by
  obtain ⟨⟨locs, X, N⟩, e0, hx, hby, hml, hZ, hown, hret, hnm, hlk, hsz⟩ := X
  subst q
  obtain ⟨T', h', X', e', W', stp⟩ := putFN X hx hZ hown w via e0 F E (Lw.imp id fun q => ⟨q.1, q.2.1, hnm.trans q.2.2⟩) wi hty hn hf (g := mkF m pc L (v :: .ref a :: st)) rfl rfl (hb hby hd)
  exact Run.of stp (r T' h' W' ⟨⟨_, X', Fr.snoc X' N ga⟩, e', hx, hby, hml, hZ, hown, hret, hnm, hlk, by rw [W'.size]; exact hsz⟩)
theorem r_new (pc' : Nat) (X : Cx p l e R s m args below meth c Z bytes ml own ret mname n0 T h cells slots) {a0 : Array Value} {C : String} {index n : Nat} (w : (Jvm.Cond.classLink own index C).before a0 Z = true) (wi : (Jvm.Cond.instantiable C n).before a0 Z = true) (wz : (Jvm.Cond.initialized C).before a0 Z = true) (hd : decode bytes pc = .ok (.new index, 3)) (hc : cells + 1 ≤ R.cells) (hl : slots + n ≤ R.slots) (r : ∀ T' h' b, b = h.size → n0 ≤ b → Ext h h' → Exa Z h' b C → (∀ {O nm d : String} {ty : FieldType}, Laid Z a0 C O nm d → parseFieldDescriptor d = some ty → Fld Z h' b O nm d (defaultValue ty)) → Cx p l e R s m args below meth c Z bytes ml own ret mname n0 T' h' (cells + 1) (slots + n) → Run p e below m K T' pc' L (.ref b :: st)) (q : pc + 3 = pc' := by rfl) : Run p e below m K T pc L st := by
  obtain ⟨⟨locs, X, N⟩, e0, hx, hby, hml, hZ, hown, hret, hnm, hlk, hsz⟩ := X
  subst q
  obtain ⟨T', h', X', e', E', A', D', -, stp⟩ := newO X hx hZ hown w wi wz e0 (g := mkF m pc L st) rfl (hb hby hd) hc hl
  exact Run.of stp (r T' h' h.size rfl hsz E' A' D' ⟨⟨_, X', N⟩, e', hx, hby, hml, hZ, hown, hret, hnm, hlk, Nat.le_trans hsz E'.1⟩)
theorem r_newarray (pc' : Nat) (X : Cx p l e R s m args below meth c Z bytes ml own ret mname n0 T h cells slots) {a0 : Array Value} {aty : ArrayType} {z : Int32} (n cap : Nat) (w : (Jvm.Cond.arrayClass (newarray.typeOf aty)).before a0 Z = true) (hd : decode bytes pc = .ok (.newarray aty, 2)) (hz : z.toInt = (n : Int)) (hcap : n ≤ cap) (hb8 : cap * 8 ≤ 536870912) (hc : cells + 1 ≤ R.cells) (hl : slots + cap ≤ R.slots) (r : ∀ T' h' b, b = h.size → n0 ≤ b → Ext h h' → AF Z h' b (newarray.typeOf aty) n (fun _ => defaultValue (newarray.typeOf aty)) → Cx p l e R s m args below meth c Z bytes ml own ret mname n0 T' h' (cells + 1) (slots + cap) → Run p e below m K T' pc' L (.ref b :: st)) (q : pc + 2 = pc' := by rfl) : Run p e below m K T pc L (.int z :: st) := by
  obtain ⟨⟨locs, X, N⟩, e0, hx, hby, hml, hZ, hown, hret, hnm, hlk, hsz⟩ := X
  subst q
  have hz0 : ¬ z < 0 := by rw [Int32.lt_iff_toInt_lt]; have : (0 : Int32).toInt = 0 := rfl; omega
  have hzn : z.toNatClampNeg = n := by show z.toInt.toNat = n; omega
  have hzl := z.toInt_lt
  obtain ⟨T', h', cA, X', e', E', A', stp⟩ := newP X hx hZ w e0 (g := mkF m pc L (.int z :: st)) rfl (hb hby hd) rfl hz0 (cap := cap) (by rw [hzn]; exact hcap) hb8 hc hl
  refine Run.of stp (r T' h' h.size rfl hsz E' ⟨_, A', by rw [sz_new, hzn], by omega, fun j hj => ?_⟩ ⟨⟨_, X', N⟩, e', hx, hby, hml, hZ, hown, hret, hnm, hlk, Nat.le_trans hsz E'.1⟩)
  simp [newA, hzn, hj]
theorem r_arraylength (pc' : Nat) (X : Cx p l e R s m args below meth c Z bytes ml own ret mname n0 T h cells slots) {a : Addr} {ty : FieldType} {n : Nat} {f : Nat → Value} (A : AF Z h a ty n f) (z : Int32) (hz : z.toInt = (n : Int)) (hd : decode bytes pc = .ok (.arraylength, 1)) (r : Run p e below m K T pc' L (.int z :: st)) (q : pc + 1 = pc' := by rfl) : Run p e below m K T pc L (.ref a :: st) := by
  obtain ⟨⟨locs, X, N⟩, e0, hx, hby, hml, hZ, hown, r1⟩ := X
  subst q hby
  obtain ⟨cl, A, S, q, -⟩ := A
  have ez : cl.slots.size.toInt32 = z := by rw [S]; apply Int32.toInt_inj.mp; rw [hz]; exact len_toInt q
  rw [← ez] at r
  exact Run.of (fun t k => X.arraylength hx (by rw [e0]; exact A.1) (State.isArrayOf_alike hZ.alike A.2.1) (g := mkF m pc L (.ref a :: st)) rfl rfl hd _ k) r
theorem r_iaload (pc' : Nat) (X : Cx p l e R s m args below meth c Z bytes ml own ret mname n0 T h cells slots) {a : Addr} {n : Nat} {f : Nat → Value} (A : AF Z h a .int n f) {j : Int32} {i : Nat} {v : Value} (hj : j.toInt = (i : Int)) (hi : i < n) (hv : f i = v) (hd : decode bytes pc = .ok (.iaload, 1)) (r : Run p e below m K T pc' L (v :: st)) (q : pc + 1 = pc' := by rfl) : Run p e below m K T pc L (.int j :: .ref a :: st) := by
  obtain ⟨⟨locs, X, N⟩, e0, hx, hby, hml, hZ, hown, r1⟩ := X
  subst q hby
  obtain ⟨cl, A, S, -, H⟩ := A
  obtain ⟨h1, h2⟩ := idx_of hj (S ▸ hi)
  exact Run.of (fun t k => X.iaload hx (j := j) (v := v) (by rw [e0]; exact A.1) (State.isArrayOf_alike hZ.alike A.2.1) A.2.2 h1 (by rw [h2, H i hi, hv]) (g := mkF m pc L (.int j :: .ref a :: st)) rfl rfl hd _ k) r
theorem r_laload (pc' : Nat) (X : Cx p l e R s m args below meth c Z bytes ml own ret mname n0 T h cells slots) {a : Addr} {n : Nat} {f : Nat → Value} (A : AF Z h a .long n f) {j : Int32} {i : Nat} {v : Value} (hj : j.toInt = (i : Int)) (hi : i < n) (hv : f i = v) (hd : decode bytes pc = .ok (.laload, 1)) (r : Run p e below m K T pc' L (v :: st)) (q : pc + 1 = pc' := by rfl) : Run p e below m K T pc L (.int j :: .ref a :: st) := by
  obtain ⟨⟨locs, X, N⟩, e0, hx, hby, hml, hZ, hown, r1⟩ := X
  subst q hby
  obtain ⟨cl, A, S, -, H⟩ := A
  obtain ⟨h1, h2⟩ := idx_of hj (S ▸ hi)
  exact Run.of (fun t k => X.laload hx (j := j) (v := v) (by rw [e0]; exact A.1) (State.isArrayOf_alike hZ.alike A.2.1) A.2.2 h1 (by rw [h2, H i hi, hv]) (g := mkF m pc L (.int j :: .ref a :: st)) rfl rfl hd _ k) r
theorem r_caload (pc' : Nat) (X : Cx p l e R s m args below meth c Z bytes ml own ret mname n0 T h cells slots) {a : Addr} {n : Nat} {f : Nat → Value} (A : AF Z h a .char n f) {j : Int32} {i : Nat} {v : Value} (hj : j.toInt = (i : Int)) (hi : i < n) (hv : f i = v) (hd : decode bytes pc = .ok (.caload, 1)) (r : Run p e below m K T pc' L (v :: st)) (q : pc + 1 = pc' := by rfl) : Run p e below m K T pc L (.int j :: .ref a :: st) := by
  obtain ⟨⟨locs, X, N⟩, e0, hx, hby, hml, hZ, hown, r1⟩ := X
  subst q hby
  obtain ⟨cl, A, S, -, H⟩ := A
  obtain ⟨h1, h2⟩ := idx_of hj (S ▸ hi)
  exact Run.of (fun t k => X.caload hx (j := j) (v := v) (by rw [e0]; exact A.1) (State.isArrayOf_alike hZ.alike A.2.1) A.2.2 h1 (by rw [h2, H i hi, hv]) (g := mkF m pc L (.int j :: .ref a :: st)) rfl rfl hd _ k) r
theorem r_baloadB (pc' : Nat) (X : Cx p l e R s m args below meth c Z bytes ml own ret mname n0 T h cells slots) {a : Addr} {n : Nat} {f : Nat → Value} (A : AF Z h a .byte n f) {j : Int32} {i : Nat} {v : Value} (hj : j.toInt = (i : Int)) (hi : i < n) (hv : f i = v) (hd : decode bytes pc = .ok (.baload, 1)) (r : Run p e below m K T pc' L (v :: st)) (q : pc + 1 = pc' := by rfl) : Run p e below m K T pc L (.int j :: .ref a :: st) := by
  obtain ⟨⟨locs, X, N⟩, e0, hx, hby, hml, hZ, hown, r1⟩ := X
  subst q hby
  obtain ⟨cl, A, S, -, H⟩ := A
  obtain ⟨h1, h2⟩ := idx_of hj (S ▸ hi)
  exact Run.of (fun t k => X.baloadBytes hx (j := j) (v := v) (by rw [e0]; exact A.1) (State.isArrayOf_alike hZ.alike A.2.1) A.2.2 h1 (by rw [h2, H i hi, hv]) (g := mkF m pc L (.int j :: .ref a :: st)) rfl rfl hd _ k) r
theorem r_baloadZ (pc' : Nat) (X : Cx p l e R s m args below meth c Z bytes ml own ret mname n0 T h cells slots) {a : Addr} {n : Nat} {f : Nat → Value} (A : AF Z h a .boolean n f) {j : Int32} {i : Nat} {v : Value} (hj : j.toInt = (i : Int)) (hi : i < n) (hv : f i = v) (hd : decode bytes pc = .ok (.baload, 1)) (r : Run p e below m K T pc' L (v :: st)) (q : pc + 1 = pc' := by rfl) : Run p e below m K T pc L (.int j :: .ref a :: st) := by
  obtain ⟨⟨locs, X, N⟩, e0, hx, hby, hml, hZ, hown, r1⟩ := X
  subst q hby
  obtain ⟨cl, A, S, -, H⟩ := A
  obtain ⟨h1, h2⟩ := idx_of hj (S ▸ hi)
  exact Run.of (fun t k => X.baloadBooleans hx (j := j) (v := v) (by rw [e0]; exact A.1) (State.isArrayOf_alike hZ.alike A.2.1) A.2.2 h1 (by rw [h2, H i hi, hv]) (g := mkF m pc L (.int j :: .ref a :: st)) rfl rfl hd _ k) r
theorem r_daload (pc' : Nat) (X : Cx p l e R s m args below meth c Z bytes ml own ret mname n0 T h cells slots) {a : Addr} {n : Nat} {f : Nat → Value} (A : AF Z h a .double n f) {j : Int32} {i : Nat} {v : Value} (hj : j.toInt = (i : Int)) (hi : i < n) (hv : f i = v) (hd : decode bytes pc = .ok (.daload, 1)) (r : Run p e below m K T pc' L (v :: st)) (q : pc + 1 = pc' := by rfl) : Run p e below m K T pc L (.int j :: .ref a :: st) := by
  obtain ⟨⟨locs, X, N⟩, e0, hx, hby, hml, hZ, hown, r1⟩ := X
  subst q hby
  obtain ⟨cl, A, S, -, H⟩ := A
  obtain ⟨h1, h2⟩ := idx_of hj (S ▸ hi)
  exact Run.of (fun t k => X.daload hx (j := j) (v := v) (by rw [e0]; exact A.1) (State.isArrayOf_alike hZ.alike A.2.1) A.2.2 h1 (by rw [h2, H i hi, hv]) (g := mkF m pc L (.int j :: .ref a :: st)) rfl rfl hd _ k) r
theorem r_iastore (pc' : Nat) (X : Cx p l e R s m args below meth c Z bytes ml own ret mname n0 T h cells slots) {a : Addr} {n : Nat} {f : Nat → Value} (A : AF Z h a .int n f) {j : Int32} {i : Nat} {x : Int32} {v : Value} (hj : j.toInt = (i : Int)) (hi : i < n) (hv : (.int x) = v) (ga : n0 ≤ a) (hd : decode bytes pc = .ok (.iastore, 1)) (r : ∀ T' h', Wr h h' a i v → Cx p l e R s m args below meth c Z bytes ml own ret mname n0 T' h' cells slots → Run p e below m K T' pc' L st) (q : pc + 1 = pc' := by rfl) : Run p e below m K T pc L ((.int x) :: .int j :: .ref a :: st) := by
  obtain ⟨⟨locs, X, N⟩, e0, hx, hby, hml, hZ, hown, hret, hnm, hlk, hsz⟩ := X
  subst q hv
  obtain ⟨cl, A, S, -, H⟩ := A
  obtain ⟨h1, h2⟩ := idx_of hj (S ▸ hi)
  obtain ⟨T', h', X', e', W', stp⟩ := stI X hx hZ e0 A (j := j) h1 (g := mkF m pc L ((.int x) :: .int j :: .ref a :: st)) rfl rfl (hb hby hd)
  exact Run.of stp (r T' h' (h2 ▸ W') ⟨⟨_, X', Fr.snoc X' N ga⟩, e', hx, hby, hml, hZ, hown, hret, hnm, hlk, by rw [W'.size]; exact hsz⟩)
theorem r_lastore (pc' : Nat) (X : Cx p l e R s m args below meth c Z bytes ml own ret mname n0 T h cells slots) {a : Addr} {n : Nat} {f : Nat → Value} (A : AF Z h a .long n f) {j : Int32} {i : Nat} {x : Int64} {v : Value} (hj : j.toInt = (i : Int)) (hi : i < n) (hv : (.long x) = v) (ga : n0 ≤ a) (hd : decode bytes pc = .ok (.lastore, 1)) (r : ∀ T' h', Wr h h' a i v → Cx p l e R s m args below meth c Z bytes ml own ret mname n0 T' h' cells slots → Run p e below m K T' pc' L st) (q : pc + 1 = pc' := by rfl) : Run p e below m K T pc L ((.long x) :: .int j :: .ref a :: st) := by
  obtain ⟨⟨locs, X, N⟩, e0, hx, hby, hml, hZ, hown, hret, hnm, hlk, hsz⟩ := X
  subst q hv
  obtain ⟨cl, A, S, -, H⟩ := A
  obtain ⟨h1, h2⟩ := idx_of hj (S ▸ hi)
  obtain ⟨T', h', X', e', W', stp⟩ := stJ X hx hZ e0 A (j := j) h1 (g := mkF m pc L ((.long x) :: .int j :: .ref a :: st)) rfl rfl (hb hby hd)
  exact Run.of stp (r T' h' (h2 ▸ W') ⟨⟨_, X', Fr.snoc X' N ga⟩, e', hx, hby, hml, hZ, hown, hret, hnm, hlk, by rw [W'.size]; exact hsz⟩)
theorem r_castore (pc' : Nat) (X : Cx p l e R s m args below meth c Z bytes ml own ret mname n0 T h cells slots) {a : Addr} {n : Nat} {f : Nat → Value} (A : AF Z h a .char n f) {j : Int32} {i : Nat} {x : Int32} {v : Value} (hj : j.toInt = (i : Int)) (hi : i < n) (hv : (.int (nar .char x)) = v) (ga : n0 ≤ a) (hd : decode bytes pc = .ok (.castore, 1)) (r : ∀ T' h', Wr h h' a i v → Cx p l e R s m args below meth c Z bytes ml own ret mname n0 T' h' cells slots → Run p e below m K T' pc' L st) (q : pc + 1 = pc' := by rfl) : Run p e below m K T pc L ((.int x) :: .int j :: .ref a :: st) := by
  obtain ⟨⟨locs, X, N⟩, e0, hx, hby, hml, hZ, hown, hret, hnm, hlk, hsz⟩ := X
  subst q hv
  obtain ⟨cl, A, S, -, H⟩ := A
  obtain ⟨h1, h2⟩ := idx_of hj (S ▸ hi)
  obtain ⟨T', h', X', e', W', stp⟩ := stC X hx hZ e0 A (j := j) h1 (g := mkF m pc L ((.int x) :: .int j :: .ref a :: st)) rfl rfl (hb hby hd)
  exact Run.of stp (r T' h' (h2 ▸ W') ⟨⟨_, X', Fr.snoc X' N ga⟩, e', hx, hby, hml, hZ, hown, hret, hnm, hlk, by rw [W'.size]; exact hsz⟩)
theorem r_bastoreB (pc' : Nat) (X : Cx p l e R s m args below meth c Z bytes ml own ret mname n0 T h cells slots) {a : Addr} {n : Nat} {f : Nat → Value} (A : AF Z h a .byte n f) {j : Int32} {i : Nat} {x : Int32} {v : Value} (hj : j.toInt = (i : Int)) (hi : i < n) (hv : (.int (nar .byte x)) = v) (ga : n0 ≤ a) (hd : decode bytes pc = .ok (.bastore, 1)) (r : ∀ T' h', Wr h h' a i v → Cx p l e R s m args below meth c Z bytes ml own ret mname n0 T' h' cells slots → Run p e below m K T' pc' L st) (q : pc + 1 = pc' := by rfl) : Run p e below m K T pc L ((.int x) :: .int j :: .ref a :: st) := by
  obtain ⟨⟨locs, X, N⟩, e0, hx, hby, hml, hZ, hown, hret, hnm, hlk, hsz⟩ := X
  subst q hv
  obtain ⟨cl, A, S, -, H⟩ := A
  obtain ⟨h1, h2⟩ := idx_of hj (S ▸ hi)
  obtain ⟨T', h', X', e', W', stp⟩ := stB X hx hZ e0 A (j := j) h1 (g := mkF m pc L ((.int x) :: .int j :: .ref a :: st)) rfl rfl (hb hby hd)
  exact Run.of stp (r T' h' (h2 ▸ W') ⟨⟨_, X', Fr.snoc X' N ga⟩, e', hx, hby, hml, hZ, hown, hret, hnm, hlk, by rw [W'.size]; exact hsz⟩)
theorem r_bastoreZ (pc' : Nat) (X : Cx p l e R s m args below meth c Z bytes ml own ret mname n0 T h cells slots) {a : Addr} {n : Nat} {f : Nat → Value} (A : AF Z h a .boolean n f) {j : Int32} {i : Nat} {x : Int32} {v : Value} (hj : j.toInt = (i : Int)) (hi : i < n) (hv : (.int (nar .boolean x)) = v) (ga : n0 ≤ a) (hd : decode bytes pc = .ok (.bastore, 1)) (r : ∀ T' h', Wr h h' a i v → Cx p l e R s m args below meth c Z bytes ml own ret mname n0 T' h' cells slots → Run p e below m K T' pc' L st) (q : pc + 1 = pc' := by rfl) : Run p e below m K T pc L ((.int x) :: .int j :: .ref a :: st) := by
  obtain ⟨⟨locs, X, N⟩, e0, hx, hby, hml, hZ, hown, hret, hnm, hlk, hsz⟩ := X
  subst q hv
  obtain ⟨cl, A, S, -, H⟩ := A
  obtain ⟨h1, h2⟩ := idx_of hj (S ▸ hi)
  obtain ⟨T', h', X', e', W', stp⟩ := stZ X hx hZ e0 A (j := j) h1 (g := mkF m pc L ((.int x) :: .int j :: .ref a :: st)) rfl rfl (hb hby hd)
  exact Run.of stp (r T' h' (h2 ▸ W') ⟨⟨_, X', Fr.snoc X' N ga⟩, e', hx, hby, hml, hZ, hown, hret, hnm, hlk, by rw [W'.size]; exact hsz⟩)
theorem r_dastore (pc' : Nat) (X : Cx p l e R s m args below meth c Z bytes ml own ret mname n0 T h cells slots) {a : Addr} {n : Nat} {f : Nat → Value} (A : AF Z h a .double n f) {j : Int32} {i : Nat} {x : UInt64} {v : Value} (hj : j.toInt = (i : Int)) (hi : i < n) (hv : (.double x) = v) (ga : n0 ≤ a) (hd : decode bytes pc = .ok (.dastore, 1)) (r : ∀ T' h', Wr h h' a i v → Cx p l e R s m args below meth c Z bytes ml own ret mname n0 T' h' cells slots → Run p e below m K T' pc' L st) (q : pc + 1 = pc' := by rfl) : Run p e below m K T pc L ((.double x) :: .int j :: .ref a :: st) := by
  obtain ⟨⟨locs, X, N⟩, e0, hx, hby, hml, hZ, hown, hret, hnm, hlk, hsz⟩ := X
  subst q hv
  obtain ⟨cl, A, S, -, H⟩ := A
  obtain ⟨h1, h2⟩ := idx_of hj (S ▸ hi)
  obtain ⟨T', h', X', e', W', stp⟩ := stD X hx hZ e0 A (j := j) h1 (g := mkF m pc L ((.double x) :: .int j :: .ref a :: st)) rfl rfl (hb hby hd)
  exact Run.of stp (r T' h' (h2 ▸ W') ⟨⟨_, X', Fr.snoc X' N ga⟩, e', hx, hby, hml, hZ, hown, hret, hnm, hlk, by rw [W'.size]; exact hsz⟩)
theorem r_initO (pc' : Nat) (X : Cx p l e R s m args below meth c Z bytes ml own ret mname n0 T h cells slots) {a0 : Array Value} {idx : Nat} (w1 : (Jvm.Cond.methodLink own idx Lib.objectInit).before a0 Z = true) (w2 : (Jvm.Cond.instanceMethod Lib.objectInit).before a0 Z = true) (w3 : (Jvm.Cond.code Lib.objectInit ⟨#[0xb1]⟩ 1 none).before a0 Z = true) {a : Addr} (hd : decode bytes pc = .ok (.invokespecial idx, 3)) (hsize : L.size = ml) (hf : 1 ≤ R.frames) (W : Nat) (hW : (st.map fun v => v.category).sum ≤ W) (hl : W + 12 ≤ R.locals) (r : ∀ T', Cx p l e R s m args below meth c Z bytes ml own ret mname n0 T' h cells slots → Run p e below m K T' pc' L st) (q : pc + 3 = pc' := by rfl) : Run p e below m K T pc L (.ref a :: st) := by
  obtain ⟨⟨locs, X, N⟩, e0, hx, hby, hml, hZ, hown, r1⟩ := X
  subst q
  obtain ⟨T', X', e', stp⟩ := initO X hx hZ hown w1 w2 w3 e0 (g := mkF m pc L (.ref a :: st)) rfl (by rw [hml]; exact hsize) rfl (hb hby hd) hf (W := W) (by show 2 * 0 + _ ≤ _; omega) hl
  exact Run.of stp (r T' ⟨⟨_, X', N⟩, e', hx, hby, hml, hZ, hown, r1⟩)
theorem met_of {l : Launch} {Z : State} {n0 : Nat} {ws : List Jvm.Cond} {y : MethodName} {bytes : ByteArray} {ml : Nat} {ret : Option FieldType} {rm : Room} {as : Array Value} {h0 : Heap} {Q : Option Value → Heap → Prop} {L0 : Array Slot} (hpl : plainFor y = true) (hn0 : n0 ≤ h0.size) (ef : ∀ m, entryFrame m as ml = mkF m 0 L0 [])
    (body : ∀ p e s m below meth c T, s.heap = h0 → Cx p l e rm s m as below meth c Z bytes ml y.cls ret y.name n0 T h0 0 0 → Run p e below m (Fin1 below s n0 Q rm.cells rm.slots) T 0 L0 []) : Met1 l Z n0 ws y bytes ml ret rm as h0 Q := by
  refine MetFree.of_bodySF hpl hisR ?_
  intro p e s m args below meth c s₁ Bd hml0 hP hK
  obtain ⟨rfl, hZ, hh⟩ := hP
  have hlk : meth.locks = false := BodyLoose.notSynchronized Bd
  obtain ⟨u, h1, h2, o, h3, h4⟩ := body p e s m below meth c s₁ hh ⟨⟨[], Stand.of_body Bd, Fr.nil n0⟩, by rw [← hh, Bd.state]; rfl, Bd.exec, Bd.bytes, hml0, hZ, findClass_of_methodNamed Bd.named, Bd.returns, (name_of_methodNamed Bd.named Bd.method).1, hlk, hn0⟩
  exact ⟨u, o, castTop (ef m) h1, h2, h3, h4⟩
theorem fin_of {Q : Option Value → Heap → Prop} {cN sN : Nat} {v : Option Value} (X : Cx p l e R s m args below meth c Z bytes ml own ret mname n0 T h cells slots) (hc : cells ≤ cN) (hs : slots ≤ sN) (hQ : Q v h) (hv : ret = none → v = none) (stp : ∀ {T : State} {locs : List Loc} (X : Stand p l e R s m args below meth c T locs cells slots) (hx : p.tables.exec = Jvm.exec) (hret : meth.sig.returnType = ret) {fs : List Frame}, (∀ (f : JFrame) (acts : List Action), f.method = m → f.locked = none → f.entered = [] → (doReturn e (T.setTop f) acts v).1 = T.setFrames fs) → Steps p.tables e below (T.setTop (mkF m pc L st)) (T.setFrames fs)) : Run p e below m (Fin1 below s n0 Q cN sN) T pc L st := by
  obtain ⟨⟨locs, X, N⟩, e0, hx, hby, hml, hZ, hown, hret, hnm, hlk, hsz⟩ := X
  obtain ⟨fs, hr, hrun, hended, hW, hsame⟩ := X.leave (v := v) (fun q => hv (hret.symm.trans q)) hlk
  refine ⟨_, stp X hx hret hr, hrun, _, hended, v, locs, rfl, ⟨?_, N, ?_⟩, ⟨_, rfl⟩, hW, hsame.mono hc hs⟩
  · show Q v T.heap; rw [e0]; exact hQ
  · show n0 ≤ T.heap.size; rw [e0]; exact hsz
theorem r_retZ {Q : Option Value → Heap → Prop} {cN sN : Nat} (X : Cx p l e R s m args below meth c Z bytes ml own (some .boolean) mname n0 T h cells slots) {x z : Int32} (hd : decode bytes pc = .ok (.ireturn, 1)) (hz : nar .boolean x = z) (hc : cells ≤ cN) (hs : slots ≤ sN) (hQ : Q (some (.int z)) h) : Run p e below m (Fin1 below s n0 Q cN sN) T pc L (.int x :: st) := by
  have hby := X.2.2.2.1
  subst hz
  exact fin_of X hc hs hQ (fun q => by cases q) (fun X hx hret fs hr => retN X hx (t := .boolean) hret (by simp) (hb hby hd) hr)
theorem r_retB {Q : Option Value → Heap → Prop} {cN sN : Nat} (X : Cx p l e R s m args below meth c Z bytes ml own (some .byte) mname n0 T h cells slots) {x z : Int32} (hd : decode bytes pc = .ok (.ireturn, 1)) (hz : nar .byte x = z) (hc : cells ≤ cN) (hs : slots ≤ sN) (hQ : Q (some (.int z)) h) : Run p e below m (Fin1 below s n0 Q cN sN) T pc L (.int x :: st) := by
  have hby := X.2.2.2.1
  subst hz
  exact fin_of X hc hs hQ (fun q => by cases q) (fun X hx hret fs hr => retN X hx (t := .byte) hret (by simp) (hb hby hd) hr)
theorem r_retC {Q : Option Value → Heap → Prop} {cN sN : Nat} (X : Cx p l e R s m args below meth c Z bytes ml own (some .char) mname n0 T h cells slots) {x z : Int32} (hd : decode bytes pc = .ok (.ireturn, 1)) (hz : nar .char x = z) (hc : cells ≤ cN) (hs : slots ≤ sN) (hQ : Q (some (.int z)) h) : Run p e below m (Fin1 below s n0 Q cN sN) T pc L (.int x :: st) := by
  have hby := X.2.2.2.1
  subst hz
  exact fin_of X hc hs hQ (fun q => by cases q) (fun X hx hret fs hr => retN X hx (t := .char) hret (by simp) (hb hby hd) hr)
theorem r_retS {Q : Option Value → Heap → Prop} {cN sN : Nat} (X : Cx p l e R s m args below meth c Z bytes ml own (some .short) mname n0 T h cells slots) {x z : Int32} (hd : decode bytes pc = .ok (.ireturn, 1)) (hz : nar .short x = z) (hc : cells ≤ cN) (hs : slots ≤ sN) (hQ : Q (some (.int z)) h) : Run p e below m (Fin1 below s n0 Q cN sN) T pc L (.int x :: st) := by
  have hby := X.2.2.2.1
  subst hz
  exact fin_of X hc hs hQ (fun q => by cases q) (fun X hx hret fs hr => retN X hx (t := .short) hret (by simp) (hb hby hd) hr)
theorem r_retI {Q : Option Value → Heap → Prop} {cN sN : Nat} (X : Cx p l e R s m args below meth c Z bytes ml own (some .int) mname n0 T h cells slots) {x : Int32} (hd : decode bytes pc = .ok (.ireturn, 1)) (hc : cells ≤ cN) (hs : slots ≤ sN) (hQ : Q (some (.int x)) h) : Run p e below m (Fin1 below s n0 Q cN sN) T pc L (.int x :: st) := by
  have hby := X.2.2.2.1
  exact fin_of X hc hs hQ (fun q => by cases q) (fun X hx hret fs hr => retOut X hx (t := .int) hret rfl (Or.inl ⟨rfl, Or.inl rfl, _, rfl⟩) (hb hby hd) hr)
theorem r_retJ {Q : Option Value → Heap → Prop} {cN sN : Nat} (X : Cx p l e R s m args below meth c Z bytes ml own (some .long) mname n0 T h cells slots) {x : Int64} (hd : decode bytes pc = .ok (.lreturn, 1)) (hc : cells ≤ cN) (hs : slots ≤ sN) (hQ : Q (some (.long x)) h) : Run p e below m (Fin1 below s n0 Q cN sN) T pc L (.long x :: st) := by
  have hby := X.2.2.2.1
  exact fin_of X hc hs hQ (fun q => by cases q) (fun X hx hret fs hr => retOut X hx (t := .long) hret rfl (Or.inr (Or.inl ⟨rfl, rfl, _, rfl⟩)) (hb hby hd) hr)
theorem r_retA {Q : Option Value → Heap → Prop} {cN sN : Nat} {t : FieldType} (X : Cx p l e R s m args below meth c Z bytes ml own (some t) mname n0 T h cells slots) {x : Value} (hd : decode bytes pc = .ok (.areturn, 1)) (ht : t.isReference = true) (hn : narrow t x = x) (hx : x.isRef = true) (hc : cells ≤ cN) (hs : slots ≤ sN) (hQ : Q (some x) h) : Run p e below m (Fin1 below s n0 Q cN sN) T pc L (x :: st) := by
  have hby := X.2.2.2.1
  exact fin_of X hc hs hQ (fun q => by cases q) (fun X hx' hret fs hr => retOut X hx' (t := t) hret hn (Or.inr (Or.inr (Or.inr (Or.inr ⟨rfl, ht, hx⟩)))) (hb hby hd) hr)
theorem r_retV {Q : Option Value → Heap → Prop} {cN sN : Nat} (X : Cx p l e R s m args below meth c Z bytes ml own none mname n0 T h cells slots) (hd : decode bytes pc = .ok (.return_, 1)) (hc : cells ≤ cN) (hs : slots ≤ sN) (hQ : Q none h) : Run p e below m (Fin1 below s n0 Q cN sN) T pc L [] := by
  have hby := X.2.2.2.1
  exact fin_of X hc hs hQ (fun _ => rfl) (fun X hx hret fs hr => X.returnOut hx hret (hb hby hd) hr)
theorem r_callS (pc' : Nat) (X : Cx p l e R s m args below meth c Z bytes ml own ret mname n0 T h cells slots) {a0 : Array Value} {y : MethodName} {by' : ByteArray} {ml' : Nat} {ret' : Option FieldType} {rm : Room} {as : Array Value} {Q : Option Value → Heap → Prop} {index : Nat}  (hM : Met1 l Z n0 [] y by' ml' ret' rm as h Q) (w1 : (Jvm.Cond.methodLink own index y).before a0 Z = true) (w2 : (Jvm.Cond.static y).before a0 Z = true) (wc : (Jvm.Cond.code y by' ml' ret').before a0 Z = true) (wz : (Jvm.Cond.initialized y.cls).before a0 Z = true) (hy : y.cls ≠ "java/lang/invoke/MethodHandle" ∧ y.cls ≠ "java/lang/invoke/VarHandle") {ps : List FieldType} {rt : Option FieldType} (pd : parseMethodDescriptor y.desc = some ⟨ps, rt⟩) (argsL : List Value) (has : argsL.toArray = as) (hln : argsL.length = ps.length) (W : Nat) (hW : (st.map fun v => v.category).sum ≤ W) (hsize : L.size = ml) (hf : rm.frames + 1 ≤ R.frames) (hl : W + (ml' + 11) + rm.locals ≤ R.locals) (hc : cells + rm.cells ≤ R.cells) (hs : slots + rm.slots ≤ R.slots) (hd : decode bytes pc = .ok (.invokestatic index, 3)) (r : ∀ T' h' v, Q v h' → Cx p l e R s m args below meth c Z bytes ml own ret mname n0 T' h' (cells + rm.cells) (slots + rm.slots) → Run p e below m K T' pc' L (v.toList ++ st)) (q : pc + 3 = pc' := by rfl) {S : List Value} (hS : S = argsL.reverse ++ st := by rfl) : Run p e below m K T pc L S := by
  obtain ⟨⟨locs, X, N⟩, e0, hx, hby, hml, hZ, hown, hret, hnm, hlk, hsz⟩ := X
  subst q has hS
  obtain ⟨v, _, ⟨T', L', k', n'⟩, -, X', ⟨Lc, hQ', l', y', z'⟩, stp⟩ := Jvm.LawKit.callS X hx (y := y) hown (mvT hZ w1) (mvT hZ w2) (mvT hZ wz) (mvT hZ wc) hy (backOf (W := W) (Q := fun v h' L => Q v h' ∧ Fr n0 L ∧ n0 ≤ h'.size) hM hZ wc wz hf hl) (g := mkF m pc L (argsL.reverse ++ st)) rfl (by rw [hml]; exact hsize) (argsL := argsL) (rest := st) (lenOf pd hln) rfl (by show 2 * 0 + _ ≤ _; omega) (hb hby hd) (fun _ _ => ⟨rfl, e0, hc, hs⟩)
  dsimp only [Pt.U, Pt.locs, Pt.cells, Pt.slots] at X' l' y' z' stp hQ'
  subst l' y' z'
  obtain ⟨hQ1, N1, hs1⟩ := hQ'
  exact Run.of stp (r T' _ v hQ1 ⟨⟨_, X', Fr.app N N1⟩, rfl, hx, hby, hml, hZ, hown, hret, hnm, hlk, hs1⟩)
theorem r_special (pc' : Nat) (X : Cx p l e R s m args below meth c Z bytes ml own ret mname n0 T h cells slots) {a0 : Array Value} {y : MethodName} {by' : ByteArray} {ml' : Nat} {ret' : Option FieldType} {rm : Room} {as : Array Value} {Q : Option Value → Heap → Prop} {index : Nat} {a : Addr} (hM : Met1 l Z n0 [] y by' ml' ret' rm as h Q) (hyn : y.name = "<init>") (hr0 : ret' = none) (w1 : (Jvm.Cond.methodLink own index y).before a0 Z = true) (w2 : (Jvm.Cond.instanceMethod y).before a0 Z = true) (wc : (Jvm.Cond.code y by' ml' ret').before a0 Z = true) (wz : (Jvm.Cond.initialized y.cls).before a0 Z = true) (hy : y.cls ≠ "java/lang/invoke/MethodHandle" ∧ y.cls ≠ "java/lang/invoke/VarHandle") {ps : List FieldType} {rt : Option FieldType} (pd : parseMethodDescriptor y.desc = some ⟨ps, rt⟩) (argsL : List Value) (has : (Value.ref a :: argsL).toArray = as) (hln : argsL.length = ps.length) (W : Nat) (hW : (st.map fun v => v.category).sum ≤ W) (hsize : L.size = ml) (hf : rm.frames + 1 ≤ R.frames) (hl : W + (ml' + 11) + rm.locals ≤ R.locals) (hc : cells + rm.cells ≤ R.cells) (hs : slots + rm.slots ≤ R.slots) (hd : decode bytes pc = .ok (.invokespecial index, 3)) (r : ∀ T' h' v, Q v h' → Cx p l e R s m args below meth c Z bytes ml own ret mname n0 T' h' (cells + rm.cells) (slots + rm.slots) → Run p e below m K T' pc' L (v.toList ++ st)) (q : pc + 3 = pc' := by rfl) {S : List Value} (hS : S = argsL.reverse ++ Value.ref a :: st := by rfl) : Run p e below m K T pc L S := by
  obtain ⟨⟨locs, X, N⟩, e0, hx, hby, hml, hZ, hown, hret, hnm, hlk, hsz⟩ := X
  subst q has hS
  subst hr0
  obtain ⟨v, _, ⟨T', L', k', n'⟩, -, X', ⟨Lc, hQ', l', y', z'⟩, stp⟩ := X.specialBack hx (y := y) hyn hown (mvT hZ w1) (mvT hZ w2) (mvT hZ wc) hy (backOf (W := W) (Q := fun v h' L => Q v h' ∧ Fr n0 L ∧ n0 ≤ h'.size) hM hZ wc wz hf hl) (g := mkF m pc L (argsL.reverse ++ .ref a :: st)) rfl (by rw [hml]; exact hsize) (Steps.refl _) (a := a) (argsL := argsL) (rest := st) (lenOf pd hln) rfl (by show 2 * 0 + _ ≤ _; omega) (hb hby hd) (fun _ _ => ⟨rfl, e0, hc, hs⟩)
  dsimp only [Pt.U, Pt.locs, Pt.cells, Pt.slots] at X' l' y' z' stp hQ'
  subst l' y' z'
  obtain ⟨hQ1, N1, hs1⟩ := hQ'
  exact Run.of (fun t k => stp.trans k) (r T' _ v hQ1 ⟨⟨_, X', Fr.app N N1⟩, rfl, hx, hby, hml, hZ, hown, hret, hnm, hlk, hs1⟩)
theorem r_virtual (pc' : Nat) (X : Cx p l e R s m args below meth c Z bytes ml own ret mname n0 T h cells slots) {a0 : Array Value} {y : MethodName} {by' : ByteArray} {ml' : Nat} {ret' : Option FieldType} {rm : Room} {as : Array Value} {Q : Option Value → Heap → Prop} {index : Nat} {a : Addr} {C : String} (hM : Met1 l Z n0 [] y by' ml' ret' rm as h Q) (E : Exa Z h a C) (w1 : (Jvm.Cond.methodLink own index y).before a0 Z = true) (w3 : (Jvm.Cond.declares y).before a0 Z = true) (wf : (Jvm.Cond.selects y.cls y y).before a0 Z = true) (w4 : (Jvm.Cond.selects C y y).before a0 Z = true) (w2 : (Jvm.Cond.instanceMethod y).before a0 Z = true) (wc : (Jvm.Cond.code y by' ml' ret').before a0 Z = true) (wz : (Jvm.Cond.initialized y.cls).before a0 Z = true) (hy : y.cls ≠ "java/lang/invoke/MethodHandle" ∧ y.cls ≠ "java/lang/invoke/VarHandle") {ps : List FieldType} {rt : Option FieldType} (pd : parseMethodDescriptor y.desc = some ⟨ps, rt⟩) (argsL : List Value) (has : (Value.ref a :: argsL).toArray = as) (hln : argsL.length = ps.length) (W : Nat) (hW : (st.map fun v => v.category).sum ≤ W) (hsize : L.size = ml) (hf : rm.frames + 1 ≤ R.frames) (hl : W + (ml' + 11) + rm.locals ≤ R.locals) (hc : cells + rm.cells ≤ R.cells) (hs : slots + rm.slots ≤ R.slots) (hd : decode bytes pc = .ok (.invokevirtual index, 3)) (r : ∀ T' h' v, Q v h' → Cx p l e R s m args below meth c Z bytes ml own ret mname n0 T' h' (cells + rm.cells) (slots + rm.slots) → Run p e below m K T' pc' L (v.toList ++ st)) (q : pc + 3 = pc' := by rfl) {S : List Value} (hS : S = argsL.reverse ++ Value.ref a :: st := by rfl) : Run p e below m K T pc L S := by
  obtain ⟨⟨locs, X, N⟩, e0, hx, hby, hml, hZ, hown, hret, hnm, hlk, hsz⟩ := X
  subst q has hS
  obtain ⟨cq, kq, qa, qb, qc⟩ := isOf hZ e0 E
  obtain ⟨v, _, ⟨T', L', k', n'⟩, -, X', ⟨Lc, hQ', l', y', z'⟩, stp⟩ := X.virtualBack hx (C := C) (y := y) (z := y) hown (mvT hZ w1) (mvT hZ w3) (notFace_of_selects (args := #[]) (mvT hZ wf)) (mvT hZ w4) (mvT hZ w2) hy (backOf (W := W) (Q := fun v h' L => Q v h' ∧ Fr n0 L ∧ n0 ≤ h'.size) hM hZ wc wz hf hl) qa qc (g := mkF m pc L (argsL.reverse ++ .ref a :: st)) rfl (by rw [hml]; exact hsize) (Steps.refl _) (argsL := argsL) (rest := st) (lenOf pd hln) rfl (by show 2 * 0 + _ ≤ _; omega) (hb hby hd) (fun _ _ => ⟨rfl, e0, hc, hs⟩)
  dsimp only [Pt.U, Pt.locs, Pt.cells, Pt.slots] at X' l' y' z' stp hQ'
  subst l' y' z'
  obtain ⟨hQ1, N1, hs1⟩ := hQ'
  exact Run.of (fun t k => stp.trans k) (r T' _ v hQ1 ⟨⟨_, X', Fr.app N N1⟩, rfl, hx, hby, hml, hZ, hown, hret, hnm, hlk, hs1⟩)
theorem r_private (pc' : Nat) (X : Cx p l e R s m args below meth c Z bytes ml own ret mname n0 T h cells slots) {a0 : Array Value} {y : MethodName} {by' : ByteArray} {ml' : Nat} {ret' : Option FieldType} {rm : Room} {as : Array Value} {Q : Option Value → Heap → Prop} {index : Nat} {a : Addr} {C : String} (hM : Met1 l Z n0 [] y by' ml' ret' rm as h Q) (E : Exa Z h a C) (w1 : (Jvm.Cond.methodLink own index y).before a0 Z = true) (w2 : (Jvm.Cond.instanceMethod y).before a0 Z = true) {kk : Nat} (wi : (Jvm.Cond.instantiable y.cls kk).before a0 Z = true) (w4 : (Jvm.Cond.privateMethod y).before a0 Z = true) (wc : (Jvm.Cond.code y by' ml' ret').before a0 Z = true) (wz : (Jvm.Cond.initialized y.cls).before a0 Z = true) (hy : y.cls ≠ "java/lang/invoke/MethodHandle" ∧ y.cls ≠ "java/lang/invoke/VarHandle") {ps : List FieldType} {rt : Option FieldType} (pd : parseMethodDescriptor y.desc = some ⟨ps, rt⟩) (argsL : List Value) (has : (Value.ref a :: argsL).toArray = as) (hln : argsL.length = ps.length) (W : Nat) (hW : (st.map fun v => v.category).sum ≤ W) (hsize : L.size = ml) (hf : rm.frames + 1 ≤ R.frames) (hl : W + (ml' + 11) + rm.locals ≤ R.locals) (hc : cells + rm.cells ≤ R.cells) (hs : slots + rm.slots ≤ R.slots) (hd : decode bytes pc = .ok (.invokevirtual index, 3)) (r : ∀ T' h' v, Q v h' → Cx p l e R s m args below meth c Z bytes ml own ret mname n0 T' h' (cells + rm.cells) (slots + rm.slots) → Run p e below m K T' pc' L (v.toList ++ st)) (q : pc + 3 = pc' := by rfl) {S : List Value} (hS : S = argsL.reverse ++ Value.ref a :: st := by rfl) : Run p e below m K T pc L S := by
  obtain ⟨⟨locs, X, N⟩, e0, hx, hby, hml, hZ, hown, hret, hnm, hlk, hsz⟩ := X
  subst q has hS
  obtain ⟨cq, qq, qq'⟩ := E.cell
  obtain ⟨ci, ki, hi1, hi2, -, hi3, -⟩ := Cond.instantiable_spec (mvT hZ wi (args := #[]) : (Jvm.Cond.instantiable y.cls kk).before #[] s = true)
  have hpv := Cond.privateMethod_at (mvP hZ w4 (args := #[]))
  obtain ⟨v, _, ⟨T', L', k', n'⟩, -, X', ⟨Lc, hQ', l', y', z'⟩, stp⟩ := X.privateBack hx (y := y) hown (mvT hZ w1) (mvT hZ w2) (selects_self_of_private hi1 hi2 (Bool.or_eq_false_iff.mp hi3).1 hpv (mvT hZ w2) hy) hpv (mvT hZ wc) hy (backOf (W := W) (Q := fun v h' L => Q v h' ∧ Fr n0 L ∧ n0 ≤ h'.size) hM hZ wc wz hf hl) (g := mkF m pc L (argsL.reverse ++ .ref a :: st)) rfl (by rw [hml]; exact hsize) (Steps.refl _) (a := a) (by rw [e0]; exact qq) qq' (argsL := argsL) (rest := st) (lenOf pd hln) rfl (by show 2 * 0 + _ ≤ _; omega) (hb hby hd) (fun _ _ => ⟨rfl, e0, hc, hs⟩)
  dsimp only [Pt.U, Pt.locs, Pt.cells, Pt.slots] at X' l' y' z' stp hQ'
  subst l' y' z'
  obtain ⟨hQ1, N1, hs1⟩ := hQ'
  exact Run.of (fun t k => stp.trans k) (r T' _ v hQ1 ⟨⟨_, X', Fr.app N N1⟩, rfl, hx, hby, hml, hZ, hown, hret, hnm, hlk, hs1⟩)
theorem r_newarrayE (pc' : Nat) (X : Cx p l e R s m args below meth c Z bytes ml own ret mname n0 T h cells slots) {a0 : Array Value} {aty : ArrayType} {z : Int32} (n cap : Nat) (ad : String) (had : "[" ++ (newarray.typeOf aty).toString = ad) (w : (Jvm.Cond.arrayClass (newarray.typeOf aty)).before a0 Z = true) (hd : decode bytes pc = .ok (.newarray aty, 2)) (hz : z.toInt = (n : Int)) (hcap : n ≤ cap) (hb8 : cap * 8 ≤ 536870912) (hc : cells + 1 ≤ R.cells) (hl : slots + cap ≤ R.slots) (r : ∀ T' h' b, b = h.size → n0 ≤ b → Ext h h' → Exa Z h' b ad → AF Z h' b (newarray.typeOf aty) n (fun _ => defaultValue (newarray.typeOf aty)) → Cx p l e R s m args below meth c Z bytes ml own ret mname n0 T' h' (cells + 1) (slots + cap) → Run p e below m K T' pc' L (.ref b :: st)) (q : pc + 2 = pc' := by rfl) : Run p e below m K T pc L (.int z :: st) := by
  obtain ⟨⟨locs, X, N⟩, e0, hx, hby, hml, hZ, hown, hret, hnm, hlk, hsz⟩ := X
  subst q
  have hz0 : ¬ z < 0 := by rw [Int32.lt_iff_toInt_lt]; have : (0 : Int32).toInt = 0 := rfl; omega
  have hzn : z.toNatClampNeg = n := by show z.toInt.toNat = n; omega
  have hzl := z.toInt_lt
  obtain ⟨T', h', cA, X', e', E', A', Ex', stp⟩ := newPE X hx hZ w e0 (g := mkF m pc L (.int z :: st)) rfl (hb hby hd) rfl hz0 (cap := cap) (by rw [hzn]; exact hcap) hb8 hc hl had
  refine Run.of stp (r T' h' h.size rfl hsz E' Ex' ⟨_, A', by rw [sz_new, hzn], by omega, fun j hj => ?_⟩ ⟨⟨_, X', N⟩, e', hx, hby, hml, hZ, hown, hret, hnm, hlk, Nat.le_trans hsz E'.1⟩)
  simp [newA, hzn, hj]
theorem r_clone (pc' : Nat) (X : Cx p l e R s m args below meth c Z bytes ml own ret mname n0 T h cells slots) {a0 : Array Value} {ad : String} {index : Nat} (w1 : (Jvm.Cond.methodLink own index ⟨ad, "clone", "()Ljava/lang/Object;"⟩).before a0 Z = true) (w2 : (Jvm.Cond.sameMethod ad "java/lang/Object" "clone" "()Ljava/lang/Object;").before a0 Z = true) (w3 : (Jvm.Cond.native ⟨"java/lang/Object", "clone", "()Ljava/lang/Object;"⟩).before a0 Z = true) (w4 : (Jvm.Cond.instanceMethod ⟨"java/lang/Object", "clone", "()Ljava/lang/Object;"⟩).before a0 Z = true) (w5 : (Jvm.Cond.selects ad ⟨ad, "clone", "()Ljava/lang/Object;"⟩ ⟨"java/lang/Object", "clone", "()Ljava/lang/Object;"⟩).before a0 Z = true) (w6 : (Jvm.Cond.castable ad "java/lang/Cloneable").before a0 Z = true) {a : Addr} {ty : FieldType} {n : Nat} {f : Nat → Value} (A : AF Z h a ty n f) (E : Exa Z h a ad) (hfit : ∀ j, j < n → fits ty (f j) = true) (cap : Nat) (hcap : n ≤ cap) (W : Nat) (hW : (st.map fun v => v.category).sum ≤ W) (hsize : L.size = ml) (hf : 1 ≤ R.frames) (hl : W + 14 ≤ R.locals) (hc : cells + 1 ≤ R.cells) (hs : slots + cap ≤ R.slots) (hd : decode bytes pc = .ok (.invokevirtual index, 3)) (r : ∀ T' h' b, b = h.size → n0 ≤ b → Ext h h' → Exa Z h' b ad → AF Z h' b ty n f → Cx p l e R s m args below meth c Z bytes ml own ret mname n0 T' h' (cells + 1) (slots + cap) → Run p e below m K T' pc' L (.ref b :: st)) (q : pc + 3 = pc' := by rfl) : Run p e below m K T pc L (.ref a :: st) := by
  obtain ⟨⟨locs, X, N⟩, e0, hx, hby, hml, hZ, hown, hret, hnm, hlk, hsz⟩ := X
  subst q
  obtain ⟨cl, A, S, q, H⟩ := A
  have FC : FitC Z cl := fitC_of A fun i hi v hv => by rw [S] at hi; rw [H i hi] at hv; cases hv; exact hfit i hi
  obtain ⟨T', h', X', e', E', A', Ex', stp⟩ := cloneA X hx hZ hown w1 w2 w3 w4 w5 w6 e0 A E FC (g := mkF m pc L (.ref a :: st)) rfl (by rw [hml]; exact hsize) rfl (hb hby hd) hf (W := W) (cap := cap) (by show 2 * 0 + _ ≤ _; omega) hl (by rw [S]; exact hcap) hc hs
  exact Run.of stp (r T' h' h.size rfl hsz E' Ex' ⟨_, A', S, q, H⟩ ⟨⟨_, X', N⟩, e', hx, hby, hml, hZ, hown, hret, hnm, hlk, Nat.le_trans hsz E'.1⟩)
theorem r_castY (pc' : Nat) (X : Cx p l e R s m args below meth c Z bytes ml own ret mname n0 T h cells slots) {a0 : Array Value} {K0 : String} {index : Nat} (w : (Jvm.Cond.classLink own index K0).before a0 Z = true) {a : Addr} (F : Ins Z h a K0 true) (hd : decode bytes pc = .ok (.checkcast index, 3)) (r : ∀ T', Cx p l e R s m args below meth c Z bytes ml own ret mname n0 T' h cells slots → Run p e below m K T' pc' L (.ref a :: st)) (q : pc + 3 = pc' := by rfl) : Run p e below m K T pc L (.ref a :: st) := by
  obtain ⟨⟨locs, X, N⟩, e0, hx, hby, hml, hZ, hown, r1⟩ := X
  subst q
  obtain ⟨T', X', e', stp⟩ := castY X hx hZ hown w e0 F (g := mkF m pc L (.ref a :: st)) rfl rfl (hb hby hd)
  exact Run.of stp (r T' ⟨⟨locs, X', N⟩, e', hx, hby, hml, hZ, hown, r1⟩)
theorem r_instY (pc' : Nat) (X : Cx p l e R s m args below meth c Z bytes ml own ret mname n0 T h cells slots) {a0 : Array Value} {K0 : String} {index : Nat} (w : (Jvm.Cond.classLink own index K0).before a0 Z = true) {a : Addr} (F : Ins Z h a K0 true) (hd : decode bytes pc = .ok (.instanceof index, 3)) (r : ∀ T', Cx p l e R s m args below meth c Z bytes ml own ret mname n0 T' h cells slots → Run p e below m K T' pc' L (.int 1 :: st)) (q : pc + 3 = pc' := by rfl) : Run p e below m K T pc L (.ref a :: st) := by
  obtain ⟨⟨locs, X, N⟩, e0, hx, hby, hml, hZ, hown, r1⟩ := X
  subst q
  obtain ⟨T', X', e', stp⟩ := instY X hx hZ hown w e0 F (g := mkF m pc L (.ref a :: st)) rfl rfl (hb hby hd)
  exact Run.of stp (r T' ⟨⟨locs, X', N⟩, e', hx, hby, hml, hZ, hown, r1⟩)
theorem r_instN (pc' : Nat) (X : Cx p l e R s m args below meth c Z bytes ml own ret mname n0 T h cells slots) {a0 : Array Value} {K0 C : String} {index : Nat} (w : (Jvm.Cond.classLink own index K0).before a0 Z = true) {a : Addr} (F : Ins Z s.heap a K0 false) (E : Exa Z s.heap a C) (hd : decode bytes pc = .ok (.instanceof index, 3)) (r : ∀ T', Cx p l e R s m args below meth c Z bytes ml own ret mname n0 T' h cells slots → Run p e below m K T' pc' L (.int 0 :: st)) (q : pc + 3 = pc' := by rfl) : Run p e below m K T pc L (.ref a :: st) := by
  obtain ⟨⟨locs, X, N⟩, e0, hx, hby, hml, hZ, hown, r1⟩ := X
  subst q
  obtain ⟨T', X', e', stp⟩ := instN X hx hZ hown w e0 F E (g := mkF m pc L (.ref a :: st)) rfl rfl (hb hby hd)
  exact Run.of stp (r T' ⟨⟨locs, X', N⟩, e', hx, hby, hml, hZ, hown, r1⟩)
theorem r_instNo (pc' : Nat) (X : Cx p l e R s m args below meth c Z bytes ml own ret mname n0 T h cells slots) {a0 : Array Value} {K0 C : String} {index : Nat} (w : (Jvm.Cond.classLink own index K0).before a0 Z = true) {a : Addr} (E : Exa Z h a C) (F : ∃ c t, Z.vm.findClass C = some c ∧ Z.vm.findClass K0 = some t ∧ Z.vm.assignable c t = false) (hd : decode bytes pc = .ok (.instanceof index, 3)) (r : ∀ T', Cx p l e R s m args below meth c Z bytes ml own ret mname n0 T' h cells slots → Run p e below m K T' pc' L (.int 0 :: st)) (q : pc + 3 = pc' := by rfl) : Run p e below m K T pc L (.ref a :: st) := by
  obtain ⟨⟨locs, X, N⟩, e0, hx, hby, hml, hZ, hown, r1⟩ := X
  subst q
  obtain ⟨T', X', e', stp⟩ := instNo X hx hZ hown w e0 E F (g := mkF m pc L (.ref a :: st)) rfl rfl (hb hby hd)
  exact Run.of stp (r T' ⟨⟨locs, X', N⟩, e', hx, hby, hml, hZ, hown, r1⟩)
theorem r_aaloadC (pc' : Nat) (X : Cx p l e R s m args below meth c Z bytes ml own ret mname n0 T h cells slots) {a : Addr} {cl : Cell} {ty : FieldType} (A : Arr Z h a cl ty) (hty : ty.isReference = true) {j : Int32} {v : Value} (hin : ¬ (j < 0 ∨ cl.slots.size ≤ j.toNatClampNeg)) (hv : cl.slots[j.toNatClampNeg]? = some v) (hd : decode bytes pc = .ok (.aaload, 1)) (r : Run p e below m K T pc' L (v :: st)) (q : pc + 1 = pc' := by rfl) : Run p e below m K T pc L (.int j :: .ref a :: st) := by
  obtain ⟨⟨locs, X, N⟩, e0, hx, hby, hml, hZ, hown, r1⟩ := X
  subst q hby
  exact Run.of (fun t k => X.aaload hx (j := j) (v := v) (by rw [e0]; exact A.1) (State.isArrayOf_alike hZ.alike A.2.1) hty A.2.2 hin hv (g := mkF m pc L (.int j :: .ref a :: st)) rfl rfl hd _ k) r
theorem r_aaload (pc' : Nat) (X : Cx p l e R s m args below meth c Z bytes ml own ret mname n0 T h cells slots) {a : Addr} {ty : FieldType} {n : Nat} {f : Nat → Value} (A : AF Z h a ty n f) (hty : ty.isReference = true) {j : Int32} {i : Nat} {v : Value} (hj : j.toInt = (i : Int)) (hi : i < n) (hv : f i = v) (hd : decode bytes pc = .ok (.aaload, 1)) (r : Run p e below m K T pc' L (v :: st)) (q : pc + 1 = pc' := by rfl) : Run p e below m K T pc L (.int j :: .ref a :: st) := by
  obtain ⟨cl, A, S, -, H⟩ := A
  obtain ⟨h1, h2⟩ := idx_of hj (S ▸ hi)
  exact r_aaloadC pc' X A hty h1 (by rw [h2, H i hi, hv]) hd r q
theorem keepExt {h0 h1 : Heap} (K : Keep h0 h1 []) : Ext h0 h1 := ⟨K.1, fun a c q => K.2.1 a c q nin0⟩
theorem r_instNull (pc' : Nat) (X : Cx p l e R s m args below meth c Z bytes ml own ret mname n0 T h cells slots) {index : Nat} (hd : decode bytes pc = .ok (.instanceof index, 3)) (r : Run p e below m K T pc' L (.int 0 :: st)) (q : pc + 3 = pc' := by rfl) : Run p e below m K T pc L (.null :: st) := by
  obtain ⟨⟨locs, X, -⟩, -, hx, hby, -⟩ := X
  subst q hby
  exact Run.of (fun t k => X.instanceofNull hx (g := mkF m pc L (.null :: st)) rfl rfl hd _ k) r
def b2i (P : Prop) [Decidable P] : Int32 := if P then 1 else 0
theorem b2i_t {P : Prop} [Decidable P] (h : P) : b2i P = 1 := if_pos h
theorem b2i_f {P : Prop} [Decidable P] (h : ¬ P) : b2i P = 0 := if_neg h
theorem b2i_eq0 {P : Prop} [Decidable P] (h : ¬ P) : b2i P = 0 := if_neg h
theorem b2i_ne0 {P : Prop} [Decidable P] (h : P) : ¬ b2i P = 0 := by rw [b2i_t h]; decide
theorem b2i_01 {P : Prop} [Decidable P] : b2i P = 0 ∨ b2i P = 1 := by by_cases h : P; exact Or.inr (b2i_t h); exact Or.inl (b2i_f h)
theorem b2i_nar {P : Prop} [Decidable P] : nar .boolean (b2i P) = b2i P := by by_cases h : P; (rw [b2i_t h]; rfl); (rw [b2i_f h]; rfl)
theorem b2i_congr {P Q : Prop} [Decidable P] [Decidable Q] (h : P ↔ Q) : b2i P = b2i Q := by by_cases q : P; (rw [b2i_t q, b2i_t (h.mp q)]); (rw [b2i_f q, b2i_f (fun z => q (h.mpr z))])
theorem ltI {x y : Int32} {a b : Int} (hx : x.toInt = a) (hy : y.toInt = b) : x < y ↔ a < b := by rw [Int32.lt_iff_toInt_lt, hx, hy]
theorem eqI {x y : Int32} {a b : Int} (hx : x.toInt = a) (hy : y.toInt = b) : x = y ↔ a = b := by rw [← Int32.toInt_inj, hx, hy]
theorem ltJ {x y : Int64} {a b : Int} (hx : x.toInt = a) (hy : y.toInt = b) : x < y ↔ a < b := by rw [Int64.lt_iff_toInt_lt, hx, hy]
theorem eqJ {x y : Int64} {a b : Int} (hx : x.toInt = a) (hy : y.toInt = b) : x = y ↔ a = b := by rw [← Int64.toInt_inj, hx, hy]
theorem addI {x y : Int32} {a b : Int} (hx : x.toInt = a) (hy : y.toInt = b) (h1 : -2147483648 ≤ a + b) (h2 : a + b < 2147483648) : (x + y).toInt = a + b := by have h := c_iadd x y; have r := rng32 (x + y); rw [hx, hy] at h; omega
theorem subI {x y : Int32} {a b : Int} (hx : x.toInt = a) (hy : y.toInt = b) (h1 : -2147483648 ≤ a - b) (h2 : a - b < 2147483648) : (x - y).toInt = a - b := by have h := c_isub x y; have r := rng32 (x - y); rw [hx, hy] at h; omega
theorem addJ {x y : Int64} {a b : Int} (hx : x.toInt = a) (hy : y.toInt = b) (h1 : -9223372036854775808 ≤ a + b) (h2 : a + b < 9223372036854775808) : (x + y).toInt = a + b := by have h := c_ladd x y; have r := rng64 (x + y); rw [hx, hy] at h; omega
theorem subJ {x y : Int64} {a b : Int} (hx : x.toInt = a) (hy : y.toInt = b) (h1 : -9223372036854775808 ≤ a - b) (h2 : a - b < 9223372036854775808) : (x - y).toInt = a - b := by have h := c_lsub x y; have r := rng64 (x - y); rw [hx, hy] at h; omega
theorem natI (n : Nat) (h : n < 2147483648) : (Int32.ofNat n).toInt = n := Int32.toInt_ofNat_small h
def updI (g : Nat → Int32) (i : Nat) (x : Int32) : Nat → Int32 := fun j => if j = i then x else g j
theorem updI_hit {g : Nat → Int32} {i : Nat} {x : Int32} : updI g i x i = x := if_pos rfl
theorem updI_miss {g : Nat → Int32} {i j : Nat} {x : Int32} (q : j ≠ i) : updI g i x j = g j := if_neg q
theorem AF.setI {a : Addr} {ty : FieldType} {n i : Nat} {x : Int32} {g : Nat → Int32} {h' : Heap} (A : AF Z h a ty n (fun j => .int (g j))) (W : Wr h h' a i (.int x)) : AF Z h' a ty n (fun j => .int (updI g i x j)) := (A.set W).congr fun j _ => by by_cases q : j = i <;> simp [upd, updI, q]
def updD (g : Nat → UInt64) (i : Nat) (x : UInt64) : Nat → UInt64 := fun j => if j = i then x else g j
theorem AF.setD {a : Addr} {ty : FieldType} {n i : Nat} {x : UInt64} {g : Nat → UInt64} {h' : Heap} (A : AF Z h a ty n (fun j => .double (g j))) (W : Wr h h' a i (.double x)) : AF Z h' a ty n (fun j => .double (updD g i x j)) := (A.set W).congr fun j _ => by by_cases q : j = i <;> simp [upd, updD, q]
def updJ (g : Nat → Int64) (i : Nat) (x : Int64) : Nat → Int64 := fun j => if j = i then x else g j
theorem updJ_hit {g : Nat → Int64} {i : Nat} {x : Int64} : updJ g i x i = x := if_pos rfl
theorem updJ_miss {g : Nat → Int64} {i j : Nat} {x : Int64} (q : j ≠ i) : updJ g i x j = g j := if_neg q
theorem AF.setJ {a : Addr} {ty : FieldType} {n i : Nat} {x : Int64} {g : Nat → Int64} {h' : Heap} (A : AF Z h a ty n (fun j => .long (g j))) (W : Wr h h' a i (.long x)) : AF Z h' a ty n (fun j => .long (updJ g i x j)) := (A.set W).congr fun j _ => by by_cases q : j = i <;> simp [upd, updJ, q]
end Own
theorem pd_0 : parseMethodDescriptor "(ILcom/example/heliotrope/heliotrope/lra/Precision;)V" = some ⟨[.int, (.object "com/example/heliotrope/heliotrope/lra/Precision")], none⟩ := by decide +kernel
theorem pd_1 : parseMethodDescriptor "()[D" = some ⟨[], some (.array .double)⟩ := by decide +kernel
theorem pd_2 : parseMethodDescriptor "(Lcom/example/heliotrope/heliotrope/lra/StateValues;I)V" = some ⟨[(.object "com/example/heliotrope/heliotrope/lra/StateValues"), .int], none⟩ := by decide +kernel
theorem own_fin1 : Jvm.Free.Fl.Fin64 FP.dconst1 := by unfold Jvm.Free.Fl.Fin64; decide
theorem own_fin2 : Jvm.Free.Fl.Fin64 (4602678819172646912 : UInt64) := by unfold Jvm.Free.Fl.Fin64; decide
theorem own_st (x : Int32) : (x &&& 2147483647) % 3 = 0 ∨ (x &&& 2147483647) % 3 = 1 ∨ (x &&& 2147483647) % 3 = 2 := by
  have h1 := c_mask x 2147483647 31 (by decide) (by decide)
  have h2 := (c_irem (x &&& 2147483647) 3 3 (by decide)).1 (by omega)
  have h3 : ((x &&& 2147483647) % 3).toInt = 0 ∨ ((x &&& 2147483647) % 3).toInt = 1 ∨ ((x &&& 2147483647) % 3).toInt = 2 := by omega
  rcases h3 with h | h | h
  · exact Or.inl (Int32.toInt_inj.mp h)
  · exact Or.inr (Or.inl (Int32.toInt_inj.mp h))
  · exact Or.inr (Or.inr (Int32.toInt_inj.mp h))
theorem d1_0 : decode prog_74_method_1_code 0 = .ok (.aload_n 0, 1) := by decide +kernel
theorem d1_1 : decode prog_74_method_1_code 1 = .ok (.invokespecial 1, 3) := by decide +kernel
theorem d1_4 : decode prog_74_method_1_code 4 = .ok (.aload_n 0, 1) := by decide +kernel
theorem d1_5 : decode prog_74_method_1_code 5 = .ok (.aload_n 2, 1) := by decide +kernel
theorem d1_6 : decode prog_74_method_1_code 6 = .ok (.putfield 7, 3) := by decide +kernel
theorem d1_9 : decode prog_74_method_1_code 9 = .ok (.aload_n 0, 1) := by decide +kernel
theorem d1_10 : decode prog_74_method_1_code 10 = .ok (.iload_n 1, 1) := by decide +kernel
theorem d1_11 : decode prog_74_method_1_code 11 = .ok (.newarray .double, 2) := by decide +kernel
theorem d1_13 : decode prog_74_method_1_code 13 = .ok (.putfield 13, 3) := by decide +kernel
theorem d1_16 : decode prog_74_method_1_code 16 = .ok (.aload_n 0, 1) := by decide +kernel
theorem d1_17 : decode prog_74_method_1_code 17 = .ok (.iload_n 1, 1) := by decide +kernel
theorem d1_18 : decode prog_74_method_1_code 18 = .ok (.newarray .double, 2) := by decide +kernel
theorem d1_20 : decode prog_74_method_1_code 20 = .ok (.putfield 17, 3) := by decide +kernel
theorem d1_23 : decode prog_74_method_1_code 23 = .ok (.aload_n 0, 1) := by decide +kernel
theorem d1_24 : decode prog_74_method_1_code 24 = .ok (.iload_n 1, 1) := by decide +kernel
theorem d1_25 : decode prog_74_method_1_code 25 = .ok (.newarray .double, 2) := by decide +kernel
theorem d1_27 : decode prog_74_method_1_code 27 = .ok (.putfield 20, 3) := by decide +kernel
theorem d1_30 : decode prog_74_method_1_code 30 = .ok (.return_, 1) := by decide +kernel
theorem pn_1 : plainName "com/example/heliotrope/heliotrope/lra/StateValues" = true := by first | (simp [plainName, overriddenIn]; done) | decide +kernel
theorem ef_1 (m : MethodId) (x0 : Addr) (x1 : Int32) (x2 : Addr) : entryFrame m #[(.ref x0), (.int x1), (.ref x2)] 3 = mkF m 0 #[.val (.ref x0), .val (.int x1), .val (.ref x2)] [] := by first | (simp [entryFrame, mkF, argsToLocals, Value.category]; done) | rfl
set_option maxRecDepth 65536 in
set_option maxHeartbeats 40000000 in
theorem rmIni (l : Launch) (Z : State) (a0 : Array Value) (hw : ∀ d ∈ tables_1, d.before a0 Z = true) (n0 : Nat) (h : Heap) (Z0 : n0 ≤ h.size) (a1 : Addr) (a2 : Addr) (E_a1 : Exa Z h a1 "com/example/heliotrope/heliotrope/lra/StateValues") (F_a1_precision : Fld Z h a1 "com/example/heliotrope/heliotrope/lra/StateValues" "precision" "Lcom/example/heliotrope/heliotrope/lra/Precision;" .null) (F_a1_values : Fld Z h a1 "com/example/heliotrope/heliotrope/lra/StateValues" "values" "[D" .null) (F_a1_lows : Fld Z h a1 "com/example/heliotrope/heliotrope/lra/StateValues" "lows" "[D" .null) (F_a1_errors : Fld Z h a1 "com/example/heliotrope/heliotrope/lra/StateValues" "errors" "[D" .null) (ga : n0 ≤ a1) :
    Met1 l Z n0 [] (⟨"com/example/heliotrope/heliotrope/lra/StateValues", "<init>", "(ILcom/example/heliotrope/heliotrope/lra/Precision;)V"⟩ : MethodName) prog_74_method_1_code 3 none ({ frames := 1, cells := 3, slots := 9, locals := 12 } : Room) #[(.ref a1), (.int (3 : Int32)), (.ref a2)] h (fun v h' => v = none ∧ Keep h h' [a1] ∧ ∃ va lo er, Fld Z h' a1 "com/example/heliotrope/heliotrope/lra/StateValues" "values" "[D" (.ref va) ∧ Fld Z h' a1 "com/example/heliotrope/heliotrope/lra/StateValues" "lows" "[D" (.ref lo) ∧ Fld Z h' a1 "com/example/heliotrope/heliotrope/lra/StateValues" "errors" "[D" (.ref er) ∧ AF Z h' va .double 3 (fun j => .double ((fun _ => (0 : UInt64)) j)) ∧ AF Z h' lo .double 3 (fun j => .double ((fun _ => (0 : UInt64)) j)) ∧ AF Z h' er .double 3 (fun j => .double ((fun _ => (0 : UInt64)) j)) ∧ h.size ≤ va ∧ h.size ≤ lo ∧ h.size ≤ er ∧ n0 ≤ va ∧ n0 ≤ lo ∧ n0 ≤ er ∧ va ≠ lo ∧ va ≠ er ∧ lo ≠ er) := by
  refine met_of (plainFor_of_name pn_1) Z0 (fun m => ef_1 m a1 (3 : Int32) a2) ?_
  intro p e s m below meth c T hs0 X
  have K := Keep.refl h [a1]
  refine r_aloadN 1 X d1_0 rfl rfl ?_
  refine r_initO 4 X (hw _ (List.mem_of_getElem? (i := 10) rfl)) (hw _ (List.mem_of_getElem? (i := 11) rfl)) (hw _ (List.mem_of_getElem? (i := 12) rfl)) d1_1 rfl (by decide) 0 (Nat.le_of_eq rfl) (by decide) ?_
  intro T X
  refine r_aloadN 5 X d1_4 rfl rfl ?_
  refine r_aloadN 6 X d1_5 rfl rfl ?_
  refine r_putfield 9 X (host := "") (Or.inl (hw _ (List.mem_of_getElem? (i := 13) rfl))) Via.refl F_a1_precision E_a1 (Or.inr ⟨(hw _ (List.mem_of_getElem? (i := 14) rfl)), rfl, rfl⟩) (hw _ (List.mem_of_getElem? (i := 5) rfl)) (ty := (.object "com/example/heliotrope/heliotrope/lra/Precision")) (by decide) rfl rfl ga d1_6 ?_
  intro T h1 W1 X
  have K := K.wr W1 (Or.inl (List.mem_of_getElem? (i := 0) rfl))
  have E_a1 := E_a1.wr W1
  have F_a1_precision := F_a1_precision.same W1
  have F_a1_values := F_a1_values.other W1 (Or.inr (slot_ne (Or.inr (hw _ (List.mem_of_getElem? (i := 17) rfl))) (Or.inr (hw _ (List.mem_of_getElem? (i := 14) rfl))) (by decide) (t := (.array .double)) (t' := (.object "com/example/heliotrope/heliotrope/lra/Precision")) (by decide) (by decide)))
  have F_a1_lows := F_a1_lows.other W1 (Or.inr (slot_ne (Or.inr (hw _ (List.mem_of_getElem? (i := 19) rfl))) (Or.inr (hw _ (List.mem_of_getElem? (i := 14) rfl))) (by decide) (t := (.array .double)) (t' := (.object "com/example/heliotrope/heliotrope/lra/Precision")) (by decide) (by decide)))
  have F_a1_errors := F_a1_errors.other W1 (Or.inr (slot_ne (Or.inr (hw _ (List.mem_of_getElem? (i := 21) rfl))) (Or.inr (hw _ (List.mem_of_getElem? (i := 14) rfl))) (by decide) (t := (.array .double)) (t' := (.object "com/example/heliotrope/heliotrope/lra/Precision")) (by decide) (by decide)))
  refine r_aloadN 10 X d1_9 rfl rfl ?_
  refine r_iloadN 11 X d1_10 rfl ?_
  refine r_newarray 13 X 3 3 (hw _ (List.mem_of_getElem? (i := 15) rfl)) d1_11 (by decide) (by decide) (by decide) (by decide) (by decide) ?_
  intro T h2 b2 g2 gn_b2 E2 A_b2 X
  have sz_b2 : h.size ≤ b2 := Nat.le_trans K.1 (Nat.le_of_eq g2.symm)
  have ne_a1_b2 : a1 ≠ b2 := Nat.ne_of_lt (Nat.lt_of_lt_of_eq E_a1.lt g2.symm)
  have K := K.ext E2
  have E_a1 := E_a1.ext E2
  have F_a1_precision := F_a1_precision.ext E2
  have F_a1_values := F_a1_values.ext E2
  have F_a1_lows := F_a1_lows.ext E2
  have F_a1_errors := F_a1_errors.ext E2
  replace A_b2 : AF Z h2 b2 .double 3 (fun j => .double ((fun _ => (0 : UInt64)) j)) := A_b2
  refine r_putfield 16 X (host := "") (Or.inl (hw _ (List.mem_of_getElem? (i := 16) rfl))) Via.refl F_a1_values E_a1 (Or.inr ⟨(hw _ (List.mem_of_getElem? (i := 17) rfl)), rfl, rfl⟩) (hw _ (List.mem_of_getElem? (i := 5) rfl)) (ty := (.array .double)) (by decide) rfl rfl ga d1_13 ?_
  intro T h3 W3 X
  have K := K.wr W3 (Or.inl (List.mem_of_getElem? (i := 0) rfl))
  have E_a1 := E_a1.wr W3
  have F_a1_precision := F_a1_precision.other W3 (Or.inr (slot_ne (Or.inr (hw _ (List.mem_of_getElem? (i := 14) rfl))) (Or.inr (hw _ (List.mem_of_getElem? (i := 17) rfl))) (by decide) (t := (.object "com/example/heliotrope/heliotrope/lra/Precision")) (t' := (.array .double)) (by decide) (by decide)))
  have F_a1_values := F_a1_values.same W3
  have F_a1_lows := F_a1_lows.other W3 (Or.inr (slot_ne (Or.inr (hw _ (List.mem_of_getElem? (i := 19) rfl))) (Or.inr (hw _ (List.mem_of_getElem? (i := 17) rfl))) (by decide) (t := (.array .double)) (t' := (.array .double)) (by decide) (by decide)))
  have F_a1_errors := F_a1_errors.other W3 (Or.inr (slot_ne (Or.inr (hw _ (List.mem_of_getElem? (i := 21) rfl))) (Or.inr (hw _ (List.mem_of_getElem? (i := 17) rfl))) (by decide) (t := (.array .double)) (t' := (.array .double)) (by decide) (by decide)))
  have A_b2 := A_b2.other W3 (Ne.symm ne_a1_b2)
  refine r_aloadN 17 X d1_16 rfl rfl ?_
  refine r_iloadN 18 X d1_17 rfl ?_
  refine r_newarray 20 X 3 3 (hw _ (List.mem_of_getElem? (i := 15) rfl)) d1_18 (by decide) (by decide) (by decide) (by decide) (by decide) ?_
  intro T h4 b4 g4 gn_b4 E4 A_b4 X
  have sz_b4 : h.size ≤ b4 := Nat.le_trans K.1 (Nat.le_of_eq g4.symm)
  have ne_a1_b4 : a1 ≠ b4 := Nat.ne_of_lt (Nat.lt_of_lt_of_eq E_a1.lt g4.symm)
  have ne_b2_b4 : b2 ≠ b4 := Nat.ne_of_lt (Nat.lt_of_lt_of_eq A_b2.lt g4.symm)
  have K := K.ext E4
  have E_a1 := E_a1.ext E4
  have F_a1_precision := F_a1_precision.ext E4
  have F_a1_values := F_a1_values.ext E4
  have F_a1_lows := F_a1_lows.ext E4
  have F_a1_errors := F_a1_errors.ext E4
  have A_b2 := A_b2.ext E4
  replace A_b4 : AF Z h4 b4 .double 3 (fun j => .double ((fun _ => (0 : UInt64)) j)) := A_b4
  refine r_putfield 23 X (host := "") (Or.inl (hw _ (List.mem_of_getElem? (i := 18) rfl))) Via.refl F_a1_lows E_a1 (Or.inr ⟨(hw _ (List.mem_of_getElem? (i := 19) rfl)), rfl, rfl⟩) (hw _ (List.mem_of_getElem? (i := 5) rfl)) (ty := (.array .double)) (by decide) rfl rfl ga d1_20 ?_
  intro T h5 W5 X
  have K := K.wr W5 (Or.inl (List.mem_of_getElem? (i := 0) rfl))
  have E_a1 := E_a1.wr W5
  have F_a1_precision := F_a1_precision.other W5 (Or.inr (slot_ne (Or.inr (hw _ (List.mem_of_getElem? (i := 14) rfl))) (Or.inr (hw _ (List.mem_of_getElem? (i := 19) rfl))) (by decide) (t := (.object "com/example/heliotrope/heliotrope/lra/Precision")) (t' := (.array .double)) (by decide) (by decide)))
  have F_a1_values := F_a1_values.other W5 (Or.inr (slot_ne (Or.inr (hw _ (List.mem_of_getElem? (i := 17) rfl))) (Or.inr (hw _ (List.mem_of_getElem? (i := 19) rfl))) (by decide) (t := (.array .double)) (t' := (.array .double)) (by decide) (by decide)))
  have F_a1_lows := F_a1_lows.same W5
  have F_a1_errors := F_a1_errors.other W5 (Or.inr (slot_ne (Or.inr (hw _ (List.mem_of_getElem? (i := 21) rfl))) (Or.inr (hw _ (List.mem_of_getElem? (i := 19) rfl))) (by decide) (t := (.array .double)) (t' := (.array .double)) (by decide) (by decide)))
  have A_b2 := A_b2.other W5 (Ne.symm ne_a1_b2)
  have A_b4 := A_b4.other W5 (Ne.symm ne_a1_b4)
  refine r_aloadN 24 X d1_23 rfl rfl ?_
  refine r_iloadN 25 X d1_24 rfl ?_
  refine r_newarray 27 X 3 3 (hw _ (List.mem_of_getElem? (i := 15) rfl)) d1_25 (by decide) (by decide) (by decide) (by decide) (by decide) ?_
  intro T h6 b6 g6 gn_b6 E6 A_b6 X
  have sz_b6 : h.size ≤ b6 := Nat.le_trans K.1 (Nat.le_of_eq g6.symm)
  have ne_a1_b6 : a1 ≠ b6 := Nat.ne_of_lt (Nat.lt_of_lt_of_eq E_a1.lt g6.symm)
  have ne_b2_b6 : b2 ≠ b6 := Nat.ne_of_lt (Nat.lt_of_lt_of_eq A_b2.lt g6.symm)
  have ne_b4_b6 : b4 ≠ b6 := Nat.ne_of_lt (Nat.lt_of_lt_of_eq A_b4.lt g6.symm)
  have K := K.ext E6
  have E_a1 := E_a1.ext E6
  have F_a1_precision := F_a1_precision.ext E6
  have F_a1_values := F_a1_values.ext E6
  have F_a1_lows := F_a1_lows.ext E6
  have F_a1_errors := F_a1_errors.ext E6
  have A_b2 := A_b2.ext E6
  have A_b4 := A_b4.ext E6
  replace A_b6 : AF Z h6 b6 .double 3 (fun j => .double ((fun _ => (0 : UInt64)) j)) := A_b6
  refine r_putfield 30 X (host := "") (Or.inl (hw _ (List.mem_of_getElem? (i := 20) rfl))) Via.refl F_a1_errors E_a1 (Or.inr ⟨(hw _ (List.mem_of_getElem? (i := 21) rfl)), rfl, rfl⟩) (hw _ (List.mem_of_getElem? (i := 5) rfl)) (ty := (.array .double)) (by decide) rfl rfl ga d1_27 ?_
  intro T h7 W7 X
  have K := K.wr W7 (Or.inl (List.mem_of_getElem? (i := 0) rfl))
  have E_a1 := E_a1.wr W7
  have F_a1_precision := F_a1_precision.other W7 (Or.inr (slot_ne (Or.inr (hw _ (List.mem_of_getElem? (i := 14) rfl))) (Or.inr (hw _ (List.mem_of_getElem? (i := 21) rfl))) (by decide) (t := (.object "com/example/heliotrope/heliotrope/lra/Precision")) (t' := (.array .double)) (by decide) (by decide)))
  have F_a1_values := F_a1_values.other W7 (Or.inr (slot_ne (Or.inr (hw _ (List.mem_of_getElem? (i := 17) rfl))) (Or.inr (hw _ (List.mem_of_getElem? (i := 21) rfl))) (by decide) (t := (.array .double)) (t' := (.array .double)) (by decide) (by decide)))
  have F_a1_lows := F_a1_lows.other W7 (Or.inr (slot_ne (Or.inr (hw _ (List.mem_of_getElem? (i := 19) rfl))) (Or.inr (hw _ (List.mem_of_getElem? (i := 21) rfl))) (by decide) (t := (.array .double)) (t' := (.array .double)) (by decide) (by decide)))
  have F_a1_errors := F_a1_errors.same W7
  have A_b2 := A_b2.other W7 (Ne.symm ne_a1_b2)
  have A_b4 := A_b4.other W7 (Ne.symm ne_a1_b4)
  have A_b6 := A_b6.other W7 (Ne.symm ne_a1_b6)
  refine r_retV X d1_30 (by decide) (by decide) ?_
  exact ⟨rfl, K, b2, b4, b6, F_a1_values, F_a1_lows, F_a1_errors, A_b2, A_b4, A_b6, sz_b2, sz_b4, sz_b6, gn_b2, gn_b4, gn_b6, ne_b2_b4, ne_b2_b6, ne_b4_b6⟩
theorem d3_0 : decode prog_74_method_3_code 0 = .ok (.aload_n 0, 1) := by decide +kernel
theorem d3_1 : decode prog_74_method_3_code 1 = .ok (.getfield 13, 3) := by decide +kernel
theorem d3_4 : decode prog_74_method_3_code 4 = .ok (.areturn, 1) := by decide +kernel
theorem pn_3 : plainName "com/example/heliotrope/heliotrope/lra/StateValues" = true := by first | (simp [plainName, overriddenIn]; done) | decide +kernel
theorem ef_3 (m : MethodId) (x0 : Addr) : entryFrame m #[(.ref x0)] 1 = mkF m 0 #[.val (.ref x0)] [] := by first | (simp [entryFrame, mkF, argsToLocals, Value.category]; done) | rfl
set_option maxRecDepth 65536 in
set_option maxHeartbeats 40000000 in
theorem rmVa (l : Launch) (Z : State) (a0 : Array Value) (hw : ∀ d ∈ tables_1, d.before a0 Z = true) (n0 : Nat) (h : Heap) (Z0 : n0 ≤ h.size) (a1 a2 : Addr) (F_a1_values : Fld Z h a1 "com/example/heliotrope/heliotrope/lra/StateValues" "values" "[D" (.ref a2)) :
    Met1 l Z n0 [] (⟨"com/example/heliotrope/heliotrope/lra/StateValues", "values", "()[D"⟩ : MethodName) prog_74_method_3_code 1 (some (.array .double)) ({ frames := 0, cells := 0, slots := 0, locals := 0 } : Room) #[(.ref a1)] h (fun v h' => v = some (.ref a2) ∧ h = h') := by
  refine met_of (plainFor_of_name pn_3) Z0 (fun m => ef_3 m a1) ?_
  intro p e s m below meth c T hs0 X
  refine r_aloadN 1 X d3_0 rfl rfl ?_
  refine r_getfield 4 X (host := "") (Or.inl (hw _ (List.mem_of_getElem? (i := 16) rfl))) Via.refl F_a1_values d3_1 ?_
  intro T X
  refine r_retA X d3_4 rfl rfl rfl (by decide) (by decide) ?_
  exact ⟨rfl, rfl⟩
theorem d4_0 : decode prog_74_method_4_code 0 = .ok (.aload_n 0, 1) := by decide +kernel
theorem d4_1 : decode prog_74_method_4_code 1 = .ok (.getfield 20, 3) := by decide +kernel
theorem d4_4 : decode prog_74_method_4_code 4 = .ok (.areturn, 1) := by decide +kernel
theorem pn_4 : plainName "com/example/heliotrope/heliotrope/lra/StateValues" = true := by first | (simp [plainName, overriddenIn]; done) | decide +kernel
theorem ef_4 (m : MethodId) (x0 : Addr) : entryFrame m #[(.ref x0)] 1 = mkF m 0 #[.val (.ref x0)] [] := by first | (simp [entryFrame, mkF, argsToLocals, Value.category]; done) | rfl
set_option maxRecDepth 65536 in
set_option maxHeartbeats 40000000 in
theorem rmEr (l : Launch) (Z : State) (a0 : Array Value) (hw : ∀ d ∈ tables_1, d.before a0 Z = true) (n0 : Nat) (h : Heap) (Z0 : n0 ≤ h.size) (a1 a2 : Addr) (F_a1_errors : Fld Z h a1 "com/example/heliotrope/heliotrope/lra/StateValues" "errors" "[D" (.ref a2)) :
    Met1 l Z n0 [] (⟨"com/example/heliotrope/heliotrope/lra/StateValues", "errors", "()[D"⟩ : MethodName) prog_74_method_4_code 1 (some (.array .double)) ({ frames := 0, cells := 0, slots := 0, locals := 0 } : Room) #[(.ref a1)] h (fun v h' => v = some (.ref a2) ∧ h = h') := by
  refine met_of (plainFor_of_name pn_4) Z0 (fun m => ef_4 m a1) ?_
  intro p e s m below meth c T hs0 X
  refine r_aloadN 1 X d4_0 rfl rfl ?_
  refine r_getfield 4 X (host := "") (Or.inl (hw _ (List.mem_of_getElem? (i := 20) rfl))) Via.refl F_a1_errors d4_1 ?_
  intro T X
  refine r_retA X d4_4 rfl rfl rfl (by decide) (by decide) ?_
  exact ⟨rfl, rfl⟩
theorem d5_0 : decode prog_74_method_6_code 0 = .ok (.aload_n 0, 1) := by decide +kernel
theorem d5_1 : decode prog_74_method_6_code 1 = .ok (.getfield 13, 3) := by decide +kernel
theorem d5_4 : decode prog_74_method_6_code 4 = .ok (.iload_n 2, 1) := by decide +kernel
theorem d5_5 : decode prog_74_method_6_code 5 = .ok (.aload_n 1, 1) := by decide +kernel
theorem d5_6 : decode prog_74_method_6_code 6 = .ok (.getfield 13, 3) := by decide +kernel
theorem d5_9 : decode prog_74_method_6_code 9 = .ok (.iload_n 2, 1) := by decide +kernel
theorem d5_10 : decode prog_74_method_6_code 10 = .ok (.daload, 1) := by decide +kernel
theorem d5_11 : decode prog_74_method_6_code 11 = .ok (.dastore, 1) := by decide +kernel
theorem d5_12 : decode prog_74_method_6_code 12 = .ok (.aload_n 0, 1) := by decide +kernel
theorem d5_13 : decode prog_74_method_6_code 13 = .ok (.getfield 17, 3) := by decide +kernel
theorem d5_16 : decode prog_74_method_6_code 16 = .ok (.iload_n 2, 1) := by decide +kernel
theorem d5_17 : decode prog_74_method_6_code 17 = .ok (.aload_n 1, 1) := by decide +kernel
theorem d5_18 : decode prog_74_method_6_code 18 = .ok (.getfield 17, 3) := by decide +kernel
theorem d5_21 : decode prog_74_method_6_code 21 = .ok (.iload_n 2, 1) := by decide +kernel
theorem d5_22 : decode prog_74_method_6_code 22 = .ok (.daload, 1) := by decide +kernel
theorem d5_23 : decode prog_74_method_6_code 23 = .ok (.dastore, 1) := by decide +kernel
theorem d5_24 : decode prog_74_method_6_code 24 = .ok (.aload_n 0, 1) := by decide +kernel
theorem d5_25 : decode prog_74_method_6_code 25 = .ok (.getfield 20, 3) := by decide +kernel
theorem d5_28 : decode prog_74_method_6_code 28 = .ok (.iload_n 2, 1) := by decide +kernel
theorem d5_29 : decode prog_74_method_6_code 29 = .ok (.aload_n 1, 1) := by decide +kernel
theorem d5_30 : decode prog_74_method_6_code 30 = .ok (.getfield 20, 3) := by decide +kernel
theorem d5_33 : decode prog_74_method_6_code 33 = .ok (.iload_n 2, 1) := by decide +kernel
theorem d5_34 : decode prog_74_method_6_code 34 = .ok (.daload, 1) := by decide +kernel
theorem d5_35 : decode prog_74_method_6_code 35 = .ok (.dastore, 1) := by decide +kernel
theorem d5_36 : decode prog_74_method_6_code 36 = .ok (.return_, 1) := by decide +kernel
theorem pn_5 : plainName "com/example/heliotrope/heliotrope/lra/StateValues" = true := by first | (simp [plainName, overriddenIn]; done) | decide +kernel
theorem ef_5 (m : MethodId) (x0 : Addr) (x1 : Addr) (x2 : Int32) : entryFrame m #[(.ref x0), (.ref x1), (.int x2)] 3 = mkF m 0 #[.val (.ref x0), .val (.ref x1), .val (.int x2)] [] := by first | (simp [entryFrame, mkF, argsToLocals, Value.category]; done) | rfl
set_option maxRecDepth 65536 in
set_option maxHeartbeats 40000000 in
theorem rmCopy (l : Launch) (Z : State) (a0 : Array Value) (hw : ∀ d ∈ tables_1, d.before a0 Z = true) (n0 : Nat) (h : Heap) (Z0 : n0 ≤ h.size) (a1 a2 va1 lo1 er1 va2 lo2 er2 : Addr) (fva1 flo1 fer1 fva2 flo2 fer2 : Nat → UInt64) (kk : Int32) (k : Nat) (hk : kk.toInt = (k : Int)) (hk3 : k < 3) (gva1 : n0 ≤ va1) (glo1 : n0 ≤ lo1) (ger1 : n0 ≤ er1) (ne_a1_er1 : a1 ≠ er1) (ne_a1_lo1 : a1 ≠ lo1) (ne_a1_va1 : a1 ≠ va1) (ne_a2_er1 : a2 ≠ er1) (ne_a2_lo1 : a2 ≠ lo1) (ne_a2_va1 : a2 ≠ va1) (ne_er1_lo1 : er1 ≠ lo1) (ne_er1_va1 : er1 ≠ va1) (ne_er2_er1 : er2 ≠ er1) (ne_er2_lo1 : er2 ≠ lo1) (ne_er2_va1 : er2 ≠ va1) (ne_lo1_va1 : lo1 ≠ va1) (ne_lo2_er1 : lo2 ≠ er1) (ne_lo2_lo1 : lo2 ≠ lo1) (ne_lo2_va1 : lo2 ≠ va1) (ne_va2_er1 : va2 ≠ er1) (ne_va2_lo1 : va2 ≠ lo1) (ne_va2_va1 : va2 ≠ va1) (F_a1_values : Fld Z h a1 "com/example/heliotrope/heliotrope/lra/StateValues" "values" "[D" (.ref va1)) (F_a1_lows : Fld Z h a1 "com/example/heliotrope/heliotrope/lra/StateValues" "lows" "[D" (.ref lo1)) (F_a1_errors : Fld Z h a1 "com/example/heliotrope/heliotrope/lra/StateValues" "errors" "[D" (.ref er1)) (F_a2_values : Fld Z h a2 "com/example/heliotrope/heliotrope/lra/StateValues" "values" "[D" (.ref va2)) (F_a2_lows : Fld Z h a2 "com/example/heliotrope/heliotrope/lra/StateValues" "lows" "[D" (.ref lo2)) (F_a2_errors : Fld Z h a2 "com/example/heliotrope/heliotrope/lra/StateValues" "errors" "[D" (.ref er2)) (A_va1 : AF Z h va1 .double 3 (fun j => .double (fva1 j))) (A_lo1 : AF Z h lo1 .double 3 (fun j => .double (flo1 j))) (A_er1 : AF Z h er1 .double 3 (fun j => .double (fer1 j))) (A_va2 : AF Z h va2 .double 3 (fun j => .double (fva2 j))) (A_lo2 : AF Z h lo2 .double 3 (fun j => .double (flo2 j))) (A_er2 : AF Z h er2 .double 3 (fun j => .double (fer2 j))) :
    Met1 l Z n0 [] (⟨"com/example/heliotrope/heliotrope/lra/StateValues", "copy", "(Lcom/example/heliotrope/heliotrope/lra/StateValues;I)V"⟩ : MethodName) prog_74_method_6_code 3 none ({ frames := 0, cells := 0, slots := 0, locals := 0 } : Room) #[(.ref a1), (.ref a2), (.int kk)] h (fun v h' => v = none ∧ Keep h h' [va1, lo1, er1] ∧ AF Z h' va1 .double 3 (fun j => .double ((updD fva1 k (fva2 k)) j)) ∧ AF Z h' er1 .double 3 (fun j => .double ((updD fer1 k (fer2 k)) j))) := by
  refine met_of (plainFor_of_name pn_5) Z0 (fun m => ef_5 m a1 a2 kk) ?_
  intro p e s m below meth c T hs0 X
  have K := Keep.refl h [va1, lo1, er1]
  refine r_aloadN 1 X d5_0 rfl rfl ?_
  refine r_getfield 4 X (host := "") (Or.inl (hw _ (List.mem_of_getElem? (i := 16) rfl))) Via.refl F_a1_values d5_1 ?_
  intro T X
  refine r_iloadN 5 X d5_4 rfl ?_
  refine r_aloadN 6 X d5_5 rfl rfl ?_
  refine r_getfield 9 X (host := "") (Or.inl (hw _ (List.mem_of_getElem? (i := 16) rfl))) Via.refl F_a2_values d5_6 ?_
  intro T X
  refine r_iloadN 10 X d5_9 rfl ?_
  refine r_daload 11 X A_va2 (i := k) (v := (.double (fva2 k))) hk hk3 rfl d5_10 ?_
  refine r_dastore 12 X A_va1 (i := k) (v := (.double (fva2 k))) hk hk3 rfl gva1 d5_11 ?_
  intro T h1 W1 X
  have K := K.wr W1 (Or.inl (List.mem_of_getElem? (i := 0) rfl))
  have F_a1_values := F_a1_values.other W1 (Or.inl ne_a1_va1)
  have F_a1_lows := F_a1_lows.other W1 (Or.inl ne_a1_va1)
  have F_a1_errors := F_a1_errors.other W1 (Or.inl ne_a1_va1)
  have F_a2_values := F_a2_values.other W1 (Or.inl ne_a2_va1)
  have F_a2_lows := F_a2_lows.other W1 (Or.inl ne_a2_va1)
  have F_a2_errors := F_a2_errors.other W1 (Or.inl ne_a2_va1)
  have A_va1 := A_va1.setD W1
  have A_lo1 := A_lo1.other W1 ne_lo1_va1
  have A_er1 := A_er1.other W1 ne_er1_va1
  have A_va2 := A_va2.other W1 ne_va2_va1
  have A_lo2 := A_lo2.other W1 ne_lo2_va1
  have A_er2 := A_er2.other W1 ne_er2_va1
  refine r_aloadN 13 X d5_12 rfl rfl ?_
  refine r_getfield 16 X (host := "") (Or.inl (hw _ (List.mem_of_getElem? (i := 18) rfl))) Via.refl F_a1_lows d5_13 ?_
  intro T X
  refine r_iloadN 17 X d5_16 rfl ?_
  refine r_aloadN 18 X d5_17 rfl rfl ?_
  refine r_getfield 21 X (host := "") (Or.inl (hw _ (List.mem_of_getElem? (i := 18) rfl))) Via.refl F_a2_lows d5_18 ?_
  intro T X
  refine r_iloadN 22 X d5_21 rfl ?_
  refine r_daload 23 X A_lo2 (i := k) (v := (.double (flo2 k))) hk hk3 rfl d5_22 ?_
  refine r_dastore 24 X A_lo1 (i := k) (v := (.double (flo2 k))) hk hk3 rfl glo1 d5_23 ?_
  intro T h2 W2 X
  have K := K.wr W2 (Or.inl (List.mem_of_getElem? (i := 1) rfl))
  have F_a1_values := F_a1_values.other W2 (Or.inl ne_a1_lo1)
  have F_a1_lows := F_a1_lows.other W2 (Or.inl ne_a1_lo1)
  have F_a1_errors := F_a1_errors.other W2 (Or.inl ne_a1_lo1)
  have F_a2_values := F_a2_values.other W2 (Or.inl ne_a2_lo1)
  have F_a2_lows := F_a2_lows.other W2 (Or.inl ne_a2_lo1)
  have F_a2_errors := F_a2_errors.other W2 (Or.inl ne_a2_lo1)
  have A_va1 := A_va1.other W2 (Ne.symm ne_lo1_va1)
  have A_lo1 := A_lo1.setD W2
  have A_er1 := A_er1.other W2 ne_er1_lo1
  have A_va2 := A_va2.other W2 ne_va2_lo1
  have A_lo2 := A_lo2.other W2 ne_lo2_lo1
  have A_er2 := A_er2.other W2 ne_er2_lo1
  refine r_aloadN 25 X d5_24 rfl rfl ?_
  refine r_getfield 28 X (host := "") (Or.inl (hw _ (List.mem_of_getElem? (i := 20) rfl))) Via.refl F_a1_errors d5_25 ?_
  intro T X
  refine r_iloadN 29 X d5_28 rfl ?_
  refine r_aloadN 30 X d5_29 rfl rfl ?_
  refine r_getfield 33 X (host := "") (Or.inl (hw _ (List.mem_of_getElem? (i := 20) rfl))) Via.refl F_a2_errors d5_30 ?_
  intro T X
  refine r_iloadN 34 X d5_33 rfl ?_
  refine r_daload 35 X A_er2 (i := k) (v := (.double (fer2 k))) hk hk3 rfl d5_34 ?_
  refine r_dastore 36 X A_er1 (i := k) (v := (.double (fer2 k))) hk hk3 rfl ger1 d5_35 ?_
  intro T h3 W3 X
  have K := K.wr W3 (Or.inl (List.mem_of_getElem? (i := 2) rfl))
  have F_a1_values := F_a1_values.other W3 (Or.inl ne_a1_er1)
  have F_a1_lows := F_a1_lows.other W3 (Or.inl ne_a1_er1)
  have F_a1_errors := F_a1_errors.other W3 (Or.inl ne_a1_er1)
  have F_a2_values := F_a2_values.other W3 (Or.inl ne_a2_er1)
  have F_a2_lows := F_a2_lows.other W3 (Or.inl ne_a2_er1)
  have F_a2_errors := F_a2_errors.other W3 (Or.inl ne_a2_er1)
  have A_va1 := A_va1.other W3 (Ne.symm ne_er1_va1)
  have A_lo1 := A_lo1.other W3 (Ne.symm ne_er1_lo1)
  have A_er1 := A_er1.setD W3
  have A_va2 := A_va2.other W3 ne_va2_er1
  have A_lo2 := A_lo2.other W3 ne_lo2_er1
  have A_er2 := A_er2.other W3 ne_er2_er1
  refine r_retV X d5_36 (by decide) (by decide) ?_
  exact ⟨rfl, K, A_va1, A_er1⟩
theorem pn_0 : plainName "com/example/heliotrope/heliotrope/lra/StateValuesCopyPinLaw" = true := by first | (simp [plainName, overriddenIn]; done) | decide +kernel
theorem ef_0 (m : MethodId) (x0 : Int32) (x1 : Int32) (x2 : Int32) (x3 : Int32) (x4 : Int32) (x5 : Int32) : entryFrame m #[(.int x0), (.int x1), (.int x2), (.int x3), (.int x4), (.int x5)] maxLocals = mkF m 0 #[.val (.int x0), .val (.int x1), .val (.int x2), .val (.int x3), .val (.int x4), .val (.int x5), .unset, .unset, .unset, .unset, .unset, .unset, .unset, .unset, .unset, .unset, .unset, .unset, .unset, .unset, .unset, .unset, .unset, .unset, .unset, .unset, .unset] [] := by first | (simp [entryFrame, mkF, argsToLocals, Value.category, maxLocals]; done) | rfl
set_option maxRecDepth 65536 in
set_option maxHeartbeats 40000000 in
theorem rm0 (l : Launch) (Z : State) (a0 : Array Value) (hw : ∀ d ∈ tables_1, d.before a0 Z = true) (n0 : Nat) (h : Heap) (Z0 : n0 ≤ h.size) (p0 p1 p2 p3 p4 p5 : Int32) (pa pb : Addr) (S_DOUBLE : Sta Z h "com/example/heliotrope/heliotrope/lra/Precision" "DOUBLE" "Lcom/example/heliotrope/heliotrope/lra/Precision;" (.ref pa)) (S_DOUBLE_DOUBLE : Sta Z h "com/example/heliotrope/heliotrope/lra/Precision" "DOUBLE_DOUBLE" "Lcom/example/heliotrope/heliotrope/lra/Precision;" (.ref pb)) :
    Met1 l Z n0 tables_1 x code maxLocals ret room_1 #[(.int p0), (.int p1), (.int p2), (.int p3), (.int p4), (.int p5)] h (fun v h' => v = some (.int 1)) := by
  refine met_of (plainFor_of_name pn_0) Z0 (fun m => ef_0 m p0 p1 p2 p3 p4 p5) ?_
  intro p e s m below meth c T hs0 X
  refine r_iload 2 X at_0 rfl ?_
  refine r_iconst 3 X (1 : Int32) at_2 rfl ?_
  refine r_iand 4 X at_3 ?_
  have J16_1 : ∀ (T : State) (pr : Addr), Cx p l e room_1 s m #[(.int p0), (.int p1), (.int p2), (.int p3), (.int p4), (.int p5)] below meth c Z code maxLocals x.cls ret x.name n0 T h 0 0 → Run p e below m (Fin1 below s n0 (fun v h' => v = some (.int 1)) room_1.cells room_1.slots) T 16 #[.val (.int p0), .val (.int p1), .val (.int p2), .val (.int p3), .val (.int p4), .val (.int p5), .unset, .unset, .unset, .unset, .unset, .unset, .unset, .unset, .unset, .unset, .unset, .unset, .unset, .unset, .unset, .unset, .unset, .unset, .unset, .unset, .unset] [(.ref pr)] := by
    intro T pr X
    refine r_astore 18 X #[.val (.int p0), .val (.int p1), .val (.int p2), .val (.int p3), .val (.int p4), .val (.int p5), .val (.ref pr), .unset, .unset, .unset, .unset, .unset, .unset, .unset, .unset, .unset, .unset, .unset, .unset, .unset, .unset, .unset, .unset, .unset, .unset, .unset, .unset] at_16 rfl rfl ?_
    refine r_iloadN 19 X at_18 rfl ?_
    refine r_ldcInt 21 X (hw _ (List.mem_of_getElem? (i := 3) rfl)) at_19 ?_
    refine r_iand 22 X at_21 ?_
    refine r_iconst 23 X (3 : Int32) at_22 rfl ?_
    refine r_irem 24 X at_23 (by decide) ?_
    rcases own_st p2 with es | es | es
    · refine r_topI es ?_
      refine r_istore 26 X #[.val (.int p0), .val (.int p1), .val (.int p2), .val (.int p3), .val (.int p4), .val (.int p5), .val (.ref pr), .val (.int (0 : Int32)), .unset, .unset, .unset, .unset, .unset, .unset, .unset, .unset, .unset, .unset, .unset, .unset, .unset, .unset, .unset, .unset, .unset, .unset, .unset] at_24 rfl ?_
      refine r_iload 28 X at_26 rfl ?_
      refine r_iconst 29 X (1 : Int32) at_28 rfl ?_
      refine r_iadd 30 X at_29 ?_
      refine r_topI (x' := (1 : Int32)) (by decide) ?_
      refine r_iconst 31 X (3 : Int32) at_30 rfl ?_
      refine r_irem 32 X at_31 (by decide) ?_
      refine r_topI (x' := (1 : Int32)) (by decide) ?_
      refine r_istore 34 X #[.val (.int p0), .val (.int p1), .val (.int p2), .val (.int p3), .val (.int p4), .val (.int p5), .val (.ref pr), .val (.int (0 : Int32)), .val (.int (1 : Int32)), .unset, .unset, .unset, .unset, .unset, .unset, .unset, .unset, .unset, .unset, .unset, .unset, .unset, .unset, .unset, .unset, .unset, .unset] at_32 rfl ?_
      refine r_iload 36 X at_34 rfl ?_
      refine r_iconst 37 X (2 : Int32) at_36 rfl ?_
      refine r_iadd 38 X at_37 ?_
      refine r_topI (x' := (2 : Int32)) (by decide) ?_
      refine r_iconst 39 X (3 : Int32) at_38 rfl ?_
      refine r_irem 40 X at_39 (by decide) ?_
      refine r_topI (x' := (2 : Int32)) (by decide) ?_
      refine r_istore 42 X #[.val (.int p0), .val (.int p1), .val (.int p2), .val (.int p3), .val (.int p4), .val (.int p5), .val (.ref pr), .val (.int (0 : Int32)), .val (.int (1 : Int32)), .val (.int (2 : Int32)), .unset, .unset, .unset, .unset, .unset, .unset, .unset, .unset, .unset, .unset, .unset, .unset, .unset, .unset, .unset, .unset, .unset] at_40 rfl ?_
      refine r_iloadN 43 X at_42 rfl ?_
      refine r_i2d 44 X at_43 ?_
      refine r_dstore 46 X #[.val (.int p0), .val (.int p1), .val (.int p2), .val (.int p3), .val (.int p4), .val (.int p5), .val (.ref pr), .val (.int (0 : Int32)), .val (.int (1 : Int32)), .val (.int (2 : Int32)), .val (.double (FP.i2d p0)), .second, .unset, .unset, .unset, .unset, .unset, .unset, .unset, .unset, .unset, .unset, .unset, .unset, .unset, .unset, .unset] at_44 rfl ?_
      refine r_iloadN 47 X at_46 rfl ?_
      refine r_ldcInt 49 X (hw _ (List.mem_of_getElem? (i := 3) rfl)) at_47 ?_
      refine r_iand 50 X at_49 ?_
      refine r_i2d 51 X at_50 ?_
      refine r_dstore 53 X #[.val (.int p0), .val (.int p1), .val (.int p2), .val (.int p3), .val (.int p4), .val (.int p5), .val (.ref pr), .val (.int (0 : Int32)), .val (.int (1 : Int32)), .val (.int (2 : Int32)), .val (.double (FP.i2d p0)), .second, .val (.double (FP.i2d (p1 &&& (2147483647 : Int32)))), .second, .unset, .unset, .unset, .unset, .unset, .unset, .unset, .unset, .unset, .unset, .unset, .unset, .unset] at_51 rfl ?_
      refine r_iloadN 54 X at_53 rfl ?_
      refine r_i2d 55 X at_54 ?_
      refine r_dstore 57 X #[.val (.int p0), .val (.int p1), .val (.int p2), .val (.int p3), .val (.int p4), .val (.int p5), .val (.ref pr), .val (.int (0 : Int32)), .val (.int (1 : Int32)), .val (.int (2 : Int32)), .val (.double (FP.i2d p0)), .second, .val (.double (FP.i2d (p1 &&& (2147483647 : Int32)))), .second, .val (.double (FP.i2d p3)), .second, .unset, .unset, .unset, .unset, .unset, .unset, .unset, .unset, .unset, .unset, .unset] at_55 rfl ?_
      refine r_iload 59 X at_57 rfl ?_
      refine r_ldcInt 61 X (hw _ (List.mem_of_getElem? (i := 3) rfl)) at_59 ?_
      refine r_iand 62 X at_61 ?_
      refine r_i2d 63 X at_62 ?_
      refine r_dstore 65 X #[.val (.int p0), .val (.int p1), .val (.int p2), .val (.int p3), .val (.int p4), .val (.int p5), .val (.ref pr), .val (.int (0 : Int32)), .val (.int (1 : Int32)), .val (.int (2 : Int32)), .val (.double (FP.i2d p0)), .second, .val (.double (FP.i2d (p1 &&& (2147483647 : Int32)))), .second, .val (.double (FP.i2d p3)), .second, .val (.double (FP.i2d (p4 &&& (2147483647 : Int32)))), .second, .unset, .unset, .unset, .unset, .unset, .unset, .unset, .unset, .unset] at_63 rfl ?_
      refine r_new 68 X (hw _ (List.mem_of_getElem? (i := 4) rfl)) (hw _ (List.mem_of_getElem? (i := 5) rfl)) (hw _ (List.mem_of_getElem? (i := 6) rfl)) at_65 (by decide) (by decide) ?_
      intro T h2 b2 g2 gn_b2 E2 A2 D2 X
      have E_b2 := A2
      have F_b2_precision : Fld Z h2 b2 "com/example/heliotrope/heliotrope/lra/StateValues" "precision" "Lcom/example/heliotrope/heliotrope/lra/Precision;" .null := D2 (Or.inr (hw _ (List.mem_of_getElem? (i := 14) rfl))) (ty := (.object "com/example/heliotrope/heliotrope/lra/Precision")) (by decide)
      have F_b2_values : Fld Z h2 b2 "com/example/heliotrope/heliotrope/lra/StateValues" "values" "[D" .null := D2 (Or.inr (hw _ (List.mem_of_getElem? (i := 17) rfl))) (ty := (.array .double)) (by decide)
      have F_b2_lows : Fld Z h2 b2 "com/example/heliotrope/heliotrope/lra/StateValues" "lows" "[D" .null := D2 (Or.inr (hw _ (List.mem_of_getElem? (i := 19) rfl))) (ty := (.array .double)) (by decide)
      have F_b2_errors : Fld Z h2 b2 "com/example/heliotrope/heliotrope/lra/StateValues" "errors" "[D" .null := D2 (Or.inr (hw _ (List.mem_of_getElem? (i := 21) rfl))) (ty := (.array .double)) (by decide)
      refine r_dup 69 X at_68 rfl ?_
      refine r_iconst 70 X (3 : Int32) at_69 rfl ?_
      refine r_aload 72 X at_70 rfl rfl ?_
      refine r_special 75 X (st := [(.ref b2)]) (a := b2) (rmIni l Z a0 hw n0 _ X.sz b2 pr E_b2 F_b2_precision F_b2_values F_b2_lows F_b2_errors gn_b2) rfl rfl (hw _ (List.mem_of_getElem? (i := 7) rfl)) (hw _ (List.mem_of_getElem? (i := 8) rfl)) (hw _ (List.mem_of_getElem? (i := 9) rfl)) (hw _ (List.mem_of_getElem? (i := 6) rfl)) (by decide) pd_0 [(.int (3 : Int32)), (.ref pr)] rfl rfl 1 (Nat.le_of_eq rfl) rfl (by decide) (by decide) (by decide) (by decide) at_72 ?_
      rintro T h3 v3 ⟨rfl, K3, va1, lo1, er1, Qva1, Qlo1, Qer1, Bva1, Blo1, Ber1, zva1, zlo1, zer1, gva1, glo1, ger1, ne_va1_lo1, ne_va1_er1, ne_lo1_er1⟩ X
      have ne_b2_va1 : b2 ≠ va1 := Nat.ne_of_lt (Nat.lt_of_lt_of_le E_b2.lt zva1)
      have ne_b2_lo1 : b2 ≠ lo1 := Nat.ne_of_lt (Nat.lt_of_lt_of_le E_b2.lt zlo1)
      have ne_b2_er1 : b2 ≠ er1 := Nat.ne_of_lt (Nat.lt_of_lt_of_le E_b2.lt zer1)
      have E_b2 := E_b2.keep K3
      have F_b2_values := Qva1
      have A_va1 := Bva1
      have F_b2_lows := Qlo1
      have A_lo1 := Blo1
      have F_b2_errors := Qer1
      have A_er1 := Ber1
      change Run _ _ _ _ _ _ _ _ [(.ref b2)]
      refine r_astore 77 X #[.val (.int p0), .val (.int p1), .val (.int p2), .val (.int p3), .val (.int p4), .val (.int p5), .val (.ref pr), .val (.int (0 : Int32)), .val (.int (1 : Int32)), .val (.int (2 : Int32)), .val (.double (FP.i2d p0)), .second, .val (.double (FP.i2d (p1 &&& (2147483647 : Int32)))), .second, .val (.double (FP.i2d p3)), .second, .val (.double (FP.i2d (p4 &&& (2147483647 : Int32)))), .second, .val (.ref b2), .unset, .unset, .unset, .unset, .unset, .unset, .unset, .unset] at_75 rfl rfl ?_
      refine r_new 80 X (hw _ (List.mem_of_getElem? (i := 4) rfl)) (hw _ (List.mem_of_getElem? (i := 5) rfl)) (hw _ (List.mem_of_getElem? (i := 6) rfl)) at_77 (by decide) (by decide) ?_
      intro T h4 b4 g4 gn_b4 E4 A4 D4 X
      have ne_b2_b4 : b2 ≠ b4 := Nat.ne_of_lt (Nat.lt_of_lt_of_eq E_b2.lt g4.symm)
      have ne_va1_b4 : va1 ≠ b4 := Nat.ne_of_lt (Nat.lt_of_lt_of_eq A_va1.lt g4.symm)
      have ne_lo1_b4 : lo1 ≠ b4 := Nat.ne_of_lt (Nat.lt_of_lt_of_eq A_lo1.lt g4.symm)
      have ne_er1_b4 : er1 ≠ b4 := Nat.ne_of_lt (Nat.lt_of_lt_of_eq A_er1.lt g4.symm)
      have E_b2 := E_b2.ext E4
      have F_b2_values := F_b2_values.ext E4
      have A_va1 := A_va1.ext E4
      have F_b2_lows := F_b2_lows.ext E4
      have A_lo1 := A_lo1.ext E4
      have F_b2_errors := F_b2_errors.ext E4
      have A_er1 := A_er1.ext E4
      have E_b4 := A4
      have F_b4_precision : Fld Z h4 b4 "com/example/heliotrope/heliotrope/lra/StateValues" "precision" "Lcom/example/heliotrope/heliotrope/lra/Precision;" .null := D4 (Or.inr (hw _ (List.mem_of_getElem? (i := 14) rfl))) (ty := (.object "com/example/heliotrope/heliotrope/lra/Precision")) (by decide)
      have F_b4_values : Fld Z h4 b4 "com/example/heliotrope/heliotrope/lra/StateValues" "values" "[D" .null := D4 (Or.inr (hw _ (List.mem_of_getElem? (i := 17) rfl))) (ty := (.array .double)) (by decide)
      have F_b4_lows : Fld Z h4 b4 "com/example/heliotrope/heliotrope/lra/StateValues" "lows" "[D" .null := D4 (Or.inr (hw _ (List.mem_of_getElem? (i := 19) rfl))) (ty := (.array .double)) (by decide)
      have F_b4_errors : Fld Z h4 b4 "com/example/heliotrope/heliotrope/lra/StateValues" "errors" "[D" .null := D4 (Or.inr (hw _ (List.mem_of_getElem? (i := 21) rfl))) (ty := (.array .double)) (by decide)
      refine r_dup 81 X at_80 rfl ?_
      refine r_iconst 82 X (3 : Int32) at_81 rfl ?_
      refine r_aload 84 X at_82 rfl rfl ?_
      refine r_special 87 X (st := [(.ref b4)]) (a := b4) (rmIni l Z a0 hw n0 _ X.sz b4 pr E_b4 F_b4_precision F_b4_values F_b4_lows F_b4_errors gn_b4) rfl rfl (hw _ (List.mem_of_getElem? (i := 7) rfl)) (hw _ (List.mem_of_getElem? (i := 8) rfl)) (hw _ (List.mem_of_getElem? (i := 9) rfl)) (hw _ (List.mem_of_getElem? (i := 6) rfl)) (by decide) pd_0 [(.int (3 : Int32)), (.ref pr)] rfl rfl 1 (Nat.le_of_eq rfl) rfl (by decide) (by decide) (by decide) (by decide) at_84 ?_
      rintro T h5 v5 ⟨rfl, K5, va2, lo2, er2, Qva2, Qlo2, Qer2, Bva2, Blo2, Ber2, zva2, zlo2, zer2, gva2, glo2, ger2, ne_va2_lo2, ne_va2_er2, ne_lo2_er2⟩ X
      have ne_b2_va2 : b2 ≠ va2 := Nat.ne_of_lt (Nat.lt_of_lt_of_le E_b2.lt zva2)
      have ne_b4_va2 : b4 ≠ va2 := Nat.ne_of_lt (Nat.lt_of_lt_of_le E_b4.lt zva2)
      have ne_er1_va2 : er1 ≠ va2 := Nat.ne_of_lt (Nat.lt_of_lt_of_le A_er1.lt zva2)
      have ne_lo1_va2 : lo1 ≠ va2 := Nat.ne_of_lt (Nat.lt_of_lt_of_le A_lo1.lt zva2)
      have ne_va1_va2 : va1 ≠ va2 := Nat.ne_of_lt (Nat.lt_of_lt_of_le A_va1.lt zva2)
      have ne_b2_lo2 : b2 ≠ lo2 := Nat.ne_of_lt (Nat.lt_of_lt_of_le E_b2.lt zlo2)
      have ne_b4_lo2 : b4 ≠ lo2 := Nat.ne_of_lt (Nat.lt_of_lt_of_le E_b4.lt zlo2)
      have ne_er1_lo2 : er1 ≠ lo2 := Nat.ne_of_lt (Nat.lt_of_lt_of_le A_er1.lt zlo2)
      have ne_lo1_lo2 : lo1 ≠ lo2 := Nat.ne_of_lt (Nat.lt_of_lt_of_le A_lo1.lt zlo2)
      have ne_va1_lo2 : va1 ≠ lo2 := Nat.ne_of_lt (Nat.lt_of_lt_of_le A_va1.lt zlo2)
      have ne_b2_er2 : b2 ≠ er2 := Nat.ne_of_lt (Nat.lt_of_lt_of_le E_b2.lt zer2)
      have ne_b4_er2 : b4 ≠ er2 := Nat.ne_of_lt (Nat.lt_of_lt_of_le E_b4.lt zer2)
      have ne_er1_er2 : er1 ≠ er2 := Nat.ne_of_lt (Nat.lt_of_lt_of_le A_er1.lt zer2)
      have ne_lo1_er2 : lo1 ≠ er2 := Nat.ne_of_lt (Nat.lt_of_lt_of_le A_lo1.lt zer2)
      have ne_va1_er2 : va1 ≠ er2 := Nat.ne_of_lt (Nat.lt_of_lt_of_le A_va1.lt zer2)
      have E_b2 := E_b2.keep K5
      have F_b2_values := F_b2_values.keep K5 (ninS ne_b2_b4 nin0)
      have A_va1 := A_va1.keep K5 (ninS ne_va1_b4 nin0)
      have F_b2_lows := F_b2_lows.keep K5 (ninS ne_b2_b4 nin0)
      have A_lo1 := A_lo1.keep K5 (ninS ne_lo1_b4 nin0)
      have F_b2_errors := F_b2_errors.keep K5 (ninS ne_b2_b4 nin0)
      have A_er1 := A_er1.keep K5 (ninS ne_er1_b4 nin0)
      have E_b4 := E_b4.keep K5
      have F_b4_values := Qva2
      have A_va2 := Bva2
      have F_b4_lows := Qlo2
      have A_lo2 := Blo2
      have F_b4_errors := Qer2
      have A_er2 := Ber2
      change Run _ _ _ _ _ _ _ _ [(.ref b4)]
      refine r_astore 89 X #[.val (.int p0), .val (.int p1), .val (.int p2), .val (.int p3), .val (.int p4), .val (.int p5), .val (.ref pr), .val (.int (0 : Int32)), .val (.int (1 : Int32)), .val (.int (2 : Int32)), .val (.double (FP.i2d p0)), .second, .val (.double (FP.i2d (p1 &&& (2147483647 : Int32)))), .second, .val (.double (FP.i2d p3)), .second, .val (.double (FP.i2d (p4 &&& (2147483647 : Int32)))), .second, .val (.ref b2), .val (.ref b4), .unset, .unset, .unset, .unset, .unset, .unset, .unset] at_87 rfl rfl ?_
      refine r_aload 91 X at_89 rfl rfl ?_
      refine r_virtual 94 X (st := []) (a := b2) (rmVa l Z a0 hw n0 _ X.sz b2 va1 F_b2_values) E_b2 (hw _ (List.mem_of_getElem? (i := 22) rfl)) (hw _ (List.mem_of_getElem? (i := 23) rfl)) (hw _ (List.mem_of_getElem? (i := 25) rfl)) (hw _ (List.mem_of_getElem? (i := 25) rfl)) (hw _ (List.mem_of_getElem? (i := 24) rfl)) (hw _ (List.mem_of_getElem? (i := 26) rfl)) (hw _ (List.mem_of_getElem? (i := 6) rfl)) (by decide) pd_1 [] rfl rfl 0 (Nat.le_of_eq rfl) rfl (by decide) (by decide) (by decide) (by decide) at_91 ?_
      rintro T h6 v6 ⟨rfl, rfl⟩ X
      change Run _ _ _ _ _ _ _ _ [(.ref va1)]
      refine r_astore 96 X #[.val (.int p0), .val (.int p1), .val (.int p2), .val (.int p3), .val (.int p4), .val (.int p5), .val (.ref pr), .val (.int (0 : Int32)), .val (.int (1 : Int32)), .val (.int (2 : Int32)), .val (.double (FP.i2d p0)), .second, .val (.double (FP.i2d (p1 &&& (2147483647 : Int32)))), .second, .val (.double (FP.i2d p3)), .second, .val (.double (FP.i2d (p4 &&& (2147483647 : Int32)))), .second, .val (.ref b2), .val (.ref b4), .val (.ref va1), .unset, .unset, .unset, .unset, .unset, .unset] at_94 rfl rfl ?_
      refine r_aload 98 X at_96 rfl rfl ?_
      refine r_virtual 101 X (st := []) (a := b2) (rmEr l Z a0 hw n0 _ X.sz b2 er1 F_b2_errors) E_b2 (hw _ (List.mem_of_getElem? (i := 27) rfl)) (hw _ (List.mem_of_getElem? (i := 28) rfl)) (hw _ (List.mem_of_getElem? (i := 30) rfl)) (hw _ (List.mem_of_getElem? (i := 30) rfl)) (hw _ (List.mem_of_getElem? (i := 29) rfl)) (hw _ (List.mem_of_getElem? (i := 31) rfl)) (hw _ (List.mem_of_getElem? (i := 6) rfl)) (by decide) pd_1 [] rfl rfl 0 (Nat.le_of_eq rfl) rfl (by decide) (by decide) (by decide) (by decide) at_98 ?_
      rintro T h7 v7 ⟨rfl, rfl⟩ X
      change Run _ _ _ _ _ _ _ _ [(.ref er1)]
      refine r_astore 103 X #[.val (.int p0), .val (.int p1), .val (.int p2), .val (.int p3), .val (.int p4), .val (.int p5), .val (.ref pr), .val (.int (0 : Int32)), .val (.int (1 : Int32)), .val (.int (2 : Int32)), .val (.double (FP.i2d p0)), .second, .val (.double (FP.i2d (p1 &&& (2147483647 : Int32)))), .second, .val (.double (FP.i2d p3)), .second, .val (.double (FP.i2d (p4 &&& (2147483647 : Int32)))), .second, .val (.ref b2), .val (.ref b4), .val (.ref va1), .val (.ref er1), .unset, .unset, .unset, .unset, .unset] at_101 rfl rfl ?_
      refine r_aload 105 X at_103 rfl rfl ?_
      refine r_virtual 108 X (st := []) (a := b4) (rmVa l Z a0 hw n0 _ X.sz b4 va2 F_b4_values) E_b4 (hw _ (List.mem_of_getElem? (i := 22) rfl)) (hw _ (List.mem_of_getElem? (i := 23) rfl)) (hw _ (List.mem_of_getElem? (i := 25) rfl)) (hw _ (List.mem_of_getElem? (i := 25) rfl)) (hw _ (List.mem_of_getElem? (i := 24) rfl)) (hw _ (List.mem_of_getElem? (i := 26) rfl)) (hw _ (List.mem_of_getElem? (i := 6) rfl)) (by decide) pd_1 [] rfl rfl 0 (Nat.le_of_eq rfl) rfl (by decide) (by decide) (by decide) (by decide) at_105 ?_
      rintro T h8 v8 ⟨rfl, rfl⟩ X
      change Run _ _ _ _ _ _ _ _ [(.ref va2)]
      refine r_astore 110 X #[.val (.int p0), .val (.int p1), .val (.int p2), .val (.int p3), .val (.int p4), .val (.int p5), .val (.ref pr), .val (.int (0 : Int32)), .val (.int (1 : Int32)), .val (.int (2 : Int32)), .val (.double (FP.i2d p0)), .second, .val (.double (FP.i2d (p1 &&& (2147483647 : Int32)))), .second, .val (.double (FP.i2d p3)), .second, .val (.double (FP.i2d (p4 &&& (2147483647 : Int32)))), .second, .val (.ref b2), .val (.ref b4), .val (.ref va1), .val (.ref er1), .val (.ref va2), .unset, .unset, .unset, .unset] at_108 rfl rfl ?_
      refine r_aload 112 X at_110 rfl rfl ?_
      refine r_virtual 115 X (st := []) (a := b4) (rmEr l Z a0 hw n0 _ X.sz b4 er2 F_b4_errors) E_b4 (hw _ (List.mem_of_getElem? (i := 27) rfl)) (hw _ (List.mem_of_getElem? (i := 28) rfl)) (hw _ (List.mem_of_getElem? (i := 30) rfl)) (hw _ (List.mem_of_getElem? (i := 30) rfl)) (hw _ (List.mem_of_getElem? (i := 29) rfl)) (hw _ (List.mem_of_getElem? (i := 31) rfl)) (hw _ (List.mem_of_getElem? (i := 6) rfl)) (by decide) pd_1 [] rfl rfl 0 (Nat.le_of_eq rfl) rfl (by decide) (by decide) (by decide) (by decide) at_112 ?_
      rintro T h9 v9 ⟨rfl, rfl⟩ X
      change Run _ _ _ _ _ _ _ _ [(.ref er2)]
      refine r_astore 117 X #[.val (.int p0), .val (.int p1), .val (.int p2), .val (.int p3), .val (.int p4), .val (.int p5), .val (.ref pr), .val (.int (0 : Int32)), .val (.int (1 : Int32)), .val (.int (2 : Int32)), .val (.double (FP.i2d p0)), .second, .val (.double (FP.i2d (p1 &&& (2147483647 : Int32)))), .second, .val (.double (FP.i2d p3)), .second, .val (.double (FP.i2d (p4 &&& (2147483647 : Int32)))), .second, .val (.ref b2), .val (.ref b4), .val (.ref va1), .val (.ref er1), .val (.ref va2), .val (.ref er2), .unset, .unset, .unset] at_115 rfl rfl ?_
      refine r_aload 119 X at_117 rfl rfl ?_
      refine r_iload 121 X at_119 rfl ?_
      refine r_dload 123 X at_121 rfl ?_
      refine r_dastore 124 X A_va1 (i := 0) (v := (.double (FP.i2d p0))) (by decide) (by decide) rfl gva1 at_123 ?_
      intro T h10 W10 X
      have E_b2 := E_b2.wr W10
      have F_b2_values := F_b2_values.other W10 (Or.inl ne_b2_va1)
      have A_va1 := A_va1.setD W10
      have F_b2_lows := F_b2_lows.other W10 (Or.inl ne_b2_va1)
      have A_lo1 := A_lo1.other W10 (Ne.symm ne_va1_lo1)
      have F_b2_errors := F_b2_errors.other W10 (Or.inl ne_b2_va1)
      have A_er1 := A_er1.other W10 (Ne.symm ne_va1_er1)
      have E_b4 := E_b4.wr W10
      have F_b4_values := F_b4_values.other W10 (Or.inl (Ne.symm ne_va1_b4))
      have A_va2 := A_va2.other W10 (Ne.symm ne_va1_va2)
      have F_b4_lows := F_b4_lows.other W10 (Or.inl (Ne.symm ne_va1_b4))
      have A_lo2 := A_lo2.other W10 (Ne.symm ne_va1_lo2)
      have F_b4_errors := F_b4_errors.other W10 (Or.inl (Ne.symm ne_va1_b4))
      have A_er2 := A_er2.other W10 (Ne.symm ne_va1_er2)
      refine r_aload 126 X at_124 rfl rfl ?_
      refine r_iload 128 X at_126 rfl ?_
      refine r_dload 130 X at_128 rfl ?_
      refine r_dastore 131 X A_er1 (i := 0) (v := (.double (FP.i2d (p1 &&& (2147483647 : Int32))))) (by decide) (by decide) rfl ger1 at_130 ?_
      intro T h11 W11 X
      have E_b2 := E_b2.wr W11
      have F_b2_values := F_b2_values.other W11 (Or.inl ne_b2_er1)
      have A_va1 := A_va1.other W11 ne_va1_er1
      have F_b2_lows := F_b2_lows.other W11 (Or.inl ne_b2_er1)
      have A_lo1 := A_lo1.other W11 ne_lo1_er1
      have F_b2_errors := F_b2_errors.other W11 (Or.inl ne_b2_er1)
      have A_er1 := A_er1.setD W11
      have E_b4 := E_b4.wr W11
      have F_b4_values := F_b4_values.other W11 (Or.inl (Ne.symm ne_er1_b4))
      have A_va2 := A_va2.other W11 (Ne.symm ne_er1_va2)
      have F_b4_lows := F_b4_lows.other W11 (Or.inl (Ne.symm ne_er1_b4))
      have A_lo2 := A_lo2.other W11 (Ne.symm ne_er1_lo2)
      have F_b4_errors := F_b4_errors.other W11 (Or.inl (Ne.symm ne_er1_b4))
      have A_er2 := A_er2.other W11 (Ne.symm ne_er1_er2)
      refine r_aload 133 X at_131 rfl rfl ?_
      refine r_iload 135 X at_133 rfl ?_
      refine r_dload 137 X at_135 rfl ?_
      refine r_dneg 138 X at_137 ?_
      refine r_dconst1 139 X at_138 ?_
      refine r_dsub 140 X at_139 (Jvm.Free.Fl.dsub_out ((dneg_mag (Jvm.Free.Fl.i2d_mag _)).fin (by decide)).noNaN own_fin1) ?_
      refine r_dastore 141 X A_va1 (i := 1) (v := (.double (FP.dsub (FP.dneg (FP.i2d p0)) FP.dconst1))) (by decide) (by decide) rfl gva1 at_140 ?_
      intro T h12 W12 X
      have E_b2 := E_b2.wr W12
      have F_b2_values := F_b2_values.other W12 (Or.inl ne_b2_va1)
      have A_va1 := A_va1.setD W12
      have F_b2_lows := F_b2_lows.other W12 (Or.inl ne_b2_va1)
      have A_lo1 := A_lo1.other W12 (Ne.symm ne_va1_lo1)
      have F_b2_errors := F_b2_errors.other W12 (Or.inl ne_b2_va1)
      have A_er1 := A_er1.other W12 (Ne.symm ne_va1_er1)
      have E_b4 := E_b4.wr W12
      have F_b4_values := F_b4_values.other W12 (Or.inl (Ne.symm ne_va1_b4))
      have A_va2 := A_va2.other W12 (Ne.symm ne_va1_va2)
      have F_b4_lows := F_b4_lows.other W12 (Or.inl (Ne.symm ne_va1_b4))
      have A_lo2 := A_lo2.other W12 (Ne.symm ne_va1_lo2)
      have F_b4_errors := F_b4_errors.other W12 (Or.inl (Ne.symm ne_va1_b4))
      have A_er2 := A_er2.other W12 (Ne.symm ne_va1_er2)
      refine r_aload 143 X at_141 rfl rfl ?_
      refine r_iload 145 X at_143 rfl ?_
      refine r_dload 147 X at_145 rfl ?_
      refine r_dconst1 148 X at_147 ?_
      refine r_dadd 149 X at_148 (Jvm.Free.Fl.dadd_out (Jvm.Free.Fl.i2d_fin _).noNaN own_fin1) ?_
      refine r_dastore 150 X A_er1 (i := 1) (v := (.double (FP.dadd (FP.i2d (p1 &&& (2147483647 : Int32))) FP.dconst1))) (by decide) (by decide) rfl ger1 at_149 ?_
      intro T h13 W13 X
      have E_b2 := E_b2.wr W13
      have F_b2_values := F_b2_values.other W13 (Or.inl ne_b2_er1)
      have A_va1 := A_va1.other W13 ne_va1_er1
      have F_b2_lows := F_b2_lows.other W13 (Or.inl ne_b2_er1)
      have A_lo1 := A_lo1.other W13 ne_lo1_er1
      have F_b2_errors := F_b2_errors.other W13 (Or.inl ne_b2_er1)
      have A_er1 := A_er1.setD W13
      have E_b4 := E_b4.wr W13
      have F_b4_values := F_b4_values.other W13 (Or.inl (Ne.symm ne_er1_b4))
      have A_va2 := A_va2.other W13 (Ne.symm ne_er1_va2)
      have F_b4_lows := F_b4_lows.other W13 (Or.inl (Ne.symm ne_er1_b4))
      have A_lo2 := A_lo2.other W13 (Ne.symm ne_er1_lo2)
      have F_b4_errors := F_b4_errors.other W13 (Or.inl (Ne.symm ne_er1_b4))
      have A_er2 := A_er2.other W13 (Ne.symm ne_er1_er2)
      refine r_aload 152 X at_150 rfl rfl ?_
      refine r_iload 154 X at_152 rfl ?_
      refine r_dload 156 X at_154 rfl ?_
      refine r_ldc2Double 159 X (hw _ (List.mem_of_getElem? (i := 32) rfl)) at_156 ?_
      refine r_dadd 160 X at_159 (Jvm.Free.Fl.dadd_out (Jvm.Free.Fl.i2d_fin _).noNaN own_fin2) ?_
      refine r_dastore 161 X A_va1 (i := 2) (v := (.double (FP.dadd (FP.i2d p0) (4602678819172646912 : UInt64)))) (by decide) (by decide) rfl gva1 at_160 ?_
      intro T h14 W14 X
      have E_b2 := E_b2.wr W14
      have F_b2_values := F_b2_values.other W14 (Or.inl ne_b2_va1)
      have A_va1 := A_va1.setD W14
      have F_b2_lows := F_b2_lows.other W14 (Or.inl ne_b2_va1)
      have A_lo1 := A_lo1.other W14 (Ne.symm ne_va1_lo1)
      have F_b2_errors := F_b2_errors.other W14 (Or.inl ne_b2_va1)
      have A_er1 := A_er1.other W14 (Ne.symm ne_va1_er1)
      have E_b4 := E_b4.wr W14
      have F_b4_values := F_b4_values.other W14 (Or.inl (Ne.symm ne_va1_b4))
      have A_va2 := A_va2.other W14 (Ne.symm ne_va1_va2)
      have F_b4_lows := F_b4_lows.other W14 (Or.inl (Ne.symm ne_va1_b4))
      have A_lo2 := A_lo2.other W14 (Ne.symm ne_va1_lo2)
      have F_b4_errors := F_b4_errors.other W14 (Or.inl (Ne.symm ne_va1_b4))
      have A_er2 := A_er2.other W14 (Ne.symm ne_va1_er2)
      refine r_aload 163 X at_161 rfl rfl ?_
      refine r_iload 165 X at_163 rfl ?_
      refine r_dload 167 X at_165 rfl ?_
      refine r_ldc2Double 170 X (hw _ (List.mem_of_getElem? (i := 32) rfl)) at_167 ?_
      refine r_dadd 171 X at_170 (Jvm.Free.Fl.dadd_out (Jvm.Free.Fl.i2d_fin _).noNaN own_fin2) ?_
      refine r_dastore 172 X A_er1 (i := 2) (v := (.double (FP.dadd (FP.i2d (p1 &&& (2147483647 : Int32))) (4602678819172646912 : UInt64)))) (by decide) (by decide) rfl ger1 at_171 ?_
      intro T h15 W15 X
      have E_b2 := E_b2.wr W15
      have F_b2_values := F_b2_values.other W15 (Or.inl ne_b2_er1)
      have A_va1 := A_va1.other W15 ne_va1_er1
      have F_b2_lows := F_b2_lows.other W15 (Or.inl ne_b2_er1)
      have A_lo1 := A_lo1.other W15 ne_lo1_er1
      have F_b2_errors := F_b2_errors.other W15 (Or.inl ne_b2_er1)
      have A_er1 := A_er1.setD W15
      have E_b4 := E_b4.wr W15
      have F_b4_values := F_b4_values.other W15 (Or.inl (Ne.symm ne_er1_b4))
      have A_va2 := A_va2.other W15 (Ne.symm ne_er1_va2)
      have F_b4_lows := F_b4_lows.other W15 (Or.inl (Ne.symm ne_er1_b4))
      have A_lo2 := A_lo2.other W15 (Ne.symm ne_er1_lo2)
      have F_b4_errors := F_b4_errors.other W15 (Or.inl (Ne.symm ne_er1_b4))
      have A_er2 := A_er2.other W15 (Ne.symm ne_er1_er2)
      refine r_aload 174 X at_172 rfl rfl ?_
      refine r_iconst 175 X (0 : Int32) at_174 rfl ?_
      refine r_dload 177 X at_175 rfl ?_
      refine r_dastore 178 X A_va2 (i := 0) (v := (.double (FP.i2d p3))) (by decide) (by decide) rfl gva2 at_177 ?_
      intro T h16 W16 X
      have E_b2 := E_b2.wr W16
      have F_b2_values := F_b2_values.other W16 (Or.inl ne_b2_va2)
      have A_va1 := A_va1.other W16 ne_va1_va2
      have F_b2_lows := F_b2_lows.other W16 (Or.inl ne_b2_va2)
      have A_lo1 := A_lo1.other W16 ne_lo1_va2
      have F_b2_errors := F_b2_errors.other W16 (Or.inl ne_b2_va2)
      have A_er1 := A_er1.other W16 ne_er1_va2
      have E_b4 := E_b4.wr W16
      have F_b4_values := F_b4_values.other W16 (Or.inl ne_b4_va2)
      have A_va2 := A_va2.setD W16
      have F_b4_lows := F_b4_lows.other W16 (Or.inl ne_b4_va2)
      have A_lo2 := A_lo2.other W16 (Ne.symm ne_va2_lo2)
      have F_b4_errors := F_b4_errors.other W16 (Or.inl ne_b4_va2)
      have A_er2 := A_er2.other W16 (Ne.symm ne_va2_er2)
      refine r_aload 180 X at_178 rfl rfl ?_
      refine r_iconst 181 X (1 : Int32) at_180 rfl ?_
      refine r_dload 183 X at_181 rfl ?_
      refine r_dastore 184 X A_va2 (i := 1) (v := (.double (FP.i2d p3))) (by decide) (by decide) rfl gva2 at_183 ?_
      intro T h17 W17 X
      have E_b2 := E_b2.wr W17
      have F_b2_values := F_b2_values.other W17 (Or.inl ne_b2_va2)
      have A_va1 := A_va1.other W17 ne_va1_va2
      have F_b2_lows := F_b2_lows.other W17 (Or.inl ne_b2_va2)
      have A_lo1 := A_lo1.other W17 ne_lo1_va2
      have F_b2_errors := F_b2_errors.other W17 (Or.inl ne_b2_va2)
      have A_er1 := A_er1.other W17 ne_er1_va2
      have E_b4 := E_b4.wr W17
      have F_b4_values := F_b4_values.other W17 (Or.inl ne_b4_va2)
      have A_va2 := A_va2.setD W17
      have F_b4_lows := F_b4_lows.other W17 (Or.inl ne_b4_va2)
      have A_lo2 := A_lo2.other W17 (Ne.symm ne_va2_lo2)
      have F_b4_errors := F_b4_errors.other W17 (Or.inl ne_b4_va2)
      have A_er2 := A_er2.other W17 (Ne.symm ne_va2_er2)
      refine r_aload 186 X at_184 rfl rfl ?_
      refine r_iconst 187 X (2 : Int32) at_186 rfl ?_
      refine r_dload 189 X at_187 rfl ?_
      refine r_dastore 190 X A_va2 (i := 2) (v := (.double (FP.i2d p3))) (by decide) (by decide) rfl gva2 at_189 ?_
      intro T h18 W18 X
      have E_b2 := E_b2.wr W18
      have F_b2_values := F_b2_values.other W18 (Or.inl ne_b2_va2)
      have A_va1 := A_va1.other W18 ne_va1_va2
      have F_b2_lows := F_b2_lows.other W18 (Or.inl ne_b2_va2)
      have A_lo1 := A_lo1.other W18 ne_lo1_va2
      have F_b2_errors := F_b2_errors.other W18 (Or.inl ne_b2_va2)
      have A_er1 := A_er1.other W18 ne_er1_va2
      have E_b4 := E_b4.wr W18
      have F_b4_values := F_b4_values.other W18 (Or.inl ne_b4_va2)
      have A_va2 := A_va2.setD W18
      have F_b4_lows := F_b4_lows.other W18 (Or.inl ne_b4_va2)
      have A_lo2 := A_lo2.other W18 (Ne.symm ne_va2_lo2)
      have F_b4_errors := F_b4_errors.other W18 (Or.inl ne_b4_va2)
      have A_er2 := A_er2.other W18 (Ne.symm ne_va2_er2)
      refine r_aload 192 X at_190 rfl rfl ?_
      refine r_iconst 193 X (0 : Int32) at_192 rfl ?_
      refine r_dload 195 X at_193 rfl ?_
      refine r_dastore 196 X A_er2 (i := 0) (v := (.double (FP.i2d (p4 &&& (2147483647 : Int32))))) (by decide) (by decide) rfl ger2 at_195 ?_
      intro T h19 W19 X
      have E_b2 := E_b2.wr W19
      have F_b2_values := F_b2_values.other W19 (Or.inl ne_b2_er2)
      have A_va1 := A_va1.other W19 ne_va1_er2
      have F_b2_lows := F_b2_lows.other W19 (Or.inl ne_b2_er2)
      have A_lo1 := A_lo1.other W19 ne_lo1_er2
      have F_b2_errors := F_b2_errors.other W19 (Or.inl ne_b2_er2)
      have A_er1 := A_er1.other W19 ne_er1_er2
      have E_b4 := E_b4.wr W19
      have F_b4_values := F_b4_values.other W19 (Or.inl ne_b4_er2)
      have A_va2 := A_va2.other W19 ne_va2_er2
      have F_b4_lows := F_b4_lows.other W19 (Or.inl ne_b4_er2)
      have A_lo2 := A_lo2.other W19 ne_lo2_er2
      have F_b4_errors := F_b4_errors.other W19 (Or.inl ne_b4_er2)
      have A_er2 := A_er2.setD W19
      refine r_aload 198 X at_196 rfl rfl ?_
      refine r_iconst 199 X (1 : Int32) at_198 rfl ?_
      refine r_dload 201 X at_199 rfl ?_
      refine r_dastore 202 X A_er2 (i := 1) (v := (.double (FP.i2d (p4 &&& (2147483647 : Int32))))) (by decide) (by decide) rfl ger2 at_201 ?_
      intro T h20 W20 X
      have E_b2 := E_b2.wr W20
      have F_b2_values := F_b2_values.other W20 (Or.inl ne_b2_er2)
      have A_va1 := A_va1.other W20 ne_va1_er2
      have F_b2_lows := F_b2_lows.other W20 (Or.inl ne_b2_er2)
      have A_lo1 := A_lo1.other W20 ne_lo1_er2
      have F_b2_errors := F_b2_errors.other W20 (Or.inl ne_b2_er2)
      have A_er1 := A_er1.other W20 ne_er1_er2
      have E_b4 := E_b4.wr W20
      have F_b4_values := F_b4_values.other W20 (Or.inl ne_b4_er2)
      have A_va2 := A_va2.other W20 ne_va2_er2
      have F_b4_lows := F_b4_lows.other W20 (Or.inl ne_b4_er2)
      have A_lo2 := A_lo2.other W20 ne_lo2_er2
      have F_b4_errors := F_b4_errors.other W20 (Or.inl ne_b4_er2)
      have A_er2 := A_er2.setD W20
      refine r_aload 204 X at_202 rfl rfl ?_
      refine r_iconst 205 X (2 : Int32) at_204 rfl ?_
      refine r_dload 207 X at_205 rfl ?_
      refine r_dastore 208 X A_er2 (i := 2) (v := (.double (FP.i2d (p4 &&& (2147483647 : Int32))))) (by decide) (by decide) rfl ger2 at_207 ?_
      intro T h21 W21 X
      have E_b2 := E_b2.wr W21
      have F_b2_values := F_b2_values.other W21 (Or.inl ne_b2_er2)
      have A_va1 := A_va1.other W21 ne_va1_er2
      have F_b2_lows := F_b2_lows.other W21 (Or.inl ne_b2_er2)
      have A_lo1 := A_lo1.other W21 ne_lo1_er2
      have F_b2_errors := F_b2_errors.other W21 (Or.inl ne_b2_er2)
      have A_er1 := A_er1.other W21 ne_er1_er2
      have E_b4 := E_b4.wr W21
      have F_b4_values := F_b4_values.other W21 (Or.inl ne_b4_er2)
      have A_va2 := A_va2.other W21 ne_va2_er2
      have F_b4_lows := F_b4_lows.other W21 (Or.inl ne_b4_er2)
      have A_lo2 := A_lo2.other W21 ne_lo2_er2
      have F_b4_errors := F_b4_errors.other W21 (Or.inl ne_b4_er2)
      have A_er2 := A_er2.setD W21
      refine r_aload 210 X at_208 rfl rfl ?_
      refine r_aload 212 X at_210 rfl rfl ?_
      refine r_iload 214 X at_212 rfl ?_
      refine r_virtual 217 X (st := []) (a := b4) (rmCopy l Z a0 hw n0 _ X.sz b4 b2 va2 lo2 er2 va1 lo1 er1 (updD (updD (updD (fun _ => (0 : UInt64)) 0 (FP.i2d p3)) 1 (FP.i2d p3)) 2 (FP.i2d p3)) (fun _ => (0 : UInt64)) (updD (updD (updD (fun _ => (0 : UInt64)) 0 (FP.i2d (p4 &&& (2147483647 : Int32)))) 1 (FP.i2d (p4 &&& (2147483647 : Int32)))) 2 (FP.i2d (p4 &&& (2147483647 : Int32)))) (updD (updD (updD (fun _ => (0 : UInt64)) 0 (FP.i2d p0)) 1 (FP.dsub (FP.dneg (FP.i2d p0)) FP.dconst1)) 2 (FP.dadd (FP.i2d p0) (4602678819172646912 : UInt64))) (fun _ => (0 : UInt64)) (updD (updD (updD (fun _ => (0 : UInt64)) 0 (FP.i2d (p1 &&& (2147483647 : Int32)))) 1 (FP.dadd (FP.i2d (p1 &&& (2147483647 : Int32))) FP.dconst1)) 2 (FP.dadd (FP.i2d (p1 &&& (2147483647 : Int32))) (4602678819172646912 : UInt64))) (0 : Int32) 0 (by decide) (by decide) gva2 glo2 ger2 ne_b4_er2 ne_b4_lo2 ne_b4_va2 ne_b2_er2 ne_b2_lo2 ne_b2_va2 (Ne.symm ne_lo2_er2) (Ne.symm ne_va2_er2) ne_er1_er2 ne_er1_lo2 ne_er1_va2 (Ne.symm ne_va2_lo2) ne_lo1_er2 ne_lo1_lo2 ne_lo1_va2 ne_va1_er2 ne_va1_lo2 ne_va1_va2 F_b4_values F_b4_lows F_b4_errors F_b2_values F_b2_lows F_b2_errors A_va2 A_lo2 A_er2 A_va1 A_lo1 A_er1) E_b4 (hw _ (List.mem_of_getElem? (i := 33) rfl)) (hw _ (List.mem_of_getElem? (i := 34) rfl)) (hw _ (List.mem_of_getElem? (i := 36) rfl)) (hw _ (List.mem_of_getElem? (i := 36) rfl)) (hw _ (List.mem_of_getElem? (i := 35) rfl)) (hw _ (List.mem_of_getElem? (i := 37) rfl)) (hw _ (List.mem_of_getElem? (i := 6) rfl)) (by decide) pd_2 [(.ref b2), (.int (0 : Int32))] rfl rfl 0 (Nat.le_of_eq rfl) rfl (by decide) (by decide) (by decide) (by decide) at_214 ?_
      rintro T h22 v22 ⟨rfl, K22, Aa22, Ab22⟩ X
      have E_b2 := E_b2.keep K22
      have F_b2_values := F_b2_values.keep K22 (ninS ne_b2_va2 (ninS ne_b2_lo2 (ninS ne_b2_er2 nin0)))
      have A_va1 := A_va1.keep K22 (ninS ne_va1_va2 (ninS ne_va1_lo2 (ninS ne_va1_er2 nin0)))
      have F_b2_lows := F_b2_lows.keep K22 (ninS ne_b2_va2 (ninS ne_b2_lo2 (ninS ne_b2_er2 nin0)))
      have A_lo1 := A_lo1.keep K22 (ninS ne_lo1_va2 (ninS ne_lo1_lo2 (ninS ne_lo1_er2 nin0)))
      have F_b2_errors := F_b2_errors.keep K22 (ninS ne_b2_va2 (ninS ne_b2_lo2 (ninS ne_b2_er2 nin0)))
      have A_er1 := A_er1.keep K22 (ninS ne_er1_va2 (ninS ne_er1_lo2 (ninS ne_er1_er2 nin0)))
      have E_b4 := E_b4.keep K22
      have F_b4_values := F_b4_values.keep K22 (ninS ne_b4_va2 (ninS ne_b4_lo2 (ninS ne_b4_er2 nin0)))
      have F_b4_lows := F_b4_lows.keep K22 (ninS ne_b4_va2 (ninS ne_b4_lo2 (ninS ne_b4_er2 nin0)))
      have F_b4_errors := F_b4_errors.keep K22 (ninS ne_b4_va2 (ninS ne_b4_lo2 (ninS ne_b4_er2 nin0)))
      replace Aa22 : AF Z h22 va2 .double 3 (fun j => .double ((updD (updD (updD (updD (fun _ => (0 : UInt64)) 0 (FP.i2d p3)) 1 (FP.i2d p3)) 2 (FP.i2d p3)) 0 (FP.i2d p0)) j)) := Aa22
      have A_va2 := Aa22
      replace Ab22 : AF Z h22 er2 .double 3 (fun j => .double ((updD (updD (updD (updD (fun _ => (0 : UInt64)) 0 (FP.i2d (p4 &&& (2147483647 : Int32)))) 1 (FP.i2d (p4 &&& (2147483647 : Int32)))) 2 (FP.i2d (p4 &&& (2147483647 : Int32)))) 0 (FP.i2d (p1 &&& (2147483647 : Int32)))) j)) := Ab22
      have A_er2 := Ab22
      change Run _ _ _ _ _ _ _ _ []
      refine r_aload 219 X at_217 rfl rfl ?_
      refine r_iload 221 X at_219 rfl ?_
      refine r_daload 222 X A_va2 (i := 0) (v := (.double (FP.i2d p0))) (by decide) (by decide) rfl at_221 ?_
      refine r_dload 224 X at_222 rfl ?_
      refine r_dcmpSelf 225 X at_224 (Jvm.Free.Fl.i2d_fin _).noNaN ?_
      refine r_ifN 228 X at_225 ((if0 _ _).trans (teq (by decide)).2) ?_
      refine r_aload 230 X at_228 rfl rfl ?_
      refine r_iload 232 X at_230 rfl ?_
      refine r_daload 233 X A_er2 (i := 0) (v := (.double (FP.i2d (p1 &&& (2147483647 : Int32))))) (by decide) (by decide) rfl at_232 ?_
      refine r_dload 235 X at_233 rfl ?_
      refine r_dcmpSelf 236 X at_235 (Jvm.Free.Fl.i2d_fin _).noNaN ?_
      refine r_ifN 239 X at_236 ((if0 _ _).trans (teq (by decide)).2) ?_
      refine r_iconst 240 X (1 : Int32) at_239 rfl ?_
      refine r_goto 244 X at_240 ?_
      refine r_istore 246 X #[.val (.int p0), .val (.int p1), .val (.int p2), .val (.int p3), .val (.int p4), .val (.int p5), .val (.ref pr), .val (.int (0 : Int32)), .val (.int (1 : Int32)), .val (.int (2 : Int32)), .val (.double (FP.i2d p0)), .second, .val (.double (FP.i2d (p1 &&& (2147483647 : Int32)))), .second, .val (.double (FP.i2d p3)), .second, .val (.double (FP.i2d (p4 &&& (2147483647 : Int32)))), .second, .val (.ref b2), .val (.ref b4), .val (.ref va1), .val (.ref er1), .val (.ref va2), .val (.ref er2), .val (.int (1 : Int32)), .unset, .unset] at_244 rfl ?_
      refine r_aload 248 X at_246 rfl rfl ?_
      refine r_iload 250 X at_248 rfl ?_
      refine r_daload 251 X A_va2 (i := 1) (v := (.double (FP.i2d p3))) (by decide) (by decide) rfl at_250 ?_
      refine r_dload 253 X at_251 rfl ?_
      refine r_dcmpSelf 254 X at_253 (Jvm.Free.Fl.i2d_fin _).noNaN ?_
      refine r_ifN 257 X at_254 ((if0 _ _).trans (teq (by decide)).2) ?_
      refine r_aload 259 X at_257 rfl rfl ?_
      refine r_iload 261 X at_259 rfl ?_
      refine r_daload 262 X A_er2 (i := 1) (v := (.double (FP.i2d (p4 &&& (2147483647 : Int32))))) (by decide) (by decide) rfl at_261 ?_
      refine r_dload 264 X at_262 rfl ?_
      refine r_dcmpSelf 265 X at_264 (Jvm.Free.Fl.i2d_fin _).noNaN ?_
      refine r_ifN 268 X at_265 ((if0 _ _).trans (teq (by decide)).2) ?_
      refine r_aload 270 X at_268 rfl rfl ?_
      refine r_iload 272 X at_270 rfl ?_
      refine r_daload 273 X A_va2 (i := 2) (v := (.double (FP.i2d p3))) (by decide) (by decide) rfl at_272 ?_
      refine r_dload 275 X at_273 rfl ?_
      refine r_dcmpSelf 276 X at_275 (Jvm.Free.Fl.i2d_fin _).noNaN ?_
      refine r_ifN 279 X at_276 ((if0 _ _).trans (teq (by decide)).2) ?_
      refine r_aload 281 X at_279 rfl rfl ?_
      refine r_iload 283 X at_281 rfl ?_
      refine r_daload 284 X A_er2 (i := 2) (v := (.double (FP.i2d (p4 &&& (2147483647 : Int32))))) (by decide) (by decide) rfl at_283 ?_
      refine r_dload 286 X at_284 rfl ?_
      refine r_dcmpSelf 287 X at_286 (Jvm.Free.Fl.i2d_fin _).noNaN ?_
      refine r_ifN 290 X at_287 ((if0 _ _).trans (teq (by decide)).2) ?_
      refine r_iconst 291 X (1 : Int32) at_290 rfl ?_
      refine r_goto 295 X at_291 ?_
      refine r_istore 297 X #[.val (.int p0), .val (.int p1), .val (.int p2), .val (.int p3), .val (.int p4), .val (.int p5), .val (.ref pr), .val (.int (0 : Int32)), .val (.int (1 : Int32)), .val (.int (2 : Int32)), .val (.double (FP.i2d p0)), .second, .val (.double (FP.i2d (p1 &&& (2147483647 : Int32)))), .second, .val (.double (FP.i2d p3)), .second, .val (.double (FP.i2d (p4 &&& (2147483647 : Int32)))), .second, .val (.ref b2), .val (.ref b4), .val (.ref va1), .val (.ref er1), .val (.ref va2), .val (.ref er2), .val (.int (1 : Int32)), .val (.int (1 : Int32)), .unset] at_295 rfl ?_
      refine r_aload 299 X at_297 rfl rfl ?_
      refine r_iload 301 X at_299 rfl ?_
      refine r_daload 302 X A_va1 (i := 0) (v := (.double (FP.i2d p0))) (by decide) (by decide) rfl at_301 ?_
      refine r_dload 304 X at_302 rfl ?_
      refine r_dcmpSelf 305 X at_304 (Jvm.Free.Fl.i2d_fin _).noNaN ?_
      refine r_ifN 308 X at_305 ((if0 _ _).trans (teq (by decide)).2) ?_
      refine r_aload 310 X at_308 rfl rfl ?_
      refine r_iload 312 X at_310 rfl ?_
      refine r_daload 313 X A_er1 (i := 0) (v := (.double (FP.i2d (p1 &&& (2147483647 : Int32))))) (by decide) (by decide) rfl at_312 ?_
      refine r_dload 315 X at_313 rfl ?_
      refine r_dcmpSelf 316 X at_315 (Jvm.Free.Fl.i2d_fin _).noNaN ?_
      refine r_ifN 319 X at_316 ((if0 _ _).trans (teq (by decide)).2) ?_
      refine r_aload 321 X at_319 rfl rfl ?_
      refine r_iload 323 X at_321 rfl ?_
      refine r_daload 324 X A_va1 (i := 1) (v := (.double (FP.dsub (FP.dneg (FP.i2d p0)) FP.dconst1))) (by decide) (by decide) rfl at_323 ?_
      refine r_dload 326 X at_324 rfl ?_
      refine r_dneg 327 X at_326 ?_
      refine r_dconst1 328 X at_327 ?_
      refine r_dsub 329 X at_328 (Jvm.Free.Fl.dsub_out ((dneg_mag (Jvm.Free.Fl.i2d_mag _)).fin (by decide)).noNaN own_fin1) ?_
      refine r_dcmpSelf 330 X at_329 (Jvm.Free.Fl.dsub_out ((dneg_mag (Jvm.Free.Fl.i2d_mag _)).fin (by decide)).noNaN own_fin1) ?_
      refine r_ifN 333 X at_330 ((if0 _ _).trans (teq (by decide)).2) ?_
      refine r_aload 335 X at_333 rfl rfl ?_
      refine r_iload 337 X at_335 rfl ?_
      refine r_daload 338 X A_er1 (i := 1) (v := (.double (FP.dadd (FP.i2d (p1 &&& (2147483647 : Int32))) FP.dconst1))) (by decide) (by decide) rfl at_337 ?_
      refine r_dload 340 X at_338 rfl ?_
      refine r_dconst1 341 X at_340 ?_
      refine r_dadd 342 X at_341 (Jvm.Free.Fl.dadd_out (Jvm.Free.Fl.i2d_fin _).noNaN own_fin1) ?_
      refine r_dcmpSelf 343 X at_342 (Jvm.Free.Fl.dadd_out (Jvm.Free.Fl.i2d_fin _).noNaN own_fin1) ?_
      refine r_ifN 346 X at_343 ((if0 _ _).trans (teq (by decide)).2) ?_
      refine r_aload 348 X at_346 rfl rfl ?_
      refine r_iload 350 X at_348 rfl ?_
      refine r_daload 351 X A_va1 (i := 2) (v := (.double (FP.dadd (FP.i2d p0) (4602678819172646912 : UInt64)))) (by decide) (by decide) rfl at_350 ?_
      refine r_dload 353 X at_351 rfl ?_
      refine r_ldc2Double 356 X (hw _ (List.mem_of_getElem? (i := 32) rfl)) at_353 ?_
      refine r_dadd 357 X at_356 (Jvm.Free.Fl.dadd_out (Jvm.Free.Fl.i2d_fin _).noNaN own_fin2) ?_
      refine r_dcmpSelf 358 X at_357 (Jvm.Free.Fl.dadd_out (Jvm.Free.Fl.i2d_fin _).noNaN own_fin2) ?_
      refine r_ifN 361 X at_358 ((if0 _ _).trans (teq (by decide)).2) ?_
      refine r_aload 363 X at_361 rfl rfl ?_
      refine r_iload 365 X at_363 rfl ?_
      refine r_daload 366 X A_er1 (i := 2) (v := (.double (FP.dadd (FP.i2d (p1 &&& (2147483647 : Int32))) (4602678819172646912 : UInt64)))) (by decide) (by decide) rfl at_365 ?_
      refine r_dload 368 X at_366 rfl ?_
      refine r_ldc2Double 371 X (hw _ (List.mem_of_getElem? (i := 32) rfl)) at_368 ?_
      refine r_dadd 372 X at_371 (Jvm.Free.Fl.dadd_out (Jvm.Free.Fl.i2d_fin _).noNaN own_fin2) ?_
      refine r_dcmpSelf 373 X at_372 (Jvm.Free.Fl.dadd_out (Jvm.Free.Fl.i2d_fin _).noNaN own_fin2) ?_
      refine r_ifN 376 X at_373 ((if0 _ _).trans (teq (by decide)).2) ?_
      refine r_iconst 377 X (1 : Int32) at_376 rfl ?_
      refine r_goto 381 X at_377 ?_
      refine r_istore 383 X #[.val (.int p0), .val (.int p1), .val (.int p2), .val (.int p3), .val (.int p4), .val (.int p5), .val (.ref pr), .val (.int (0 : Int32)), .val (.int (1 : Int32)), .val (.int (2 : Int32)), .val (.double (FP.i2d p0)), .second, .val (.double (FP.i2d (p1 &&& (2147483647 : Int32)))), .second, .val (.double (FP.i2d p3)), .second, .val (.double (FP.i2d (p4 &&& (2147483647 : Int32)))), .second, .val (.ref b2), .val (.ref b4), .val (.ref va1), .val (.ref er1), .val (.ref va2), .val (.ref er2), .val (.int (1 : Int32)), .val (.int (1 : Int32)), .val (.int (1 : Int32))] at_381 rfl ?_
      refine r_iload 385 X at_383 rfl ?_
      refine r_ifN 388 X at_385 ((if0 _ _).trans (feq (by decide)).1) ?_
      refine r_iload 390 X at_388 rfl ?_
      refine r_ifN 393 X at_390 ((if0 _ _).trans (feq (by decide)).1) ?_
      refine r_iload 395 X at_393 rfl ?_
      refine r_ifN 398 X at_395 ((if0 _ _).trans (feq (by decide)).1) ?_
      refine r_iconst 399 X (1 : Int32) at_398 rfl ?_
      refine r_goto 403 X at_399 ?_
      refine r_retZ (z := (1 : Int32)) X at_403 rfl (by decide) (by decide) ?_
      exact rfl
    · refine r_topI es ?_
      refine r_istore 26 X #[.val (.int p0), .val (.int p1), .val (.int p2), .val (.int p3), .val (.int p4), .val (.int p5), .val (.ref pr), .val (.int (1 : Int32)), .unset, .unset, .unset, .unset, .unset, .unset, .unset, .unset, .unset, .unset, .unset, .unset, .unset, .unset, .unset, .unset, .unset, .unset, .unset] at_24 rfl ?_
      refine r_iload 28 X at_26 rfl ?_
      refine r_iconst 29 X (1 : Int32) at_28 rfl ?_
      refine r_iadd 30 X at_29 ?_
      refine r_topI (x' := (2 : Int32)) (by decide) ?_
      refine r_iconst 31 X (3 : Int32) at_30 rfl ?_
      refine r_irem 32 X at_31 (by decide) ?_
      refine r_topI (x' := (2 : Int32)) (by decide) ?_
      refine r_istore 34 X #[.val (.int p0), .val (.int p1), .val (.int p2), .val (.int p3), .val (.int p4), .val (.int p5), .val (.ref pr), .val (.int (1 : Int32)), .val (.int (2 : Int32)), .unset, .unset, .unset, .unset, .unset, .unset, .unset, .unset, .unset, .unset, .unset, .unset, .unset, .unset, .unset, .unset, .unset, .unset] at_32 rfl ?_
      refine r_iload 36 X at_34 rfl ?_
      refine r_iconst 37 X (2 : Int32) at_36 rfl ?_
      refine r_iadd 38 X at_37 ?_
      refine r_topI (x' := (3 : Int32)) (by decide) ?_
      refine r_iconst 39 X (3 : Int32) at_38 rfl ?_
      refine r_irem 40 X at_39 (by decide) ?_
      refine r_topI (x' := (0 : Int32)) (by decide) ?_
      refine r_istore 42 X #[.val (.int p0), .val (.int p1), .val (.int p2), .val (.int p3), .val (.int p4), .val (.int p5), .val (.ref pr), .val (.int (1 : Int32)), .val (.int (2 : Int32)), .val (.int (0 : Int32)), .unset, .unset, .unset, .unset, .unset, .unset, .unset, .unset, .unset, .unset, .unset, .unset, .unset, .unset, .unset, .unset, .unset] at_40 rfl ?_
      refine r_iloadN 43 X at_42 rfl ?_
      refine r_i2d 44 X at_43 ?_
      refine r_dstore 46 X #[.val (.int p0), .val (.int p1), .val (.int p2), .val (.int p3), .val (.int p4), .val (.int p5), .val (.ref pr), .val (.int (1 : Int32)), .val (.int (2 : Int32)), .val (.int (0 : Int32)), .val (.double (FP.i2d p0)), .second, .unset, .unset, .unset, .unset, .unset, .unset, .unset, .unset, .unset, .unset, .unset, .unset, .unset, .unset, .unset] at_44 rfl ?_
      refine r_iloadN 47 X at_46 rfl ?_
      refine r_ldcInt 49 X (hw _ (List.mem_of_getElem? (i := 3) rfl)) at_47 ?_
      refine r_iand 50 X at_49 ?_
      refine r_i2d 51 X at_50 ?_
      refine r_dstore 53 X #[.val (.int p0), .val (.int p1), .val (.int p2), .val (.int p3), .val (.int p4), .val (.int p5), .val (.ref pr), .val (.int (1 : Int32)), .val (.int (2 : Int32)), .val (.int (0 : Int32)), .val (.double (FP.i2d p0)), .second, .val (.double (FP.i2d (p1 &&& (2147483647 : Int32)))), .second, .unset, .unset, .unset, .unset, .unset, .unset, .unset, .unset, .unset, .unset, .unset, .unset, .unset] at_51 rfl ?_
      refine r_iloadN 54 X at_53 rfl ?_
      refine r_i2d 55 X at_54 ?_
      refine r_dstore 57 X #[.val (.int p0), .val (.int p1), .val (.int p2), .val (.int p3), .val (.int p4), .val (.int p5), .val (.ref pr), .val (.int (1 : Int32)), .val (.int (2 : Int32)), .val (.int (0 : Int32)), .val (.double (FP.i2d p0)), .second, .val (.double (FP.i2d (p1 &&& (2147483647 : Int32)))), .second, .val (.double (FP.i2d p3)), .second, .unset, .unset, .unset, .unset, .unset, .unset, .unset, .unset, .unset, .unset, .unset] at_55 rfl ?_
      refine r_iload 59 X at_57 rfl ?_
      refine r_ldcInt 61 X (hw _ (List.mem_of_getElem? (i := 3) rfl)) at_59 ?_
      refine r_iand 62 X at_61 ?_
      refine r_i2d 63 X at_62 ?_
      refine r_dstore 65 X #[.val (.int p0), .val (.int p1), .val (.int p2), .val (.int p3), .val (.int p4), .val (.int p5), .val (.ref pr), .val (.int (1 : Int32)), .val (.int (2 : Int32)), .val (.int (0 : Int32)), .val (.double (FP.i2d p0)), .second, .val (.double (FP.i2d (p1 &&& (2147483647 : Int32)))), .second, .val (.double (FP.i2d p3)), .second, .val (.double (FP.i2d (p4 &&& (2147483647 : Int32)))), .second, .unset, .unset, .unset, .unset, .unset, .unset, .unset, .unset, .unset] at_63 rfl ?_
      refine r_new 68 X (hw _ (List.mem_of_getElem? (i := 4) rfl)) (hw _ (List.mem_of_getElem? (i := 5) rfl)) (hw _ (List.mem_of_getElem? (i := 6) rfl)) at_65 (by decide) (by decide) ?_
      intro T h23 b23 g23 gn_b23 E23 A23 D23 X
      have E_b23 := A23
      have F_b23_precision : Fld Z h23 b23 "com/example/heliotrope/heliotrope/lra/StateValues" "precision" "Lcom/example/heliotrope/heliotrope/lra/Precision;" .null := D23 (Or.inr (hw _ (List.mem_of_getElem? (i := 14) rfl))) (ty := (.object "com/example/heliotrope/heliotrope/lra/Precision")) (by decide)
      have F_b23_values : Fld Z h23 b23 "com/example/heliotrope/heliotrope/lra/StateValues" "values" "[D" .null := D23 (Or.inr (hw _ (List.mem_of_getElem? (i := 17) rfl))) (ty := (.array .double)) (by decide)
      have F_b23_lows : Fld Z h23 b23 "com/example/heliotrope/heliotrope/lra/StateValues" "lows" "[D" .null := D23 (Or.inr (hw _ (List.mem_of_getElem? (i := 19) rfl))) (ty := (.array .double)) (by decide)
      have F_b23_errors : Fld Z h23 b23 "com/example/heliotrope/heliotrope/lra/StateValues" "errors" "[D" .null := D23 (Or.inr (hw _ (List.mem_of_getElem? (i := 21) rfl))) (ty := (.array .double)) (by decide)
      refine r_dup 69 X at_68 rfl ?_
      refine r_iconst 70 X (3 : Int32) at_69 rfl ?_
      refine r_aload 72 X at_70 rfl rfl ?_
      refine r_special 75 X (st := [(.ref b23)]) (a := b23) (rmIni l Z a0 hw n0 _ X.sz b23 pr E_b23 F_b23_precision F_b23_values F_b23_lows F_b23_errors gn_b23) rfl rfl (hw _ (List.mem_of_getElem? (i := 7) rfl)) (hw _ (List.mem_of_getElem? (i := 8) rfl)) (hw _ (List.mem_of_getElem? (i := 9) rfl)) (hw _ (List.mem_of_getElem? (i := 6) rfl)) (by decide) pd_0 [(.int (3 : Int32)), (.ref pr)] rfl rfl 1 (Nat.le_of_eq rfl) rfl (by decide) (by decide) (by decide) (by decide) at_72 ?_
      rintro T h24 v24 ⟨rfl, K24, va1, lo1, er1, Qva1, Qlo1, Qer1, Bva1, Blo1, Ber1, zva1, zlo1, zer1, gva1, glo1, ger1, ne_va1_lo1, ne_va1_er1, ne_lo1_er1⟩ X
      have ne_b23_va1 : b23 ≠ va1 := Nat.ne_of_lt (Nat.lt_of_lt_of_le E_b23.lt zva1)
      have ne_b23_lo1 : b23 ≠ lo1 := Nat.ne_of_lt (Nat.lt_of_lt_of_le E_b23.lt zlo1)
      have ne_b23_er1 : b23 ≠ er1 := Nat.ne_of_lt (Nat.lt_of_lt_of_le E_b23.lt zer1)
      have E_b23 := E_b23.keep K24
      have F_b23_values := Qva1
      have A_va1 := Bva1
      have F_b23_lows := Qlo1
      have A_lo1 := Blo1
      have F_b23_errors := Qer1
      have A_er1 := Ber1
      change Run _ _ _ _ _ _ _ _ [(.ref b23)]
      refine r_astore 77 X #[.val (.int p0), .val (.int p1), .val (.int p2), .val (.int p3), .val (.int p4), .val (.int p5), .val (.ref pr), .val (.int (1 : Int32)), .val (.int (2 : Int32)), .val (.int (0 : Int32)), .val (.double (FP.i2d p0)), .second, .val (.double (FP.i2d (p1 &&& (2147483647 : Int32)))), .second, .val (.double (FP.i2d p3)), .second, .val (.double (FP.i2d (p4 &&& (2147483647 : Int32)))), .second, .val (.ref b23), .unset, .unset, .unset, .unset, .unset, .unset, .unset, .unset] at_75 rfl rfl ?_
      refine r_new 80 X (hw _ (List.mem_of_getElem? (i := 4) rfl)) (hw _ (List.mem_of_getElem? (i := 5) rfl)) (hw _ (List.mem_of_getElem? (i := 6) rfl)) at_77 (by decide) (by decide) ?_
      intro T h25 b25 g25 gn_b25 E25 A25 D25 X
      have ne_lo1_b25 : lo1 ≠ b25 := Nat.ne_of_lt (Nat.lt_of_lt_of_eq A_lo1.lt g25.symm)
      have ne_va1_b25 : va1 ≠ b25 := Nat.ne_of_lt (Nat.lt_of_lt_of_eq A_va1.lt g25.symm)
      have ne_b23_b25 : b23 ≠ b25 := Nat.ne_of_lt (Nat.lt_of_lt_of_eq E_b23.lt g25.symm)
      have ne_er1_b25 : er1 ≠ b25 := Nat.ne_of_lt (Nat.lt_of_lt_of_eq A_er1.lt g25.symm)
      have E_b23 := E_b23.ext E25
      have F_b23_values := F_b23_values.ext E25
      have A_va1 := A_va1.ext E25
      have F_b23_lows := F_b23_lows.ext E25
      have A_lo1 := A_lo1.ext E25
      have F_b23_errors := F_b23_errors.ext E25
      have A_er1 := A_er1.ext E25
      have E_b25 := A25
      have F_b25_precision : Fld Z h25 b25 "com/example/heliotrope/heliotrope/lra/StateValues" "precision" "Lcom/example/heliotrope/heliotrope/lra/Precision;" .null := D25 (Or.inr (hw _ (List.mem_of_getElem? (i := 14) rfl))) (ty := (.object "com/example/heliotrope/heliotrope/lra/Precision")) (by decide)
      have F_b25_values : Fld Z h25 b25 "com/example/heliotrope/heliotrope/lra/StateValues" "values" "[D" .null := D25 (Or.inr (hw _ (List.mem_of_getElem? (i := 17) rfl))) (ty := (.array .double)) (by decide)
      have F_b25_lows : Fld Z h25 b25 "com/example/heliotrope/heliotrope/lra/StateValues" "lows" "[D" .null := D25 (Or.inr (hw _ (List.mem_of_getElem? (i := 19) rfl))) (ty := (.array .double)) (by decide)
      have F_b25_errors : Fld Z h25 b25 "com/example/heliotrope/heliotrope/lra/StateValues" "errors" "[D" .null := D25 (Or.inr (hw _ (List.mem_of_getElem? (i := 21) rfl))) (ty := (.array .double)) (by decide)
      refine r_dup 81 X at_80 rfl ?_
      refine r_iconst 82 X (3 : Int32) at_81 rfl ?_
      refine r_aload 84 X at_82 rfl rfl ?_
      refine r_special 87 X (st := [(.ref b25)]) (a := b25) (rmIni l Z a0 hw n0 _ X.sz b25 pr E_b25 F_b25_precision F_b25_values F_b25_lows F_b25_errors gn_b25) rfl rfl (hw _ (List.mem_of_getElem? (i := 7) rfl)) (hw _ (List.mem_of_getElem? (i := 8) rfl)) (hw _ (List.mem_of_getElem? (i := 9) rfl)) (hw _ (List.mem_of_getElem? (i := 6) rfl)) (by decide) pd_0 [(.int (3 : Int32)), (.ref pr)] rfl rfl 1 (Nat.le_of_eq rfl) rfl (by decide) (by decide) (by decide) (by decide) at_84 ?_
      rintro T h26 v26 ⟨rfl, K26, va2, lo2, er2, Qva2, Qlo2, Qer2, Bva2, Blo2, Ber2, zva2, zlo2, zer2, gva2, glo2, ger2, ne_va2_lo2, ne_va2_er2, ne_lo2_er2⟩ X
      have ne_b23_va2 : b23 ≠ va2 := Nat.ne_of_lt (Nat.lt_of_lt_of_le E_b23.lt zva2)
      have ne_b25_va2 : b25 ≠ va2 := Nat.ne_of_lt (Nat.lt_of_lt_of_le E_b25.lt zva2)
      have ne_er1_va2 : er1 ≠ va2 := Nat.ne_of_lt (Nat.lt_of_lt_of_le A_er1.lt zva2)
      have ne_lo1_va2 : lo1 ≠ va2 := Nat.ne_of_lt (Nat.lt_of_lt_of_le A_lo1.lt zva2)
      have ne_va1_va2 : va1 ≠ va2 := Nat.ne_of_lt (Nat.lt_of_lt_of_le A_va1.lt zva2)
      have ne_b23_lo2 : b23 ≠ lo2 := Nat.ne_of_lt (Nat.lt_of_lt_of_le E_b23.lt zlo2)
      have ne_b25_lo2 : b25 ≠ lo2 := Nat.ne_of_lt (Nat.lt_of_lt_of_le E_b25.lt zlo2)
      have ne_er1_lo2 : er1 ≠ lo2 := Nat.ne_of_lt (Nat.lt_of_lt_of_le A_er1.lt zlo2)
      have ne_lo1_lo2 : lo1 ≠ lo2 := Nat.ne_of_lt (Nat.lt_of_lt_of_le A_lo1.lt zlo2)
      have ne_va1_lo2 : va1 ≠ lo2 := Nat.ne_of_lt (Nat.lt_of_lt_of_le A_va1.lt zlo2)
      have ne_b23_er2 : b23 ≠ er2 := Nat.ne_of_lt (Nat.lt_of_lt_of_le E_b23.lt zer2)
      have ne_b25_er2 : b25 ≠ er2 := Nat.ne_of_lt (Nat.lt_of_lt_of_le E_b25.lt zer2)
      have ne_er1_er2 : er1 ≠ er2 := Nat.ne_of_lt (Nat.lt_of_lt_of_le A_er1.lt zer2)
      have ne_lo1_er2 : lo1 ≠ er2 := Nat.ne_of_lt (Nat.lt_of_lt_of_le A_lo1.lt zer2)
      have ne_va1_er2 : va1 ≠ er2 := Nat.ne_of_lt (Nat.lt_of_lt_of_le A_va1.lt zer2)
      have E_b23 := E_b23.keep K26
      have F_b23_values := F_b23_values.keep K26 (ninS ne_b23_b25 nin0)
      have A_va1 := A_va1.keep K26 (ninS ne_va1_b25 nin0)
      have F_b23_lows := F_b23_lows.keep K26 (ninS ne_b23_b25 nin0)
      have A_lo1 := A_lo1.keep K26 (ninS ne_lo1_b25 nin0)
      have F_b23_errors := F_b23_errors.keep K26 (ninS ne_b23_b25 nin0)
      have A_er1 := A_er1.keep K26 (ninS ne_er1_b25 nin0)
      have E_b25 := E_b25.keep K26
      have F_b25_values := Qva2
      have A_va2 := Bva2
      have F_b25_lows := Qlo2
      have A_lo2 := Blo2
      have F_b25_errors := Qer2
      have A_er2 := Ber2
      change Run _ _ _ _ _ _ _ _ [(.ref b25)]
      refine r_astore 89 X #[.val (.int p0), .val (.int p1), .val (.int p2), .val (.int p3), .val (.int p4), .val (.int p5), .val (.ref pr), .val (.int (1 : Int32)), .val (.int (2 : Int32)), .val (.int (0 : Int32)), .val (.double (FP.i2d p0)), .second, .val (.double (FP.i2d (p1 &&& (2147483647 : Int32)))), .second, .val (.double (FP.i2d p3)), .second, .val (.double (FP.i2d (p4 &&& (2147483647 : Int32)))), .second, .val (.ref b23), .val (.ref b25), .unset, .unset, .unset, .unset, .unset, .unset, .unset] at_87 rfl rfl ?_
      refine r_aload 91 X at_89 rfl rfl ?_
      refine r_virtual 94 X (st := []) (a := b23) (rmVa l Z a0 hw n0 _ X.sz b23 va1 F_b23_values) E_b23 (hw _ (List.mem_of_getElem? (i := 22) rfl)) (hw _ (List.mem_of_getElem? (i := 23) rfl)) (hw _ (List.mem_of_getElem? (i := 25) rfl)) (hw _ (List.mem_of_getElem? (i := 25) rfl)) (hw _ (List.mem_of_getElem? (i := 24) rfl)) (hw _ (List.mem_of_getElem? (i := 26) rfl)) (hw _ (List.mem_of_getElem? (i := 6) rfl)) (by decide) pd_1 [] rfl rfl 0 (Nat.le_of_eq rfl) rfl (by decide) (by decide) (by decide) (by decide) at_91 ?_
      rintro T h27 v27 ⟨rfl, rfl⟩ X
      change Run _ _ _ _ _ _ _ _ [(.ref va1)]
      refine r_astore 96 X #[.val (.int p0), .val (.int p1), .val (.int p2), .val (.int p3), .val (.int p4), .val (.int p5), .val (.ref pr), .val (.int (1 : Int32)), .val (.int (2 : Int32)), .val (.int (0 : Int32)), .val (.double (FP.i2d p0)), .second, .val (.double (FP.i2d (p1 &&& (2147483647 : Int32)))), .second, .val (.double (FP.i2d p3)), .second, .val (.double (FP.i2d (p4 &&& (2147483647 : Int32)))), .second, .val (.ref b23), .val (.ref b25), .val (.ref va1), .unset, .unset, .unset, .unset, .unset, .unset] at_94 rfl rfl ?_
      refine r_aload 98 X at_96 rfl rfl ?_
      refine r_virtual 101 X (st := []) (a := b23) (rmEr l Z a0 hw n0 _ X.sz b23 er1 F_b23_errors) E_b23 (hw _ (List.mem_of_getElem? (i := 27) rfl)) (hw _ (List.mem_of_getElem? (i := 28) rfl)) (hw _ (List.mem_of_getElem? (i := 30) rfl)) (hw _ (List.mem_of_getElem? (i := 30) rfl)) (hw _ (List.mem_of_getElem? (i := 29) rfl)) (hw _ (List.mem_of_getElem? (i := 31) rfl)) (hw _ (List.mem_of_getElem? (i := 6) rfl)) (by decide) pd_1 [] rfl rfl 0 (Nat.le_of_eq rfl) rfl (by decide) (by decide) (by decide) (by decide) at_98 ?_
      rintro T h28 v28 ⟨rfl, rfl⟩ X
      change Run _ _ _ _ _ _ _ _ [(.ref er1)]
      refine r_astore 103 X #[.val (.int p0), .val (.int p1), .val (.int p2), .val (.int p3), .val (.int p4), .val (.int p5), .val (.ref pr), .val (.int (1 : Int32)), .val (.int (2 : Int32)), .val (.int (0 : Int32)), .val (.double (FP.i2d p0)), .second, .val (.double (FP.i2d (p1 &&& (2147483647 : Int32)))), .second, .val (.double (FP.i2d p3)), .second, .val (.double (FP.i2d (p4 &&& (2147483647 : Int32)))), .second, .val (.ref b23), .val (.ref b25), .val (.ref va1), .val (.ref er1), .unset, .unset, .unset, .unset, .unset] at_101 rfl rfl ?_
      refine r_aload 105 X at_103 rfl rfl ?_
      refine r_virtual 108 X (st := []) (a := b25) (rmVa l Z a0 hw n0 _ X.sz b25 va2 F_b25_values) E_b25 (hw _ (List.mem_of_getElem? (i := 22) rfl)) (hw _ (List.mem_of_getElem? (i := 23) rfl)) (hw _ (List.mem_of_getElem? (i := 25) rfl)) (hw _ (List.mem_of_getElem? (i := 25) rfl)) (hw _ (List.mem_of_getElem? (i := 24) rfl)) (hw _ (List.mem_of_getElem? (i := 26) rfl)) (hw _ (List.mem_of_getElem? (i := 6) rfl)) (by decide) pd_1 [] rfl rfl 0 (Nat.le_of_eq rfl) rfl (by decide) (by decide) (by decide) (by decide) at_105 ?_
      rintro T h29 v29 ⟨rfl, rfl⟩ X
      change Run _ _ _ _ _ _ _ _ [(.ref va2)]
      refine r_astore 110 X #[.val (.int p0), .val (.int p1), .val (.int p2), .val (.int p3), .val (.int p4), .val (.int p5), .val (.ref pr), .val (.int (1 : Int32)), .val (.int (2 : Int32)), .val (.int (0 : Int32)), .val (.double (FP.i2d p0)), .second, .val (.double (FP.i2d (p1 &&& (2147483647 : Int32)))), .second, .val (.double (FP.i2d p3)), .second, .val (.double (FP.i2d (p4 &&& (2147483647 : Int32)))), .second, .val (.ref b23), .val (.ref b25), .val (.ref va1), .val (.ref er1), .val (.ref va2), .unset, .unset, .unset, .unset] at_108 rfl rfl ?_
      refine r_aload 112 X at_110 rfl rfl ?_
      refine r_virtual 115 X (st := []) (a := b25) (rmEr l Z a0 hw n0 _ X.sz b25 er2 F_b25_errors) E_b25 (hw _ (List.mem_of_getElem? (i := 27) rfl)) (hw _ (List.mem_of_getElem? (i := 28) rfl)) (hw _ (List.mem_of_getElem? (i := 30) rfl)) (hw _ (List.mem_of_getElem? (i := 30) rfl)) (hw _ (List.mem_of_getElem? (i := 29) rfl)) (hw _ (List.mem_of_getElem? (i := 31) rfl)) (hw _ (List.mem_of_getElem? (i := 6) rfl)) (by decide) pd_1 [] rfl rfl 0 (Nat.le_of_eq rfl) rfl (by decide) (by decide) (by decide) (by decide) at_112 ?_
      rintro T h30 v30 ⟨rfl, rfl⟩ X
      change Run _ _ _ _ _ _ _ _ [(.ref er2)]
      refine r_astore 117 X #[.val (.int p0), .val (.int p1), .val (.int p2), .val (.int p3), .val (.int p4), .val (.int p5), .val (.ref pr), .val (.int (1 : Int32)), .val (.int (2 : Int32)), .val (.int (0 : Int32)), .val (.double (FP.i2d p0)), .second, .val (.double (FP.i2d (p1 &&& (2147483647 : Int32)))), .second, .val (.double (FP.i2d p3)), .second, .val (.double (FP.i2d (p4 &&& (2147483647 : Int32)))), .second, .val (.ref b23), .val (.ref b25), .val (.ref va1), .val (.ref er1), .val (.ref va2), .val (.ref er2), .unset, .unset, .unset] at_115 rfl rfl ?_
      refine r_aload 119 X at_117 rfl rfl ?_
      refine r_iload 121 X at_119 rfl ?_
      refine r_dload 123 X at_121 rfl ?_
      refine r_dastore 124 X A_va1 (i := 1) (v := (.double (FP.i2d p0))) (by decide) (by decide) rfl gva1 at_123 ?_
      intro T h31 W31 X
      have E_b23 := E_b23.wr W31
      have F_b23_values := F_b23_values.other W31 (Or.inl ne_b23_va1)
      have A_va1 := A_va1.setD W31
      have F_b23_lows := F_b23_lows.other W31 (Or.inl ne_b23_va1)
      have A_lo1 := A_lo1.other W31 (Ne.symm ne_va1_lo1)
      have F_b23_errors := F_b23_errors.other W31 (Or.inl ne_b23_va1)
      have A_er1 := A_er1.other W31 (Ne.symm ne_va1_er1)
      have E_b25 := E_b25.wr W31
      have F_b25_values := F_b25_values.other W31 (Or.inl (Ne.symm ne_va1_b25))
      have A_va2 := A_va2.other W31 (Ne.symm ne_va1_va2)
      have F_b25_lows := F_b25_lows.other W31 (Or.inl (Ne.symm ne_va1_b25))
      have A_lo2 := A_lo2.other W31 (Ne.symm ne_va1_lo2)
      have F_b25_errors := F_b25_errors.other W31 (Or.inl (Ne.symm ne_va1_b25))
      have A_er2 := A_er2.other W31 (Ne.symm ne_va1_er2)
      refine r_aload 126 X at_124 rfl rfl ?_
      refine r_iload 128 X at_126 rfl ?_
      refine r_dload 130 X at_128 rfl ?_
      refine r_dastore 131 X A_er1 (i := 1) (v := (.double (FP.i2d (p1 &&& (2147483647 : Int32))))) (by decide) (by decide) rfl ger1 at_130 ?_
      intro T h32 W32 X
      have E_b23 := E_b23.wr W32
      have F_b23_values := F_b23_values.other W32 (Or.inl ne_b23_er1)
      have A_va1 := A_va1.other W32 ne_va1_er1
      have F_b23_lows := F_b23_lows.other W32 (Or.inl ne_b23_er1)
      have A_lo1 := A_lo1.other W32 ne_lo1_er1
      have F_b23_errors := F_b23_errors.other W32 (Or.inl ne_b23_er1)
      have A_er1 := A_er1.setD W32
      have E_b25 := E_b25.wr W32
      have F_b25_values := F_b25_values.other W32 (Or.inl (Ne.symm ne_er1_b25))
      have A_va2 := A_va2.other W32 (Ne.symm ne_er1_va2)
      have F_b25_lows := F_b25_lows.other W32 (Or.inl (Ne.symm ne_er1_b25))
      have A_lo2 := A_lo2.other W32 (Ne.symm ne_er1_lo2)
      have F_b25_errors := F_b25_errors.other W32 (Or.inl (Ne.symm ne_er1_b25))
      have A_er2 := A_er2.other W32 (Ne.symm ne_er1_er2)
      refine r_aload 133 X at_131 rfl rfl ?_
      refine r_iload 135 X at_133 rfl ?_
      refine r_dload 137 X at_135 rfl ?_
      refine r_dneg 138 X at_137 ?_
      refine r_dconst1 139 X at_138 ?_
      refine r_dsub 140 X at_139 (Jvm.Free.Fl.dsub_out ((dneg_mag (Jvm.Free.Fl.i2d_mag _)).fin (by decide)).noNaN own_fin1) ?_
      refine r_dastore 141 X A_va1 (i := 2) (v := (.double (FP.dsub (FP.dneg (FP.i2d p0)) FP.dconst1))) (by decide) (by decide) rfl gva1 at_140 ?_
      intro T h33 W33 X
      have E_b23 := E_b23.wr W33
      have F_b23_values := F_b23_values.other W33 (Or.inl ne_b23_va1)
      have A_va1 := A_va1.setD W33
      have F_b23_lows := F_b23_lows.other W33 (Or.inl ne_b23_va1)
      have A_lo1 := A_lo1.other W33 (Ne.symm ne_va1_lo1)
      have F_b23_errors := F_b23_errors.other W33 (Or.inl ne_b23_va1)
      have A_er1 := A_er1.other W33 (Ne.symm ne_va1_er1)
      have E_b25 := E_b25.wr W33
      have F_b25_values := F_b25_values.other W33 (Or.inl (Ne.symm ne_va1_b25))
      have A_va2 := A_va2.other W33 (Ne.symm ne_va1_va2)
      have F_b25_lows := F_b25_lows.other W33 (Or.inl (Ne.symm ne_va1_b25))
      have A_lo2 := A_lo2.other W33 (Ne.symm ne_va1_lo2)
      have F_b25_errors := F_b25_errors.other W33 (Or.inl (Ne.symm ne_va1_b25))
      have A_er2 := A_er2.other W33 (Ne.symm ne_va1_er2)
      refine r_aload 143 X at_141 rfl rfl ?_
      refine r_iload 145 X at_143 rfl ?_
      refine r_dload 147 X at_145 rfl ?_
      refine r_dconst1 148 X at_147 ?_
      refine r_dadd 149 X at_148 (Jvm.Free.Fl.dadd_out (Jvm.Free.Fl.i2d_fin _).noNaN own_fin1) ?_
      refine r_dastore 150 X A_er1 (i := 2) (v := (.double (FP.dadd (FP.i2d (p1 &&& (2147483647 : Int32))) FP.dconst1))) (by decide) (by decide) rfl ger1 at_149 ?_
      intro T h34 W34 X
      have E_b23 := E_b23.wr W34
      have F_b23_values := F_b23_values.other W34 (Or.inl ne_b23_er1)
      have A_va1 := A_va1.other W34 ne_va1_er1
      have F_b23_lows := F_b23_lows.other W34 (Or.inl ne_b23_er1)
      have A_lo1 := A_lo1.other W34 ne_lo1_er1
      have F_b23_errors := F_b23_errors.other W34 (Or.inl ne_b23_er1)
      have A_er1 := A_er1.setD W34
      have E_b25 := E_b25.wr W34
      have F_b25_values := F_b25_values.other W34 (Or.inl (Ne.symm ne_er1_b25))
      have A_va2 := A_va2.other W34 (Ne.symm ne_er1_va2)
      have F_b25_lows := F_b25_lows.other W34 (Or.inl (Ne.symm ne_er1_b25))
      have A_lo2 := A_lo2.other W34 (Ne.symm ne_er1_lo2)
      have F_b25_errors := F_b25_errors.other W34 (Or.inl (Ne.symm ne_er1_b25))
      have A_er2 := A_er2.other W34 (Ne.symm ne_er1_er2)
      refine r_aload 152 X at_150 rfl rfl ?_
      refine r_iload 154 X at_152 rfl ?_
      refine r_dload 156 X at_154 rfl ?_
      refine r_ldc2Double 159 X (hw _ (List.mem_of_getElem? (i := 32) rfl)) at_156 ?_
      refine r_dadd 160 X at_159 (Jvm.Free.Fl.dadd_out (Jvm.Free.Fl.i2d_fin _).noNaN own_fin2) ?_
      refine r_dastore 161 X A_va1 (i := 0) (v := (.double (FP.dadd (FP.i2d p0) (4602678819172646912 : UInt64)))) (by decide) (by decide) rfl gva1 at_160 ?_
      intro T h35 W35 X
      have E_b23 := E_b23.wr W35
      have F_b23_values := F_b23_values.other W35 (Or.inl ne_b23_va1)
      have A_va1 := A_va1.setD W35
      have F_b23_lows := F_b23_lows.other W35 (Or.inl ne_b23_va1)
      have A_lo1 := A_lo1.other W35 (Ne.symm ne_va1_lo1)
      have F_b23_errors := F_b23_errors.other W35 (Or.inl ne_b23_va1)
      have A_er1 := A_er1.other W35 (Ne.symm ne_va1_er1)
      have E_b25 := E_b25.wr W35
      have F_b25_values := F_b25_values.other W35 (Or.inl (Ne.symm ne_va1_b25))
      have A_va2 := A_va2.other W35 (Ne.symm ne_va1_va2)
      have F_b25_lows := F_b25_lows.other W35 (Or.inl (Ne.symm ne_va1_b25))
      have A_lo2 := A_lo2.other W35 (Ne.symm ne_va1_lo2)
      have F_b25_errors := F_b25_errors.other W35 (Or.inl (Ne.symm ne_va1_b25))
      have A_er2 := A_er2.other W35 (Ne.symm ne_va1_er2)
      refine r_aload 163 X at_161 rfl rfl ?_
      refine r_iload 165 X at_163 rfl ?_
      refine r_dload 167 X at_165 rfl ?_
      refine r_ldc2Double 170 X (hw _ (List.mem_of_getElem? (i := 32) rfl)) at_167 ?_
      refine r_dadd 171 X at_170 (Jvm.Free.Fl.dadd_out (Jvm.Free.Fl.i2d_fin _).noNaN own_fin2) ?_
      refine r_dastore 172 X A_er1 (i := 0) (v := (.double (FP.dadd (FP.i2d (p1 &&& (2147483647 : Int32))) (4602678819172646912 : UInt64)))) (by decide) (by decide) rfl ger1 at_171 ?_
      intro T h36 W36 X
      have E_b23 := E_b23.wr W36
      have F_b23_values := F_b23_values.other W36 (Or.inl ne_b23_er1)
      have A_va1 := A_va1.other W36 ne_va1_er1
      have F_b23_lows := F_b23_lows.other W36 (Or.inl ne_b23_er1)
      have A_lo1 := A_lo1.other W36 ne_lo1_er1
      have F_b23_errors := F_b23_errors.other W36 (Or.inl ne_b23_er1)
      have A_er1 := A_er1.setD W36
      have E_b25 := E_b25.wr W36
      have F_b25_values := F_b25_values.other W36 (Or.inl (Ne.symm ne_er1_b25))
      have A_va2 := A_va2.other W36 (Ne.symm ne_er1_va2)
      have F_b25_lows := F_b25_lows.other W36 (Or.inl (Ne.symm ne_er1_b25))
      have A_lo2 := A_lo2.other W36 (Ne.symm ne_er1_lo2)
      have F_b25_errors := F_b25_errors.other W36 (Or.inl (Ne.symm ne_er1_b25))
      have A_er2 := A_er2.other W36 (Ne.symm ne_er1_er2)
      refine r_aload 174 X at_172 rfl rfl ?_
      refine r_iconst 175 X (0 : Int32) at_174 rfl ?_
      refine r_dload 177 X at_175 rfl ?_
      refine r_dastore 178 X A_va2 (i := 0) (v := (.double (FP.i2d p3))) (by decide) (by decide) rfl gva2 at_177 ?_
      intro T h37 W37 X
      have E_b23 := E_b23.wr W37
      have F_b23_values := F_b23_values.other W37 (Or.inl ne_b23_va2)
      have A_va1 := A_va1.other W37 ne_va1_va2
      have F_b23_lows := F_b23_lows.other W37 (Or.inl ne_b23_va2)
      have A_lo1 := A_lo1.other W37 ne_lo1_va2
      have F_b23_errors := F_b23_errors.other W37 (Or.inl ne_b23_va2)
      have A_er1 := A_er1.other W37 ne_er1_va2
      have E_b25 := E_b25.wr W37
      have F_b25_values := F_b25_values.other W37 (Or.inl ne_b25_va2)
      have A_va2 := A_va2.setD W37
      have F_b25_lows := F_b25_lows.other W37 (Or.inl ne_b25_va2)
      have A_lo2 := A_lo2.other W37 (Ne.symm ne_va2_lo2)
      have F_b25_errors := F_b25_errors.other W37 (Or.inl ne_b25_va2)
      have A_er2 := A_er2.other W37 (Ne.symm ne_va2_er2)
      refine r_aload 180 X at_178 rfl rfl ?_
      refine r_iconst 181 X (1 : Int32) at_180 rfl ?_
      refine r_dload 183 X at_181 rfl ?_
      refine r_dastore 184 X A_va2 (i := 1) (v := (.double (FP.i2d p3))) (by decide) (by decide) rfl gva2 at_183 ?_
      intro T h38 W38 X
      have E_b23 := E_b23.wr W38
      have F_b23_values := F_b23_values.other W38 (Or.inl ne_b23_va2)
      have A_va1 := A_va1.other W38 ne_va1_va2
      have F_b23_lows := F_b23_lows.other W38 (Or.inl ne_b23_va2)
      have A_lo1 := A_lo1.other W38 ne_lo1_va2
      have F_b23_errors := F_b23_errors.other W38 (Or.inl ne_b23_va2)
      have A_er1 := A_er1.other W38 ne_er1_va2
      have E_b25 := E_b25.wr W38
      have F_b25_values := F_b25_values.other W38 (Or.inl ne_b25_va2)
      have A_va2 := A_va2.setD W38
      have F_b25_lows := F_b25_lows.other W38 (Or.inl ne_b25_va2)
      have A_lo2 := A_lo2.other W38 (Ne.symm ne_va2_lo2)
      have F_b25_errors := F_b25_errors.other W38 (Or.inl ne_b25_va2)
      have A_er2 := A_er2.other W38 (Ne.symm ne_va2_er2)
      refine r_aload 186 X at_184 rfl rfl ?_
      refine r_iconst 187 X (2 : Int32) at_186 rfl ?_
      refine r_dload 189 X at_187 rfl ?_
      refine r_dastore 190 X A_va2 (i := 2) (v := (.double (FP.i2d p3))) (by decide) (by decide) rfl gva2 at_189 ?_
      intro T h39 W39 X
      have E_b23 := E_b23.wr W39
      have F_b23_values := F_b23_values.other W39 (Or.inl ne_b23_va2)
      have A_va1 := A_va1.other W39 ne_va1_va2
      have F_b23_lows := F_b23_lows.other W39 (Or.inl ne_b23_va2)
      have A_lo1 := A_lo1.other W39 ne_lo1_va2
      have F_b23_errors := F_b23_errors.other W39 (Or.inl ne_b23_va2)
      have A_er1 := A_er1.other W39 ne_er1_va2
      have E_b25 := E_b25.wr W39
      have F_b25_values := F_b25_values.other W39 (Or.inl ne_b25_va2)
      have A_va2 := A_va2.setD W39
      have F_b25_lows := F_b25_lows.other W39 (Or.inl ne_b25_va2)
      have A_lo2 := A_lo2.other W39 (Ne.symm ne_va2_lo2)
      have F_b25_errors := F_b25_errors.other W39 (Or.inl ne_b25_va2)
      have A_er2 := A_er2.other W39 (Ne.symm ne_va2_er2)
      refine r_aload 192 X at_190 rfl rfl ?_
      refine r_iconst 193 X (0 : Int32) at_192 rfl ?_
      refine r_dload 195 X at_193 rfl ?_
      refine r_dastore 196 X A_er2 (i := 0) (v := (.double (FP.i2d (p4 &&& (2147483647 : Int32))))) (by decide) (by decide) rfl ger2 at_195 ?_
      intro T h40 W40 X
      have E_b23 := E_b23.wr W40
      have F_b23_values := F_b23_values.other W40 (Or.inl ne_b23_er2)
      have A_va1 := A_va1.other W40 ne_va1_er2
      have F_b23_lows := F_b23_lows.other W40 (Or.inl ne_b23_er2)
      have A_lo1 := A_lo1.other W40 ne_lo1_er2
      have F_b23_errors := F_b23_errors.other W40 (Or.inl ne_b23_er2)
      have A_er1 := A_er1.other W40 ne_er1_er2
      have E_b25 := E_b25.wr W40
      have F_b25_values := F_b25_values.other W40 (Or.inl ne_b25_er2)
      have A_va2 := A_va2.other W40 ne_va2_er2
      have F_b25_lows := F_b25_lows.other W40 (Or.inl ne_b25_er2)
      have A_lo2 := A_lo2.other W40 ne_lo2_er2
      have F_b25_errors := F_b25_errors.other W40 (Or.inl ne_b25_er2)
      have A_er2 := A_er2.setD W40
      refine r_aload 198 X at_196 rfl rfl ?_
      refine r_iconst 199 X (1 : Int32) at_198 rfl ?_
      refine r_dload 201 X at_199 rfl ?_
      refine r_dastore 202 X A_er2 (i := 1) (v := (.double (FP.i2d (p4 &&& (2147483647 : Int32))))) (by decide) (by decide) rfl ger2 at_201 ?_
      intro T h41 W41 X
      have E_b23 := E_b23.wr W41
      have F_b23_values := F_b23_values.other W41 (Or.inl ne_b23_er2)
      have A_va1 := A_va1.other W41 ne_va1_er2
      have F_b23_lows := F_b23_lows.other W41 (Or.inl ne_b23_er2)
      have A_lo1 := A_lo1.other W41 ne_lo1_er2
      have F_b23_errors := F_b23_errors.other W41 (Or.inl ne_b23_er2)
      have A_er1 := A_er1.other W41 ne_er1_er2
      have E_b25 := E_b25.wr W41
      have F_b25_values := F_b25_values.other W41 (Or.inl ne_b25_er2)
      have A_va2 := A_va2.other W41 ne_va2_er2
      have F_b25_lows := F_b25_lows.other W41 (Or.inl ne_b25_er2)
      have A_lo2 := A_lo2.other W41 ne_lo2_er2
      have F_b25_errors := F_b25_errors.other W41 (Or.inl ne_b25_er2)
      have A_er2 := A_er2.setD W41
      refine r_aload 204 X at_202 rfl rfl ?_
      refine r_iconst 205 X (2 : Int32) at_204 rfl ?_
      refine r_dload 207 X at_205 rfl ?_
      refine r_dastore 208 X A_er2 (i := 2) (v := (.double (FP.i2d (p4 &&& (2147483647 : Int32))))) (by decide) (by decide) rfl ger2 at_207 ?_
      intro T h42 W42 X
      have E_b23 := E_b23.wr W42
      have F_b23_values := F_b23_values.other W42 (Or.inl ne_b23_er2)
      have A_va1 := A_va1.other W42 ne_va1_er2
      have F_b23_lows := F_b23_lows.other W42 (Or.inl ne_b23_er2)
      have A_lo1 := A_lo1.other W42 ne_lo1_er2
      have F_b23_errors := F_b23_errors.other W42 (Or.inl ne_b23_er2)
      have A_er1 := A_er1.other W42 ne_er1_er2
      have E_b25 := E_b25.wr W42
      have F_b25_values := F_b25_values.other W42 (Or.inl ne_b25_er2)
      have A_va2 := A_va2.other W42 ne_va2_er2
      have F_b25_lows := F_b25_lows.other W42 (Or.inl ne_b25_er2)
      have A_lo2 := A_lo2.other W42 ne_lo2_er2
      have F_b25_errors := F_b25_errors.other W42 (Or.inl ne_b25_er2)
      have A_er2 := A_er2.setD W42
      refine r_aload 210 X at_208 rfl rfl ?_
      refine r_aload 212 X at_210 rfl rfl ?_
      refine r_iload 214 X at_212 rfl ?_
      refine r_virtual 217 X (st := []) (a := b25) (rmCopy l Z a0 hw n0 _ X.sz b25 b23 va2 lo2 er2 va1 lo1 er1 (updD (updD (updD (fun _ => (0 : UInt64)) 0 (FP.i2d p3)) 1 (FP.i2d p3)) 2 (FP.i2d p3)) (fun _ => (0 : UInt64)) (updD (updD (updD (fun _ => (0 : UInt64)) 0 (FP.i2d (p4 &&& (2147483647 : Int32)))) 1 (FP.i2d (p4 &&& (2147483647 : Int32)))) 2 (FP.i2d (p4 &&& (2147483647 : Int32)))) (updD (updD (updD (fun _ => (0 : UInt64)) 1 (FP.i2d p0)) 2 (FP.dsub (FP.dneg (FP.i2d p0)) FP.dconst1)) 0 (FP.dadd (FP.i2d p0) (4602678819172646912 : UInt64))) (fun _ => (0 : UInt64)) (updD (updD (updD (fun _ => (0 : UInt64)) 1 (FP.i2d (p1 &&& (2147483647 : Int32)))) 2 (FP.dadd (FP.i2d (p1 &&& (2147483647 : Int32))) FP.dconst1)) 0 (FP.dadd (FP.i2d (p1 &&& (2147483647 : Int32))) (4602678819172646912 : UInt64))) (1 : Int32) 1 (by decide) (by decide) gva2 glo2 ger2 ne_b25_er2 ne_b25_lo2 ne_b25_va2 ne_b23_er2 ne_b23_lo2 ne_b23_va2 (Ne.symm ne_lo2_er2) (Ne.symm ne_va2_er2) ne_er1_er2 ne_er1_lo2 ne_er1_va2 (Ne.symm ne_va2_lo2) ne_lo1_er2 ne_lo1_lo2 ne_lo1_va2 ne_va1_er2 ne_va1_lo2 ne_va1_va2 F_b25_values F_b25_lows F_b25_errors F_b23_values F_b23_lows F_b23_errors A_va2 A_lo2 A_er2 A_va1 A_lo1 A_er1) E_b25 (hw _ (List.mem_of_getElem? (i := 33) rfl)) (hw _ (List.mem_of_getElem? (i := 34) rfl)) (hw _ (List.mem_of_getElem? (i := 36) rfl)) (hw _ (List.mem_of_getElem? (i := 36) rfl)) (hw _ (List.mem_of_getElem? (i := 35) rfl)) (hw _ (List.mem_of_getElem? (i := 37) rfl)) (hw _ (List.mem_of_getElem? (i := 6) rfl)) (by decide) pd_2 [(.ref b23), (.int (1 : Int32))] rfl rfl 0 (Nat.le_of_eq rfl) rfl (by decide) (by decide) (by decide) (by decide) at_214 ?_
      rintro T h43 v43 ⟨rfl, K43, Aa43, Ab43⟩ X
      have E_b23 := E_b23.keep K43
      have F_b23_values := F_b23_values.keep K43 (ninS ne_b23_va2 (ninS ne_b23_lo2 (ninS ne_b23_er2 nin0)))
      have A_va1 := A_va1.keep K43 (ninS ne_va1_va2 (ninS ne_va1_lo2 (ninS ne_va1_er2 nin0)))
      have F_b23_lows := F_b23_lows.keep K43 (ninS ne_b23_va2 (ninS ne_b23_lo2 (ninS ne_b23_er2 nin0)))
      have A_lo1 := A_lo1.keep K43 (ninS ne_lo1_va2 (ninS ne_lo1_lo2 (ninS ne_lo1_er2 nin0)))
      have F_b23_errors := F_b23_errors.keep K43 (ninS ne_b23_va2 (ninS ne_b23_lo2 (ninS ne_b23_er2 nin0)))
      have A_er1 := A_er1.keep K43 (ninS ne_er1_va2 (ninS ne_er1_lo2 (ninS ne_er1_er2 nin0)))
      have E_b25 := E_b25.keep K43
      have F_b25_values := F_b25_values.keep K43 (ninS ne_b25_va2 (ninS ne_b25_lo2 (ninS ne_b25_er2 nin0)))
      have F_b25_lows := F_b25_lows.keep K43 (ninS ne_b25_va2 (ninS ne_b25_lo2 (ninS ne_b25_er2 nin0)))
      have F_b25_errors := F_b25_errors.keep K43 (ninS ne_b25_va2 (ninS ne_b25_lo2 (ninS ne_b25_er2 nin0)))
      replace Aa43 : AF Z h43 va2 .double 3 (fun j => .double ((updD (updD (updD (updD (fun _ => (0 : UInt64)) 0 (FP.i2d p3)) 1 (FP.i2d p3)) 2 (FP.i2d p3)) 1 (FP.i2d p0)) j)) := Aa43
      have A_va2 := Aa43
      replace Ab43 : AF Z h43 er2 .double 3 (fun j => .double ((updD (updD (updD (updD (fun _ => (0 : UInt64)) 0 (FP.i2d (p4 &&& (2147483647 : Int32)))) 1 (FP.i2d (p4 &&& (2147483647 : Int32)))) 2 (FP.i2d (p4 &&& (2147483647 : Int32)))) 1 (FP.i2d (p1 &&& (2147483647 : Int32)))) j)) := Ab43
      have A_er2 := Ab43
      change Run _ _ _ _ _ _ _ _ []
      refine r_aload 219 X at_217 rfl rfl ?_
      refine r_iload 221 X at_219 rfl ?_
      refine r_daload 222 X A_va2 (i := 1) (v := (.double (FP.i2d p0))) (by decide) (by decide) rfl at_221 ?_
      refine r_dload 224 X at_222 rfl ?_
      refine r_dcmpSelf 225 X at_224 (Jvm.Free.Fl.i2d_fin _).noNaN ?_
      refine r_ifN 228 X at_225 ((if0 _ _).trans (teq (by decide)).2) ?_
      refine r_aload 230 X at_228 rfl rfl ?_
      refine r_iload 232 X at_230 rfl ?_
      refine r_daload 233 X A_er2 (i := 1) (v := (.double (FP.i2d (p1 &&& (2147483647 : Int32))))) (by decide) (by decide) rfl at_232 ?_
      refine r_dload 235 X at_233 rfl ?_
      refine r_dcmpSelf 236 X at_235 (Jvm.Free.Fl.i2d_fin _).noNaN ?_
      refine r_ifN 239 X at_236 ((if0 _ _).trans (teq (by decide)).2) ?_
      refine r_iconst 240 X (1 : Int32) at_239 rfl ?_
      refine r_goto 244 X at_240 ?_
      refine r_istore 246 X #[.val (.int p0), .val (.int p1), .val (.int p2), .val (.int p3), .val (.int p4), .val (.int p5), .val (.ref pr), .val (.int (1 : Int32)), .val (.int (2 : Int32)), .val (.int (0 : Int32)), .val (.double (FP.i2d p0)), .second, .val (.double (FP.i2d (p1 &&& (2147483647 : Int32)))), .second, .val (.double (FP.i2d p3)), .second, .val (.double (FP.i2d (p4 &&& (2147483647 : Int32)))), .second, .val (.ref b23), .val (.ref b25), .val (.ref va1), .val (.ref er1), .val (.ref va2), .val (.ref er2), .val (.int (1 : Int32)), .unset, .unset] at_244 rfl ?_
      refine r_aload 248 X at_246 rfl rfl ?_
      refine r_iload 250 X at_248 rfl ?_
      refine r_daload 251 X A_va2 (i := 2) (v := (.double (FP.i2d p3))) (by decide) (by decide) rfl at_250 ?_
      refine r_dload 253 X at_251 rfl ?_
      refine r_dcmpSelf 254 X at_253 (Jvm.Free.Fl.i2d_fin _).noNaN ?_
      refine r_ifN 257 X at_254 ((if0 _ _).trans (teq (by decide)).2) ?_
      refine r_aload 259 X at_257 rfl rfl ?_
      refine r_iload 261 X at_259 rfl ?_
      refine r_daload 262 X A_er2 (i := 2) (v := (.double (FP.i2d (p4 &&& (2147483647 : Int32))))) (by decide) (by decide) rfl at_261 ?_
      refine r_dload 264 X at_262 rfl ?_
      refine r_dcmpSelf 265 X at_264 (Jvm.Free.Fl.i2d_fin _).noNaN ?_
      refine r_ifN 268 X at_265 ((if0 _ _).trans (teq (by decide)).2) ?_
      refine r_aload 270 X at_268 rfl rfl ?_
      refine r_iload 272 X at_270 rfl ?_
      refine r_daload 273 X A_va2 (i := 0) (v := (.double (FP.i2d p3))) (by decide) (by decide) rfl at_272 ?_
      refine r_dload 275 X at_273 rfl ?_
      refine r_dcmpSelf 276 X at_275 (Jvm.Free.Fl.i2d_fin _).noNaN ?_
      refine r_ifN 279 X at_276 ((if0 _ _).trans (teq (by decide)).2) ?_
      refine r_aload 281 X at_279 rfl rfl ?_
      refine r_iload 283 X at_281 rfl ?_
      refine r_daload 284 X A_er2 (i := 0) (v := (.double (FP.i2d (p4 &&& (2147483647 : Int32))))) (by decide) (by decide) rfl at_283 ?_
      refine r_dload 286 X at_284 rfl ?_
      refine r_dcmpSelf 287 X at_286 (Jvm.Free.Fl.i2d_fin _).noNaN ?_
      refine r_ifN 290 X at_287 ((if0 _ _).trans (teq (by decide)).2) ?_
      refine r_iconst 291 X (1 : Int32) at_290 rfl ?_
      refine r_goto 295 X at_291 ?_
      refine r_istore 297 X #[.val (.int p0), .val (.int p1), .val (.int p2), .val (.int p3), .val (.int p4), .val (.int p5), .val (.ref pr), .val (.int (1 : Int32)), .val (.int (2 : Int32)), .val (.int (0 : Int32)), .val (.double (FP.i2d p0)), .second, .val (.double (FP.i2d (p1 &&& (2147483647 : Int32)))), .second, .val (.double (FP.i2d p3)), .second, .val (.double (FP.i2d (p4 &&& (2147483647 : Int32)))), .second, .val (.ref b23), .val (.ref b25), .val (.ref va1), .val (.ref er1), .val (.ref va2), .val (.ref er2), .val (.int (1 : Int32)), .val (.int (1 : Int32)), .unset] at_295 rfl ?_
      refine r_aload 299 X at_297 rfl rfl ?_
      refine r_iload 301 X at_299 rfl ?_
      refine r_daload 302 X A_va1 (i := 1) (v := (.double (FP.i2d p0))) (by decide) (by decide) rfl at_301 ?_
      refine r_dload 304 X at_302 rfl ?_
      refine r_dcmpSelf 305 X at_304 (Jvm.Free.Fl.i2d_fin _).noNaN ?_
      refine r_ifN 308 X at_305 ((if0 _ _).trans (teq (by decide)).2) ?_
      refine r_aload 310 X at_308 rfl rfl ?_
      refine r_iload 312 X at_310 rfl ?_
      refine r_daload 313 X A_er1 (i := 1) (v := (.double (FP.i2d (p1 &&& (2147483647 : Int32))))) (by decide) (by decide) rfl at_312 ?_
      refine r_dload 315 X at_313 rfl ?_
      refine r_dcmpSelf 316 X at_315 (Jvm.Free.Fl.i2d_fin _).noNaN ?_
      refine r_ifN 319 X at_316 ((if0 _ _).trans (teq (by decide)).2) ?_
      refine r_aload 321 X at_319 rfl rfl ?_
      refine r_iload 323 X at_321 rfl ?_
      refine r_daload 324 X A_va1 (i := 2) (v := (.double (FP.dsub (FP.dneg (FP.i2d p0)) FP.dconst1))) (by decide) (by decide) rfl at_323 ?_
      refine r_dload 326 X at_324 rfl ?_
      refine r_dneg 327 X at_326 ?_
      refine r_dconst1 328 X at_327 ?_
      refine r_dsub 329 X at_328 (Jvm.Free.Fl.dsub_out ((dneg_mag (Jvm.Free.Fl.i2d_mag _)).fin (by decide)).noNaN own_fin1) ?_
      refine r_dcmpSelf 330 X at_329 (Jvm.Free.Fl.dsub_out ((dneg_mag (Jvm.Free.Fl.i2d_mag _)).fin (by decide)).noNaN own_fin1) ?_
      refine r_ifN 333 X at_330 ((if0 _ _).trans (teq (by decide)).2) ?_
      refine r_aload 335 X at_333 rfl rfl ?_
      refine r_iload 337 X at_335 rfl ?_
      refine r_daload 338 X A_er1 (i := 2) (v := (.double (FP.dadd (FP.i2d (p1 &&& (2147483647 : Int32))) FP.dconst1))) (by decide) (by decide) rfl at_337 ?_
      refine r_dload 340 X at_338 rfl ?_
      refine r_dconst1 341 X at_340 ?_
      refine r_dadd 342 X at_341 (Jvm.Free.Fl.dadd_out (Jvm.Free.Fl.i2d_fin _).noNaN own_fin1) ?_
      refine r_dcmpSelf 343 X at_342 (Jvm.Free.Fl.dadd_out (Jvm.Free.Fl.i2d_fin _).noNaN own_fin1) ?_
      refine r_ifN 346 X at_343 ((if0 _ _).trans (teq (by decide)).2) ?_
      refine r_aload 348 X at_346 rfl rfl ?_
      refine r_iload 350 X at_348 rfl ?_
      refine r_daload 351 X A_va1 (i := 0) (v := (.double (FP.dadd (FP.i2d p0) (4602678819172646912 : UInt64)))) (by decide) (by decide) rfl at_350 ?_
      refine r_dload 353 X at_351 rfl ?_
      refine r_ldc2Double 356 X (hw _ (List.mem_of_getElem? (i := 32) rfl)) at_353 ?_
      refine r_dadd 357 X at_356 (Jvm.Free.Fl.dadd_out (Jvm.Free.Fl.i2d_fin _).noNaN own_fin2) ?_
      refine r_dcmpSelf 358 X at_357 (Jvm.Free.Fl.dadd_out (Jvm.Free.Fl.i2d_fin _).noNaN own_fin2) ?_
      refine r_ifN 361 X at_358 ((if0 _ _).trans (teq (by decide)).2) ?_
      refine r_aload 363 X at_361 rfl rfl ?_
      refine r_iload 365 X at_363 rfl ?_
      refine r_daload 366 X A_er1 (i := 0) (v := (.double (FP.dadd (FP.i2d (p1 &&& (2147483647 : Int32))) (4602678819172646912 : UInt64)))) (by decide) (by decide) rfl at_365 ?_
      refine r_dload 368 X at_366 rfl ?_
      refine r_ldc2Double 371 X (hw _ (List.mem_of_getElem? (i := 32) rfl)) at_368 ?_
      refine r_dadd 372 X at_371 (Jvm.Free.Fl.dadd_out (Jvm.Free.Fl.i2d_fin _).noNaN own_fin2) ?_
      refine r_dcmpSelf 373 X at_372 (Jvm.Free.Fl.dadd_out (Jvm.Free.Fl.i2d_fin _).noNaN own_fin2) ?_
      refine r_ifN 376 X at_373 ((if0 _ _).trans (teq (by decide)).2) ?_
      refine r_iconst 377 X (1 : Int32) at_376 rfl ?_
      refine r_goto 381 X at_377 ?_
      refine r_istore 383 X #[.val (.int p0), .val (.int p1), .val (.int p2), .val (.int p3), .val (.int p4), .val (.int p5), .val (.ref pr), .val (.int (1 : Int32)), .val (.int (2 : Int32)), .val (.int (0 : Int32)), .val (.double (FP.i2d p0)), .second, .val (.double (FP.i2d (p1 &&& (2147483647 : Int32)))), .second, .val (.double (FP.i2d p3)), .second, .val (.double (FP.i2d (p4 &&& (2147483647 : Int32)))), .second, .val (.ref b23), .val (.ref b25), .val (.ref va1), .val (.ref er1), .val (.ref va2), .val (.ref er2), .val (.int (1 : Int32)), .val (.int (1 : Int32)), .val (.int (1 : Int32))] at_381 rfl ?_
      refine r_iload 385 X at_383 rfl ?_
      refine r_ifN 388 X at_385 ((if0 _ _).trans (feq (by decide)).1) ?_
      refine r_iload 390 X at_388 rfl ?_
      refine r_ifN 393 X at_390 ((if0 _ _).trans (feq (by decide)).1) ?_
      refine r_iload 395 X at_393 rfl ?_
      refine r_ifN 398 X at_395 ((if0 _ _).trans (feq (by decide)).1) ?_
      refine r_iconst 399 X (1 : Int32) at_398 rfl ?_
      refine r_goto 403 X at_399 ?_
      refine r_retZ (z := (1 : Int32)) X at_403 rfl (by decide) (by decide) ?_
      exact rfl
    · refine r_topI es ?_
      refine r_istore 26 X #[.val (.int p0), .val (.int p1), .val (.int p2), .val (.int p3), .val (.int p4), .val (.int p5), .val (.ref pr), .val (.int (2 : Int32)), .unset, .unset, .unset, .unset, .unset, .unset, .unset, .unset, .unset, .unset, .unset, .unset, .unset, .unset, .unset, .unset, .unset, .unset, .unset] at_24 rfl ?_
      refine r_iload 28 X at_26 rfl ?_
      refine r_iconst 29 X (1 : Int32) at_28 rfl ?_
      refine r_iadd 30 X at_29 ?_
      refine r_topI (x' := (3 : Int32)) (by decide) ?_
      refine r_iconst 31 X (3 : Int32) at_30 rfl ?_
      refine r_irem 32 X at_31 (by decide) ?_
      refine r_topI (x' := (0 : Int32)) (by decide) ?_
      refine r_istore 34 X #[.val (.int p0), .val (.int p1), .val (.int p2), .val (.int p3), .val (.int p4), .val (.int p5), .val (.ref pr), .val (.int (2 : Int32)), .val (.int (0 : Int32)), .unset, .unset, .unset, .unset, .unset, .unset, .unset, .unset, .unset, .unset, .unset, .unset, .unset, .unset, .unset, .unset, .unset, .unset] at_32 rfl ?_
      refine r_iload 36 X at_34 rfl ?_
      refine r_iconst 37 X (2 : Int32) at_36 rfl ?_
      refine r_iadd 38 X at_37 ?_
      refine r_topI (x' := (4 : Int32)) (by decide) ?_
      refine r_iconst 39 X (3 : Int32) at_38 rfl ?_
      refine r_irem 40 X at_39 (by decide) ?_
      refine r_topI (x' := (1 : Int32)) (by decide) ?_
      refine r_istore 42 X #[.val (.int p0), .val (.int p1), .val (.int p2), .val (.int p3), .val (.int p4), .val (.int p5), .val (.ref pr), .val (.int (2 : Int32)), .val (.int (0 : Int32)), .val (.int (1 : Int32)), .unset, .unset, .unset, .unset, .unset, .unset, .unset, .unset, .unset, .unset, .unset, .unset, .unset, .unset, .unset, .unset, .unset] at_40 rfl ?_
      refine r_iloadN 43 X at_42 rfl ?_
      refine r_i2d 44 X at_43 ?_
      refine r_dstore 46 X #[.val (.int p0), .val (.int p1), .val (.int p2), .val (.int p3), .val (.int p4), .val (.int p5), .val (.ref pr), .val (.int (2 : Int32)), .val (.int (0 : Int32)), .val (.int (1 : Int32)), .val (.double (FP.i2d p0)), .second, .unset, .unset, .unset, .unset, .unset, .unset, .unset, .unset, .unset, .unset, .unset, .unset, .unset, .unset, .unset] at_44 rfl ?_
      refine r_iloadN 47 X at_46 rfl ?_
      refine r_ldcInt 49 X (hw _ (List.mem_of_getElem? (i := 3) rfl)) at_47 ?_
      refine r_iand 50 X at_49 ?_
      refine r_i2d 51 X at_50 ?_
      refine r_dstore 53 X #[.val (.int p0), .val (.int p1), .val (.int p2), .val (.int p3), .val (.int p4), .val (.int p5), .val (.ref pr), .val (.int (2 : Int32)), .val (.int (0 : Int32)), .val (.int (1 : Int32)), .val (.double (FP.i2d p0)), .second, .val (.double (FP.i2d (p1 &&& (2147483647 : Int32)))), .second, .unset, .unset, .unset, .unset, .unset, .unset, .unset, .unset, .unset, .unset, .unset, .unset, .unset] at_51 rfl ?_
      refine r_iloadN 54 X at_53 rfl ?_
      refine r_i2d 55 X at_54 ?_
      refine r_dstore 57 X #[.val (.int p0), .val (.int p1), .val (.int p2), .val (.int p3), .val (.int p4), .val (.int p5), .val (.ref pr), .val (.int (2 : Int32)), .val (.int (0 : Int32)), .val (.int (1 : Int32)), .val (.double (FP.i2d p0)), .second, .val (.double (FP.i2d (p1 &&& (2147483647 : Int32)))), .second, .val (.double (FP.i2d p3)), .second, .unset, .unset, .unset, .unset, .unset, .unset, .unset, .unset, .unset, .unset, .unset] at_55 rfl ?_
      refine r_iload 59 X at_57 rfl ?_
      refine r_ldcInt 61 X (hw _ (List.mem_of_getElem? (i := 3) rfl)) at_59 ?_
      refine r_iand 62 X at_61 ?_
      refine r_i2d 63 X at_62 ?_
      refine r_dstore 65 X #[.val (.int p0), .val (.int p1), .val (.int p2), .val (.int p3), .val (.int p4), .val (.int p5), .val (.ref pr), .val (.int (2 : Int32)), .val (.int (0 : Int32)), .val (.int (1 : Int32)), .val (.double (FP.i2d p0)), .second, .val (.double (FP.i2d (p1 &&& (2147483647 : Int32)))), .second, .val (.double (FP.i2d p3)), .second, .val (.double (FP.i2d (p4 &&& (2147483647 : Int32)))), .second, .unset, .unset, .unset, .unset, .unset, .unset, .unset, .unset, .unset] at_63 rfl ?_
      refine r_new 68 X (hw _ (List.mem_of_getElem? (i := 4) rfl)) (hw _ (List.mem_of_getElem? (i := 5) rfl)) (hw _ (List.mem_of_getElem? (i := 6) rfl)) at_65 (by decide) (by decide) ?_
      intro T h44 b44 g44 gn_b44 E44 A44 D44 X
      have E_b44 := A44
      have F_b44_precision : Fld Z h44 b44 "com/example/heliotrope/heliotrope/lra/StateValues" "precision" "Lcom/example/heliotrope/heliotrope/lra/Precision;" .null := D44 (Or.inr (hw _ (List.mem_of_getElem? (i := 14) rfl))) (ty := (.object "com/example/heliotrope/heliotrope/lra/Precision")) (by decide)
      have F_b44_values : Fld Z h44 b44 "com/example/heliotrope/heliotrope/lra/StateValues" "values" "[D" .null := D44 (Or.inr (hw _ (List.mem_of_getElem? (i := 17) rfl))) (ty := (.array .double)) (by decide)
      have F_b44_lows : Fld Z h44 b44 "com/example/heliotrope/heliotrope/lra/StateValues" "lows" "[D" .null := D44 (Or.inr (hw _ (List.mem_of_getElem? (i := 19) rfl))) (ty := (.array .double)) (by decide)
      have F_b44_errors : Fld Z h44 b44 "com/example/heliotrope/heliotrope/lra/StateValues" "errors" "[D" .null := D44 (Or.inr (hw _ (List.mem_of_getElem? (i := 21) rfl))) (ty := (.array .double)) (by decide)
      refine r_dup 69 X at_68 rfl ?_
      refine r_iconst 70 X (3 : Int32) at_69 rfl ?_
      refine r_aload 72 X at_70 rfl rfl ?_
      refine r_special 75 X (st := [(.ref b44)]) (a := b44) (rmIni l Z a0 hw n0 _ X.sz b44 pr E_b44 F_b44_precision F_b44_values F_b44_lows F_b44_errors gn_b44) rfl rfl (hw _ (List.mem_of_getElem? (i := 7) rfl)) (hw _ (List.mem_of_getElem? (i := 8) rfl)) (hw _ (List.mem_of_getElem? (i := 9) rfl)) (hw _ (List.mem_of_getElem? (i := 6) rfl)) (by decide) pd_0 [(.int (3 : Int32)), (.ref pr)] rfl rfl 1 (Nat.le_of_eq rfl) rfl (by decide) (by decide) (by decide) (by decide) at_72 ?_
      rintro T h45 v45 ⟨rfl, K45, va1, lo1, er1, Qva1, Qlo1, Qer1, Bva1, Blo1, Ber1, zva1, zlo1, zer1, gva1, glo1, ger1, ne_va1_lo1, ne_va1_er1, ne_lo1_er1⟩ X
      have ne_b44_va1 : b44 ≠ va1 := Nat.ne_of_lt (Nat.lt_of_lt_of_le E_b44.lt zva1)
      have ne_b44_lo1 : b44 ≠ lo1 := Nat.ne_of_lt (Nat.lt_of_lt_of_le E_b44.lt zlo1)
      have ne_b44_er1 : b44 ≠ er1 := Nat.ne_of_lt (Nat.lt_of_lt_of_le E_b44.lt zer1)
      have E_b44 := E_b44.keep K45
      have F_b44_values := Qva1
      have A_va1 := Bva1
      have F_b44_lows := Qlo1
      have A_lo1 := Blo1
      have F_b44_errors := Qer1
      have A_er1 := Ber1
      change Run _ _ _ _ _ _ _ _ [(.ref b44)]
      refine r_astore 77 X #[.val (.int p0), .val (.int p1), .val (.int p2), .val (.int p3), .val (.int p4), .val (.int p5), .val (.ref pr), .val (.int (2 : Int32)), .val (.int (0 : Int32)), .val (.int (1 : Int32)), .val (.double (FP.i2d p0)), .second, .val (.double (FP.i2d (p1 &&& (2147483647 : Int32)))), .second, .val (.double (FP.i2d p3)), .second, .val (.double (FP.i2d (p4 &&& (2147483647 : Int32)))), .second, .val (.ref b44), .unset, .unset, .unset, .unset, .unset, .unset, .unset, .unset] at_75 rfl rfl ?_
      refine r_new 80 X (hw _ (List.mem_of_getElem? (i := 4) rfl)) (hw _ (List.mem_of_getElem? (i := 5) rfl)) (hw _ (List.mem_of_getElem? (i := 6) rfl)) at_77 (by decide) (by decide) ?_
      intro T h46 b46 g46 gn_b46 E46 A46 D46 X
      have ne_lo1_b46 : lo1 ≠ b46 := Nat.ne_of_lt (Nat.lt_of_lt_of_eq A_lo1.lt g46.symm)
      have ne_va1_b46 : va1 ≠ b46 := Nat.ne_of_lt (Nat.lt_of_lt_of_eq A_va1.lt g46.symm)
      have ne_er1_b46 : er1 ≠ b46 := Nat.ne_of_lt (Nat.lt_of_lt_of_eq A_er1.lt g46.symm)
      have ne_b44_b46 : b44 ≠ b46 := Nat.ne_of_lt (Nat.lt_of_lt_of_eq E_b44.lt g46.symm)
      have E_b44 := E_b44.ext E46
      have F_b44_values := F_b44_values.ext E46
      have A_va1 := A_va1.ext E46
      have F_b44_lows := F_b44_lows.ext E46
      have A_lo1 := A_lo1.ext E46
      have F_b44_errors := F_b44_errors.ext E46
      have A_er1 := A_er1.ext E46
      have E_b46 := A46
      have F_b46_precision : Fld Z h46 b46 "com/example/heliotrope/heliotrope/lra/StateValues" "precision" "Lcom/example/heliotrope/heliotrope/lra/Precision;" .null := D46 (Or.inr (hw _ (List.mem_of_getElem? (i := 14) rfl))) (ty := (.object "com/example/heliotrope/heliotrope/lra/Precision")) (by decide)
      have F_b46_values : Fld Z h46 b46 "com/example/heliotrope/heliotrope/lra/StateValues" "values" "[D" .null := D46 (Or.inr (hw _ (List.mem_of_getElem? (i := 17) rfl))) (ty := (.array .double)) (by decide)
      have F_b46_lows : Fld Z h46 b46 "com/example/heliotrope/heliotrope/lra/StateValues" "lows" "[D" .null := D46 (Or.inr (hw _ (List.mem_of_getElem? (i := 19) rfl))) (ty := (.array .double)) (by decide)
      have F_b46_errors : Fld Z h46 b46 "com/example/heliotrope/heliotrope/lra/StateValues" "errors" "[D" .null := D46 (Or.inr (hw _ (List.mem_of_getElem? (i := 21) rfl))) (ty := (.array .double)) (by decide)
      refine r_dup 81 X at_80 rfl ?_
      refine r_iconst 82 X (3 : Int32) at_81 rfl ?_
      refine r_aload 84 X at_82 rfl rfl ?_
      refine r_special 87 X (st := [(.ref b46)]) (a := b46) (rmIni l Z a0 hw n0 _ X.sz b46 pr E_b46 F_b46_precision F_b46_values F_b46_lows F_b46_errors gn_b46) rfl rfl (hw _ (List.mem_of_getElem? (i := 7) rfl)) (hw _ (List.mem_of_getElem? (i := 8) rfl)) (hw _ (List.mem_of_getElem? (i := 9) rfl)) (hw _ (List.mem_of_getElem? (i := 6) rfl)) (by decide) pd_0 [(.int (3 : Int32)), (.ref pr)] rfl rfl 1 (Nat.le_of_eq rfl) rfl (by decide) (by decide) (by decide) (by decide) at_84 ?_
      rintro T h47 v47 ⟨rfl, K47, va2, lo2, er2, Qva2, Qlo2, Qer2, Bva2, Blo2, Ber2, zva2, zlo2, zer2, gva2, glo2, ger2, ne_va2_lo2, ne_va2_er2, ne_lo2_er2⟩ X
      have ne_b44_va2 : b44 ≠ va2 := Nat.ne_of_lt (Nat.lt_of_lt_of_le E_b44.lt zva2)
      have ne_b46_va2 : b46 ≠ va2 := Nat.ne_of_lt (Nat.lt_of_lt_of_le E_b46.lt zva2)
      have ne_er1_va2 : er1 ≠ va2 := Nat.ne_of_lt (Nat.lt_of_lt_of_le A_er1.lt zva2)
      have ne_lo1_va2 : lo1 ≠ va2 := Nat.ne_of_lt (Nat.lt_of_lt_of_le A_lo1.lt zva2)
      have ne_va1_va2 : va1 ≠ va2 := Nat.ne_of_lt (Nat.lt_of_lt_of_le A_va1.lt zva2)
      have ne_b44_lo2 : b44 ≠ lo2 := Nat.ne_of_lt (Nat.lt_of_lt_of_le E_b44.lt zlo2)
      have ne_b46_lo2 : b46 ≠ lo2 := Nat.ne_of_lt (Nat.lt_of_lt_of_le E_b46.lt zlo2)
      have ne_er1_lo2 : er1 ≠ lo2 := Nat.ne_of_lt (Nat.lt_of_lt_of_le A_er1.lt zlo2)
      have ne_lo1_lo2 : lo1 ≠ lo2 := Nat.ne_of_lt (Nat.lt_of_lt_of_le A_lo1.lt zlo2)
      have ne_va1_lo2 : va1 ≠ lo2 := Nat.ne_of_lt (Nat.lt_of_lt_of_le A_va1.lt zlo2)
      have ne_b44_er2 : b44 ≠ er2 := Nat.ne_of_lt (Nat.lt_of_lt_of_le E_b44.lt zer2)
      have ne_b46_er2 : b46 ≠ er2 := Nat.ne_of_lt (Nat.lt_of_lt_of_le E_b46.lt zer2)
      have ne_er1_er2 : er1 ≠ er2 := Nat.ne_of_lt (Nat.lt_of_lt_of_le A_er1.lt zer2)
      have ne_lo1_er2 : lo1 ≠ er2 := Nat.ne_of_lt (Nat.lt_of_lt_of_le A_lo1.lt zer2)
      have ne_va1_er2 : va1 ≠ er2 := Nat.ne_of_lt (Nat.lt_of_lt_of_le A_va1.lt zer2)
      have E_b44 := E_b44.keep K47
      have F_b44_values := F_b44_values.keep K47 (ninS ne_b44_b46 nin0)
      have A_va1 := A_va1.keep K47 (ninS ne_va1_b46 nin0)
      have F_b44_lows := F_b44_lows.keep K47 (ninS ne_b44_b46 nin0)
      have A_lo1 := A_lo1.keep K47 (ninS ne_lo1_b46 nin0)
      have F_b44_errors := F_b44_errors.keep K47 (ninS ne_b44_b46 nin0)
      have A_er1 := A_er1.keep K47 (ninS ne_er1_b46 nin0)
      have E_b46 := E_b46.keep K47
      have F_b46_values := Qva2
      have A_va2 := Bva2
      have F_b46_lows := Qlo2
      have A_lo2 := Blo2
      have F_b46_errors := Qer2
      have A_er2 := Ber2
      change Run _ _ _ _ _ _ _ _ [(.ref b46)]
      refine r_astore 89 X #[.val (.int p0), .val (.int p1), .val (.int p2), .val (.int p3), .val (.int p4), .val (.int p5), .val (.ref pr), .val (.int (2 : Int32)), .val (.int (0 : Int32)), .val (.int (1 : Int32)), .val (.double (FP.i2d p0)), .second, .val (.double (FP.i2d (p1 &&& (2147483647 : Int32)))), .second, .val (.double (FP.i2d p3)), .second, .val (.double (FP.i2d (p4 &&& (2147483647 : Int32)))), .second, .val (.ref b44), .val (.ref b46), .unset, .unset, .unset, .unset, .unset, .unset, .unset] at_87 rfl rfl ?_
      refine r_aload 91 X at_89 rfl rfl ?_
      refine r_virtual 94 X (st := []) (a := b44) (rmVa l Z a0 hw n0 _ X.sz b44 va1 F_b44_values) E_b44 (hw _ (List.mem_of_getElem? (i := 22) rfl)) (hw _ (List.mem_of_getElem? (i := 23) rfl)) (hw _ (List.mem_of_getElem? (i := 25) rfl)) (hw _ (List.mem_of_getElem? (i := 25) rfl)) (hw _ (List.mem_of_getElem? (i := 24) rfl)) (hw _ (List.mem_of_getElem? (i := 26) rfl)) (hw _ (List.mem_of_getElem? (i := 6) rfl)) (by decide) pd_1 [] rfl rfl 0 (Nat.le_of_eq rfl) rfl (by decide) (by decide) (by decide) (by decide) at_91 ?_
      rintro T h48 v48 ⟨rfl, rfl⟩ X
      change Run _ _ _ _ _ _ _ _ [(.ref va1)]
      refine r_astore 96 X #[.val (.int p0), .val (.int p1), .val (.int p2), .val (.int p3), .val (.int p4), .val (.int p5), .val (.ref pr), .val (.int (2 : Int32)), .val (.int (0 : Int32)), .val (.int (1 : Int32)), .val (.double (FP.i2d p0)), .second, .val (.double (FP.i2d (p1 &&& (2147483647 : Int32)))), .second, .val (.double (FP.i2d p3)), .second, .val (.double (FP.i2d (p4 &&& (2147483647 : Int32)))), .second, .val (.ref b44), .val (.ref b46), .val (.ref va1), .unset, .unset, .unset, .unset, .unset, .unset] at_94 rfl rfl ?_
      refine r_aload 98 X at_96 rfl rfl ?_
      refine r_virtual 101 X (st := []) (a := b44) (rmEr l Z a0 hw n0 _ X.sz b44 er1 F_b44_errors) E_b44 (hw _ (List.mem_of_getElem? (i := 27) rfl)) (hw _ (List.mem_of_getElem? (i := 28) rfl)) (hw _ (List.mem_of_getElem? (i := 30) rfl)) (hw _ (List.mem_of_getElem? (i := 30) rfl)) (hw _ (List.mem_of_getElem? (i := 29) rfl)) (hw _ (List.mem_of_getElem? (i := 31) rfl)) (hw _ (List.mem_of_getElem? (i := 6) rfl)) (by decide) pd_1 [] rfl rfl 0 (Nat.le_of_eq rfl) rfl (by decide) (by decide) (by decide) (by decide) at_98 ?_
      rintro T h49 v49 ⟨rfl, rfl⟩ X
      change Run _ _ _ _ _ _ _ _ [(.ref er1)]
      refine r_astore 103 X #[.val (.int p0), .val (.int p1), .val (.int p2), .val (.int p3), .val (.int p4), .val (.int p5), .val (.ref pr), .val (.int (2 : Int32)), .val (.int (0 : Int32)), .val (.int (1 : Int32)), .val (.double (FP.i2d p0)), .second, .val (.double (FP.i2d (p1 &&& (2147483647 : Int32)))), .second, .val (.double (FP.i2d p3)), .second, .val (.double (FP.i2d (p4 &&& (2147483647 : Int32)))), .second, .val (.ref b44), .val (.ref b46), .val (.ref va1), .val (.ref er1), .unset, .unset, .unset, .unset, .unset] at_101 rfl rfl ?_
      refine r_aload 105 X at_103 rfl rfl ?_
      refine r_virtual 108 X (st := []) (a := b46) (rmVa l Z a0 hw n0 _ X.sz b46 va2 F_b46_values) E_b46 (hw _ (List.mem_of_getElem? (i := 22) rfl)) (hw _ (List.mem_of_getElem? (i := 23) rfl)) (hw _ (List.mem_of_getElem? (i := 25) rfl)) (hw _ (List.mem_of_getElem? (i := 25) rfl)) (hw _ (List.mem_of_getElem? (i := 24) rfl)) (hw _ (List.mem_of_getElem? (i := 26) rfl)) (hw _ (List.mem_of_getElem? (i := 6) rfl)) (by decide) pd_1 [] rfl rfl 0 (Nat.le_of_eq rfl) rfl (by decide) (by decide) (by decide) (by decide) at_105 ?_
      rintro T h50 v50 ⟨rfl, rfl⟩ X
      change Run _ _ _ _ _ _ _ _ [(.ref va2)]
      refine r_astore 110 X #[.val (.int p0), .val (.int p1), .val (.int p2), .val (.int p3), .val (.int p4), .val (.int p5), .val (.ref pr), .val (.int (2 : Int32)), .val (.int (0 : Int32)), .val (.int (1 : Int32)), .val (.double (FP.i2d p0)), .second, .val (.double (FP.i2d (p1 &&& (2147483647 : Int32)))), .second, .val (.double (FP.i2d p3)), .second, .val (.double (FP.i2d (p4 &&& (2147483647 : Int32)))), .second, .val (.ref b44), .val (.ref b46), .val (.ref va1), .val (.ref er1), .val (.ref va2), .unset, .unset, .unset, .unset] at_108 rfl rfl ?_
      refine r_aload 112 X at_110 rfl rfl ?_
      refine r_virtual 115 X (st := []) (a := b46) (rmEr l Z a0 hw n0 _ X.sz b46 er2 F_b46_errors) E_b46 (hw _ (List.mem_of_getElem? (i := 27) rfl)) (hw _ (List.mem_of_getElem? (i := 28) rfl)) (hw _ (List.mem_of_getElem? (i := 30) rfl)) (hw _ (List.mem_of_getElem? (i := 30) rfl)) (hw _ (List.mem_of_getElem? (i := 29) rfl)) (hw _ (List.mem_of_getElem? (i := 31) rfl)) (hw _ (List.mem_of_getElem? (i := 6) rfl)) (by decide) pd_1 [] rfl rfl 0 (Nat.le_of_eq rfl) rfl (by decide) (by decide) (by decide) (by decide) at_112 ?_
      rintro T h51 v51 ⟨rfl, rfl⟩ X
      change Run _ _ _ _ _ _ _ _ [(.ref er2)]
      refine r_astore 117 X #[.val (.int p0), .val (.int p1), .val (.int p2), .val (.int p3), .val (.int p4), .val (.int p5), .val (.ref pr), .val (.int (2 : Int32)), .val (.int (0 : Int32)), .val (.int (1 : Int32)), .val (.double (FP.i2d p0)), .second, .val (.double (FP.i2d (p1 &&& (2147483647 : Int32)))), .second, .val (.double (FP.i2d p3)), .second, .val (.double (FP.i2d (p4 &&& (2147483647 : Int32)))), .second, .val (.ref b44), .val (.ref b46), .val (.ref va1), .val (.ref er1), .val (.ref va2), .val (.ref er2), .unset, .unset, .unset] at_115 rfl rfl ?_
      refine r_aload 119 X at_117 rfl rfl ?_
      refine r_iload 121 X at_119 rfl ?_
      refine r_dload 123 X at_121 rfl ?_
      refine r_dastore 124 X A_va1 (i := 2) (v := (.double (FP.i2d p0))) (by decide) (by decide) rfl gva1 at_123 ?_
      intro T h52 W52 X
      have E_b44 := E_b44.wr W52
      have F_b44_values := F_b44_values.other W52 (Or.inl ne_b44_va1)
      have A_va1 := A_va1.setD W52
      have F_b44_lows := F_b44_lows.other W52 (Or.inl ne_b44_va1)
      have A_lo1 := A_lo1.other W52 (Ne.symm ne_va1_lo1)
      have F_b44_errors := F_b44_errors.other W52 (Or.inl ne_b44_va1)
      have A_er1 := A_er1.other W52 (Ne.symm ne_va1_er1)
      have E_b46 := E_b46.wr W52
      have F_b46_values := F_b46_values.other W52 (Or.inl (Ne.symm ne_va1_b46))
      have A_va2 := A_va2.other W52 (Ne.symm ne_va1_va2)
      have F_b46_lows := F_b46_lows.other W52 (Or.inl (Ne.symm ne_va1_b46))
      have A_lo2 := A_lo2.other W52 (Ne.symm ne_va1_lo2)
      have F_b46_errors := F_b46_errors.other W52 (Or.inl (Ne.symm ne_va1_b46))
      have A_er2 := A_er2.other W52 (Ne.symm ne_va1_er2)
      refine r_aload 126 X at_124 rfl rfl ?_
      refine r_iload 128 X at_126 rfl ?_
      refine r_dload 130 X at_128 rfl ?_
      refine r_dastore 131 X A_er1 (i := 2) (v := (.double (FP.i2d (p1 &&& (2147483647 : Int32))))) (by decide) (by decide) rfl ger1 at_130 ?_
      intro T h53 W53 X
      have E_b44 := E_b44.wr W53
      have F_b44_values := F_b44_values.other W53 (Or.inl ne_b44_er1)
      have A_va1 := A_va1.other W53 ne_va1_er1
      have F_b44_lows := F_b44_lows.other W53 (Or.inl ne_b44_er1)
      have A_lo1 := A_lo1.other W53 ne_lo1_er1
      have F_b44_errors := F_b44_errors.other W53 (Or.inl ne_b44_er1)
      have A_er1 := A_er1.setD W53
      have E_b46 := E_b46.wr W53
      have F_b46_values := F_b46_values.other W53 (Or.inl (Ne.symm ne_er1_b46))
      have A_va2 := A_va2.other W53 (Ne.symm ne_er1_va2)
      have F_b46_lows := F_b46_lows.other W53 (Or.inl (Ne.symm ne_er1_b46))
      have A_lo2 := A_lo2.other W53 (Ne.symm ne_er1_lo2)
      have F_b46_errors := F_b46_errors.other W53 (Or.inl (Ne.symm ne_er1_b46))
      have A_er2 := A_er2.other W53 (Ne.symm ne_er1_er2)
      refine r_aload 133 X at_131 rfl rfl ?_
      refine r_iload 135 X at_133 rfl ?_
      refine r_dload 137 X at_135 rfl ?_
      refine r_dneg 138 X at_137 ?_
      refine r_dconst1 139 X at_138 ?_
      refine r_dsub 140 X at_139 (Jvm.Free.Fl.dsub_out ((dneg_mag (Jvm.Free.Fl.i2d_mag _)).fin (by decide)).noNaN own_fin1) ?_
      refine r_dastore 141 X A_va1 (i := 0) (v := (.double (FP.dsub (FP.dneg (FP.i2d p0)) FP.dconst1))) (by decide) (by decide) rfl gva1 at_140 ?_
      intro T h54 W54 X
      have E_b44 := E_b44.wr W54
      have F_b44_values := F_b44_values.other W54 (Or.inl ne_b44_va1)
      have A_va1 := A_va1.setD W54
      have F_b44_lows := F_b44_lows.other W54 (Or.inl ne_b44_va1)
      have A_lo1 := A_lo1.other W54 (Ne.symm ne_va1_lo1)
      have F_b44_errors := F_b44_errors.other W54 (Or.inl ne_b44_va1)
      have A_er1 := A_er1.other W54 (Ne.symm ne_va1_er1)
      have E_b46 := E_b46.wr W54
      have F_b46_values := F_b46_values.other W54 (Or.inl (Ne.symm ne_va1_b46))
      have A_va2 := A_va2.other W54 (Ne.symm ne_va1_va2)
      have F_b46_lows := F_b46_lows.other W54 (Or.inl (Ne.symm ne_va1_b46))
      have A_lo2 := A_lo2.other W54 (Ne.symm ne_va1_lo2)
      have F_b46_errors := F_b46_errors.other W54 (Or.inl (Ne.symm ne_va1_b46))
      have A_er2 := A_er2.other W54 (Ne.symm ne_va1_er2)
      refine r_aload 143 X at_141 rfl rfl ?_
      refine r_iload 145 X at_143 rfl ?_
      refine r_dload 147 X at_145 rfl ?_
      refine r_dconst1 148 X at_147 ?_
      refine r_dadd 149 X at_148 (Jvm.Free.Fl.dadd_out (Jvm.Free.Fl.i2d_fin _).noNaN own_fin1) ?_
      refine r_dastore 150 X A_er1 (i := 0) (v := (.double (FP.dadd (FP.i2d (p1 &&& (2147483647 : Int32))) FP.dconst1))) (by decide) (by decide) rfl ger1 at_149 ?_
      intro T h55 W55 X
      have E_b44 := E_b44.wr W55
      have F_b44_values := F_b44_values.other W55 (Or.inl ne_b44_er1)
      have A_va1 := A_va1.other W55 ne_va1_er1
      have F_b44_lows := F_b44_lows.other W55 (Or.inl ne_b44_er1)
      have A_lo1 := A_lo1.other W55 ne_lo1_er1
      have F_b44_errors := F_b44_errors.other W55 (Or.inl ne_b44_er1)
      have A_er1 := A_er1.setD W55
      have E_b46 := E_b46.wr W55
      have F_b46_values := F_b46_values.other W55 (Or.inl (Ne.symm ne_er1_b46))
      have A_va2 := A_va2.other W55 (Ne.symm ne_er1_va2)
      have F_b46_lows := F_b46_lows.other W55 (Or.inl (Ne.symm ne_er1_b46))
      have A_lo2 := A_lo2.other W55 (Ne.symm ne_er1_lo2)
      have F_b46_errors := F_b46_errors.other W55 (Or.inl (Ne.symm ne_er1_b46))
      have A_er2 := A_er2.other W55 (Ne.symm ne_er1_er2)
      refine r_aload 152 X at_150 rfl rfl ?_
      refine r_iload 154 X at_152 rfl ?_
      refine r_dload 156 X at_154 rfl ?_
      refine r_ldc2Double 159 X (hw _ (List.mem_of_getElem? (i := 32) rfl)) at_156 ?_
      refine r_dadd 160 X at_159 (Jvm.Free.Fl.dadd_out (Jvm.Free.Fl.i2d_fin _).noNaN own_fin2) ?_
      refine r_dastore 161 X A_va1 (i := 1) (v := (.double (FP.dadd (FP.i2d p0) (4602678819172646912 : UInt64)))) (by decide) (by decide) rfl gva1 at_160 ?_
      intro T h56 W56 X
      have E_b44 := E_b44.wr W56
      have F_b44_values := F_b44_values.other W56 (Or.inl ne_b44_va1)
      have A_va1 := A_va1.setD W56
      have F_b44_lows := F_b44_lows.other W56 (Or.inl ne_b44_va1)
      have A_lo1 := A_lo1.other W56 (Ne.symm ne_va1_lo1)
      have F_b44_errors := F_b44_errors.other W56 (Or.inl ne_b44_va1)
      have A_er1 := A_er1.other W56 (Ne.symm ne_va1_er1)
      have E_b46 := E_b46.wr W56
      have F_b46_values := F_b46_values.other W56 (Or.inl (Ne.symm ne_va1_b46))
      have A_va2 := A_va2.other W56 (Ne.symm ne_va1_va2)
      have F_b46_lows := F_b46_lows.other W56 (Or.inl (Ne.symm ne_va1_b46))
      have A_lo2 := A_lo2.other W56 (Ne.symm ne_va1_lo2)
      have F_b46_errors := F_b46_errors.other W56 (Or.inl (Ne.symm ne_va1_b46))
      have A_er2 := A_er2.other W56 (Ne.symm ne_va1_er2)
      refine r_aload 163 X at_161 rfl rfl ?_
      refine r_iload 165 X at_163 rfl ?_
      refine r_dload 167 X at_165 rfl ?_
      refine r_ldc2Double 170 X (hw _ (List.mem_of_getElem? (i := 32) rfl)) at_167 ?_
      refine r_dadd 171 X at_170 (Jvm.Free.Fl.dadd_out (Jvm.Free.Fl.i2d_fin _).noNaN own_fin2) ?_
      refine r_dastore 172 X A_er1 (i := 1) (v := (.double (FP.dadd (FP.i2d (p1 &&& (2147483647 : Int32))) (4602678819172646912 : UInt64)))) (by decide) (by decide) rfl ger1 at_171 ?_
      intro T h57 W57 X
      have E_b44 := E_b44.wr W57
      have F_b44_values := F_b44_values.other W57 (Or.inl ne_b44_er1)
      have A_va1 := A_va1.other W57 ne_va1_er1
      have F_b44_lows := F_b44_lows.other W57 (Or.inl ne_b44_er1)
      have A_lo1 := A_lo1.other W57 ne_lo1_er1
      have F_b44_errors := F_b44_errors.other W57 (Or.inl ne_b44_er1)
      have A_er1 := A_er1.setD W57
      have E_b46 := E_b46.wr W57
      have F_b46_values := F_b46_values.other W57 (Or.inl (Ne.symm ne_er1_b46))
      have A_va2 := A_va2.other W57 (Ne.symm ne_er1_va2)
      have F_b46_lows := F_b46_lows.other W57 (Or.inl (Ne.symm ne_er1_b46))
      have A_lo2 := A_lo2.other W57 (Ne.symm ne_er1_lo2)
      have F_b46_errors := F_b46_errors.other W57 (Or.inl (Ne.symm ne_er1_b46))
      have A_er2 := A_er2.other W57 (Ne.symm ne_er1_er2)
      refine r_aload 174 X at_172 rfl rfl ?_
      refine r_iconst 175 X (0 : Int32) at_174 rfl ?_
      refine r_dload 177 X at_175 rfl ?_
      refine r_dastore 178 X A_va2 (i := 0) (v := (.double (FP.i2d p3))) (by decide) (by decide) rfl gva2 at_177 ?_
      intro T h58 W58 X
      have E_b44 := E_b44.wr W58
      have F_b44_values := F_b44_values.other W58 (Or.inl ne_b44_va2)
      have A_va1 := A_va1.other W58 ne_va1_va2
      have F_b44_lows := F_b44_lows.other W58 (Or.inl ne_b44_va2)
      have A_lo1 := A_lo1.other W58 ne_lo1_va2
      have F_b44_errors := F_b44_errors.other W58 (Or.inl ne_b44_va2)
      have A_er1 := A_er1.other W58 ne_er1_va2
      have E_b46 := E_b46.wr W58
      have F_b46_values := F_b46_values.other W58 (Or.inl ne_b46_va2)
      have A_va2 := A_va2.setD W58
      have F_b46_lows := F_b46_lows.other W58 (Or.inl ne_b46_va2)
      have A_lo2 := A_lo2.other W58 (Ne.symm ne_va2_lo2)
      have F_b46_errors := F_b46_errors.other W58 (Or.inl ne_b46_va2)
      have A_er2 := A_er2.other W58 (Ne.symm ne_va2_er2)
      refine r_aload 180 X at_178 rfl rfl ?_
      refine r_iconst 181 X (1 : Int32) at_180 rfl ?_
      refine r_dload 183 X at_181 rfl ?_
      refine r_dastore 184 X A_va2 (i := 1) (v := (.double (FP.i2d p3))) (by decide) (by decide) rfl gva2 at_183 ?_
      intro T h59 W59 X
      have E_b44 := E_b44.wr W59
      have F_b44_values := F_b44_values.other W59 (Or.inl ne_b44_va2)
      have A_va1 := A_va1.other W59 ne_va1_va2
      have F_b44_lows := F_b44_lows.other W59 (Or.inl ne_b44_va2)
      have A_lo1 := A_lo1.other W59 ne_lo1_va2
      have F_b44_errors := F_b44_errors.other W59 (Or.inl ne_b44_va2)
      have A_er1 := A_er1.other W59 ne_er1_va2
      have E_b46 := E_b46.wr W59
      have F_b46_values := F_b46_values.other W59 (Or.inl ne_b46_va2)
      have A_va2 := A_va2.setD W59
      have F_b46_lows := F_b46_lows.other W59 (Or.inl ne_b46_va2)
      have A_lo2 := A_lo2.other W59 (Ne.symm ne_va2_lo2)
      have F_b46_errors := F_b46_errors.other W59 (Or.inl ne_b46_va2)
      have A_er2 := A_er2.other W59 (Ne.symm ne_va2_er2)
      refine r_aload 186 X at_184 rfl rfl ?_
      refine r_iconst 187 X (2 : Int32) at_186 rfl ?_
      refine r_dload 189 X at_187 rfl ?_
      refine r_dastore 190 X A_va2 (i := 2) (v := (.double (FP.i2d p3))) (by decide) (by decide) rfl gva2 at_189 ?_
      intro T h60 W60 X
      have E_b44 := E_b44.wr W60
      have F_b44_values := F_b44_values.other W60 (Or.inl ne_b44_va2)
      have A_va1 := A_va1.other W60 ne_va1_va2
      have F_b44_lows := F_b44_lows.other W60 (Or.inl ne_b44_va2)
      have A_lo1 := A_lo1.other W60 ne_lo1_va2
      have F_b44_errors := F_b44_errors.other W60 (Or.inl ne_b44_va2)
      have A_er1 := A_er1.other W60 ne_er1_va2
      have E_b46 := E_b46.wr W60
      have F_b46_values := F_b46_values.other W60 (Or.inl ne_b46_va2)
      have A_va2 := A_va2.setD W60
      have F_b46_lows := F_b46_lows.other W60 (Or.inl ne_b46_va2)
      have A_lo2 := A_lo2.other W60 (Ne.symm ne_va2_lo2)
      have F_b46_errors := F_b46_errors.other W60 (Or.inl ne_b46_va2)
      have A_er2 := A_er2.other W60 (Ne.symm ne_va2_er2)
      refine r_aload 192 X at_190 rfl rfl ?_
      refine r_iconst 193 X (0 : Int32) at_192 rfl ?_
      refine r_dload 195 X at_193 rfl ?_
      refine r_dastore 196 X A_er2 (i := 0) (v := (.double (FP.i2d (p4 &&& (2147483647 : Int32))))) (by decide) (by decide) rfl ger2 at_195 ?_
      intro T h61 W61 X
      have E_b44 := E_b44.wr W61
      have F_b44_values := F_b44_values.other W61 (Or.inl ne_b44_er2)
      have A_va1 := A_va1.other W61 ne_va1_er2
      have F_b44_lows := F_b44_lows.other W61 (Or.inl ne_b44_er2)
      have A_lo1 := A_lo1.other W61 ne_lo1_er2
      have F_b44_errors := F_b44_errors.other W61 (Or.inl ne_b44_er2)
      have A_er1 := A_er1.other W61 ne_er1_er2
      have E_b46 := E_b46.wr W61
      have F_b46_values := F_b46_values.other W61 (Or.inl ne_b46_er2)
      have A_va2 := A_va2.other W61 ne_va2_er2
      have F_b46_lows := F_b46_lows.other W61 (Or.inl ne_b46_er2)
      have A_lo2 := A_lo2.other W61 ne_lo2_er2
      have F_b46_errors := F_b46_errors.other W61 (Or.inl ne_b46_er2)
      have A_er2 := A_er2.setD W61
      refine r_aload 198 X at_196 rfl rfl ?_
      refine r_iconst 199 X (1 : Int32) at_198 rfl ?_
      refine r_dload 201 X at_199 rfl ?_
      refine r_dastore 202 X A_er2 (i := 1) (v := (.double (FP.i2d (p4 &&& (2147483647 : Int32))))) (by decide) (by decide) rfl ger2 at_201 ?_
      intro T h62 W62 X
      have E_b44 := E_b44.wr W62
      have F_b44_values := F_b44_values.other W62 (Or.inl ne_b44_er2)
      have A_va1 := A_va1.other W62 ne_va1_er2
      have F_b44_lows := F_b44_lows.other W62 (Or.inl ne_b44_er2)
      have A_lo1 := A_lo1.other W62 ne_lo1_er2
      have F_b44_errors := F_b44_errors.other W62 (Or.inl ne_b44_er2)
      have A_er1 := A_er1.other W62 ne_er1_er2
      have E_b46 := E_b46.wr W62
      have F_b46_values := F_b46_values.other W62 (Or.inl ne_b46_er2)
      have A_va2 := A_va2.other W62 ne_va2_er2
      have F_b46_lows := F_b46_lows.other W62 (Or.inl ne_b46_er2)
      have A_lo2 := A_lo2.other W62 ne_lo2_er2
      have F_b46_errors := F_b46_errors.other W62 (Or.inl ne_b46_er2)
      have A_er2 := A_er2.setD W62
      refine r_aload 204 X at_202 rfl rfl ?_
      refine r_iconst 205 X (2 : Int32) at_204 rfl ?_
      refine r_dload 207 X at_205 rfl ?_
      refine r_dastore 208 X A_er2 (i := 2) (v := (.double (FP.i2d (p4 &&& (2147483647 : Int32))))) (by decide) (by decide) rfl ger2 at_207 ?_
      intro T h63 W63 X
      have E_b44 := E_b44.wr W63
      have F_b44_values := F_b44_values.other W63 (Or.inl ne_b44_er2)
      have A_va1 := A_va1.other W63 ne_va1_er2
      have F_b44_lows := F_b44_lows.other W63 (Or.inl ne_b44_er2)
      have A_lo1 := A_lo1.other W63 ne_lo1_er2
      have F_b44_errors := F_b44_errors.other W63 (Or.inl ne_b44_er2)
      have A_er1 := A_er1.other W63 ne_er1_er2
      have E_b46 := E_b46.wr W63
      have F_b46_values := F_b46_values.other W63 (Or.inl ne_b46_er2)
      have A_va2 := A_va2.other W63 ne_va2_er2
      have F_b46_lows := F_b46_lows.other W63 (Or.inl ne_b46_er2)
      have A_lo2 := A_lo2.other W63 ne_lo2_er2
      have F_b46_errors := F_b46_errors.other W63 (Or.inl ne_b46_er2)
      have A_er2 := A_er2.setD W63
      refine r_aload 210 X at_208 rfl rfl ?_
      refine r_aload 212 X at_210 rfl rfl ?_
      refine r_iload 214 X at_212 rfl ?_
      refine r_virtual 217 X (st := []) (a := b46) (rmCopy l Z a0 hw n0 _ X.sz b46 b44 va2 lo2 er2 va1 lo1 er1 (updD (updD (updD (fun _ => (0 : UInt64)) 0 (FP.i2d p3)) 1 (FP.i2d p3)) 2 (FP.i2d p3)) (fun _ => (0 : UInt64)) (updD (updD (updD (fun _ => (0 : UInt64)) 0 (FP.i2d (p4 &&& (2147483647 : Int32)))) 1 (FP.i2d (p4 &&& (2147483647 : Int32)))) 2 (FP.i2d (p4 &&& (2147483647 : Int32)))) (updD (updD (updD (fun _ => (0 : UInt64)) 2 (FP.i2d p0)) 0 (FP.dsub (FP.dneg (FP.i2d p0)) FP.dconst1)) 1 (FP.dadd (FP.i2d p0) (4602678819172646912 : UInt64))) (fun _ => (0 : UInt64)) (updD (updD (updD (fun _ => (0 : UInt64)) 2 (FP.i2d (p1 &&& (2147483647 : Int32)))) 0 (FP.dadd (FP.i2d (p1 &&& (2147483647 : Int32))) FP.dconst1)) 1 (FP.dadd (FP.i2d (p1 &&& (2147483647 : Int32))) (4602678819172646912 : UInt64))) (2 : Int32) 2 (by decide) (by decide) gva2 glo2 ger2 ne_b46_er2 ne_b46_lo2 ne_b46_va2 ne_b44_er2 ne_b44_lo2 ne_b44_va2 (Ne.symm ne_lo2_er2) (Ne.symm ne_va2_er2) ne_er1_er2 ne_er1_lo2 ne_er1_va2 (Ne.symm ne_va2_lo2) ne_lo1_er2 ne_lo1_lo2 ne_lo1_va2 ne_va1_er2 ne_va1_lo2 ne_va1_va2 F_b46_values F_b46_lows F_b46_errors F_b44_values F_b44_lows F_b44_errors A_va2 A_lo2 A_er2 A_va1 A_lo1 A_er1) E_b46 (hw _ (List.mem_of_getElem? (i := 33) rfl)) (hw _ (List.mem_of_getElem? (i := 34) rfl)) (hw _ (List.mem_of_getElem? (i := 36) rfl)) (hw _ (List.mem_of_getElem? (i := 36) rfl)) (hw _ (List.mem_of_getElem? (i := 35) rfl)) (hw _ (List.mem_of_getElem? (i := 37) rfl)) (hw _ (List.mem_of_getElem? (i := 6) rfl)) (by decide) pd_2 [(.ref b44), (.int (2 : Int32))] rfl rfl 0 (Nat.le_of_eq rfl) rfl (by decide) (by decide) (by decide) (by decide) at_214 ?_
      rintro T h64 v64 ⟨rfl, K64, Aa64, Ab64⟩ X
      have E_b44 := E_b44.keep K64
      have F_b44_values := F_b44_values.keep K64 (ninS ne_b44_va2 (ninS ne_b44_lo2 (ninS ne_b44_er2 nin0)))
      have A_va1 := A_va1.keep K64 (ninS ne_va1_va2 (ninS ne_va1_lo2 (ninS ne_va1_er2 nin0)))
      have F_b44_lows := F_b44_lows.keep K64 (ninS ne_b44_va2 (ninS ne_b44_lo2 (ninS ne_b44_er2 nin0)))
      have A_lo1 := A_lo1.keep K64 (ninS ne_lo1_va2 (ninS ne_lo1_lo2 (ninS ne_lo1_er2 nin0)))
      have F_b44_errors := F_b44_errors.keep K64 (ninS ne_b44_va2 (ninS ne_b44_lo2 (ninS ne_b44_er2 nin0)))
      have A_er1 := A_er1.keep K64 (ninS ne_er1_va2 (ninS ne_er1_lo2 (ninS ne_er1_er2 nin0)))
      have E_b46 := E_b46.keep K64
      have F_b46_values := F_b46_values.keep K64 (ninS ne_b46_va2 (ninS ne_b46_lo2 (ninS ne_b46_er2 nin0)))
      have F_b46_lows := F_b46_lows.keep K64 (ninS ne_b46_va2 (ninS ne_b46_lo2 (ninS ne_b46_er2 nin0)))
      have F_b46_errors := F_b46_errors.keep K64 (ninS ne_b46_va2 (ninS ne_b46_lo2 (ninS ne_b46_er2 nin0)))
      replace Aa64 : AF Z h64 va2 .double 3 (fun j => .double ((updD (updD (updD (updD (fun _ => (0 : UInt64)) 0 (FP.i2d p3)) 1 (FP.i2d p3)) 2 (FP.i2d p3)) 2 (FP.i2d p0)) j)) := Aa64
      have A_va2 := Aa64
      replace Ab64 : AF Z h64 er2 .double 3 (fun j => .double ((updD (updD (updD (updD (fun _ => (0 : UInt64)) 0 (FP.i2d (p4 &&& (2147483647 : Int32)))) 1 (FP.i2d (p4 &&& (2147483647 : Int32)))) 2 (FP.i2d (p4 &&& (2147483647 : Int32)))) 2 (FP.i2d (p1 &&& (2147483647 : Int32)))) j)) := Ab64
      have A_er2 := Ab64
      change Run _ _ _ _ _ _ _ _ []
      refine r_aload 219 X at_217 rfl rfl ?_
      refine r_iload 221 X at_219 rfl ?_
      refine r_daload 222 X A_va2 (i := 2) (v := (.double (FP.i2d p0))) (by decide) (by decide) rfl at_221 ?_
      refine r_dload 224 X at_222 rfl ?_
      refine r_dcmpSelf 225 X at_224 (Jvm.Free.Fl.i2d_fin _).noNaN ?_
      refine r_ifN 228 X at_225 ((if0 _ _).trans (teq (by decide)).2) ?_
      refine r_aload 230 X at_228 rfl rfl ?_
      refine r_iload 232 X at_230 rfl ?_
      refine r_daload 233 X A_er2 (i := 2) (v := (.double (FP.i2d (p1 &&& (2147483647 : Int32))))) (by decide) (by decide) rfl at_232 ?_
      refine r_dload 235 X at_233 rfl ?_
      refine r_dcmpSelf 236 X at_235 (Jvm.Free.Fl.i2d_fin _).noNaN ?_
      refine r_ifN 239 X at_236 ((if0 _ _).trans (teq (by decide)).2) ?_
      refine r_iconst 240 X (1 : Int32) at_239 rfl ?_
      refine r_goto 244 X at_240 ?_
      refine r_istore 246 X #[.val (.int p0), .val (.int p1), .val (.int p2), .val (.int p3), .val (.int p4), .val (.int p5), .val (.ref pr), .val (.int (2 : Int32)), .val (.int (0 : Int32)), .val (.int (1 : Int32)), .val (.double (FP.i2d p0)), .second, .val (.double (FP.i2d (p1 &&& (2147483647 : Int32)))), .second, .val (.double (FP.i2d p3)), .second, .val (.double (FP.i2d (p4 &&& (2147483647 : Int32)))), .second, .val (.ref b44), .val (.ref b46), .val (.ref va1), .val (.ref er1), .val (.ref va2), .val (.ref er2), .val (.int (1 : Int32)), .unset, .unset] at_244 rfl ?_
      refine r_aload 248 X at_246 rfl rfl ?_
      refine r_iload 250 X at_248 rfl ?_
      refine r_daload 251 X A_va2 (i := 0) (v := (.double (FP.i2d p3))) (by decide) (by decide) rfl at_250 ?_
      refine r_dload 253 X at_251 rfl ?_
      refine r_dcmpSelf 254 X at_253 (Jvm.Free.Fl.i2d_fin _).noNaN ?_
      refine r_ifN 257 X at_254 ((if0 _ _).trans (teq (by decide)).2) ?_
      refine r_aload 259 X at_257 rfl rfl ?_
      refine r_iload 261 X at_259 rfl ?_
      refine r_daload 262 X A_er2 (i := 0) (v := (.double (FP.i2d (p4 &&& (2147483647 : Int32))))) (by decide) (by decide) rfl at_261 ?_
      refine r_dload 264 X at_262 rfl ?_
      refine r_dcmpSelf 265 X at_264 (Jvm.Free.Fl.i2d_fin _).noNaN ?_
      refine r_ifN 268 X at_265 ((if0 _ _).trans (teq (by decide)).2) ?_
      refine r_aload 270 X at_268 rfl rfl ?_
      refine r_iload 272 X at_270 rfl ?_
      refine r_daload 273 X A_va2 (i := 1) (v := (.double (FP.i2d p3))) (by decide) (by decide) rfl at_272 ?_
      refine r_dload 275 X at_273 rfl ?_
      refine r_dcmpSelf 276 X at_275 (Jvm.Free.Fl.i2d_fin _).noNaN ?_
      refine r_ifN 279 X at_276 ((if0 _ _).trans (teq (by decide)).2) ?_
      refine r_aload 281 X at_279 rfl rfl ?_
      refine r_iload 283 X at_281 rfl ?_
      refine r_daload 284 X A_er2 (i := 1) (v := (.double (FP.i2d (p4 &&& (2147483647 : Int32))))) (by decide) (by decide) rfl at_283 ?_
      refine r_dload 286 X at_284 rfl ?_
      refine r_dcmpSelf 287 X at_286 (Jvm.Free.Fl.i2d_fin _).noNaN ?_
      refine r_ifN 290 X at_287 ((if0 _ _).trans (teq (by decide)).2) ?_
      refine r_iconst 291 X (1 : Int32) at_290 rfl ?_
      refine r_goto 295 X at_291 ?_
      refine r_istore 297 X #[.val (.int p0), .val (.int p1), .val (.int p2), .val (.int p3), .val (.int p4), .val (.int p5), .val (.ref pr), .val (.int (2 : Int32)), .val (.int (0 : Int32)), .val (.int (1 : Int32)), .val (.double (FP.i2d p0)), .second, .val (.double (FP.i2d (p1 &&& (2147483647 : Int32)))), .second, .val (.double (FP.i2d p3)), .second, .val (.double (FP.i2d (p4 &&& (2147483647 : Int32)))), .second, .val (.ref b44), .val (.ref b46), .val (.ref va1), .val (.ref er1), .val (.ref va2), .val (.ref er2), .val (.int (1 : Int32)), .val (.int (1 : Int32)), .unset] at_295 rfl ?_
      refine r_aload 299 X at_297 rfl rfl ?_
      refine r_iload 301 X at_299 rfl ?_
      refine r_daload 302 X A_va1 (i := 2) (v := (.double (FP.i2d p0))) (by decide) (by decide) rfl at_301 ?_
      refine r_dload 304 X at_302 rfl ?_
      refine r_dcmpSelf 305 X at_304 (Jvm.Free.Fl.i2d_fin _).noNaN ?_
      refine r_ifN 308 X at_305 ((if0 _ _).trans (teq (by decide)).2) ?_
      refine r_aload 310 X at_308 rfl rfl ?_
      refine r_iload 312 X at_310 rfl ?_
      refine r_daload 313 X A_er1 (i := 2) (v := (.double (FP.i2d (p1 &&& (2147483647 : Int32))))) (by decide) (by decide) rfl at_312 ?_
      refine r_dload 315 X at_313 rfl ?_
      refine r_dcmpSelf 316 X at_315 (Jvm.Free.Fl.i2d_fin _).noNaN ?_
      refine r_ifN 319 X at_316 ((if0 _ _).trans (teq (by decide)).2) ?_
      refine r_aload 321 X at_319 rfl rfl ?_
      refine r_iload 323 X at_321 rfl ?_
      refine r_daload 324 X A_va1 (i := 0) (v := (.double (FP.dsub (FP.dneg (FP.i2d p0)) FP.dconst1))) (by decide) (by decide) rfl at_323 ?_
      refine r_dload 326 X at_324 rfl ?_
      refine r_dneg 327 X at_326 ?_
      refine r_dconst1 328 X at_327 ?_
      refine r_dsub 329 X at_328 (Jvm.Free.Fl.dsub_out ((dneg_mag (Jvm.Free.Fl.i2d_mag _)).fin (by decide)).noNaN own_fin1) ?_
      refine r_dcmpSelf 330 X at_329 (Jvm.Free.Fl.dsub_out ((dneg_mag (Jvm.Free.Fl.i2d_mag _)).fin (by decide)).noNaN own_fin1) ?_
      refine r_ifN 333 X at_330 ((if0 _ _).trans (teq (by decide)).2) ?_
      refine r_aload 335 X at_333 rfl rfl ?_
      refine r_iload 337 X at_335 rfl ?_
      refine r_daload 338 X A_er1 (i := 0) (v := (.double (FP.dadd (FP.i2d (p1 &&& (2147483647 : Int32))) FP.dconst1))) (by decide) (by decide) rfl at_337 ?_
      refine r_dload 340 X at_338 rfl ?_
      refine r_dconst1 341 X at_340 ?_
      refine r_dadd 342 X at_341 (Jvm.Free.Fl.dadd_out (Jvm.Free.Fl.i2d_fin _).noNaN own_fin1) ?_
      refine r_dcmpSelf 343 X at_342 (Jvm.Free.Fl.dadd_out (Jvm.Free.Fl.i2d_fin _).noNaN own_fin1) ?_
      refine r_ifN 346 X at_343 ((if0 _ _).trans (teq (by decide)).2) ?_
      refine r_aload 348 X at_346 rfl rfl ?_
      refine r_iload 350 X at_348 rfl ?_
      refine r_daload 351 X A_va1 (i := 1) (v := (.double (FP.dadd (FP.i2d p0) (4602678819172646912 : UInt64)))) (by decide) (by decide) rfl at_350 ?_
      refine r_dload 353 X at_351 rfl ?_
      refine r_ldc2Double 356 X (hw _ (List.mem_of_getElem? (i := 32) rfl)) at_353 ?_
      refine r_dadd 357 X at_356 (Jvm.Free.Fl.dadd_out (Jvm.Free.Fl.i2d_fin _).noNaN own_fin2) ?_
      refine r_dcmpSelf 358 X at_357 (Jvm.Free.Fl.dadd_out (Jvm.Free.Fl.i2d_fin _).noNaN own_fin2) ?_
      refine r_ifN 361 X at_358 ((if0 _ _).trans (teq (by decide)).2) ?_
      refine r_aload 363 X at_361 rfl rfl ?_
      refine r_iload 365 X at_363 rfl ?_
      refine r_daload 366 X A_er1 (i := 1) (v := (.double (FP.dadd (FP.i2d (p1 &&& (2147483647 : Int32))) (4602678819172646912 : UInt64)))) (by decide) (by decide) rfl at_365 ?_
      refine r_dload 368 X at_366 rfl ?_
      refine r_ldc2Double 371 X (hw _ (List.mem_of_getElem? (i := 32) rfl)) at_368 ?_
      refine r_dadd 372 X at_371 (Jvm.Free.Fl.dadd_out (Jvm.Free.Fl.i2d_fin _).noNaN own_fin2) ?_
      refine r_dcmpSelf 373 X at_372 (Jvm.Free.Fl.dadd_out (Jvm.Free.Fl.i2d_fin _).noNaN own_fin2) ?_
      refine r_ifN 376 X at_373 ((if0 _ _).trans (teq (by decide)).2) ?_
      refine r_iconst 377 X (1 : Int32) at_376 rfl ?_
      refine r_goto 381 X at_377 ?_
      refine r_istore 383 X #[.val (.int p0), .val (.int p1), .val (.int p2), .val (.int p3), .val (.int p4), .val (.int p5), .val (.ref pr), .val (.int (2 : Int32)), .val (.int (0 : Int32)), .val (.int (1 : Int32)), .val (.double (FP.i2d p0)), .second, .val (.double (FP.i2d (p1 &&& (2147483647 : Int32)))), .second, .val (.double (FP.i2d p3)), .second, .val (.double (FP.i2d (p4 &&& (2147483647 : Int32)))), .second, .val (.ref b44), .val (.ref b46), .val (.ref va1), .val (.ref er1), .val (.ref va2), .val (.ref er2), .val (.int (1 : Int32)), .val (.int (1 : Int32)), .val (.int (1 : Int32))] at_381 rfl ?_
      refine r_iload 385 X at_383 rfl ?_
      refine r_ifN 388 X at_385 ((if0 _ _).trans (feq (by decide)).1) ?_
      refine r_iload 390 X at_388 rfl ?_
      refine r_ifN 393 X at_390 ((if0 _ _).trans (feq (by decide)).1) ?_
      refine r_iload 395 X at_393 rfl ?_
      refine r_ifN 398 X at_395 ((if0 _ _).trans (feq (by decide)).1) ?_
      refine r_iconst 399 X (1 : Int32) at_398 rfl ?_
      refine r_goto 403 X at_399 ?_
      refine r_retZ (z := (1 : Int32)) X at_403 rfl (by decide) (by decide) ?_
      exact rfl
  by_cases h4_65 : (p5 &&& (1 : Int32)) = (0 : Int32)
  · refine r_ifN 7 X at_4 ((if0 _ _).trans (teq h4_65).2) ?_
    refine r_getstatic 10 X (host := "") (Or.inl (hw _ (List.mem_of_getElem? (i := 38) rfl))) Via.refl S_DOUBLE at_7 ?_
    intro T X
    refine r_goto 16 X at_10 ?_
    exact J16_1 _ _ X
  · refine r_ifY 13 X at_4 ((if0 _ _).trans (feq h4_65).2) ?_
    refine r_getstatic 16 X (host := "") (Or.inl (hw _ (List.mem_of_getElem? (i := 0) rfl))) Via.refl S_DOUBLE_DOUBLE at_13 ?_
    intro T X
    exact J16_1 _ _ X
set_option maxRecDepth 65536 in
set_option maxHeartbeats 40000000 in
theorem comes_1 {Post : Tables → Env → Array Value → State → Outcome → State → Prop} (hpost : ∀ tb e args s v u, (limb_1_1.after args s (.returned v) u = true ∧ limb_1_2.after args s (.returned v) u = true ∧ True) → FrameEnd s (.returned v) u (Jvm.fieldLocs frame_1_writes args s ++ Jvm.arrayLocs frame_1_arrays args s ++ Jvm.staticLocs frame_1_statics s) 24 128 → Post tb e args s (.returned v) u) :
    ArmFor flags0 classFile x code maxLocals ret World_1 tables_1 room_1 Calls_1 rest_1 Pre_1 Post := by
  intro l hfl _ _ p e ha hc hk s m args below hf hA hF happ hP
  obtain ⟨hcalls, hrest, hpre⟩ := hP
  obtain ⟨-, -, -, hnamed, -, -, -, hat⟩ := (Spec.applies_iff hf).mp happ
  obtain ⟨hg, hn⟩ := and_e (Cond.before_iff.mp (show (Jvm.Cond.and given_1 narrow_1).before args s = true from hpre))
  obtain ⟨g1, g2⟩ := and_e hg
  obtain ⟨g3, g4⟩ := and_e g2
  obtain ⟨g5, g6⟩ := and_e g4
  obtain ⟨g7, g8⟩ := and_e g6
  obtain ⟨g9, g10⟩ := and_e g8
  obtain ⟨g11, g12⟩ := and_e g10
  obtain ⟨w0, w1, w2, w3, w4, w5, rfl⟩ : ∃ w0 w1 w2 w3 w4 w5 : Value, args = #[w0, w1, w2, w3, w4, w5] := by
    have hs : args.size = 6 := by simpa [Cond.value, given_1] using g1
    obtain ⟨L⟩ := args
    match L, hs with
    | [w0, w1, w2, w3, w4, w5], _ => exact ⟨w0, w1, w2, w3, w4, w5, rfl⟩
  have hw := fun d (hd : d ∈ tables_1) => atoms_spec (ws := Jvm.Cond.code x code maxLocals ret :: tables_1) hat d (List.mem_cons_of_mem _ hd)
  have hfit : Fit s := fun {y c} hc i hi => by
    obtain ⟨ha, rfl⟩ := Array.getElem?_eq_some_iff.mp hc
    have q := List.all_eq_true.mp ((Array.all_eq_true_iff_forall_mem.mp hF) _ (Array.getElem_mem ha)) i (List.mem_range.mpr hi)
    simpa [Array.getElem?_eq_getElem hi] using q
  obtain ⟨i0, ei0⟩ := is_v g3
  obtain rfl : w0 = (.int i0) := Option.some.inj ei0
  obtain ⟨i1, ei1⟩ := is_v g5
  obtain rfl : w1 = (.int i1) := Option.some.inj ei1
  obtain ⟨i2, ei2⟩ := is_v g7
  obtain rfl : w2 = (.int i2) := Option.some.inj ei2
  obtain ⟨i3, ei3⟩ := is_v g9
  obtain rfl : w3 = (.int i3) := Option.some.inj ei3
  obtain ⟨i4, ei4⟩ := is_v g11
  obtain rfl : w4 = (.int i4) := Option.some.inj ei4
  obtain ⟨i5, ei5⟩ := is_v g12
  obtain rfl : w5 = (.int i5) := Option.some.inj ei5
  obtain ⟨n1, n2⟩ := and_e hn
  obtain ⟨pb, e1⟩ := exa_v n1
  obtain ⟨pa, e2⟩ := exa_v n2
  obtain ⟨n, o, h1, h2, h3, _, L, rfl, ⟨rfl, N, -⟩, hq⟩ := rm0 l s _ hw s.heap.size s.heap (Nat.le_refl _) i0 i1 i2 i3 i4 i5 pa pb (Sta.start e2 (Or.inr ⟨(hw _ (List.mem_of_getElem? (i := 1) rfl)), (hw _ (List.mem_of_getElem? (i := 39) rfl))⟩)) (Sta.start e1 (Or.inr ⟨(hw _ (List.mem_of_getElem? (i := 1) rfl)), (hw _ (List.mem_of_getElem? (i := 2) rfl))⟩)) p e ha hc hk s m _ below hf ((Spec.applies_iff_loose hf).mp happ).1 ⟨rfl, State.Warmed39.refl s, rfl⟩ trivial
  refine ⟨n, _, h1, h2, h3, hpost _ _ _ _ _ _ ⟨Cond.after_iff.mpr rfl, Cond.after_iff.mpr (eq_i res_at (Term.int_eval (1)) rfl), trivial⟩ ⟨hq.1, hq.2.1, (hq.2.2.sift fun y hy => Or.inr (N y hy)).mono (by decide) (by decide)⟩⟩
theorem main_1_1 : Claimed_1_1 := comes_1 fun _ _ _ _ _ _ h hF => ⟨h.1, hF⟩
theorem main_1_2 : Claimed_1_2 := comes_1 fun _ _ _ _ _ _ h hF => ⟨h.2.1, hF⟩
end Jvm.Pilot.@@N@@
namespace Jvm.Pilot.@@N@@
open Jvm Jvm.ClassFile Sem Op Lib Jvm.Free Jvm.Stand Jvm.Pilot.@@N@@.Jvm.D
/-! MADE BY PROGRAM (witnessworld.py) out of the Statement's table words and the real class files: 13 classes; the members and pool entries that the words name. The judged class is class 1, her method 1. -/
namespace start1
open Jvm.ClassFile
def u (s : String) : CpInfo := .utf8 (stringToUtf16 s)
/-- a pool by its gaps: so many unusable entries, then the entry; so many at the end -/
def gap : Nat → List CpInfo → List CpInfo
  | 0, r => r
  | n + 1, r => .unusable :: gap n r
def poolList (es : List (Nat × CpInfo)) (last : Nat) : List CpInfo := es.foldr (fun e r => gap e.1 (e.2 :: r)) (gap last [])
def pool (es : List (Nat × CpInfo)) (last : Nat) : Array CpInfo := ⟨poolList es last⟩
def fileOf (pool : Array CpInfo) (this : Nat) (attrs : Array Attribute := #[]) (ms : Array MethodInfo := #[]) (fl : Nat := 33) (sup : Nat := 0) (ifs : Array Nat := #[]) (fds : Array FieldInfo := #[]) : ClassFile where
  minorVersion := 0
  majorVersion := 65
  constantPool := pool
  accessFlags := fl
  thisClass := this
  superClass := sup
  interfaces := ifs
  fields := fds
  methods := ms
  attributes := attrs
def plain (name : String) (sup : Option ClassId) : Class where
  name := name
  kind := .ordinary
  loader := none
  accessFlags := 33
  super := sup
  interfaces := #[]
  cf := none
  fields := #[]
  methods := #[]
  instanceTypes := #[]
  staticTypes := #[]
  resolved := #[]
  callSites := []
  init := .initialized
  statics := none
  mirror := none

def pool0 : Array CpInfo := pool [(5, u "<init>"), (0, u "()V"), (1, .class_ 10), (1, u "java/lang/Object")] 113

def k0c0 : Code := { maxStack := 0, maxLocals := 1, code := object_method_1_code, exceptionTable := #[], attributes := #[] }
def k0m0 : Method := { name := "<init>", desc := "()V", sig := { parameters := [], returnType := none }, accessFlags := 1, code := some k0c0 }
/-- java/lang/Object -/
def k0 : Class := { plain "java/lang/Object" none with
  accessFlags := 33
  interfaces := #[]
  cf := some (fileOf pool0 8 #[] #[{ accessFlags := 1, nameIndex := 5, descriptorIndex := 6, attributes := #[] }] 33 0 #[] #[])
  fields := #[]
  methods := #[k0m0]
  instanceTypes := #[]
  staticTypes := #[]
  resolved := Array.replicate 124 none
  statics := none }

def pool1 : Array CpInfo := pool [(2, .class_ 4), (1, u "java/lang/Object"), (0, u "<init>"), (0, u "()V"), (0, .fieldref 8 9), (0, .class_ 10), (0, .nameAndType 11 12), (0, u "com/example/heliotrope/heliotrope/lra/Precision"), (0, u "DOUBLE"), (0, u "Lcom/example/heliotrope/heliotrope/lra/Precision;"), (0, .fieldref 8 14), (0, .nameAndType 15 12), (0, u "DOUBLE_DOUBLE"), (0, .integer 2147483647), (0, .class_ 18), (0, u "com/example/heliotrope/heliotrope/lra/StateValues"), (0, .methodref 17 20), (0, .nameAndType 5 21), (0, u "(ILcom/example/heliotrope/heliotrope/lra/Precision;)V"), (0, .methodref 17 23), (0, .nameAndType 24 25), (0, u "values"), (0, u "()[D"), (0, .methodref 17 27), (0, .nameAndType 28 25), (0, u "errors"), (0, .double 4602678819172646912), (1, .methodref 17 32), (0, .nameAndType 33 34), (0, u "copy"), (0, u "(Lcom/example/heliotrope/heliotrope/lra/StateValues;I)V"), (0, .class_ 36), (0, u "com/example/heliotrope/heliotrope/lra/StateValuesCopyPinLaw"), (2, u "law"), (0, u "(IIIIII)Z")] 5

def k1m0 : Method := { name := "<init>", desc := "()V", sig := { parameters := [], returnType := none }, accessFlags := 1, code := none }
def k1c1 : Code := { maxStack := 6, maxLocals := 27, code := code, exceptionTable := #[], attributes := #[] }
def k1m1 : Method := { name := "law", desc := "(IIIIII)Z", sig := { parameters := [.int, .int, .int, .int, .int, .int], returnType := some .boolean }, accessFlags := 9, code := some k1c1 }
/-- com/example/heliotrope/heliotrope/lra/StateValuesCopyPinLaw -/
def k1 : Class := { plain "com/example/heliotrope/heliotrope/lra/StateValuesCopyPinLaw" (some 0) with
  accessFlags := 49
  interfaces := #[]
  cf := some (fileOf pool1 35 #[] #[{ accessFlags := 1, nameIndex := 5, descriptorIndex := 6, attributes := #[] }, { accessFlags := 9, nameIndex := 39, descriptorIndex := 40, attributes := #[] }] 49 2 #[] #[])
  fields := #[]
  methods := #[k1m0, k1m1]
  instanceTypes := #[]
  staticTypes := #[]
  resolved := Array.replicate 46 none
  statics := none }

def pool2 : Array CpInfo := pool [(1, .class_ 2), (0, u "java/lang/constant/Constable"), (0, .class_ 4), (0, u "java/lang/Object")] 6

/-- java/lang/constant/Constable -/
def k2 : Class := { plain "java/lang/constant/Constable" (some 0) with
  accessFlags := 1537
  interfaces := #[]
  cf := some (fileOf pool2 1 #[] #[] 1537 3 #[] #[])
  fields := #[]
  methods := #[]
  instanceTypes := #[]
  staticTypes := #[]
  resolved := Array.replicate 11 none
  statics := none }

def pool3 : Array CpInfo := pool [(1, .class_ 2), (0, u "java/lang/Comparable"), (0, .class_ 4), (0, u "java/lang/Object")] 7

/-- java/lang/Comparable -/
def k3 : Class := { plain "java/lang/Comparable" (some 0) with
  accessFlags := 1537
  interfaces := #[]
  cf := some (fileOf pool3 1 #[] #[] 1537 3 #[] #[])
  fields := #[]
  methods := #[]
  instanceTypes := #[]
  staticTypes := #[]
  resolved := Array.replicate 12 none
  statics := none }

def pool4 : Array CpInfo := pool [(1, .class_ 2), (0, u "java/io/Serializable"), (0, .class_ 4), (0, u "java/lang/Object")] 2

/-- java/io/Serializable -/
def k4 : Class := { plain "java/io/Serializable" (some 0) with
  accessFlags := 1537
  interfaces := #[]
  cf := some (fileOf pool4 1 #[] #[] 1537 3 #[] #[])
  fields := #[]
  methods := #[]
  instanceTypes := #[]
  staticTypes := #[]
  resolved := Array.replicate 7 none
  statics := none }

def pool5 : Array CpInfo := pool [(2, .class_ 4), (1, u "java/lang/Enum"), (0, u "name"), (0, u "Ljava/lang/String;"), (2, u "ordinal"), (0, u "I"), (1, .class_ 14), (1, u "java/lang/Object"), (4, u "hash"), (86, .class_ 108), (1, u "java/lang/Enum$EnumDesc"), (2, .class_ 112), (0, u "java/lang/constant/Constable"), (0, .class_ 114), (0, u "java/lang/Comparable"), (0, .class_ 116), (0, u "java/io/Serializable")] 87

/-- java/lang/Enum -/
def k5 : Class := { plain "java/lang/Enum" (some 0) with
  accessFlags := 1057
  interfaces := #[2, 3, 4]
  cf := some (fileOf pool5 2 #[.nestMembers #[106]] #[] 1057 12 #[111, 113, 115] #[{ accessFlags := 18, nameIndex := 5, descriptorIndex := 6, attributes := #[] }, { accessFlags := 18, nameIndex := 9, descriptorIndex := 10, attributes := #[] }, { accessFlags := 2, nameIndex := 19, descriptorIndex := 10, attributes := #[] }])
  fields := #[{ name := "name", type := (.object "java/lang/String"), accessFlags := 18, slot := 0, constantValue := 0 }, { name := "ordinal", type := .int, accessFlags := 18, slot := 1, constantValue := 0 }, { name := "hash", type := .int, accessFlags := 2, slot := 2, constantValue := 0 }]
  methods := #[]
  instanceTypes := #[(.object "java/lang/String"), .int, .int]
  staticTypes := #[]
  resolved := Array.replicate 204 none
  statics := none }

def pool6 : Array CpInfo := pool [(1, .class_ 2), (0, u "com/example/heliotrope/heliotrope/lra/Precision"), (2, u "DOUBLE"), (0, u "Lcom/example/heliotrope/heliotrope/lra/Precision;"), (2, u "DOUBLE_DOUBLE"), (2, u "$VALUES"), (0, u "[Lcom/example/heliotrope/heliotrope/lra/Precision;"), (6, .class_ 22), (1, u "java/lang/Enum"), (8, u "maxRefinements"), (0, u "I"), (2, u "lastUnit"), (0, u "D")] 25

/-- com/example/heliotrope/heliotrope/lra/Precision -/
def k6 : Class := { plain "com/example/heliotrope/heliotrope/lra/Precision" (some 5) with
  accessFlags := 16432
  interfaces := #[]
  cf := some (fileOf pool6 1 #[] #[] 16432 20 #[] #[{ accessFlags := 16409, nameIndex := 5, descriptorIndex := 6, attributes := #[] }, { accessFlags := 16409, nameIndex := 9, descriptorIndex := 6, attributes := #[] }, { accessFlags := 18, nameIndex := 31, descriptorIndex := 32, attributes := #[] }, { accessFlags := 18, nameIndex := 35, descriptorIndex := 36, attributes := #[] }, { accessFlags := 4122, nameIndex := 12, descriptorIndex := 13, attributes := #[] }])
  fields := #[{ name := "DOUBLE", type := (.object "com/example/heliotrope/heliotrope/lra/Precision"), accessFlags := 16409, slot := 0, constantValue := 0 }, { name := "DOUBLE_DOUBLE", type := (.object "com/example/heliotrope/heliotrope/lra/Precision"), accessFlags := 16409, slot := 1, constantValue := 0 }, { name := "maxRefinements", type := .int, accessFlags := 18, slot := 3, constantValue := 0 }, { name := "lastUnit", type := .double, accessFlags := 18, slot := 4, constantValue := 0 }, { name := "$VALUES", type := (.array (.object "com/example/heliotrope/heliotrope/lra/Precision")), accessFlags := 4122, slot := 2, constantValue := 0 }]
  methods := #[]
  instanceTypes := #[(.object "java/lang/String"), .int, .int, .int, .double]
  staticTypes := #[(.object "com/example/heliotrope/heliotrope/lra/Precision"), (.object "com/example/heliotrope/heliotrope/lra/Precision"), (.array (.object "com/example/heliotrope/heliotrope/lra/Precision"))]
  resolved := Array.replicate 62 none
  statics := some 0 }

def pool7 : Array CpInfo := pool [(1, .methodref 2 3), (0, .class_ 4), (0, .nameAndType 5 6), (0, u "java/lang/Object"), (0, u "<init>"), (0, u "()V"), (0, .fieldref 8 9), (0, .class_ 10), (0, .nameAndType 11 12), (0, u "com/example/heliotrope/heliotrope/lra/StateValues"), (0, u "precision"), (0, u "Lcom/example/heliotrope/heliotrope/lra/Precision;"), (0, .fieldref 8 14), (0, .nameAndType 15 16), (0, u "values"), (0, u "[D"), (0, .fieldref 8 18), (0, .nameAndType 19 16), (0, u "lows"), (0, .fieldref 8 21), (0, .nameAndType 22 16), (0, u "errors"), (54, u "UNIT_ROUNDOFF"), (0, u "D"), (1, u "(ILcom/example/heliotrope/heliotrope/lra/Precision;)V"), (3, u "()[D"), (2, u "copy"), (0, u "(Lcom/example/heliotrope/heliotrope/lra/StateValues;I)V")] 8

def k7c0 : Code := { maxStack := 2, maxLocals := 3, code := prog_74_method_1_code, exceptionTable := #[], attributes := #[] }
def k7m0 : Method := { name := "<init>", desc := "(ILcom/example/heliotrope/heliotrope/lra/Precision;)V", sig := { parameters := [.int, (.object "com/example/heliotrope/heliotrope/lra/Precision")], returnType := none }, accessFlags := 0, code := some k7c0 }
def k7c1 : Code := { maxStack := 1, maxLocals := 1, code := prog_74_method_3_code, exceptionTable := #[], attributes := #[] }
def k7m1 : Method := { name := "values", desc := "()[D", sig := { parameters := [], returnType := some (.array .double) }, accessFlags := 0, code := some k7c1 }
def k7c2 : Code := { maxStack := 1, maxLocals := 1, code := prog_74_method_4_code, exceptionTable := #[], attributes := #[] }
def k7m2 : Method := { name := "errors", desc := "()[D", sig := { parameters := [], returnType := some (.array .double) }, accessFlags := 0, code := some k7c2 }
def k7c3 : Code := { maxStack := 4, maxLocals := 3, code := prog_74_method_6_code, exceptionTable := #[], attributes := #[] }
def k7m3 : Method := { name := "copy", desc := "(Lcom/example/heliotrope/heliotrope/lra/StateValues;I)V", sig := { parameters := [(.object "com/example/heliotrope/heliotrope/lra/StateValues"), .int], returnType := none }, accessFlags := 0, code := some k7c3 }
/-- com/example/heliotrope/heliotrope/lra/StateValues -/
def k7 : Class := { plain "com/example/heliotrope/heliotrope/lra/StateValues" (some 0) with
  accessFlags := 48
  interfaces := #[]
  cf := some (fileOf pool7 8 #[] #[{ accessFlags := 0, nameIndex := 5, descriptorIndex := 80, attributes := #[] }, { accessFlags := 0, nameIndex := 15, descriptorIndex := 84, attributes := #[] }, { accessFlags := 0, nameIndex := 22, descriptorIndex := 84, attributes := #[] }, { accessFlags := 0, nameIndex := 87, descriptorIndex := 88, attributes := #[] }] 48 2 #[] #[{ accessFlags := 26, nameIndex := 77, descriptorIndex := 78, attributes := #[] }, { accessFlags := 18, nameIndex := 11, descriptorIndex := 12, attributes := #[] }, { accessFlags := 18, nameIndex := 15, descriptorIndex := 16, attributes := #[] }, { accessFlags := 18, nameIndex := 19, descriptorIndex := 16, attributes := #[] }, { accessFlags := 18, nameIndex := 22, descriptorIndex := 16, attributes := #[] }])
  fields := #[{ name := "UNIT_ROUNDOFF", type := .double, accessFlags := 26, slot := 0, constantValue := 0 }, { name := "precision", type := (.object "com/example/heliotrope/heliotrope/lra/Precision"), accessFlags := 18, slot := 0, constantValue := 0 }, { name := "values", type := (.array .double), accessFlags := 18, slot := 1, constantValue := 0 }, { name := "lows", type := (.array .double), accessFlags := 18, slot := 2, constantValue := 0 }, { name := "errors", type := (.array .double), accessFlags := 18, slot := 3, constantValue := 0 }]
  methods := #[k7m0, k7m1, k7m2, k7m3]
  instanceTypes := #[(.object "com/example/heliotrope/heliotrope/lra/Precision"), (.array .double), (.array .double), (.array .double)]
  staticTypes := #[.double]
  resolved := Array.replicate 97 none
  statics := none }

def pool8 : Array CpInfo := pool [(1, u "java/lang/Cloneable"), (0, .class_ 1), (0, u "java/lang/Object"), (0, .class_ 3)] 3

/-- java/lang/Cloneable -/
def k8 : Class := { plain "java/lang/Cloneable" (some 0) with
  accessFlags := 1537
  interfaces := #[]
  cf := some (fileOf pool8 2 #[] #[] 1537 4 #[] #[])
  fields := #[]
  methods := #[]
  instanceTypes := #[]
  staticTypes := #[]
  resolved := Array.replicate 8 none
  statics := none }

/-- the primitive byte -/
def k9 : Class := { plain "byte" none with kind := .primitive 'B', accessFlags := 0x411 }
/-- [B -/
def k10 : Class := { plain "[B" (some 0) with kind := .array 9 .byte, interfaces := #[8, 4], accessFlags := 1041 }

/-- the primitive int -/
def k11 : Class := { plain "int" none with kind := .primitive 'I', accessFlags := 0x411 }
/-- [I -/
def k12 : Class := { plain "[I" (some 0) with kind := .array 11 .int, interfaces := #[8, 4], accessFlags := 1041 }

/-- the primitive double -/
def k13 : Class := { plain "double" none with kind := .primitive 'D', accessFlags := 0x411 }
/-- [D -/
def k14 : Class := { plain "[D" (some 0) with kind := .array 13 .double, interfaces := #[8, 4], accessFlags := 1041 }

def heap : Heap := #[{ cls := 6, slots := #[.ref 1, .ref 2, .null], vm := .statics 6 },
  { cls := 6, slots := #[.null, .int 0, .int 0, .int 1, .double 0], vm := .none },
  { cls := 6, slots := #[.null, .int 1, .int 0, .int 2, .double 0], vm := .none }]
def classes : Array Class := #[k0, k1, k2, k3, k4, k5, k6, k7, k8, k9, k10, k11, k12, k13, k14]
def interned : List (Array UInt16 × Addr) := []
def slotsUsed : Nat := 13
def theMethod : MethodId := ⟨1, 1⟩
def args0 : Array Value := #[.int 0, .int 1, .int 2, .int 3, .int 4, .int 5]
def aboutOver (below : List Frame) : State where
  vm := { classes := classes, interned := interned.toArray }
  heap := heap
  slotsUsed := slotsUsed
  threads := #[{ frames := .invoking theMethod args0 :: below }]
def below0 : List Frame := [.native { method := ⟨0, 0⟩, args := #[] }]
def about1 : State := aboutOver below0
def p0 : Program := .bare "" "" ""
def e0 : Env := launch0.env 0 0 0
theorem w_frames : about1.frames = Frame.invoking theMethod args0 :: below0 := rfl
set_option maxRecDepth 65536 in
theorem w_args : argsFit about1.vm theMethod args0 = true := by decide +kernel
set_option maxRecDepth 65536 in
theorem w_heap : heapFits about1 = true := by decide +kernel
set_option maxRecDepth 65536 in
theorem w_runnable : about1.curStatus? = some .runnable := by decide +kernel
set_option maxRecDepth 65536 in
theorem w_alone : about1.alone = true := by decide +kernel
set_option maxRecDepth 65536 in
theorem w_named : about1.methodNamed? x = some theMethod := by decide +kernel
set_option maxRecDepth 65536 in
theorem w_hears : about1.hears theMethod below0 = true := by decide +kernel
set_option maxRecDepth 65536 in
theorem w_ripe : about1.ripe theMethod args0 below0 = true := by decide +kernel
theorem w_running : about1.status = .running := rfl
set_option maxRecDepth 65536 in
theorem w_room : about1.hasRoom e0.platform room_1 = true :=
  launch0.hasRoom_least _ room_1 (by decide +kernel) (by decide +kernel) (by decide +kernel) (by decide +kernel) (by decide +kernel) (by decide +kernel)
theorem allAtoms_all (ts : List Jvm.Cond) (a : Array Jvm.Value) (st : Jvm.State) : (allAtoms ts).before a st = ts.all (fun c => c.before a st) := by
  induction ts with
  | nil => rfl
  | cons c t ih =>
    show (Jvm.Cond.and c (allAtoms t)).before a st = _
    rw [Jvm.Cond.before_and, ih, List.all_cons]
def words1 : List Jvm.Cond := Jvm.Cond.code x code maxLocals ret :: tables_1
/-- a 'code' word, met by the world's own term for the bytes: nothing is compared byte by byte -/
theorem code_word {y : MethodName} {bytes : ByteArray} {mx : Nat} {rt : Option FieldType} {a : Array Value} {s : State} {m : MethodId} {meth : Method} {c : Code} (h1 : s.methodNamed? y = some m) (h2 : s.vm.method? m = some meth) (h3 : meth.code = some c) (h4 : c.code = bytes)
    (h5 : (c.maxLocals == mx && c.exceptionTable.isEmpty && decide (c.maxStack ≤ mostOperands) && decide (meth.sig.returnType = rt) && !meth.locks && decide (parseMethodDescriptor y.desc = some meth.sig)) = true) : (Jvm.Cond.code y bytes mx rt).before a s = true := by
  simp only [Bool.and_eq_true, beq_iff_eq, Bool.not_eq_true', decide_eq_true_eq] at h5
  obtain ⟨⟨⟨⟨⟨g1, g2⟩, g3⟩, g4⟩, g5⟩, g6⟩ := h5
  simp [Cond.before, Cond.holds, Cond.value, h1, h2, h3, h4, g1, g2, g3, g4, g5, g6]
def isCode : Jvm.Cond → Bool
  | .code _ _ _ _ => true
  | _ => false
theorem all_split {L : List Jvm.Cond} {P : Jvm.Cond → Bool} (h1 : L.all (fun c => isCode c || P c) = true) (h2 : ∀ c ∈ L.filter isCode, P c = true) : L.all P = true := by
  refine List.all_eq_true.mpr fun c hc => ?_
  have h := List.all_eq_true.mp h1 c hc
  rcases Bool.eq_false_or_eq_true (isCode c) with hi | hi
  · exact h2 c (List.mem_filter.mpr ⟨hc, hi⟩)
  · simpa [hi] using h
set_option maxRecDepth 65536 in
theorem w_c0 : (Jvm.Cond.code x code maxLocals ret).before args0 about1 = true := code_word (m := ⟨1, 1⟩) (meth := k1m1) (c := k1c1) (by decide +kernel) rfl rfl rfl (by decide +kernel)
set_option maxRecDepth 65536 in
theorem w_c1 : (Jvm.Cond.code ({ cls := "com/example/heliotrope/heliotrope/lra/StateValues", name := "<init>", desc := "(ILcom/example/heliotrope/heliotrope/lra/Precision;)V" } : Jvm.MethodName) prog_74_method_1_code (3 : Nat) (Option.none : Option Jvm.ClassFile.FieldType)).before args0 about1 = true := code_word (m := ⟨7, 0⟩) (meth := k7m0) (c := k7c0) (by decide +kernel) rfl rfl rfl (by decide +kernel)
set_option maxRecDepth 65536 in
theorem w_c2 : (Jvm.Cond.code ({ cls := "java/lang/Object", name := "<init>", desc := "()V" } : Jvm.MethodName) object_method_1_code (1 : Nat) (Option.none : Option Jvm.ClassFile.FieldType)).before args0 about1 = true := code_word (m := ⟨0, 0⟩) (meth := k0m0) (c := k0c0) (by decide +kernel) rfl rfl rfl (by decide +kernel)
set_option maxRecDepth 65536 in
theorem w_c3 : (Jvm.Cond.code ({ cls := "com/example/heliotrope/heliotrope/lra/StateValues", name := "values", desc := "()[D" } : Jvm.MethodName) prog_74_method_3_code (1 : Nat) (Option.some (Jvm.ClassFile.FieldType.array Jvm.ClassFile.FieldType.double))).before args0 about1 = true := code_word (m := ⟨7, 1⟩) (meth := k7m1) (c := k7c1) (by decide +kernel) rfl rfl rfl (by decide +kernel)
set_option maxRecDepth 65536 in
theorem w_c4 : (Jvm.Cond.code ({ cls := "com/example/heliotrope/heliotrope/lra/StateValues", name := "errors", desc := "()[D" } : Jvm.MethodName) prog_74_method_4_code (1 : Nat) (Option.some (Jvm.ClassFile.FieldType.array Jvm.ClassFile.FieldType.double))).before args0 about1 = true := code_word (m := ⟨7, 2⟩) (meth := k7m2) (c := k7c2) (by decide +kernel) rfl rfl rfl (by decide +kernel)
set_option maxRecDepth 65536 in
theorem w_c5 : (Jvm.Cond.code ({ cls := "com/example/heliotrope/heliotrope/lra/StateValues", name := "copy", desc := "(Lcom/example/heliotrope/heliotrope/lra/StateValues;I)V" } : Jvm.MethodName) prog_74_method_6_code (3 : Nat) (Option.none : Option Jvm.ClassFile.FieldType)).before args0 about1 = true := code_word (m := ⟨7, 3⟩) (meth := k7m3) (c := k7c3) (by decide +kernel) rfl rfl rfl (by decide +kernel)
def codes1 : List Jvm.Cond := [Jvm.Cond.code x code maxLocals ret, Jvm.Cond.code ({ cls := "com/example/heliotrope/heliotrope/lra/StateValues", name := "<init>", desc := "(ILcom/example/heliotrope/heliotrope/lra/Precision;)V" } : Jvm.MethodName) prog_74_method_1_code (3 : Nat) (Option.none : Option Jvm.ClassFile.FieldType), Jvm.Cond.code ({ cls := "java/lang/Object", name := "<init>", desc := "()V" } : Jvm.MethodName) object_method_1_code (1 : Nat) (Option.none : Option Jvm.ClassFile.FieldType), Jvm.Cond.code ({ cls := "com/example/heliotrope/heliotrope/lra/StateValues", name := "values", desc := "()[D" } : Jvm.MethodName) prog_74_method_3_code (1 : Nat) (Option.some (Jvm.ClassFile.FieldType.array Jvm.ClassFile.FieldType.double)), Jvm.Cond.code ({ cls := "com/example/heliotrope/heliotrope/lra/StateValues", name := "errors", desc := "()[D" } : Jvm.MethodName) prog_74_method_4_code (1 : Nat) (Option.some (Jvm.ClassFile.FieldType.array Jvm.ClassFile.FieldType.double)), Jvm.Cond.code ({ cls := "com/example/heliotrope/heliotrope/lra/StateValues", name := "copy", desc := "(Lcom/example/heliotrope/heliotrope/lra/StateValues;I)V" } : Jvm.MethodName) prog_74_method_6_code (3 : Nat) (Option.none : Option Jvm.ClassFile.FieldType)]
set_option maxRecDepth 65536 in
theorem codes_eq : words1.filter isCode = codes1 := rfl
theorem w_codes : ∀ c ∈ words1.filter isCode, c.before args0 about1 = true := by
  rw [codes_eq]
  intro c hc
  simp only [codes1, List.mem_cons, List.not_mem_nil, or_false] at hc
  rcases hc with rfl | rfl | rfl | rfl | rfl | rfl
  · exact w_c0
  · exact w_c1
  · exact w_c2
  · exact w_c3
  · exact w_c4
  · exact w_c5
set_option maxRecDepth 65536 in
theorem w_t1 : (words1.take 24).all (fun c => isCode c || c.before args0 about1) = true := by decide +kernel
set_option maxRecDepth 65536 in
theorem w_t2 : (words1.drop 24).all (fun c => isCode c || c.before args0 about1) = true := by decide +kernel
theorem w_tables : (allAtoms (Jvm.Cond.code x code maxLocals ret :: tables_1)).before args0 about1 = true := by
  rw [allAtoms_all]
  show words1.all (fun c => c.before args0 about1) = true
  refine all_split ?_ w_codes
  rw [← List.take_append_drop 24 words1, List.all_append, w_t1, w_t2]
  rfl
set_option maxRecDepth 65536 in
theorem w_case : (Jvm.Cond.and given_1 narrow_1).before args0 about1 = true := by decide +kernel
theorem w_applies : (headSpec (Jvm.Cond.code x code maxLocals ret :: tables_1) room_1).applies x e0.platform about1 = true :=
  (Spec.applies_iff w_frames).mpr ⟨w_running, w_runnable, w_alone, w_named, w_hears, w_ripe, w_room, w_tables⟩
theorem atStart : AtStart classFile x code maxLocals ret World_1 tables_1 room_1 Calls_1 rest_1 Pre_1 launch0 p0 e0 about1 theMethod args0 below0 :=
  ⟨lists_1, trivial, launch0.admits_env _ _ _, launch0.least_env, fairChoices_fair.cas, fairChoices_fair.clock, w_frames, w_args, w_heap, w_applies, trivial, trivial, w_case⟩
end start1
theorem witness_1 : WitnessClaimed_1 := ⟨start1.p0, start1.e0, start1.about1, start1.theMethod, start1.args0, start1.below0, start1.atStart⟩
end Jvm.Pilot.@@N@@
