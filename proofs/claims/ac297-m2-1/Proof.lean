import JvmDerived
import JvmDerived.Pilot.@@N@@Statement
import JvmDerived.Pilot.@@N@@Code
set_option linter.unusedVariables false
set_option linter.unusedSimpArgs false
namespace Jvm.Pilot.@@N@@
open Jvm Jvm.ClassFile Sem Op Lib Jvm.Free Jvm.Stand Jvm.LawKit Jvm.RoadKit Bundle Jvm.Pilot.@@N@@.Jvm.D
/-! own kit (printed by wip/gen/kit.py) -/
/-- from here the walk comes to an end that K takes -/
def Run (p : Program) (e : Env) (below : List Frame) (m : MethodId) (K : State → Prop) (T : State) (pc : Nat) (L : Array Slot) (st : List Value) : Prop :=
  ∃ u, Steps p.tables e below (T.setTop (mkF m pc L st)) u ∧ K u
/-- what goes through a whole body -/
def Cx (p : Program) (l : Launch) (e : Env) (R : Room) (s : State) (m : MethodId) (args : Array Value) (below : List Frame) (meth : Method) (c : Code) (Z : State) (bytes : ByteArray) (ml : Nat) (own : String) (ret : Option FieldType) (mname : String) (n0 : Nat) (T : State) (h : Heap) (cells slots : Nat) : Prop :=
  (∃ locs, Stand p l e R s m args below meth c T locs cells slots ∧ Fr n0 locs) ∧ T.heap = h ∧ p.tables.exec = Jvm.exec ∧ c.code = bytes ∧ c.maxLocals = ml ∧ Z.Warmed39 s.vm ∧ s.vm.findClass own = some m.cls ∧ meth.sig.returnType = ret ∧ meth.name = mname ∧ meth.locks = false ∧ n0 ≤ h.size
/-- the end of a body: what it returns and leaves is Q's -/
def Fin1 (below : List Frame) (s : State) (n0 : Nat) (Q : Option Value → Heap → Prop) (cN sN : Nat) (u : State) : Prop :=
  u.status = .running ∧ ∃ o, Ended u below o ∧ ∃ v L, o = .returned v ∧ (Q v u.heap ∧ Fr n0 L ∧ n0 ≤ u.heap.size) ∧ FrameEnd s o u L cN sN
/-- a body's contract -/
def Met1 (l : Launch) (Z : State) (n0 : Nat) (ws : List Jvm.Cond) (y : MethodName) (bytes : ByteArray) (ml : Nat) (ret : Option FieldType) (rm : Room) (as : Array Value) (h0 : Heap) (Q : Option Value → Heap → Prop) : Prop :=
  MetFree l y (head1 (Jvm.Cond.code y bytes ml ret :: ws) rm) (fun a U => a = as ∧ Z.Warmed39 U.vm ∧ U.heap = h0) (fun _ _ _ _ _ => True) (fun _ U o U' => ∃ v L, o = .returned v ∧ (Q v U'.heap ∧ Fr n0 L ∧ n0 ≤ U'.heap.size) ∧ FrameEnd U o U' L rm.cells rm.slots)
/-- an array: its kind, its length, what each place holds -/
def AF (Z : State) (h : Heap) (a : Addr) (ty : FieldType) (n : Nat) (f : Nat → Value) : Prop := ∃ c : Cell, Arr Z h a c ty ∧ c.slots.size = n ∧ n < 2 ^ 31 ∧ ∀ j, j < n → c.slots[j]? = some (f j)
def upd (f : Nat → Value) (i : Nat) (v : Value) : Nat → Value := fun j => if j = i then v else f j
section Own
variable {p : Program} {l : Launch} {e : Env} {R : Room} {s : State} {m : MethodId} {args : Array Value} {below : List Frame} {meth : Method} {c : Code} {Z : State} {bytes : ByteArray} {ml : Nat} {own mname : String} {ret : Option FieldType} {n0 : Nat} {T : State} {h : Heap} {cells slots : Nat} {K : State → Prop} {pc : Nat} {L : Array Slot} {st : List Value}
theorem Cx.sz (X : Cx p l e R s m args below meth c Z bytes ml own ret mname n0 T h cells slots) : n0 ≤ h.size := X.2.2.2.2.2.2.2.2.2.2
theorem Run.of {T' : State} {pc' : Nat} {L' : Array Slot} {st' : List Value} (h : ∀ t, Steps p.tables e below (T'.setTop (mkF m pc' L' st')) t → Steps p.tables e below (T.setTop (mkF m pc L st)) t) (r : Run p e below m K T' pc' L' st') : Run p e below m K T pc L st :=
  r.imp fun u q => ⟨h u q.1, q.2⟩
theorem upd_hit {f : Nat → Value} {i : Nat} {v : Value} : upd f i v i = v := if_pos rfl
theorem upd_miss {f : Nat → Value} {i j : Nat} {v : Value} (q : j ≠ i) : upd f i v j = f j := if_neg q
theorem idx_of {j : Int32} {i n : Nat} (hj : j.toInt = (i : Int)) (hi : i < n) : ¬ (j < 0 ∨ n ≤ j.toNatClampNeg) ∧ j.toNatClampNeg = i := by
  have q : j.toNatClampNeg = i := by show j.toInt.toNat = i; omega
  refine ⟨?_, q⟩
  rw [q, Int32.lt_iff_toInt_lt]
  have : (0 : Int32).toInt = 0 := rfl
  omega
theorem AF.lt {a : Addr} {ty : FieldType} {n : Nat} {f : Nat → Value} (A : AF Z h a ty n f) : a < h.size := by obtain ⟨c, A, -⟩ := A; exact A.lt
theorem AF.small {a : Addr} {ty : FieldType} {n : Nat} {f : Nat → Value} (A : AF Z h a ty n f) : n < 2 ^ 31 := by obtain ⟨c, -, -, q, -⟩ := A; exact q
theorem AF.ext {a : Addr} {ty : FieldType} {n : Nat} {f : Nat → Value} {h' : Heap} (A : AF Z h a ty n f) (E : Ext h h') : AF Z h' a ty n f := by obtain ⟨c, A, r⟩ := A; exact ⟨c, A.ext E, r⟩
theorem AF.other {a b : Addr} {ty : FieldType} {n sl : Nat} {v : Value} {f : Nat → Value} {h' : Heap} (A : AF Z h b ty n f) (W : Wr h h' a sl v) (q : b ≠ a) : AF Z h' b ty n f := by obtain ⟨c, A, r⟩ := A; exact ⟨c, A.other W q, r⟩
theorem AF.keep {a : Addr} {ty : FieldType} {n : Nat} {f : Nat → Value} {h' : Heap} {ws : List Addr} (A : AF Z h a ty n f) (K : Keep h h' ws) (q : a ∉ ws) : AF Z h' a ty n f := by obtain ⟨c, A, r⟩ := A; exact ⟨c, ⟨K.2.1 a c A.1 q, A.2⟩, r⟩
theorem AF.set {a : Addr} {ty : FieldType} {n i : Nat} {v : Value} {f : Nat → Value} {h' : Heap} (A : AF Z h a ty n f) (W : Wr h h' a i v) : AF Z h' a ty n (upd f i v) := by
  obtain ⟨c, A, S, q, H⟩ := A
  refine ⟨_, A.same W, by rw [sz_set]; exact S, q, fun j hj => ?_⟩
  show (c.slots.setIfInBounds i v)[j]? = _
  rw [Array.getElem?_setIfInBounds, S]
  by_cases e : i = j
  · subst e; simp [hj, upd]
  · have e' : j ≠ i := fun q => e q.symm
    simp [e, upd, e', H j hj]
theorem AF.congr {a : Addr} {ty : FieldType} {n : Nat} {f g : Nat → Value} (A : AF Z h a ty n f) (q : ∀ j, j < n → f j = g j) : AF Z h a ty n g := by
  obtain ⟨c, A, S, r, H⟩ := A; exact ⟨c, A, S, r, fun j hj => by rw [H j hj, q j hj]⟩
theorem AF.ne_obj {a b : Addr} {ty : FieldType} {n k : Nat} {f : Nat → Value} {C : String} {a0 : Array Value} (A : AF Z h b ty n f) (E : Exa Z h a C) (wi : (Jvm.Cond.instantiable C k).before a0 Z = true) : a ≠ b := by obtain ⟨c, A, -⟩ := A; exact ne_arr E wi A
theorem r_topI {x x' : Int32} (q : x = x') (r : Run p e below m K T pc L (.int x' :: st)) : Run p e below m K T pc L (.int x :: st) := q ▸ r
theorem r_topJ {x x' : Int64} (q : x = x') (r : Run p e below m K T pc L (.long x' :: st)) : Run p e below m K T pc L (.long x :: st) := q ▸ r
theorem r_top {x x' : Value} (q : x = x') (r : Run p e below m K T pc L (x' :: st)) : Run p e below m K T pc L (x :: st) := q ▸ r
theorem r_loc {L' : Array Slot} (q : L = L') (r : Run p e below m K T pc L' st) : Run p e below m K T pc L st := q ▸ r
theorem r_iload (pc' : Nat) (X : Cx p l e R s m args below meth c Z bytes ml own ret mname n0 T h cells slots) {k : Nat} {v : Int32} (hd : decode bytes pc = .ok (.iload k, 2)) (hl : L[k]? = some (.val (.int v))) (r : Run p e below m K T pc' L (.int v :: st)) (q : pc + 2 = pc' := by rfl) : Run p e below m K T pc L st := by
  obtain ⟨⟨locs, X, -⟩, -, hx, hby, -⟩ := X
  subst q hby
  exact Run.of (fun t k => XS.iload X.here hx rfl hd hl k) r
theorem r_iloadN (pc' : Nat) (X : Cx p l e R s m args below meth c Z bytes ml own ret mname n0 T h cells slots) {k : Fin 4} {v : Int32} (hd : decode bytes pc = .ok (.iload_n k, 1)) (hl : L[k.val]? = some (.val (.int v))) (r : Run p e below m K T pc' L (.int v :: st)) (q : pc + 1 = pc' := by rfl) : Run p e below m K T pc L st := by
  obtain ⟨⟨locs, X, -⟩, -, hx, hby, -⟩ := X
  subst q hby
  exact Run.of (fun t k => XS.iloadN X.here hx rfl hd hl k) r
theorem r_istore (pc' : Nat) (X : Cx p l e R s m args below meth c Z bytes ml own ret mname n0 T h cells slots) {k : Nat} {v : Int32} (L' : Array Slot) (hd : decode bytes pc = .ok (.istore k, 2)) (hl : storeLocals L k (.int v) = some L') (r : Run p e below m K T pc' L' st) (q : pc + 2 = pc' := by rfl) : Run p e below m K T pc L (.int v :: st) := by
  obtain ⟨⟨locs, X, -⟩, -, hx, hby, -⟩ := X
  subst q hby
  exact Run.of (fun t k => XS.istore X.here hx rfl hd rfl hl k) r
theorem r_istoreN (pc' : Nat) (X : Cx p l e R s m args below meth c Z bytes ml own ret mname n0 T h cells slots) {k : Fin 4} {v : Int32} (L' : Array Slot) (hd : decode bytes pc = .ok (.istore_n k, 1)) (hl : storeLocals L k.val (.int v) = some L') (r : Run p e below m K T pc' L' st) (q : pc + 1 = pc' := by rfl) : Run p e below m K T pc L (.int v :: st) := by
  obtain ⟨⟨locs, X, -⟩, -, hx, hby, -⟩ := X
  subst q hby
  exact Run.of (fun t k => XS.istoreN X.here hx rfl hd rfl hl k) r
theorem r_lload (pc' : Nat) (X : Cx p l e R s m args below meth c Z bytes ml own ret mname n0 T h cells slots) {k : Nat} {v : Int64} (hd : decode bytes pc = .ok (.lload k, 2)) (hl : L[k]? = some (.val (.long v))) (r : Run p e below m K T pc' L (.long v :: st)) (q : pc + 2 = pc' := by rfl) : Run p e below m K T pc L st := by
  obtain ⟨⟨locs, X, -⟩, -, hx, hby, -⟩ := X
  subst q hby
  exact Run.of (fun t k => XS.lload X.here hx rfl hd hl k) r
theorem r_lloadN (pc' : Nat) (X : Cx p l e R s m args below meth c Z bytes ml own ret mname n0 T h cells slots) {k : Fin 4} {v : Int64} (hd : decode bytes pc = .ok (.lload_n k, 1)) (hl : L[k.val]? = some (.val (.long v))) (r : Run p e below m K T pc' L (.long v :: st)) (q : pc + 1 = pc' := by rfl) : Run p e below m K T pc L st := by
  obtain ⟨⟨locs, X, -⟩, -, hx, hby, -⟩ := X
  subst q hby
  exact Run.of (fun t k => XS.lloadN X.here hx rfl hd hl k) r
theorem r_lstore (pc' : Nat) (X : Cx p l e R s m args below meth c Z bytes ml own ret mname n0 T h cells slots) {k : Nat} {v : Int64} (L' : Array Slot) (hd : decode bytes pc = .ok (.lstore k, 2)) (hl : storeLocals L k (.long v) = some L') (r : Run p e below m K T pc' L' st) (q : pc + 2 = pc' := by rfl) : Run p e below m K T pc L (.long v :: st) := by
  obtain ⟨⟨locs, X, -⟩, -, hx, hby, -⟩ := X
  subst q hby
  exact Run.of (fun t k => XS.lstore X.here hx rfl hd rfl hl k) r
theorem r_lstoreN (pc' : Nat) (X : Cx p l e R s m args below meth c Z bytes ml own ret mname n0 T h cells slots) {k : Fin 4} {v : Int64} (L' : Array Slot) (hd : decode bytes pc = .ok (.lstore_n k, 1)) (hl : storeLocals L k.val (.long v) = some L') (r : Run p e below m K T pc' L' st) (q : pc + 1 = pc' := by rfl) : Run p e below m K T pc L (.long v :: st) := by
  obtain ⟨⟨locs, X, -⟩, -, hx, hby, -⟩ := X
  subst q hby
  exact Run.of (fun t k => XS.lstoreN X.here hx rfl hd rfl hl k) r
theorem r_dload (pc' : Nat) (X : Cx p l e R s m args below meth c Z bytes ml own ret mname n0 T h cells slots) {k : Nat} {v : UInt64} (hd : decode bytes pc = .ok (.dload k, 2)) (hl : L[k]? = some (.val (.double v))) (r : Run p e below m K T pc' L (.double v :: st)) (q : pc + 2 = pc' := by rfl) : Run p e below m K T pc L st := by
  obtain ⟨⟨locs, X, -⟩, -, hx, hby, -⟩ := X
  subst q hby
  exact Run.of (fun t k => XS.dload X.here hx rfl hd hl k) r
theorem r_dloadN (pc' : Nat) (X : Cx p l e R s m args below meth c Z bytes ml own ret mname n0 T h cells slots) {k : Fin 4} {v : UInt64} (hd : decode bytes pc = .ok (.dload_n k, 1)) (hl : L[k.val]? = some (.val (.double v))) (r : Run p e below m K T pc' L (.double v :: st)) (q : pc + 1 = pc' := by rfl) : Run p e below m K T pc L st := by
  obtain ⟨⟨locs, X, -⟩, -, hx, hby, -⟩ := X
  subst q hby
  exact Run.of (fun t k => XS.dloadN X.here hx rfl hd hl k) r
theorem r_dstore (pc' : Nat) (X : Cx p l e R s m args below meth c Z bytes ml own ret mname n0 T h cells slots) {k : Nat} {v : UInt64} (L' : Array Slot) (hd : decode bytes pc = .ok (.dstore k, 2)) (hl : storeLocals L k (.double v) = some L') (r : Run p e below m K T pc' L' st) (q : pc + 2 = pc' := by rfl) : Run p e below m K T pc L (.double v :: st) := by
  obtain ⟨⟨locs, X, -⟩, -, hx, hby, -⟩ := X
  subst q hby
  exact Run.of (fun t k => XS.dstore X.here hx rfl hd rfl hl k) r
theorem r_dstoreN (pc' : Nat) (X : Cx p l e R s m args below meth c Z bytes ml own ret mname n0 T h cells slots) {k : Fin 4} {v : UInt64} (L' : Array Slot) (hd : decode bytes pc = .ok (.dstore_n k, 1)) (hl : storeLocals L k.val (.double v) = some L') (r : Run p e below m K T pc' L' st) (q : pc + 1 = pc' := by rfl) : Run p e below m K T pc L (.double v :: st) := by
  obtain ⟨⟨locs, X, -⟩, -, hx, hby, -⟩ := X
  subst q hby
  exact Run.of (fun t k => XS.dstoreN X.here hx rfl hd rfl hl k) r
theorem r_aload (pc' : Nat) (X : Cx p l e R s m args below meth c Z bytes ml own ret mname n0 T h cells slots) {k : Nat} {v : Value} (hd : decode bytes pc = .ok (.aload k, 2)) (hl : L[k]? = some (.val v)) (hv : v.isRef = true) (r : Run p e below m K T pc' L (v :: st)) (q : pc + 2 = pc' := by rfl) : Run p e below m K T pc L st := by
  obtain ⟨⟨locs, X, -⟩, -, hx, hby, -⟩ := X
  subst q hby
  exact Run.of (fun t k => XS.aload X.here hx rfl hd hl hv k) r
theorem r_aloadN (pc' : Nat) (X : Cx p l e R s m args below meth c Z bytes ml own ret mname n0 T h cells slots) {k : Fin 4} {v : Value} (hd : decode bytes pc = .ok (.aload_n k, 1)) (hl : L[k.val]? = some (.val v)) (hv : v.isRef = true) (r : Run p e below m K T pc' L (v :: st)) (q : pc + 1 = pc' := by rfl) : Run p e below m K T pc L st := by
  obtain ⟨⟨locs, X, -⟩, -, hx, hby, -⟩ := X
  subst q hby
  exact Run.of (fun t k => XS.aloadN X.here hx rfl hd hl hv k) r
theorem r_astore (pc' : Nat) (X : Cx p l e R s m args below meth c Z bytes ml own ret mname n0 T h cells slots) {k : Nat} {v : Value} (L' : Array Slot) (hd : decode bytes pc = .ok (.astore k, 2)) (hv : v.isRef = true) (hl : storeLocals L k v = some L') (r : Run p e below m K T pc' L' st) (q : pc + 2 = pc' := by rfl) : Run p e below m K T pc L (v :: st) := by
  obtain ⟨⟨locs, X, -⟩, -, hx, hby, -⟩ := X
  subst q hby
  exact Run.of (fun t k => XS.astore X.here hx rfl hd rfl hv hl k) r
theorem r_astoreN (pc' : Nat) (X : Cx p l e R s m args below meth c Z bytes ml own ret mname n0 T h cells slots) {k : Fin 4} {v : Value} (L' : Array Slot) (hd : decode bytes pc = .ok (.astore_n k, 1)) (hv : v.isRef = true) (hl : storeLocals L k.val v = some L') (r : Run p e below m K T pc' L' st) (q : pc + 1 = pc' := by rfl) : Run p e below m K T pc L (v :: st) := by
  obtain ⟨⟨locs, X, -⟩, -, hx, hby, -⟩ := X
  subst q hby
  exact Run.of (fun t k => XS.astoreN X.here hx rfl hd rfl hv hl k) r
theorem r_iconst (pc' : Nat) (X : Cx p l e R s m args below meth c Z bytes ml own ret mname n0 T h cells slots) {i : Int} (z : Int32) (hd : decode bytes pc = .ok (.iconst i, 1)) (hz : Int32.ofInt i = z) (r : Run p e below m K T pc' L (.int z :: st)) (q : pc + 1 = pc' := by rfl) : Run p e below m K T pc L st := by
  obtain ⟨⟨locs, X, -⟩, -, hx, hby, -⟩ := X
  subst q hby hz
  exact Run.of (fun t k => XS.iconst X.here hx rfl hd  k) r
theorem r_bipush (pc' : Nat) (X : Cx p l e R s m args below meth c Z bytes ml own ret mname n0 T h cells slots) {i : Int} (z : Int32) (hd : decode bytes pc = .ok (.bipush i, 2)) (hz : (Int8.ofInt i).toInt32 = z) (r : Run p e below m K T pc' L (.int z :: st)) (q : pc + 2 = pc' := by rfl) : Run p e below m K T pc L st := by
  obtain ⟨⟨locs, X, -⟩, -, hx, hby, -⟩ := X
  subst q hby hz
  exact Run.of (fun t k => XS.bipush X.here hx rfl hd  k) r
theorem r_sipush (pc' : Nat) (X : Cx p l e R s m args below meth c Z bytes ml own ret mname n0 T h cells slots) {i : Int} (z : Int32) (hd : decode bytes pc = .ok (.sipush i, 3)) (hz : (Int16.ofInt i).toInt32 = z) (r : Run p e below m K T pc' L (.int z :: st)) (q : pc + 3 = pc' := by rfl) : Run p e below m K T pc L st := by
  obtain ⟨⟨locs, X, -⟩, -, hx, hby, -⟩ := X
  subst q hby hz
  exact Run.of (fun t k => XS.sipush X.here hx rfl hd  k) r
theorem r_lconst (pc' : Nat) (X : Cx p l e R s m args below meth c Z bytes ml own ret mname n0 T h cells slots) {i : Fin 2} (z : Int64) (hd : decode bytes pc = .ok (.lconst i, 1)) (hz : Int64.ofNat i = z) (r : Run p e below m K T pc' L (.long z :: st)) (q : pc + 1 = pc' := by rfl) : Run p e below m K T pc L st := by
  obtain ⟨⟨locs, X, -⟩, -, hx, hby, -⟩ := X
  subst q hby hz
  exact Run.of (fun t k => XS.lconst X.here hx rfl hd  k) r
theorem r_aconst_null (pc' : Nat) (X : Cx p l e R s m args below meth c Z bytes ml own ret mname n0 T h cells slots)  (hd : decode bytes pc = .ok (.aconst_null, 1))  (r : Run p e below m K T pc' L (.null :: st)) (q : pc + 1 = pc' := by rfl) : Run p e below m K T pc L st := by
  obtain ⟨⟨locs, X, -⟩, -, hx, hby, -⟩ := X
  subst q hby
  exact Run.of (fun t k => XS.aconstNull X.here hx rfl hd  k) r
theorem r_dconst0 (pc' : Nat) (X : Cx p l e R s m args below meth c Z bytes ml own ret mname n0 T h cells slots)  (hd : decode bytes pc = .ok (.dconst 0, 1))  (r : Run p e below m K T pc' L (.double FP.dconst0 :: st)) (q : pc + 1 = pc' := by rfl) : Run p e below m K T pc L st := by
  obtain ⟨⟨locs, X, -⟩, -, hx, hby, -⟩ := X
  subst q hby
  exact Run.of (fun t k => XS.dconst0 X.here hx rfl hd rfl k) r
theorem r_dconst1 (pc' : Nat) (X : Cx p l e R s m args below meth c Z bytes ml own ret mname n0 T h cells slots)  (hd : decode bytes pc = .ok (.dconst 1, 1))  (r : Run p e below m K T pc' L (.double FP.dconst1 :: st)) (q : pc + 1 = pc' := by rfl) : Run p e below m K T pc L st := by
  obtain ⟨⟨locs, X, -⟩, -, hx, hby, -⟩ := X
  subst q hby
  exact Run.of (fun t k => XS.dconst1 X.here hx rfl hd rfl k) r
theorem r_iadd (pc' : Nat) (X : Cx p l e R s m args below meth c Z bytes ml own ret mname n0 T h cells slots) {x y : Int32} (hd : decode bytes pc = .ok (.iadd, 1))  (r : Run p e below m K T pc' L (.int (x + y) :: st)) (q : pc + 1 = pc' := by rfl) : Run p e below m K T pc L (.int y :: .int x :: st) := by
  obtain ⟨⟨locs, X, -⟩, -, hx, hby, -⟩ := X
  subst q hby
  exact Run.of (fun t k => XS.iadd X.here hx rfl hd rfl k) r
theorem r_isub (pc' : Nat) (X : Cx p l e R s m args below meth c Z bytes ml own ret mname n0 T h cells slots) {x y : Int32} (hd : decode bytes pc = .ok (.isub, 1))  (r : Run p e below m K T pc' L (.int (x - y) :: st)) (q : pc + 1 = pc' := by rfl) : Run p e below m K T pc L (.int y :: .int x :: st) := by
  obtain ⟨⟨locs, X, -⟩, -, hx, hby, -⟩ := X
  subst q hby
  exact Run.of (fun t k => XS.isub X.here hx rfl hd rfl k) r
theorem r_imul (pc' : Nat) (X : Cx p l e R s m args below meth c Z bytes ml own ret mname n0 T h cells slots) {x y : Int32} (hd : decode bytes pc = .ok (.imul, 1))  (r : Run p e below m K T pc' L (.int (x * y) :: st)) (q : pc + 1 = pc' := by rfl) : Run p e below m K T pc L (.int y :: .int x :: st) := by
  obtain ⟨⟨locs, X, -⟩, -, hx, hby, -⟩ := X
  subst q hby
  exact Run.of (fun t k => XS.imul X.here hx rfl hd rfl k) r
theorem r_iand (pc' : Nat) (X : Cx p l e R s m args below meth c Z bytes ml own ret mname n0 T h cells slots) {x y : Int32} (hd : decode bytes pc = .ok (.iand, 1))  (r : Run p e below m K T pc' L (.int (x &&& y) :: st)) (q : pc + 1 = pc' := by rfl) : Run p e below m K T pc L (.int y :: .int x :: st) := by
  obtain ⟨⟨locs, X, -⟩, -, hx, hby, -⟩ := X
  subst q hby
  exact Run.of (fun t k => XS.iand X.here hx rfl hd rfl k) r
theorem r_ior (pc' : Nat) (X : Cx p l e R s m args below meth c Z bytes ml own ret mname n0 T h cells slots) {x y : Int32} (hd : decode bytes pc = .ok (.ior, 1))  (r : Run p e below m K T pc' L (.int (x ||| y) :: st)) (q : pc + 1 = pc' := by rfl) : Run p e below m K T pc L (.int y :: .int x :: st) := by
  obtain ⟨⟨locs, X, -⟩, -, hx, hby, -⟩ := X
  subst q hby
  exact Run.of (fun t k => XS.ior X.here hx rfl hd rfl k) r
theorem r_ixor (pc' : Nat) (X : Cx p l e R s m args below meth c Z bytes ml own ret mname n0 T h cells slots) {x y : Int32} (hd : decode bytes pc = .ok (.ixor, 1))  (r : Run p e below m K T pc' L (.int (x ^^^ y) :: st)) (q : pc + 1 = pc' := by rfl) : Run p e below m K T pc L (.int y :: .int x :: st) := by
  obtain ⟨⟨locs, X, -⟩, -, hx, hby, -⟩ := X
  subst q hby
  exact Run.of (fun t k => XS.ixor X.here hx rfl hd rfl k) r
theorem r_ishl (pc' : Nat) (X : Cx p l e R s m args below meth c Z bytes ml own ret mname n0 T h cells slots) {x y : Int32} (hd : decode bytes pc = .ok (.ishl, 1))  (r : Run p e below m K T pc' L (.int (x <<< (y &&& 31)) :: st)) (q : pc + 1 = pc' := by rfl) : Run p e below m K T pc L (.int y :: .int x :: st) := by
  obtain ⟨⟨locs, X, -⟩, -, hx, hby, -⟩ := X
  subst q hby
  exact Run.of (fun t k => XS.ishl X.here hx rfl hd rfl k) r
theorem r_ishr (pc' : Nat) (X : Cx p l e R s m args below meth c Z bytes ml own ret mname n0 T h cells slots) {x y : Int32} (hd : decode bytes pc = .ok (.ishr, 1))  (r : Run p e below m K T pc' L (.int (x >>> (y &&& 31)) :: st)) (q : pc + 1 = pc' := by rfl) : Run p e below m K T pc L (.int y :: .int x :: st) := by
  obtain ⟨⟨locs, X, -⟩, -, hx, hby, -⟩ := X
  subst q hby
  exact Run.of (fun t k => XS.ishr X.here hx rfl hd rfl k) r
theorem r_iushr (pc' : Nat) (X : Cx p l e R s m args below meth c Z bytes ml own ret mname n0 T h cells slots) {x y : Int32} (hd : decode bytes pc = .ok (.iushr, 1))  (r : Run p e below m K T pc' L (.int ((x.toUInt32 >>> (y &&& 31).toUInt32).toInt32) :: st)) (q : pc + 1 = pc' := by rfl) : Run p e below m K T pc L (.int y :: .int x :: st) := by
  obtain ⟨⟨locs, X, -⟩, -, hx, hby, -⟩ := X
  subst q hby
  exact Run.of (fun t k => XS.iushr X.here hx rfl hd rfl k) r
theorem r_ladd (pc' : Nat) (X : Cx p l e R s m args below meth c Z bytes ml own ret mname n0 T h cells slots) {x y : Int64} (hd : decode bytes pc = .ok (.ladd, 1))  (r : Run p e below m K T pc' L (.long (x + y) :: st)) (q : pc + 1 = pc' := by rfl) : Run p e below m K T pc L (.long y :: .long x :: st) := by
  obtain ⟨⟨locs, X, -⟩, -, hx, hby, -⟩ := X
  subst q hby
  exact Run.of (fun t k => XS.ladd X.here hx rfl hd rfl k) r
theorem r_lsub (pc' : Nat) (X : Cx p l e R s m args below meth c Z bytes ml own ret mname n0 T h cells slots) {x y : Int64} (hd : decode bytes pc = .ok (.lsub, 1))  (r : Run p e below m K T pc' L (.long (x - y) :: st)) (q : pc + 1 = pc' := by rfl) : Run p e below m K T pc L (.long y :: .long x :: st) := by
  obtain ⟨⟨locs, X, -⟩, -, hx, hby, -⟩ := X
  subst q hby
  exact Run.of (fun t k => XS.lsub X.here hx rfl hd rfl k) r
theorem r_lmul (pc' : Nat) (X : Cx p l e R s m args below meth c Z bytes ml own ret mname n0 T h cells slots) {x y : Int64} (hd : decode bytes pc = .ok (.lmul, 1))  (r : Run p e below m K T pc' L (.long (x * y) :: st)) (q : pc + 1 = pc' := by rfl) : Run p e below m K T pc L (.long y :: .long x :: st) := by
  obtain ⟨⟨locs, X, -⟩, -, hx, hby, -⟩ := X
  subst q hby
  exact Run.of (fun t k => XS.lmul X.here hx rfl hd rfl k) r
theorem r_land (pc' : Nat) (X : Cx p l e R s m args below meth c Z bytes ml own ret mname n0 T h cells slots) {x y : Int64} (hd : decode bytes pc = .ok (.land, 1))  (r : Run p e below m K T pc' L (.long (x &&& y) :: st)) (q : pc + 1 = pc' := by rfl) : Run p e below m K T pc L (.long y :: .long x :: st) := by
  obtain ⟨⟨locs, X, -⟩, -, hx, hby, -⟩ := X
  subst q hby
  exact Run.of (fun t k => XS.land X.here hx rfl hd rfl k) r
theorem r_lor (pc' : Nat) (X : Cx p l e R s m args below meth c Z bytes ml own ret mname n0 T h cells slots) {x y : Int64} (hd : decode bytes pc = .ok (.lor, 1))  (r : Run p e below m K T pc' L (.long (x ||| y) :: st)) (q : pc + 1 = pc' := by rfl) : Run p e below m K T pc L (.long y :: .long x :: st) := by
  obtain ⟨⟨locs, X, -⟩, -, hx, hby, -⟩ := X
  subst q hby
  exact Run.of (fun t k => XS.lor X.here hx rfl hd rfl k) r
theorem r_lxor (pc' : Nat) (X : Cx p l e R s m args below meth c Z bytes ml own ret mname n0 T h cells slots) {x y : Int64} (hd : decode bytes pc = .ok (.lxor, 1))  (r : Run p e below m K T pc' L (.long (x ^^^ y) :: st)) (q : pc + 1 = pc' := by rfl) : Run p e below m K T pc L (.long y :: .long x :: st) := by
  obtain ⟨⟨locs, X, -⟩, -, hx, hby, -⟩ := X
  subst q hby
  exact Run.of (fun t k => XS.lxor X.here hx rfl hd rfl k) r
theorem r_lshl (pc' : Nat) (X : Cx p l e R s m args below meth c Z bytes ml own ret mname n0 T h cells slots) {x : Int64} {y : Int32} (hd : decode bytes pc = .ok (.lshl, 1))  (r : Run p e below m K T pc' L (.long (x <<< (y &&& 0x3f).toInt64) :: st)) (q : pc + 1 = pc' := by rfl) : Run p e below m K T pc L (.int y :: .long x :: st) := by
  obtain ⟨⟨locs, X, -⟩, -, hx, hby, -⟩ := X
  subst q hby
  exact Run.of (fun t k => XS.lshl X.here hx rfl hd rfl k) r
theorem r_lshr (pc' : Nat) (X : Cx p l e R s m args below meth c Z bytes ml own ret mname n0 T h cells slots) {x : Int64} {y : Int32} (hd : decode bytes pc = .ok (.lshr, 1))  (r : Run p e below m K T pc' L (.long (x >>> (y &&& 0x3f).toInt64) :: st)) (q : pc + 1 = pc' := by rfl) : Run p e below m K T pc L (.int y :: .long x :: st) := by
  obtain ⟨⟨locs, X, -⟩, -, hx, hby, -⟩ := X
  subst q hby
  exact Run.of (fun t k => XS.lshr X.here hx rfl hd rfl k) r
theorem r_lushr (pc' : Nat) (X : Cx p l e R s m args below meth c Z bytes ml own ret mname n0 T h cells slots) {x : Int64} {y : Int32} (hd : decode bytes pc = .ok (.lushr, 1))  (r : Run p e below m K T pc' L (.long ((x.toUInt64 >>> (y &&& 0x3f).toInt64.toUInt64).toInt64) :: st)) (q : pc + 1 = pc' := by rfl) : Run p e below m K T pc L (.int y :: .long x :: st) := by
  obtain ⟨⟨locs, X, -⟩, -, hx, hby, -⟩ := X
  subst q hby
  exact Run.of (fun t k => XS.lushr X.here hx rfl hd rfl k) r
theorem r_lcmp (pc' : Nat) (X : Cx p l e R s m args below meth c Z bytes ml own ret mname n0 T h cells slots) {x y : Int64} (hd : decode bytes pc = .ok (.lcmp, 1))  (r : Run p e below m K T pc' L (.int (lcmpW x y) :: st)) (q : pc + 1 = pc' := by rfl) : Run p e below m K T pc L (.long y :: .long x :: st) := by
  obtain ⟨⟨locs, X, -⟩, -, hx, hby, -⟩ := X
  subst q hby
  exact Run.of (fun t k => XS.lcmp X.here hx rfl hd rfl k) r
theorem r_idiv (pc' : Nat) (X : Cx p l e R s m args below meth c Z bytes ml own ret mname n0 T h cells slots) {x y : Int32} (hd : decode bytes pc = .ok (.idiv, 1)) (hy : y ≠ 0) (r : Run p e below m K T pc' L (.int (x / y) :: st)) (q : pc + 1 = pc' := by rfl) : Run p e below m K T pc L (.int y :: .int x :: st) := by
  obtain ⟨⟨locs, X, -⟩, -, hx, hby, -⟩ := X
  subst q hby
  exact Run.of (fun t k => XS.idiv X.here hx rfl hd rfl hy k) r
theorem r_ldiv (pc' : Nat) (X : Cx p l e R s m args below meth c Z bytes ml own ret mname n0 T h cells slots) {x y : Int64} (hd : decode bytes pc = .ok (.ldiv, 1)) (hy : y ≠ 0) (r : Run p e below m K T pc' L (.long (x / y) :: st)) (q : pc + 1 = pc' := by rfl) : Run p e below m K T pc L (.long y :: .long x :: st) := by
  obtain ⟨⟨locs, X, -⟩, -, hx, hby, -⟩ := X
  subst q hby
  exact Run.of (fun t k => XS.ldiv X.here hx rfl hd rfl hy k) r
theorem r_irem (pc' : Nat) (X : Cx p l e R s m args below meth c Z bytes ml own ret mname n0 T h cells slots) {x y : Int32} (hd : decode bytes pc = .ok (.irem, 1)) (hy : y ≠ 0) (r : Run p e below m K T pc' L (.int (x % y) :: st)) (q : pc + 1 = pc' := by rfl) : Run p e below m K T pc L (.int y :: .int x :: st) := by
  obtain ⟨⟨locs, X, -⟩, -, hx, hby, -⟩ := X
  subst q hby
  exact Run.of (fun t k => iremM (g := mkF m pc L (.int y :: .int x :: st)) X hx rfl hd rfl hy k) r
theorem r_lrem (pc' : Nat) (X : Cx p l e R s m args below meth c Z bytes ml own ret mname n0 T h cells slots) {x y : Int64} (hd : decode bytes pc = .ok (.lrem, 1)) (hy : y ≠ 0) (r : Run p e below m K T pc' L (.long (x % y) :: st)) (q : pc + 1 = pc' := by rfl) : Run p e below m K T pc L (.long y :: .long x :: st) := by
  obtain ⟨⟨locs, X, -⟩, -, hx, hby, -⟩ := X
  subst q hby
  rw [← lrem_mod x y] at r
  exact Run.of (fun t k => XS.lrem X.here hx rfl hd rfl hy k) r
theorem r_ineg (pc' : Nat) (X : Cx p l e R s m args below meth c Z bytes ml own ret mname n0 T h cells slots) {x : Int32} (hd : decode bytes pc = .ok (.ineg, 1))  (r : Run p e below m K T pc' L (.int (-x) :: st)) (q : pc + 1 = pc' := by rfl) : Run p e below m K T pc L (.int x :: st) := by
  obtain ⟨⟨locs, X, -⟩, -, hx, hby, -⟩ := X
  subst q hby
  exact Run.of (fun t k => XS.ineg X.here hx rfl hd rfl k) r
theorem r_lneg (pc' : Nat) (X : Cx p l e R s m args below meth c Z bytes ml own ret mname n0 T h cells slots) {x : Int64} (hd : decode bytes pc = .ok (.lneg, 1))  (r : Run p e below m K T pc' L (.long (-x) :: st)) (q : pc + 1 = pc' := by rfl) : Run p e below m K T pc L (.long x :: st) := by
  obtain ⟨⟨locs, X, -⟩, -, hx, hby, -⟩ := X
  subst q hby
  exact Run.of (fun t k => XS.lneg X.here hx rfl hd rfl k) r
theorem r_i2l (pc' : Nat) (X : Cx p l e R s m args below meth c Z bytes ml own ret mname n0 T h cells slots) {x : Int32} (hd : decode bytes pc = .ok (.i2l, 1))  (r : Run p e below m K T pc' L (.long (x.toInt64) :: st)) (q : pc + 1 = pc' := by rfl) : Run p e below m K T pc L (.int x :: st) := by
  obtain ⟨⟨locs, X, -⟩, -, hx, hby, -⟩ := X
  subst q hby
  exact Run.of (fun t k => XS.i2l X.here hx rfl hd rfl k) r
theorem r_l2i (pc' : Nat) (X : Cx p l e R s m args below meth c Z bytes ml own ret mname n0 T h cells slots) {x : Int64} (hd : decode bytes pc = .ok (.l2i, 1))  (r : Run p e below m K T pc' L (.int (x.toInt32) :: st)) (q : pc + 1 = pc' := by rfl) : Run p e below m K T pc L (.long x :: st) := by
  obtain ⟨⟨locs, X, -⟩, -, hx, hby, -⟩ := X
  subst q hby
  exact Run.of (fun t k => XS.l2i X.here hx rfl hd rfl k) r
theorem r_i2b (pc' : Nat) (X : Cx p l e R s m args below meth c Z bytes ml own ret mname n0 T h cells slots) {x : Int32} (hd : decode bytes pc = .ok (.i2b, 1))  (r : Run p e below m K T pc' L (.int (x.toInt8.toInt32) :: st)) (q : pc + 1 = pc' := by rfl) : Run p e below m K T pc L (.int x :: st) := by
  obtain ⟨⟨locs, X, -⟩, -, hx, hby, -⟩ := X
  subst q hby
  exact Run.of (fun t k => XS.i2b X.here hx rfl hd rfl k) r
theorem r_i2s (pc' : Nat) (X : Cx p l e R s m args below meth c Z bytes ml own ret mname n0 T h cells slots) {x : Int32} (hd : decode bytes pc = .ok (.i2s, 1))  (r : Run p e below m K T pc' L (.int (x.toInt16.toInt32) :: st)) (q : pc + 1 = pc' := by rfl) : Run p e below m K T pc L (.int x :: st) := by
  obtain ⟨⟨locs, X, -⟩, -, hx, hby, -⟩ := X
  subst q hby
  exact Run.of (fun t k => XS.i2s X.here hx rfl hd rfl k) r
theorem r_i2c (pc' : Nat) (X : Cx p l e R s m args below meth c Z bytes ml own ret mname n0 T h cells slots) {x : Int32} (hd : decode bytes pc = .ok (.i2c, 1))  (r : Run p e below m K T pc' L (.int (x.toUInt32.toUInt16.toUInt32.toInt32) :: st)) (q : pc + 1 = pc' := by rfl) : Run p e below m K T pc L (.int x :: st) := by
  obtain ⟨⟨locs, X, -⟩, -, hx, hby, -⟩ := X
  subst q hby
  exact Run.of (fun t k => XS.i2c X.here hx rfl hd rfl k) r
theorem r_iinc (pc' : Nat) (X : Cx p l e R s m args below meth c Z bytes ml own ret mname n0 T h cells slots) {k : Nat} {cst : Int} {x : Int32} (z : Int32) (L' : Array Slot) (hd : decode bytes pc = .ok (.iinc k cst, 3)) (hl : L[k]? = some (.val (.int x))) (hz : Int32.ofInt cst = z) (hl' : storeLocals L k (.int (x + z)) = some L') (r : Run p e below m K T pc' L' st) (q : pc + 3 = pc' := by rfl) : Run p e below m K T pc L st := by
  obtain ⟨⟨locs, X, -⟩, -, hx, hby, -⟩ := X
  subst q hby
  exact Run.of (fun t k => XS.iinc X.here hx rfl hd hl (hz.symm ▸ hl') k) r
theorem r_dup (pc' : Nat) (X : Cx p l e R s m args below meth c Z bytes ml own ret mname n0 T h cells slots) {x : Value} (hd : decode bytes pc = .ok (.dup, 1)) (hc : x.category = 1) (r : Run p e below m K T pc' L (x :: x :: st)) (q : pc + 1 = pc' := by rfl) : Run p e below m K T pc L (x :: st) := by
  obtain ⟨⟨locs, X, -⟩, -, hx, hby, -⟩ := X
  subst q hby
  exact Run.of (fun t k => XS.dup X.here hx rfl hd rfl hc k) r
theorem r_pop (pc' : Nat) (X : Cx p l e R s m args below meth c Z bytes ml own ret mname n0 T h cells slots) {x : Value} (hd : decode bytes pc = .ok (.pop, 1)) (hc : x.category = 1) (r : Run p e below m K T pc' L st) (q : pc + 1 = pc' := by rfl) : Run p e below m K T pc L (x :: st) := by
  obtain ⟨⟨locs, X, -⟩, -, hx, hby, -⟩ := X
  subst q hby
  exact Run.of (fun t k => XS.pop X.here hx rfl hd rfl hc k) r
theorem r_swap (pc' : Nat) (X : Cx p l e R s m args below meth c Z bytes ml own ret mname n0 T h cells slots) {x y : Value} (hd : decode bytes pc = .ok (.swap, 1)) (hc : x.category = 1) (hc2 : y.category = 1) (r : Run p e below m K T pc' L (y :: x :: st)) (q : pc + 1 = pc' := by rfl) : Run p e below m K T pc L (x :: y :: st) := by
  obtain ⟨⟨locs, X, -⟩, -, hx, hby, -⟩ := X
  subst q hby
  exact Run.of (fun t k => XS.swap X.here hx rfl hd rfl hc hc2 k) r
theorem r_dup_x1 (pc' : Nat) (X : Cx p l e R s m args below meth c Z bytes ml own ret mname n0 T h cells slots) {x y : Value} (hd : decode bytes pc = .ok (.dup_x1, 1)) (hc : x.category = 1) (hc2 : y.category = 1) (r : Run p e below m K T pc' L (x :: y :: x :: st)) (q : pc + 1 = pc' := by rfl) : Run p e below m K T pc L (x :: y :: st) := by
  obtain ⟨⟨locs, X, -⟩, -, hx, hby, -⟩ := X
  subst q hby
  exact Run.of (fun t k => XS.dupX1 X.here hx rfl hd rfl hc hc2 k) r
theorem r_i2d (pc' : Nat) (X : Cx p l e R s m args below meth c Z bytes ml own ret mname n0 T h cells slots) {x : Int32} (hd : decode bytes pc = .ok (.i2d, 1))  (r : Run p e below m K T pc' L (.double (FP.i2d x) :: st)) (q : pc + 1 = pc' := by rfl) : Run p e below m K T pc L (.int x :: st) := by
  obtain ⟨⟨locs, X, -⟩, -, hx, hby, -⟩ := X
  subst q hby
  exact Run.of (fun t k => XS.i2dS X.here hx rfl hd rfl rfl k) r
theorem r_dneg (pc' : Nat) (X : Cx p l e R s m args below meth c Z bytes ml own ret mname n0 T h cells slots) {x : UInt64} (hd : decode bytes pc = .ok (.dneg, 1))  (r : Run p e below m K T pc' L (.double (FP.dneg x) :: st)) (q : pc + 1 = pc' := by rfl) : Run p e below m K T pc L (.double x :: st) := by
  obtain ⟨⟨locs, X, -⟩, -, hx, hby, -⟩ := X
  subst q hby
  exact Run.of (fun t k => XS.dnegS X.here hx rfl hd rfl rfl k) r
theorem r_dadd (pc' : Nat) (X : Cx p l e R s m args below meth c Z bytes ml own ret mname n0 T h cells slots) {x y : UInt64} (hd : decode bytes pc = .ok (.dadd, 1)) (hn : Jvm.Free.Fl.NoNaN64 (FP.dadd x y)) (r : Run p e below m K T pc' L (.double (FP.dadd x y) :: st)) (q : pc + 1 = pc' := by rfl) : Run p e below m K T pc L (.double y :: .double x :: st) := by
  obtain ⟨⟨locs, X, -⟩, -, hx, hby, -⟩ := X
  subst q hby
  exact Run.of (fun t k => XS.daddS X.here hx rfl hd rfl hn rfl k) r
theorem r_dsub (pc' : Nat) (X : Cx p l e R s m args below meth c Z bytes ml own ret mname n0 T h cells slots) {x y : UInt64} (hd : decode bytes pc = .ok (.dsub, 1)) (hn : Jvm.Free.Fl.NoNaN64 (FP.dsub x y)) (r : Run p e below m K T pc' L (.double (FP.dsub x y) :: st)) (q : pc + 1 = pc' := by rfl) : Run p e below m K T pc L (.double y :: .double x :: st) := by
  obtain ⟨⟨locs, X, -⟩, -, hx, hby, -⟩ := X
  subst q hby
  exact Run.of (fun t k => XS.dsubS X.here hx rfl hd rfl hn rfl k) r
theorem r_dcmpSelf (pc' : Nat) (X : Cx p l e R s m args below meth c Z bytes ml own ret mname n0 T h cells slots) {o : CmpOp} {x : UInt64} (hd : decode bytes pc = .ok (.dcmp o, 1)) (hn : Jvm.Free.Fl.NoNaN64 x) (r : Run p e below m K T pc' L (.int 0 :: st)) (q : pc + 1 = pc' := by rfl) : Run p e below m K T pc L (.double x :: .double x :: st) := by
  obtain ⟨⟨locs, X, -⟩, -, hx, hby, -⟩ := X
  subst q hby
  exact Run.of (fun t k => XS.dcmpS X.here hx rfl hd rfl (dcmpV_self hn o) k) r
theorem r_dup2_2 (pc' : Nat) (X : Cx p l e R s m args below meth c Z bytes ml own ret mname n0 T h cells slots) {x y : Value} (hd : decode bytes pc = .ok (.dup2, 1)) (hc : x.category = 1) (hc2 : y.category = 1) (r : Run p e below m K T pc' L (x :: y :: x :: y :: st)) (q : pc + 1 = pc' := by rfl) : Run p e below m K T pc L (x :: y :: st) := by
  obtain ⟨⟨locs, X, -⟩, -, hx, hby, -⟩ := X
  subst q hby
  refine Run.of (fun t k => ?_) r
  jvm_step X.here [X.here.top, hx, hd, hc, hc2]
  exact k
theorem r_dup2_1 (pc' : Nat) (X : Cx p l e R s m args below meth c Z bytes ml own ret mname n0 T h cells slots) {x : Value} (hd : decode bytes pc = .ok (.dup2, 1)) (hc : x.category = 2) (r : Run p e below m K T pc' L (x :: x :: st)) (q : pc + 1 = pc' := by rfl) : Run p e below m K T pc L (x :: st) := by
  obtain ⟨⟨locs, X, -⟩, -, hx, hby, -⟩ := X
  subst q hby
  refine Run.of (fun t k => ?_) r
  jvm_step X.here [X.here.top, hx, hd, hc]
  exact k
theorem r_dup_x2_111 (pc' : Nat) (X : Cx p l e R s m args below meth c Z bytes ml own ret mname n0 T h cells slots) {x y z : Value} (hd : decode bytes pc = .ok (.dup_x2, 1)) (hc : x.category = 1) (hc2 : y.category = 1) (hc3 : z.category = 1) (r : Run p e below m K T pc' L (x :: y :: z :: x :: st)) (q : pc + 1 = pc' := by rfl) : Run p e below m K T pc L (x :: y :: z :: st) := by
  obtain ⟨⟨locs, X, -⟩, -, hx, hby, -⟩ := X
  subst q hby
  refine Run.of (fun t k => ?_) r
  jvm_step X.here [X.here.top, hx, hd, hc, hc2, hc3]
  exact k
theorem r_dup2_x1_2 (pc' : Nat) (X : Cx p l e R s m args below meth c Z bytes ml own ret mname n0 T h cells slots) {x y : Value} (hd : decode bytes pc = .ok (.dup2_x1, 1)) (hc : x.category = 2) (hc2 : y.category = 1) (r : Run p e below m K T pc' L (x :: y :: x :: st)) (q : pc + 1 = pc' := by rfl) : Run p e below m K T pc L (x :: y :: st) := by
  obtain ⟨⟨locs, X, -⟩, -, hx, hby, -⟩ := X
  subst q hby
  refine Run.of (fun t k => ?_) r
  jvm_step X.here [X.here.top, hx, hd, hc, hc2]
  exact k
theorem r_dup2_x2_2 (pc' : Nat) (X : Cx p l e R s m args below meth c Z bytes ml own ret mname n0 T h cells slots) {x y z : Value} (hd : decode bytes pc = .ok (.dup2_x2, 1)) (hc : x.category = 2) (hc2 : y.category = 1) (hc3 : z.category = 1) (r : Run p e below m K T pc' L (x :: y :: z :: x :: st)) (q : pc + 1 = pc' := by rfl) : Run p e below m K T pc L (x :: y :: z :: st) := by
  obtain ⟨⟨locs, X, -⟩, -, hx, hby, -⟩ := X
  subst q hby
  refine Run.of (fun t k => ?_) r
  jvm_step X.here [X.here.top, hx, hd, hc, hc2, hc3]
  exact k
theorem r_pop2_1 (pc' : Nat) (X : Cx p l e R s m args below meth c Z bytes ml own ret mname n0 T h cells slots) {x : Value} (hd : decode bytes pc = .ok (.pop2, 1)) (hc : x.category = 2) (r : Run p e below m K T pc' L st) (q : pc + 1 = pc' := by rfl) : Run p e below m K T pc L (x :: st) := by
  obtain ⟨⟨locs, X, -⟩, -, hx, hby, -⟩ := X
  subst q hby
  refine Run.of (fun t k => ?_) r
  jvm_step X.here [X.here.top, hx, hd, hc]
  exact k
theorem r_goto (pc' : Nat) (X : Cx p l e R s m args below meth c Z bytes ml own ret mname n0 T h cells slots) {o : Int} (hd : decode bytes pc = .ok (.goto o, 3)) (r : Run p e below m K T pc' L st) (ho : 0 ≤ (pc : Int) + o := by decide) (hp : ((pc : Int) + o).toNat = pc' := by decide) : Run p e below m K T pc L st := by
  obtain ⟨⟨locs, X, -⟩, -, hx, hby, -⟩ := X
  subst hby
  exact Run.of (fun t k => XS.goto X.here hx rfl (pc0 := pc) (pc' := pc') rfl hd ho hp k) r
theorem r_ifY (pc' : Nat) (X : Cx p l e R s m args below meth c Z bytes ml own ret mname n0 T h cells slots) {cd : ClassFile.Cond} {o : Int} {x : Int32} (hd : decode bytes pc = .ok (.ifCond cd o, 3)) (hc : ifCond.holds cd x = true) (r : Run p e below m K T pc' L st) (ho : 0 ≤ (pc : Int) + o := by decide) (hp : ((pc : Int) + o).toNat = pc' := by decide) : Run p e below m K T pc L (.int x :: st) := by
  obtain ⟨⟨locs, X, -⟩, -, hx, hby, -⟩ := X
  subst hby
  exact Run.of (fun t k => XS.ifYes X.here hx rfl (pc0 := pc) (pc' := pc') rfl hd rfl hc ho hp k) r
theorem r_ifN (pc' : Nat) (X : Cx p l e R s m args below meth c Z bytes ml own ret mname n0 T h cells slots) {cd : ClassFile.Cond} {o : Int} {x : Int32} (hd : decode bytes pc = .ok (.ifCond cd o, 3)) (hc : ifCond.holds cd x = false) (r : Run p e below m K T pc' L st) (q : pc + 3 = pc' := by rfl) : Run p e below m K T pc L (.int x :: st) := by
  obtain ⟨⟨locs, X, -⟩, -, hx, hby, -⟩ := X
  subst q hby
  exact Run.of (fun t k => XS.ifNo X.here hx rfl hd rfl hc k) r
theorem r_icmpY (pc' : Nat) (X : Cx p l e R s m args below meth c Z bytes ml own ret mname n0 T h cells slots) {cd : ClassFile.Cond} {o : Int} {x y : Int32} (hd : decode bytes pc = .ok (.if_icmp cd o, 3)) (hc : if_icmp.holds cd x y = true) (r : Run p e below m K T pc' L st) (ho : 0 ≤ (pc : Int) + o := by decide) (hp : ((pc : Int) + o).toNat = pc' := by decide) : Run p e below m K T pc L (.int y :: .int x :: st) := by
  obtain ⟨⟨locs, X, -⟩, -, hx, hby, -⟩ := X
  subst hby
  exact Run.of (fun t k => XS.icmpYes X.here hx rfl (pc0 := pc) (pc' := pc') rfl hd rfl hc ho hp k) r
theorem r_icmpN (pc' : Nat) (X : Cx p l e R s m args below meth c Z bytes ml own ret mname n0 T h cells slots) {cd : ClassFile.Cond} {o : Int} {x y : Int32} (hd : decode bytes pc = .ok (.if_icmp cd o, 3)) (hc : if_icmp.holds cd x y = false) (r : Run p e below m K T pc' L st) (q : pc + 3 = pc' := by rfl) : Run p e below m K T pc L (.int y :: .int x :: st) := by
  obtain ⟨⟨locs, X, -⟩, -, hx, hby, -⟩ := X
  subst q hby
  exact Run.of (fun t k => XS.icmpNo X.here hx rfl hd rfl hc k) r
theorem r_ifnullY (pc' : Nat) (X : Cx p l e R s m args below meth c Z bytes ml own ret mname n0 T h cells slots) {o : Int}  (hd : decode bytes pc = .ok (.ifnull o, 3)) (r : Run p e below m K T pc' L st) (ho : 0 ≤ (pc : Int) + o := by decide) (hp : ((pc : Int) + o).toNat = pc' := by decide) : Run p e below m K T pc L (.null :: st) := by
  obtain ⟨⟨locs, X, -⟩, -, hx, hby, -⟩ := X
  subst hby
  exact Run.of (fun t k => XS.ifnullYes X.here hx rfl (pc0 := pc) (pc' := pc') rfl hd rfl ho hp k) r
theorem r_ifnullN (pc' : Nat) (X : Cx p l e R s m args below meth c Z bytes ml own ret mname n0 T h cells slots) {o : Int} {b : Addr} (hd : decode bytes pc = .ok (.ifnull o, 3)) (r : Run p e below m K T pc' L st) (q : pc + 3 = pc' := by rfl) : Run p e below m K T pc L (.ref b :: st) := by
  obtain ⟨⟨locs, X, -⟩, -, hx, hby, -⟩ := X
  subst q hby
  exact Run.of (fun t k => XS.ifnullNo X.here hx rfl hd rfl k) r
theorem r_ifnonnullY (pc' : Nat) (X : Cx p l e R s m args below meth c Z bytes ml own ret mname n0 T h cells slots) {o : Int} {b : Addr} (hd : decode bytes pc = .ok (.ifnonnull o, 3)) (r : Run p e below m K T pc' L st) (ho : 0 ≤ (pc : Int) + o := by decide) (hp : ((pc : Int) + o).toNat = pc' := by decide) : Run p e below m K T pc L (.ref b :: st) := by
  obtain ⟨⟨locs, X, -⟩, -, hx, hby, -⟩ := X
  subst hby
  exact Run.of (fun t k => XS.ifnonnullYes X.here hx rfl (pc0 := pc) (pc' := pc') rfl hd rfl ho hp k) r
theorem r_ifnonnullN (pc' : Nat) (X : Cx p l e R s m args below meth c Z bytes ml own ret mname n0 T h cells slots) {o : Int}  (hd : decode bytes pc = .ok (.ifnonnull o, 3)) (r : Run p e below m K T pc' L st) (q : pc + 3 = pc' := by rfl) : Run p e below m K T pc L (.null :: st) := by
  obtain ⟨⟨locs, X, -⟩, -, hx, hby, -⟩ := X
  subst q hby
  exact Run.of (fun t k => XS.ifnonnullNo X.here hx rfl hd rfl k) r
theorem r_acmpY (pc' : Nat) (X : Cx p l e R s m args below meth c Z bytes ml own ret mname n0 T h cells slots) {cd : ACond} {o : Int} {a b : Addr} (hd : decode bytes pc = .ok (.if_acmp cd o, 3)) (hc : if_acmp.holds cd (some a) (some b) = true) (r : Run p e below m K T pc' L st) (ho : 0 ≤ (pc : Int) + o := by decide) (hp : ((pc : Int) + o).toNat = pc' := by decide) : Run p e below m K T pc L (.ref b :: .ref a :: st) := by
  obtain ⟨⟨locs, X, -⟩, -, hx, hby, -⟩ := X
  subst hby
  exact Run.of (fun t k => XS.acmpYes X.here hx rfl (pc0 := pc) (pc' := pc') rfl hd rfl hc ho hp k) r
theorem r_acmpN (pc' : Nat) (X : Cx p l e R s m args below meth c Z bytes ml own ret mname n0 T h cells slots) {cd : ACond} {o : Int} {a b : Addr} (hd : decode bytes pc = .ok (.if_acmp cd o, 3)) (hc : if_acmp.holds cd (some a) (some b) = false) (r : Run p e below m K T pc' L st) (q : pc + 3 = pc' := by rfl) : Run p e below m K T pc L (.ref b :: .ref a :: st) := by
  obtain ⟨⟨locs, X, -⟩, -, hx, hby, -⟩ := X
  subst q hby
  exact Run.of (fun t k => XS.acmpNo X.here hx rfl hd rfl hc k) r
theorem r_ldcInt (pc' : Nat) (X : Cx p l e R s m args below meth c Z bytes ml own ret mname n0 T h cells slots) {a0 : Array Value} {i : Nat} {z : Int32} (w : (Jvm.Cond.constant own i z).before a0 Z = true) (hd : decode bytes pc = .ok (.ldc i, 2)) (r : Run p e below m K T pc' L (.int z :: st)) (q : pc + 2 = pc' := by rfl) : Run p e below m K T pc L st := by
  obtain ⟨⟨locs, X, -⟩, -, hx, hby, -, hZ, hown, -⟩ := X
  subst q hby
  exact Run.of (fun t k => X.ldcInt hx hown (mvT hZ w) (g := mkF m pc L st) rfl hd _ k) r
theorem r_ldcwInt (pc' : Nat) (X : Cx p l e R s m args below meth c Z bytes ml own ret mname n0 T h cells slots) {a0 : Array Value} {i : Nat} {z : Int32} (w : (Jvm.Cond.constant own i z).before a0 Z = true) (hd : decode bytes pc = .ok (.ldc_w i, 3)) (r : Run p e below m K T pc' L (.int z :: st)) (q : pc + 3 = pc' := by rfl) : Run p e below m K T pc L st := by
  obtain ⟨⟨locs, X, -⟩, -, hx, hby, -, hZ, hown, -⟩ := X
  subst q hby
  exact Run.of (fun t k => X.ldcwInt hx hown (mvT hZ w) (g := mkF m pc L st) rfl hd _ k) r
theorem r_ldc2Long (pc' : Nat) (X : Cx p l e R s m args below meth c Z bytes ml own ret mname n0 T h cells slots) {a0 : Array Value} {i : Nat} {z : Int64} (w : (Jvm.Cond.constantLong own i z).before a0 Z = true) (hd : decode bytes pc = .ok (.ldc2_w i, 3)) (r : Run p e below m K T pc' L (.long z :: st)) (q : pc + 3 = pc' := by rfl) : Run p e below m K T pc L st := by
  obtain ⟨⟨locs, X, -⟩, -, hx, hby, -, hZ, hown, -⟩ := X
  subst q hby
  exact Run.of (fun t k => X.ldc2Long hx hown (mvT hZ w) (g := mkF m pc L st) rfl hd _ k) r
theorem r_ldc2Double (pc' : Nat) (X : Cx p l e R s m args below meth c Z bytes ml own ret mname n0 T h cells slots) {a0 : Array Value} {i : Nat} {z : UInt64} (w : (Jvm.Cond.constantDouble own i z).before a0 Z = true) (hd : decode bytes pc = .ok (.ldc2_w i, 3)) (r : Run p e below m K T pc' L (.double z :: st)) (q : pc + 3 = pc' := by rfl) : Run p e below m K T pc L st := by
  obtain ⟨⟨locs, X, -⟩, -, hx, hby, -, hZ, hown, -⟩ := X
  subst q hby
  exact Run.of (fun t k => X.ldc2DoubleC hx hown (mvT hZ w) (g := mkF m pc L st) rfl hd _ k) r
theorem r_getfield (pc' : Nat) (X : Cx p l e R s m args below meth c Z bytes ml own ret mname n0 T h cells slots) {a0 : Array Value} {R0 O n d host : String} {index : Nat} (w : (Jvm.Cond.fieldLink own index R0 n d).before a0 Z = true ∨ (Jvm.Cond.fieldLinkNest own index R0 n d host).before a0 Z = true) (via : Via Z R0 O n d) {a : Addr} {v : Value} (F : Fld Z h a O n d v) (hd : decode bytes pc = .ok (.getfield index, 3)) (r : ∀ T', Cx p l e R s m args below meth c Z bytes ml own ret mname n0 T' h cells slots → Run p e below m K T' pc' L (v :: st)) (q : pc + 3 = pc' := by rfl) : Run p e below m K T pc L (.ref a :: st) := by
  obtain ⟨⟨locs, X, N⟩, e0, hx, hby, hml, hZ, hown, r1⟩ := X
  subst q
  obtain ⟨T', X', e', stp⟩ := getF X hx hZ hown w via e0 F (g := mkF m pc L (.ref a :: st)) rfl rfl (hb hby hd)
  exact Run.of stp (r T' ⟨⟨locs, X', N⟩, e', hx, hby, hml, hZ, hown, r1⟩)
theorem r_getstatic (pc' : Nat) (X : Cx p l e R s m args below meth c Z bytes ml own ret mname n0 T h cells slots) {a0 : Array Value} {R0 O n d host : String} {index : Nat} (w : (Jvm.Cond.fieldLink own index R0 n d).before a0 Z = true ∨ (Jvm.Cond.fieldLinkNest own index R0 n d host).before a0 Z = true) (via : Via Z R0 O n d) {v : Value} (F : Sta Z h O n d v) (hd : decode bytes pc = .ok (.getstatic index, 3)) (r : ∀ T', Cx p l e R s m args below meth c Z bytes ml own ret mname n0 T' h cells slots → Run p e below m K T' pc' L (v :: st)) (q : pc + 3 = pc' := by rfl) : Run p e below m K T pc L st := by
  obtain ⟨⟨locs, X, N⟩, e0, hx, hby, hml, hZ, hown, r1⟩ := X
  subst q
  obtain ⟨T', X', e', stp⟩ := getS2 X hx hZ hown w via e0 F (g := mkF m pc L st) rfl (hb hby hd)
  exact Run.of stp (r T' ⟨⟨locs, X', N⟩, e', hx, hby, hml, hZ, hown, r1⟩)
theorem r_putfield (pc' : Nat) (X : Cx p l e R s m args below meth c Z bytes ml own ret mname n0 T h cells slots) {a0 : Array Value} {R0 O n d host C : String} {index kk : Nat} {ty : FieldType} (w : (Jvm.Cond.fieldLink own index R0 n d).before a0 Z = true ∨ (Jvm.Cond.fieldLinkNest own index R0 n d host).before a0 Z = true) (via : Via Z R0 O n d) {a : Addr} {v old : Value} (F : Fld Z h a O n d old) (E : Exa Z h a C) (Lw : (Jvm.Cond.lays C O n d).before a0 Z = true ∨ ((Jvm.Cond.laysFinal C O n d).before a0 Z = true ∧ own = O ∧ mname = "<init>")) (wi : (Jvm.Cond.instantiable C kk).before a0 Z = true) (hty : parseFieldDescriptor d = some ty) (hn : narrow ty v = v) (hf : fits ty v = true) (ga : n0 ≤ a) (hd : decode bytes pc = .ok (.putfield index, 3)) (r : ∀ T' h', Wr h h' a (Jvm.RoadKit.slotOf Z O n d) v → Cx p l e R s m args below meth c Z bytes ml own ret mname n0 T' h' cells slots → Run p e below m K T' pc' L st) (q : pc + 3 = pc' := by rfl) : Run p e below m K T pc L (v :: .ref a :: st) := by
  obtain ⟨⟨locs, X, N⟩, e0, hx, hby, hml, hZ, hown, hret, hnm, hlk, hsz⟩ := X
  subst q
  obtain ⟨T', h', X', e', W', stp⟩ := putF X hx hZ hown w via e0 F E (Lw.imp id fun q => ⟨q.1, q.2.1, hnm.trans q.2.2⟩) wi hty hn hf (g := mkF m pc L (v :: .ref a :: st)) rfl rfl (hb hby hd)
  exact Run.of stp (r T' h' W' ⟨⟨_, X', Fr.snoc X' N ga⟩, e', hx, hby, hml, hZ, hown, hret, hnm, hlk, by rw [W'.size]; exact hsz⟩)
theorem r_putfieldN (pc' : Nat) (X : Cx p l e R s m args below meth c Z bytes ml own ret mname n0 T h cells slots) {a0 : Array Value} {R0 O n d C : String} {index kk : Nat} {ty : FieldType} (w : (Jvm.Cond.fieldLink own index R0 n d).before a0 Z = true) (via : Via Z R0 O n d) {a : Addr} {v v' old : Value} (F : Fld Z h a O n d old) (E : Exa Z h a C) (Lw : (Jvm.Cond.lays C O n d).before a0 Z = true ∨ ((Jvm.Cond.laysFinal C O n d).before a0 Z = true ∧ own = O ∧ mname = "<init>")) (wi : (Jvm.Cond.instantiable C kk).before a0 Z = true) (hty : parseFieldDescriptor d = some ty) (hn : narrow ty v = v') (hf : fits ty v' = true) (ga : n0 ≤ a) (hd : decode bytes pc = .ok (.putfield index, 3)) (r : ∀ T' h', Wr h h' a (Jvm.RoadKit.slotOf Z O n d) v' → Cx p l e R s m args below meth c Z bytes ml own ret mname n0 T' h' cells slots → Run p e below m K T' pc' L st) (q : pc + 3 = pc' := by rfl) : Run p e below m K T pc L (v :: .ref a :: st) := by
  obtain ⟨⟨locs, X, N⟩, e0, hx, hby, hml, hZ, hown, hret, hnm, hlk, hsz⟩ := X
  subst q
  obtain ⟨T', h', X', e', W', stp⟩ := putFN X hx hZ hown w via e0 F E (Lw.imp id fun q => ⟨q.1, q.2.1, hnm.trans q.2.2⟩) wi hty hn hf (g := mkF m pc L (v :: .ref a :: st)) rfl rfl (hb hby hd)
  exact Run.of stp (r T' h' W' ⟨⟨_, X', Fr.snoc X' N ga⟩, e', hx, hby, hml, hZ, hown, hret, hnm, hlk, by rw [W'.size]; exact hsz⟩)
theorem r_new (pc' : Nat) (X : Cx p l e R s m args below meth c Z bytes ml own ret mname n0 T h cells slots) {a0 : Array Value} {C : String} {index n : Nat} (w : (Jvm.Cond.classLink own index C).before a0 Z = true) (wi : (Jvm.Cond.instantiable C n).before a0 Z = true) (wz : (Jvm.Cond.initialized C).before a0 Z = true) (hd : decode bytes pc = .ok (.new index, 3)) (hc : cells + 1 ≤ R.cells) (hl : slots + n ≤ R.slots) (r : ∀ T' h' b, b = h.size → n0 ≤ b → Ext h h' → Exa Z h' b C → (∀ {O nm d : String} {ty : FieldType}, Laid Z a0 C O nm d → parseFieldDescriptor d = some ty → Fld Z h' b O nm d (defaultValue ty)) → Cx p l e R s m args below meth c Z bytes ml own ret mname n0 T' h' (cells + 1) (slots + n) → Run p e below m K T' pc' L (.ref b :: st)) (q : pc + 3 = pc' := by rfl) : Run p e below m K T pc L st := by
  obtain ⟨⟨locs, X, N⟩, e0, hx, hby, hml, hZ, hown, hret, hnm, hlk, hsz⟩ := X
  subst q
  obtain ⟨T', h', X', e', E', A', D', -, stp⟩ := newO X hx hZ hown w wi wz e0 (g := mkF m pc L st) rfl (hb hby hd) hc hl
  exact Run.of stp (r T' h' h.size rfl hsz E' A' D' ⟨⟨_, X', N⟩, e', hx, hby, hml, hZ, hown, hret, hnm, hlk, Nat.le_trans hsz E'.1⟩)
theorem r_newarray (pc' : Nat) (X : Cx p l e R s m args below meth c Z bytes ml own ret mname n0 T h cells slots) {a0 : Array Value} {aty : ArrayType} {z : Int32} (n cap : Nat) (w : (Jvm.Cond.arrayClass (newarray.typeOf aty)).before a0 Z = true) (hd : decode bytes pc = .ok (.newarray aty, 2)) (hz : z.toInt = (n : Int)) (hcap : n ≤ cap) (hb8 : cap * 8 ≤ 536870912) (hc : cells + 1 ≤ R.cells) (hl : slots + cap ≤ R.slots) (r : ∀ T' h' b, b = h.size → n0 ≤ b → Ext h h' → AF Z h' b (newarray.typeOf aty) n (fun _ => defaultValue (newarray.typeOf aty)) → Cx p l e R s m args below meth c Z bytes ml own ret mname n0 T' h' (cells + 1) (slots + cap) → Run p e below m K T' pc' L (.ref b :: st)) (q : pc + 2 = pc' := by rfl) : Run p e below m K T pc L (.int z :: st) := by
  obtain ⟨⟨locs, X, N⟩, e0, hx, hby, hml, hZ, hown, hret, hnm, hlk, hsz⟩ := X
  subst q
  have hz0 : ¬ z < 0 := by rw [Int32.lt_iff_toInt_lt]; have : (0 : Int32).toInt = 0 := rfl; omega
  have hzn : z.toNatClampNeg = n := by show z.toInt.toNat = n; omega
  have hzl := z.toInt_lt
  obtain ⟨T', h', cA, X', e', E', A', stp⟩ := newP X hx hZ w e0 (g := mkF m pc L (.int z :: st)) rfl (hb hby hd) rfl hz0 (cap := cap) (by rw [hzn]; exact hcap) hb8 hc hl
  refine Run.of stp (r T' h' h.size rfl hsz E' ⟨_, A', by rw [sz_new, hzn], by omega, fun j hj => ?_⟩ ⟨⟨_, X', N⟩, e', hx, hby, hml, hZ, hown, hret, hnm, hlk, Nat.le_trans hsz E'.1⟩)
  simp [newA, hzn, hj]
theorem r_arraylength (pc' : Nat) (X : Cx p l e R s m args below meth c Z bytes ml own ret mname n0 T h cells slots) {a : Addr} {ty : FieldType} {n : Nat} {f : Nat → Value} (A : AF Z h a ty n f) (z : Int32) (hz : z.toInt = (n : Int)) (hd : decode bytes pc = .ok (.arraylength, 1)) (r : Run p e below m K T pc' L (.int z :: st)) (q : pc + 1 = pc' := by rfl) : Run p e below m K T pc L (.ref a :: st) := by
  obtain ⟨⟨locs, X, N⟩, e0, hx, hby, hml, hZ, hown, r1⟩ := X
  subst q hby
  obtain ⟨cl, A, S, q, -⟩ := A
  have ez : cl.slots.size.toInt32 = z := by rw [S]; apply Int32.toInt_inj.mp; rw [hz]; exact len_toInt q
  rw [← ez] at r
  exact Run.of (fun t k => X.arraylength hx (by rw [e0]; exact A.1) (State.isArrayOf_alike hZ.alike A.2.1) (g := mkF m pc L (.ref a :: st)) rfl rfl hd _ k) r
theorem r_iaload (pc' : Nat) (X : Cx p l e R s m args below meth c Z bytes ml own ret mname n0 T h cells slots) {a : Addr} {n : Nat} {f : Nat → Value} (A : AF Z h a .int n f) {j : Int32} {i : Nat} {v : Value} (hj : j.toInt = (i : Int)) (hi : i < n) (hv : f i = v) (hd : decode bytes pc = .ok (.iaload, 1)) (r : Run p e below m K T pc' L (v :: st)) (q : pc + 1 = pc' := by rfl) : Run p e below m K T pc L (.int j :: .ref a :: st) := by
  obtain ⟨⟨locs, X, N⟩, e0, hx, hby, hml, hZ, hown, r1⟩ := X
  subst q hby
  obtain ⟨cl, A, S, -, H⟩ := A
  obtain ⟨h1, h2⟩ := idx_of hj (S ▸ hi)
  exact Run.of (fun t k => X.iaload hx (j := j) (v := v) (by rw [e0]; exact A.1) (State.isArrayOf_alike hZ.alike A.2.1) A.2.2 h1 (by rw [h2, H i hi, hv]) (g := mkF m pc L (.int j :: .ref a :: st)) rfl rfl hd _ k) r
theorem r_laload (pc' : Nat) (X : Cx p l e R s m args below meth c Z bytes ml own ret mname n0 T h cells slots) {a : Addr} {n : Nat} {f : Nat → Value} (A : AF Z h a .long n f) {j : Int32} {i : Nat} {v : Value} (hj : j.toInt = (i : Int)) (hi : i < n) (hv : f i = v) (hd : decode bytes pc = .ok (.laload, 1)) (r : Run p e below m K T pc' L (v :: st)) (q : pc + 1 = pc' := by rfl) : Run p e below m K T pc L (.int j :: .ref a :: st) := by
  obtain ⟨⟨locs, X, N⟩, e0, hx, hby, hml, hZ, hown, r1⟩ := X
  subst q hby
  obtain ⟨cl, A, S, -, H⟩ := A
  obtain ⟨h1, h2⟩ := idx_of hj (S ▸ hi)
  exact Run.of (fun t k => X.laload hx (j := j) (v := v) (by rw [e0]; exact A.1) (State.isArrayOf_alike hZ.alike A.2.1) A.2.2 h1 (by rw [h2, H i hi, hv]) (g := mkF m pc L (.int j :: .ref a :: st)) rfl rfl hd _ k) r
theorem r_caload (pc' : Nat) (X : Cx p l e R s m args below meth c Z bytes ml own ret mname n0 T h cells slots) {a : Addr} {n : Nat} {f : Nat → Value} (A : AF Z h a .char n f) {j : Int32} {i : Nat} {v : Value} (hj : j.toInt = (i : Int)) (hi : i < n) (hv : f i = v) (hd : decode bytes pc = .ok (.caload, 1)) (r : Run p e below m K T pc' L (v :: st)) (q : pc + 1 = pc' := by rfl) : Run p e below m K T pc L (.int j :: .ref a :: st) := by
  obtain ⟨⟨locs, X, N⟩, e0, hx, hby, hml, hZ, hown, r1⟩ := X
  subst q hby
  obtain ⟨cl, A, S, -, H⟩ := A
  obtain ⟨h1, h2⟩ := idx_of hj (S ▸ hi)
  exact Run.of (fun t k => X.caload hx (j := j) (v := v) (by rw [e0]; exact A.1) (State.isArrayOf_alike hZ.alike A.2.1) A.2.2 h1 (by rw [h2, H i hi, hv]) (g := mkF m pc L (.int j :: .ref a :: st)) rfl rfl hd _ k) r
theorem r_baloadB (pc' : Nat) (X : Cx p l e R s m args below meth c Z bytes ml own ret mname n0 T h cells slots) {a : Addr} {n : Nat} {f : Nat → Value} (A : AF Z h a .byte n f) {j : Int32} {i : Nat} {v : Value} (hj : j.toInt = (i : Int)) (hi : i < n) (hv : f i = v) (hd : decode bytes pc = .ok (.baload, 1)) (r : Run p e below m K T pc' L (v :: st)) (q : pc + 1 = pc' := by rfl) : Run p e below m K T pc L (.int j :: .ref a :: st) := by
  obtain ⟨⟨locs, X, N⟩, e0, hx, hby, hml, hZ, hown, r1⟩ := X
  subst q hby
  obtain ⟨cl, A, S, -, H⟩ := A
  obtain ⟨h1, h2⟩ := idx_of hj (S ▸ hi)
  exact Run.of (fun t k => X.baloadBytes hx (j := j) (v := v) (by rw [e0]; exact A.1) (State.isArrayOf_alike hZ.alike A.2.1) A.2.2 h1 (by rw [h2, H i hi, hv]) (g := mkF m pc L (.int j :: .ref a :: st)) rfl rfl hd _ k) r
theorem r_baloadZ (pc' : Nat) (X : Cx p l e R s m args below meth c Z bytes ml own ret mname n0 T h cells slots) {a : Addr} {n : Nat} {f : Nat → Value} (A : AF Z h a .boolean n f) {j : Int32} {i : Nat} {v : Value} (hj : j.toInt = (i : Int)) (hi : i < n) (hv : f i = v) (hd : decode bytes pc = .ok (.baload, 1)) (r : Run p e below m K T pc' L (v :: st)) (q : pc + 1 = pc' := by rfl) : Run p e below m K T pc L (.int j :: .ref a :: st) := by
  obtain ⟨⟨locs, X, N⟩, e0, hx, hby, hml, hZ, hown, r1⟩ := X
  subst q hby
  obtain ⟨cl, A, S, -, H⟩ := A
  obtain ⟨h1, h2⟩ := idx_of hj (S ▸ hi)
  exact Run.of (fun t k => X.baloadBooleans hx (j := j) (v := v) (by rw [e0]; exact A.1) (State.isArrayOf_alike hZ.alike A.2.1) A.2.2 h1 (by rw [h2, H i hi, hv]) (g := mkF m pc L (.int j :: .ref a :: st)) rfl rfl hd _ k) r
theorem r_daload (pc' : Nat) (X : Cx p l e R s m args below meth c Z bytes ml own ret mname n0 T h cells slots) {a : Addr} {n : Nat} {f : Nat → Value} (A : AF Z h a .double n f) {j : Int32} {i : Nat} {v : Value} (hj : j.toInt = (i : Int)) (hi : i < n) (hv : f i = v) (hd : decode bytes pc = .ok (.daload, 1)) (r : Run p e below m K T pc' L (v :: st)) (q : pc + 1 = pc' := by rfl) : Run p e below m K T pc L (.int j :: .ref a :: st) := by
  obtain ⟨⟨locs, X, N⟩, e0, hx, hby, hml, hZ, hown, r1⟩ := X
  subst q hby
  obtain ⟨cl, A, S, -, H⟩ := A
  obtain ⟨h1, h2⟩ := idx_of hj (S ▸ hi)
  exact Run.of (fun t k => X.daload hx (j := j) (v := v) (by rw [e0]; exact A.1) (State.isArrayOf_alike hZ.alike A.2.1) A.2.2 h1 (by rw [h2, H i hi, hv]) (g := mkF m pc L (.int j :: .ref a :: st)) rfl rfl hd _ k) r
theorem r_iastore (pc' : Nat) (X : Cx p l e R s m args below meth c Z bytes ml own ret mname n0 T h cells slots) {a : Addr} {n : Nat} {f : Nat → Value} (A : AF Z h a .int n f) {j : Int32} {i : Nat} {x : Int32} {v : Value} (hj : j.toInt = (i : Int)) (hi : i < n) (hv : (.int x) = v) (ga : n0 ≤ a) (hd : decode bytes pc = .ok (.iastore, 1)) (r : ∀ T' h', Wr h h' a i v → Cx p l e R s m args below meth c Z bytes ml own ret mname n0 T' h' cells slots → Run p e below m K T' pc' L st) (q : pc + 1 = pc' := by rfl) : Run p e below m K T pc L ((.int x) :: .int j :: .ref a :: st) := by
  obtain ⟨⟨locs, X, N⟩, e0, hx, hby, hml, hZ, hown, hret, hnm, hlk, hsz⟩ := X
  subst q hv
  obtain ⟨cl, A, S, -, H⟩ := A
  obtain ⟨h1, h2⟩ := idx_of hj (S ▸ hi)
  obtain ⟨T', h', X', e', W', stp⟩ := stI X hx hZ e0 A (j := j) h1 (g := mkF m pc L ((.int x) :: .int j :: .ref a :: st)) rfl rfl (hb hby hd)
  exact Run.of stp (r T' h' (h2 ▸ W') ⟨⟨_, X', Fr.snoc X' N ga⟩, e', hx, hby, hml, hZ, hown, hret, hnm, hlk, by rw [W'.size]; exact hsz⟩)
theorem r_lastore (pc' : Nat) (X : Cx p l e R s m args below meth c Z bytes ml own ret mname n0 T h cells slots) {a : Addr} {n : Nat} {f : Nat → Value} (A : AF Z h a .long n f) {j : Int32} {i : Nat} {x : Int64} {v : Value} (hj : j.toInt = (i : Int)) (hi : i < n) (hv : (.long x) = v) (ga : n0 ≤ a) (hd : decode bytes pc = .ok (.lastore, 1)) (r : ∀ T' h', Wr h h' a i v → Cx p l e R s m args below meth c Z bytes ml own ret mname n0 T' h' cells slots → Run p e below m K T' pc' L st) (q : pc + 1 = pc' := by rfl) : Run p e below m K T pc L ((.long x) :: .int j :: .ref a :: st) := by
  obtain ⟨⟨locs, X, N⟩, e0, hx, hby, hml, hZ, hown, hret, hnm, hlk, hsz⟩ := X
  subst q hv
  obtain ⟨cl, A, S, -, H⟩ := A
  obtain ⟨h1, h2⟩ := idx_of hj (S ▸ hi)
  obtain ⟨T', h', X', e', W', stp⟩ := stJ X hx hZ e0 A (j := j) h1 (g := mkF m pc L ((.long x) :: .int j :: .ref a :: st)) rfl rfl (hb hby hd)
  exact Run.of stp (r T' h' (h2 ▸ W') ⟨⟨_, X', Fr.snoc X' N ga⟩, e', hx, hby, hml, hZ, hown, hret, hnm, hlk, by rw [W'.size]; exact hsz⟩)
theorem r_castore (pc' : Nat) (X : Cx p l e R s m args below meth c Z bytes ml own ret mname n0 T h cells slots) {a : Addr} {n : Nat} {f : Nat → Value} (A : AF Z h a .char n f) {j : Int32} {i : Nat} {x : Int32} {v : Value} (hj : j.toInt = (i : Int)) (hi : i < n) (hv : (.int (nar .char x)) = v) (ga : n0 ≤ a) (hd : decode bytes pc = .ok (.castore, 1)) (r : ∀ T' h', Wr h h' a i v → Cx p l e R s m args below meth c Z bytes ml own ret mname n0 T' h' cells slots → Run p e below m K T' pc' L st) (q : pc + 1 = pc' := by rfl) : Run p e below m K T pc L ((.int x) :: .int j :: .ref a :: st) := by
  obtain ⟨⟨locs, X, N⟩, e0, hx, hby, hml, hZ, hown, hret, hnm, hlk, hsz⟩ := X
  subst q hv
  obtain ⟨cl, A, S, -, H⟩ := A
  obtain ⟨h1, h2⟩ := idx_of hj (S ▸ hi)
  obtain ⟨T', h', X', e', W', stp⟩ := stC X hx hZ e0 A (j := j) h1 (g := mkF m pc L ((.int x) :: .int j :: .ref a :: st)) rfl rfl (hb hby hd)
  exact Run.of stp (r T' h' (h2 ▸ W') ⟨⟨_, X', Fr.snoc X' N ga⟩, e', hx, hby, hml, hZ, hown, hret, hnm, hlk, by rw [W'.size]; exact hsz⟩)
theorem r_bastoreB (pc' : Nat) (X : Cx p l e R s m args below meth c Z bytes ml own ret mname n0 T h cells slots) {a : Addr} {n : Nat} {f : Nat → Value} (A : AF Z h a .byte n f) {j : Int32} {i : Nat} {x : Int32} {v : Value} (hj : j.toInt = (i : Int)) (hi : i < n) (hv : (.int (nar .byte x)) = v) (ga : n0 ≤ a) (hd : decode bytes pc = .ok (.bastore, 1)) (r : ∀ T' h', Wr h h' a i v → Cx p l e R s m args below meth c Z bytes ml own ret mname n0 T' h' cells slots → Run p e below m K T' pc' L st) (q : pc + 1 = pc' := by rfl) : Run p e below m K T pc L ((.int x) :: .int j :: .ref a :: st) := by
  obtain ⟨⟨locs, X, N⟩, e0, hx, hby, hml, hZ, hown, hret, hnm, hlk, hsz⟩ := X
  subst q hv
  obtain ⟨cl, A, S, -, H⟩ := A
  obtain ⟨h1, h2⟩ := idx_of hj (S ▸ hi)
  obtain ⟨T', h', X', e', W', stp⟩ := stB X hx hZ e0 A (j := j) h1 (g := mkF m pc L ((.int x) :: .int j :: .ref a :: st)) rfl rfl (hb hby hd)
  exact Run.of stp (r T' h' (h2 ▸ W') ⟨⟨_, X', Fr.snoc X' N ga⟩, e', hx, hby, hml, hZ, hown, hret, hnm, hlk, by rw [W'.size]; exact hsz⟩)
theorem r_bastoreZ (pc' : Nat) (X : Cx p l e R s m args below meth c Z bytes ml own ret mname n0 T h cells slots) {a : Addr} {n : Nat} {f : Nat → Value} (A : AF Z h a .boolean n f) {j : Int32} {i : Nat} {x : Int32} {v : Value} (hj : j.toInt = (i : Int)) (hi : i < n) (hv : (.int (nar .boolean x)) = v) (ga : n0 ≤ a) (hd : decode bytes pc = .ok (.bastore, 1)) (r : ∀ T' h', Wr h h' a i v → Cx p l e R s m args below meth c Z bytes ml own ret mname n0 T' h' cells slots → Run p e below m K T' pc' L st) (q : pc + 1 = pc' := by rfl) : Run p e below m K T pc L ((.int x) :: .int j :: .ref a :: st) := by
  obtain ⟨⟨locs, X, N⟩, e0, hx, hby, hml, hZ, hown, hret, hnm, hlk, hsz⟩ := X
  subst q hv
  obtain ⟨cl, A, S, -, H⟩ := A
  obtain ⟨h1, h2⟩ := idx_of hj (S ▸ hi)
  obtain ⟨T', h', X', e', W', stp⟩ := stZ X hx hZ e0 A (j := j) h1 (g := mkF m pc L ((.int x) :: .int j :: .ref a :: st)) rfl rfl (hb hby hd)
  exact Run.of stp (r T' h' (h2 ▸ W') ⟨⟨_, X', Fr.snoc X' N ga⟩, e', hx, hby, hml, hZ, hown, hret, hnm, hlk, by rw [W'.size]; exact hsz⟩)
theorem r_dastore (pc' : Nat) (X : Cx p l e R s m args below meth c Z bytes ml own ret mname n0 T h cells slots) {a : Addr} {n : Nat} {f : Nat → Value} (A : AF Z h a .double n f) {j : Int32} {i : Nat} {x : UInt64} {v : Value} (hj : j.toInt = (i : Int)) (hi : i < n) (hv : (.double x) = v) (ga : n0 ≤ a) (hd : decode bytes pc = .ok (.dastore, 1)) (r : ∀ T' h', Wr h h' a i v → Cx p l e R s m args below meth c Z bytes ml own ret mname n0 T' h' cells slots → Run p e below m K T' pc' L st) (q : pc + 1 = pc' := by rfl) : Run p e below m K T pc L ((.double x) :: .int j :: .ref a :: st) := by
  obtain ⟨⟨locs, X, N⟩, e0, hx, hby, hml, hZ, hown, hret, hnm, hlk, hsz⟩ := X
  subst q hv
  obtain ⟨cl, A, S, -, H⟩ := A
  obtain ⟨h1, h2⟩ := idx_of hj (S ▸ hi)
  obtain ⟨T', h', X', e', W', stp⟩ := stD X hx hZ e0 A (j := j) h1 (g := mkF m pc L ((.double x) :: .int j :: .ref a :: st)) rfl rfl (hb hby hd)
  exact Run.of stp (r T' h' (h2 ▸ W') ⟨⟨_, X', Fr.snoc X' N ga⟩, e', hx, hby, hml, hZ, hown, hret, hnm, hlk, by rw [W'.size]; exact hsz⟩)
theorem r_initO (pc' : Nat) (X : Cx p l e R s m args below meth c Z bytes ml own ret mname n0 T h cells slots) {a0 : Array Value} {idx : Nat} (w1 : (Jvm.Cond.methodLink own idx Lib.objectInit).before a0 Z = true) (w2 : (Jvm.Cond.instanceMethod Lib.objectInit).before a0 Z = true) (w3 : (Jvm.Cond.code Lib.objectInit ⟨#[0xb1]⟩ 1 none).before a0 Z = true) {a : Addr} (hd : decode bytes pc = .ok (.invokespecial idx, 3)) (hsize : L.size = ml) (hf : 1 ≤ R.frames) (W : Nat) (hW : (st.map fun v => v.category).sum ≤ W) (hl : W + 12 ≤ R.locals) (r : ∀ T', Cx p l e R s m args below meth c Z bytes ml own ret mname n0 T' h cells slots → Run p e below m K T' pc' L st) (q : pc + 3 = pc' := by rfl) : Run p e below m K T pc L (.ref a :: st) := by
  obtain ⟨⟨locs, X, N⟩, e0, hx, hby, hml, hZ, hown, r1⟩ := X
  subst q
  obtain ⟨T', X', e', stp⟩ := initO X hx hZ hown w1 w2 w3 e0 (g := mkF m pc L (.ref a :: st)) rfl (by rw [hml]; exact hsize) rfl (hb hby hd) hf (W := W) (by show 2 * 0 + _ ≤ _; omega) hl
  exact Run.of stp (r T' ⟨⟨_, X', N⟩, e', hx, hby, hml, hZ, hown, r1⟩)
theorem met_of {l : Launch} {Z : State} {n0 : Nat} {ws : List Jvm.Cond} {y : MethodName} {bytes : ByteArray} {ml : Nat} {ret : Option FieldType} {rm : Room} {as : Array Value} {h0 : Heap} {Q : Option Value → Heap → Prop} {L0 : Array Slot} (hpl : plainFor y = true) (hn0 : n0 ≤ h0.size) (ef : ∀ m, entryFrame m as ml = mkF m 0 L0 [])
    (body : ∀ p e s m below meth c T, s.heap = h0 → Cx p l e rm s m as below meth c Z bytes ml y.cls ret y.name n0 T h0 0 0 → Run p e below m (Fin1 below s n0 Q rm.cells rm.slots) T 0 L0 []) : Met1 l Z n0 ws y bytes ml ret rm as h0 Q := by
  refine MetFree.of_bodySF hpl hisR ?_
  intro p e s m args below meth c s₁ Bd hml0 hP hK
  obtain ⟨rfl, hZ, hh⟩ := hP
  have hlk : meth.locks = false := BodyLoose.notSynchronized Bd
  obtain ⟨u, h1, h2, o, h3, h4⟩ := body p e s m below meth c s₁ hh ⟨⟨[], Stand.of_body Bd, Fr.nil n0⟩, by rw [← hh, Bd.state]; rfl, Bd.exec, Bd.bytes, hml0, hZ, findClass_of_methodNamed Bd.named, Bd.returns, (name_of_methodNamed Bd.named Bd.method).1, hlk, hn0⟩
  exact ⟨u, o, castTop (ef m) h1, h2, h3, h4⟩
theorem fin_of {Q : Option Value → Heap → Prop} {cN sN : Nat} {v : Option Value} (X : Cx p l e R s m args below meth c Z bytes ml own ret mname n0 T h cells slots) (hc : cells ≤ cN) (hs : slots ≤ sN) (hQ : Q v h) (hv : ret = none → v = none) (stp : ∀ {T : State} {locs : List Loc} (X : Stand p l e R s m args below meth c T locs cells slots) (hx : p.tables.exec = Jvm.exec) (hret : meth.sig.returnType = ret) {fs : List Frame}, (∀ (f : JFrame) (acts : List Action), f.method = m → f.locked = none → f.entered = [] → (doReturn e (T.setTop f) acts v).1 = T.setFrames fs) → Steps p.tables e below (T.setTop (mkF m pc L st)) (T.setFrames fs)) : Run p e below m (Fin1 below s n0 Q cN sN) T pc L st := by
  obtain ⟨⟨locs, X, N⟩, e0, hx, hby, hml, hZ, hown, hret, hnm, hlk, hsz⟩ := X
  obtain ⟨fs, hr, hrun, hended, hW, hsame⟩ := X.leave (v := v) (fun q => hv (hret.symm.trans q)) hlk
  refine ⟨_, stp X hx hret hr, hrun, _, hended, v, locs, rfl, ⟨?_, N, ?_⟩, ⟨_, rfl⟩, hW, hsame.mono hc hs⟩
  · show Q v T.heap; rw [e0]; exact hQ
  · show n0 ≤ T.heap.size; rw [e0]; exact hsz
theorem r_retZ {Q : Option Value → Heap → Prop} {cN sN : Nat} (X : Cx p l e R s m args below meth c Z bytes ml own (some .boolean) mname n0 T h cells slots) {x z : Int32} (hd : decode bytes pc = .ok (.ireturn, 1)) (hz : nar .boolean x = z) (hc : cells ≤ cN) (hs : slots ≤ sN) (hQ : Q (some (.int z)) h) : Run p e below m (Fin1 below s n0 Q cN sN) T pc L (.int x :: st) := by
  have hby := X.2.2.2.1
  subst hz
  exact fin_of X hc hs hQ (fun q => by cases q) (fun X hx hret fs hr => retN X hx (t := .boolean) hret (by simp) (hb hby hd) hr)
theorem r_retB {Q : Option Value → Heap → Prop} {cN sN : Nat} (X : Cx p l e R s m args below meth c Z bytes ml own (some .byte) mname n0 T h cells slots) {x z : Int32} (hd : decode bytes pc = .ok (.ireturn, 1)) (hz : nar .byte x = z) (hc : cells ≤ cN) (hs : slots ≤ sN) (hQ : Q (some (.int z)) h) : Run p e below m (Fin1 below s n0 Q cN sN) T pc L (.int x :: st) := by
  have hby := X.2.2.2.1
  subst hz
  exact fin_of X hc hs hQ (fun q => by cases q) (fun X hx hret fs hr => retN X hx (t := .byte) hret (by simp) (hb hby hd) hr)
theorem r_retC {Q : Option Value → Heap → Prop} {cN sN : Nat} (X : Cx p l e R s m args below meth c Z bytes ml own (some .char) mname n0 T h cells slots) {x z : Int32} (hd : decode bytes pc = .ok (.ireturn, 1)) (hz : nar .char x = z) (hc : cells ≤ cN) (hs : slots ≤ sN) (hQ : Q (some (.int z)) h) : Run p e below m (Fin1 below s n0 Q cN sN) T pc L (.int x :: st) := by
  have hby := X.2.2.2.1
  subst hz
  exact fin_of X hc hs hQ (fun q => by cases q) (fun X hx hret fs hr => retN X hx (t := .char) hret (by simp) (hb hby hd) hr)
theorem r_retS {Q : Option Value → Heap → Prop} {cN sN : Nat} (X : Cx p l e R s m args below meth c Z bytes ml own (some .short) mname n0 T h cells slots) {x z : Int32} (hd : decode bytes pc = .ok (.ireturn, 1)) (hz : nar .short x = z) (hc : cells ≤ cN) (hs : slots ≤ sN) (hQ : Q (some (.int z)) h) : Run p e below m (Fin1 below s n0 Q cN sN) T pc L (.int x :: st) := by
  have hby := X.2.2.2.1
  subst hz
  exact fin_of X hc hs hQ (fun q => by cases q) (fun X hx hret fs hr => retN X hx (t := .short) hret (by simp) (hb hby hd) hr)
theorem r_retI {Q : Option Value → Heap → Prop} {cN sN : Nat} (X : Cx p l e R s m args below meth c Z bytes ml own (some .int) mname n0 T h cells slots) {x : Int32} (hd : decode bytes pc = .ok (.ireturn, 1)) (hc : cells ≤ cN) (hs : slots ≤ sN) (hQ : Q (some (.int x)) h) : Run p e below m (Fin1 below s n0 Q cN sN) T pc L (.int x :: st) := by
  have hby := X.2.2.2.1
  exact fin_of X hc hs hQ (fun q => by cases q) (fun X hx hret fs hr => retOut X hx (t := .int) hret rfl (Or.inl ⟨rfl, Or.inl rfl, _, rfl⟩) (hb hby hd) hr)
theorem r_retJ {Q : Option Value → Heap → Prop} {cN sN : Nat} (X : Cx p l e R s m args below meth c Z bytes ml own (some .long) mname n0 T h cells slots) {x : Int64} (hd : decode bytes pc = .ok (.lreturn, 1)) (hc : cells ≤ cN) (hs : slots ≤ sN) (hQ : Q (some (.long x)) h) : Run p e below m (Fin1 below s n0 Q cN sN) T pc L (.long x :: st) := by
  have hby := X.2.2.2.1
  exact fin_of X hc hs hQ (fun q => by cases q) (fun X hx hret fs hr => retOut X hx (t := .long) hret rfl (Or.inr (Or.inl ⟨rfl, rfl, _, rfl⟩)) (hb hby hd) hr)
theorem r_retA {Q : Option Value → Heap → Prop} {cN sN : Nat} {t : FieldType} (X : Cx p l e R s m args below meth c Z bytes ml own (some t) mname n0 T h cells slots) {x : Value} (hd : decode bytes pc = .ok (.areturn, 1)) (ht : t.isReference = true) (hn : narrow t x = x) (hx : x.isRef = true) (hc : cells ≤ cN) (hs : slots ≤ sN) (hQ : Q (some x) h) : Run p e below m (Fin1 below s n0 Q cN sN) T pc L (x :: st) := by
  have hby := X.2.2.2.1
  exact fin_of X hc hs hQ (fun q => by cases q) (fun X hx' hret fs hr => retOut X hx' (t := t) hret hn (Or.inr (Or.inr (Or.inr (Or.inr ⟨rfl, ht, hx⟩)))) (hb hby hd) hr)
theorem r_retV {Q : Option Value → Heap → Prop} {cN sN : Nat} (X : Cx p l e R s m args below meth c Z bytes ml own none mname n0 T h cells slots) (hd : decode bytes pc = .ok (.return_, 1)) (hc : cells ≤ cN) (hs : slots ≤ sN) (hQ : Q none h) : Run p e below m (Fin1 below s n0 Q cN sN) T pc L [] := by
  have hby := X.2.2.2.1
  exact fin_of X hc hs hQ (fun _ => rfl) (fun X hx hret fs hr => X.returnOut hx hret (hb hby hd) hr)
theorem r_callS (pc' : Nat) (X : Cx p l e R s m args below meth c Z bytes ml own ret mname n0 T h cells slots) {a0 : Array Value} {y : MethodName} {by' : ByteArray} {ml' : Nat} {ret' : Option FieldType} {rm : Room} {as : Array Value} {Q : Option Value → Heap → Prop} {index : Nat}  (hM : Met1 l Z n0 [] y by' ml' ret' rm as h Q) (w1 : (Jvm.Cond.methodLink own index y).before a0 Z = true) (w2 : (Jvm.Cond.static y).before a0 Z = true) (wc : (Jvm.Cond.code y by' ml' ret').before a0 Z = true) (wz : (Jvm.Cond.initialized y.cls).before a0 Z = true) (hy : y.cls ≠ "java/lang/invoke/MethodHandle" ∧ y.cls ≠ "java/lang/invoke/VarHandle") {ps : List FieldType} {rt : Option FieldType} (pd : parseMethodDescriptor y.desc = some ⟨ps, rt⟩) (argsL : List Value) (has : argsL.toArray = as) (hln : argsL.length = ps.length) (W : Nat) (hW : (st.map fun v => v.category).sum ≤ W) (hsize : L.size = ml) (hf : rm.frames + 1 ≤ R.frames) (hl : W + (ml' + 11) + rm.locals ≤ R.locals) (hc : cells + rm.cells ≤ R.cells) (hs : slots + rm.slots ≤ R.slots) (hd : decode bytes pc = .ok (.invokestatic index, 3)) (r : ∀ T' h' v, Q v h' → Cx p l e R s m args below meth c Z bytes ml own ret mname n0 T' h' (cells + rm.cells) (slots + rm.slots) → Run p e below m K T' pc' L (v.toList ++ st)) (q : pc + 3 = pc' := by rfl) {S : List Value} (hS : S = argsL.reverse ++ st := by rfl) : Run p e below m K T pc L S := by
  obtain ⟨⟨locs, X, N⟩, e0, hx, hby, hml, hZ, hown, hret, hnm, hlk, hsz⟩ := X
  subst q has hS
  obtain ⟨v, _, ⟨T', L', k', n'⟩, -, X', ⟨Lc, hQ', l', y', z'⟩, stp⟩ := Jvm.LawKit.callS X hx (y := y) hown (mvT hZ w1) (mvT hZ w2) (mvT hZ wz) (mvT hZ wc) hy (backOf (W := W) (Q := fun v h' L => Q v h' ∧ Fr n0 L ∧ n0 ≤ h'.size) hM hZ wc wz hf hl) (g := mkF m pc L (argsL.reverse ++ st)) rfl (by rw [hml]; exact hsize) (argsL := argsL) (rest := st) (lenOf pd hln) rfl (by show 2 * 0 + _ ≤ _; omega) (hb hby hd) (fun _ _ => ⟨rfl, e0, hc, hs⟩)
  dsimp only [Pt.U, Pt.locs, Pt.cells, Pt.slots] at X' l' y' z' stp hQ'
  subst l' y' z'
  obtain ⟨hQ1, N1, hs1⟩ := hQ'
  exact Run.of stp (r T' _ v hQ1 ⟨⟨_, X', Fr.app N N1⟩, rfl, hx, hby, hml, hZ, hown, hret, hnm, hlk, hs1⟩)
theorem r_special (pc' : Nat) (X : Cx p l e R s m args below meth c Z bytes ml own ret mname n0 T h cells slots) {a0 : Array Value} {y : MethodName} {by' : ByteArray} {ml' : Nat} {ret' : Option FieldType} {rm : Room} {as : Array Value} {Q : Option Value → Heap → Prop} {index : Nat} {a : Addr} (hM : Met1 l Z n0 [] y by' ml' ret' rm as h Q) (hyn : y.name = "<init>") (hr0 : ret' = none) (w1 : (Jvm.Cond.methodLink own index y).before a0 Z = true) (w2 : (Jvm.Cond.instanceMethod y).before a0 Z = true) (wc : (Jvm.Cond.code y by' ml' ret').before a0 Z = true) (wz : (Jvm.Cond.initialized y.cls).before a0 Z = true) (hy : y.cls ≠ "java/lang/invoke/MethodHandle" ∧ y.cls ≠ "java/lang/invoke/VarHandle") {ps : List FieldType} {rt : Option FieldType} (pd : parseMethodDescriptor y.desc = some ⟨ps, rt⟩) (argsL : List Value) (has : (Value.ref a :: argsL).toArray = as) (hln : argsL.length = ps.length) (W : Nat) (hW : (st.map fun v => v.category).sum ≤ W) (hsize : L.size = ml) (hf : rm.frames + 1 ≤ R.frames) (hl : W + (ml' + 11) + rm.locals ≤ R.locals) (hc : cells + rm.cells ≤ R.cells) (hs : slots + rm.slots ≤ R.slots) (hd : decode bytes pc = .ok (.invokespecial index, 3)) (r : ∀ T' h' v, Q v h' → Cx p l e R s m args below meth c Z bytes ml own ret mname n0 T' h' (cells + rm.cells) (slots + rm.slots) → Run p e below m K T' pc' L (v.toList ++ st)) (q : pc + 3 = pc' := by rfl) {S : List Value} (hS : S = argsL.reverse ++ Value.ref a :: st := by rfl) : Run p e below m K T pc L S := by
  obtain ⟨⟨locs, X, N⟩, e0, hx, hby, hml, hZ, hown, hret, hnm, hlk, hsz⟩ := X
  subst q has hS
  subst hr0
  obtain ⟨v, _, ⟨T', L', k', n'⟩, -, X', ⟨Lc, hQ', l', y', z'⟩, stp⟩ := X.specialBack hx (y := y) hyn hown (mvT hZ w1) (mvT hZ w2) (mvT hZ wc) hy (backOf (W := W) (Q := fun v h' L => Q v h' ∧ Fr n0 L ∧ n0 ≤ h'.size) hM hZ wc wz hf hl) (g := mkF m pc L (argsL.reverse ++ .ref a :: st)) rfl (by rw [hml]; exact hsize) (Steps.refl _) (a := a) (argsL := argsL) (rest := st) (lenOf pd hln) rfl (by show 2 * 0 + _ ≤ _; omega) (hb hby hd) (fun _ _ => ⟨rfl, e0, hc, hs⟩)
  dsimp only [Pt.U, Pt.locs, Pt.cells, Pt.slots] at X' l' y' z' stp hQ'
  subst l' y' z'
  obtain ⟨hQ1, N1, hs1⟩ := hQ'
  exact Run.of (fun t k => stp.trans k) (r T' _ v hQ1 ⟨⟨_, X', Fr.app N N1⟩, rfl, hx, hby, hml, hZ, hown, hret, hnm, hlk, hs1⟩)
theorem r_virtual (pc' : Nat) (X : Cx p l e R s m args below meth c Z bytes ml own ret mname n0 T h cells slots) {a0 : Array Value} {y : MethodName} {by' : ByteArray} {ml' : Nat} {ret' : Option FieldType} {rm : Room} {as : Array Value} {Q : Option Value → Heap → Prop} {index : Nat} {a : Addr} {C : String} (hM : Met1 l Z n0 [] y by' ml' ret' rm as h Q) (E : Exa Z h a C) (w1 : (Jvm.Cond.methodLink own index y).before a0 Z = true) (w3 : (Jvm.Cond.declares y).before a0 Z = true) (wf : (Jvm.Cond.selects y.cls y y).before a0 Z = true) (w4 : (Jvm.Cond.selects C y y).before a0 Z = true) (w2 : (Jvm.Cond.instanceMethod y).before a0 Z = true) (wc : (Jvm.Cond.code y by' ml' ret').before a0 Z = true) (wz : (Jvm.Cond.initialized y.cls).before a0 Z = true) (hy : y.cls ≠ "java/lang/invoke/MethodHandle" ∧ y.cls ≠ "java/lang/invoke/VarHandle") {ps : List FieldType} {rt : Option FieldType} (pd : parseMethodDescriptor y.desc = some ⟨ps, rt⟩) (argsL : List Value) (has : (Value.ref a :: argsL).toArray = as) (hln : argsL.length = ps.length) (W : Nat) (hW : (st.map fun v => v.category).sum ≤ W) (hsize : L.size = ml) (hf : rm.frames + 1 ≤ R.frames) (hl : W + (ml' + 11) + rm.locals ≤ R.locals) (hc : cells + rm.cells ≤ R.cells) (hs : slots + rm.slots ≤ R.slots) (hd : decode bytes pc = .ok (.invokevirtual index, 3)) (r : ∀ T' h' v, Q v h' → Cx p l e R s m args below meth c Z bytes ml own ret mname n0 T' h' (cells + rm.cells) (slots + rm.slots) → Run p e below m K T' pc' L (v.toList ++ st)) (q : pc + 3 = pc' := by rfl) {S : List Value} (hS : S = argsL.reverse ++ Value.ref a :: st := by rfl) : Run p e below m K T pc L S := by
  obtain ⟨⟨locs, X, N⟩, e0, hx, hby, hml, hZ, hown, hret, hnm, hlk, hsz⟩ := X
  subst q has hS
  obtain ⟨cq, kq, qa, qb, qc⟩ := isOf hZ e0 E
  obtain ⟨v, _, ⟨T', L', k', n'⟩, -, X', ⟨Lc, hQ', l', y', z'⟩, stp⟩ := X.virtualBack hx (C := C) (y := y) (z := y) hown (mvT hZ w1) (mvT hZ w3) (notFace_of_selects (args := #[]) (mvT hZ wf)) (mvT hZ w4) (mvT hZ w2) hy (backOf (W := W) (Q := fun v h' L => Q v h' ∧ Fr n0 L ∧ n0 ≤ h'.size) hM hZ wc wz hf hl) qa qc (g := mkF m pc L (argsL.reverse ++ .ref a :: st)) rfl (by rw [hml]; exact hsize) (Steps.refl _) (argsL := argsL) (rest := st) (lenOf pd hln) rfl (by show 2 * 0 + _ ≤ _; omega) (hb hby hd) (fun _ _ => ⟨rfl, e0, hc, hs⟩)
  dsimp only [Pt.U, Pt.locs, Pt.cells, Pt.slots] at X' l' y' z' stp hQ'
  subst l' y' z'
  obtain ⟨hQ1, N1, hs1⟩ := hQ'
  exact Run.of (fun t k => stp.trans k) (r T' _ v hQ1 ⟨⟨_, X', Fr.app N N1⟩, rfl, hx, hby, hml, hZ, hown, hret, hnm, hlk, hs1⟩)
theorem r_private (pc' : Nat) (X : Cx p l e R s m args below meth c Z bytes ml own ret mname n0 T h cells slots) {a0 : Array Value} {y : MethodName} {by' : ByteArray} {ml' : Nat} {ret' : Option FieldType} {rm : Room} {as : Array Value} {Q : Option Value → Heap → Prop} {index : Nat} {a : Addr} {C : String} (hM : Met1 l Z n0 [] y by' ml' ret' rm as h Q) (E : Exa Z h a C) (w1 : (Jvm.Cond.methodLink own index y).before a0 Z = true) (w2 : (Jvm.Cond.instanceMethod y).before a0 Z = true) {kk : Nat} (wi : (Jvm.Cond.instantiable y.cls kk).before a0 Z = true) (w4 : (Jvm.Cond.privateMethod y).before a0 Z = true) (wc : (Jvm.Cond.code y by' ml' ret').before a0 Z = true) (wz : (Jvm.Cond.initialized y.cls).before a0 Z = true) (hy : y.cls ≠ "java/lang/invoke/MethodHandle" ∧ y.cls ≠ "java/lang/invoke/VarHandle") {ps : List FieldType} {rt : Option FieldType} (pd : parseMethodDescriptor y.desc = some ⟨ps, rt⟩) (argsL : List Value) (has : (Value.ref a :: argsL).toArray = as) (hln : argsL.length = ps.length) (W : Nat) (hW : (st.map fun v => v.category).sum ≤ W) (hsize : L.size = ml) (hf : rm.frames + 1 ≤ R.frames) (hl : W + (ml' + 11) + rm.locals ≤ R.locals) (hc : cells + rm.cells ≤ R.cells) (hs : slots + rm.slots ≤ R.slots) (hd : decode bytes pc = .ok (.invokevirtual index, 3)) (r : ∀ T' h' v, Q v h' → Cx p l e R s m args below meth c Z bytes ml own ret mname n0 T' h' (cells + rm.cells) (slots + rm.slots) → Run p e below m K T' pc' L (v.toList ++ st)) (q : pc + 3 = pc' := by rfl) {S : List Value} (hS : S = argsL.reverse ++ Value.ref a :: st := by rfl) : Run p e below m K T pc L S := by
  obtain ⟨⟨locs, X, N⟩, e0, hx, hby, hml, hZ, hown, hret, hnm, hlk, hsz⟩ := X
  subst q has hS
  obtain ⟨cq, qq, qq'⟩ := E.cell
  obtain ⟨ci, ki, hi1, hi2, -, hi3, -⟩ := Cond.instantiable_spec (mvT hZ wi (args := #[]) : (Jvm.Cond.instantiable y.cls kk).before #[] s = true)
  have hpv := Cond.privateMethod_at (mvP hZ w4 (args := #[]))
  obtain ⟨v, _, ⟨T', L', k', n'⟩, -, X', ⟨Lc, hQ', l', y', z'⟩, stp⟩ := X.privateBack hx (y := y) hown (mvT hZ w1) (mvT hZ w2) (selects_self_of_private hi1 hi2 (Bool.or_eq_false_iff.mp hi3).1 hpv (mvT hZ w2) hy) hpv (mvT hZ wc) hy (backOf (W := W) (Q := fun v h' L => Q v h' ∧ Fr n0 L ∧ n0 ≤ h'.size) hM hZ wc wz hf hl) (g := mkF m pc L (argsL.reverse ++ .ref a :: st)) rfl (by rw [hml]; exact hsize) (Steps.refl _) (a := a) (by rw [e0]; exact qq) qq' (argsL := argsL) (rest := st) (lenOf pd hln) rfl (by show 2 * 0 + _ ≤ _; omega) (hb hby hd) (fun _ _ => ⟨rfl, e0, hc, hs⟩)
  dsimp only [Pt.U, Pt.locs, Pt.cells, Pt.slots] at X' l' y' z' stp hQ'
  subst l' y' z'
  obtain ⟨hQ1, N1, hs1⟩ := hQ'
  exact Run.of (fun t k => stp.trans k) (r T' _ v hQ1 ⟨⟨_, X', Fr.app N N1⟩, rfl, hx, hby, hml, hZ, hown, hret, hnm, hlk, hs1⟩)
theorem r_newarrayE (pc' : Nat) (X : Cx p l e R s m args below meth c Z bytes ml own ret mname n0 T h cells slots) {a0 : Array Value} {aty : ArrayType} {z : Int32} (n cap : Nat) (ad : String) (had : "[" ++ (newarray.typeOf aty).toString = ad) (w : (Jvm.Cond.arrayClass (newarray.typeOf aty)).before a0 Z = true) (hd : decode bytes pc = .ok (.newarray aty, 2)) (hz : z.toInt = (n : Int)) (hcap : n ≤ cap) (hb8 : cap * 8 ≤ 536870912) (hc : cells + 1 ≤ R.cells) (hl : slots + cap ≤ R.slots) (r : ∀ T' h' b, b = h.size → n0 ≤ b → Ext h h' → Exa Z h' b ad → AF Z h' b (newarray.typeOf aty) n (fun _ => defaultValue (newarray.typeOf aty)) → Cx p l e R s m args below meth c Z bytes ml own ret mname n0 T' h' (cells + 1) (slots + cap) → Run p e below m K T' pc' L (.ref b :: st)) (q : pc + 2 = pc' := by rfl) : Run p e below m K T pc L (.int z :: st) := by
  obtain ⟨⟨locs, X, N⟩, e0, hx, hby, hml, hZ, hown, hret, hnm, hlk, hsz⟩ := X
  subst q
  have hz0 : ¬ z < 0 := by rw [Int32.lt_iff_toInt_lt]; have : (0 : Int32).toInt = 0 := rfl; omega
  have hzn : z.toNatClampNeg = n := by show z.toInt.toNat = n; omega
  have hzl := z.toInt_lt
  obtain ⟨T', h', cA, X', e', E', A', Ex', stp⟩ := newPE X hx hZ w e0 (g := mkF m pc L (.int z :: st)) rfl (hb hby hd) rfl hz0 (cap := cap) (by rw [hzn]; exact hcap) hb8 hc hl had
  refine Run.of stp (r T' h' h.size rfl hsz E' Ex' ⟨_, A', by rw [sz_new, hzn], by omega, fun j hj => ?_⟩ ⟨⟨_, X', N⟩, e', hx, hby, hml, hZ, hown, hret, hnm, hlk, Nat.le_trans hsz E'.1⟩)
  simp [newA, hzn, hj]
theorem r_clone (pc' : Nat) (X : Cx p l e R s m args below meth c Z bytes ml own ret mname n0 T h cells slots) {a0 : Array Value} {ad : String} {index : Nat} (w1 : (Jvm.Cond.methodLink own index ⟨ad, "clone", "()Ljava/lang/Object;"⟩).before a0 Z = true) (w2 : (Jvm.Cond.sameMethod ad "java/lang/Object" "clone" "()Ljava/lang/Object;").before a0 Z = true) (w3 : (Jvm.Cond.native ⟨"java/lang/Object", "clone", "()Ljava/lang/Object;"⟩).before a0 Z = true) (w4 : (Jvm.Cond.instanceMethod ⟨"java/lang/Object", "clone", "()Ljava/lang/Object;"⟩).before a0 Z = true) (w5 : (Jvm.Cond.selects ad ⟨ad, "clone", "()Ljava/lang/Object;"⟩ ⟨"java/lang/Object", "clone", "()Ljava/lang/Object;"⟩).before a0 Z = true) (w6 : (Jvm.Cond.castable ad "java/lang/Cloneable").before a0 Z = true) {a : Addr} {ty : FieldType} {n : Nat} {f : Nat → Value} (A : AF Z h a ty n f) (E : Exa Z h a ad) (hfit : ∀ j, j < n → fits ty (f j) = true) (cap : Nat) (hcap : n ≤ cap) (W : Nat) (hW : (st.map fun v => v.category).sum ≤ W) (hsize : L.size = ml) (hf : 1 ≤ R.frames) (hl : W + 14 ≤ R.locals) (hc : cells + 1 ≤ R.cells) (hs : slots + cap ≤ R.slots) (hd : decode bytes pc = .ok (.invokevirtual index, 3)) (r : ∀ T' h' b, b = h.size → n0 ≤ b → Ext h h' → Exa Z h' b ad → AF Z h' b ty n f → Cx p l e R s m args below meth c Z bytes ml own ret mname n0 T' h' (cells + 1) (slots + cap) → Run p e below m K T' pc' L (.ref b :: st)) (q : pc + 3 = pc' := by rfl) : Run p e below m K T pc L (.ref a :: st) := by
  obtain ⟨⟨locs, X, N⟩, e0, hx, hby, hml, hZ, hown, hret, hnm, hlk, hsz⟩ := X
  subst q
  obtain ⟨cl, A, S, q, H⟩ := A
  have FC : FitC Z cl := fitC_of A fun i hi v hv => by rw [S] at hi; rw [H i hi] at hv; cases hv; exact hfit i hi
  obtain ⟨T', h', X', e', E', A', Ex', stp⟩ := cloneA X hx hZ hown w1 w2 w3 w4 w5 w6 e0 A E FC (g := mkF m pc L (.ref a :: st)) rfl (by rw [hml]; exact hsize) rfl (hb hby hd) hf (W := W) (cap := cap) (by show 2 * 0 + _ ≤ _; omega) hl (by rw [S]; exact hcap) hc hs
  exact Run.of stp (r T' h' h.size rfl hsz E' Ex' ⟨_, A', S, q, H⟩ ⟨⟨_, X', N⟩, e', hx, hby, hml, hZ, hown, hret, hnm, hlk, Nat.le_trans hsz E'.1⟩)
theorem r_castY (pc' : Nat) (X : Cx p l e R s m args below meth c Z bytes ml own ret mname n0 T h cells slots) {a0 : Array Value} {K0 : String} {index : Nat} (w : (Jvm.Cond.classLink own index K0).before a0 Z = true) {a : Addr} (F : Ins Z h a K0 true) (hd : decode bytes pc = .ok (.checkcast index, 3)) (r : ∀ T', Cx p l e R s m args below meth c Z bytes ml own ret mname n0 T' h cells slots → Run p e below m K T' pc' L (.ref a :: st)) (q : pc + 3 = pc' := by rfl) : Run p e below m K T pc L (.ref a :: st) := by
  obtain ⟨⟨locs, X, N⟩, e0, hx, hby, hml, hZ, hown, r1⟩ := X
  subst q
  obtain ⟨T', X', e', stp⟩ := castY X hx hZ hown w e0 F (g := mkF m pc L (.ref a :: st)) rfl rfl (hb hby hd)
  exact Run.of stp (r T' ⟨⟨locs, X', N⟩, e', hx, hby, hml, hZ, hown, r1⟩)
theorem r_instY (pc' : Nat) (X : Cx p l e R s m args below meth c Z bytes ml own ret mname n0 T h cells slots) {a0 : Array Value} {K0 : String} {index : Nat} (w : (Jvm.Cond.classLink own index K0).before a0 Z = true) {a : Addr} (F : Ins Z h a K0 true) (hd : decode bytes pc = .ok (.instanceof index, 3)) (r : ∀ T', Cx p l e R s m args below meth c Z bytes ml own ret mname n0 T' h cells slots → Run p e below m K T' pc' L (.int 1 :: st)) (q : pc + 3 = pc' := by rfl) : Run p e below m K T pc L (.ref a :: st) := by
  obtain ⟨⟨locs, X, N⟩, e0, hx, hby, hml, hZ, hown, r1⟩ := X
  subst q
  obtain ⟨T', X', e', stp⟩ := instY X hx hZ hown w e0 F (g := mkF m pc L (.ref a :: st)) rfl rfl (hb hby hd)
  exact Run.of stp (r T' ⟨⟨locs, X', N⟩, e', hx, hby, hml, hZ, hown, r1⟩)
theorem r_instN (pc' : Nat) (X : Cx p l e R s m args below meth c Z bytes ml own ret mname n0 T h cells slots) {a0 : Array Value} {K0 C : String} {index : Nat} (w : (Jvm.Cond.classLink own index K0).before a0 Z = true) {a : Addr} (F : Ins Z s.heap a K0 false) (E : Exa Z s.heap a C) (hd : decode bytes pc = .ok (.instanceof index, 3)) (r : ∀ T', Cx p l e R s m args below meth c Z bytes ml own ret mname n0 T' h cells slots → Run p e below m K T' pc' L (.int 0 :: st)) (q : pc + 3 = pc' := by rfl) : Run p e below m K T pc L (.ref a :: st) := by
  obtain ⟨⟨locs, X, N⟩, e0, hx, hby, hml, hZ, hown, r1⟩ := X
  subst q
  obtain ⟨T', X', e', stp⟩ := instN X hx hZ hown w e0 F E (g := mkF m pc L (.ref a :: st)) rfl rfl (hb hby hd)
  exact Run.of stp (r T' ⟨⟨locs, X', N⟩, e', hx, hby, hml, hZ, hown, r1⟩)
theorem r_instNo (pc' : Nat) (X : Cx p l e R s m args below meth c Z bytes ml own ret mname n0 T h cells slots) {a0 : Array Value} {K0 C : String} {index : Nat} (w : (Jvm.Cond.classLink own index K0).before a0 Z = true) {a : Addr} (E : Exa Z h a C) (F : ∃ c t, Z.vm.findClass C = some c ∧ Z.vm.findClass K0 = some t ∧ Z.vm.assignable c t = false) (hd : decode bytes pc = .ok (.instanceof index, 3)) (r : ∀ T', Cx p l e R s m args below meth c Z bytes ml own ret mname n0 T' h cells slots → Run p e below m K T' pc' L (.int 0 :: st)) (q : pc + 3 = pc' := by rfl) : Run p e below m K T pc L (.ref a :: st) := by
  obtain ⟨⟨locs, X, N⟩, e0, hx, hby, hml, hZ, hown, r1⟩ := X
  subst q
  obtain ⟨T', X', e', stp⟩ := instNo X hx hZ hown w e0 E F (g := mkF m pc L (.ref a :: st)) rfl rfl (hb hby hd)
  exact Run.of stp (r T' ⟨⟨locs, X', N⟩, e', hx, hby, hml, hZ, hown, r1⟩)
theorem r_aaloadC (pc' : Nat) (X : Cx p l e R s m args below meth c Z bytes ml own ret mname n0 T h cells slots) {a : Addr} {cl : Cell} {ty : FieldType} (A : Arr Z h a cl ty) (hty : ty.isReference = true) {j : Int32} {v : Value} (hin : ¬ (j < 0 ∨ cl.slots.size ≤ j.toNatClampNeg)) (hv : cl.slots[j.toNatClampNeg]? = some v) (hd : decode bytes pc = .ok (.aaload, 1)) (r : Run p e below m K T pc' L (v :: st)) (q : pc + 1 = pc' := by rfl) : Run p e below m K T pc L (.int j :: .ref a :: st) := by
  obtain ⟨⟨locs, X, N⟩, e0, hx, hby, hml, hZ, hown, r1⟩ := X
  subst q hby
  exact Run.of (fun t k => X.aaload hx (j := j) (v := v) (by rw [e0]; exact A.1) (State.isArrayOf_alike hZ.alike A.2.1) hty A.2.2 hin hv (g := mkF m pc L (.int j :: .ref a :: st)) rfl rfl hd _ k) r
theorem r_aaload (pc' : Nat) (X : Cx p l e R s m args below meth c Z bytes ml own ret mname n0 T h cells slots) {a : Addr} {ty : FieldType} {n : Nat} {f : Nat → Value} (A : AF Z h a ty n f) (hty : ty.isReference = true) {j : Int32} {i : Nat} {v : Value} (hj : j.toInt = (i : Int)) (hi : i < n) (hv : f i = v) (hd : decode bytes pc = .ok (.aaload, 1)) (r : Run p e below m K T pc' L (v :: st)) (q : pc + 1 = pc' := by rfl) : Run p e below m K T pc L (.int j :: .ref a :: st) := by
  obtain ⟨cl, A, S, -, H⟩ := A
  obtain ⟨h1, h2⟩ := idx_of hj (S ▸ hi)
  exact r_aaloadC pc' X A hty h1 (by rw [h2, H i hi, hv]) hd r q
theorem keepExt {h0 h1 : Heap} (K : Keep h0 h1 []) : Ext h0 h1 := ⟨K.1, fun a c q => K.2.1 a c q nin0⟩
theorem r_instNull (pc' : Nat) (X : Cx p l e R s m args below meth c Z bytes ml own ret mname n0 T h cells slots) {index : Nat} (hd : decode bytes pc = .ok (.instanceof index, 3)) (r : Run p e below m K T pc' L (.int 0 :: st)) (q : pc + 3 = pc' := by rfl) : Run p e below m K T pc L (.null :: st) := by
  obtain ⟨⟨locs, X, -⟩, -, hx, hby, -⟩ := X
  subst q hby
  exact Run.of (fun t k => X.instanceofNull hx (g := mkF m pc L (.null :: st)) rfl rfl hd _ k) r
def b2i (P : Prop) [Decidable P] : Int32 := if P then 1 else 0
theorem b2i_t {P : Prop} [Decidable P] (h : P) : b2i P = 1 := if_pos h
theorem b2i_f {P : Prop} [Decidable P] (h : ¬ P) : b2i P = 0 := if_neg h
theorem b2i_eq0 {P : Prop} [Decidable P] (h : ¬ P) : b2i P = 0 := if_neg h
theorem b2i_ne0 {P : Prop} [Decidable P] (h : P) : ¬ b2i P = 0 := by rw [b2i_t h]; decide
theorem b2i_01 {P : Prop} [Decidable P] : b2i P = 0 ∨ b2i P = 1 := by by_cases h : P; exact Or.inr (b2i_t h); exact Or.inl (b2i_f h)
theorem b2i_nar {P : Prop} [Decidable P] : nar .boolean (b2i P) = b2i P := by by_cases h : P; (rw [b2i_t h]; rfl); (rw [b2i_f h]; rfl)
theorem b2i_congr {P Q : Prop} [Decidable P] [Decidable Q] (h : P ↔ Q) : b2i P = b2i Q := by by_cases q : P; (rw [b2i_t q, b2i_t (h.mp q)]); (rw [b2i_f q, b2i_f (fun z => q (h.mpr z))])
theorem ltI {x y : Int32} {a b : Int} (hx : x.toInt = a) (hy : y.toInt = b) : x < y ↔ a < b := by rw [Int32.lt_iff_toInt_lt, hx, hy]
theorem eqI {x y : Int32} {a b : Int} (hx : x.toInt = a) (hy : y.toInt = b) : x = y ↔ a = b := by rw [← Int32.toInt_inj, hx, hy]
theorem ltJ {x y : Int64} {a b : Int} (hx : x.toInt = a) (hy : y.toInt = b) : x < y ↔ a < b := by rw [Int64.lt_iff_toInt_lt, hx, hy]
theorem eqJ {x y : Int64} {a b : Int} (hx : x.toInt = a) (hy : y.toInt = b) : x = y ↔ a = b := by rw [← Int64.toInt_inj, hx, hy]
theorem addI {x y : Int32} {a b : Int} (hx : x.toInt = a) (hy : y.toInt = b) (h1 : -2147483648 ≤ a + b) (h2 : a + b < 2147483648) : (x + y).toInt = a + b := by have h := c_iadd x y; have r := rng32 (x + y); rw [hx, hy] at h; omega
theorem subI {x y : Int32} {a b : Int} (hx : x.toInt = a) (hy : y.toInt = b) (h1 : -2147483648 ≤ a - b) (h2 : a - b < 2147483648) : (x - y).toInt = a - b := by have h := c_isub x y; have r := rng32 (x - y); rw [hx, hy] at h; omega
theorem addJ {x y : Int64} {a b : Int} (hx : x.toInt = a) (hy : y.toInt = b) (h1 : -9223372036854775808 ≤ a + b) (h2 : a + b < 9223372036854775808) : (x + y).toInt = a + b := by have h := c_ladd x y; have r := rng64 (x + y); rw [hx, hy] at h; omega
theorem subJ {x y : Int64} {a b : Int} (hx : x.toInt = a) (hy : y.toInt = b) (h1 : -9223372036854775808 ≤ a - b) (h2 : a - b < 9223372036854775808) : (x - y).toInt = a - b := by have h := c_lsub x y; have r := rng64 (x - y); rw [hx, hy] at h; omega
theorem natI (n : Nat) (h : n < 2147483648) : (Int32.ofNat n).toInt = n := Int32.toInt_ofNat_small h
def updI (g : Nat → Int32) (i : Nat) (x : Int32) : Nat → Int32 := fun j => if j = i then x else g j
theorem updI_hit {g : Nat → Int32} {i : Nat} {x : Int32} : updI g i x i = x := if_pos rfl
theorem updI_miss {g : Nat → Int32} {i j : Nat} {x : Int32} (q : j ≠ i) : updI g i x j = g j := if_neg q
theorem AF.setI {a : Addr} {ty : FieldType} {n i : Nat} {x : Int32} {g : Nat → Int32} {h' : Heap} (A : AF Z h a ty n (fun j => .int (g j))) (W : Wr h h' a i (.int x)) : AF Z h' a ty n (fun j => .int (updI g i x j)) := (A.set W).congr fun j _ => by by_cases q : j = i <;> simp [upd, updI, q]
def updD (g : Nat → UInt64) (i : Nat) (x : UInt64) : Nat → UInt64 := fun j => if j = i then x else g j
theorem AF.setD {a : Addr} {ty : FieldType} {n i : Nat} {x : UInt64} {g : Nat → UInt64} {h' : Heap} (A : AF Z h a ty n (fun j => .double (g j))) (W : Wr h h' a i (.double x)) : AF Z h' a ty n (fun j => .double (updD g i x j)) := (A.set W).congr fun j _ => by by_cases q : j = i <;> simp [upd, updD, q]
def updJ (g : Nat → Int64) (i : Nat) (x : Int64) : Nat → Int64 := fun j => if j = i then x else g j
theorem updJ_hit {g : Nat → Int64} {i : Nat} {x : Int64} : updJ g i x i = x := if_pos rfl
theorem updJ_miss {g : Nat → Int64} {i j : Nat} {x : Int64} (q : j ≠ i) : updJ g i x j = g j := if_neg q
theorem AF.setJ {a : Addr} {ty : FieldType} {n i : Nat} {x : Int64} {g : Nat → Int64} {h' : Heap} (A : AF Z h a ty n (fun j => .long (g j))) (W : Wr h h' a i (.long x)) : AF Z h' a ty n (fun j => .long (updJ g i x j)) := (A.set W).congr fun j _ => by by_cases q : j = i <;> simp [upd, updJ, q]
theorem Cx.more {cells' slots' : Nat} (X : Cx p l e R s m args below meth c Z bytes ml own ret mname n0 T h cells slots) (h1 : cells ≤ cells') (h2 : slots ≤ slots') : Cx p l e R s m args below meth c Z bytes ml own ret mname n0 T h cells' slots' := by obtain ⟨⟨locs, X, N⟩, r⟩ := X; exact ⟨⟨locs, X.more h1 h2, N⟩, r⟩
def OV (Z : State) (ad : String) (ty : FieldType) (C : String) : Prop := ∃ cA, Z.vm.findClass ad = some cA ∧ OvrA Z cA ty C
theorem r_anewarrayA (pc' : Nat) (X : Cx p l e R s m args below meth c Z bytes ml own ret mname n0 T h cells slots) {a0 : Array Value} {ty : FieldType} {z : Int32} (n cap : Nat) (C ad : String) {index : Nat} (hC : (FieldType.array ty).toString = C) (had : "[" ++ C = ad) (w1 : (Jvm.Cond.classLink own index C).before a0 Z = true) (w2 : (Jvm.Cond.arrayOver (.array ty)).before a0 Z = true) (hd : decode bytes pc = .ok (.anewarray index, 3)) (hz : z.toInt = (n : Int)) (hcap : n ≤ cap) (hb8 : cap * 8 ≤ 536870912) (hc : cells + 1 ≤ R.cells) (hl : slots + cap ≤ R.slots) (r : ∀ T' h' b, b = h.size → n0 ≤ b → Ext h h' → Exa Z h' b ad → OV Z ad ty C → AF Z h' b (.array ty) n (fun _ => .null) → Cx p l e R s m args below meth c Z bytes ml own ret mname n0 T' h' (cells + 1) (slots + cap) → Run p e below m K T' pc' L (.ref b :: st)) (q : pc + 3 = pc' := by rfl) : Run p e below m K T pc L (.int z :: st) := by
  obtain ⟨⟨locs, X, N⟩, e0, hx, hby, hml, hZ, hown, hret, hnm, hlk, hsz⟩ := X
  subst q
  have hz0 : ¬ z < 0 := by rw [Int32.lt_iff_toInt_lt]; have : (0 : Int32).toInt = 0 := rfl; omega
  have hzn : z.toNatClampNeg = n := by show z.toInt.toNat = n; omega
  have hzl := z.toInt_lt
  obtain ⟨T', h', cA, X', e', E', A', Ex', O', stp⟩ := newRA X hx hZ hown hC w1 w2 e0 (g := mkF m pc L (.int z :: st)) rfl (hb hby hd) rfl hz0 (cap := cap) (by rw [hzn]; exact hcap) hb8 hc hl had
  refine Run.of stp (r T' h' h.size rfl hsz E' Ex' ⟨cA, ?_, O'⟩ ⟨_, A', by rw [sz_new, hzn], by omega, fun j hj => ?_⟩ ⟨⟨_, X', N⟩, e', hx, hby, hml, hZ, hown, hret, hnm, hlk, Nat.le_trans hsz E'.1⟩)
  · obtain ⟨cell, k, q1, q2, -⟩ := Ex'
    have q3 := A'.1
    rw [q3] at q1
    cases q1
    exact q2
  · simp [newA, hzn, hj, defaultValue]
theorem r_aastoreA (pc' : Nat) (X : Cx p l e R s m args below meth c Z bytes ml own ret mname n0 T h cells slots) {a y : Addr} {ty : FieldType} {C ad : String} {n : Nat} {f : Nat → Value} (A : AF Z h a (.array ty) n f) (E : Exa Z h a ad) (O : OV Z ad ty C) (Ey : Exa Z h y C) {j : Int32} {i : Nat} (hj : j.toInt = (i : Int)) (hi : i < n) (ga : n0 ≤ a) (hd : decode bytes pc = .ok (.aastore, 1)) (r : ∀ T' h', Wr h h' a i (.ref y) → Cx p l e R s m args below meth c Z bytes ml own ret mname n0 T' h' cells slots → Run p e below m K T' pc' L st) (q : pc + 1 = pc' := by rfl) : Run p e below m K T pc L (.ref y :: .int j :: .ref a :: st) := by
  obtain ⟨⟨locs, X, N⟩, e0, hx, hby, hml, hZ, hown, hret, hnm, hlk, hsz⟩ := X
  subst q
  obtain ⟨cl, A, S, -, H⟩ := A
  obtain ⟨h1, h2⟩ := idx_of hj (S ▸ hi)
  obtain ⟨cA, o1, O⟩ := O
  have ec : cl.cls = cA := by
    obtain ⟨cell, k, q1, q2, -⟩ := E
    rw [A.1] at q1
    cases q1
    rw [o1] at q2
    cases q2
    rfl
  obtain ⟨T', h', X', e', W', stp⟩ := stR X hx hZ e0 A (j := j) h1 rfl (Sto.ofVA A ec O (Ins.self Ey)) (g := mkF m pc L (.ref y :: .int j :: .ref a :: st)) rfl rfl (hb hby hd)
  exact Run.of stp (r T' h' (h2 ▸ W') ⟨⟨_, X', Fr.snoc X' N ga⟩, e', hx, hby, hml, hZ, hown, hret, hnm, hlk, by rw [W'.size]; exact hsz⟩)
def cpF (f g : Nat → Value) (i1 i2 k j : Nat) : Value := if i2 ≤ j ∧ j < i2 + k then f (i1 + (j - i2)) else g j
theorem own_getD (f : Nat → Value) {n j : Nat} (d : Value) (q : j < n) : ((List.range n).map f).getD j d = f j := by simp [List.getD_eq_getElem?_getD, q]
theorem own_cpL (f g : Nat → Value) {n N i1 i2 k j : Nat} (h1 : i1 + k ≤ n) (h2 : i2 + k ≤ N) (hj : j < N) : (((List.range N).map g).take i2 ++ ((List.range k).map fun i => ((List.range n).map f).getD (i1 + i) .null) ++ ((List.range N).map g).drop (i2 + k)).getD j .null = cpF f g i1 i2 k j := by
  unfold cpF
  rw [List.getD_eq_getElem?_getD]
  by_cases q1 : j < i2
  · rw [if_neg (by omega), List.append_assoc, List.getElem?_append_left (by simp; omega)]
    simp [q1, hj]
  · by_cases q2 : j < i2 + k
    · rw [if_pos (by omega), List.getElem?_append_left (by simp; omega), List.getElem?_append_right (by simp; omega)]
      simp only [List.length_take, List.length_map, List.length_range]
      rw [show min i2 N = i2 by omega, List.getElem?_map, List.getElem?_range (by omega)]
      simp only [Option.map_some, Option.getD_some]
      exact own_getD f _ (by omega)
    · rw [if_neg (by omega), List.getElem?_append_right (by simp; omega), List.getElem?_drop]
      simp only [List.length_append, List.length_take, List.length_map, List.length_range]
      rw [show i2 + k + (j - (min i2 N + k)) = j by omega]
      simp [hj]
theorem r_arraycopy (pc' : Nat) (X : Cx p l e R s m args below meth c Z bytes ml own ret mname n0 T h cells slots) {a0 : Array Value} {index : Nat} (w1 : (Jvm.Cond.methodLink own index Jvm.Stand.acN).before a0 Z = true) (w2 : (Jvm.Cond.native Jvm.Stand.acN).before a0 Z = true) (w3 : (Jvm.Cond.static Jvm.Stand.acN).before a0 Z = true) (w4 : (Jvm.Cond.initialized "java/lang/System").before a0 Z = true) {a b : Addr} {ty : FieldType} {n N : Nat} {f g : Nat → Value} (A : AF Z h a ty n f) (B : AF Z h b ty N g) (hty : refKind ty = false) (ff : ∀ j, j < n → fits ty (f j) = true) (gf : ∀ j, j < N → fits ty (g j) = true) {sp dp nn : Int32} {i1 i2 k : Nat} (e1 : sp.toInt = (i1 : Int)) (e2 : dp.toInt = (i2 : Int)) (e3 : nn.toInt = (k : Int)) (h1 : i1 + k ≤ n) (h2 : i2 + k ≤ N) (ga : n0 ≤ b) (W : Nat) (hW : (st.map fun v => v.category).sum ≤ W) (hsize : L.size = ml) (hf : 1 ≤ R.frames) (hl : W + (nativeFrameWords "java/lang/System" "arraycopy" 5 + 11) ≤ R.locals) (hd : decode bytes pc = .ok (.invokestatic index, 3)) (r : ∀ T' h', Keep h h' [b] → AF Z h' b ty N (cpF f g i1 i2 k) → Cx p l e R s m args below meth c Z bytes ml own ret mname n0 T' h' cells slots → Run p e below m K T' pc' L st) (q : pc + 3 = pc' := by rfl) : Run p e below m K T pc L (.int nn :: .int dp :: .ref b :: .int sp :: .ref a :: st) := by
  obtain ⟨⟨locs, X, N0⟩, e0, hx, hby, hml, hZ, hown, hret, hnm, hlk, hsz⟩ := X
  subst q
  obtain ⟨ca, A, Sa, qa, Ha⟩ := A
  obtain ⟨cb, B, Sb, qb, Hb⟩ := B
  have neg : ∀ {x : Int32} {i : Nat}, x.toInt = (i : Int) → ¬ x < 0 := fun {x i} e z => by rw [Int32.lt_iff_toInt_lt] at z; have : (0 : Int32).toInt = 0 := rfl; omega
  have cln : ∀ {x : Int32} {i : Nat}, x.toInt = (i : Int) → x.toNatClampNeg = i := fun {x i} e => by show x.toInt.toNat = i; omega
  have na := Int32.toInt_ofNat_small (n := n) qa
  have nb := Int32.toInt_ofNat_small (n := N) qb
  have VA : Arv Z h a ca.cls ty (Int32.ofNat n) ((List.range n).map f) .null := ⟨ca, A, rfl, by rw [Sa, cln na], neg na, fun i hi => by rw [Sa] at hi; rw [Ha i hi, own_getD f _ hi], fun i hi => by rw [Sa] at hi; rw [own_getD f _ hi]; exact ff i hi⟩
  have VB : Arv Z h b cb.cls ty (Int32.ofNat N) ((List.range N).map g) .null := ⟨cb, B, rfl, by rw [Sb, cln nb], neg nb, fun i hi => by rw [Sb] at hi; rw [Hb i hi, own_getD g _ hi], fun i hi => by rw [Sb] at hi; rw [own_getD g _ hi]; exact gf i hi⟩
  obtain ⟨T', h', Lo, X', e', N', Kp, ⟨c', A', -, S', -, H', -⟩, stp⟩ := cpA X hx hZ hown w1 w2 w3 w4 e0 VA VB (Or.inl ⟨rfl, hty⟩) (neg e1) (neg e2) (neg e3) (by rw [cln e1, cln e3, cln na]; exact h1) (by rw [cln e2, cln e3, cln nb]; exact h2) rfl (by rw [cln e2, cln e3]; simp; exact h2) N0 ga (g := mkF m pc L (.int nn :: .int dp :: .ref b :: .int sp :: .ref a :: st)) rfl (by rw [hml]; exact hsize) rfl (hb hby hd) hf (W := W) (by show 2 * 0 + _ ≤ _; omega) hl
  rw [cln nb] at S'
  rw [cln e1, cln e2, cln e3] at H'
  refine Run.of stp (r T' h' Kp ⟨c', A', S', qb, fun j hj => ?_⟩ ⟨⟨_, X', N'⟩, e', hx, hby, hml, hZ, hown, hret, hnm, hlk, Nat.le_trans hsz Kp.1⟩)
  rw [H' j (by rw [S']; exact hj), own_cpL f g h1 h2 hj]
end Own
theorem pd_0 : parseMethodDescriptor "([CI[BII)I" = some ⟨[(.array .char), .int, (.array .byte), .int, .int], some .int⟩ := by decide +kernel
theorem pd_1 : parseMethodDescriptor "([CII)[B" = some ⟨[(.array .char), .int, .int], some (.array .byte)⟩ := by decide +kernel
theorem pd_2 : parseMethodDescriptor "([BI)B" = some ⟨[(.array .byte), .int], some .byte⟩ := by decide +kernel
theorem pd_3 : parseMethodDescriptor "([CIILjava/lang/Void;)V" = some ⟨[(.array .char), .int, .int, (.object "java/lang/Void")], none⟩ := by decide +kernel
theorem pd_4 : parseMethodDescriptor "([C)V" = some ⟨[(.array .char)], none⟩ := by decide +kernel
theorem pd_5 : parseMethodDescriptor "()V" = some ⟨[], none⟩ := by decide +kernel
theorem pd_6 : parseMethodDescriptor "()Z" = some ⟨[], some .boolean⟩ := by decide +kernel
theorem pd_7 : parseMethodDescriptor "(IIII)Ljava/lang/String;" = some ⟨[.int, .int, .int, .int], some (.object "java/lang/String")⟩ := by decide +kernel
theorem pd_8 : parseMethodDescriptor "(Ljava/lang/String;Ljava/lang/String;)V" = some ⟨[(.object "java/lang/String"), (.object "java/lang/String")], none⟩ := by decide +kernel
def b8 (c : Int32) : Int32 := nar .byte (c.toInt8.toInt32)
def i2cO (x : Int32) : Int32 := x.toUInt32.toUInt16.toUInt32.toInt32
theorem own_i2c_bv (x : Int32) : (x.toUInt32.toUInt16.toUInt32.toInt32).toBitVec = (x.toBitVec.setWidth 16).setWidth 32 := rfl
theorem own_b8_bv (x : Int32) : (b8 x).toBitVec = (((x.toBitVec.signExtend 8).signExtend 32).signExtend 8).signExtend 32 := rfl
theorem own_b8_bit (x : Int32) (i : Nat) (hi : i < 8) : (b8 x).toBitVec.getLsbD i = x.toBitVec.getLsbD i := by
  rw [own_b8_bv]
  have h32 : i < 32 := by omega
  rw [BitVec.getLsbD_signExtend, BitVec.getLsbD_signExtend, BitVec.getLsbD_signExtend, BitVec.getLsbD_signExtend]
  simp only [hi, h32, if_true, decide_true, Bool.true_and]
theorem own_255 : (255 : Int32).toBitVec = (BitVec.allOnes 8).setWidth 32 := by decide
theorem own_lowbits {c : Int32} {k : Nat} (h0 : 0 ≤ c.toInt) (h1 : c.toInt < 2 ^ k) (i : Nat) (hi : k ≤ i) : c.toBitVec.getLsbD i = false := by
  have h2 : (c.toBitVec.toNat : Int) = c.toInt := by
    have q : c.toInt = c.toBitVec.toInt := rfl
    rw [q] at h0 ⊢
    rw [BitVec.toInt_eq_toNat_cond] at h0 ⊢
    have := c.toBitVec.isLt
    split at h0 <;> split <;> omega
  have h3 : (2 : Int) ^ k = ((2 ^ k : Nat) : Int) := by simp
  have h4 : c.toBitVec.toNat < 2 ^ k := by omega
  rw [← BitVec.testBit_toNat]
  exact Nat.testBit_lt_two_pow (Nat.lt_of_lt_of_le h4 (Nat.pow_le_pow_right (by decide) hi))
theorem own_lat {c : Int32} (h0 : 0 ≤ c.toInt) (h1 : ¬ (255 : Int32) < c) : ((b8 c) &&& (255 : Int32)).toUInt32.toUInt16.toUInt32.toInt32 = c := by
  have h1 : c.toInt < 2 ^ 8 := by
    rw [Int32.lt_iff_toInt_lt] at h1; have : (255 : Int32).toInt = 255 := rfl; omega
  apply Int32.toBitVec_inj.mp
  apply BitVec.eq_of_getLsbD_eq
  intro i hi
  rw [own_i2c_bv, BitVec.getLsbD_setWidth, BitVec.getLsbD_setWidth, Int32.toBitVec_and, BitVec.getLsbD_and, own_255, BitVec.getLsbD_setWidth, BitVec.getLsbD_allOnes]
  by_cases q : i < 8
  · rw [own_b8_bit c i q]; simp [hi, q, show i < 16 by omega]
  · rw [own_lowbits h0 h1 i (by omega)]; simp [q]
theorem own_utf {c : Int32} (h0 : 0 ≤ c.toInt) (h1 : c.toInt < 65536) : ((((b8 (c >>> ((0 : Int32) &&& 31))) &&& (255 : Int32)) <<< ((0 : Int32) &&& 31)) ||| (((b8 (c >>> ((8 : Int32) &&& 31))) &&& (255 : Int32)) <<< ((8 : Int32) &&& 31))).toUInt32.toUInt16.toUInt32.toInt32 = c := by
  have h1 : c.toInt < 2 ^ 16 := h1
  apply Int32.toBitVec_inj.mp
  apply BitVec.eq_of_getLsbD_eq
  intro i hi
  have e1 : (c >>> ((0 : Int32) &&& 31)).toBitVec = c.toBitVec.sshiftRight 0 := rfl
  have e2 : (c >>> ((8 : Int32) &&& 31)).toBitVec = c.toBitVec.sshiftRight 8 := rfl
  have e3 : ∀ x : Int32, (x <<< ((0 : Int32) &&& 31)).toBitVec = x.toBitVec <<< 0 := fun _ => rfl
  have e4 : ∀ x : Int32, (x <<< ((8 : Int32) &&& 31)).toBitVec = x.toBitVec <<< 8 := fun _ => rfl
  rw [own_i2c_bv, BitVec.getLsbD_setWidth, BitVec.getLsbD_setWidth, Int32.toBitVec_or, BitVec.getLsbD_or, e3, e4, BitVec.getLsbD_shiftLeft, BitVec.getLsbD_shiftLeft, Int32.toBitVec_and, Int32.toBitVec_and, BitVec.getLsbD_and, BitVec.getLsbD_and, own_255, BitVec.getLsbD_setWidth, BitVec.getLsbD_allOnes, BitVec.getLsbD_setWidth, BitVec.getLsbD_allOnes]
  by_cases q : i < 8
  · rw [show i - 0 = i from rfl, own_b8_bit _ i q, e1]; simp [hi, q, show i < 16 by omega]
  · by_cases q2 : i < 16
    · rw [own_b8_bit _ (i - 8) (by omega), e2, BitVec.getLsbD_sshiftRight]
      simp [hi, q, q2, show i - 8 < 8 by omega, show 8 + (i - 8) = i by omega, show i - 8 < 32 by omega, show ¬ 32 ≤ i - 8 by omega]
    · rw [own_lowbits h0 h1 i (by omega)]; simp [q, q2]
theorem own_narC {c : Int32} (h0 : 0 ≤ c.toInt) (h1 : c.toInt < 65536) : nar .char c = c := by
  show c.toUInt32.toUInt16.toUInt32.toInt32 = c
  apply Int32.toBitVec_inj.mp
  apply BitVec.eq_of_getLsbD_eq
  intro i hi
  rw [own_i2c_bv, BitVec.getLsbD_setWidth, BitVec.getLsbD_setWidth]
  by_cases q : i < 16
  · simp [hi, q]
  · rw [own_lowbits h0 (show c.toInt < 2 ^ 16 from h1) i (by omega)]; simp [q]
theorem own_crange (x : Int32) : 0 ≤ (x.toUInt32.toUInt16.toUInt32.toInt32).toInt ∧ (x.toUInt32.toUInt16.toUInt32.toInt32).toInt < 65536 := by
  have q : (x.toUInt32.toUInt16.toUInt32.toInt32).toInt = ((x.toBitVec.setWidth 16).setWidth 32).toInt := rfl
  have h := (x.toBitVec.setWidth 16).isLt
  have e : ((x.toBitVec.setWidth 16).setWidth 32).toNat = (x.toBitVec.setWidth 16).toNat := by rw [BitVec.toNat_setWidth]; omega
  rw [q, BitVec.toInt_eq_toNat_cond, e]
  split <;> omega

section OwnW
variable {p : Program} {l : Launch} {e : Env} {R : Room} {s : State} {m : MethodId} {args : Array Value} {below : List Frame} {meth : Method} {c : Code} {Z : State} {bytes : ByteArray} {ml : Nat} {own mname : String} {ret : Option FieldType} {n0 : Nat} {T : State} {h : Heap} {cells slots : Nat} {K : State → Prop} {pc : Nat} {L : Array Slot} {st : List Value} {vm0 : Vm} {EL : List (String × Nat)} {k0 : Nat}
/-- the end of a wide body -/
def Fin1W (below : List Frame) (s : State) (n0 : Nat) (Q : Option Value → Heap → Vm → Prop) (cN sN : Nat) (u : State) : Prop :=
  u.status = .running ∧ ∃ o, Ended u below o ∧ ∃ v L, o = .returned v ∧ (Q v u.heap u.vm ∧ Fr n0 L ∧ n0 ≤ u.heap.size) ∧ ReturnedEndW s o u L cN sN
/-- a wide body's contract -/
def Met1W (l : Launch) (Z : State) (n0 : Nat) (ws : List Jvm.Cond) (y : MethodName) (bytes : ByteArray) (ml : Nat) (ret : Option FieldType) (rm : Room) (as : Array Value) (h0 : Heap) (P0 : Vm → Prop) (Q : Option Value → Heap → Vm → Prop) : Prop :=
  MetFree l y (head1 (Jvm.Cond.code y bytes ml ret :: ws) rm) (fun a U => a = as ∧ Z.Warmed39 U.vm ∧ U.heap = h0 ∧ P0 U.vm) (fun _ _ _ _ _ => True) (fun _ U o U' => ∃ v L, o = .returned v ∧ (Q v U'.heap U'.vm ∧ Fr n0 L ∧ n0 ≤ U'.heap.size) ∧ ReturnedEndW U o U' L rm.cells rm.slots)
theorem since_refl (s : State) : s.Since s.vm s.heap.size := ⟨State.Warmed39.refl s, fun j p h1 h2 => absurd (Array.getElem?_eq_some_iff.mp h2).1 (Nat.not_lt.mpr h1)⟩
theorem met_ofW {l : Launch} {Z : State} {n0 : Nat} {ws : List Jvm.Cond} {y : MethodName} {bytes : ByteArray} {ml : Nat} {ret : Option FieldType} {rm : Room} {as : Array Value} {h0 : Heap} {P0 : Vm → Prop} {Q : Option Value → Heap → Vm → Prop} {L0 : Array Slot} (hpl : plainFor y = true) (hn0 : n0 ≤ h0.size) (ef : ∀ m, entryFrame m as ml = mkF m 0 L0 [])
    (body : ∀ p e s m below meth c T, P0 s.vm → s.Since s.vm h0.size → Cx p l e rm (s.setVm s.vm) m as below meth c Z bytes ml y.cls ret y.name n0 T h0 0 0 → Run p e below m (Fin1W below s n0 Q rm.cells rm.slots) T 0 L0 []) : Met1W l Z n0 ws y bytes ml ret rm as h0 P0 Q := by
  refine MetFree.of_bodySF hpl hisR ?_
  intro p e s m args below meth c s₁ Bd hml0 hP hK
  obtain ⟨rfl, hZ, hh, hP0⟩ := hP
  have hlk : meth.locks = false := BodyLoose.notSynchronized Bd
  obtain ⟨u, h1, h2, o, h3, h4⟩ := body p e s m below meth c s₁ hP0 (hh ▸ since_refl s) ⟨⟨[], Stand.of_body Bd, Fr.nil n0⟩, by rw [← hh, Bd.state]; rfl, Bd.exec, Bd.bytes, hml0, hZ, findClass_of_methodNamed Bd.named, Bd.returns, (name_of_methodNamed Bd.named Bd.method).1, hlk, hn0⟩
  exact ⟨u, o, castTop (ef m) h1, h2, h3, h4⟩
theorem fin_ofW {Q : Option Value → Heap → Vm → Prop} {cN sN : Nat} {v : Option Value} {a0 : Array Value} (X : Cx p l e R (s.setVm vm0) m args below meth c Z bytes ml own ret mname n0 T h cells slots) (hS : s.Since vm0 k0) (hk : k0 ≤ h.size) (hEL : EW Z a0 EL) (H : CHv Z EL vm0 h) (hc : cells ≤ cN) (hs : slots ≤ sN) (hQ : ∀ vm, CHv Z EL vm h → Q v h vm) (hv : ret = none → v = none) (stp : ∀ {T : State} {locs : List Loc} (X : Stand p l e R (s.setVm vm0) m args below meth c T locs cells slots) (hx : p.tables.exec = Jvm.exec) (hret : meth.sig.returnType = ret) {fs : List Frame}, (∀ (f : JFrame) (acts : List Action), f.method = m → f.locked = none → f.entered = [] → (doReturn e (T.setTop f) acts v).1 = T.setFrames fs) → Steps p.tables e below (T.setTop (mkF m pc L st)) (T.setFrames fs)) : Run p e below m (Fin1W below s n0 Q cN sN) T pc L st := by
  obtain ⟨⟨locs, X, N⟩, e0, hx, hby, hml, hZ, hown, hret, hnm, hlk, hsz⟩ := X
  have HT := (CHv.at X hZ hEL H).1
  obtain ⟨fs, hr, hrun, hended, h1, h2, h3, h4⟩ := X.leaveW hS (by rw [e0]; exact hk) (v := v) (fun q => hv (hret.symm.trans q)) hlk
  refine ⟨_, stp X hx hret hr, hrun, _, hended, v, locs, rfl, ⟨?_, N, ?_⟩, h1, h2, h3, h4.mono hc hs⟩
  · show Q v T.heap T.vm; rw [e0]; exact hQ _ HT
  · show n0 ≤ T.heap.size; rw [e0]; exact hsz
theorem r_retAW {Q : Option Value → Heap → Vm → Prop} {cN sN : Nat} {a0 : Array Value} {t : FieldType} {x : Value} (hd : decode bytes pc = .ok (.areturn, 1)) (ht : t.isReference = true) (hn : narrow t x = x) (hxr : x.isRef = true) (X : Cx p l e R (s.setVm vm0) m args below meth c Z bytes ml own (some t) mname n0 T h cells slots) (hS : s.Since vm0 k0) (hk : k0 ≤ h.size) (hEL : EW Z a0 EL) (H : CHv Z EL vm0 h) (hc : cells ≤ cN) (hs : slots ≤ sN) (hQ : ∀ vm, CHv Z EL vm h → Q (some x) h vm) : Run p e below m (Fin1W below s n0 Q cN sN) T pc L (x :: st) := by
  have hby := X.2.2.2.1
  exact fin_ofW X hS hk hEL H hc hs hQ (fun q => by cases q) (fun X hx' hret fs hr => retOut X hx' (t := t) hret hn (Or.inr (Or.inr (Or.inr (Or.inr ⟨rfl, ht, hxr⟩)))) (hb hby hd) hr)
theorem r_retVW {Q : Option Value → Heap → Vm → Prop} {cN sN : Nat} {a0 : Array Value} (hd : decode bytes pc = .ok (.return_, 1)) (X : Cx p l e R (s.setVm vm0) m args below meth c Z bytes ml own none mname n0 T h cells slots) (hS : s.Since vm0 k0) (hk : k0 ≤ h.size) (hEL : EW Z a0 EL) (H : CHv Z EL vm0 h) (hc : cells ≤ cN) (hs : slots ≤ sN) (hQ : ∀ vm, CHv Z EL vm h → Q none h vm) : Run p e below m (Fin1W below s n0 Q cN sN) T pc L [] := by
  have hby := X.2.2.2.1
  exact fin_ofW X hS hk hEL H hc hs hQ (fun _ => rfl) (fun X hx hret fs hr => X.returnOut hx hret (hb hby hd) hr)
theorem r_retZW {Q : Option Value → Heap → Vm → Prop} {cN sN : Nat} {a0 : Array Value} {x z : Int32} (hd : decode bytes pc = .ok (.ireturn, 1)) (hz : nar .boolean x = z) (X : Cx p l e R (s.setVm vm0) m args below meth c Z bytes ml own (some .boolean) mname n0 T h cells slots) (hS : s.Since vm0 k0) (hk : k0 ≤ h.size) (hEL : EW Z a0 EL) (H : CHv Z EL vm0 h) (hc : cells ≤ cN) (hs : slots ≤ sN) (hQ : ∀ vm, CHv Z EL vm h → Q (some (.int z)) h vm) : Run p e below m (Fin1W below s n0 Q cN sN) T pc L (.int x :: st) := by
  have hby := X.2.2.2.1
  subst hz
  exact fin_ofW X hS hk hEL H hc hs hQ (fun q => by cases q) (fun X hx hret fs hr => retN X hx (t := .boolean) hret (by simp) (hb hby hd) hr)
theorem backW {y : MethodName} {bytes : ByteArray} {maxL : Nat} {ret : Option FieldType} {rm : Room} {len W : Nat} {as' : Array Value} {a0 : Array Value} {P0 : Vm → Prop} {Q : Option Value → Heap → Vm → Prop}
    (hM : Met1W l Z n0 [] y bytes maxL ret rm as' h P0 Q) (hZ : Z.Warmed39 s.vm) (wc : (Jvm.Cond.code y bytes maxL ret).before a0 Z = true) (wz : (Jvm.Cond.initialized y.cls).before a0 Z = true) (hf : rm.frames + 1 ≤ R.frames) (hl : W + (maxL + 11) + rm.locals ≤ R.locals) :
    BackS l R p e below s args y len W (fun A a => a = as' ∧ A.U.heap = h ∧ A.cells + rm.cells ≤ R.cells ∧ A.slots + rm.slots ≤ R.slots ∧ P0 A.U.vm)
      (fun A _ v B => ∃ L, (Q v B.U.heap B.U.vm ∧ Fr n0 L ∧ n0 ≤ B.U.heap.size) ∧ B.locs = A.locs ++ L ∧ B.cells = A.cells + rm.cells ∧ B.slots = A.slots + rm.slots) := by
  have known : ∀ {U : State}, s.WarmedH U.vm → ∀ a : Array Value, (Jvm.Cond.code y bytes maxL ret).before a U = true ∧ (Jvm.Cond.initialized y.cls).before a U = true := fun q a => ⟨mv (wtrans hZ q) wc, mv (wtrans hZ q) wz⟩
  apply BackS.of_freeW (bytes := bytes) (maxL := maxL) (ret := ret) (E := fun _ _ o t L k n => (∃ v, o = .returned v ∧ Q v t.heap t.vm ∧ Fr n0 L ∧ n0 ≤ t.heap.size) ∧ k = rm.cells ∧ n = rm.slots) hM hf hl
  · intro m meth c A a Y hp
    obtain ⟨c1, c2⟩ := known Y.warmed a
    obtain ⟨-, -, k1, k2, -⟩ := hp
    refine ⟨?_, c1, c2, k1, k2⟩
    show (Jvm.Cond.and (Jvm.Cond.code y bytes maxL ret) .tt).before a A.U = true
    rw [Cond.before_and, c1]
    rfl
  · intro m meth c A a g mk Y hp
    obtain ⟨k1, k2, -, -, k3⟩ := hp
    exact ⟨k1, wtrans hZ Y.warmed, k2, k3⟩
  · intros; trivial
  · rintro a first o t ⟨v, L, rfl, q, fe⟩
    exact ⟨L, rm.cells, rm.slots, fe, ⟨v, rfl, q⟩, rfl, rfl⟩
  · rintro m meth c A a g mk v t L k n Y hp - - ⟨⟨v', e', q⟩, rfl, rfl⟩
    cases e'
    exact ⟨L, q, rfl, rfl, rfl⟩
theorem chv_warm {a0 : Array Value} {vm1 : Vm} (hZ : Z.Warmed39 vm0) (w : EW Z a0 EL) (H : CHv Z EL vm0 h) (hW : (s.setVm vm0).WarmedH vm1) : CHr Z EL vm0 h vm1 h := by
  have q := CHv.later (h' := h) hZ (hW := (show (Wst Z vm0 h).Warmed39 vm1 from hW.wide)) w ⟨Nat.le_refl _, fun _ _ q => q⟩ (Or.inl hW.interned_eq) H
  exact ⟨q.1, Nat.le_refl _, q.2⟩
theorem r_callSW (pc' : Nat) (X : Cx p l e R (s.setVm vm0) m args below meth c Z bytes ml own ret mname n0 T h cells slots) (hS : s.Since vm0 k0) (hk : k0 ≤ h.size) {a0 : Array Value} {y : MethodName} {by' : ByteArray} {ml' : Nat} {ret' : Option FieldType} {rm : Room} {as : Array Value} {P0 : Vm → Prop} {Q : Option Value → Heap → Vm → Prop} {index : Nat}  (hM : Met1W l Z n0 [] y by' ml' ret' rm as h P0 Q) (hP : ∀ vm1, (s.setVm vm0).WarmedH vm1 → P0 vm1) (w1 : (Jvm.Cond.methodLink own index y).before a0 Z = true) (w2 : (Jvm.Cond.static y).before a0 Z = true) (wc : (Jvm.Cond.code y by' ml' ret').before a0 Z = true) (wz : (Jvm.Cond.initialized y.cls).before a0 Z = true) (hy : y.cls ≠ "java/lang/invoke/MethodHandle" ∧ y.cls ≠ "java/lang/invoke/VarHandle") {ps : List FieldType} {rt : Option FieldType} (pd : parseMethodDescriptor y.desc = some ⟨ps, rt⟩) (argsL : List Value) (has : argsL.toArray = as) (hln : argsL.length = ps.length) (W : Nat) (hW : (st.map fun v => v.category).sum ≤ W) (hsize : L.size = ml) (hf : rm.frames + 1 ≤ R.frames) (hl : W + (ml' + 11) + rm.locals ≤ R.locals) (hc : cells + rm.cells ≤ R.cells) (hs : slots + rm.slots ≤ R.slots) (hd : decode bytes pc = .ok (.invokestatic index, 3)) (r : ∀ T' h' v vm1 k1, Q v h' vm1 → s.Since vm1 k1 → k1 ≤ h'.size → Cx p l e R (s.setVm vm1) m args below meth c Z bytes ml own ret mname n0 T' h' (cells + rm.cells) (slots + rm.slots) → Run p e below m K T' pc' L (v.toList ++ st)) (q : pc + 3 = pc' := by rfl) {S : List Value} (hSt : S = argsL.reverse ++ st := by rfl) : Run p e below m K T pc L S := by
  obtain ⟨⟨locs, X, N⟩, e0, hx, hby, hml, hZ, hown, hret, hnm, hlk, hsz⟩ := X
  subst q has hSt
  obtain ⟨v, _, ⟨T', L', k', n'⟩, -, X', hS', hgr, ⟨Lc, hQ', l', y', z'⟩, stp⟩ := callSS X hx (y := y) hown (mvT hZ w1) (mvT hZ w2) (mvT hZ wz) (mvT hZ wc) hy (backW (W := W) hM hZ wc wz hf hl) (g := mkF m pc L (argsL.reverse ++ st)) rfl (by rw [hml]; exact hsize) (argsL := argsL) (rest := st) (lenOf pd hln) rfl (by show 2 * 0 + _ ≤ _; omega) (hb hby hd) (fun vm1 hw1 => ⟨rfl, e0, hc, hs, hP vm1 hw1⟩)
  dsimp only [Pt.U, Pt.locs, Pt.cells, Pt.slots] at X' l' y' z' stp hQ' hS' hgr
  subst l' y' z'
  obtain ⟨hQ1, N1, hs1⟩ := hQ'
  have hkT : k0 ≤ T.heap.size := by rw [e0]; exact hk
  exact Run.of (fun t k => stp.trans k) (r T' _ v T'.vm T'.heap.size hQ1 (foldS hS hkT hS' hgr) (Nat.le_refl _) ⟨⟨_, X', Fr.app N N1⟩, rfl, hx, hby, hml, State.Warmed39.trans (t := s.setVm vm0) hZ hS'.1, by rw [show (s.setVm T'.vm).vm = T'.vm from rfl, hS'.1.alike.findClass]; exact hown, hret, hnm, hlk, hs1⟩)
theorem r_specialW (pc' : Nat) (X : Cx p l e R (s.setVm vm0) m args below meth c Z bytes ml own ret mname n0 T h cells slots) (hS : s.Since vm0 k0) (hk : k0 ≤ h.size) {a0 : Array Value} {y : MethodName} {by' : ByteArray} {ml' : Nat} {ret' : Option FieldType} {rm : Room} {as : Array Value} {P0 : Vm → Prop} {Q : Option Value → Heap → Vm → Prop} {index : Nat} {a : Addr} (hM : Met1W l Z n0 [] y by' ml' ret' rm as h P0 Q) (hP : ∀ vm1, (s.setVm vm0).WarmedH vm1 → P0 vm1) (hyn : y.name = "<init>") (hr0 : ret' = none) (w1 : (Jvm.Cond.methodLink own index y).before a0 Z = true) (w2 : (Jvm.Cond.instanceMethod y).before a0 Z = true) (wc : (Jvm.Cond.code y by' ml' ret').before a0 Z = true) (wz : (Jvm.Cond.initialized y.cls).before a0 Z = true) (hy : y.cls ≠ "java/lang/invoke/MethodHandle" ∧ y.cls ≠ "java/lang/invoke/VarHandle") {ps : List FieldType} {rt : Option FieldType} (pd : parseMethodDescriptor y.desc = some ⟨ps, rt⟩) (argsL : List Value) (has : (Value.ref a :: argsL).toArray = as) (hln : argsL.length = ps.length) (W : Nat) (hW : (st.map fun v => v.category).sum ≤ W) (hsize : L.size = ml) (hf : rm.frames + 1 ≤ R.frames) (hl : W + (ml' + 11) + rm.locals ≤ R.locals) (hc : cells + rm.cells ≤ R.cells) (hs : slots + rm.slots ≤ R.slots) (hd : decode bytes pc = .ok (.invokespecial index, 3)) (r : ∀ T' h' v vm1 k1, Q v h' vm1 → s.Since vm1 k1 → k1 ≤ h'.size → Cx p l e R (s.setVm vm1) m args below meth c Z bytes ml own ret mname n0 T' h' (cells + rm.cells) (slots + rm.slots) → Run p e below m K T' pc' L (v.toList ++ st)) (q : pc + 3 = pc' := by rfl) {S : List Value} (hSt : S = argsL.reverse ++ Value.ref a :: st := by rfl) : Run p e below m K T pc L S := by
  obtain ⟨⟨locs, X, N⟩, e0, hx, hby, hml, hZ, hown, hret, hnm, hlk, hsz⟩ := X
  subst q has hSt
  subst hr0
  obtain ⟨v, _, ⟨T', L', k', n'⟩, -, X', hS', hgr, ⟨Lc, hQ', l', y', z'⟩, stp⟩ := X.specialBackS hx (y := y) hyn hown (mvT hZ w1) (mvT hZ w2) (mvT hZ wc) hy (backW (W := W) hM hZ wc wz hf hl) (g := mkF m pc L (argsL.reverse ++ .ref a :: st)) rfl (by rw [hml]; exact hsize) (Steps.refl _) (a := a) (argsL := argsL) (rest := st) (lenOf pd hln) rfl (by show 2 * 0 + _ ≤ _; omega) (hb hby hd) (fun vm1 hw1 => ⟨rfl, e0, hc, hs, hP vm1 hw1⟩)
  dsimp only [Pt.U, Pt.locs, Pt.cells, Pt.slots] at X' l' y' z' stp hQ' hS' hgr
  subst l' y' z'
  obtain ⟨hQ1, N1, hs1⟩ := hQ'
  have hkT : k0 ≤ T.heap.size := by rw [e0]; exact hk
  exact Run.of (fun t k => stp.trans k) (r T' _ v T'.vm T'.heap.size hQ1 (foldS hS hkT hS' hgr) (Nat.le_refl _) ⟨⟨_, X', Fr.app N N1⟩, rfl, hx, hby, hml, State.Warmed39.trans (t := s.setVm vm0) hZ hS'.1, by rw [show (s.setVm T'.vm).vm = T'.vm from rfl, hS'.1.alike.findClass]; exact hown, hret, hnm, hlk, hs1⟩)
theorem r_ldcE (pc' : Nat) (X : Cx p l e R (s.setVm vm0) m args below meth c Z bytes ml own ret mname n0 T h cells slots) (hS : s.Since vm0 k0) (hk : k0 ≤ h.size) {a0 : Array Value} (hEL : EW Z a0 EL) (H : CHv Z EL vm0 h) {index : Nat} (hmem : (own, index) ∈ EL) (w : (Jvm.Cond.stringLink own index "").before a0 Z = true) (wS : ∀ a ∈ Bundle.stringAtoms, a.before a0 Z = true) (hd : decode bytes pc = .ok (.ldc index, 2)) (hc : cells + 2 ≤ R.cells) (hl : slots + 4 ≤ R.slots) (r : ∀ T' h' vm1 k1 a b, Ext h h' → Exa Z h' a "java/lang/String" → Fld Z h' a "java/lang/String" "coder" "B" (.int 0) → Fld Z h' a "java/lang/String" "value" "[B" (.ref b) → AF Z h' b .byte 0 (fun _ => .int 0) → (∀ x, Safe Z EL vm1 h' x → x ≠ a ∧ x ≠ b) → CHr Z EL vm0 h vm1 h' → s.Since vm1 k1 → k1 ≤ h'.size → Cx p l e R (s.setVm vm1) m args below meth c Z bytes ml own ret mname n0 T' h' (cells + 2) (slots + 4) → Run p e below m K T' pc' L (.ref a :: st)) (q : pc + 2 = pc' := by rfl) : Run p e below m K T pc L st := by
  obtain ⟨⟨locs, X, N⟩, e0, hx, hby, hml, hZ, hown, hret, hnm, hlk, hsz⟩ := X
  subst q
  obtain ⟨a, T', h', k1, b, kk, X', e', E', hS', hk', hZ', hown', Ea, Fc, Fv, ⟨cb, Ab, -, Sb, -, -, -⟩, -, -, hC, -, hSafe, stp⟩ := ldcCH X hx hZ hown w wS e0 hS hk hEL hmem H (vs := []) (z := 0) ⟨(fun _ q => nomatch q), rfl⟩ (by decide) rfl (g := mkF m pc L st) rfl (hb hby hd) (n := 0) (by decide) (by decide) hc hl
  have Sb0 : cb.slots.size = 0 := Sb
  exact Run.of stp (r T' h' T'.vm k1 a b E' Ea Fc Fv ⟨cb, Ab, Sb0, by decide, fun j hj => absurd hj (Nat.not_lt_zero _)⟩ hSafe hC hS' hk' ⟨⟨_, X', N⟩, e', hx, hby, hml, hZ', hown', hret, hnm, hlk, Nat.le_trans hsz E'.1⟩)
end OwnW

theorem d10_0 : decode jdk_52_method_21_code 0 = .ok (.iconst 0, 1) := by decide +kernel
theorem d10_1 : decode jdk_52_method_21_code 1 = .ok (.istore 5, 2) := by decide +kernel
theorem d10_3 : decode jdk_52_method_21_code 3 = .ok (.iload 5, 2) := by decide +kernel
theorem d10_5 : decode jdk_52_method_21_code 5 = .ok (.iload 4, 2) := by decide +kernel
theorem d10_7 : decode jdk_52_method_21_code 7 = .ok (.if_icmp .ge 37, 3) := by decide +kernel
theorem d10_10 : decode jdk_52_method_21_code 10 = .ok (.aload_n 0, 1) := by decide +kernel
theorem d10_11 : decode jdk_52_method_21_code 11 = .ok (.iload_n 1, 1) := by decide +kernel
theorem d10_12 : decode jdk_52_method_21_code 12 = .ok (.caload, 1) := by decide +kernel
theorem d10_13 : decode jdk_52_method_21_code 13 = .ok (.istore 6, 2) := by decide +kernel
theorem d10_15 : decode jdk_52_method_21_code 15 = .ok (.iload 6, 2) := by decide +kernel
theorem d10_17 : decode jdk_52_method_21_code 17 = .ok (.sipush 255, 3) := by decide +kernel
theorem d10_20 : decode jdk_52_method_21_code 20 = .ok (.if_icmp .le 6, 3) := by decide +kernel
theorem d10_26 : decode jdk_52_method_21_code 26 = .ok (.aload_n 2, 1) := by decide +kernel
theorem d10_27 : decode jdk_52_method_21_code 27 = .ok (.iload_n 3, 1) := by decide +kernel
theorem d10_28 : decode jdk_52_method_21_code 28 = .ok (.iload 6, 2) := by decide +kernel
theorem d10_30 : decode jdk_52_method_21_code 30 = .ok (.i2b, 1) := by decide +kernel
theorem d10_31 : decode jdk_52_method_21_code 31 = .ok (.bastore, 1) := by decide +kernel
theorem d10_32 : decode jdk_52_method_21_code 32 = .ok (.iinc 1 1, 3) := by decide +kernel
theorem d10_35 : decode jdk_52_method_21_code 35 = .ok (.iinc 3 1, 3) := by decide +kernel
theorem d10_38 : decode jdk_52_method_21_code 38 = .ok (.iinc 5 1, 3) := by decide +kernel
theorem d10_41 : decode jdk_52_method_21_code 41 = .ok (.goto (-38), 3) := by decide +kernel
theorem d10_44 : decode jdk_52_method_21_code 44 = .ok (.iload 4, 2) := by decide +kernel
theorem d10_46 : decode jdk_52_method_21_code 46 = .ok (.ireturn, 1) := by decide +kernel
theorem pn_10 : plainName "java/lang/StringUTF16" = true := by first | (simp [plainName, overriddenIn]; done) | decide +kernel
theorem ef_10 (m : MethodId) (x0 : Addr) (x1 : Int32) (x2 : Addr) (x3 : Int32) (x4 : Int32) : entryFrame m #[(.ref x0), (.int x1), (.ref x2), (.int x3), (.int x4)] 7 = mkF m 0 #[.val (.ref x0), .val (.int x1), .val (.ref x2), .val (.int x3), .val (.int x4), .unset, .unset] [] := by first | (simp [entryFrame, mkF, argsToLocals, Value.category]; done) | rfl
set_option maxRecDepth 65536 in
set_option maxHeartbeats 40000000 in
theorem rmC5_1 (l : Launch) (Z : State) (a0 : Array Value) (hw : ∀ d ∈ tables_1, d.before a0 Z = true) (n0 : Nat) (h : Heap) (Z0 : n0 ≤ h.size) (a1 a2 : Addr) (f g : Nat → Int32) (hf0 : ¬ (255 : Int32) < f 0) (ga2 : n0 ≤ a2) (ne_a1_a2 : a1 ≠ a2) (A_a1 : AF Z h a1 .char 1 (fun j => .int (f j))) (A_a2 : AF Z h a2 .byte 1 (fun j => .int (g j))) :
    Met1 l Z n0 [] (⟨"java/lang/StringUTF16", "compress", "([CI[BII)I"⟩ : MethodName) jdk_52_method_21_code 7 (some .int) ({ frames := 0, cells := 0, slots := 0, locals := 0 } : Room) #[(.ref a1), (.int (0 : Int32)), (.ref a2), (.int (0 : Int32)), (.int (1 : Int32))] h (fun v h' => v = some (.int 1) ∧ Keep h h' [a2] ∧ ∃ g' : Nat → Int32, AF Z h' a2 .byte 1 (fun j => .int (g' j))) := by
  refine met_of (plainFor_of_name pn_10) Z0 (fun m => ef_10 m a1 (0 : Int32) a2 (0 : Int32) (1 : Int32)) ?_
  intro p e s m below meth c T hs0 X
  have K := Keep.refl h [a2]
  refine r_iconst 1 X (0 : Int32) d10_0 rfl ?_
  refine r_istore 3 X #[.val (.ref a1), .val (.int (0 : Int32)), .val (.ref a2), .val (.int (0 : Int32)), .val (.int (1 : Int32)), .val (.int (0 : Int32)), .unset] d10_1 rfl ?_
  refine r_iload 5 X d10_3 rfl ?_
  refine r_iload 7 X d10_5 rfl ?_
  refine r_icmpN 10 X d10_7 (tlt (by decide)).2.1 ?_
  refine r_aloadN 11 X d10_10 rfl rfl ?_
  refine r_iloadN 12 X d10_11 rfl ?_
  refine r_caload 13 X A_a1 (i := 0) (v := (.int (f 0))) (by decide) (by decide) rfl d10_12 ?_
  refine r_istore 15 X #[.val (.ref a1), .val (.int (0 : Int32)), .val (.ref a2), .val (.int (0 : Int32)), .val (.int (1 : Int32)), .val (.int (0 : Int32)), .val (.int (f 0))] d10_13 rfl ?_
  refine r_iload 17 X d10_15 rfl ?_
  refine r_sipush 20 X (255 : Int32) d10_17 rfl ?_
  refine r_icmpY 26 X d10_20 (flt hf0).2.2.2 ?_
  refine r_aloadN 27 X d10_26 rfl rfl ?_
  refine r_iloadN 28 X d10_27 rfl ?_
  refine r_iload 30 X d10_28 rfl ?_
  refine r_i2b 31 X d10_30 ?_
  refine r_bastoreB 32 X A_a2 (i := 0) (v := (.int (nar .byte ((f 0).toInt8.toInt32)))) (by decide) (by decide) rfl ga2 d10_31 ?_
  intro T h1 W1 X
  have K := K.wr W1 (Or.inl (List.mem_of_getElem? (i := 0) rfl))
  have A_a1 := A_a1.other W1 ne_a1_a2
  have A_a2 := A_a2.setI W1
  refine r_iinc 35 X (1 : Int32) #[.val (.ref a1), .val (.int (1 : Int32)), .val (.ref a2), .val (.int (0 : Int32)), .val (.int (1 : Int32)), .val (.int (0 : Int32)), .val (.int (f 0))] d10_32 rfl rfl rfl ?_
  refine r_iinc 38 X (1 : Int32) #[.val (.ref a1), .val (.int (1 : Int32)), .val (.ref a2), .val (.int (1 : Int32)), .val (.int (1 : Int32)), .val (.int (0 : Int32)), .val (.int (f 0))] d10_35 rfl rfl rfl ?_
  refine r_iinc 41 X (1 : Int32) #[.val (.ref a1), .val (.int (1 : Int32)), .val (.ref a2), .val (.int (1 : Int32)), .val (.int (1 : Int32)), .val (.int (1 : Int32)), .val (.int (f 0))] d10_38 rfl rfl rfl ?_
  refine r_goto 3 X d10_41 ?_
  refine r_iload 5 X d10_3 rfl ?_
  refine r_iload 7 X d10_5 rfl ?_
  refine r_icmpY 44 X d10_7 (flt (by decide)).2.1 ?_
  refine r_iload 46 X d10_44 rfl ?_
  refine r_retI X d10_46 (by decide) (by decide) ?_
  exact ⟨rfl, K, _, A_a2⟩
theorem d9_0 : decode jdk_52_method_16_code 0 = .ok (.iload_n 2, 1) := by decide +kernel
theorem d9_1 : decode jdk_52_method_16_code 1 = .ok (.newarray .byte, 2) := by decide +kernel
theorem d9_3 : decode jdk_52_method_16_code 3 = .ok (.astore_n 3, 1) := by decide +kernel
theorem d9_4 : decode jdk_52_method_16_code 4 = .ok (.aload_n 0, 1) := by decide +kernel
theorem d9_5 : decode jdk_52_method_16_code 5 = .ok (.iload_n 1, 1) := by decide +kernel
theorem d9_6 : decode jdk_52_method_16_code 6 = .ok (.aload_n 3, 1) := by decide +kernel
theorem d9_7 : decode jdk_52_method_16_code 7 = .ok (.iconst 0, 1) := by decide +kernel
theorem d9_8 : decode jdk_52_method_16_code 8 = .ok (.iload_n 2, 1) := by decide +kernel
theorem d9_9 : decode jdk_52_method_16_code 9 = .ok (.invokestatic 115, 3) := by decide +kernel
theorem d9_12 : decode jdk_52_method_16_code 12 = .ok (.istore 4, 2) := by decide +kernel
theorem d9_14 : decode jdk_52_method_16_code 14 = .ok (.iload 4, 2) := by decide +kernel
theorem d9_16 : decode jdk_52_method_16_code 16 = .ok (.iload_n 2, 1) := by decide +kernel
theorem d9_17 : decode jdk_52_method_16_code 17 = .ok (.if_icmp .eq 40, 3) := by decide +kernel
theorem d9_57 : decode jdk_52_method_16_code 57 = .ok (.aload_n 3, 1) := by decide +kernel
theorem d9_58 : decode jdk_52_method_16_code 58 = .ok (.areturn, 1) := by decide +kernel
theorem pn_9 : plainName "java/lang/StringUTF16" = true := by first | (simp [plainName, overriddenIn]; done) | decide +kernel
theorem ef_9 (m : MethodId) (x0 : Addr) (x1 : Int32) (x2 : Int32) : entryFrame m #[(.ref x0), (.int x1), (.int x2)] 6 = mkF m 0 #[.val (.ref x0), .val (.int x1), .val (.int x2), .unset, .unset, .unset] [] := by first | (simp [entryFrame, mkF, argsToLocals, Value.category]; done) | rfl
set_option maxRecDepth 65536 in
set_option maxHeartbeats 40000000 in
theorem rmC3_1 (l : Launch) (Z : State) (a0 : Array Value) (hw : ∀ d ∈ tables_1, d.before a0 Z = true) (n0 : Nat) (h : Heap) (Z0 : n0 ≤ h.size) (a1 : Addr) (f : Nat → Int32) (hf0 : ¬ (255 : Int32) < f 0) (A_a1 : AF Z h a1 .char 1 (fun j => .int (f j))) :
    Met1 l Z n0 [] (⟨"java/lang/StringUTF16", "compress", "([CII)[B"⟩ : MethodName) jdk_52_method_16_code 6 (some (.array .byte)) ({ frames := 1, cells := 1, slots := 1, locals := 18 } : Room) #[(.ref a1), (.int (0 : Int32)), (.int (1 : Int32))] h (fun v h' => ∃ b, v = some (.ref b) ∧ Keep h h' [] ∧ h.size ≤ b ∧ n0 ≤ b ∧ ∃ g : Nat → Int32, AF Z h' b .byte 1 (fun j => .int (g j))) := by
  refine met_of (plainFor_of_name pn_9) Z0 (fun m => ef_9 m a1 (0 : Int32) (1 : Int32)) ?_
  intro p e s m below meth c T hs0 X
  have K := Keep.refl h []
  refine r_iloadN 1 X d9_0 rfl ?_
  refine r_newarray 3 X 1 1 (hw _ (List.mem_of_getElem? (i := 19) rfl)) d9_1 (by decide) (by decide) (by decide) (by decide) (by decide) ?_
  intro T h1 b1 g1 gn_b1 E1 A_b1 X
  have sz_b1 : h.size ≤ b1 := Nat.le_trans K.1 (Nat.le_of_eq g1.symm)
  have ne_a1_b1 : a1 ≠ b1 := Nat.ne_of_lt (Nat.lt_of_lt_of_eq A_a1.lt g1.symm)
  have K := K.ext E1
  have A_a1 := A_a1.ext E1
  replace A_b1 : AF Z h1 b1 .byte 1 (fun j => .int ((fun _ => (0 : Int32)) j)) := A_b1
  refine r_astoreN 4 X #[.val (.ref a1), .val (.int (0 : Int32)), .val (.int (1 : Int32)), .val (.ref b1), .unset, .unset] d9_3 rfl rfl ?_
  refine r_aloadN 5 X d9_4 rfl rfl ?_
  refine r_iloadN 6 X d9_5 rfl ?_
  refine r_aloadN 7 X d9_6 rfl rfl ?_
  refine r_iconst 8 X (0 : Int32) d9_7 rfl ?_
  refine r_iloadN 9 X d9_8 rfl ?_
  refine r_callS 12 X (st := []) (rmC5_1 l Z a0 hw n0 _ X.sz a1 b1 f (fun _ => (0 : Int32)) hf0 gn_b1 ne_a1_b1 A_a1 A_b1) (hw _ (List.mem_of_getElem? (i := 59) rfl)) (hw _ (List.mem_of_getElem? (i := 60) rfl)) (hw _ (List.mem_of_getElem? (i := 61) rfl)) (hw _ (List.mem_of_getElem? (i := 57) rfl)) (by decide) pd_0 [(.ref a1), (.int (0 : Int32)), (.ref b1), (.int (0 : Int32)), (.int (1 : Int32))] rfl rfl 0 (Nat.le_of_eq rfl) rfl (by decide) (by decide) (by decide) (by decide) d9_9 ?_
  rintro T h2 v2 ⟨rfl, K2, g2, B2⟩ X
  have K := K.trans K2 (allS (Or.inr sz_b1) all0)
  have A_a1 := A_a1.keep K2 (ninS ne_a1_b1 nin0)
  have A_b1 := B2
  change Run _ _ _ _ _ _ _ _ [(.int (1 : Int32))]
  refine r_istore 14 X #[.val (.ref a1), .val (.int (0 : Int32)), .val (.int (1 : Int32)), .val (.ref b1), .val (.int (1 : Int32)), .unset] d9_12 rfl ?_
  refine r_iload 16 X d9_14 rfl ?_
  refine r_iloadN 17 X d9_16 rfl ?_
  refine r_icmpY 57 X d9_17 (teq (by decide)).1 ?_
  refine r_aloadN 58 X d9_57 rfl rfl ?_
  refine r_retA X d9_58 rfl rfl rfl (by decide) (by decide) ?_
  exact ⟨b1, rfl, K, sz_b1, gn_b1, _, A_b1⟩
theorem d11_0 : decode jdk_52_method_15_code 0 = .ok (.iload_n 1, 1) := by decide +kernel
theorem d11_1 : decode jdk_52_method_15_code 1 = .ok (.aload_n 0, 1) := by decide +kernel
theorem d11_2 : decode jdk_52_method_15_code 2 = .ok (.arraylength, 1) := by decide +kernel
theorem d11_3 : decode jdk_52_method_15_code 3 = .ok (.isub, 1) := by decide +kernel
theorem d11_4 : decode jdk_52_method_15_code 4 = .ok (.bipush 31, 2) := by decide +kernel
theorem d11_6 : decode jdk_52_method_15_code 6 = .ok (.iushr, 1) := by decide +kernel
theorem d11_7 : decode jdk_52_method_15_code 7 = .ok (.i2b, 1) := by decide +kernel
theorem d11_8 : decode jdk_52_method_15_code 8 = .ok (.ireturn, 1) := by decide +kernel
theorem pn_11 : plainName "java/lang/StringUTF16" = true := by first | (simp [plainName, overriddenIn]; done) | decide +kernel
theorem ef_11 (m : MethodId) (x0 : Addr) (x1 : Int32) : entryFrame m #[(.ref x0), (.int x1)] 2 = mkF m 0 #[.val (.ref x0), .val (.int x1)] [] := by first | (simp [entryFrame, mkF, argsToLocals, Value.category]; done) | rfl
set_option maxRecDepth 65536 in
set_option maxHeartbeats 40000000 in
theorem rmCo_1 (l : Launch) (Z : State) (a0 : Array Value) (hw : ∀ d ∈ tables_1, d.before a0 Z = true) (n0 : Nat) (h : Heap) (Z0 : n0 ≤ h.size) (a1 : Addr) (g : Nat → Value) (A_a1 : AF Z h a1 .byte 1 g) :
    Met1 l Z n0 [] (⟨"java/lang/StringUTF16", "coderFromArrayLen", "([BI)B"⟩ : MethodName) jdk_52_method_15_code 2 (some .byte) ({ frames := 0, cells := 0, slots := 0, locals := 0 } : Room) #[(.ref a1), (.int (1 : Int32))] h (fun v h' => v = some (.int 0) ∧ h = h') := by
  refine met_of (plainFor_of_name pn_11) Z0 (fun m => ef_11 m a1 (1 : Int32)) ?_
  intro p e s m below meth c T hs0 X
  refine r_iloadN 1 X d11_0 rfl ?_
  refine r_aloadN 2 X d11_1 rfl rfl ?_
  refine r_arraylength 3 X A_a1 (1 : Int32) (by decide) d11_2 ?_
  refine r_isub 4 X d11_3 ?_
  refine r_topI (x' := (0 : Int32)) (by decide) ?_
  refine r_bipush 6 X (31 : Int32) d11_4 rfl ?_
  refine r_iushr 7 X d11_6 ?_
  refine r_topI (x' := (0 : Int32)) (by decide) ?_
  refine r_i2b 8 X d11_7 ?_
  refine r_topI (x' := (0 : Int32)) (by decide) ?_
  refine r_retB (z := (0 : Int32)) X d11_8 rfl (by decide) (by decide) ?_
  exact ⟨rfl, rfl⟩
theorem d3_0 : decode jdk_42_method_149_code 0 = .ok (.aload_n 0, 1) := by decide +kernel
theorem d3_1 : decode jdk_42_method_149_code 1 = .ok (.invokespecial 1, 3) := by decide +kernel
theorem d3_4 : decode jdk_42_method_149_code 4 = .ok (.iload_n 3, 1) := by decide +kernel
theorem d3_5 : decode jdk_42_method_149_code 5 = .ok (.ifCond .ne 22, 3) := by decide +kernel
theorem d3_27 : decode jdk_42_method_149_code 27 = .ok (.getstatic 38, 3) := by decide +kernel
theorem d3_30 : decode jdk_42_method_149_code 30 = .ok (.ifCond .eq 28, 3) := by decide +kernel
theorem d3_33 : decode jdk_42_method_149_code 33 = .ok (.aload_n 1, 1) := by decide +kernel
theorem d3_34 : decode jdk_42_method_149_code 34 = .ok (.iload_n 2, 1) := by decide +kernel
theorem d3_35 : decode jdk_42_method_149_code 35 = .ok (.iload_n 3, 1) := by decide +kernel
theorem d3_36 : decode jdk_42_method_149_code 36 = .ok (.invokestatic 177, 3) := by decide +kernel
theorem d3_39 : decode jdk_42_method_149_code 39 = .ok (.astore 5, 2) := by decide +kernel
theorem d3_41 : decode jdk_42_method_149_code 41 = .ok (.aload_n 0, 1) := by decide +kernel
theorem d3_42 : decode jdk_42_method_149_code 42 = .ok (.aload 5, 2) := by decide +kernel
theorem d3_44 : decode jdk_42_method_149_code 44 = .ok (.iload_n 3, 1) := by decide +kernel
theorem d3_45 : decode jdk_42_method_149_code 45 = .ok (.invokestatic 47, 3) := by decide +kernel
theorem d3_48 : decode jdk_42_method_149_code 48 = .ok (.putfield 15, 3) := by decide +kernel
theorem d3_51 : decode jdk_42_method_149_code 51 = .ok (.aload_n 0, 1) := by decide +kernel
theorem d3_52 : decode jdk_42_method_149_code 52 = .ok (.aload 5, 2) := by decide +kernel
theorem d3_54 : decode jdk_42_method_149_code 54 = .ok (.putfield 9, 3) := by decide +kernel
theorem d3_57 : decode jdk_42_method_149_code 57 = .ok (.return_, 1) := by decide +kernel
theorem pn_3 : plainName "java/lang/String" = true := by first | (simp [plainName, overriddenIn]; done) | decide +kernel
theorem ef_3 (m : MethodId) (x0 : Addr) (x1 : Addr) (x2 : Int32) (x3 : Int32) : entryFrame m #[(.ref x0), (.ref x1), (.int x2), (.int x3), .null] 6 = mkF m 0 #[.val (.ref x0), .val (.ref x1), .val (.int x2), .val (.int x3), .val .null, .unset] [] := by first | (simp [entryFrame, mkF, argsToLocals, Value.category]; done) | rfl
set_option maxRecDepth 65536 in
set_option maxHeartbeats 40000000 in
theorem rmI4_1 (l : Launch) (Z : State) (a0 : Array Value) (hw : ∀ d ∈ tables_1, d.before a0 Z = true) (n0 : Nat) (h : Heap) (Z0 : n0 ≤ h.size) (a1 a2 : Addr) (f : Nat → Int32) (cs : Int32) (hf0 : ¬ (255 : Int32) < f 0) (ncs : ¬ cs = (0 : Int32)) (ga1 : n0 ≤ a1) (ne_a1_a2 : a1 ≠ a2) (S_COMPACT_STRINGS : Sta Z h "java/lang/String" "COMPACT_STRINGS" "Z" (.int cs)) (E_a1 : Exa Z h a1 "java/lang/String") (F_a1_value : Fld Z h a1 "java/lang/String" "value" "[B" .null) (F_a1_coder : Fld Z h a1 "java/lang/String" "coder" "B" (.int (0 : Int32))) (A_a2 : AF Z h a2 .char 1 (fun j => .int (f j))) :
    Met1 l Z n0 [] (⟨"java/lang/String", "<init>", "([CIILjava/lang/Void;)V"⟩ : MethodName) jdk_42_method_149_code 6 none ({ frames := 2, cells := 1, slots := 1, locals := 35 } : Room) #[(.ref a1), (.ref a2), (.int (0 : Int32)), (.int (1 : Int32)), .null] h (fun v h' => v = none ∧ Keep h h' [a1] ∧ ∃ (b : Addr) (g : Nat → Int32), Fld Z h' a1 "java/lang/String" "value" "[B" (.ref b) ∧ AF Z h' b .byte 1 (fun j => .int (g j))) := by
  refine met_of (plainFor_of_name pn_3) Z0 (fun m => ef_3 m a1 a2 (0 : Int32) (1 : Int32)) ?_
  intro p e s m below meth c T hs0 X
  have K := Keep.refl h [a1]
  refine r_aloadN 1 X d3_0 rfl rfl ?_
  refine r_initO 4 X (hw _ (List.mem_of_getElem? (i := 15) rfl)) (hw _ (List.mem_of_getElem? (i := 16) rfl)) (hw _ (List.mem_of_getElem? (i := 17) rfl)) d3_1 rfl (by decide) 0 (Nat.le_of_eq rfl) (by decide) ?_
  intro T X
  refine r_iloadN 5 X d3_4 rfl ?_
  refine r_ifY 27 X d3_5 ((if0 _ _).trans (feq (by decide)).2) ?_
  refine r_getstatic 30 X (host := "") (Or.inl (hw _ (List.mem_of_getElem? (i := 54) rfl))) Via.refl S_COMPACT_STRINGS d3_27 ?_
  intro T X
  refine r_ifN 33 X d3_30 ((if0 _ _).trans (feq ncs).1) ?_
  refine r_aloadN 34 X d3_33 rfl rfl ?_
  refine r_iloadN 35 X d3_34 rfl ?_
  refine r_iloadN 36 X d3_35 rfl ?_
  refine r_callS 39 X (st := []) (rmC3_1 l Z a0 hw n0 _ X.sz a2 f hf0 A_a2) (hw _ (List.mem_of_getElem? (i := 55) rfl)) (hw _ (List.mem_of_getElem? (i := 56) rfl)) (hw _ (List.mem_of_getElem? (i := 58) rfl)) (hw _ (List.mem_of_getElem? (i := 57) rfl)) (by decide) pd_1 [(.ref a2), (.int (0 : Int32)), (.int (1 : Int32))] rfl rfl 0 (Nat.le_of_eq rfl) rfl (by decide) (by decide) (by decide) (by decide) d3_36 ?_
  rintro T h1 v1 ⟨bt, rfl, K1, zbt, gbt, gbt_, Abt⟩ X
  have ne_a1_bt : a1 ≠ bt := Nat.ne_of_lt (Nat.lt_of_lt_of_le E_a1.lt zbt)
  have ne_a2_bt : a2 ≠ bt := Nat.ne_of_lt (Nat.lt_of_lt_of_le A_a2.lt zbt)
  have K := K.trans K1 all0
  have S_COMPACT_STRINGS := S_COMPACT_STRINGS.ext (keepExt K1)
  have E_a1 := E_a1.keep K1
  have F_a1_value := F_a1_value.keep K1 nin0
  have F_a1_coder := F_a1_coder.keep K1 nin0
  have A_a2 := A_a2.keep K1 nin0
  have A_bt := Abt
  change Run _ _ _ _ _ _ _ _ [(.ref bt)]
  refine r_astore 41 X #[.val (.ref a1), .val (.ref a2), .val (.int (0 : Int32)), .val (.int (1 : Int32)), .val .null, .val (.ref bt)] d3_39 rfl rfl ?_
  refine r_aloadN 42 X d3_41 rfl rfl ?_
  refine r_aload 44 X d3_42 rfl rfl ?_
  refine r_iloadN 45 X d3_44 rfl ?_
  refine r_callS 48 X (st := [(.ref a1)]) (rmCo_1 l Z a0 hw n0 _ X.sz bt _ A_bt) (hw _ (List.mem_of_getElem? (i := 62) rfl)) (hw _ (List.mem_of_getElem? (i := 63) rfl)) (hw _ (List.mem_of_getElem? (i := 64) rfl)) (hw _ (List.mem_of_getElem? (i := 57) rfl)) (by decide) pd_2 [(.ref bt), (.int (1 : Int32))] rfl rfl 1 (Nat.le_of_eq rfl) rfl (by decide) (by decide) (by decide) (by decide) d3_45 ?_
  rintro T h2 v2 ⟨rfl, rfl⟩ X
  change Run _ _ _ _ _ _ _ _ [(.int (0 : Int32)), (.ref a1)]
  refine r_putfieldN 51 X (hw _ (List.mem_of_getElem? (i := 25) rfl)) Via.refl F_a1_coder E_a1 (Or.inr ⟨(hw _ (List.mem_of_getElem? (i := 21) rfl)), rfl, rfl⟩) (hw _ (List.mem_of_getElem? (i := 5) rfl)) (ty := .byte) (v' := (.int (0 : Int32))) (by decide) rfl rfl ga1 d3_48 ?_
  intro T h3 W3 X
  have K := K.wr W3 (Or.inl (List.mem_of_getElem? (i := 0) rfl))
  have S_COMPACT_STRINGS := S_COMPACT_STRINGS.wr W3
  have E_a1 := E_a1.wr W3
  have F_a1_value := F_a1_value.other W3 (Or.inr (slot_ne (Or.inr (hw _ (List.mem_of_getElem? (i := 20) rfl))) (Or.inr (hw _ (List.mem_of_getElem? (i := 21) rfl))) (by decide) (t := (.array .byte)) (t' := .byte) (by decide) (by decide)))
  have F_a1_coder := F_a1_coder.same W3
  have A_a2 := A_a2.other W3 (Ne.symm ne_a1_a2)
  have A_bt := A_bt.other W3 (Ne.symm ne_a1_bt)
  refine r_aloadN 52 X d3_51 rfl rfl ?_
  refine r_aload 54 X d3_52 rfl rfl ?_
  refine r_putfield 57 X (host := "") (Or.inl (hw _ (List.mem_of_getElem? (i := 24) rfl))) Via.refl F_a1_value E_a1 (Or.inr ⟨(hw _ (List.mem_of_getElem? (i := 20) rfl)), rfl, rfl⟩) (hw _ (List.mem_of_getElem? (i := 5) rfl)) (ty := (.array .byte)) (by decide) rfl rfl ga1 d3_54 ?_
  intro T h4 W4 X
  have K := K.wr W4 (Or.inl (List.mem_of_getElem? (i := 0) rfl))
  have S_COMPACT_STRINGS := S_COMPACT_STRINGS.wr W4
  have E_a1 := E_a1.wr W4
  have F_a1_value := F_a1_value.same W4
  have F_a1_coder := F_a1_coder.other W4 (Or.inr (slot_ne (Or.inr (hw _ (List.mem_of_getElem? (i := 21) rfl))) (Or.inr (hw _ (List.mem_of_getElem? (i := 20) rfl))) (by decide) (t := .byte) (t' := (.array .byte)) (by decide) (by decide)))
  have A_a2 := A_a2.other W4 (Ne.symm ne_a1_a2)
  have A_bt := A_bt.other W4 (Ne.symm ne_a1_bt)
  refine r_retV X d3_57 (by decide) (by decide) ?_
  exact ⟨rfl, K, bt, _, F_a1_value, A_bt⟩
theorem d2_0 : decode jdk_42_method_3_code 0 = .ok (.aload_n 0, 1) := by decide +kernel
theorem d2_1 : decode jdk_42_method_3_code 1 = .ok (.aload_n 1, 1) := by decide +kernel
theorem d2_2 : decode jdk_42_method_3_code 2 = .ok (.iconst 0, 1) := by decide +kernel
theorem d2_3 : decode jdk_42_method_3_code 3 = .ok (.aload_n 1, 1) := by decide +kernel
theorem d2_4 : decode jdk_42_method_3_code 4 = .ok (.arraylength, 1) := by decide +kernel
theorem d2_5 : decode jdk_42_method_3_code 5 = .ok (.aconst_null, 1) := by decide +kernel
theorem d2_6 : decode jdk_42_method_3_code 6 = .ok (.invokespecial 27, 3) := by decide +kernel
theorem d2_9 : decode jdk_42_method_3_code 9 = .ok (.return_, 1) := by decide +kernel
theorem pn_2 : plainName "java/lang/String" = true := by first | (simp [plainName, overriddenIn]; done) | decide +kernel
theorem ef_2 (m : MethodId) (x0 : Addr) (x1 : Addr) : entryFrame m #[(.ref x0), (.ref x1)] 2 = mkF m 0 #[.val (.ref x0), .val (.ref x1)] [] := by first | (simp [entryFrame, mkF, argsToLocals, Value.category]; done) | rfl
set_option maxRecDepth 65536 in
set_option maxHeartbeats 40000000 in
theorem rmI1_1 (l : Launch) (Z : State) (a0 : Array Value) (hw : ∀ d ∈ tables_1, d.before a0 Z = true) (n0 : Nat) (h : Heap) (Z0 : n0 ≤ h.size) (a1 a2 : Addr) (f : Nat → Int32) (cs : Int32) (hf0 : ¬ (255 : Int32) < f 0) (ncs : ¬ cs = (0 : Int32)) (ga1 : n0 ≤ a1) (ne_a1_a2 : a1 ≠ a2) (S_COMPACT_STRINGS : Sta Z h "java/lang/String" "COMPACT_STRINGS" "Z" (.int cs)) (E_a1 : Exa Z h a1 "java/lang/String") (F_a1_value : Fld Z h a1 "java/lang/String" "value" "[B" .null) (F_a1_coder : Fld Z h a1 "java/lang/String" "coder" "B" (.int (0 : Int32))) (A_a2 : AF Z h a2 .char 1 (fun j => .int (f j))) :
    Met1 l Z n0 [] (⟨"java/lang/String", "<init>", "([C)V"⟩ : MethodName) jdk_42_method_3_code 2 none ({ frames := 3, cells := 1, slots := 1, locals := 52 } : Room) #[(.ref a1), (.ref a2)] h (fun v h' => v = none ∧ Keep h h' [a1] ∧ ∃ (b : Addr) (g : Nat → Int32), Fld Z h' a1 "java/lang/String" "value" "[B" (.ref b) ∧ AF Z h' b .byte 1 (fun j => .int (g j))) := by
  refine met_of (plainFor_of_name pn_2) Z0 (fun m => ef_2 m a1 a2) ?_
  intro p e s m below meth c T hs0 X
  have K := Keep.refl h [a1]
  refine r_aloadN 1 X d2_0 rfl rfl ?_
  refine r_aloadN 2 X d2_1 rfl rfl ?_
  refine r_iconst 3 X (0 : Int32) d2_2 rfl ?_
  refine r_aloadN 4 X d2_3 rfl rfl ?_
  refine r_arraylength 5 X A_a2 (1 : Int32) (by decide) d2_4 ?_
  refine r_aconst_null 6 X d2_5 ?_
  refine r_special 9 X (st := []) (a := a1) (rmI4_1 l Z a0 hw n0 _ X.sz a1 a2 f cs hf0 ncs ga1 ne_a1_a2 S_COMPACT_STRINGS E_a1 F_a1_value F_a1_coder A_a2) rfl rfl (hw _ (List.mem_of_getElem? (i := 11) rfl)) (hw _ (List.mem_of_getElem? (i := 12) rfl)) (hw _ (List.mem_of_getElem? (i := 14) rfl)) (hw _ (List.mem_of_getElem? (i := 6) rfl)) (by decide) pd_3 [(.ref a2), (.int (0 : Int32)), (.int (1 : Int32)), .null] rfl rfl 0 (Nat.le_of_eq rfl) rfl (by decide) (by decide) (by decide) (by decide) d2_6 ?_
  rintro T h1 v1 ⟨rfl, K1, vb, gv, Fv, Av⟩ X
  have K := K.trans K1 (allS (Or.inl (List.mem_of_getElem? (i := 0) rfl)) all0)
  have E_a1 := E_a1.keep K1
  have A_a2 := A_a2.keep K1 (ninS (Ne.symm ne_a1_a2) nin0)
  have F_a1_value := Fv
  have A_vb := Av
  change Run _ _ _ _ _ _ _ _ []
  refine r_retV X d2_9 (by decide) (by decide) ?_
  exact ⟨rfl, K, vb, gv, F_a1_value, A_vb⟩
set_option maxRecDepth 65536 in
set_option maxHeartbeats 40000000 in
theorem rmC5_2 (l : Launch) (Z : State) (a0 : Array Value) (hw : ∀ d ∈ tables_1, d.before a0 Z = true) (n0 : Nat) (h : Heap) (Z0 : n0 ≤ h.size) (a1 a2 : Addr) (f g : Nat → Int32) (hf0 : ¬ (255 : Int32) < f 0) (hf1 : ¬ (255 : Int32) < f 1) (ga2 : n0 ≤ a2) (ne_a1_a2 : a1 ≠ a2) (A_a1 : AF Z h a1 .char 2 (fun j => .int (f j))) (A_a2 : AF Z h a2 .byte 2 (fun j => .int (g j))) :
    Met1 l Z n0 [] (⟨"java/lang/StringUTF16", "compress", "([CI[BII)I"⟩ : MethodName) jdk_52_method_21_code 7 (some .int) ({ frames := 0, cells := 0, slots := 0, locals := 0 } : Room) #[(.ref a1), (.int (0 : Int32)), (.ref a2), (.int (0 : Int32)), (.int (2 : Int32))] h (fun v h' => v = some (.int 2) ∧ Keep h h' [a2] ∧ ∃ g' : Nat → Int32, AF Z h' a2 .byte 2 (fun j => .int (g' j))) := by
  refine met_of (plainFor_of_name pn_10) Z0 (fun m => ef_10 m a1 (0 : Int32) a2 (0 : Int32) (2 : Int32)) ?_
  intro p e s m below meth c T hs0 X
  have K := Keep.refl h [a2]
  refine r_iconst 1 X (0 : Int32) d10_0 rfl ?_
  refine r_istore 3 X #[.val (.ref a1), .val (.int (0 : Int32)), .val (.ref a2), .val (.int (0 : Int32)), .val (.int (2 : Int32)), .val (.int (0 : Int32)), .unset] d10_1 rfl ?_
  refine r_iload 5 X d10_3 rfl ?_
  refine r_iload 7 X d10_5 rfl ?_
  refine r_icmpN 10 X d10_7 (tlt (by decide)).2.1 ?_
  refine r_aloadN 11 X d10_10 rfl rfl ?_
  refine r_iloadN 12 X d10_11 rfl ?_
  refine r_caload 13 X A_a1 (i := 0) (v := (.int (f 0))) (by decide) (by decide) rfl d10_12 ?_
  refine r_istore 15 X #[.val (.ref a1), .val (.int (0 : Int32)), .val (.ref a2), .val (.int (0 : Int32)), .val (.int (2 : Int32)), .val (.int (0 : Int32)), .val (.int (f 0))] d10_13 rfl ?_
  refine r_iload 17 X d10_15 rfl ?_
  refine r_sipush 20 X (255 : Int32) d10_17 rfl ?_
  refine r_icmpY 26 X d10_20 (flt hf0).2.2.2 ?_
  refine r_aloadN 27 X d10_26 rfl rfl ?_
  refine r_iloadN 28 X d10_27 rfl ?_
  refine r_iload 30 X d10_28 rfl ?_
  refine r_i2b 31 X d10_30 ?_
  refine r_bastoreB 32 X A_a2 (i := 0) (v := (.int (nar .byte ((f 0).toInt8.toInt32)))) (by decide) (by decide) rfl ga2 d10_31 ?_
  intro T h1 W1 X
  have K := K.wr W1 (Or.inl (List.mem_of_getElem? (i := 0) rfl))
  have A_a1 := A_a1.other W1 ne_a1_a2
  have A_a2 := A_a2.setI W1
  refine r_iinc 35 X (1 : Int32) #[.val (.ref a1), .val (.int (1 : Int32)), .val (.ref a2), .val (.int (0 : Int32)), .val (.int (2 : Int32)), .val (.int (0 : Int32)), .val (.int (f 0))] d10_32 rfl rfl rfl ?_
  refine r_iinc 38 X (1 : Int32) #[.val (.ref a1), .val (.int (1 : Int32)), .val (.ref a2), .val (.int (1 : Int32)), .val (.int (2 : Int32)), .val (.int (0 : Int32)), .val (.int (f 0))] d10_35 rfl rfl rfl ?_
  refine r_iinc 41 X (1 : Int32) #[.val (.ref a1), .val (.int (1 : Int32)), .val (.ref a2), .val (.int (1 : Int32)), .val (.int (2 : Int32)), .val (.int (1 : Int32)), .val (.int (f 0))] d10_38 rfl rfl rfl ?_
  refine r_goto 3 X d10_41 ?_
  refine r_iload 5 X d10_3 rfl ?_
  refine r_iload 7 X d10_5 rfl ?_
  refine r_icmpN 10 X d10_7 (tlt (by decide)).2.1 ?_
  refine r_aloadN 11 X d10_10 rfl rfl ?_
  refine r_iloadN 12 X d10_11 rfl ?_
  refine r_caload 13 X A_a1 (i := 1) (v := (.int (f 1))) (by decide) (by decide) rfl d10_12 ?_
  refine r_istore 15 X #[.val (.ref a1), .val (.int (1 : Int32)), .val (.ref a2), .val (.int (1 : Int32)), .val (.int (2 : Int32)), .val (.int (1 : Int32)), .val (.int (f 1))] d10_13 rfl ?_
  refine r_iload 17 X d10_15 rfl ?_
  refine r_sipush 20 X (255 : Int32) d10_17 rfl ?_
  refine r_icmpY 26 X d10_20 (flt hf1).2.2.2 ?_
  refine r_aloadN 27 X d10_26 rfl rfl ?_
  refine r_iloadN 28 X d10_27 rfl ?_
  refine r_iload 30 X d10_28 rfl ?_
  refine r_i2b 31 X d10_30 ?_
  refine r_bastoreB 32 X A_a2 (i := 1) (v := (.int (nar .byte ((f 1).toInt8.toInt32)))) (by decide) (by decide) rfl ga2 d10_31 ?_
  intro T h2 W2 X
  have K := K.wr W2 (Or.inl (List.mem_of_getElem? (i := 0) rfl))
  have A_a1 := A_a1.other W2 ne_a1_a2
  have A_a2 := A_a2.setI W2
  refine r_iinc 35 X (1 : Int32) #[.val (.ref a1), .val (.int (2 : Int32)), .val (.ref a2), .val (.int (1 : Int32)), .val (.int (2 : Int32)), .val (.int (1 : Int32)), .val (.int (f 1))] d10_32 rfl rfl rfl ?_
  refine r_iinc 38 X (1 : Int32) #[.val (.ref a1), .val (.int (2 : Int32)), .val (.ref a2), .val (.int (2 : Int32)), .val (.int (2 : Int32)), .val (.int (1 : Int32)), .val (.int (f 1))] d10_35 rfl rfl rfl ?_
  refine r_iinc 41 X (1 : Int32) #[.val (.ref a1), .val (.int (2 : Int32)), .val (.ref a2), .val (.int (2 : Int32)), .val (.int (2 : Int32)), .val (.int (2 : Int32)), .val (.int (f 1))] d10_38 rfl rfl rfl ?_
  refine r_goto 3 X d10_41 ?_
  refine r_iload 5 X d10_3 rfl ?_
  refine r_iload 7 X d10_5 rfl ?_
  refine r_icmpY 44 X d10_7 (flt (by decide)).2.1 ?_
  refine r_iload 46 X d10_44 rfl ?_
  refine r_retI X d10_46 (by decide) (by decide) ?_
  exact ⟨rfl, K, _, A_a2⟩
set_option maxRecDepth 65536 in
set_option maxHeartbeats 40000000 in
theorem rmC3_2 (l : Launch) (Z : State) (a0 : Array Value) (hw : ∀ d ∈ tables_1, d.before a0 Z = true) (n0 : Nat) (h : Heap) (Z0 : n0 ≤ h.size) (a1 : Addr) (f : Nat → Int32) (hf0 : ¬ (255 : Int32) < f 0) (hf1 : ¬ (255 : Int32) < f 1) (A_a1 : AF Z h a1 .char 2 (fun j => .int (f j))) :
    Met1 l Z n0 [] (⟨"java/lang/StringUTF16", "compress", "([CII)[B"⟩ : MethodName) jdk_52_method_16_code 6 (some (.array .byte)) ({ frames := 1, cells := 1, slots := 2, locals := 18 } : Room) #[(.ref a1), (.int (0 : Int32)), (.int (2 : Int32))] h (fun v h' => ∃ b, v = some (.ref b) ∧ Keep h h' [] ∧ h.size ≤ b ∧ n0 ≤ b ∧ ∃ g : Nat → Int32, AF Z h' b .byte 2 (fun j => .int (g j))) := by
  refine met_of (plainFor_of_name pn_9) Z0 (fun m => ef_9 m a1 (0 : Int32) (2 : Int32)) ?_
  intro p e s m below meth c T hs0 X
  have K := Keep.refl h []
  refine r_iloadN 1 X d9_0 rfl ?_
  refine r_newarray 3 X 2 2 (hw _ (List.mem_of_getElem? (i := 19) rfl)) d9_1 (by decide) (by decide) (by decide) (by decide) (by decide) ?_
  intro T h1 b1 g1 gn_b1 E1 A_b1 X
  have sz_b1 : h.size ≤ b1 := Nat.le_trans K.1 (Nat.le_of_eq g1.symm)
  have ne_a1_b1 : a1 ≠ b1 := Nat.ne_of_lt (Nat.lt_of_lt_of_eq A_a1.lt g1.symm)
  have K := K.ext E1
  have A_a1 := A_a1.ext E1
  replace A_b1 : AF Z h1 b1 .byte 2 (fun j => .int ((fun _ => (0 : Int32)) j)) := A_b1
  refine r_astoreN 4 X #[.val (.ref a1), .val (.int (0 : Int32)), .val (.int (2 : Int32)), .val (.ref b1), .unset, .unset] d9_3 rfl rfl ?_
  refine r_aloadN 5 X d9_4 rfl rfl ?_
  refine r_iloadN 6 X d9_5 rfl ?_
  refine r_aloadN 7 X d9_6 rfl rfl ?_
  refine r_iconst 8 X (0 : Int32) d9_7 rfl ?_
  refine r_iloadN 9 X d9_8 rfl ?_
  refine r_callS 12 X (st := []) (rmC5_2 l Z a0 hw n0 _ X.sz a1 b1 f (fun _ => (0 : Int32)) hf0 hf1 gn_b1 ne_a1_b1 A_a1 A_b1) (hw _ (List.mem_of_getElem? (i := 59) rfl)) (hw _ (List.mem_of_getElem? (i := 60) rfl)) (hw _ (List.mem_of_getElem? (i := 61) rfl)) (hw _ (List.mem_of_getElem? (i := 57) rfl)) (by decide) pd_0 [(.ref a1), (.int (0 : Int32)), (.ref b1), (.int (0 : Int32)), (.int (2 : Int32))] rfl rfl 0 (Nat.le_of_eq rfl) rfl (by decide) (by decide) (by decide) (by decide) d9_9 ?_
  rintro T h2 v2 ⟨rfl, K2, g2, B2⟩ X
  have K := K.trans K2 (allS (Or.inr sz_b1) all0)
  have A_a1 := A_a1.keep K2 (ninS ne_a1_b1 nin0)
  have A_b1 := B2
  change Run _ _ _ _ _ _ _ _ [(.int (2 : Int32))]
  refine r_istore 14 X #[.val (.ref a1), .val (.int (0 : Int32)), .val (.int (2 : Int32)), .val (.ref b1), .val (.int (2 : Int32)), .unset] d9_12 rfl ?_
  refine r_iload 16 X d9_14 rfl ?_
  refine r_iloadN 17 X d9_16 rfl ?_
  refine r_icmpY 57 X d9_17 (teq (by decide)).1 ?_
  refine r_aloadN 58 X d9_57 rfl rfl ?_
  refine r_retA X d9_58 rfl rfl rfl (by decide) (by decide) ?_
  exact ⟨b1, rfl, K, sz_b1, gn_b1, _, A_b1⟩
set_option maxRecDepth 65536 in
set_option maxHeartbeats 40000000 in
theorem rmCo_2 (l : Launch) (Z : State) (a0 : Array Value) (hw : ∀ d ∈ tables_1, d.before a0 Z = true) (n0 : Nat) (h : Heap) (Z0 : n0 ≤ h.size) (a1 : Addr) (g : Nat → Value) (A_a1 : AF Z h a1 .byte 2 g) :
    Met1 l Z n0 [] (⟨"java/lang/StringUTF16", "coderFromArrayLen", "([BI)B"⟩ : MethodName) jdk_52_method_15_code 2 (some .byte) ({ frames := 0, cells := 0, slots := 0, locals := 0 } : Room) #[(.ref a1), (.int (2 : Int32))] h (fun v h' => v = some (.int 0) ∧ h = h') := by
  refine met_of (plainFor_of_name pn_11) Z0 (fun m => ef_11 m a1 (2 : Int32)) ?_
  intro p e s m below meth c T hs0 X
  refine r_iloadN 1 X d11_0 rfl ?_
  refine r_aloadN 2 X d11_1 rfl rfl ?_
  refine r_arraylength 3 X A_a1 (2 : Int32) (by decide) d11_2 ?_
  refine r_isub 4 X d11_3 ?_
  refine r_topI (x' := (0 : Int32)) (by decide) ?_
  refine r_bipush 6 X (31 : Int32) d11_4 rfl ?_
  refine r_iushr 7 X d11_6 ?_
  refine r_topI (x' := (0 : Int32)) (by decide) ?_
  refine r_i2b 8 X d11_7 ?_
  refine r_topI (x' := (0 : Int32)) (by decide) ?_
  refine r_retB (z := (0 : Int32)) X d11_8 rfl (by decide) (by decide) ?_
  exact ⟨rfl, rfl⟩
set_option maxRecDepth 65536 in
set_option maxHeartbeats 40000000 in
theorem rmI4_2 (l : Launch) (Z : State) (a0 : Array Value) (hw : ∀ d ∈ tables_1, d.before a0 Z = true) (n0 : Nat) (h : Heap) (Z0 : n0 ≤ h.size) (a1 a2 : Addr) (f : Nat → Int32) (cs : Int32) (hf0 : ¬ (255 : Int32) < f 0) (hf1 : ¬ (255 : Int32) < f 1) (ncs : ¬ cs = (0 : Int32)) (ga1 : n0 ≤ a1) (ne_a1_a2 : a1 ≠ a2) (S_COMPACT_STRINGS : Sta Z h "java/lang/String" "COMPACT_STRINGS" "Z" (.int cs)) (E_a1 : Exa Z h a1 "java/lang/String") (F_a1_value : Fld Z h a1 "java/lang/String" "value" "[B" .null) (F_a1_coder : Fld Z h a1 "java/lang/String" "coder" "B" (.int (0 : Int32))) (A_a2 : AF Z h a2 .char 2 (fun j => .int (f j))) :
    Met1 l Z n0 [] (⟨"java/lang/String", "<init>", "([CIILjava/lang/Void;)V"⟩ : MethodName) jdk_42_method_149_code 6 none ({ frames := 2, cells := 1, slots := 2, locals := 35 } : Room) #[(.ref a1), (.ref a2), (.int (0 : Int32)), (.int (2 : Int32)), .null] h (fun v h' => v = none ∧ Keep h h' [a1] ∧ ∃ (b : Addr) (g : Nat → Int32), Fld Z h' a1 "java/lang/String" "value" "[B" (.ref b) ∧ AF Z h' b .byte 2 (fun j => .int (g j))) := by
  refine met_of (plainFor_of_name pn_3) Z0 (fun m => ef_3 m a1 a2 (0 : Int32) (2 : Int32)) ?_
  intro p e s m below meth c T hs0 X
  have K := Keep.refl h [a1]
  refine r_aloadN 1 X d3_0 rfl rfl ?_
  refine r_initO 4 X (hw _ (List.mem_of_getElem? (i := 15) rfl)) (hw _ (List.mem_of_getElem? (i := 16) rfl)) (hw _ (List.mem_of_getElem? (i := 17) rfl)) d3_1 rfl (by decide) 0 (Nat.le_of_eq rfl) (by decide) ?_
  intro T X
  refine r_iloadN 5 X d3_4 rfl ?_
  refine r_ifY 27 X d3_5 ((if0 _ _).trans (feq (by decide)).2) ?_
  refine r_getstatic 30 X (host := "") (Or.inl (hw _ (List.mem_of_getElem? (i := 54) rfl))) Via.refl S_COMPACT_STRINGS d3_27 ?_
  intro T X
  refine r_ifN 33 X d3_30 ((if0 _ _).trans (feq ncs).1) ?_
  refine r_aloadN 34 X d3_33 rfl rfl ?_
  refine r_iloadN 35 X d3_34 rfl ?_
  refine r_iloadN 36 X d3_35 rfl ?_
  refine r_callS 39 X (st := []) (rmC3_2 l Z a0 hw n0 _ X.sz a2 f hf0 hf1 A_a2) (hw _ (List.mem_of_getElem? (i := 55) rfl)) (hw _ (List.mem_of_getElem? (i := 56) rfl)) (hw _ (List.mem_of_getElem? (i := 58) rfl)) (hw _ (List.mem_of_getElem? (i := 57) rfl)) (by decide) pd_1 [(.ref a2), (.int (0 : Int32)), (.int (2 : Int32))] rfl rfl 0 (Nat.le_of_eq rfl) rfl (by decide) (by decide) (by decide) (by decide) d3_36 ?_
  rintro T h1 v1 ⟨bt, rfl, K1, zbt, gbt, gbt_, Abt⟩ X
  have ne_a1_bt : a1 ≠ bt := Nat.ne_of_lt (Nat.lt_of_lt_of_le E_a1.lt zbt)
  have ne_a2_bt : a2 ≠ bt := Nat.ne_of_lt (Nat.lt_of_lt_of_le A_a2.lt zbt)
  have K := K.trans K1 all0
  have S_COMPACT_STRINGS := S_COMPACT_STRINGS.ext (keepExt K1)
  have E_a1 := E_a1.keep K1
  have F_a1_value := F_a1_value.keep K1 nin0
  have F_a1_coder := F_a1_coder.keep K1 nin0
  have A_a2 := A_a2.keep K1 nin0
  have A_bt := Abt
  change Run _ _ _ _ _ _ _ _ [(.ref bt)]
  refine r_astore 41 X #[.val (.ref a1), .val (.ref a2), .val (.int (0 : Int32)), .val (.int (2 : Int32)), .val .null, .val (.ref bt)] d3_39 rfl rfl ?_
  refine r_aloadN 42 X d3_41 rfl rfl ?_
  refine r_aload 44 X d3_42 rfl rfl ?_
  refine r_iloadN 45 X d3_44 rfl ?_
  refine r_callS 48 X (st := [(.ref a1)]) (rmCo_2 l Z a0 hw n0 _ X.sz bt _ A_bt) (hw _ (List.mem_of_getElem? (i := 62) rfl)) (hw _ (List.mem_of_getElem? (i := 63) rfl)) (hw _ (List.mem_of_getElem? (i := 64) rfl)) (hw _ (List.mem_of_getElem? (i := 57) rfl)) (by decide) pd_2 [(.ref bt), (.int (2 : Int32))] rfl rfl 1 (Nat.le_of_eq rfl) rfl (by decide) (by decide) (by decide) (by decide) d3_45 ?_
  rintro T h2 v2 ⟨rfl, rfl⟩ X
  change Run _ _ _ _ _ _ _ _ [(.int (0 : Int32)), (.ref a1)]
  refine r_putfieldN 51 X (hw _ (List.mem_of_getElem? (i := 25) rfl)) Via.refl F_a1_coder E_a1 (Or.inr ⟨(hw _ (List.mem_of_getElem? (i := 21) rfl)), rfl, rfl⟩) (hw _ (List.mem_of_getElem? (i := 5) rfl)) (ty := .byte) (v' := (.int (0 : Int32))) (by decide) rfl rfl ga1 d3_48 ?_
  intro T h3 W3 X
  have K := K.wr W3 (Or.inl (List.mem_of_getElem? (i := 0) rfl))
  have S_COMPACT_STRINGS := S_COMPACT_STRINGS.wr W3
  have E_a1 := E_a1.wr W3
  have F_a1_value := F_a1_value.other W3 (Or.inr (slot_ne (Or.inr (hw _ (List.mem_of_getElem? (i := 20) rfl))) (Or.inr (hw _ (List.mem_of_getElem? (i := 21) rfl))) (by decide) (t := (.array .byte)) (t' := .byte) (by decide) (by decide)))
  have F_a1_coder := F_a1_coder.same W3
  have A_a2 := A_a2.other W3 (Ne.symm ne_a1_a2)
  have A_bt := A_bt.other W3 (Ne.symm ne_a1_bt)
  refine r_aloadN 52 X d3_51 rfl rfl ?_
  refine r_aload 54 X d3_52 rfl rfl ?_
  refine r_putfield 57 X (host := "") (Or.inl (hw _ (List.mem_of_getElem? (i := 24) rfl))) Via.refl F_a1_value E_a1 (Or.inr ⟨(hw _ (List.mem_of_getElem? (i := 20) rfl)), rfl, rfl⟩) (hw _ (List.mem_of_getElem? (i := 5) rfl)) (ty := (.array .byte)) (by decide) rfl rfl ga1 d3_54 ?_
  intro T h4 W4 X
  have K := K.wr W4 (Or.inl (List.mem_of_getElem? (i := 0) rfl))
  have S_COMPACT_STRINGS := S_COMPACT_STRINGS.wr W4
  have E_a1 := E_a1.wr W4
  have F_a1_value := F_a1_value.same W4
  have F_a1_coder := F_a1_coder.other W4 (Or.inr (slot_ne (Or.inr (hw _ (List.mem_of_getElem? (i := 21) rfl))) (Or.inr (hw _ (List.mem_of_getElem? (i := 20) rfl))) (by decide) (t := .byte) (t' := (.array .byte)) (by decide) (by decide)))
  have A_a2 := A_a2.other W4 (Ne.symm ne_a1_a2)
  have A_bt := A_bt.other W4 (Ne.symm ne_a1_bt)
  refine r_retV X d3_57 (by decide) (by decide) ?_
  exact ⟨rfl, K, bt, _, F_a1_value, A_bt⟩
set_option maxRecDepth 65536 in
set_option maxHeartbeats 40000000 in
theorem rmI1_2 (l : Launch) (Z : State) (a0 : Array Value) (hw : ∀ d ∈ tables_1, d.before a0 Z = true) (n0 : Nat) (h : Heap) (Z0 : n0 ≤ h.size) (a1 a2 : Addr) (f : Nat → Int32) (cs : Int32) (hf0 : ¬ (255 : Int32) < f 0) (hf1 : ¬ (255 : Int32) < f 1) (ncs : ¬ cs = (0 : Int32)) (ga1 : n0 ≤ a1) (ne_a1_a2 : a1 ≠ a2) (S_COMPACT_STRINGS : Sta Z h "java/lang/String" "COMPACT_STRINGS" "Z" (.int cs)) (E_a1 : Exa Z h a1 "java/lang/String") (F_a1_value : Fld Z h a1 "java/lang/String" "value" "[B" .null) (F_a1_coder : Fld Z h a1 "java/lang/String" "coder" "B" (.int (0 : Int32))) (A_a2 : AF Z h a2 .char 2 (fun j => .int (f j))) :
    Met1 l Z n0 [] (⟨"java/lang/String", "<init>", "([C)V"⟩ : MethodName) jdk_42_method_3_code 2 none ({ frames := 3, cells := 1, slots := 2, locals := 52 } : Room) #[(.ref a1), (.ref a2)] h (fun v h' => v = none ∧ Keep h h' [a1] ∧ ∃ (b : Addr) (g : Nat → Int32), Fld Z h' a1 "java/lang/String" "value" "[B" (.ref b) ∧ AF Z h' b .byte 2 (fun j => .int (g j))) := by
  refine met_of (plainFor_of_name pn_2) Z0 (fun m => ef_2 m a1 a2) ?_
  intro p e s m below meth c T hs0 X
  have K := Keep.refl h [a1]
  refine r_aloadN 1 X d2_0 rfl rfl ?_
  refine r_aloadN 2 X d2_1 rfl rfl ?_
  refine r_iconst 3 X (0 : Int32) d2_2 rfl ?_
  refine r_aloadN 4 X d2_3 rfl rfl ?_
  refine r_arraylength 5 X A_a2 (2 : Int32) (by decide) d2_4 ?_
  refine r_aconst_null 6 X d2_5 ?_
  refine r_special 9 X (st := []) (a := a1) (rmI4_2 l Z a0 hw n0 _ X.sz a1 a2 f cs hf0 hf1 ncs ga1 ne_a1_a2 S_COMPACT_STRINGS E_a1 F_a1_value F_a1_coder A_a2) rfl rfl (hw _ (List.mem_of_getElem? (i := 11) rfl)) (hw _ (List.mem_of_getElem? (i := 12) rfl)) (hw _ (List.mem_of_getElem? (i := 14) rfl)) (hw _ (List.mem_of_getElem? (i := 6) rfl)) (by decide) pd_3 [(.ref a2), (.int (0 : Int32)), (.int (2 : Int32)), .null] rfl rfl 0 (Nat.le_of_eq rfl) rfl (by decide) (by decide) (by decide) (by decide) d2_6 ?_
  rintro T h1 v1 ⟨rfl, K1, vb, gv, Fv, Av⟩ X
  have K := K.trans K1 (allS (Or.inl (List.mem_of_getElem? (i := 0) rfl)) all0)
  have E_a1 := E_a1.keep K1
  have A_a2 := A_a2.keep K1 (ninS (Ne.symm ne_a1_a2) nin0)
  have F_a1_value := Fv
  have A_vb := Av
  change Run _ _ _ _ _ _ _ _ []
  refine r_retV X d2_9 (by decide) (by decide) ?_
  exact ⟨rfl, K, vb, gv, F_a1_value, A_vb⟩
set_option maxRecDepth 65536 in
set_option maxHeartbeats 40000000 in
theorem rmC5_3 (l : Launch) (Z : State) (a0 : Array Value) (hw : ∀ d ∈ tables_1, d.before a0 Z = true) (n0 : Nat) (h : Heap) (Z0 : n0 ≤ h.size) (a1 a2 : Addr) (f g : Nat → Int32) (hf0 : ¬ (255 : Int32) < f 0) (hf1 : ¬ (255 : Int32) < f 1) (hf2 : ¬ (255 : Int32) < f 2) (ga2 : n0 ≤ a2) (ne_a1_a2 : a1 ≠ a2) (A_a1 : AF Z h a1 .char 3 (fun j => .int (f j))) (A_a2 : AF Z h a2 .byte 3 (fun j => .int (g j))) :
    Met1 l Z n0 [] (⟨"java/lang/StringUTF16", "compress", "([CI[BII)I"⟩ : MethodName) jdk_52_method_21_code 7 (some .int) ({ frames := 0, cells := 0, slots := 0, locals := 0 } : Room) #[(.ref a1), (.int (0 : Int32)), (.ref a2), (.int (0 : Int32)), (.int (3 : Int32))] h (fun v h' => v = some (.int 3) ∧ Keep h h' [a2] ∧ ∃ g' : Nat → Int32, AF Z h' a2 .byte 3 (fun j => .int (g' j))) := by
  refine met_of (plainFor_of_name pn_10) Z0 (fun m => ef_10 m a1 (0 : Int32) a2 (0 : Int32) (3 : Int32)) ?_
  intro p e s m below meth c T hs0 X
  have K := Keep.refl h [a2]
  refine r_iconst 1 X (0 : Int32) d10_0 rfl ?_
  refine r_istore 3 X #[.val (.ref a1), .val (.int (0 : Int32)), .val (.ref a2), .val (.int (0 : Int32)), .val (.int (3 : Int32)), .val (.int (0 : Int32)), .unset] d10_1 rfl ?_
  refine r_iload 5 X d10_3 rfl ?_
  refine r_iload 7 X d10_5 rfl ?_
  refine r_icmpN 10 X d10_7 (tlt (by decide)).2.1 ?_
  refine r_aloadN 11 X d10_10 rfl rfl ?_
  refine r_iloadN 12 X d10_11 rfl ?_
  refine r_caload 13 X A_a1 (i := 0) (v := (.int (f 0))) (by decide) (by decide) rfl d10_12 ?_
  refine r_istore 15 X #[.val (.ref a1), .val (.int (0 : Int32)), .val (.ref a2), .val (.int (0 : Int32)), .val (.int (3 : Int32)), .val (.int (0 : Int32)), .val (.int (f 0))] d10_13 rfl ?_
  refine r_iload 17 X d10_15 rfl ?_
  refine r_sipush 20 X (255 : Int32) d10_17 rfl ?_
  refine r_icmpY 26 X d10_20 (flt hf0).2.2.2 ?_
  refine r_aloadN 27 X d10_26 rfl rfl ?_
  refine r_iloadN 28 X d10_27 rfl ?_
  refine r_iload 30 X d10_28 rfl ?_
  refine r_i2b 31 X d10_30 ?_
  refine r_bastoreB 32 X A_a2 (i := 0) (v := (.int (nar .byte ((f 0).toInt8.toInt32)))) (by decide) (by decide) rfl ga2 d10_31 ?_
  intro T h1 W1 X
  have K := K.wr W1 (Or.inl (List.mem_of_getElem? (i := 0) rfl))
  have A_a1 := A_a1.other W1 ne_a1_a2
  have A_a2 := A_a2.setI W1
  refine r_iinc 35 X (1 : Int32) #[.val (.ref a1), .val (.int (1 : Int32)), .val (.ref a2), .val (.int (0 : Int32)), .val (.int (3 : Int32)), .val (.int (0 : Int32)), .val (.int (f 0))] d10_32 rfl rfl rfl ?_
  refine r_iinc 38 X (1 : Int32) #[.val (.ref a1), .val (.int (1 : Int32)), .val (.ref a2), .val (.int (1 : Int32)), .val (.int (3 : Int32)), .val (.int (0 : Int32)), .val (.int (f 0))] d10_35 rfl rfl rfl ?_
  refine r_iinc 41 X (1 : Int32) #[.val (.ref a1), .val (.int (1 : Int32)), .val (.ref a2), .val (.int (1 : Int32)), .val (.int (3 : Int32)), .val (.int (1 : Int32)), .val (.int (f 0))] d10_38 rfl rfl rfl ?_
  refine r_goto 3 X d10_41 ?_
  refine r_iload 5 X d10_3 rfl ?_
  refine r_iload 7 X d10_5 rfl ?_
  refine r_icmpN 10 X d10_7 (tlt (by decide)).2.1 ?_
  refine r_aloadN 11 X d10_10 rfl rfl ?_
  refine r_iloadN 12 X d10_11 rfl ?_
  refine r_caload 13 X A_a1 (i := 1) (v := (.int (f 1))) (by decide) (by decide) rfl d10_12 ?_
  refine r_istore 15 X #[.val (.ref a1), .val (.int (1 : Int32)), .val (.ref a2), .val (.int (1 : Int32)), .val (.int (3 : Int32)), .val (.int (1 : Int32)), .val (.int (f 1))] d10_13 rfl ?_
  refine r_iload 17 X d10_15 rfl ?_
  refine r_sipush 20 X (255 : Int32) d10_17 rfl ?_
  refine r_icmpY 26 X d10_20 (flt hf1).2.2.2 ?_
  refine r_aloadN 27 X d10_26 rfl rfl ?_
  refine r_iloadN 28 X d10_27 rfl ?_
  refine r_iload 30 X d10_28 rfl ?_
  refine r_i2b 31 X d10_30 ?_
  refine r_bastoreB 32 X A_a2 (i := 1) (v := (.int (nar .byte ((f 1).toInt8.toInt32)))) (by decide) (by decide) rfl ga2 d10_31 ?_
  intro T h2 W2 X
  have K := K.wr W2 (Or.inl (List.mem_of_getElem? (i := 0) rfl))
  have A_a1 := A_a1.other W2 ne_a1_a2
  have A_a2 := A_a2.setI W2
  refine r_iinc 35 X (1 : Int32) #[.val (.ref a1), .val (.int (2 : Int32)), .val (.ref a2), .val (.int (1 : Int32)), .val (.int (3 : Int32)), .val (.int (1 : Int32)), .val (.int (f 1))] d10_32 rfl rfl rfl ?_
  refine r_iinc 38 X (1 : Int32) #[.val (.ref a1), .val (.int (2 : Int32)), .val (.ref a2), .val (.int (2 : Int32)), .val (.int (3 : Int32)), .val (.int (1 : Int32)), .val (.int (f 1))] d10_35 rfl rfl rfl ?_
  refine r_iinc 41 X (1 : Int32) #[.val (.ref a1), .val (.int (2 : Int32)), .val (.ref a2), .val (.int (2 : Int32)), .val (.int (3 : Int32)), .val (.int (2 : Int32)), .val (.int (f 1))] d10_38 rfl rfl rfl ?_
  refine r_goto 3 X d10_41 ?_
  refine r_iload 5 X d10_3 rfl ?_
  refine r_iload 7 X d10_5 rfl ?_
  refine r_icmpN 10 X d10_7 (tlt (by decide)).2.1 ?_
  refine r_aloadN 11 X d10_10 rfl rfl ?_
  refine r_iloadN 12 X d10_11 rfl ?_
  refine r_caload 13 X A_a1 (i := 2) (v := (.int (f 2))) (by decide) (by decide) rfl d10_12 ?_
  refine r_istore 15 X #[.val (.ref a1), .val (.int (2 : Int32)), .val (.ref a2), .val (.int (2 : Int32)), .val (.int (3 : Int32)), .val (.int (2 : Int32)), .val (.int (f 2))] d10_13 rfl ?_
  refine r_iload 17 X d10_15 rfl ?_
  refine r_sipush 20 X (255 : Int32) d10_17 rfl ?_
  refine r_icmpY 26 X d10_20 (flt hf2).2.2.2 ?_
  refine r_aloadN 27 X d10_26 rfl rfl ?_
  refine r_iloadN 28 X d10_27 rfl ?_
  refine r_iload 30 X d10_28 rfl ?_
  refine r_i2b 31 X d10_30 ?_
  refine r_bastoreB 32 X A_a2 (i := 2) (v := (.int (nar .byte ((f 2).toInt8.toInt32)))) (by decide) (by decide) rfl ga2 d10_31 ?_
  intro T h3 W3 X
  have K := K.wr W3 (Or.inl (List.mem_of_getElem? (i := 0) rfl))
  have A_a1 := A_a1.other W3 ne_a1_a2
  have A_a2 := A_a2.setI W3
  refine r_iinc 35 X (1 : Int32) #[.val (.ref a1), .val (.int (3 : Int32)), .val (.ref a2), .val (.int (2 : Int32)), .val (.int (3 : Int32)), .val (.int (2 : Int32)), .val (.int (f 2))] d10_32 rfl rfl rfl ?_
  refine r_iinc 38 X (1 : Int32) #[.val (.ref a1), .val (.int (3 : Int32)), .val (.ref a2), .val (.int (3 : Int32)), .val (.int (3 : Int32)), .val (.int (2 : Int32)), .val (.int (f 2))] d10_35 rfl rfl rfl ?_
  refine r_iinc 41 X (1 : Int32) #[.val (.ref a1), .val (.int (3 : Int32)), .val (.ref a2), .val (.int (3 : Int32)), .val (.int (3 : Int32)), .val (.int (3 : Int32)), .val (.int (f 2))] d10_38 rfl rfl rfl ?_
  refine r_goto 3 X d10_41 ?_
  refine r_iload 5 X d10_3 rfl ?_
  refine r_iload 7 X d10_5 rfl ?_
  refine r_icmpY 44 X d10_7 (flt (by decide)).2.1 ?_
  refine r_iload 46 X d10_44 rfl ?_
  refine r_retI X d10_46 (by decide) (by decide) ?_
  exact ⟨rfl, K, _, A_a2⟩
set_option maxRecDepth 65536 in
set_option maxHeartbeats 40000000 in
theorem rmC3_3 (l : Launch) (Z : State) (a0 : Array Value) (hw : ∀ d ∈ tables_1, d.before a0 Z = true) (n0 : Nat) (h : Heap) (Z0 : n0 ≤ h.size) (a1 : Addr) (f : Nat → Int32) (hf0 : ¬ (255 : Int32) < f 0) (hf1 : ¬ (255 : Int32) < f 1) (hf2 : ¬ (255 : Int32) < f 2) (A_a1 : AF Z h a1 .char 3 (fun j => .int (f j))) :
    Met1 l Z n0 [] (⟨"java/lang/StringUTF16", "compress", "([CII)[B"⟩ : MethodName) jdk_52_method_16_code 6 (some (.array .byte)) ({ frames := 1, cells := 1, slots := 3, locals := 18 } : Room) #[(.ref a1), (.int (0 : Int32)), (.int (3 : Int32))] h (fun v h' => ∃ b, v = some (.ref b) ∧ Keep h h' [] ∧ h.size ≤ b ∧ n0 ≤ b ∧ ∃ g : Nat → Int32, AF Z h' b .byte 3 (fun j => .int (g j))) := by
  refine met_of (plainFor_of_name pn_9) Z0 (fun m => ef_9 m a1 (0 : Int32) (3 : Int32)) ?_
  intro p e s m below meth c T hs0 X
  have K := Keep.refl h []
  refine r_iloadN 1 X d9_0 rfl ?_
  refine r_newarray 3 X 3 3 (hw _ (List.mem_of_getElem? (i := 19) rfl)) d9_1 (by decide) (by decide) (by decide) (by decide) (by decide) ?_
  intro T h1 b1 g1 gn_b1 E1 A_b1 X
  have sz_b1 : h.size ≤ b1 := Nat.le_trans K.1 (Nat.le_of_eq g1.symm)
  have ne_a1_b1 : a1 ≠ b1 := Nat.ne_of_lt (Nat.lt_of_lt_of_eq A_a1.lt g1.symm)
  have K := K.ext E1
  have A_a1 := A_a1.ext E1
  replace A_b1 : AF Z h1 b1 .byte 3 (fun j => .int ((fun _ => (0 : Int32)) j)) := A_b1
  refine r_astoreN 4 X #[.val (.ref a1), .val (.int (0 : Int32)), .val (.int (3 : Int32)), .val (.ref b1), .unset, .unset] d9_3 rfl rfl ?_
  refine r_aloadN 5 X d9_4 rfl rfl ?_
  refine r_iloadN 6 X d9_5 rfl ?_
  refine r_aloadN 7 X d9_6 rfl rfl ?_
  refine r_iconst 8 X (0 : Int32) d9_7 rfl ?_
  refine r_iloadN 9 X d9_8 rfl ?_
  refine r_callS 12 X (st := []) (rmC5_3 l Z a0 hw n0 _ X.sz a1 b1 f (fun _ => (0 : Int32)) hf0 hf1 hf2 gn_b1 ne_a1_b1 A_a1 A_b1) (hw _ (List.mem_of_getElem? (i := 59) rfl)) (hw _ (List.mem_of_getElem? (i := 60) rfl)) (hw _ (List.mem_of_getElem? (i := 61) rfl)) (hw _ (List.mem_of_getElem? (i := 57) rfl)) (by decide) pd_0 [(.ref a1), (.int (0 : Int32)), (.ref b1), (.int (0 : Int32)), (.int (3 : Int32))] rfl rfl 0 (Nat.le_of_eq rfl) rfl (by decide) (by decide) (by decide) (by decide) d9_9 ?_
  rintro T h2 v2 ⟨rfl, K2, g2, B2⟩ X
  have K := K.trans K2 (allS (Or.inr sz_b1) all0)
  have A_a1 := A_a1.keep K2 (ninS ne_a1_b1 nin0)
  have A_b1 := B2
  change Run _ _ _ _ _ _ _ _ [(.int (3 : Int32))]
  refine r_istore 14 X #[.val (.ref a1), .val (.int (0 : Int32)), .val (.int (3 : Int32)), .val (.ref b1), .val (.int (3 : Int32)), .unset] d9_12 rfl ?_
  refine r_iload 16 X d9_14 rfl ?_
  refine r_iloadN 17 X d9_16 rfl ?_
  refine r_icmpY 57 X d9_17 (teq (by decide)).1 ?_
  refine r_aloadN 58 X d9_57 rfl rfl ?_
  refine r_retA X d9_58 rfl rfl rfl (by decide) (by decide) ?_
  exact ⟨b1, rfl, K, sz_b1, gn_b1, _, A_b1⟩
set_option maxRecDepth 65536 in
set_option maxHeartbeats 40000000 in
theorem rmCo_3 (l : Launch) (Z : State) (a0 : Array Value) (hw : ∀ d ∈ tables_1, d.before a0 Z = true) (n0 : Nat) (h : Heap) (Z0 : n0 ≤ h.size) (a1 : Addr) (g : Nat → Value) (A_a1 : AF Z h a1 .byte 3 g) :
    Met1 l Z n0 [] (⟨"java/lang/StringUTF16", "coderFromArrayLen", "([BI)B"⟩ : MethodName) jdk_52_method_15_code 2 (some .byte) ({ frames := 0, cells := 0, slots := 0, locals := 0 } : Room) #[(.ref a1), (.int (3 : Int32))] h (fun v h' => v = some (.int 0) ∧ h = h') := by
  refine met_of (plainFor_of_name pn_11) Z0 (fun m => ef_11 m a1 (3 : Int32)) ?_
  intro p e s m below meth c T hs0 X
  refine r_iloadN 1 X d11_0 rfl ?_
  refine r_aloadN 2 X d11_1 rfl rfl ?_
  refine r_arraylength 3 X A_a1 (3 : Int32) (by decide) d11_2 ?_
  refine r_isub 4 X d11_3 ?_
  refine r_topI (x' := (0 : Int32)) (by decide) ?_
  refine r_bipush 6 X (31 : Int32) d11_4 rfl ?_
  refine r_iushr 7 X d11_6 ?_
  refine r_topI (x' := (0 : Int32)) (by decide) ?_
  refine r_i2b 8 X d11_7 ?_
  refine r_topI (x' := (0 : Int32)) (by decide) ?_
  refine r_retB (z := (0 : Int32)) X d11_8 rfl (by decide) (by decide) ?_
  exact ⟨rfl, rfl⟩
set_option maxRecDepth 65536 in
set_option maxHeartbeats 40000000 in
theorem rmI4_3 (l : Launch) (Z : State) (a0 : Array Value) (hw : ∀ d ∈ tables_1, d.before a0 Z = true) (n0 : Nat) (h : Heap) (Z0 : n0 ≤ h.size) (a1 a2 : Addr) (f : Nat → Int32) (cs : Int32) (hf0 : ¬ (255 : Int32) < f 0) (hf1 : ¬ (255 : Int32) < f 1) (hf2 : ¬ (255 : Int32) < f 2) (ncs : ¬ cs = (0 : Int32)) (ga1 : n0 ≤ a1) (ne_a1_a2 : a1 ≠ a2) (S_COMPACT_STRINGS : Sta Z h "java/lang/String" "COMPACT_STRINGS" "Z" (.int cs)) (E_a1 : Exa Z h a1 "java/lang/String") (F_a1_value : Fld Z h a1 "java/lang/String" "value" "[B" .null) (F_a1_coder : Fld Z h a1 "java/lang/String" "coder" "B" (.int (0 : Int32))) (A_a2 : AF Z h a2 .char 3 (fun j => .int (f j))) :
    Met1 l Z n0 [] (⟨"java/lang/String", "<init>", "([CIILjava/lang/Void;)V"⟩ : MethodName) jdk_42_method_149_code 6 none ({ frames := 2, cells := 1, slots := 3, locals := 35 } : Room) #[(.ref a1), (.ref a2), (.int (0 : Int32)), (.int (3 : Int32)), .null] h (fun v h' => v = none ∧ Keep h h' [a1] ∧ ∃ (b : Addr) (g : Nat → Int32), Fld Z h' a1 "java/lang/String" "value" "[B" (.ref b) ∧ AF Z h' b .byte 3 (fun j => .int (g j))) := by
  refine met_of (plainFor_of_name pn_3) Z0 (fun m => ef_3 m a1 a2 (0 : Int32) (3 : Int32)) ?_
  intro p e s m below meth c T hs0 X
  have K := Keep.refl h [a1]
  refine r_aloadN 1 X d3_0 rfl rfl ?_
  refine r_initO 4 X (hw _ (List.mem_of_getElem? (i := 15) rfl)) (hw _ (List.mem_of_getElem? (i := 16) rfl)) (hw _ (List.mem_of_getElem? (i := 17) rfl)) d3_1 rfl (by decide) 0 (Nat.le_of_eq rfl) (by decide) ?_
  intro T X
  refine r_iloadN 5 X d3_4 rfl ?_
  refine r_ifY 27 X d3_5 ((if0 _ _).trans (feq (by decide)).2) ?_
  refine r_getstatic 30 X (host := "") (Or.inl (hw _ (List.mem_of_getElem? (i := 54) rfl))) Via.refl S_COMPACT_STRINGS d3_27 ?_
  intro T X
  refine r_ifN 33 X d3_30 ((if0 _ _).trans (feq ncs).1) ?_
  refine r_aloadN 34 X d3_33 rfl rfl ?_
  refine r_iloadN 35 X d3_34 rfl ?_
  refine r_iloadN 36 X d3_35 rfl ?_
  refine r_callS 39 X (st := []) (rmC3_3 l Z a0 hw n0 _ X.sz a2 f hf0 hf1 hf2 A_a2) (hw _ (List.mem_of_getElem? (i := 55) rfl)) (hw _ (List.mem_of_getElem? (i := 56) rfl)) (hw _ (List.mem_of_getElem? (i := 58) rfl)) (hw _ (List.mem_of_getElem? (i := 57) rfl)) (by decide) pd_1 [(.ref a2), (.int (0 : Int32)), (.int (3 : Int32))] rfl rfl 0 (Nat.le_of_eq rfl) rfl (by decide) (by decide) (by decide) (by decide) d3_36 ?_
  rintro T h1 v1 ⟨bt, rfl, K1, zbt, gbt, gbt_, Abt⟩ X
  have ne_a1_bt : a1 ≠ bt := Nat.ne_of_lt (Nat.lt_of_lt_of_le E_a1.lt zbt)
  have ne_a2_bt : a2 ≠ bt := Nat.ne_of_lt (Nat.lt_of_lt_of_le A_a2.lt zbt)
  have K := K.trans K1 all0
  have S_COMPACT_STRINGS := S_COMPACT_STRINGS.ext (keepExt K1)
  have E_a1 := E_a1.keep K1
  have F_a1_value := F_a1_value.keep K1 nin0
  have F_a1_coder := F_a1_coder.keep K1 nin0
  have A_a2 := A_a2.keep K1 nin0
  have A_bt := Abt
  change Run _ _ _ _ _ _ _ _ [(.ref bt)]
  refine r_astore 41 X #[.val (.ref a1), .val (.ref a2), .val (.int (0 : Int32)), .val (.int (3 : Int32)), .val .null, .val (.ref bt)] d3_39 rfl rfl ?_
  refine r_aloadN 42 X d3_41 rfl rfl ?_
  refine r_aload 44 X d3_42 rfl rfl ?_
  refine r_iloadN 45 X d3_44 rfl ?_
  refine r_callS 48 X (st := [(.ref a1)]) (rmCo_3 l Z a0 hw n0 _ X.sz bt _ A_bt) (hw _ (List.mem_of_getElem? (i := 62) rfl)) (hw _ (List.mem_of_getElem? (i := 63) rfl)) (hw _ (List.mem_of_getElem? (i := 64) rfl)) (hw _ (List.mem_of_getElem? (i := 57) rfl)) (by decide) pd_2 [(.ref bt), (.int (3 : Int32))] rfl rfl 1 (Nat.le_of_eq rfl) rfl (by decide) (by decide) (by decide) (by decide) d3_45 ?_
  rintro T h2 v2 ⟨rfl, rfl⟩ X
  change Run _ _ _ _ _ _ _ _ [(.int (0 : Int32)), (.ref a1)]
  refine r_putfieldN 51 X (hw _ (List.mem_of_getElem? (i := 25) rfl)) Via.refl F_a1_coder E_a1 (Or.inr ⟨(hw _ (List.mem_of_getElem? (i := 21) rfl)), rfl, rfl⟩) (hw _ (List.mem_of_getElem? (i := 5) rfl)) (ty := .byte) (v' := (.int (0 : Int32))) (by decide) rfl rfl ga1 d3_48 ?_
  intro T h3 W3 X
  have K := K.wr W3 (Or.inl (List.mem_of_getElem? (i := 0) rfl))
  have S_COMPACT_STRINGS := S_COMPACT_STRINGS.wr W3
  have E_a1 := E_a1.wr W3
  have F_a1_value := F_a1_value.other W3 (Or.inr (slot_ne (Or.inr (hw _ (List.mem_of_getElem? (i := 20) rfl))) (Or.inr (hw _ (List.mem_of_getElem? (i := 21) rfl))) (by decide) (t := (.array .byte)) (t' := .byte) (by decide) (by decide)))
  have F_a1_coder := F_a1_coder.same W3
  have A_a2 := A_a2.other W3 (Ne.symm ne_a1_a2)
  have A_bt := A_bt.other W3 (Ne.symm ne_a1_bt)
  refine r_aloadN 52 X d3_51 rfl rfl ?_
  refine r_aload 54 X d3_52 rfl rfl ?_
  refine r_putfield 57 X (host := "") (Or.inl (hw _ (List.mem_of_getElem? (i := 24) rfl))) Via.refl F_a1_value E_a1 (Or.inr ⟨(hw _ (List.mem_of_getElem? (i := 20) rfl)), rfl, rfl⟩) (hw _ (List.mem_of_getElem? (i := 5) rfl)) (ty := (.array .byte)) (by decide) rfl rfl ga1 d3_54 ?_
  intro T h4 W4 X
  have K := K.wr W4 (Or.inl (List.mem_of_getElem? (i := 0) rfl))
  have S_COMPACT_STRINGS := S_COMPACT_STRINGS.wr W4
  have E_a1 := E_a1.wr W4
  have F_a1_value := F_a1_value.same W4
  have F_a1_coder := F_a1_coder.other W4 (Or.inr (slot_ne (Or.inr (hw _ (List.mem_of_getElem? (i := 21) rfl))) (Or.inr (hw _ (List.mem_of_getElem? (i := 20) rfl))) (by decide) (t := .byte) (t' := (.array .byte)) (by decide) (by decide)))
  have A_a2 := A_a2.other W4 (Ne.symm ne_a1_a2)
  have A_bt := A_bt.other W4 (Ne.symm ne_a1_bt)
  refine r_retV X d3_57 (by decide) (by decide) ?_
  exact ⟨rfl, K, bt, _, F_a1_value, A_bt⟩
set_option maxRecDepth 65536 in
set_option maxHeartbeats 40000000 in
theorem rmI1_3 (l : Launch) (Z : State) (a0 : Array Value) (hw : ∀ d ∈ tables_1, d.before a0 Z = true) (n0 : Nat) (h : Heap) (Z0 : n0 ≤ h.size) (a1 a2 : Addr) (f : Nat → Int32) (cs : Int32) (hf0 : ¬ (255 : Int32) < f 0) (hf1 : ¬ (255 : Int32) < f 1) (hf2 : ¬ (255 : Int32) < f 2) (ncs : ¬ cs = (0 : Int32)) (ga1 : n0 ≤ a1) (ne_a1_a2 : a1 ≠ a2) (S_COMPACT_STRINGS : Sta Z h "java/lang/String" "COMPACT_STRINGS" "Z" (.int cs)) (E_a1 : Exa Z h a1 "java/lang/String") (F_a1_value : Fld Z h a1 "java/lang/String" "value" "[B" .null) (F_a1_coder : Fld Z h a1 "java/lang/String" "coder" "B" (.int (0 : Int32))) (A_a2 : AF Z h a2 .char 3 (fun j => .int (f j))) :
    Met1 l Z n0 [] (⟨"java/lang/String", "<init>", "([C)V"⟩ : MethodName) jdk_42_method_3_code 2 none ({ frames := 3, cells := 1, slots := 3, locals := 52 } : Room) #[(.ref a1), (.ref a2)] h (fun v h' => v = none ∧ Keep h h' [a1] ∧ ∃ (b : Addr) (g : Nat → Int32), Fld Z h' a1 "java/lang/String" "value" "[B" (.ref b) ∧ AF Z h' b .byte 3 (fun j => .int (g j))) := by
  refine met_of (plainFor_of_name pn_2) Z0 (fun m => ef_2 m a1 a2) ?_
  intro p e s m below meth c T hs0 X
  have K := Keep.refl h [a1]
  refine r_aloadN 1 X d2_0 rfl rfl ?_
  refine r_aloadN 2 X d2_1 rfl rfl ?_
  refine r_iconst 3 X (0 : Int32) d2_2 rfl ?_
  refine r_aloadN 4 X d2_3 rfl rfl ?_
  refine r_arraylength 5 X A_a2 (3 : Int32) (by decide) d2_4 ?_
  refine r_aconst_null 6 X d2_5 ?_
  refine r_special 9 X (st := []) (a := a1) (rmI4_3 l Z a0 hw n0 _ X.sz a1 a2 f cs hf0 hf1 hf2 ncs ga1 ne_a1_a2 S_COMPACT_STRINGS E_a1 F_a1_value F_a1_coder A_a2) rfl rfl (hw _ (List.mem_of_getElem? (i := 11) rfl)) (hw _ (List.mem_of_getElem? (i := 12) rfl)) (hw _ (List.mem_of_getElem? (i := 14) rfl)) (hw _ (List.mem_of_getElem? (i := 6) rfl)) (by decide) pd_3 [(.ref a2), (.int (0 : Int32)), (.int (3 : Int32)), .null] rfl rfl 0 (Nat.le_of_eq rfl) rfl (by decide) (by decide) (by decide) (by decide) d2_6 ?_
  rintro T h1 v1 ⟨rfl, K1, vb, gv, Fv, Av⟩ X
  have K := K.trans K1 (allS (Or.inl (List.mem_of_getElem? (i := 0) rfl)) all0)
  have E_a1 := E_a1.keep K1
  have A_a2 := A_a2.keep K1 (ninS (Ne.symm ne_a1_a2) nin0)
  have F_a1_value := Fv
  have A_vb := Av
  change Run _ _ _ _ _ _ _ _ []
  refine r_retV X d2_9 (by decide) (by decide) ?_
  exact ⟨rfl, K, vb, gv, F_a1_value, A_vb⟩
theorem own_c255 (x : Int32) : 0 ≤ ((x &&& (255 : Int32)).toUInt32.toUInt16.toUInt32.toInt32).toInt ∧ ((x &&& (255 : Int32)).toUInt32.toUInt16.toUInt32.toInt32).toInt < 256 := by
  have h1 := c_mask x 255 8 (by decide) (by decide)
  rw [show (x &&& (255 : Int32)).toUInt32.toUInt16.toUInt32.toInt32 = x &&& 255 from own_narC (by omega) (by omega)]
  omega
theorem own_le255 {x : Int32} (h : x.toInt < 256) : ¬ (255 : Int32) < x := by rw [Int32.lt_iff_toInt_lt]; have : (255 : Int32).toInt = 255 := rfl; omega
theorem d1_0 : decode method_2_code 0 = .ok (.iload_n 1, 1) := by decide +kernel
theorem d1_1 : decode method_2_code 1 = .ok (.sipush 255, 3) := by decide +kernel
theorem d1_4 : decode method_2_code 4 = .ok (.iand, 1) := by decide +kernel
theorem d1_5 : decode method_2_code 5 = .ok (.i2c, 1) := by decide +kernel
theorem d1_6 : decode method_2_code 6 = .ok (.istore 4, 2) := by decide +kernel
theorem d1_8 : decode method_2_code 8 = .ok (.iload_n 2, 1) := by decide +kernel
theorem d1_9 : decode method_2_code 9 = .ok (.sipush 255, 3) := by decide +kernel
theorem d1_12 : decode method_2_code 12 = .ok (.iand, 1) := by decide +kernel
theorem d1_13 : decode method_2_code 13 = .ok (.i2c, 1) := by decide +kernel
theorem d1_14 : decode method_2_code 14 = .ok (.istore 5, 2) := by decide +kernel
theorem d1_16 : decode method_2_code 16 = .ok (.iload_n 3, 1) := by decide +kernel
theorem d1_17 : decode method_2_code 17 = .ok (.sipush 255, 3) := by decide +kernel
theorem d1_20 : decode method_2_code 20 = .ok (.iand, 1) := by decide +kernel
theorem d1_21 : decode method_2_code 21 = .ok (.i2c, 1) := by decide +kernel
theorem d1_22 : decode method_2_code 22 = .ok (.istore 6, 2) := by decide +kernel
theorem d1_24 : decode method_2_code 24 = .ok (.iload_n 0, 1) := by decide +kernel
theorem d1_25 : decode method_2_code 25 = .ok (.ifCond .ne 14, 3) := by decide +kernel
theorem d1_39 : decode method_2_code 39 = .ok (.iload_n 0, 1) := by decide +kernel
theorem d1_40 : decode method_2_code 40 = .ok (.iconst 1, 1) := by decide +kernel
theorem d1_41 : decode method_2_code 41 = .ok (.if_icmp .ne 19, 3) := by decide +kernel
theorem d1_44 : decode method_2_code 44 = .ok (.new 7, 3) := by decide +kernel
theorem d1_47 : decode method_2_code 47 = .ok (.dup, 1) := by decide +kernel
theorem d1_48 : decode method_2_code 48 = .ok (.iconst 1, 1) := by decide +kernel
theorem d1_49 : decode method_2_code 49 = .ok (.newarray .char, 2) := by decide +kernel
theorem d1_51 : decode method_2_code 51 = .ok (.dup, 1) := by decide +kernel
theorem d1_52 : decode method_2_code 52 = .ok (.iconst 0, 1) := by decide +kernel
theorem d1_53 : decode method_2_code 53 = .ok (.iload 4, 2) := by decide +kernel
theorem d1_55 : decode method_2_code 55 = .ok (.castore, 1) := by decide +kernel
theorem d1_56 : decode method_2_code 56 = .ok (.invokespecial 9, 3) := by decide +kernel
theorem d1_59 : decode method_2_code 59 = .ok (.areturn, 1) := by decide +kernel
theorem pn_1 : plainName "com/example/esclusa/esclusa/provider/StreamEventCamePinLaw" = true := by first | (simp [plainName, overriddenIn]; done) | decide +kernel
theorem ef_1 (m : MethodId) (x0 : Int32) (x1 : Int32) (x2 : Int32) (x3 : Int32) : entryFrame m #[(.int x0), (.int x1), (.int x2), (.int x3)] 7 = mkF m 0 #[.val (.int x0), .val (.int x1), .val (.int x2), .val (.int x3), .unset, .unset, .unset] [] := by first | (simp [entryFrame, mkF, argsToLocals, Value.category]; done) | rfl
set_option maxRecDepth 65536 in
set_option maxHeartbeats 40000000 in
theorem rmStr1 (l : Launch) (Z : State) (a0 : Array Value) (hw : ∀ d ∈ tables_1, d.before a0 Z = true) (n0 : Nat) (h : Heap) (Z0 : n0 ≤ h.size) (x0 x1 x2 cs : Int32) (ncs : ¬ cs = (0 : Int32)) (S_COMPACT_STRINGS : Sta Z h "java/lang/String" "COMPACT_STRINGS" "Z" (.int cs)) :
    Met1 l Z n0 [] (⟨"com/example/esclusa/esclusa/provider/StreamEventCamePinLaw", "str", "(IIII)Ljava/lang/String;"⟩ : MethodName) method_2_code 7 (some (.object "java/lang/String")) ({ frames := 5, cells := 6, slots := 16, locals := 120 } : Room) #[(.int (1 : Int32)), (.int x0), (.int x1), (.int x2)] h (fun v h' => ∃ (s_ a_ : Addr) (g : Nat → Int32), v = some (.ref s_) ∧ Keep h h' [] ∧ h.size ≤ s_ ∧ Exa Z h' s_ "java/lang/String" ∧ Fld Z h' s_ "java/lang/String" "value" "[B" (.ref a_) ∧ AF Z h' a_ .byte 1 (fun j => .int (g j))) := by
  refine met_of (plainFor_of_name pn_1) Z0 (fun m => ef_1 m (1 : Int32) x0 x1 x2) ?_
  intro p e s m below meth c T hs0 X
  have K := Keep.refl h []
  refine r_iloadN 1 X d1_0 rfl ?_
  refine r_sipush 4 X (255 : Int32) d1_1 rfl ?_
  refine r_iand 5 X d1_4 ?_
  refine r_i2c 6 X d1_5 ?_
  obtain ⟨hc0, hC0⟩ := own_c255 x0
  generalize ((x0 &&& (255 : Int32)).toUInt32.toUInt16.toUInt32.toInt32) = ch0 at hc0 hC0 ⊢
  have hf0 := own_le255 hC0
  refine r_istore 8 X #[.val (.int (1 : Int32)), .val (.int x0), .val (.int x1), .val (.int x2), .val (.int ch0), .unset, .unset] d1_6 rfl ?_
  refine r_iloadN 9 X d1_8 rfl ?_
  refine r_sipush 12 X (255 : Int32) d1_9 rfl ?_
  refine r_iand 13 X d1_12 ?_
  refine r_i2c 14 X d1_13 ?_
  obtain ⟨hc1, hC1⟩ := own_c255 x1
  generalize ((x1 &&& (255 : Int32)).toUInt32.toUInt16.toUInt32.toInt32) = ch1 at hc1 hC1 ⊢
  have hf1 := own_le255 hC1
  refine r_istore 16 X #[.val (.int (1 : Int32)), .val (.int x0), .val (.int x1), .val (.int x2), .val (.int ch0), .val (.int ch1), .unset] d1_14 rfl ?_
  refine r_iloadN 17 X d1_16 rfl ?_
  refine r_sipush 20 X (255 : Int32) d1_17 rfl ?_
  refine r_iand 21 X d1_20 ?_
  refine r_i2c 22 X d1_21 ?_
  obtain ⟨hc2, hC2⟩ := own_c255 x2
  generalize ((x2 &&& (255 : Int32)).toUInt32.toUInt16.toUInt32.toInt32) = ch2 at hc2 hC2 ⊢
  have hf2 := own_le255 hC2
  refine r_istore 24 X #[.val (.int (1 : Int32)), .val (.int x0), .val (.int x1), .val (.int x2), .val (.int ch0), .val (.int ch1), .val (.int ch2)] d1_22 rfl ?_
  refine r_iloadN 25 X d1_24 rfl ?_
  refine r_ifY 39 X d1_25 ((if0 _ _).trans (feq (by decide)).2) ?_
  refine r_iloadN 40 X d1_39 rfl ?_
  refine r_iconst 41 X (1 : Int32) d1_40 rfl ?_
  refine r_icmpN 44 X d1_41 (teq (by decide)).2 ?_
  refine r_new 47 X (hw _ (List.mem_of_getElem? (i := 4) rfl)) (hw _ (List.mem_of_getElem? (i := 5) rfl)) (hw _ (List.mem_of_getElem? (i := 6) rfl)) d1_44 (by decide) (by decide) ?_
  intro T h1 b1 g1 gn_b1 E1 A1 D1 X
  have sz_b1 : h.size ≤ b1 := Nat.le_trans K.1 (Nat.le_of_eq g1.symm)
  have K := K.ext E1
  have S_COMPACT_STRINGS := S_COMPACT_STRINGS.ext E1
  have E_b1 := A1
  have F_b1_value : Fld Z h1 b1 "java/lang/String" "value" "[B" .null := D1 (Or.inr (hw _ (List.mem_of_getElem? (i := 20) rfl))) (ty := (.array .byte)) (by decide)
  have F_b1_coder : Fld Z h1 b1 "java/lang/String" "coder" "B" (.int (0 : Int32)) := D1 (Or.inr (hw _ (List.mem_of_getElem? (i := 21) rfl))) (ty := .byte) (by decide)
  refine r_dup 48 X d1_47 rfl ?_
  refine r_iconst 49 X (1 : Int32) d1_48 rfl ?_
  refine r_newarray 51 X 1 1 (hw _ (List.mem_of_getElem? (i := 7) rfl)) d1_49 (by decide) (by decide) (by decide) (by decide) (by decide) ?_
  intro T h2 b2 g2 gn_b2 E2 A_b2 X
  have sz_b2 : h.size ≤ b2 := Nat.le_trans K.1 (Nat.le_of_eq g2.symm)
  have ne_b1_b2 : b1 ≠ b2 := Nat.ne_of_lt (Nat.lt_of_lt_of_eq E_b1.lt g2.symm)
  have K := K.ext E2
  have S_COMPACT_STRINGS := S_COMPACT_STRINGS.ext E2
  have E_b1 := E_b1.ext E2
  have F_b1_value := F_b1_value.ext E2
  have F_b1_coder := F_b1_coder.ext E2
  replace A_b2 : AF Z h2 b2 .char 1 (fun j => .int ((fun _ => (0 : Int32)) j)) := A_b2
  refine r_dup 52 X d1_51 rfl ?_
  refine r_iconst 53 X (0 : Int32) d1_52 rfl ?_
  refine r_iload 55 X d1_53 rfl ?_
  refine r_castore 56 X A_b2 (i := 0) (v := (.int ch0)) (by decide) (by decide) (congrArg Value.int (own_narC hc0 (by omega))) gn_b2 d1_55 ?_
  intro T h3 W3 X
  have K := K.wr W3 (Or.inr sz_b2)
  have S_COMPACT_STRINGS := S_COMPACT_STRINGS.wr W3
  have E_b1 := E_b1.wr W3
  have F_b1_value := F_b1_value.other W3 (Or.inl ne_b1_b2)
  have F_b1_coder := F_b1_coder.other W3 (Or.inl ne_b1_b2)
  have A_b2 := A_b2.setI W3
  refine r_special 59 X (st := [(.ref b1)]) (a := b1) (rmI1_1 l Z a0 hw n0 _ X.sz b1 b2 (updI (fun _ => (0 : Int32)) 0 ch0) cs hf0 ncs gn_b1 ne_b1_b2 S_COMPACT_STRINGS E_b1 F_b1_value F_b1_coder A_b2) rfl rfl (hw _ (List.mem_of_getElem? (i := 8) rfl)) (hw _ (List.mem_of_getElem? (i := 9) rfl)) (hw _ (List.mem_of_getElem? (i := 10) rfl)) (hw _ (List.mem_of_getElem? (i := 6) rfl)) (by decide) pd_4 [(.ref b2)] rfl rfl 1 (Nat.le_of_eq rfl) rfl (by decide) (by decide) (by decide) (by decide) d1_56 ?_
  rintro T h4 v4 ⟨rfl, K4, vb, gv, Fv, Av⟩ X
  have K := K.trans K4 (allS (Or.inr sz_b1) all0)
  have E_b1 := E_b1.keep K4
  have A_b2 := A_b2.keep K4 (ninS (Ne.symm ne_b1_b2) nin0)
  have F_b1_value := Fv
  have A_vb := Av
  change Run _ _ _ _ _ _ _ _ [(.ref b1)]
  refine r_retA X d1_59 rfl rfl rfl (by decide) (by decide) ?_
  exact ⟨b1, vb, gv, rfl, K, sz_b1, E_b1, F_b1_value, A_vb⟩
theorem d1_60 : decode method_2_code 60 = .ok (.iload_n 0, 1) := by decide +kernel
theorem d1_61 : decode method_2_code 61 = .ok (.iconst 2, 1) := by decide +kernel
theorem d1_62 : decode method_2_code 62 = .ok (.if_icmp .ne 24, 3) := by decide +kernel
theorem d1_65 : decode method_2_code 65 = .ok (.new 7, 3) := by decide +kernel
theorem d1_68 : decode method_2_code 68 = .ok (.dup, 1) := by decide +kernel
theorem d1_69 : decode method_2_code 69 = .ok (.iconst 2, 1) := by decide +kernel
theorem d1_70 : decode method_2_code 70 = .ok (.newarray .char, 2) := by decide +kernel
theorem d1_72 : decode method_2_code 72 = .ok (.dup, 1) := by decide +kernel
theorem d1_73 : decode method_2_code 73 = .ok (.iconst 0, 1) := by decide +kernel
theorem d1_74 : decode method_2_code 74 = .ok (.iload 4, 2) := by decide +kernel
theorem d1_76 : decode method_2_code 76 = .ok (.castore, 1) := by decide +kernel
theorem d1_77 : decode method_2_code 77 = .ok (.dup, 1) := by decide +kernel
theorem d1_78 : decode method_2_code 78 = .ok (.iconst 1, 1) := by decide +kernel
theorem d1_79 : decode method_2_code 79 = .ok (.iload 5, 2) := by decide +kernel
theorem d1_81 : decode method_2_code 81 = .ok (.castore, 1) := by decide +kernel
theorem d1_82 : decode method_2_code 82 = .ok (.invokespecial 9, 3) := by decide +kernel
theorem d1_85 : decode method_2_code 85 = .ok (.areturn, 1) := by decide +kernel
set_option maxRecDepth 65536 in
set_option maxHeartbeats 40000000 in
theorem rmStr2 (l : Launch) (Z : State) (a0 : Array Value) (hw : ∀ d ∈ tables_1, d.before a0 Z = true) (n0 : Nat) (h : Heap) (Z0 : n0 ≤ h.size) (x0 x1 x2 cs : Int32) (ncs : ¬ cs = (0 : Int32)) (S_COMPACT_STRINGS : Sta Z h "java/lang/String" "COMPACT_STRINGS" "Z" (.int cs)) :
    Met1 l Z n0 [] (⟨"com/example/esclusa/esclusa/provider/StreamEventCamePinLaw", "str", "(IIII)Ljava/lang/String;"⟩ : MethodName) method_2_code 7 (some (.object "java/lang/String")) ({ frames := 5, cells := 6, slots := 16, locals := 120 } : Room) #[(.int (2 : Int32)), (.int x0), (.int x1), (.int x2)] h (fun v h' => ∃ (s_ a_ : Addr) (g : Nat → Int32), v = some (.ref s_) ∧ Keep h h' [] ∧ h.size ≤ s_ ∧ Exa Z h' s_ "java/lang/String" ∧ Fld Z h' s_ "java/lang/String" "value" "[B" (.ref a_) ∧ AF Z h' a_ .byte 2 (fun j => .int (g j))) := by
  refine met_of (plainFor_of_name pn_1) Z0 (fun m => ef_1 m (2 : Int32) x0 x1 x2) ?_
  intro p e s m below meth c T hs0 X
  have K := Keep.refl h []
  refine r_iloadN 1 X d1_0 rfl ?_
  refine r_sipush 4 X (255 : Int32) d1_1 rfl ?_
  refine r_iand 5 X d1_4 ?_
  refine r_i2c 6 X d1_5 ?_
  obtain ⟨hc0, hC0⟩ := own_c255 x0
  generalize ((x0 &&& (255 : Int32)).toUInt32.toUInt16.toUInt32.toInt32) = ch0 at hc0 hC0 ⊢
  have hf0 := own_le255 hC0
  refine r_istore 8 X #[.val (.int (2 : Int32)), .val (.int x0), .val (.int x1), .val (.int x2), .val (.int ch0), .unset, .unset] d1_6 rfl ?_
  refine r_iloadN 9 X d1_8 rfl ?_
  refine r_sipush 12 X (255 : Int32) d1_9 rfl ?_
  refine r_iand 13 X d1_12 ?_
  refine r_i2c 14 X d1_13 ?_
  obtain ⟨hc1, hC1⟩ := own_c255 x1
  generalize ((x1 &&& (255 : Int32)).toUInt32.toUInt16.toUInt32.toInt32) = ch1 at hc1 hC1 ⊢
  have hf1 := own_le255 hC1
  refine r_istore 16 X #[.val (.int (2 : Int32)), .val (.int x0), .val (.int x1), .val (.int x2), .val (.int ch0), .val (.int ch1), .unset] d1_14 rfl ?_
  refine r_iloadN 17 X d1_16 rfl ?_
  refine r_sipush 20 X (255 : Int32) d1_17 rfl ?_
  refine r_iand 21 X d1_20 ?_
  refine r_i2c 22 X d1_21 ?_
  obtain ⟨hc2, hC2⟩ := own_c255 x2
  generalize ((x2 &&& (255 : Int32)).toUInt32.toUInt16.toUInt32.toInt32) = ch2 at hc2 hC2 ⊢
  have hf2 := own_le255 hC2
  refine r_istore 24 X #[.val (.int (2 : Int32)), .val (.int x0), .val (.int x1), .val (.int x2), .val (.int ch0), .val (.int ch1), .val (.int ch2)] d1_22 rfl ?_
  refine r_iloadN 25 X d1_24 rfl ?_
  refine r_ifY 39 X d1_25 ((if0 _ _).trans (feq (by decide)).2) ?_
  refine r_iloadN 40 X d1_39 rfl ?_
  refine r_iconst 41 X (1 : Int32) d1_40 rfl ?_
  refine r_icmpY 60 X d1_41 (feq (by decide)).2 ?_
  refine r_iloadN 61 X d1_60 rfl ?_
  refine r_iconst 62 X (2 : Int32) d1_61 rfl ?_
  refine r_icmpN 65 X d1_62 (teq (by decide)).2 ?_
  refine r_new 68 X (hw _ (List.mem_of_getElem? (i := 4) rfl)) (hw _ (List.mem_of_getElem? (i := 5) rfl)) (hw _ (List.mem_of_getElem? (i := 6) rfl)) d1_65 (by decide) (by decide) ?_
  intro T h1 b1 g1 gn_b1 E1 A1 D1 X
  have sz_b1 : h.size ≤ b1 := Nat.le_trans K.1 (Nat.le_of_eq g1.symm)
  have K := K.ext E1
  have S_COMPACT_STRINGS := S_COMPACT_STRINGS.ext E1
  have E_b1 := A1
  have F_b1_value : Fld Z h1 b1 "java/lang/String" "value" "[B" .null := D1 (Or.inr (hw _ (List.mem_of_getElem? (i := 20) rfl))) (ty := (.array .byte)) (by decide)
  have F_b1_coder : Fld Z h1 b1 "java/lang/String" "coder" "B" (.int (0 : Int32)) := D1 (Or.inr (hw _ (List.mem_of_getElem? (i := 21) rfl))) (ty := .byte) (by decide)
  refine r_dup 69 X d1_68 rfl ?_
  refine r_iconst 70 X (2 : Int32) d1_69 rfl ?_
  refine r_newarray 72 X 2 2 (hw _ (List.mem_of_getElem? (i := 7) rfl)) d1_70 (by decide) (by decide) (by decide) (by decide) (by decide) ?_
  intro T h2 b2 g2 gn_b2 E2 A_b2 X
  have sz_b2 : h.size ≤ b2 := Nat.le_trans K.1 (Nat.le_of_eq g2.symm)
  have ne_b1_b2 : b1 ≠ b2 := Nat.ne_of_lt (Nat.lt_of_lt_of_eq E_b1.lt g2.symm)
  have K := K.ext E2
  have S_COMPACT_STRINGS := S_COMPACT_STRINGS.ext E2
  have E_b1 := E_b1.ext E2
  have F_b1_value := F_b1_value.ext E2
  have F_b1_coder := F_b1_coder.ext E2
  replace A_b2 : AF Z h2 b2 .char 2 (fun j => .int ((fun _ => (0 : Int32)) j)) := A_b2
  refine r_dup 73 X d1_72 rfl ?_
  refine r_iconst 74 X (0 : Int32) d1_73 rfl ?_
  refine r_iload 76 X d1_74 rfl ?_
  refine r_castore 77 X A_b2 (i := 0) (v := (.int ch0)) (by decide) (by decide) (congrArg Value.int (own_narC hc0 (by omega))) gn_b2 d1_76 ?_
  intro T h3 W3 X
  have K := K.wr W3 (Or.inr sz_b2)
  have S_COMPACT_STRINGS := S_COMPACT_STRINGS.wr W3
  have E_b1 := E_b1.wr W3
  have F_b1_value := F_b1_value.other W3 (Or.inl ne_b1_b2)
  have F_b1_coder := F_b1_coder.other W3 (Or.inl ne_b1_b2)
  have A_b2 := A_b2.setI W3
  refine r_dup 78 X d1_77 rfl ?_
  refine r_iconst 79 X (1 : Int32) d1_78 rfl ?_
  refine r_iload 81 X d1_79 rfl ?_
  refine r_castore 82 X A_b2 (i := 1) (v := (.int ch1)) (by decide) (by decide) (congrArg Value.int (own_narC hc1 (by omega))) gn_b2 d1_81 ?_
  intro T h4 W4 X
  have K := K.wr W4 (Or.inr sz_b2)
  have S_COMPACT_STRINGS := S_COMPACT_STRINGS.wr W4
  have E_b1 := E_b1.wr W4
  have F_b1_value := F_b1_value.other W4 (Or.inl ne_b1_b2)
  have F_b1_coder := F_b1_coder.other W4 (Or.inl ne_b1_b2)
  have A_b2 := A_b2.setI W4
  refine r_special 85 X (st := [(.ref b1)]) (a := b1) (rmI1_2 l Z a0 hw n0 _ X.sz b1 b2 (updI (updI (fun _ => (0 : Int32)) 0 ch0) 1 ch1) cs hf0 hf1 ncs gn_b1 ne_b1_b2 S_COMPACT_STRINGS E_b1 F_b1_value F_b1_coder A_b2) rfl rfl (hw _ (List.mem_of_getElem? (i := 8) rfl)) (hw _ (List.mem_of_getElem? (i := 9) rfl)) (hw _ (List.mem_of_getElem? (i := 10) rfl)) (hw _ (List.mem_of_getElem? (i := 6) rfl)) (by decide) pd_4 [(.ref b2)] rfl rfl 1 (Nat.le_of_eq rfl) rfl (by decide) (by decide) (by decide) (by decide) d1_82 ?_
  rintro T h5 v5 ⟨rfl, K5, vb, gv, Fv, Av⟩ X
  have K := K.trans K5 (allS (Or.inr sz_b1) all0)
  have E_b1 := E_b1.keep K5
  have A_b2 := A_b2.keep K5 (ninS (Ne.symm ne_b1_b2) nin0)
  have F_b1_value := Fv
  have A_vb := Av
  change Run _ _ _ _ _ _ _ _ [(.ref b1)]
  refine r_retA X d1_85 rfl rfl rfl (by decide) (by decide) ?_
  exact ⟨b1, vb, gv, rfl, K, sz_b1, E_b1, F_b1_value, A_vb⟩
theorem d1_86 : decode method_2_code 86 = .ok (.new 7, 3) := by decide +kernel
theorem d1_89 : decode method_2_code 89 = .ok (.dup, 1) := by decide +kernel
theorem d1_90 : decode method_2_code 90 = .ok (.iconst 3, 1) := by decide +kernel
theorem d1_91 : decode method_2_code 91 = .ok (.newarray .char, 2) := by decide +kernel
theorem d1_93 : decode method_2_code 93 = .ok (.dup, 1) := by decide +kernel
theorem d1_94 : decode method_2_code 94 = .ok (.iconst 0, 1) := by decide +kernel
theorem d1_95 : decode method_2_code 95 = .ok (.iload 4, 2) := by decide +kernel
theorem d1_97 : decode method_2_code 97 = .ok (.castore, 1) := by decide +kernel
theorem d1_98 : decode method_2_code 98 = .ok (.dup, 1) := by decide +kernel
theorem d1_99 : decode method_2_code 99 = .ok (.iconst 1, 1) := by decide +kernel
theorem d1_100 : decode method_2_code 100 = .ok (.iload 5, 2) := by decide +kernel
theorem d1_102 : decode method_2_code 102 = .ok (.castore, 1) := by decide +kernel
theorem d1_103 : decode method_2_code 103 = .ok (.dup, 1) := by decide +kernel
theorem d1_104 : decode method_2_code 104 = .ok (.iconst 2, 1) := by decide +kernel
theorem d1_105 : decode method_2_code 105 = .ok (.iload 6, 2) := by decide +kernel
theorem d1_107 : decode method_2_code 107 = .ok (.castore, 1) := by decide +kernel
theorem d1_108 : decode method_2_code 108 = .ok (.invokespecial 9, 3) := by decide +kernel
theorem d1_111 : decode method_2_code 111 = .ok (.areturn, 1) := by decide +kernel
set_option maxRecDepth 65536 in
set_option maxHeartbeats 40000000 in
theorem rmStr3 (l : Launch) (Z : State) (a0 : Array Value) (hw : ∀ d ∈ tables_1, d.before a0 Z = true) (n0 : Nat) (h : Heap) (Z0 : n0 ≤ h.size) (x0 x1 x2 cs : Int32) (ncs : ¬ cs = (0 : Int32)) (S_COMPACT_STRINGS : Sta Z h "java/lang/String" "COMPACT_STRINGS" "Z" (.int cs)) :
    Met1 l Z n0 [] (⟨"com/example/esclusa/esclusa/provider/StreamEventCamePinLaw", "str", "(IIII)Ljava/lang/String;"⟩ : MethodName) method_2_code 7 (some (.object "java/lang/String")) ({ frames := 5, cells := 6, slots := 16, locals := 120 } : Room) #[(.int (3 : Int32)), (.int x0), (.int x1), (.int x2)] h (fun v h' => ∃ (s_ a_ : Addr) (g : Nat → Int32), v = some (.ref s_) ∧ Keep h h' [] ∧ h.size ≤ s_ ∧ Exa Z h' s_ "java/lang/String" ∧ Fld Z h' s_ "java/lang/String" "value" "[B" (.ref a_) ∧ AF Z h' a_ .byte 3 (fun j => .int (g j))) := by
  refine met_of (plainFor_of_name pn_1) Z0 (fun m => ef_1 m (3 : Int32) x0 x1 x2) ?_
  intro p e s m below meth c T hs0 X
  have K := Keep.refl h []
  refine r_iloadN 1 X d1_0 rfl ?_
  refine r_sipush 4 X (255 : Int32) d1_1 rfl ?_
  refine r_iand 5 X d1_4 ?_
  refine r_i2c 6 X d1_5 ?_
  obtain ⟨hc0, hC0⟩ := own_c255 x0
  generalize ((x0 &&& (255 : Int32)).toUInt32.toUInt16.toUInt32.toInt32) = ch0 at hc0 hC0 ⊢
  have hf0 := own_le255 hC0
  refine r_istore 8 X #[.val (.int (3 : Int32)), .val (.int x0), .val (.int x1), .val (.int x2), .val (.int ch0), .unset, .unset] d1_6 rfl ?_
  refine r_iloadN 9 X d1_8 rfl ?_
  refine r_sipush 12 X (255 : Int32) d1_9 rfl ?_
  refine r_iand 13 X d1_12 ?_
  refine r_i2c 14 X d1_13 ?_
  obtain ⟨hc1, hC1⟩ := own_c255 x1
  generalize ((x1 &&& (255 : Int32)).toUInt32.toUInt16.toUInt32.toInt32) = ch1 at hc1 hC1 ⊢
  have hf1 := own_le255 hC1
  refine r_istore 16 X #[.val (.int (3 : Int32)), .val (.int x0), .val (.int x1), .val (.int x2), .val (.int ch0), .val (.int ch1), .unset] d1_14 rfl ?_
  refine r_iloadN 17 X d1_16 rfl ?_
  refine r_sipush 20 X (255 : Int32) d1_17 rfl ?_
  refine r_iand 21 X d1_20 ?_
  refine r_i2c 22 X d1_21 ?_
  obtain ⟨hc2, hC2⟩ := own_c255 x2
  generalize ((x2 &&& (255 : Int32)).toUInt32.toUInt16.toUInt32.toInt32) = ch2 at hc2 hC2 ⊢
  have hf2 := own_le255 hC2
  refine r_istore 24 X #[.val (.int (3 : Int32)), .val (.int x0), .val (.int x1), .val (.int x2), .val (.int ch0), .val (.int ch1), .val (.int ch2)] d1_22 rfl ?_
  refine r_iloadN 25 X d1_24 rfl ?_
  refine r_ifY 39 X d1_25 ((if0 _ _).trans (feq (by decide)).2) ?_
  refine r_iloadN 40 X d1_39 rfl ?_
  refine r_iconst 41 X (1 : Int32) d1_40 rfl ?_
  refine r_icmpY 60 X d1_41 (feq (by decide)).2 ?_
  refine r_iloadN 61 X d1_60 rfl ?_
  refine r_iconst 62 X (2 : Int32) d1_61 rfl ?_
  refine r_icmpY 86 X d1_62 (feq (by decide)).2 ?_
  refine r_new 89 X (hw _ (List.mem_of_getElem? (i := 4) rfl)) (hw _ (List.mem_of_getElem? (i := 5) rfl)) (hw _ (List.mem_of_getElem? (i := 6) rfl)) d1_86 (by decide) (by decide) ?_
  intro T h1 b1 g1 gn_b1 E1 A1 D1 X
  have sz_b1 : h.size ≤ b1 := Nat.le_trans K.1 (Nat.le_of_eq g1.symm)
  have K := K.ext E1
  have S_COMPACT_STRINGS := S_COMPACT_STRINGS.ext E1
  have E_b1 := A1
  have F_b1_value : Fld Z h1 b1 "java/lang/String" "value" "[B" .null := D1 (Or.inr (hw _ (List.mem_of_getElem? (i := 20) rfl))) (ty := (.array .byte)) (by decide)
  have F_b1_coder : Fld Z h1 b1 "java/lang/String" "coder" "B" (.int (0 : Int32)) := D1 (Or.inr (hw _ (List.mem_of_getElem? (i := 21) rfl))) (ty := .byte) (by decide)
  refine r_dup 90 X d1_89 rfl ?_
  refine r_iconst 91 X (3 : Int32) d1_90 rfl ?_
  refine r_newarray 93 X 3 3 (hw _ (List.mem_of_getElem? (i := 7) rfl)) d1_91 (by decide) (by decide) (by decide) (by decide) (by decide) ?_
  intro T h2 b2 g2 gn_b2 E2 A_b2 X
  have sz_b2 : h.size ≤ b2 := Nat.le_trans K.1 (Nat.le_of_eq g2.symm)
  have ne_b1_b2 : b1 ≠ b2 := Nat.ne_of_lt (Nat.lt_of_lt_of_eq E_b1.lt g2.symm)
  have K := K.ext E2
  have S_COMPACT_STRINGS := S_COMPACT_STRINGS.ext E2
  have E_b1 := E_b1.ext E2
  have F_b1_value := F_b1_value.ext E2
  have F_b1_coder := F_b1_coder.ext E2
  replace A_b2 : AF Z h2 b2 .char 3 (fun j => .int ((fun _ => (0 : Int32)) j)) := A_b2
  refine r_dup 94 X d1_93 rfl ?_
  refine r_iconst 95 X (0 : Int32) d1_94 rfl ?_
  refine r_iload 97 X d1_95 rfl ?_
  refine r_castore 98 X A_b2 (i := 0) (v := (.int ch0)) (by decide) (by decide) (congrArg Value.int (own_narC hc0 (by omega))) gn_b2 d1_97 ?_
  intro T h3 W3 X
  have K := K.wr W3 (Or.inr sz_b2)
  have S_COMPACT_STRINGS := S_COMPACT_STRINGS.wr W3
  have E_b1 := E_b1.wr W3
  have F_b1_value := F_b1_value.other W3 (Or.inl ne_b1_b2)
  have F_b1_coder := F_b1_coder.other W3 (Or.inl ne_b1_b2)
  have A_b2 := A_b2.setI W3
  refine r_dup 99 X d1_98 rfl ?_
  refine r_iconst 100 X (1 : Int32) d1_99 rfl ?_
  refine r_iload 102 X d1_100 rfl ?_
  refine r_castore 103 X A_b2 (i := 1) (v := (.int ch1)) (by decide) (by decide) (congrArg Value.int (own_narC hc1 (by omega))) gn_b2 d1_102 ?_
  intro T h4 W4 X
  have K := K.wr W4 (Or.inr sz_b2)
  have S_COMPACT_STRINGS := S_COMPACT_STRINGS.wr W4
  have E_b1 := E_b1.wr W4
  have F_b1_value := F_b1_value.other W4 (Or.inl ne_b1_b2)
  have F_b1_coder := F_b1_coder.other W4 (Or.inl ne_b1_b2)
  have A_b2 := A_b2.setI W4
  refine r_dup 104 X d1_103 rfl ?_
  refine r_iconst 105 X (2 : Int32) d1_104 rfl ?_
  refine r_iload 107 X d1_105 rfl ?_
  refine r_castore 108 X A_b2 (i := 2) (v := (.int ch2)) (by decide) (by decide) (congrArg Value.int (own_narC hc2 (by omega))) gn_b2 d1_107 ?_
  intro T h5 W5 X
  have K := K.wr W5 (Or.inr sz_b2)
  have S_COMPACT_STRINGS := S_COMPACT_STRINGS.wr W5
  have E_b1 := E_b1.wr W5
  have F_b1_value := F_b1_value.other W5 (Or.inl ne_b1_b2)
  have F_b1_coder := F_b1_coder.other W5 (Or.inl ne_b1_b2)
  have A_b2 := A_b2.setI W5
  refine r_special 111 X (st := [(.ref b1)]) (a := b1) (rmI1_3 l Z a0 hw n0 _ X.sz b1 b2 (updI (updI (updI (fun _ => (0 : Int32)) 0 ch0) 1 ch1) 2 ch2) cs hf0 hf1 hf2 ncs gn_b1 ne_b1_b2 S_COMPACT_STRINGS E_b1 F_b1_value F_b1_coder A_b2) rfl rfl (hw _ (List.mem_of_getElem? (i := 8) rfl)) (hw _ (List.mem_of_getElem? (i := 9) rfl)) (hw _ (List.mem_of_getElem? (i := 10) rfl)) (hw _ (List.mem_of_getElem? (i := 6) rfl)) (by decide) pd_4 [(.ref b2)] rfl rfl 1 (Nat.le_of_eq rfl) rfl (by decide) (by decide) (by decide) (by decide) d1_108 ?_
  rintro T h6 v6 ⟨rfl, K6, vb, gv, Fv, Av⟩ X
  have K := K.trans K6 (allS (Or.inr sz_b1) all0)
  have E_b1 := E_b1.keep K6
  have A_b2 := A_b2.keep K6 (ninS (Ne.symm ne_b1_b2) nin0)
  have F_b1_value := Fv
  have A_vb := Av
  change Run _ _ _ _ _ _ _ _ [(.ref b1)]
  refine r_retA X d1_111 rfl rfl rfl (by decide) (by decide) ?_
  exact ⟨b1, vb, gv, rfl, K, sz_b1, E_b1, F_b1_value, A_vb⟩
theorem own_EW {Z : State} {a0 : Array Value} (hw : ∀ d ∈ tables_1, d.before a0 Z = true) : EW Z a0 [("java/lang/String", 7)] := EW.cons (hw _ (List.mem_of_getElem? (i := 18) rfl)) (fun _ q => nomatch q) EW.nil
theorem own_SA {Z : State} {a0 : Array Value} (hw : ∀ d ∈ tables_1, d.before a0 Z = true) : ∀ a ∈ Bundle.stringAtoms, a.before a0 Z = true := by
  intro a ha
  simp only [Bundle.stringAtoms, List.mem_cons, List.not_mem_nil, or_false] at ha
  rcases ha with rfl | rfl | rfl | rfl | rfl | rfl | rfl
  · exact (hw _ (List.mem_of_getElem? (i := 6) rfl))
  · exact (hw _ (List.mem_of_getElem? (i := 5) rfl))
  · exact (hw _ (List.mem_of_getElem? (i := 19) rfl))
  · exact (hw _ (List.mem_of_getElem? (i := 20) rfl))
  · exact (hw _ (List.mem_of_getElem? (i := 21) rfl))
  · exact (hw _ (List.mem_of_getElem? (i := 22) rfl))
  · exact (hw _ (List.mem_of_getElem? (i := 23) rfl))
theorem d3_8 : decode jdk_42_method_149_code 8 = .ok (.aload_n 0, 1) := by decide +kernel
theorem d3_9 : decode jdk_42_method_149_code 9 = .ok (.ldc 7, 2) := by decide +kernel
theorem d3_11 : decode jdk_42_method_149_code 11 = .ok (.getfield 9, 3) := by decide +kernel
theorem d3_14 : decode jdk_42_method_149_code 14 = .ok (.putfield 9, 3) := by decide +kernel
theorem d3_17 : decode jdk_42_method_149_code 17 = .ok (.aload_n 0, 1) := by decide +kernel
theorem d3_18 : decode jdk_42_method_149_code 18 = .ok (.ldc 7, 2) := by decide +kernel
theorem d3_20 : decode jdk_42_method_149_code 20 = .ok (.getfield 15, 3) := by decide +kernel
theorem d3_23 : decode jdk_42_method_149_code 23 = .ok (.putfield 15, 3) := by decide +kernel
theorem d3_26 : decode jdk_42_method_149_code 26 = .ok (.return_, 1) := by decide +kernel
set_option maxRecDepth 65536 in
set_option maxHeartbeats 40000000 in
theorem rmI4_0 (l : Launch) (Z : State) (a0 : Array Value) (hw : ∀ d ∈ tables_1, d.before a0 Z = true) (n0 : Nat) (h : Heap) (Z0 : n0 ≤ h.size) (a1 a2 : Addr) (ga1 : n0 ≤ a1) (E_a1 : Exa Z h a1 "java/lang/String") (F_a1_value : Fld Z h a1 "java/lang/String" "value" "[B" .null) (F_a1_coder : Fld Z h a1 "java/lang/String" "coder" "B" (.int (0 : Int32))) :
    Met1W l Z n0 [] (⟨"java/lang/String", "<init>", "([CIILjava/lang/Void;)V"⟩ : MethodName) jdk_42_method_149_code 6 none ({ frames := 1, cells := 4, slots := 8, locals := 12 } : Room) #[(.ref a1), (.ref a2), (.int (0 : Int32)), (.int (0 : Int32)), .null] h (fun vm => CHv Z [("java/lang/String", 7)] vm h ∧ Safe Z [("java/lang/String", 7)] vm h a1) (fun v h' vm' => v = none ∧ Keep h h' [a1] ∧ (∃ b, Fld Z h' a1 "java/lang/String" "value" "[B" (.ref b) ∧ AF Z h' b .byte 0 (fun j => .int ((fun _ => (0 : Int32)) j))) ∧ CHv Z [("java/lang/String", 7)] vm' h') := by
  refine met_ofW (plainFor_of_name pn_3) Z0 (fun m => ef_3 m a1 a2 (0 : Int32) (0 : Int32)) ?_
  intro p e s m below meth c T hP hS X
  have hk := Nat.le_refl h.size
  have hEL := own_EW hw
  obtain ⟨H, Sf_a1⟩ := hP
  have K := Keep.refl h [a1]
  refine r_aloadN 1 X d3_0 rfl rfl ?_
  refine r_initO 4 X (hw _ (List.mem_of_getElem? (i := 15) rfl)) (hw _ (List.mem_of_getElem? (i := 16) rfl)) (hw _ (List.mem_of_getElem? (i := 17) rfl)) d3_1 rfl (by decide) 0 (Nat.le_of_eq rfl) (by decide) ?_
  intro T X
  refine r_iloadN 5 X d3_4 rfl ?_
  refine r_ifN 8 X d3_5 ((if0 _ _).trans (teq (by decide)).2) ?_
  refine r_aloadN 9 X d3_8 rfl rfl ?_
  refine r_ldcE 11 X hS hk hEL H (by decide) (hw _ (List.mem_of_getElem? (i := 18) rfl)) (own_SA hw) d3_9 (by decide) (by decide) ?_
  intro T h1 vm1 k1 la1 lb1 E1 E_la1 F_la1_coder F_la1_value A_lb1 hsf1 HC1 hS hk X
  have Sf_a1 := HC1.safe E_a1.lt Sf_a1
  have H := HC1.1
  have K := K.ext E1
  have E_a1 := E_a1.ext E1
  have F_a1_value := F_a1_value.ext E1
  have F_a1_coder := F_a1_coder.ext E1
  have ne_a1_la1 := (hsf1 a1 Sf_a1).1
  have ne_a1_lb1 := (hsf1 a1 Sf_a1).2
  refine r_getfield 14 X (host := "") (Or.inl (hw _ (List.mem_of_getElem? (i := 24) rfl))) Via.refl F_la1_value d3_11 ?_
  intro T X
  refine r_putfield 17 X (host := "") (Or.inl (hw _ (List.mem_of_getElem? (i := 24) rfl))) Via.refl F_a1_value E_a1 (Or.inr ⟨(hw _ (List.mem_of_getElem? (i := 20) rfl)), rfl, rfl⟩) (hw _ (List.mem_of_getElem? (i := 5) rfl)) (ty := (.array .byte)) (by decide) rfl rfl ga1 d3_14 ?_
  intro T h2 W2 X
  have Sfn := Safe.wr W2 Sf_a1 H Sf_a1
  have H := CHv.wr W2 Sf_a1 H
  have Sf_a1 := Sfn
  have hk := Nat.le_trans hk (Nat.le_of_eq W2.size.symm)
  have K := K.wr W2 (Or.inl (List.mem_of_getElem? (i := 0) rfl))
  have E_a1 := E_a1.wr W2
  have F_a1_value := F_a1_value.same W2
  have F_a1_coder := F_a1_coder.other W2 (Or.inr (slot_ne (Or.inr (hw _ (List.mem_of_getElem? (i := 21) rfl))) (Or.inr (hw _ (List.mem_of_getElem? (i := 20) rfl))) (by decide) (t := .byte) (t' := (.array .byte)) (by decide) (by decide)))
  have E_la1 := E_la1.wr W2
  have F_la1_coder := F_la1_coder.other W2 (Or.inl (Ne.symm ne_a1_la1))
  have F_la1_value := F_la1_value.other W2 (Or.inl (Ne.symm ne_a1_la1))
  have A_lb1 := A_lb1.other W2 (Ne.symm ne_a1_lb1)
  refine r_aloadN 18 X d3_17 rfl rfl ?_
  refine r_ldcE 20 X hS hk hEL H (by decide) (hw _ (List.mem_of_getElem? (i := 18) rfl)) (own_SA hw) d3_18 (by decide) (by decide) ?_
  intro T h3 vm3 k3 la3 lb3 E3 E_la3 F_la3_coder F_la3_value A_lb3 hsf3 HC3 hS hk X
  have Sf_a1 := HC3.safe E_a1.lt Sf_a1
  have H := HC3.1
  have K := K.ext E3
  have E_a1 := E_a1.ext E3
  have F_a1_value := F_a1_value.ext E3
  have F_a1_coder := F_a1_coder.ext E3
  have E_la1 := E_la1.ext E3
  have F_la1_coder := F_la1_coder.ext E3
  have F_la1_value := F_la1_value.ext E3
  have A_lb1 := A_lb1.ext E3
  have ne_a1_la3 := (hsf3 a1 Sf_a1).1
  have ne_a1_lb3 := (hsf3 a1 Sf_a1).2
  refine r_getfield 23 X (host := "") (Or.inl (hw _ (List.mem_of_getElem? (i := 25) rfl))) Via.refl F_la3_coder d3_20 ?_
  intro T X
  refine r_putfieldN 26 X (hw _ (List.mem_of_getElem? (i := 25) rfl)) Via.refl F_a1_coder E_a1 (Or.inr ⟨(hw _ (List.mem_of_getElem? (i := 21) rfl)), rfl, rfl⟩) (hw _ (List.mem_of_getElem? (i := 5) rfl)) (ty := .byte) (v' := (.int (0 : Int32))) (by decide) rfl rfl ga1 d3_23 ?_
  intro T h4 W4 X
  have Sfn := Safe.wr W4 Sf_a1 H Sf_a1
  have H := CHv.wr W4 Sf_a1 H
  have Sf_a1 := Sfn
  have hk := Nat.le_trans hk (Nat.le_of_eq W4.size.symm)
  have K := K.wr W4 (Or.inl (List.mem_of_getElem? (i := 0) rfl))
  have E_a1 := E_a1.wr W4
  have F_a1_value := F_a1_value.other W4 (Or.inr (slot_ne (Or.inr (hw _ (List.mem_of_getElem? (i := 20) rfl))) (Or.inr (hw _ (List.mem_of_getElem? (i := 21) rfl))) (by decide) (t := (.array .byte)) (t' := .byte) (by decide) (by decide)))
  have F_a1_coder := F_a1_coder.same W4
  have E_la1 := E_la1.wr W4
  have F_la1_coder := F_la1_coder.other W4 (Or.inl (Ne.symm ne_a1_la1))
  have F_la1_value := F_la1_value.other W4 (Or.inl (Ne.symm ne_a1_la1))
  have A_lb1 := A_lb1.other W4 (Ne.symm ne_a1_lb1)
  have E_la3 := E_la3.wr W4
  have F_la3_coder := F_la3_coder.other W4 (Or.inl (Ne.symm ne_a1_la3))
  have F_la3_value := F_la3_value.other W4 (Or.inl (Ne.symm ne_a1_la3))
  have A_lb3 := A_lb3.other W4 (Ne.symm ne_a1_lb3)
  refine r_retVW d3_26 X hS hk hEL H (by decide) (by decide) (fun vm' H' => ?_)
  exact ⟨rfl, K, ⟨lb1, F_a1_value, A_lb1⟩, H'⟩
theorem met_lift {l : Launch} {Z : State} {n0 : Nat} {ws : List Jvm.Cond} {y : MethodName} {bytes : ByteArray} {ml : Nat} {ret : Option FieldType} {rm : Room} {as : Array Value} {h0 : Heap} {Q : Option Value → Heap → Prop} {Q' : Option Value → Heap → Vm → Prop} {a0 : Array Value} {EL : List (String × Nat)} (hM : Met1 l Z n0 ws y bytes ml ret rm as h0 Q) (hQ : ∀ v h' vm', Q v h' → (Keep h0 h' [] → CHv Z EL vm' h') → Q' v h' vm') (w : EW Z a0 EL) : Met1W l Z n0 ws y bytes ml ret rm as h0 (fun vm => CHv Z EL vm h0) Q' := by
  intro p e ha hc hk s m args below hf happ hP hK
  obtain ⟨h1, h2, h3, h4⟩ := hP
  obtain ⟨n, o, a1, a2, a3, v, L, rfl, ⟨q, N, z⟩, hF⟩ := hM p e ha hc hk s m args below hf happ ⟨h1, h2, h3⟩ hK
  refine ⟨n, _, a1, a2, a3, v, L, rfl, ⟨hQ _ _ _ q fun K => ?_, N, z⟩, ReturnedEndW.of_narrow hF.1 hF.2.1 hF.2.2⟩
  have q := CHv.later (h' := h0) h2 (hW := (show (Wst Z s.vm h0).Warmed39 _ from hF.2.1.wide)) w ⟨Nat.le_refl _, fun _ _ q => q⟩ (Or.inl hF.2.1.interned_eq) h4
  exact q.1.ext (keepExt K)
theorem own_stak {Z : State} {h h' : Heap} {C n d C2 : String} {v : Value} {b : Addr} (F : Sta Z h C n d v) (K : Keep h h' [b]) (E : Exa Z h b C2) : Sta Z h' C n d v := by
  obtain ⟨cf, i, k, f, st, cell, h1, h2, h3, h4, h5, h6, h7⟩ := F
  obtain ⟨c2, k2, e1, e2, e3, e4, -⟩ := E
  refine ⟨cf, i, k, f, st, cell, h1, h2, h3, h4, K.2.1 _ _ h5 (fun q => ?_), h6, h7⟩
  cases List.mem_singleton.mp q
  rw [h5] at e1
  cases e1
  rw [h6] at e4
  cases e4
set_option maxRecDepth 65536 in
set_option maxHeartbeats 40000000 in
theorem rmI1_0 (l : Launch) (Z : State) (a0 : Array Value) (hw : ∀ d ∈ tables_1, d.before a0 Z = true) (n0 : Nat) (h : Heap) (Z0 : n0 ≤ h.size) (a1 a2 : Addr) (ga1 : n0 ≤ a1) (ne_a1_a2 : a1 ≠ a2) (E_a1 : Exa Z h a1 "java/lang/String") (F_a1_value : Fld Z h a1 "java/lang/String" "value" "[B" .null) (F_a1_coder : Fld Z h a1 "java/lang/String" "coder" "B" (.int (0 : Int32))) (A_a2 : AF Z h a2 .char 0 (fun j => .int ((fun _ => (0 : Int32)) j))) :
    Met1W l Z n0 [] (⟨"java/lang/String", "<init>", "([C)V"⟩ : MethodName) jdk_42_method_3_code 2 none ({ frames := 2, cells := 4, slots := 8, locals := 29 } : Room) #[(.ref a1), (.ref a2)] h (fun vm => CHv Z [("java/lang/String", 7)] vm h ∧ Safe Z [("java/lang/String", 7)] vm h a1) (fun v h' vm' => v = none ∧ Keep h h' [a1] ∧ (∃ b, Fld Z h' a1 "java/lang/String" "value" "[B" (.ref b) ∧ AF Z h' b .byte 0 (fun j => .int ((fun _ => (0 : Int32)) j))) ∧ CHv Z [("java/lang/String", 7)] vm' h') := by
  refine met_ofW (plainFor_of_name pn_2) Z0 (fun m => ef_2 m a1 a2) ?_
  intro p e s m below meth c T hP hS X
  have hk := Nat.le_refl h.size
  have hEL := own_EW hw
  obtain ⟨H, Sf_a1⟩ := hP
  have K := Keep.refl h [a1]
  refine r_aloadN 1 X d2_0 rfl rfl ?_
  refine r_aloadN 2 X d2_1 rfl rfl ?_
  refine r_iconst 3 X (0 : Int32) d2_2 rfl ?_
  refine r_aloadN 4 X d2_3 rfl rfl ?_
  refine r_arraylength 5 X A_a2 (0 : Int32) (by decide) d2_4 ?_
  refine r_aconst_null 6 X d2_5 ?_
  refine r_specialW 9 X (st := []) (a := a1) hS hk (rmI4_0 l Z a0 hw n0 _ X.sz a1 a2 ga1 E_a1 F_a1_value F_a1_coder) (fun vm1 hw1 => ⟨(chv_warm X.2.2.2.2.2.1 hEL H hw1).1, (chv_warm X.2.2.2.2.2.1 hEL H hw1).safe E_a1.lt Sf_a1⟩) rfl rfl (hw _ (List.mem_of_getElem? (i := 11) rfl)) (hw _ (List.mem_of_getElem? (i := 12) rfl)) (hw _ (List.mem_of_getElem? (i := 14) rfl)) (hw _ (List.mem_of_getElem? (i := 6) rfl)) (by decide) pd_3 [(.ref a2), (.int (0 : Int32)), (.int (0 : Int32)), .null] rfl rfl 0 (Nat.le_of_eq rfl) rfl (by decide) (by decide) (by decide) (by decide) d2_6 ?_
  rintro T h1 v1 vm1 k1 ⟨rfl, K1, ⟨vb, Fv, Av⟩, H⟩ hS hk X
  have K := K.trans K1 (allS (Or.inl (List.mem_of_getElem? (i := 0) rfl)) all0)
  have E_a1 := E_a1.keep K1
  have A_a2 := A_a2.keep K1 (ninS (Ne.symm ne_a1_a2) nin0)
  have F_a1_value := Fv
  have A_vb := Av
  change Run _ _ _ _ _ _ _ _ []
  refine r_retVW d2_9 X hS hk hEL H (by decide) (by decide) (fun vm' H' => ?_)
  exact ⟨rfl, K, ⟨vb, F_a1_value, A_vb⟩, H'⟩
theorem d1_28 : decode method_2_code 28 = .ok (.new 7, 3) := by decide +kernel
theorem d1_31 : decode method_2_code 31 = .ok (.dup, 1) := by decide +kernel
theorem d1_32 : decode method_2_code 32 = .ok (.iconst 0, 1) := by decide +kernel
theorem d1_33 : decode method_2_code 33 = .ok (.newarray .char, 2) := by decide +kernel
theorem d1_35 : decode method_2_code 35 = .ok (.invokespecial 9, 3) := by decide +kernel
theorem d1_38 : decode method_2_code 38 = .ok (.areturn, 1) := by decide +kernel
set_option maxRecDepth 65536 in
set_option maxHeartbeats 40000000 in
theorem rmStr0 (l : Launch) (Z : State) (a0 : Array Value) (hw : ∀ d ∈ tables_1, d.before a0 Z = true) (n0 : Nat) (h : Heap) (Z0 : n0 ≤ h.size) (x0 x1 x2 cs : Int32) (ncs : ¬ cs = (0 : Int32)) (S_COMPACT_STRINGS : Sta Z h "java/lang/String" "COMPACT_STRINGS" "Z" (.int cs)) :
    Met1W l Z n0 [] (⟨"com/example/esclusa/esclusa/provider/StreamEventCamePinLaw", "str", "(IIII)Ljava/lang/String;"⟩ : MethodName) method_2_code 7 (some (.object "java/lang/String")) ({ frames := 5, cells := 6, slots := 16, locals := 120 } : Room) #[(.int (0 : Int32)), (.int x0), (.int x1), (.int x2)] h (fun vm => CHv Z [("java/lang/String", 7)] vm h) (fun v h' vm' => ∃ (s_ a_ : Addr) (n_ : Nat) (g : Nat → Int32), v = some (.ref s_) ∧ Keep h h' [] ∧ h.size ≤ s_ ∧ Exa Z h' s_ "java/lang/String" ∧ Fld Z h' s_ "java/lang/String" "value" "[B" (.ref a_) ∧ AF Z h' a_ .byte n_ (fun j => .int (g j)) ∧ (0 : Int32).toInt = (n_ : Int) ∧ CHv Z [("java/lang/String", 7)] vm' h') := by
  refine met_ofW (plainFor_of_name pn_1) Z0 (fun m => ef_1 m (0 : Int32) x0 x1 x2) ?_
  intro p e s m below meth c T hP hS X
  have hk := Nat.le_refl h.size
  have hEL := own_EW hw
  have H : CHv Z [("java/lang/String", 7)] s.vm h := hP
  have K := Keep.refl h []
  refine r_iloadN 1 X d1_0 rfl ?_
  refine r_sipush 4 X (255 : Int32) d1_1 rfl ?_
  refine r_iand 5 X d1_4 ?_
  refine r_i2c 6 X d1_5 ?_
  obtain ⟨hc0, hC0⟩ := own_c255 x0
  generalize ((x0 &&& (255 : Int32)).toUInt32.toUInt16.toUInt32.toInt32) = ch0 at hc0 hC0 ⊢
  have hf0 := own_le255 hC0
  refine r_istore 8 X #[.val (.int (0 : Int32)), .val (.int x0), .val (.int x1), .val (.int x2), .val (.int ch0), .unset, .unset] d1_6 rfl ?_
  refine r_iloadN 9 X d1_8 rfl ?_
  refine r_sipush 12 X (255 : Int32) d1_9 rfl ?_
  refine r_iand 13 X d1_12 ?_
  refine r_i2c 14 X d1_13 ?_
  obtain ⟨hc1, hC1⟩ := own_c255 x1
  generalize ((x1 &&& (255 : Int32)).toUInt32.toUInt16.toUInt32.toInt32) = ch1 at hc1 hC1 ⊢
  have hf1 := own_le255 hC1
  refine r_istore 16 X #[.val (.int (0 : Int32)), .val (.int x0), .val (.int x1), .val (.int x2), .val (.int ch0), .val (.int ch1), .unset] d1_14 rfl ?_
  refine r_iloadN 17 X d1_16 rfl ?_
  refine r_sipush 20 X (255 : Int32) d1_17 rfl ?_
  refine r_iand 21 X d1_20 ?_
  refine r_i2c 22 X d1_21 ?_
  obtain ⟨hc2, hC2⟩ := own_c255 x2
  generalize ((x2 &&& (255 : Int32)).toUInt32.toUInt16.toUInt32.toInt32) = ch2 at hc2 hC2 ⊢
  have hf2 := own_le255 hC2
  refine r_istore 24 X #[.val (.int (0 : Int32)), .val (.int x0), .val (.int x1), .val (.int x2), .val (.int ch0), .val (.int ch1), .val (.int ch2)] d1_22 rfl ?_
  refine r_iloadN 25 X d1_24 rfl ?_
  refine r_ifN 28 X d1_25 ((if0 _ _).trans (teq (by decide)).2) ?_
  refine r_new 31 X (hw _ (List.mem_of_getElem? (i := 4) rfl)) (hw _ (List.mem_of_getElem? (i := 5) rfl)) (hw _ (List.mem_of_getElem? (i := 6) rfl)) d1_28 (by decide) (by decide) ?_
  intro T h1 b1 g1 gn_b1 E1 A1 D1 X
  have sz_b1 : h.size ≤ b1 := Nat.le_trans K.1 (Nat.le_of_eq g1.symm)
  have Sf_b1 : Safe Z [("java/lang/String", 7)] s.vm h b1 := Safe.new (Nat.le_of_eq g1.symm)
  have Sf_b1 := Safe.ext E1 H Sf_b1
  have H := CHv.ext E1 H
  have hk := Nat.le_trans hk E1.1
  have K := K.ext E1
  have S_COMPACT_STRINGS := S_COMPACT_STRINGS.ext E1
  have E_b1 := A1
  have F_b1_value : Fld Z h1 b1 "java/lang/String" "value" "[B" .null := D1 (Or.inr (hw _ (List.mem_of_getElem? (i := 20) rfl))) (ty := (.array .byte)) (by decide)
  have F_b1_coder : Fld Z h1 b1 "java/lang/String" "coder" "B" (.int (0 : Int32)) := D1 (Or.inr (hw _ (List.mem_of_getElem? (i := 21) rfl))) (ty := .byte) (by decide)
  refine r_dup 32 X d1_31 rfl ?_
  refine r_iconst 33 X (0 : Int32) d1_32 rfl ?_
  refine r_newarray 35 X 0 0 (hw _ (List.mem_of_getElem? (i := 7) rfl)) d1_33 (by decide) (by decide) (by decide) (by decide) (by decide) ?_
  intro T h2 b2 g2 gn_b2 E2 A_b2 X
  have sz_b2 : h.size ≤ b2 := Nat.le_trans K.1 (Nat.le_of_eq g2.symm)
  have ne_b1_b2 : b1 ≠ b2 := Nat.ne_of_lt (Nat.lt_of_lt_of_eq E_b1.lt g2.symm)
  have Sf_b2 : Safe Z [("java/lang/String", 7)] s.vm h1 b2 := Safe.new (Nat.le_of_eq g2.symm)
  have Sf_b1 := Safe.ext E2 H Sf_b1
  have Sf_b2 := Safe.ext E2 H Sf_b2
  have H := CHv.ext E2 H
  have hk := Nat.le_trans hk E2.1
  have K := K.ext E2
  have S_COMPACT_STRINGS := S_COMPACT_STRINGS.ext E2
  have E_b1 := E_b1.ext E2
  have F_b1_value := F_b1_value.ext E2
  have F_b1_coder := F_b1_coder.ext E2
  replace A_b2 : AF Z h2 b2 .char 0 (fun j => .int ((fun _ => (0 : Int32)) j)) := A_b2
  refine r_specialW 38 X (st := [(.ref b1)]) (a := b1) hS hk (rmI1_0 l Z a0 hw n0 _ X.sz b1 b2 gn_b1 ne_b1_b2 E_b1 F_b1_value F_b1_coder A_b2) (fun vm1 hw1 => ⟨(chv_warm X.2.2.2.2.2.1 hEL H hw1).1, (chv_warm X.2.2.2.2.2.1 hEL H hw1).safe E_b1.lt Sf_b1⟩) rfl rfl (hw _ (List.mem_of_getElem? (i := 8) rfl)) (hw _ (List.mem_of_getElem? (i := 9) rfl)) (hw _ (List.mem_of_getElem? (i := 10) rfl)) (hw _ (List.mem_of_getElem? (i := 6) rfl)) (by decide) pd_4 [(.ref b2)] rfl rfl 1 (Nat.le_of_eq rfl) rfl (by decide) (by decide) (by decide) (by decide) d1_35 ?_
  rintro T h3 v3 vm3 k3 ⟨rfl, K3, ⟨vb, Fv, Av⟩, H⟩ hS hk X
  have K := K.trans K3 (allS (Or.inr sz_b1) all0)
  have E_b1 := E_b1.keep K3
  have A_b2 := A_b2.keep K3 (ninS (Ne.symm ne_b1_b2) nin0)
  have F_b1_value := Fv
  have A_vb := Av
  change Run _ _ _ _ _ _ _ _ [(.ref b1)]
  refine r_retAW d1_38 rfl rfl rfl X hS hk hEL H (by decide) (by decide) (fun vm' H' => ?_)
  exact ⟨b1, vb, 0, _, rfl, K, sz_b1, E_b1, F_b1_value, A_vb, rfl, H'⟩
theorem rmStr (l : Launch) (Z : State) (a0 : Array Value) (hw : ∀ d ∈ tables_1, d.before a0 Z = true) (n0 : Nat) (h : Heap) (Z0 : n0 ≤ h.size) (len x0 x1 x2 cs : Int32) (hlen : len = 0 ∨ len = 1 ∨ len = 2 ∨ len = 3) (ncs : ¬ cs = (0 : Int32)) (S_COMPACT_STRINGS : Sta Z h "java/lang/String" "COMPACT_STRINGS" "Z" (.int cs)) :
    Met1W l Z n0 [] (⟨"com/example/esclusa/esclusa/provider/StreamEventCamePinLaw", "str", "(IIII)Ljava/lang/String;"⟩ : MethodName) method_2_code 7 (some (.object "java/lang/String")) ({ frames := 5, cells := 6, slots := 16, locals := 120 } : Room) #[(.int len), (.int x0), (.int x1), (.int x2)] h (fun vm => CHv Z [("java/lang/String", 7)] vm h) (fun v h' vm' => ∃ (s_ a_ : Addr) (n_ : Nat) (g : Nat → Int32), v = some (.ref s_) ∧ Keep h h' [] ∧ h.size ≤ s_ ∧ Exa Z h' s_ "java/lang/String" ∧ Fld Z h' s_ "java/lang/String" "value" "[B" (.ref a_) ∧ AF Z h' a_ .byte n_ (fun j => .int (g j)) ∧ len.toInt = (n_ : Int) ∧ CHv Z [("java/lang/String", 7)] vm' h') := by
  rcases hlen with rfl | rfl | rfl | rfl
  · exact rmStr0 l Z a0 hw n0 h Z0 x0 x1 x2 cs ncs S_COMPACT_STRINGS
  · refine met_lift (rmStr1 l Z a0 hw n0 h Z0 x0 x1 x2 cs ncs S_COMPACT_STRINGS) (fun v h' vm' q H => ?_) (own_EW hw)
    obtain ⟨s_, a_, g, q1, q2, q3, q4, q5, q6⟩ := q
    exact ⟨s_, a_, 1, g, q1, q2, q3, q4, q5, q6, rfl, H q2⟩
  · refine met_lift (rmStr2 l Z a0 hw n0 h Z0 x0 x1 x2 cs ncs S_COMPACT_STRINGS) (fun v h' vm' q H => ?_) (own_EW hw)
    obtain ⟨s_, a_, g, q1, q2, q3, q4, q5, q6⟩ := q
    exact ⟨s_, a_, 2, g, q1, q2, q3, q4, q5, q6, rfl, H q2⟩
  · refine met_lift (rmStr3 l Z a0 hw n0 h Z0 x0 x1 x2 cs ncs S_COMPACT_STRINGS) (fun v h' vm' q H => ?_) (own_EW hw)
    obtain ⟨s_, a_, g, q1, q2, q3, q4, q5, q6⟩ := q
    exact ⟨s_, a_, 3, g, q1, q2, q3, q4, q5, q6, rfl, H q2⟩
theorem d6_0 : decode jdk_30_method_1_code 0 = .ok (.aload_n 0, 1) := by decide +kernel
theorem d6_1 : decode jdk_30_method_1_code 1 = .ok (.invokespecial 1, 3) := by decide +kernel
theorem d6_4 : decode jdk_30_method_1_code 4 = .ok (.return_, 1) := by decide +kernel
theorem pn_6 : plainName "java/lang/Record" = true := by first | (simp [plainName, overriddenIn]; done) | decide +kernel
theorem ef_6 (m : MethodId) (x0 : Addr) : entryFrame m #[(.ref x0)] 1 = mkF m 0 #[.val (.ref x0)] [] := by first | (simp [entryFrame, mkF, argsToLocals, Value.category]; done) | rfl
set_option maxRecDepth 65536 in
set_option maxHeartbeats 40000000 in
theorem rmRec (l : Launch) (Z : State) (a0 : Array Value) (hw : ∀ d ∈ tables_1, d.before a0 Z = true) (n0 : Nat) (h : Heap) (Z0 : n0 ≤ h.size) (a1 : Addr)  :
    Met1 l Z n0 [] (⟨"java/lang/Record", "<init>", "()V"⟩ : MethodName) jdk_30_method_1_code 1 none ({ frames := 1, cells := 0, slots := 0, locals := 12 } : Room) #[(.ref a1)] h (fun v h' => v = none ∧ h = h') := by
  refine met_of (plainFor_of_name pn_6) Z0 (fun m => ef_6 m a1) ?_
  intro p e s m below meth c T hs0 X
  refine r_aloadN 1 X d6_0 rfl rfl ?_
  refine r_initO 4 X (hw _ (List.mem_of_getElem? (i := 37) rfl)) (hw _ (List.mem_of_getElem? (i := 16) rfl)) (hw _ (List.mem_of_getElem? (i := 17) rfl)) d6_1 rfl (by decide) 0 (Nat.le_of_eq rfl) (by decide) ?_
  intro T X
  refine r_retV X d6_4 (by decide) (by decide) ?_
  exact ⟨rfl, rfl⟩
theorem d5_0 : decode prog_25_method_1_code 0 = .ok (.aload_n 0, 1) := by decide +kernel
theorem d5_1 : decode prog_25_method_1_code 1 = .ok (.invokespecial 1, 3) := by decide +kernel
theorem d5_4 : decode prog_25_method_1_code 4 = .ok (.aload_n 0, 1) := by decide +kernel
theorem d5_5 : decode prog_25_method_1_code 5 = .ok (.aload_n 1, 1) := by decide +kernel
theorem d5_6 : decode prog_25_method_1_code 6 = .ok (.putfield 7, 3) := by decide +kernel
theorem d5_9 : decode prog_25_method_1_code 9 = .ok (.aload_n 0, 1) := by decide +kernel
theorem d5_10 : decode prog_25_method_1_code 10 = .ok (.aload_n 2, 1) := by decide +kernel
theorem d5_11 : decode prog_25_method_1_code 11 = .ok (.putfield 13, 3) := by decide +kernel
theorem d5_14 : decode prog_25_method_1_code 14 = .ok (.return_, 1) := by decide +kernel
theorem pn_5 : plainName "com/example/esclusa/esclusa/provider/StreamEvent" = true := by first | (simp [plainName, overriddenIn]; done) | decide +kernel
theorem ef_5 (m : MethodId) (x0 : Addr) (x1 : Addr) (x2 : Addr) : entryFrame m #[(.ref x0), (.ref x1), (.ref x2)] 3 = mkF m 0 #[.val (.ref x0), .val (.ref x1), .val (.ref x2)] [] := by first | (simp [entryFrame, mkF, argsToLocals, Value.category]; done) | rfl
set_option maxRecDepth 65536 in
set_option maxHeartbeats 40000000 in
theorem rmSE (l : Launch) (Z : State) (a0 : Array Value) (hw : ∀ d ∈ tables_1, d.before a0 Z = true) (n0 : Nat) (h : Heap) (Z0 : n0 ≤ h.size) (a1 a2 a3 : Addr) (ga1 : n0 ≤ a1) (E_a1 : Exa Z h a1 "com/example/esclusa/esclusa/provider/StreamEvent") (F_a1_data : Fld Z h a1 "com/example/esclusa/esclusa/provider/StreamEvent" "data" "Ljava/lang/String;" .null) (F_a1_text : Fld Z h a1 "com/example/esclusa/esclusa/provider/StreamEvent" "text" "Ljava/lang/String;" .null) :
    Met1 l Z n0 [] (⟨"com/example/esclusa/esclusa/provider/StreamEvent", "<init>", "(Ljava/lang/String;Ljava/lang/String;)V"⟩ : MethodName) prog_25_method_1_code 3 none ({ frames := 2, cells := 0, slots := 0, locals := 24 } : Room) #[(.ref a1), (.ref a2), (.ref a3)] h (fun v h' => v = none ∧ Keep h h' [a1] ∧ Fld Z h' a1 "com/example/esclusa/esclusa/provider/StreamEvent" "text" "Ljava/lang/String;" (.ref a3)) := by
  refine met_of (plainFor_of_name pn_5) Z0 (fun m => ef_5 m a1 a2 a3) ?_
  intro p e s m below meth c T hs0 X
  have K := Keep.refl h [a1]
  refine r_aloadN 1 X d5_0 rfl rfl ?_
  refine r_special 4 X (st := []) (a := a1) (rmRec l Z a0 hw n0 _ X.sz a1) rfl rfl (hw _ (List.mem_of_getElem? (i := 32) rfl)) (hw _ (List.mem_of_getElem? (i := 33) rfl)) (hw _ (List.mem_of_getElem? (i := 36) rfl)) (hw _ (List.mem_of_getElem? (i := 35) rfl)) (by decide) pd_5 [] rfl rfl 0 (Nat.le_of_eq rfl) rfl (by decide) (by decide) (by decide) (by decide) d5_1 ?_
  rintro T h1 v1 ⟨rfl, rfl⟩ X
  change Run _ _ _ _ _ _ _ _ []
  refine r_aloadN 5 X d5_4 rfl rfl ?_
  refine r_aloadN 6 X d5_5 rfl rfl ?_
  refine r_putfield 9 X (host := "") (Or.inl (hw _ (List.mem_of_getElem? (i := 38) rfl))) Via.refl F_a1_data E_a1 (Or.inr ⟨(hw _ (List.mem_of_getElem? (i := 39) rfl)), rfl, rfl⟩) (hw _ (List.mem_of_getElem? (i := 27) rfl)) (ty := (.object "java/lang/String")) (by decide) rfl rfl ga1 d5_6 ?_
  intro T h2 W2 X
  have K := K.wr W2 (Or.inl (List.mem_of_getElem? (i := 0) rfl))
  have E_a1 := E_a1.wr W2
  have F_a1_data := F_a1_data.same W2
  have F_a1_text := F_a1_text.other W2 (Or.inr (slot_ne (Or.inr (hw _ (List.mem_of_getElem? (i := 41) rfl))) (Or.inr (hw _ (List.mem_of_getElem? (i := 39) rfl))) (by decide) (t := (.object "java/lang/String")) (t' := (.object "java/lang/String")) (by decide) (by decide)))
  refine r_aloadN 10 X d5_9 rfl rfl ?_
  refine r_aloadN 11 X d5_10 rfl rfl ?_
  refine r_putfield 14 X (host := "") (Or.inl (hw _ (List.mem_of_getElem? (i := 40) rfl))) Via.refl F_a1_text E_a1 (Or.inr ⟨(hw _ (List.mem_of_getElem? (i := 41) rfl)), rfl, rfl⟩) (hw _ (List.mem_of_getElem? (i := 27) rfl)) (ty := (.object "java/lang/String")) (by decide) rfl rfl ga1 d5_11 ?_
  intro T h3 W3 X
  have K := K.wr W3 (Or.inl (List.mem_of_getElem? (i := 0) rfl))
  have E_a1 := E_a1.wr W3
  have F_a1_data := F_a1_data.other W3 (Or.inr (slot_ne (Or.inr (hw _ (List.mem_of_getElem? (i := 39) rfl))) (Or.inr (hw _ (List.mem_of_getElem? (i := 41) rfl))) (by decide) (t := (.object "java/lang/String")) (t' := (.object "java/lang/String")) (by decide) (by decide)))
  have F_a1_text := F_a1_text.same W3
  refine r_retV X d5_14 (by decide) (by decide) ?_
  exact ⟨rfl, K, F_a1_text⟩
theorem d8_0 : decode jdk_42_method_55_code 0 = .ok (.aload_n 0, 1) := by decide +kernel
theorem d8_1 : decode jdk_42_method_55_code 1 = .ok (.getfield 9, 3) := by decide +kernel
theorem d8_4 : decode jdk_42_method_55_code 4 = .ok (.arraylength, 1) := by decide +kernel
theorem d8_5 : decode jdk_42_method_55_code 5 = .ok (.ifCond .ne 7, 3) := by decide +kernel
theorem d8_8 : decode jdk_42_method_55_code 8 = .ok (.iconst 1, 1) := by decide +kernel
theorem d8_9 : decode jdk_42_method_55_code 9 = .ok (.goto 4, 3) := by decide +kernel
theorem d8_12 : decode jdk_42_method_55_code 12 = .ok (.iconst 0, 1) := by decide +kernel
theorem d8_13 : decode jdk_42_method_55_code 13 = .ok (.ireturn, 1) := by decide +kernel
theorem pn_8 : plainName "java/lang/String" = true := by first | (simp [plainName, overriddenIn]; done) | decide +kernel
theorem ef_8 (m : MethodId) (x0 : Addr) : entryFrame m #[(.ref x0)] 1 = mkF m 0 #[.val (.ref x0)] [] := by first | (simp [entryFrame, mkF, argsToLocals, Value.category]; done) | rfl
set_option maxRecDepth 65536 in
set_option maxHeartbeats 40000000 in
theorem rmEmp (l : Launch) (Z : State) (a0 : Array Value) (hw : ∀ d ∈ tables_1, d.before a0 Z = true) (n0 : Nat) (h : Heap) (Z0 : n0 ≤ h.size) (a1 a2 : Addr) (n : Nat) (zn : Int32) (g : Nat → Value) (hzn : zn.toInt = (n : Int)) (F_a1_value : Fld Z h a1 "java/lang/String" "value" "[B" (.ref a2)) (A_a2 : AF Z h a2 .byte n g) :
    Met1 l Z n0 [] (⟨"java/lang/String", "isEmpty", "()Z"⟩ : MethodName) jdk_42_method_55_code 1 (some .boolean) ({ frames := 0, cells := 0, slots := 0, locals := 0 } : Room) #[(.ref a1)] h (fun v h' => v = some (.int (b2i (zn = (0 : Int32)))) ∧ h = h') := by
  refine met_of (plainFor_of_name pn_8) Z0 (fun m => ef_8 m a1) ?_
  intro p e s m below meth c T hs0 X
  refine r_aloadN 1 X d8_0 rfl rfl ?_
  refine r_getfield 4 X (host := "") (Or.inl (hw _ (List.mem_of_getElem? (i := 24) rfl))) Via.refl F_a1_value d8_1 ?_
  intro T X
  refine r_arraylength 5 X A_a2 zn hzn d8_4 ?_
  have J13_1 : ∀ (T : State), Cx p l e ({ frames := 0, cells := 0, slots := 0, locals := 0 } : Room) s m #[(.ref a1)] below meth c Z jdk_42_method_55_code 1 "java/lang/String" (some .boolean) "isEmpty" n0 T h 0 0 → Run p e below m (Fin1 below s n0 (fun v h' => v = some (.int (b2i (zn = (0 : Int32)))) ∧ h = h') ({ frames := 0, cells := 0, slots := 0, locals := 0 } : Room).cells ({ frames := 0, cells := 0, slots := 0, locals := 0 } : Room).slots) T 13 #[.val (.ref a1)] [(.int (b2i (zn = (0 : Int32))))] := by
    intro T X
    refine r_retZ X d8_13 b2i_nar (by decide) (by decide) ?_
    exact ⟨rfl, rfl⟩
  by_cases h5_2 : zn = (0 : Int32)
  · refine r_ifN 8 X d8_5 ((if0 _ _).trans (teq h5_2).2) ?_
    refine r_iconst 9 X (1 : Int32) d8_8 rfl ?_
    refine r_goto 13 X d8_9 ?_
    refine r_topI (x' := (b2i (zn = (0 : Int32)))) (by simp [b2i, h5_2]) ?_
    exact J13_1 _ X
  · refine r_ifY 12 X d8_5 ((if0 _ _).trans (feq h5_2).2) ?_
    refine r_iconst 13 X (0 : Int32) d8_12 rfl ?_
    refine r_topI (x' := (b2i (zn = (0 : Int32)))) (by simp [b2i, h5_2]) ?_
    exact J13_1 _ X
theorem d7_0 : decode prog_25_method_2_code 0 = .ok (.aload_n 0, 1) := by decide +kernel
theorem d7_1 : decode prog_25_method_2_code 1 = .ok (.getfield 13, 3) := by decide +kernel
theorem d7_4 : decode prog_25_method_2_code 4 = .ok (.invokevirtual 16, 3) := by decide +kernel
theorem d7_7 : decode prog_25_method_2_code 7 = .ok (.ifCond .ne 7, 3) := by decide +kernel
theorem d7_10 : decode prog_25_method_2_code 10 = .ok (.iconst 1, 1) := by decide +kernel
theorem d7_11 : decode prog_25_method_2_code 11 = .ok (.goto 4, 3) := by decide +kernel
theorem d7_14 : decode prog_25_method_2_code 14 = .ok (.iconst 0, 1) := by decide +kernel
theorem d7_15 : decode prog_25_method_2_code 15 = .ok (.ireturn, 1) := by decide +kernel
theorem pn_7 : plainName "com/example/esclusa/esclusa/provider/StreamEvent" = true := by first | (simp [plainName, overriddenIn]; done) | decide +kernel
theorem ef_7 (m : MethodId) (x0 : Addr) : entryFrame m #[(.ref x0)] 1 = mkF m 0 #[.val (.ref x0)] [] := by first | (simp [entryFrame, mkF, argsToLocals, Value.category]; done) | rfl
set_option maxRecDepth 65536 in
set_option maxHeartbeats 40000000 in
theorem rmCa (l : Launch) (Z : State) (a0 : Array Value) (hw : ∀ d ∈ tables_1, d.before a0 Z = true) (n0 : Nat) (h : Heap) (Z0 : n0 ≤ h.size) (a1 a2 a3 : Addr) (n : Nat) (zn : Int32) (g : Nat → Value) (hzn : zn.toInt = (n : Int)) (F_a1_text : Fld Z h a1 "com/example/esclusa/esclusa/provider/StreamEvent" "text" "Ljava/lang/String;" (.ref a2)) (E_a2 : Exa Z h a2 "java/lang/String") (F_a2_value : Fld Z h a2 "java/lang/String" "value" "[B" (.ref a3)) (A_a3 : AF Z h a3 .byte n g) :
    Met1 l Z n0 [] (⟨"com/example/esclusa/esclusa/provider/StreamEvent", "came", "()Z"⟩ : MethodName) prog_25_method_2_code 1 (some .boolean) ({ frames := 1, cells := 0, slots := 0, locals := 12 } : Room) #[(.ref a1)] h (fun v h' => v = some (.int (b2i (¬ (zn = (0 : Int32))))) ∧ h = h') := by
  refine met_of (plainFor_of_name pn_7) Z0 (fun m => ef_7 m a1) ?_
  intro p e s m below meth c T hs0 X
  refine r_aloadN 1 X d7_0 rfl rfl ?_
  refine r_getfield 4 X (host := "") (Or.inl (hw _ (List.mem_of_getElem? (i := 40) rfl))) Via.refl F_a1_text d7_1 ?_
  intro T X
  refine r_virtual 7 X (st := []) (a := a2) (rmEmp l Z a0 hw n0 _ X.sz a2 a3 n zn _ hzn F_a2_value A_a3) E_a2 (hw _ (List.mem_of_getElem? (i := 47) rfl)) (hw _ (List.mem_of_getElem? (i := 48) rfl)) (hw _ (List.mem_of_getElem? (i := 50) rfl)) (hw _ (List.mem_of_getElem? (i := 50) rfl)) (hw _ (List.mem_of_getElem? (i := 49) rfl)) (hw _ (List.mem_of_getElem? (i := 51) rfl)) (hw _ (List.mem_of_getElem? (i := 6) rfl)) (by decide) pd_6 [] rfl rfl 0 (Nat.le_of_eq rfl) rfl (by decide) (by decide) (by decide) (by decide) d7_4 ?_
  rintro T h1 v1 ⟨rfl, rfl⟩ X
  change Run _ _ _ _ _ _ _ _ [(.int (b2i (zn = (0 : Int32))))]
  have J15_2 : ∀ (T : State), Cx p l e ({ frames := 1, cells := 0, slots := 0, locals := 12 } : Room) s m #[(.ref a1)] below meth c Z prog_25_method_2_code 1 "com/example/esclusa/esclusa/provider/StreamEvent" (some .boolean) "came" n0 T h 0 0 → Run p e below m (Fin1 below s n0 (fun v h' => v = some (.int (b2i (¬ (zn = (0 : Int32))))) ∧ h = h') ({ frames := 1, cells := 0, slots := 0, locals := 12 } : Room).cells ({ frames := 1, cells := 0, slots := 0, locals := 12 } : Room).slots) T 15 #[.val (.ref a1)] [(.int (b2i (¬ (zn = (0 : Int32)))))] := by
    intro T X
    refine r_retZ X d7_15 b2i_nar (by decide) (by decide) ?_
    exact ⟨rfl, rfl⟩
  by_cases h7_3 : zn = (0 : Int32)
  · refine r_ifY 14 X d7_7 ((if0 _ _).trans (feq (b2i_ne0 h7_3)).2) ?_
    refine r_iconst 15 X (0 : Int32) d7_14 rfl ?_
    refine r_topI (x' := (b2i (¬ (zn = (0 : Int32))))) (by simp [b2i, h7_3]) ?_
    exact J15_2 _ X
  · refine r_ifN 10 X d7_7 ((if0 _ _).trans (teq (b2i_eq0 h7_3)).2) ?_
    refine r_iconst 11 X (1 : Int32) d7_10 rfl ?_
    refine r_goto 15 X d7_11 ?_
    refine r_topI (x' := (b2i (¬ (zn = (0 : Int32))))) (by simp [b2i, h7_3]) ?_
    exact J15_2 _ X
theorem own_l3 (x : Int32) : (x &&& (3 : Int32)) = 0 ∨ (x &&& (3 : Int32)) = 1 ∨ (x &&& (3 : Int32)) = 2 ∨ (x &&& (3 : Int32)) = 3 := by
  have h := c_mask x 3 2 (by decide) (by decide)
  have z0 : (0 : Int32).toInt = 0 := rfl
  have z1 : (1 : Int32).toInt = 1 := rfl
  have z2 : (2 : Int32).toInt = 2 := rfl
  have z3 : (3 : Int32).toInt = 3 := rfl
  simp only [← Int32.toInt_inj]
  omega
theorem pn_0 : plainName "com/example/esclusa/esclusa/provider/StreamEventCamePinLaw" = true := by first | (simp [plainName, overriddenIn]; done) | decide +kernel
theorem ef_0 (m : MethodId) (x0 : Int32) (x1 : Int32) (x2 : Int32) (x3 : Int32) (x4 : Int32) (x5 : Int32) : entryFrame m #[(.int x0), (.int x1), (.int x2), (.int x3), (.int x4), (.int x5)] maxLocals = mkF m 0 #[.val (.int x0), .val (.int x1), .val (.int x2), .val (.int x3), .val (.int x4), .val (.int x5), .unset, .unset, .unset, .unset, .unset, .unset] [] := by first | (simp [entryFrame, mkF, argsToLocals, Value.category, maxLocals]; done) | rfl
set_option maxRecDepth 65536 in
set_option maxHeartbeats 40000000 in
theorem rm0 (l : Launch) (Z : State) (a0 : Array Value) (hw : ∀ d ∈ tables_1, d.before a0 Z = true) (n0 : Nat) (h : Heap) (Z0 : n0 ≤ h.size) (p0 p1 p2 p3 p4 p5 cs : Int32) (no ts ta : Addr) (gt : Nat → Value) (ncs : ¬ cs = (0 : Int32)) (S_COMPACT_STRINGS : Sta Z h "java/lang/String" "COMPACT_STRINGS" "Z" (.int cs)) (S_NONE : Sta Z h "com/example/esclusa/esclusa/provider/StreamEvent" "NONE" "Lcom/example/esclusa/esclusa/provider/StreamEvent;" (.ref no)) (E_no : Exa Z h no "com/example/esclusa/esclusa/provider/StreamEvent") (F_no_text : Fld Z h no "com/example/esclusa/esclusa/provider/StreamEvent" "text" "Ljava/lang/String;" (.ref ts)) (E_ts : Exa Z h ts "java/lang/String") (F_ts_value : Fld Z h ts "java/lang/String" "value" "[B" (.ref ta)) (A_ta : AF Z h ta .byte 0 gt) :
    Met1W l Z n0 tables_1 x code maxLocals ret room_1 #[(.int p0), (.int p1), (.int p2), (.int p3), (.int p4), (.int p5)] h (fun vm => CHv Z [("java/lang/String", 7)] vm h) (fun v h' vm' => v = some (.int 1)) := by
  refine met_ofW (plainFor_of_name pn_0) Z0 (fun m => ef_0 m p0 p1 p2 p3 p4 p5) ?_
  intro p e s m below meth c T hP hS X
  have hk := Nat.le_refl h.size
  have hEL := own_EW hw
  have H : CHv Z [("java/lang/String", 7)] s.vm h := hP
  refine r_iloadN 1 X at_0 rfl ?_
  refine r_iconst 2 X (3 : Int32) at_1 rfl ?_
  refine r_iand 3 X at_2 ?_
  have hl0 := own_l3 p0
  generalize (p0 &&& (3 : Int32)) = len0 at hl0 ⊢
  refine r_istore 5 X #[.val (.int p0), .val (.int p1), .val (.int p2), .val (.int p3), .val (.int p4), .val (.int p5), .val (.int len0), .unset, .unset, .unset, .unset, .unset] at_3 rfl ?_
  refine r_iloadN 6 X at_5 rfl ?_
  refine r_iconst 7 X (2 : Int32) at_6 rfl ?_
  refine r_iushr 8 X at_7 ?_
  refine r_iconst 9 X (3 : Int32) at_8 rfl ?_
  refine r_iand 10 X at_9 ?_
  have hl1 := own_l3 ((p0.toUInt32 >>> ((2 : Int32) &&& 31).toUInt32).toInt32)
  generalize (((p0.toUInt32 >>> ((2 : Int32) &&& 31).toUInt32).toInt32) &&& (3 : Int32)) = len1 at hl1 ⊢
  refine r_istore 12 X #[.val (.int p0), .val (.int p1), .val (.int p2), .val (.int p3), .val (.int p4), .val (.int p5), .val (.int len0), .val (.int len1), .unset, .unset, .unset, .unset] at_10 rfl ?_
  refine r_iload 14 X at_12 rfl ?_
  refine r_iloadN 15 X at_14 rfl ?_
  refine r_iloadN 16 X at_15 rfl ?_
  refine r_iloadN 17 X at_16 rfl ?_
  refine r_callSW 20 X (st := []) hS hk (rmStr l Z a0 hw n0 _ X.sz len0 p1 p2 p3 cs hl0 ncs S_COMPACT_STRINGS) (fun vm1 hw1 => (chv_warm X.2.2.2.2.2.1 hEL H hw1).1) (hw _ (List.mem_of_getElem? (i := 0) rfl)) (hw _ (List.mem_of_getElem? (i := 1) rfl)) (hw _ (List.mem_of_getElem? (i := 3) rfl)) (hw _ (List.mem_of_getElem? (i := 2) rfl)) (by decide) pd_7 [(.int len0), (.int p1), (.int p2), (.int p3)] rfl rfl 0 (Nat.le_of_eq rfl) rfl (by decide) (by decide) (by decide) (by decide) at_17 ?_
  rintro T h1 v1 vm1 k1 ⟨sb0, ab0, nt0, gs0, rfl, K1, zs0, Es0, Fs0, As0, hn0_, H⟩ hS hk X
  have ne_no_sb0 : no ≠ sb0 := Nat.ne_of_lt (Nat.lt_of_lt_of_le E_no.lt zs0)
  have ne_ta_sb0 : ta ≠ sb0 := Nat.ne_of_lt (Nat.lt_of_lt_of_le A_ta.lt zs0)
  have ne_ts_sb0 : ts ≠ sb0 := Nat.ne_of_lt (Nat.lt_of_lt_of_le E_ts.lt zs0)
  have S_COMPACT_STRINGS := S_COMPACT_STRINGS.ext (keepExt K1)
  have S_NONE := S_NONE.ext (keepExt K1)
  have E_no := E_no.keep K1
  have F_no_text := F_no_text.keep K1 nin0
  have E_ts := E_ts.keep K1
  have F_ts_value := F_ts_value.keep K1 nin0
  have A_ta := A_ta.keep K1 nin0
  have E_sb0 := Es0
  have F_sb0_value := Fs0
  have A_ab0 := As0
  change Run _ _ _ _ _ _ _ _ [(.ref sb0)]
  refine r_astore 22 X #[.val (.int p0), .val (.int p1), .val (.int p2), .val (.int p3), .val (.int p4), .val (.int p5), .val (.int len0), .val (.int len1), .val (.ref sb0), .unset, .unset, .unset] at_20 rfl rfl ?_
  refine r_iload 24 X at_22 rfl ?_
  refine r_iload 26 X at_24 rfl ?_
  refine r_iload 28 X at_26 rfl ?_
  refine r_iloadN 29 X at_28 rfl ?_
  refine r_iload 31 X at_29 rfl ?_
  refine r_ixor 32 X at_31 ?_
  refine r_callSW 35 X (st := []) hS hk (rmStr l Z a0 hw n0 _ X.sz len1 p4 p5 (p1 ^^^ p4) cs hl1 ncs S_COMPACT_STRINGS) (fun vm1 hw1 => (chv_warm X.2.2.2.2.2.1 hEL H hw1).1) (hw _ (List.mem_of_getElem? (i := 0) rfl)) (hw _ (List.mem_of_getElem? (i := 1) rfl)) (hw _ (List.mem_of_getElem? (i := 3) rfl)) (hw _ (List.mem_of_getElem? (i := 2) rfl)) (by decide) pd_7 [(.int len1), (.int p4), (.int p5), (.int (p1 ^^^ p4))] rfl rfl 0 (Nat.le_of_eq rfl) rfl (by decide) (by decide) (by decide) (by decide) at_32 ?_
  rintro T h2 v2 vm2 k2 ⟨sb1, ab1, nt1, gs1, rfl, K2, zs1, Es1, Fs1, As1, hn1_, H⟩ hS hk X
  have ne_ab0_sb1 : ab0 ≠ sb1 := Nat.ne_of_lt (Nat.lt_of_lt_of_le A_ab0.lt zs1)
  have ne_no_sb1 : no ≠ sb1 := Nat.ne_of_lt (Nat.lt_of_lt_of_le E_no.lt zs1)
  have ne_sb0_sb1 : sb0 ≠ sb1 := Nat.ne_of_lt (Nat.lt_of_lt_of_le E_sb0.lt zs1)
  have ne_ta_sb1 : ta ≠ sb1 := Nat.ne_of_lt (Nat.lt_of_lt_of_le A_ta.lt zs1)
  have ne_ts_sb1 : ts ≠ sb1 := Nat.ne_of_lt (Nat.lt_of_lt_of_le E_ts.lt zs1)
  have S_COMPACT_STRINGS := S_COMPACT_STRINGS.ext (keepExt K2)
  have S_NONE := S_NONE.ext (keepExt K2)
  have E_no := E_no.keep K2
  have F_no_text := F_no_text.keep K2 nin0
  have E_ts := E_ts.keep K2
  have F_ts_value := F_ts_value.keep K2 nin0
  have A_ta := A_ta.keep K2 nin0
  have E_sb0 := E_sb0.keep K2
  have F_sb0_value := F_sb0_value.keep K2 nin0
  have A_ab0 := A_ab0.keep K2 nin0
  have E_sb1 := Es1
  have F_sb1_value := Fs1
  have A_ab1 := As1
  change Run _ _ _ _ _ _ _ _ [(.ref sb1)]
  refine r_astore 37 X #[.val (.int p0), .val (.int p1), .val (.int p2), .val (.int p3), .val (.int p4), .val (.int p5), .val (.int len0), .val (.int len1), .val (.ref sb0), .val (.ref sb1), .unset, .unset] at_35 rfl rfl ?_
  refine r_new 40 X (hw _ (List.mem_of_getElem? (i := 26) rfl)) (hw _ (List.mem_of_getElem? (i := 27) rfl)) (hw _ (List.mem_of_getElem? (i := 28) rfl)) at_37 (by decide) (by decide) ?_
  intro T h3 b3 g3 gn_b3 E3 A3 D3 X
  have ne_ab1_b3 : ab1 ≠ b3 := Nat.ne_of_lt (Nat.lt_of_lt_of_eq A_ab1.lt g3.symm)
  have ne_sb0_b3 : sb0 ≠ b3 := Nat.ne_of_lt (Nat.lt_of_lt_of_eq E_sb0.lt g3.symm)
  have ne_ts_b3 : ts ≠ b3 := Nat.ne_of_lt (Nat.lt_of_lt_of_eq E_ts.lt g3.symm)
  have ne_no_b3 : no ≠ b3 := Nat.ne_of_lt (Nat.lt_of_lt_of_eq E_no.lt g3.symm)
  have ne_ab0_b3 : ab0 ≠ b3 := Nat.ne_of_lt (Nat.lt_of_lt_of_eq A_ab0.lt g3.symm)
  have ne_ta_b3 : ta ≠ b3 := Nat.ne_of_lt (Nat.lt_of_lt_of_eq A_ta.lt g3.symm)
  have ne_sb1_b3 : sb1 ≠ b3 := Nat.ne_of_lt (Nat.lt_of_lt_of_eq E_sb1.lt g3.symm)
  have Sf_b3 : Safe Z [("java/lang/String", 7)] vm2 h2 b3 := Safe.new (Nat.le_of_eq g3.symm)
  have Sf_b3 := Safe.ext E3 H Sf_b3
  have H := CHv.ext E3 H
  have hk := Nat.le_trans hk E3.1
  have S_COMPACT_STRINGS := S_COMPACT_STRINGS.ext E3
  have S_NONE := S_NONE.ext E3
  have E_no := E_no.ext E3
  have F_no_text := F_no_text.ext E3
  have E_ts := E_ts.ext E3
  have F_ts_value := F_ts_value.ext E3
  have A_ta := A_ta.ext E3
  have E_sb0 := E_sb0.ext E3
  have F_sb0_value := F_sb0_value.ext E3
  have A_ab0 := A_ab0.ext E3
  have E_sb1 := E_sb1.ext E3
  have F_sb1_value := F_sb1_value.ext E3
  have A_ab1 := A_ab1.ext E3
  have E_b3 := A3
  have F_b3_data : Fld Z h3 b3 "com/example/esclusa/esclusa/provider/StreamEvent" "data" "Ljava/lang/String;" .null := D3 (Or.inr (hw _ (List.mem_of_getElem? (i := 39) rfl))) (ty := (.object "java/lang/String")) (by decide)
  have F_b3_text : Fld Z h3 b3 "com/example/esclusa/esclusa/provider/StreamEvent" "text" "Ljava/lang/String;" .null := D3 (Or.inr (hw _ (List.mem_of_getElem? (i := 41) rfl))) (ty := (.object "java/lang/String")) (by decide)
  refine r_dup 41 X at_40 rfl ?_
  refine r_aload 43 X at_41 rfl rfl ?_
  refine r_aload 45 X at_43 rfl rfl ?_
  refine r_special 48 X (st := [(.ref b3)]) (a := b3) (rmSE l Z a0 hw n0 _ X.sz b3 sb1 sb0 gn_b3 E_b3 F_b3_data F_b3_text) rfl rfl (hw _ (List.mem_of_getElem? (i := 29) rfl)) (hw _ (List.mem_of_getElem? (i := 30) rfl)) (hw _ (List.mem_of_getElem? (i := 31) rfl)) (hw _ (List.mem_of_getElem? (i := 28) rfl)) (by decide) pd_8 [(.ref sb1), (.ref sb0)] rfl rfl 1 (Nat.le_of_eq rfl) rfl (by decide) (by decide) (by decide) (by decide) at_45 ?_
  rintro T h4 v4 ⟨rfl, K4, Ft⟩ X
  have S_NONE := own_stak S_NONE K4 E_b3
  have Sfn := Safe.keep K4 (fun x hx => by cases List.mem_singleton.mp hx; exact Sf_b3) H Sf_b3
  have H := CHv.keep K4 (fun x hx => by cases List.mem_singleton.mp hx; exact Sf_b3) H
  have Sf_b3 := Sfn
  have hk := Nat.le_trans hk K4.1
  have E_no := E_no.keep K4
  have F_no_text := F_no_text.keep K4 (ninS ne_no_b3 nin0)
  have E_ts := E_ts.keep K4
  have F_ts_value := F_ts_value.keep K4 (ninS ne_ts_b3 nin0)
  have A_ta := A_ta.keep K4 (ninS ne_ta_b3 nin0)
  have E_sb0 := E_sb0.keep K4
  have F_sb0_value := F_sb0_value.keep K4 (ninS ne_sb0_b3 nin0)
  have A_ab0 := A_ab0.keep K4 (ninS ne_ab0_b3 nin0)
  have E_sb1 := E_sb1.keep K4
  have F_sb1_value := F_sb1_value.keep K4 (ninS ne_sb1_b3 nin0)
  have A_ab1 := A_ab1.keep K4 (ninS ne_ab1_b3 nin0)
  have E_b3 := E_b3.keep K4
  have F_b3_text := Ft
  change Run _ _ _ _ _ _ _ _ [(.ref b3)]
  refine r_astore 50 X #[.val (.int p0), .val (.int p1), .val (.int p2), .val (.int p3), .val (.int p4), .val (.int p5), .val (.int len0), .val (.int len1), .val (.ref sb0), .val (.ref sb1), .val (.ref b3), .unset] at_48 rfl rfl ?_
  refine r_iload 52 X at_50 rfl ?_
  have J60_5 : ∀ (T : State), Cx p l e room_1 (s.setVm vm2) m #[(.int p0), (.int p1), (.int p2), (.int p3), (.int p4), (.int p5)] below meth c Z code maxLocals x.cls ret x.name n0 T h4 13 34 → Run p e below m (Fin1W below s n0 (fun v h' vm' => v = some (.int 1)) room_1.cells room_1.slots) T 60 #[.val (.int p0), .val (.int p1), .val (.int p2), .val (.int p3), .val (.int p4), .val (.int p5), .val (.int len0), .val (.int len1), .val (.ref sb0), .val (.ref sb1), .val (.ref b3), .unset] [(.int (b2i (¬ (len0 = (0 : Int32)))))] := by
    intro T X
    refine r_istore 62 X #[.val (.int p0), .val (.int p1), .val (.int p2), .val (.int p3), .val (.int p4), .val (.int p5), .val (.int len0), .val (.int len1), .val (.ref sb0), .val (.ref sb1), .val (.ref b3), .val (.int (b2i (¬ (len0 = (0 : Int32)))))] at_60 rfl ?_
    refine r_aload 64 X at_62 rfl rfl ?_
    refine r_virtual 67 X (st := []) (a := b3) (rmCa l Z a0 hw n0 _ X.sz b3 sb0 ab0 nt0 len0 _ hn0_ F_b3_text E_sb0 F_sb0_value A_ab0) E_b3 (hw _ (List.mem_of_getElem? (i := 42) rfl)) (hw _ (List.mem_of_getElem? (i := 43) rfl)) (hw _ (List.mem_of_getElem? (i := 45) rfl)) (hw _ (List.mem_of_getElem? (i := 45) rfl)) (hw _ (List.mem_of_getElem? (i := 44) rfl)) (hw _ (List.mem_of_getElem? (i := 46) rfl)) (hw _ (List.mem_of_getElem? (i := 28) rfl)) (by decide) pd_6 [] rfl rfl 0 (Nat.le_of_eq rfl) rfl (by decide) (by decide) (by decide) (by decide) at_64 ?_
    rintro T h6 v6 ⟨rfl, rfl⟩ X
    change Run _ _ _ _ _ _ _ _ [(.int (b2i (¬ (len0 = (0 : Int32)))))]
    refine r_iload 69 X at_67 rfl ?_
    refine r_icmpN 72 X at_69 (teq rfl).2 ?_
    refine r_getstatic 75 X (host := "") (Or.inl (hw _ (List.mem_of_getElem? (i := 52) rfl))) Via.refl S_NONE at_72 ?_
    intro T X
    refine r_virtual 78 X (st := []) (a := no) (rmCa l Z a0 hw n0 _ X.sz no ts ta 0 (0 : Int32) _ rfl F_no_text E_ts F_ts_value A_ta) E_no (hw _ (List.mem_of_getElem? (i := 42) rfl)) (hw _ (List.mem_of_getElem? (i := 43) rfl)) (hw _ (List.mem_of_getElem? (i := 45) rfl)) (hw _ (List.mem_of_getElem? (i := 45) rfl)) (hw _ (List.mem_of_getElem? (i := 44) rfl)) (hw _ (List.mem_of_getElem? (i := 46) rfl)) (hw _ (List.mem_of_getElem? (i := 28) rfl)) (by decide) pd_6 [] rfl rfl 0 (Nat.le_of_eq rfl) rfl (by decide) (by decide) (by decide) (by decide) at_75 ?_
    rintro T h7 v7 ⟨rfl, rfl⟩ X
    change Run _ _ _ _ _ _ _ _ [(.int (b2i (¬ ((0 : Int32) = (0 : Int32)))))]
    refine r_ifN 81 X at_78 ((if0 _ _).trans (teq (b2i_eq0 (by decide))).2) ?_
    refine r_iconst 82 X (1 : Int32) at_81 rfl ?_
    refine r_goto 86 X at_82 ?_
    refine r_retZW (z := (1 : Int32)) at_86 rfl X hS hk hEL H (by decide) (by decide) (fun vm' H' => ?_)
    exact rfl
  by_cases h52_8 : len0 = (0 : Int32)
  · refine r_ifY 59 X at_52 ((if0 _ _).trans (teq h52_8).1) ?_
    refine r_iconst 60 X (0 : Int32) at_59 rfl ?_
    refine r_topI (x' := (b2i (¬ (len0 = (0 : Int32))))) (by simp [b2i, h52_8]) ?_
    exact J60_5 _ X
  · refine r_ifN 55 X at_52 ((if0 _ _).trans (feq h52_8).1) ?_
    refine r_iconst 56 X (1 : Int32) at_55 rfl ?_
    refine r_goto 60 X at_56 ?_
    refine r_topI (x' := (b2i (¬ (len0 = (0 : Int32))))) (by simp [b2i, h52_8]) ?_
    exact J60_5 _ X
set_option maxRecDepth 65536 in
set_option maxHeartbeats 40000000 in
theorem comes_1 {Post : Tables → Env → Array Value → State → Outcome → State → Prop} (hpost : ∀ tb e args s v u, (limb_1_1.after args s (.returned v) u = true ∧ limb_1_2.after args s (.returned v) u = true ∧ True) → ReturnedEndW s (.returned v) u (Jvm.fieldLocs frame_1_writes args s ++ Jvm.arrayLocs frame_1_arrays args s ++ Jvm.staticLocs frame_1_statics s) 24 1152 → Post tb e args s (.returned v) u) :
    ArmFor flags0 classFile x code maxLocals ret World_1 tables_1 room_1 Calls_1 rest_1 Pre_1 Post := by
  intro l hfl _ _ p e ha hc hk s m args below hf hA hF happ hP
  obtain ⟨hcalls, hrest, hpre⟩ := hP
  obtain ⟨-, -, -, hnamed, -, -, -, hat⟩ := (Spec.applies_iff hf).mp happ
  obtain ⟨hg, hn⟩ := and_e (Cond.before_iff.mp (show (Jvm.Cond.and given_1 narrow_1).before args s = true from hpre))
  obtain ⟨g1, g2⟩ := and_e hg
  obtain ⟨g3, g4⟩ := and_e g2
  obtain ⟨g5, g6⟩ := and_e g4
  obtain ⟨g7, g8⟩ := and_e g6
  obtain ⟨g9, g10⟩ := and_e g8
  obtain ⟨g11, g12⟩ := and_e g10
  obtain ⟨w0, w1, w2, w3, w4, w5, rfl⟩ : ∃ w0 w1 w2 w3 w4 w5 : Value, args = #[w0, w1, w2, w3, w4, w5] := by
    have hs : args.size = 6 := by simpa [Cond.value, given_1] using g1
    obtain ⟨L⟩ := args
    match L, hs with
    | [w0, w1, w2, w3, w4, w5], _ => exact ⟨w0, w1, w2, w3, w4, w5, rfl⟩
  have hw := fun d (hd : d ∈ tables_1) => atoms_spec (ws := Jvm.Cond.code x code maxLocals ret :: tables_1) hat d (List.mem_cons_of_mem _ hd)
  have hfit : Fit s := fun {y c} hc i hi => by
    obtain ⟨ha, rfl⟩ := Array.getElem?_eq_some_iff.mp hc
    have q := List.all_eq_true.mp ((Array.all_eq_true_iff_forall_mem.mp hF) _ (Array.getElem_mem ha)) i (List.mem_range.mpr hi)
    simpa [Array.getElem?_eq_getElem hi] using q
  obtain ⟨hsets, hown0⟩ := atoms_of _ (rest_1_c_eq ▸ (show rest_1_c.before _ s = true from hrest))
  have hr0 := Cond.before_iff.mp hown0
  obtain ⟨i0, ei0⟩ := is_v g3
  obtain rfl : w0 = (.int i0) := Option.some.inj ei0
  obtain ⟨i1, ei1⟩ := is_v g5
  obtain rfl : w1 = (.int i1) := Option.some.inj ei1
  obtain ⟨i2, ei2⟩ := is_v g7
  obtain rfl : w2 = (.int i2) := Option.some.inj ei2
  obtain ⟨i3, ei3⟩ := is_v g9
  obtain rfl : w3 = (.int i3) := Option.some.inj ei3
  obtain ⟨i4, ei4⟩ := is_v g11
  obtain rfl : w4 = (.int i4) := Option.some.inj ei4
  obtain ⟨i5, ei5⟩ := is_v g12
  obtain rfl : w5 = (.int i5) := Option.some.inj ei5
  obtain ⟨n1, hn⟩ := and_e hn
  obtain ⟨n2, hn⟩ := and_e hn
  obtain ⟨n3, n4⟩ := and_e hn
  obtain ⟨no, e1⟩ := exa_v n1
  obtain ⟨ts, e2⟩ := exa_v n2
  obtain ⟨ta, e3⟩ := arr_v n3
  obtain ⟨cc, A⟩ := Arr.start e3 n3
  obtain ⟨l1, l2⟩ := Jvm.Free.IntBox.length_fwd (Cond.before_iff.mpr n4) e3 A.1 A.2.1 A.2.2
  have X2 := Exa.start e2 n2
  have f3 := e3
  rw [fld_at e2] at f3
  have f2 := e2
  rw [fld_at e1] at f2
  have l3 : ((cc.slots.size : Nat) : Int) = 0 := by rw [← len_toInt l1, l2]; rfl
  have A0 : AF s s.heap ta .byte 0 (fun _ => .int 0) := ⟨cc, A, by omega, by decide, fun j hj => absurd hj (Nat.not_lt_zero _)⟩
  obtain ⟨cs, ecs⟩ := is_v (Cond.before_iff.mp (hsets _ (List.mem_of_getElem? (i := 1) rfl)))
  have e2c := Cond.before_iff.mp (hsets _ (List.mem_of_getElem? (i := 2) rfl))
  have ncs : ¬ cs = (0 : Int32) := fun q => by
    rw [Cond.value, Cond.eq_ints ecs (Term.int_eval 0), q] at e2c
    simp at e2c
  have hch := CHv.start (own_EW hw) (fun p hp => hcalls.1 p hp) (hsets _ (List.mem_of_getElem? (i := 2) rfl)) (hw _ (List.mem_of_getElem? (i := 19) rfl)) (hw _ (List.mem_of_getElem? (i := 5) rfl))
  obtain ⟨n, o, h1, h2, h3, _, L, rfl, ⟨rfl, N, -⟩, hq⟩ := rm0 l s _ hw s.heap.size s.heap (Nat.le_refl _) i0 i1 i2 i3 i4 i5 cs no ts ta _ ncs (Sta.start ecs (Or.inl (hsets _ (List.mem_of_getElem? (i := 0) rfl)))) (Sta.start e1 (Or.inr ⟨(hw _ (List.mem_of_getElem? (i := 28) rfl)), (hw _ (List.mem_of_getElem? (i := 53) rfl))⟩)) (Exa.start e1 n1) (Fld.start f2) X2 (Fld.start f3) A0 p e ha hc hk s m _ below hf ((Spec.applies_iff_loose hf).mp happ).1 ⟨rfl, State.Warmed39.refl s, rfl, hch⟩ trivial
  refine ⟨n, _, h1, h2, h3, hpost _ _ _ _ _ _ ⟨Cond.after_iff.mpr rfl, Cond.after_iff.mpr (eq_i res_at (Term.int_eval (1)) rfl), trivial⟩ ⟨hq.1, hq.2.1, hq.2.2.1, (hq.2.2.2.sift fun y hy => Or.inr (N y hy)).mono (by decide) (by decide)⟩⟩
theorem main_1_1 : Claimed_1_1 := comes_1 fun _ _ _ _ _ _ h hF => ⟨h.1, hF⟩
theorem main_1_2 : Claimed_1_2 := comes_1 fun _ _ _ _ _ _ h hF => ⟨h.2.1, hF⟩
end Jvm.Pilot.@@N@@
namespace Jvm.Pilot.@@N@@
open Jvm Jvm.ClassFile Sem Op Lib Jvm.Free Jvm.Stand Jvm.Pilot.@@N@@.Jvm.D
/-! MADE BY PROGRAM (witnessworld.py) out of the Statement's table words and the real class files: 21 classes; the members and pool entries that the words name. The judged class is class 1, her method 2. -/
namespace start1
open Jvm.ClassFile
def u (s : String) : CpInfo := .utf8 (stringToUtf16 s)
/-- a pool by its gaps: so many unusable entries, then the entry; so many at the end -/
def gap : Nat → List CpInfo → List CpInfo
  | 0, r => r
  | n + 1, r => .unusable :: gap n r
def poolList (es : List (Nat × CpInfo)) (last : Nat) : List CpInfo := es.foldr (fun e r => gap e.1 (e.2 :: r)) (gap last [])
def pool (es : List (Nat × CpInfo)) (last : Nat) : Array CpInfo := ⟨poolList es last⟩
def fileOf (pool : Array CpInfo) (this : Nat) (attrs : Array Attribute := #[]) (ms : Array MethodInfo := #[]) (fl : Nat := 33) (sup : Nat := 0) (ifs : Array Nat := #[]) (fds : Array FieldInfo := #[]) : ClassFile where
  minorVersion := 0
  majorVersion := 65
  constantPool := pool
  accessFlags := fl
  thisClass := this
  superClass := sup
  interfaces := ifs
  fields := fds
  methods := ms
  attributes := attrs
def plain (name : String) (sup : Option ClassId) : Class where
  name := name
  kind := .ordinary
  loader := none
  accessFlags := 33
  super := sup
  interfaces := #[]
  cf := none
  fields := #[]
  methods := #[]
  instanceTypes := #[]
  staticTypes := #[]
  resolved := #[]
  callSites := []
  init := .initialized
  statics := none
  mirror := none

def pool0 : Array CpInfo := pool [(5, u "<init>"), (0, u "()V"), (1, .class_ 10), (1, u "java/lang/Object")] 113

def k0c0 : Code := { maxStack := 0, maxLocals := 1, code := object_method_1_code, exceptionTable := #[], attributes := #[] }
def k0m0 : Method := { name := "<init>", desc := "()V", sig := { parameters := [], returnType := none }, accessFlags := 1, code := some k0c0 }
/-- java/lang/Object -/
def k0 : Class := { plain "java/lang/Object" none with
  accessFlags := 33
  interfaces := #[]
  cf := some (fileOf pool0 8 #[] #[{ accessFlags := 1, nameIndex := 5, descriptorIndex := 6, attributes := #[] }] 33 0 #[] #[])
  fields := #[]
  methods := #[k0m0]
  instanceTypes := #[]
  staticTypes := #[]
  resolved := Array.replicate 124 none
  statics := none }

def pool1 : Array CpInfo := pool [(2, .class_ 4), (1, u "java/lang/Object"), (0, u "<init>"), (0, u "()V"), (0, .class_ 8), (0, u "java/lang/String"), (0, .methodref 7 10), (0, .nameAndType 5 11), (0, u "([C)V"), (0, .methodref 13 14), (0, .class_ 15), (0, .nameAndType 16 17), (0, u "com/example/esclusa/esclusa/provider/StreamEventCamePinLaw"), (0, u "str"), (0, u "(IIII)Ljava/lang/String;"), (0, .class_ 19), (0, u "com/example/esclusa/esclusa/provider/StreamEvent"), (0, .methodref 18 21), (0, .nameAndType 5 22), (0, u "(Ljava/lang/String;Ljava/lang/String;)V"), (0, .methodref 18 24), (0, .nameAndType 25 26), (0, u "came"), (0, u "()Z"), (0, .fieldref 18 28), (0, .nameAndType 29 30), (0, u "NONE"), (0, u "Lcom/example/esclusa/esclusa/provider/StreamEvent;"), (3, u "law"), (0, u "(IIIIII)Z")] 2

def k1m0 : Method := { name := "<init>", desc := "()V", sig := { parameters := [], returnType := none }, accessFlags := 1, code := none }
def k1c1 : Code := { maxStack := 6, maxLocals := 7, code := method_2_code, exceptionTable := #[], attributes := #[] }
def k1m1 : Method := { name := "str", desc := "(IIII)Ljava/lang/String;", sig := { parameters := [.int, .int, .int, .int], returnType := some (.object "java/lang/String") }, accessFlags := 10, code := some k1c1 }
def k1c2 : Code := { maxStack := 5, maxLocals := 12, code := code, exceptionTable := #[], attributes := #[] }
def k1m2 : Method := { name := "law", desc := "(IIIIII)Z", sig := { parameters := [.int, .int, .int, .int, .int, .int], returnType := some .boolean }, accessFlags := 9, code := some k1c2 }
/-- com/example/esclusa/esclusa/provider/StreamEventCamePinLaw -/
def k1 : Class := { plain "com/example/esclusa/esclusa/provider/StreamEventCamePinLaw" (some 0) with
  accessFlags := 49
  interfaces := #[]
  cf := some (fileOf pool1 13 #[] #[{ accessFlags := 1, nameIndex := 5, descriptorIndex := 6, attributes := #[] }, { accessFlags := 10, nameIndex := 16, descriptorIndex := 17, attributes := #[] }, { accessFlags := 9, nameIndex := 34, descriptorIndex := 35, attributes := #[] }] 49 2 #[] #[])
  fields := #[]
  methods := #[k1m0, k1m1, k1m2]
  instanceTypes := #[]
  staticTypes := #[]
  resolved := Array.replicate 38 none
  statics := none }

def pool2 : Array CpInfo := pool [(1, .class_ 2), (0, u "java/io/Serializable"), (0, .class_ 4), (0, u "java/lang/Object")] 2

/-- java/io/Serializable -/
def k2 : Class := { plain "java/io/Serializable" (some 0) with
  accessFlags := 1537
  interfaces := #[]
  cf := some (fileOf pool2 1 #[] #[] 1537 3 #[] #[])
  fields := #[]
  methods := #[]
  instanceTypes := #[]
  staticTypes := #[]
  resolved := Array.replicate 7 none
  statics := none }

def pool3 : Array CpInfo := pool [(1, .class_ 2), (0, u "java/lang/Comparable"), (0, .class_ 4), (0, u "java/lang/Object")] 7

/-- java/lang/Comparable -/
def k3 : Class := { plain "java/lang/Comparable" (some 0) with
  accessFlags := 1537
  interfaces := #[]
  cf := some (fileOf pool3 1 #[] #[] 1537 3 #[] #[])
  fields := #[]
  methods := #[]
  instanceTypes := #[]
  staticTypes := #[]
  resolved := Array.replicate 12 none
  statics := none }

def pool4 : Array CpInfo := pool [(2, .class_ 4), (1, u "java/lang/CharSequence"), (42, .class_ 48), (0, u "java/lang/CharSequence$1CodePointIterator"), (10, .class_ 60), (0, u "java/lang/CharSequence$1CharIterator"), (5, .class_ 67), (0, u "java/lang/Object")] 63

/-- java/lang/CharSequence -/
def k4 : Class := { plain "java/lang/CharSequence" (some 0) with
  accessFlags := 1537
  interfaces := #[]
  cf := some (fileOf pool4 2 #[.nestMembers #[47, 59]] #[] 1537 66 #[] #[])
  fields := #[]
  methods := #[]
  instanceTypes := #[]
  staticTypes := #[]
  resolved := Array.replicate 131 none
  statics := none }

def pool5 : Array CpInfo := pool [(1, .class_ 2), (0, u "java/lang/constant/Constable"), (0, .class_ 4), (0, u "java/lang/Object")] 6

/-- java/lang/constant/Constable -/
def k5 : Class := { plain "java/lang/constant/Constable" (some 0) with
  accessFlags := 1537
  interfaces := #[]
  cf := some (fileOf pool5 1 #[] #[] 1537 3 #[] #[])
  fields := #[]
  methods := #[]
  instanceTypes := #[]
  staticTypes := #[]
  resolved := Array.replicate 11 none
  statics := none }

def pool6 : Array CpInfo := pool [(1, .class_ 2), (0, u "java/lang/constant/ConstantDesc"), (0, .class_ 4), (0, u "java/lang/Object")] 32

/-- java/lang/constant/ConstantDesc -/
def k6 : Class := { plain "java/lang/constant/ConstantDesc" (some 0) with
  accessFlags := 1537
  interfaces := #[]
  cf := some (fileOf pool6 1 #[] #[] 1537 3 #[] #[])
  fields := #[]
  methods := #[]
  instanceTypes := #[]
  staticTypes := #[]
  resolved := Array.replicate 37 none
  statics := none }

def pool7 : Array CpInfo := pool [(1, .methodref 2 3), (0, .class_ 4), (0, .nameAndType 5 6), (0, u "java/lang/Object"), (0, u "<init>"), (0, u "()V"), (0, .string 8), (0, u ""), (0, .fieldref 10 11), (0, .class_ 12), (0, .nameAndType 13 14), (0, u "java/lang/String"), (0, u "value"), (0, u "[B"), (0, .fieldref 10 16), (0, .nameAndType 17 18), (0, u "coder"), (0, u "B"), (2, u "hash"), (0, u "I"), (2, u "hashIsZero"), (0, u "Z"), (0, .methodref 10 28), (0, .nameAndType 5 29), (0, u "([CIILjava/lang/Void;)V"), (8, .fieldref 10 39), (0, .nameAndType 40 26), (0, u "COMPACT_STRINGS"), (1, .class_ 44), (1, u "java/lang/StringUTF16"), (0, u "compress"), (1, .methodref 42 48), (0, .nameAndType 49 50), (0, u "coderFromArrayLen"), (0, u "([BI)B"), (91, u "()Z"), (34, .methodref 42 178), (0, .nameAndType 45 179), (0, u "([CII)[B"), (395, .class_ 576), (0, u "java/lang/CharSequence"), (22, u "CASE_INSENSITIVE_ORDER"), (0, u "Ljava/util/Comparator;"), (91, u "isEmpty"), (317, u "([C)V"), (90, u "serialPersistentFields"), (0, u "[Ljava/io/ObjectStreamField;"), (0, .class_ 1104), (0, u "java/lang/String$CaseInsensitiveComparator"), (1, .class_ 1107), (0, u "java/io/Serializable"), (0, .class_ 1109), (0, u "java/lang/Comparable"), (0, .class_ 1111), (0, u "java/lang/constant/Constable"), (0, .class_ 1113), (0, u "java/lang/constant/ConstantDesc"), (2, u "serialVersionUID"), (0, u "J"), (3, u "REPL"), (0, u "C"), (2, u "LATIN1"), (1, u "UTF16")] 323

def k7m0 : Method := { name := "<init>", desc := "()V", sig := { parameters := [], returnType := none }, accessFlags := 1, code := none }
def k7c1 : Code := { maxStack := 5, maxLocals := 2, code := jdk_42_method_3_code, exceptionTable := #[], attributes := #[] }
def k7m1 : Method := { name := "<init>", desc := "([C)V", sig := { parameters := [(.array .char)], returnType := none }, accessFlags := 1, code := some k7c1 }
def k7c2 : Code := { maxStack := 1, maxLocals := 1, code := jdk_42_method_55_code, exceptionTable := #[], attributes := #[] }
def k7m2 : Method := { name := "isEmpty", desc := "()Z", sig := { parameters := [], returnType := some .boolean }, accessFlags := 1, code := some k7c2 }
def k7c3 : Code := { maxStack := 4, maxLocals := 6, code := jdk_42_method_149_code, exceptionTable := #[], attributes := #[] }
def k7m3 : Method := { name := "<init>", desc := "([CIILjava/lang/Void;)V", sig := { parameters := [(.array .char), .int, .int, (.object "java/lang/Void")], returnType := none }, accessFlags := 2, code := some k7c3 }
/-- java/lang/String -/
def k7 : Class := { plain "java/lang/String" (some 0) with
  accessFlags := 49
  interfaces := #[2, 3, 4, 5, 6]
  cf := some (fileOf pool7 10 #[.nestMembers #[1103]] #[{ accessFlags := 1, nameIndex := 5, descriptorIndex := 6, attributes := #[] }, { accessFlags := 1, nameIndex := 5, descriptorIndex := 1010, attributes := #[] }, { accessFlags := 1, nameIndex := 692, descriptorIndex := 142, attributes := #[] }, { accessFlags := 2, nameIndex := 5, descriptorIndex := 29, attributes := #[] }] 49 2 #[1106, 1108, 575, 1110, 1112] #[{ accessFlags := 18, nameIndex := 13, descriptorIndex := 14, attributes := #[] }, { accessFlags := 18, nameIndex := 17, descriptorIndex := 18, attributes := #[] }, { accessFlags := 2, nameIndex := 21, descriptorIndex := 22, attributes := #[] }, { accessFlags := 2, nameIndex := 25, descriptorIndex := 26, attributes := #[] }, { accessFlags := 26, nameIndex := 1116, descriptorIndex := 1117, attributes := #[] }, { accessFlags := 24, nameIndex := 40, descriptorIndex := 26, attributes := #[] }, { accessFlags := 26, nameIndex := 1101, descriptorIndex := 1102, attributes := #[] }, { accessFlags := 26, nameIndex := 1121, descriptorIndex := 1122, attributes := #[] }, { accessFlags := 25, nameIndex := 599, descriptorIndex := 600, attributes := #[] }, { accessFlags := 24, nameIndex := 1125, descriptorIndex := 18, attributes := #[] }, { accessFlags := 24, nameIndex := 1127, descriptorIndex := 18, attributes := #[] }])
  fields := #[{ name := "value", type := (.array .byte), accessFlags := 18, slot := 0, constantValue := 0 }, { name := "coder", type := .byte, accessFlags := 18, slot := 1, constantValue := 0 }, { name := "hash", type := .int, accessFlags := 2, slot := 2, constantValue := 0 }, { name := "hashIsZero", type := .boolean, accessFlags := 2, slot := 3, constantValue := 0 }, { name := "serialVersionUID", type := .long, accessFlags := 26, slot := 0, constantValue := 0 }, { name := "COMPACT_STRINGS", type := .boolean, accessFlags := 24, slot := 1, constantValue := 0 }, { name := "serialPersistentFields", type := (.array (.object "java/io/ObjectStreamField")), accessFlags := 26, slot := 2, constantValue := 0 }, { name := "REPL", type := .char, accessFlags := 26, slot := 3, constantValue := 0 }, { name := "CASE_INSENSITIVE_ORDER", type := (.object "java/util/Comparator"), accessFlags := 25, slot := 4, constantValue := 0 }, { name := "LATIN1", type := .byte, accessFlags := 24, slot := 5, constantValue := 0 }, { name := "UTF16", type := .byte, accessFlags := 24, slot := 6, constantValue := 0 }]
  methods := #[k7m0, k7m1, k7m2, k7m3]
  instanceTypes := #[(.array .byte), .byte, .int, .boolean]
  staticTypes := #[.long, .boolean, (.array (.object "java/io/ObjectStreamField")), .char, (.object "java/util/Comparator"), .byte, .byte]
  resolved := Array.replicate 1451 none
  statics := some 0 }

def pool8 : Array CpInfo := pool [(1, .methodref 2 3), (0, .class_ 4), (0, .nameAndType 5 6), (0, u "java/lang/Object"), (0, u "<init>"), (0, u "()V"), (0, .class_ 8), (0, u "java/lang/Record")] 13

def k8c0 : Code := { maxStack := 1, maxLocals := 1, code := jdk_30_method_1_code, exceptionTable := #[], attributes := #[] }
def k8m0 : Method := { name := "<init>", desc := "()V", sig := { parameters := [], returnType := none }, accessFlags := 4, code := some k8c0 }
/-- java/lang/Record -/
def k8 : Class := { plain "java/lang/Record" (some 0) with
  accessFlags := 1057
  interfaces := #[]
  cf := some (fileOf pool8 7 #[] #[{ accessFlags := 4, nameIndex := 5, descriptorIndex := 6, attributes := #[] }] 1057 2 #[] #[])
  fields := #[]
  methods := #[k8m0]
  instanceTypes := #[]
  staticTypes := #[]
  resolved := Array.replicate 22 none
  statics := none }

def pool9 : Array CpInfo := pool [(1, .methodref 2 3), (0, .class_ 4), (0, .nameAndType 5 6), (0, u "java/lang/Record"), (0, u "<init>"), (0, u "()V"), (0, .fieldref 8 9), (0, .class_ 10), (0, .nameAndType 11 12), (0, u "com/example/esclusa/esclusa/provider/StreamEvent"), (0, u "data"), (0, u "Ljava/lang/String;"), (0, .fieldref 8 14), (0, .nameAndType 15 12), (0, u "text"), (0, .methodref 17 18), (0, .class_ 19), (0, .nameAndType 20 21), (0, u "java/lang/String"), (0, u "isEmpty"), (0, u "()Z"), (16, u "(Ljava/lang/String;Ljava/lang/String;)V"), (2, u "NONE"), (0, u "Lcom/example/esclusa/esclusa/provider/StreamEvent;"), (3, u "came")] 26

def k9c0 : Code := { maxStack := 2, maxLocals := 3, code := prog_25_method_1_code, exceptionTable := #[], attributes := #[] }
def k9m0 : Method := { name := "<init>", desc := "(Ljava/lang/String;Ljava/lang/String;)V", sig := { parameters := [(.object "java/lang/String"), (.object "java/lang/String")], returnType := none }, accessFlags := 1, code := some k9c0 }
def k9c1 : Code := { maxStack := 1, maxLocals := 1, code := prog_25_method_2_code, exceptionTable := #[], attributes := #[] }
def k9m1 : Method := { name := "came", desc := "()Z", sig := { parameters := [], returnType := some .boolean }, accessFlags := 1, code := some k9c1 }
/-- com/example/esclusa/esclusa/provider/StreamEvent -/
def k9 : Class := { plain "com/example/esclusa/esclusa/provider/StreamEvent" (some 8) with
  accessFlags := 49
  interfaces := #[]
  cf := some (fileOf pool9 8 #[] #[{ accessFlags := 1, nameIndex := 5, descriptorIndex := 38, attributes := #[] }, { accessFlags := 1, nameIndex := 46, descriptorIndex := 21, attributes := #[] }] 49 2 #[] #[{ accessFlags := 18, nameIndex := 11, descriptorIndex := 12, attributes := #[] }, { accessFlags := 18, nameIndex := 15, descriptorIndex := 12, attributes := #[] }, { accessFlags := 24, nameIndex := 41, descriptorIndex := 42, attributes := #[] }])
  fields := #[{ name := "data", type := (.object "java/lang/String"), accessFlags := 18, slot := 0, constantValue := 0 }, { name := "text", type := (.object "java/lang/String"), accessFlags := 18, slot := 1, constantValue := 0 }, { name := "NONE", type := (.object "com/example/esclusa/esclusa/provider/StreamEvent"), accessFlags := 24, slot := 0, constantValue := 0 }]
  methods := #[k9m0, k9m1]
  instanceTypes := #[(.object "java/lang/String"), (.object "java/lang/String")]
  staticTypes := #[(.object "com/example/esclusa/esclusa/provider/StreamEvent")]
  resolved := Array.replicate 73 none
  statics := some 1 }

def pool10 : Array CpInfo := pool [(6, .class_ 8), (1, u "java/lang/Object"), (0, u "<init>"), (0, u "()V"), (1, .class_ 14), (1, u "java/lang/StringUTF16"), (31, u "$assertionsDisabled"), (0, u "Z"), (13, u "HI_BYTE_SHIFT"), (0, u "I"), (2, u "LO_BYTE_SHIFT"), (49, .methodref 12 116), (0, .nameAndType 117 118), (0, u "compress"), (0, u "([CI[BII)I"), (3, u "([CII)[B"), (138, u "coderFromArrayLen"), (0, u "([BI)B"), (106, .class_ 371), (1, u "java/lang/StringUTF16$LinesSpliterator"), (58, u "MAX_LENGTH"), (196, .class_ 628), (0, u "java/lang/StringUTF16$CodePointsSpliterator"), (0, .class_ 630), (0, u "java/lang/StringUTF16$CharsSpliterator")] 4

def k10m0 : Method := { name := "<init>", desc := "()V", sig := { parameters := [], returnType := none }, accessFlags := 0, code := none }
def k10c1 : Code := { maxStack := 2, maxLocals := 2, code := jdk_52_method_15_code, exceptionTable := #[], attributes := #[] }
def k10m1 : Method := { name := "coderFromArrayLen", desc := "([BI)B", sig := { parameters := [(.array .byte), .int], returnType := some .byte }, accessFlags := 8, code := some k10c1 }
def k10c2 : Code := { maxStack := 5, maxLocals := 6, code := jdk_52_method_16_code, exceptionTable := #[], attributes := #[] }
def k10m2 : Method := { name := "compress", desc := "([CII)[B", sig := { parameters := [(.array .char), .int, .int], returnType := some (.array .byte) }, accessFlags := 9, code := some k10c2 }
def k10c3 : Code := { maxStack := 3, maxLocals := 7, code := jdk_52_method_21_code, exceptionTable := #[], attributes := #[] }
def k10m3 : Method := { name := "compress", desc := "([CI[BII)I", sig := { parameters := [(.array .char), .int, (.array .byte), .int, .int], returnType := some .int }, accessFlags := 9, code := some k10c3 }
/-- java/lang/StringUTF16 -/
def k10 : Class := { plain "java/lang/StringUTF16" (some 0) with
  accessFlags := 48
  interfaces := #[]
  cf := some (fileOf pool10 12 #[.nestMembers #[627, 629, 369]] #[{ accessFlags := 0, nameIndex := 9, descriptorIndex := 10, attributes := #[] }, { accessFlags := 8, nameIndex := 261, descriptorIndex := 262, attributes := #[] }, { accessFlags := 9, nameIndex := 117, descriptorIndex := 122, attributes := #[] }, { accessFlags := 9, nameIndex := 117, descriptorIndex := 118, attributes := #[] }] 48 6 #[] #[{ accessFlags := 26, nameIndex := 61, descriptorIndex := 62, attributes := #[] }, { accessFlags := 26, nameIndex := 65, descriptorIndex := 62, attributes := #[] }, { accessFlags := 24, nameIndex := 430, descriptorIndex := 62, attributes := #[] }, { accessFlags := 4120, nameIndex := 46, descriptorIndex := 47, attributes := #[] }])
  fields := #[{ name := "HI_BYTE_SHIFT", type := .int, accessFlags := 26, slot := 0, constantValue := 0 }, { name := "LO_BYTE_SHIFT", type := .int, accessFlags := 26, slot := 1, constantValue := 0 }, { name := "MAX_LENGTH", type := .int, accessFlags := 24, slot := 2, constantValue := 0 }, { name := "$assertionsDisabled", type := .boolean, accessFlags := 4120, slot := 3, constantValue := 0 }]
  methods := #[k10m0, k10m1, k10m2, k10m3]
  instanceTypes := #[]
  staticTypes := #[.int, .int, .int, .boolean]
  resolved := Array.replicate 635 none
  statics := none }

def pool11 : Array CpInfo := pool [(4, .class_ 6), (1, u "java/lang/Object"), (0, u "<init>"), (0, u "()V"), (5, .class_ 16), (1, u "java/lang/StringLatin1"), (104, u "$assertionsDisabled"), (0, u "Z"), (98, .class_ 223), (1, u "java/lang/StringLatin1$LinesSpliterator"), (166, .class_ 391), (0, u "java/lang/StringLatin1$CharsSpliterator")] 3

def k11m0 : Method := { name := "<init>", desc := "()V", sig := { parameters := [], returnType := none }, accessFlags := 0, code := none }
/-- java/lang/StringLatin1 -/
def k11 : Class := { plain "java/lang/StringLatin1" (some 0) with
  accessFlags := 48
  interfaces := #[]
  cf := some (fileOf pool11 14 #[.nestMembers #[390, 221]] #[{ accessFlags := 0, nameIndex := 7, descriptorIndex := 8, attributes := #[] }] 48 4 #[] #[{ accessFlags := 4120, nameIndex := 121, descriptorIndex := 122, attributes := #[] }])
  fields := #[{ name := "$assertionsDisabled", type := .boolean, accessFlags := 4120, slot := 0, constantValue := 0 }]
  methods := #[k11m0]
  instanceTypes := #[]
  staticTypes := #[.boolean]
  resolved := Array.replicate 395 none
  statics := none }

def pool12 : Array CpInfo := pool [(2, .class_ 4), (1, u "java/lang/Object"), (0, u "<init>"), (0, u "()V"), (17, .class_ 26), (1, u "jdk/internal/util/Preconditions"), (28, .class_ 56), (0, u "jdk/internal/util/Preconditions$4"), (57, .class_ 115), (0, u "jdk/internal/util/Preconditions$1"), (7, u "SIOOBE_FORMATTER"), (0, u "Ljava/util/function/BiFunction;"), (0, .class_ 126), (0, u "jdk/internal/util/Preconditions$2"), (3, u "AIOOBE_FORMATTER"), (0, .class_ 132), (0, u "jdk/internal/util/Preconditions$3"), (3, u "IOOBE_FORMATTER")] 57

def k12m0 : Method := { name := "<init>", desc := "()V", sig := { parameters := [], returnType := none }, accessFlags := 1, code := none }
/-- jdk/internal/util/Preconditions -/
def k12 : Class := { plain "jdk/internal/util/Preconditions" (some 0) with
  accessFlags := 33
  interfaces := #[]
  cf := some (fileOf pool12 24 #[.nestMembers #[55, 131, 125, 114]] #[{ accessFlags := 1, nameIndex := 5, descriptorIndex := 6, attributes := #[] }] 33 2 #[] #[{ accessFlags := 25, nameIndex := 123, descriptorIndex := 124, attributes := #[] }, { accessFlags := 25, nameIndex := 130, descriptorIndex := 124, attributes := #[] }, { accessFlags := 25, nameIndex := 136, descriptorIndex := 124, attributes := #[] }])
  fields := #[{ name := "SIOOBE_FORMATTER", type := (.object "java/util/function/BiFunction"), accessFlags := 25, slot := 0, constantValue := 0 }, { name := "AIOOBE_FORMATTER", type := (.object "java/util/function/BiFunction"), accessFlags := 25, slot := 1, constantValue := 0 }, { name := "IOOBE_FORMATTER", type := (.object "java/util/function/BiFunction"), accessFlags := 25, slot := 2, constantValue := 0 }]
  methods := #[k12m0]
  instanceTypes := #[]
  staticTypes := #[(.object "java/util/function/BiFunction"), (.object "java/util/function/BiFunction"), (.object "java/util/function/BiFunction")]
  resolved := Array.replicate 194 none
  statics := some 2 }

def pool13 : Array CpInfo := pool [(9, u "<init>"), (6, .class_ 18), (1, u "java/lang/Object"), (0, u "()V"), (1, .class_ 23), (1, u "jdk/internal/util/ArraysSupport"), (0, u "LOG2_ARRAY_LONG_INDEX_SCALE"), (0, u "I"), (2, u "U"), (0, u "Ljdk/internal/misc/Unsafe;"), (8, u "BIG_ENDIAN"), (0, u "Z"), (8, u "LOG2_BYTE_BIT_SIZE"), (4, u "LOG2_ARRAY_INT_INDEX_SCALE"), (54, u "JLA"), (0, u "Ljdk/internal/access/JavaLangAccess;"), (11, u "LOG2_ARRAY_BOOLEAN_INDEX_SCALE"), (9, u "LOG2_ARRAY_BYTE_INDEX_SCALE"), (5, u "LOG2_ARRAY_CHAR_INDEX_SCALE"), (5, u "LOG2_ARRAY_SHORT_INDEX_SCALE"), (18, u "LOG2_ARRAY_FLOAT_INDEX_SCALE"), (24, u "LOG2_ARRAY_DOUBLE_INDEX_SCALE"), (89, u "T_BOOLEAN"), (2, u "T_CHAR"), (1, u "T_FLOAT"), (1, u "T_DOUBLE"), (1, u "T_BYTE"), (1, u "T_SHORT"), (1, u "T_INT"), (1, u "T_LONG"), (1, u "SOFT_MAX_ARRAY_LENGTH")] 83

def k13m0 : Method := { name := "<init>", desc := "()V", sig := { parameters := [], returnType := none }, accessFlags := 2, code := none }
/-- jdk/internal/util/ArraysSupport -/
def k13 : Class := { plain "jdk/internal/util/ArraysSupport" (some 0) with
  accessFlags := 33
  interfaces := #[]
  cf := some (fileOf pool13 21 #[] #[{ accessFlags := 2, nameIndex := 9, descriptorIndex := 19, attributes := #[] }] 33 16 #[] #[{ accessFlags := 24, nameIndex := 28, descriptorIndex := 29, attributes := #[] }, { accessFlags := 26, nameIndex := 38, descriptorIndex := 39, attributes := #[] }, { accessFlags := 25, nameIndex := 121, descriptorIndex := 25, attributes := #[] }, { accessFlags := 25, nameIndex := 131, descriptorIndex := 25, attributes := #[] }, { accessFlags := 25, nameIndex := 137, descriptorIndex := 25, attributes := #[] }, { accessFlags := 25, nameIndex := 143, descriptorIndex := 25, attributes := #[] }, { accessFlags := 25, nameIndex := 53, descriptorIndex := 25, attributes := #[] }, { accessFlags := 25, nameIndex := 24, descriptorIndex := 25, attributes := #[] }, { accessFlags := 25, nameIndex := 162, descriptorIndex := 25, attributes := #[] }, { accessFlags := 25, nameIndex := 187, descriptorIndex := 25, attributes := #[] }, { accessFlags := 26, nameIndex := 48, descriptorIndex := 25, attributes := #[] }, { accessFlags := 25, nameIndex := 277, descriptorIndex := 25, attributes := #[] }, { accessFlags := 25, nameIndex := 280, descriptorIndex := 25, attributes := #[] }, { accessFlags := 25, nameIndex := 282, descriptorIndex := 25, attributes := #[] }, { accessFlags := 25, nameIndex := 284, descriptorIndex := 25, attributes := #[] }, { accessFlags := 25, nameIndex := 286, descriptorIndex := 25, attributes := #[] }, { accessFlags := 25, nameIndex := 288, descriptorIndex := 25, attributes := #[] }, { accessFlags := 25, nameIndex := 290, descriptorIndex := 25, attributes := #[] }, { accessFlags := 25, nameIndex := 292, descriptorIndex := 25, attributes := #[] }, { accessFlags := 26, nameIndex := 108, descriptorIndex := 109, attributes := #[] }, { accessFlags := 25, nameIndex := 294, descriptorIndex := 25, attributes := #[] }])
  fields := #[{ name := "U", type := (.object "jdk/internal/misc/Unsafe"), accessFlags := 24, slot := 0, constantValue := 0 }, { name := "BIG_ENDIAN", type := .boolean, accessFlags := 26, slot := 1, constantValue := 0 }, { name := "LOG2_ARRAY_BOOLEAN_INDEX_SCALE", type := .int, accessFlags := 25, slot := 2, constantValue := 0 }, { name := "LOG2_ARRAY_BYTE_INDEX_SCALE", type := .int, accessFlags := 25, slot := 3, constantValue := 0 }, { name := "LOG2_ARRAY_CHAR_INDEX_SCALE", type := .int, accessFlags := 25, slot := 4, constantValue := 0 }, { name := "LOG2_ARRAY_SHORT_INDEX_SCALE", type := .int, accessFlags := 25, slot := 5, constantValue := 0 }, { name := "LOG2_ARRAY_INT_INDEX_SCALE", type := .int, accessFlags := 25, slot := 6, constantValue := 0 }, { name := "LOG2_ARRAY_LONG_INDEX_SCALE", type := .int, accessFlags := 25, slot := 7, constantValue := 0 }, { name := "LOG2_ARRAY_FLOAT_INDEX_SCALE", type := .int, accessFlags := 25, slot := 8, constantValue := 0 }, { name := "LOG2_ARRAY_DOUBLE_INDEX_SCALE", type := .int, accessFlags := 25, slot := 9, constantValue := 0 }, { name := "LOG2_BYTE_BIT_SIZE", type := .int, accessFlags := 26, slot := 10, constantValue := 0 }, { name := "T_BOOLEAN", type := .int, accessFlags := 25, slot := 11, constantValue := 0 }, { name := "T_CHAR", type := .int, accessFlags := 25, slot := 12, constantValue := 0 }, { name := "T_FLOAT", type := .int, accessFlags := 25, slot := 13, constantValue := 0 }, { name := "T_DOUBLE", type := .int, accessFlags := 25, slot := 14, constantValue := 0 }, { name := "T_BYTE", type := .int, accessFlags := 25, slot := 15, constantValue := 0 }, { name := "T_SHORT", type := .int, accessFlags := 25, slot := 16, constantValue := 0 }, { name := "T_INT", type := .int, accessFlags := 25, slot := 17, constantValue := 0 }, { name := "T_LONG", type := .int, accessFlags := 25, slot := 18, constantValue := 0 }, { name := "JLA", type := (.object "jdk/internal/access/JavaLangAccess"), accessFlags := 26, slot := 19, constantValue := 0 }, { name := "SOFT_MAX_ARRAY_LENGTH", type := .int, accessFlags := 25, slot := 20, constantValue := 0 }]
  methods := #[k13m0]
  instanceTypes := #[]
  staticTypes := #[(.object "jdk/internal/misc/Unsafe"), .boolean, .int, .int, .int, .int, .int, .int, .int, .int, .int, .int, .int, .int, .int, .int, .int, .int, .int, (.object "jdk/internal/access/JavaLangAccess"), .int]
  resolved := Array.replicate 378 none
  statics := none }

def pool14 : Array CpInfo := pool [(1, u "java/lang/Cloneable"), (0, .class_ 1), (0, u "java/lang/Object"), (0, .class_ 3)] 3

/-- java/lang/Cloneable -/
def k14 : Class := { plain "java/lang/Cloneable" (some 0) with
  accessFlags := 1537
  interfaces := #[]
  cf := some (fileOf pool14 2 #[] #[] 1537 4 #[] #[])
  fields := #[]
  methods := #[]
  instanceTypes := #[]
  staticTypes := #[]
  resolved := Array.replicate 8 none
  statics := none }

/-- the primitive byte -/
def k15 : Class := { plain "byte" none with kind := .primitive 'B', accessFlags := 0x411 }
/-- [B -/
def k16 : Class := { plain "[B" (some 0) with kind := .array 15 .byte, interfaces := #[14, 2], accessFlags := 1041 }

/-- the primitive char -/
def k17 : Class := { plain "char" none with kind := .primitive 'C', accessFlags := 0x411 }
/-- [C -/
def k18 : Class := { plain "[C" (some 0) with kind := .array 17 .char, interfaces := #[14, 2], accessFlags := 1041 }

/-- the primitive int -/
def k19 : Class := { plain "int" none with kind := .primitive 'I', accessFlags := 0x411 }
/-- [I -/
def k20 : Class := { plain "[I" (some 0) with kind := .array 19 .int, interfaces := #[14, 2], accessFlags := 1041 }

def heap : Heap := #[{ cls := 7, slots := #[.long 0, .int 1, .null, .int 0, .null, .int 0, .int 0], vm := .statics 7 },
  { cls := 9, slots := #[.ref 3], vm := .statics 9 },
  { cls := 12, slots := #[.null, .null, .null], vm := .statics 12 },
  { cls := 9, slots := #[.null, .ref 4], vm := .none },
  { cls := 7, slots := #[.ref 5, .int 0, .int 0, .int 0], vm := .none },
  { cls := 16, slots := #[], vm := .none }]
def classes : Array Class := #[k0, k1, k2, k3, k4, k5, k6, k7, k8, k9, k10, k11, k12, k13, k14, k15, k16, k17, k18, k19, k20]
def interned : List (Array UInt16 × Addr) := []
def slotsUsed : Nat := 17
def theMethod : MethodId := ⟨1, 2⟩
def args0 : Array Value := #[.int 0, .int 1, .int 2, .int 3, .int 4, .int 5]
def aboutOver (below : List Frame) : State where
  vm := { classes := classes, interned := interned.toArray }
  heap := heap
  slotsUsed := slotsUsed
  threads := #[{ frames := .invoking theMethod args0 :: below }]
def below0 : List Frame := [.native { method := ⟨0, 0⟩, args := #[] }]
def about1 : State := aboutOver below0
def p0 : Program := .bare "" "" ""
def e0 : Env := launch0.env 0 0 0
theorem w_frames : about1.frames = Frame.invoking theMethod args0 :: below0 := rfl
set_option maxRecDepth 65536 in
theorem w_args : argsFit about1.vm theMethod args0 = true := by decide +kernel
set_option maxRecDepth 65536 in
theorem w_heap : heapFits about1 = true := by decide +kernel
set_option maxRecDepth 65536 in
theorem w_runnable : about1.curStatus? = some .runnable := by decide +kernel
set_option maxRecDepth 65536 in
theorem w_alone : about1.alone = true := by decide +kernel
set_option maxRecDepth 65536 in
theorem w_named : about1.methodNamed? x = some theMethod := by decide +kernel
set_option maxRecDepth 65536 in
theorem w_hears : about1.hears theMethod below0 = true := by decide +kernel
set_option maxRecDepth 65536 in
theorem w_ripe : about1.ripe theMethod args0 below0 = true := by decide +kernel
theorem w_running : about1.status = .running := rfl
set_option maxRecDepth 65536 in
theorem w_room : about1.hasRoom e0.platform room_1 = true :=
  launch0.hasRoom_least _ room_1 (by decide +kernel) (by decide +kernel) (by decide +kernel) (by decide +kernel) (by decide +kernel) (by decide +kernel)
theorem allAtoms_all (ts : List Jvm.Cond) (a : Array Jvm.Value) (st : Jvm.State) : (allAtoms ts).before a st = ts.all (fun c => c.before a st) := by
  induction ts with
  | nil => rfl
  | cons c t ih =>
    show (Jvm.Cond.and c (allAtoms t)).before a st = _
    rw [Jvm.Cond.before_and, ih, List.all_cons]
def words1 : List Jvm.Cond := Jvm.Cond.code x code maxLocals ret :: tables_1
/-- a 'code' word, met by the world's own term for the bytes: nothing is compared byte by byte -/
theorem code_word {y : MethodName} {bytes : ByteArray} {mx : Nat} {rt : Option FieldType} {a : Array Value} {s : State} {m : MethodId} {meth : Method} {c : Code} (h1 : s.methodNamed? y = some m) (h2 : s.vm.method? m = some meth) (h3 : meth.code = some c) (h4 : c.code = bytes)
    (h5 : (c.maxLocals == mx && c.exceptionTable.isEmpty && decide (c.maxStack ≤ mostOperands) && decide (meth.sig.returnType = rt) && !meth.locks && decide (parseMethodDescriptor y.desc = some meth.sig)) = true) : (Jvm.Cond.code y bytes mx rt).before a s = true := by
  simp only [Bool.and_eq_true, beq_iff_eq, Bool.not_eq_true', decide_eq_true_eq] at h5
  obtain ⟨⟨⟨⟨⟨g1, g2⟩, g3⟩, g4⟩, g5⟩, g6⟩ := h5
  simp [Cond.before, Cond.holds, Cond.value, h1, h2, h3, h4, g1, g2, g3, g4, g5, g6]
def isCode : Jvm.Cond → Bool
  | .code _ _ _ _ => true
  | _ => false
theorem all_split {L : List Jvm.Cond} {P : Jvm.Cond → Bool} (h1 : L.all (fun c => isCode c || P c) = true) (h2 : ∀ c ∈ L.filter isCode, P c = true) : L.all P = true := by
  refine List.all_eq_true.mpr fun c hc => ?_
  have h := List.all_eq_true.mp h1 c hc
  rcases Bool.eq_false_or_eq_true (isCode c) with hi | hi
  · exact h2 c (List.mem_filter.mpr ⟨hc, hi⟩)
  · simpa [hi] using h
set_option maxRecDepth 65536 in
theorem w_c0 : (Jvm.Cond.code x code maxLocals ret).before args0 about1 = true := code_word (m := ⟨1, 2⟩) (meth := k1m2) (c := k1c2) (by decide +kernel) rfl rfl rfl (by decide +kernel)
set_option maxRecDepth 65536 in
theorem w_c1 : (Jvm.Cond.code ({ cls := "com/example/esclusa/esclusa/provider/StreamEventCamePinLaw", name := "str", desc := "(IIII)Ljava/lang/String;" } : Jvm.MethodName) method_2_code (7 : Nat) (Option.some (Jvm.ClassFile.FieldType.object "java/lang/String"))).before args0 about1 = true := code_word (m := ⟨1, 1⟩) (meth := k1m1) (c := k1c1) (by decide +kernel) rfl rfl rfl (by decide +kernel)
set_option maxRecDepth 65536 in
theorem w_c2 : (Jvm.Cond.code ({ cls := "java/lang/String", name := "<init>", desc := "([C)V" } : Jvm.MethodName) jdk_42_method_3_code (2 : Nat) (Option.none : Option Jvm.ClassFile.FieldType)).before args0 about1 = true := code_word (m := ⟨7, 1⟩) (meth := k7m1) (c := k7c1) (by decide +kernel) rfl rfl rfl (by decide +kernel)
set_option maxRecDepth 65536 in
theorem w_c3 : (Jvm.Cond.code ({ cls := "java/lang/String", name := "<init>", desc := "([CIILjava/lang/Void;)V" } : Jvm.MethodName) jdk_42_method_149_code (6 : Nat) (Option.none : Option Jvm.ClassFile.FieldType)).before args0 about1 = true := code_word (m := ⟨7, 3⟩) (meth := k7m3) (c := k7c3) (by decide +kernel) rfl rfl rfl (by decide +kernel)
set_option maxRecDepth 65536 in
theorem w_c4 : (Jvm.Cond.code ({ cls := "java/lang/Object", name := "<init>", desc := "()V" } : Jvm.MethodName) object_method_1_code (1 : Nat) (Option.none : Option Jvm.ClassFile.FieldType)).before args0 about1 = true := code_word (m := ⟨0, 0⟩) (meth := k0m0) (c := k0c0) (by decide +kernel) rfl rfl rfl (by decide +kernel)
set_option maxRecDepth 65536 in
theorem w_c5 : (Jvm.Cond.code ({ cls := "com/example/esclusa/esclusa/provider/StreamEvent", name := "<init>", desc := "(Ljava/lang/String;Ljava/lang/String;)V" } : Jvm.MethodName) prog_25_method_1_code (3 : Nat) (Option.none : Option Jvm.ClassFile.FieldType)).before args0 about1 = true := code_word (m := ⟨9, 0⟩) (meth := k9m0) (c := k9c0) (by decide +kernel) rfl rfl rfl (by decide +kernel)
set_option maxRecDepth 65536 in
theorem w_c6 : (Jvm.Cond.code ({ cls := "java/lang/Record", name := "<init>", desc := "()V" } : Jvm.MethodName) jdk_30_method_1_code (1 : Nat) (Option.none : Option Jvm.ClassFile.FieldType)).before args0 about1 = true := code_word (m := ⟨8, 0⟩) (meth := k8m0) (c := k8c0) (by decide +kernel) rfl rfl rfl (by decide +kernel)
set_option maxRecDepth 65536 in
theorem w_c7 : (Jvm.Cond.code ({ cls := "com/example/esclusa/esclusa/provider/StreamEvent", name := "came", desc := "()Z" } : Jvm.MethodName) prog_25_method_2_code (1 : Nat) (Option.some Jvm.ClassFile.FieldType.boolean)).before args0 about1 = true := code_word (m := ⟨9, 1⟩) (meth := k9m1) (c := k9c1) (by decide +kernel) rfl rfl rfl (by decide +kernel)
set_option maxRecDepth 65536 in
theorem w_c8 : (Jvm.Cond.code ({ cls := "java/lang/String", name := "isEmpty", desc := "()Z" } : Jvm.MethodName) jdk_42_method_55_code (1 : Nat) (Option.some Jvm.ClassFile.FieldType.boolean)).before args0 about1 = true := code_word (m := ⟨7, 2⟩) (meth := k7m2) (c := k7c2) (by decide +kernel) rfl rfl rfl (by decide +kernel)
set_option maxRecDepth 65536 in
theorem w_c9 : (Jvm.Cond.code ({ cls := "java/lang/StringUTF16", name := "compress", desc := "([CII)[B" } : Jvm.MethodName) jdk_52_method_16_code (6 : Nat) (Option.some (Jvm.ClassFile.FieldType.array Jvm.ClassFile.FieldType.byte))).before args0 about1 = true := code_word (m := ⟨10, 2⟩) (meth := k10m2) (c := k10c2) (by decide +kernel) rfl rfl rfl (by decide +kernel)
set_option maxRecDepth 65536 in
theorem w_c10 : (Jvm.Cond.code ({ cls := "java/lang/StringUTF16", name := "compress", desc := "([CI[BII)I" } : Jvm.MethodName) jdk_52_method_21_code (7 : Nat) (Option.some Jvm.ClassFile.FieldType.int)).before args0 about1 = true := code_word (m := ⟨10, 3⟩) (meth := k10m3) (c := k10c3) (by decide +kernel) rfl rfl rfl (by decide +kernel)
set_option maxRecDepth 65536 in
theorem w_c11 : (Jvm.Cond.code ({ cls := "java/lang/StringUTF16", name := "coderFromArrayLen", desc := "([BI)B" } : Jvm.MethodName) jdk_52_method_15_code (2 : Nat) (Option.some Jvm.ClassFile.FieldType.byte)).before args0 about1 = true := code_word (m := ⟨10, 1⟩) (meth := k10m1) (c := k10c1) (by decide +kernel) rfl rfl rfl (by decide +kernel)
def codes1 : List Jvm.Cond := [Jvm.Cond.code x code maxLocals ret, Jvm.Cond.code ({ cls := "com/example/esclusa/esclusa/provider/StreamEventCamePinLaw", name := "str", desc := "(IIII)Ljava/lang/String;" } : Jvm.MethodName) method_2_code (7 : Nat) (Option.some (Jvm.ClassFile.FieldType.object "java/lang/String")), Jvm.Cond.code ({ cls := "java/lang/String", name := "<init>", desc := "([C)V" } : Jvm.MethodName) jdk_42_method_3_code (2 : Nat) (Option.none : Option Jvm.ClassFile.FieldType), Jvm.Cond.code ({ cls := "java/lang/String", name := "<init>", desc := "([CIILjava/lang/Void;)V" } : Jvm.MethodName) jdk_42_method_149_code (6 : Nat) (Option.none : Option Jvm.ClassFile.FieldType), Jvm.Cond.code ({ cls := "java/lang/Object", name := "<init>", desc := "()V" } : Jvm.MethodName) object_method_1_code (1 : Nat) (Option.none : Option Jvm.ClassFile.FieldType), Jvm.Cond.code ({ cls := "com/example/esclusa/esclusa/provider/StreamEvent", name := "<init>", desc := "(Ljava/lang/String;Ljava/lang/String;)V" } : Jvm.MethodName) prog_25_method_1_code (3 : Nat) (Option.none : Option Jvm.ClassFile.FieldType), Jvm.Cond.code ({ cls := "java/lang/Record", name := "<init>", desc := "()V" } : Jvm.MethodName) jdk_30_method_1_code (1 : Nat) (Option.none : Option Jvm.ClassFile.FieldType), Jvm.Cond.code ({ cls := "com/example/esclusa/esclusa/provider/StreamEvent", name := "came", desc := "()Z" } : Jvm.MethodName) prog_25_method_2_code (1 : Nat) (Option.some Jvm.ClassFile.FieldType.boolean), Jvm.Cond.code ({ cls := "java/lang/String", name := "isEmpty", desc := "()Z" } : Jvm.MethodName) jdk_42_method_55_code (1 : Nat) (Option.some Jvm.ClassFile.FieldType.boolean), Jvm.Cond.code ({ cls := "java/lang/StringUTF16", name := "compress", desc := "([CII)[B" } : Jvm.MethodName) jdk_52_method_16_code (6 : Nat) (Option.some (Jvm.ClassFile.FieldType.array Jvm.ClassFile.FieldType.byte)), Jvm.Cond.code ({ cls := "java/lang/StringUTF16", name := "compress", desc := "([CI[BII)I" } : Jvm.MethodName) jdk_52_method_21_code (7 : Nat) (Option.some Jvm.ClassFile.FieldType.int), Jvm.Cond.code ({ cls := "java/lang/StringUTF16", name := "coderFromArrayLen", desc := "([BI)B" } : Jvm.MethodName) jdk_52_method_15_code (2 : Nat) (Option.some Jvm.ClassFile.FieldType.byte)]
set_option maxRecDepth 65536 in
theorem codes_eq : words1.filter isCode = codes1 := rfl
theorem w_codes : ∀ c ∈ words1.filter isCode, c.before args0 about1 = true := by
  rw [codes_eq]
  intro c hc
  simp only [codes1, List.mem_cons, List.not_mem_nil, or_false] at hc
  rcases hc with rfl | rfl | rfl | rfl | rfl | rfl | rfl | rfl | rfl | rfl | rfl | rfl
  · exact w_c0
  · exact w_c1
  · exact w_c2
  · exact w_c3
  · exact w_c4
  · exact w_c5
  · exact w_c6
  · exact w_c7
  · exact w_c8
  · exact w_c9
  · exact w_c10
  · exact w_c11
set_option maxRecDepth 65536 in
theorem w_t1 : (words1.take 24).all (fun c => isCode c || c.before args0 about1) = true := by decide +kernel
set_option maxRecDepth 65536 in
theorem w_t2 : ((words1.drop 24).take 24).all (fun c => isCode c || c.before args0 about1) = true := by decide +kernel
set_option maxRecDepth 65536 in
theorem w_t3 : ((words1.drop 24).drop 24).all (fun c => isCode c || c.before args0 about1) = true := by decide +kernel
theorem w_tables : (allAtoms (Jvm.Cond.code x code maxLocals ret :: tables_1)).before args0 about1 = true := by
  rw [allAtoms_all]
  show words1.all (fun c => c.before args0 about1) = true
  refine all_split ?_ w_codes
  rw [← List.take_append_drop 24 words1, List.all_append, w_t1, ← List.take_append_drop 24 (words1.drop 24), List.all_append, w_t2, w_t3]
  rfl
set_option maxRecDepth 65536 in
theorem w_rest : rest_1_c.before args0 about1 = true := by decide +kernel
set_option maxRecDepth 65536 in
theorem w_case : (Jvm.Cond.and given_1 narrow_1).before args0 about1 = true := by decide +kernel
set_option maxRecDepth 65536 in
theorem w_consts : constsHeld consts_1 about1 := Jvm.Lit.constsHeldB_iff.mp (by decide +kernel)
theorem w_applies : (headSpec (Jvm.Cond.code x code maxLocals ret :: tables_1) room_1).applies x e0.platform about1 = true :=
  (Spec.applies_iff w_frames).mpr ⟨w_running, w_runnable, w_alone, w_named, w_hears, w_ripe, w_room, w_tables⟩
theorem atStart : AtStart classFile x code maxLocals ret World_1 tables_1 room_1 Calls_1 rest_1 Pre_1 launch0 p0 e0 about1 theMethod args0 below0 :=
  ⟨lists_1, trivial, launch0.admits_env _ _ _, launch0.least_env, fairChoices_fair.cas, fairChoices_fair.clock, w_frames, w_args, w_heap, w_applies, ⟨w_consts, trivial⟩, w_rest, w_case⟩
end start1
theorem witness_1 : WitnessClaimed_1 := ⟨start1.p0, start1.e0, start1.about1, start1.theMethod, start1.args0, start1.below0, start1.atStart⟩
end Jvm.Pilot.@@N@@
