import JvmDerived
import JvmDerived.Pilot.@@N@@Statement
import JvmDerived.Pilot.@@N@@Code
set_option linter.unusedVariables false
set_option linter.unusedSimpArgs false
namespace Jvm.Pilot.@@N@@
open Jvm Jvm.ClassFile Sem Op Lib Jvm.Free Jvm.Stand Jvm.LawKit Jvm.RoadKit Bundle Jvm.Pilot.@@N@@.Jvm.D
/-! own kit (printed by wip/gen/kit.py) -/
/-- from here the walk comes to an end that K takes -/
def Run (p : Program) (e : Env) (below : List Frame) (m : MethodId) (K : State → Prop) (T : State) (pc : Nat) (L : Array Slot) (st : List Value) : Prop :=
  ∃ u, Steps p.tables e below (T.setTop (mkF m pc L st)) u ∧ K u
/-- what goes through a whole body -/
def Cx (p : Program) (l : Launch) (e : Env) (R : Room) (s : State) (m : MethodId) (args : Array Value) (below : List Frame) (meth : Method) (c : Code) (Z : State) (bytes : ByteArray) (ml : Nat) (own : String) (ret : Option FieldType) (mname : String) (n0 : Nat) (T : State) (h : Heap) (cells slots : Nat) : Prop :=
  (∃ locs, Stand p l e R s m args below meth c T locs cells slots ∧ Fr n0 locs) ∧ T.heap = h ∧ p.tables.exec = Jvm.exec ∧ c.code = bytes ∧ c.maxLocals = ml ∧ Z.Warmed39 s.vm ∧ s.vm.findClass own = some m.cls ∧ meth.sig.returnType = ret ∧ meth.name = mname ∧ meth.locks = false ∧ n0 ≤ h.size
/-- the end of a body: what it returns and leaves is Q's -/
def Fin1 (below : List Frame) (s : State) (n0 : Nat) (Q : Option Value → Heap → Prop) (cN sN : Nat) (u : State) : Prop :=
  u.status = .running ∧ ∃ o, Ended u below o ∧ ∃ v L, o = .returned v ∧ (Q v u.heap ∧ Fr n0 L ∧ n0 ≤ u.heap.size) ∧ FrameEnd s o u L cN sN
/-- a body's contract -/
def Met1 (l : Launch) (Z : State) (n0 : Nat) (ws : List Jvm.Cond) (y : MethodName) (bytes : ByteArray) (ml : Nat) (ret : Option FieldType) (rm : Room) (as : Array Value) (h0 : Heap) (Q : Option Value → Heap → Prop) : Prop :=
  MetFree l y (head1 (Jvm.Cond.code y bytes ml ret :: ws) rm) (fun a U => a = as ∧ Z.Warmed39 U.vm ∧ U.heap = h0) (fun _ _ _ _ _ => True) (fun _ U o U' => ∃ v L, o = .returned v ∧ (Q v U'.heap ∧ Fr n0 L ∧ n0 ≤ U'.heap.size) ∧ FrameEnd U o U' L rm.cells rm.slots)
/-- an array: its kind, its length, what each place holds -/
def AF (Z : State) (h : Heap) (a : Addr) (ty : FieldType) (n : Nat) (f : Nat → Value) : Prop := ∃ c : Cell, Arr Z h a c ty ∧ c.slots.size = n ∧ n < 2 ^ 31 ∧ ∀ j, j < n → c.slots[j]? = some (f j)
def upd (f : Nat → Value) (i : Nat) (v : Value) : Nat → Value := fun j => if j = i then v else f j
section Own
variable {p : Program} {l : Launch} {e : Env} {R : Room} {s : State} {m : MethodId} {args : Array Value} {below : List Frame} {meth : Method} {c : Code} {Z : State} {bytes : ByteArray} {ml : Nat} {own mname : String} {ret : Option FieldType} {n0 : Nat} {T : State} {h : Heap} {cells slots : Nat} {K : State → Prop} {pc : Nat} {L : Array Slot} {st : List Value}
theorem Cx.sz (X : Cx p l e R s m args below meth c Z bytes ml own ret mname n0 T h cells slots) : n0 ≤ h.size := X.2.2.2.2.2.2.2.2.2.2
theorem Run.of {T' : State} {pc' : Nat} {L' : Array Slot} {st' : List Value} (h : ∀ t, Steps p.tables e below (T'.setTop (mkF m pc' L' st')) t → Steps p.tables e below (T.setTop (mkF m pc L st)) t) (r : Run p e below m K T' pc' L' st') : Run p e below m K T pc L st :=
  r.imp fun u q => ⟨h u q.1, q.2⟩
theorem upd_hit {f : Nat → Value} {i : Nat} {v : Value} : upd f i v i = v := if_pos rfl
theorem upd_miss {f : Nat → Value} {i j : Nat} {v : Value} (q : j ≠ i) : upd f i v j = f j := if_neg q
theorem idx_of {j : Int32} {i n : Nat} (hj : j.toInt = (i : Int)) (hi : i < n) : ¬ (j < 0 ∨ n ≤ j.toNatClampNeg) ∧ j.toNatClampNeg = i := by
  have q : j.toNatClampNeg = i := by show j.toInt.toNat = i; omega
  refine ⟨?_, q⟩
  rw [q, Int32.lt_iff_toInt_lt]
  have : (0 : Int32).toInt = 0 := rfl
  omega
theorem AF.lt {a : Addr} {ty : FieldType} {n : Nat} {f : Nat → Value} (A : AF Z h a ty n f) : a < h.size := by obtain ⟨c, A, -⟩ := A; exact A.lt
theorem AF.small {a : Addr} {ty : FieldType} {n : Nat} {f : Nat → Value} (A : AF Z h a ty n f) : n < 2 ^ 31 := by obtain ⟨c, -, -, q, -⟩ := A; exact q
theorem AF.ext {a : Addr} {ty : FieldType} {n : Nat} {f : Nat → Value} {h' : Heap} (A : AF Z h a ty n f) (E : Ext h h') : AF Z h' a ty n f := by obtain ⟨c, A, r⟩ := A; exact ⟨c, A.ext E, r⟩
theorem AF.other {a b : Addr} {ty : FieldType} {n sl : Nat} {v : Value} {f : Nat → Value} {h' : Heap} (A : AF Z h b ty n f) (W : Wr h h' a sl v) (q : b ≠ a) : AF Z h' b ty n f := by obtain ⟨c, A, r⟩ := A; exact ⟨c, A.other W q, r⟩
theorem AF.keep {a : Addr} {ty : FieldType} {n : Nat} {f : Nat → Value} {h' : Heap} {ws : List Addr} (A : AF Z h a ty n f) (K : Keep h h' ws) (q : a ∉ ws) : AF Z h' a ty n f := by obtain ⟨c, A, r⟩ := A; exact ⟨c, ⟨K.2.1 a c A.1 q, A.2⟩, r⟩
theorem AF.set {a : Addr} {ty : FieldType} {n i : Nat} {v : Value} {f : Nat → Value} {h' : Heap} (A : AF Z h a ty n f) (W : Wr h h' a i v) : AF Z h' a ty n (upd f i v) := by
  obtain ⟨c, A, S, q, H⟩ := A
  refine ⟨_, A.same W, by rw [sz_set]; exact S, q, fun j hj => ?_⟩
  show (c.slots.setIfInBounds i v)[j]? = _
  rw [Array.getElem?_setIfInBounds, S]
  by_cases e : i = j
  · subst e; simp [hj, upd]
  · have e' : j ≠ i := fun q => e q.symm
    simp [e, upd, e', H j hj]
theorem AF.congr {a : Addr} {ty : FieldType} {n : Nat} {f g : Nat → Value} (A : AF Z h a ty n f) (q : ∀ j, j < n → f j = g j) : AF Z h a ty n g := by
  obtain ⟨c, A, S, r, H⟩ := A; exact ⟨c, A, S, r, fun j hj => by rw [H j hj, q j hj]⟩
theorem AF.ne_obj {a b : Addr} {ty : FieldType} {n k : Nat} {f : Nat → Value} {C : String} {a0 : Array Value} (A : AF Z h b ty n f) (E : Exa Z h a C) (wi : (Jvm.Cond.instantiable C k).before a0 Z = true) : a ≠ b := by obtain ⟨c, A, -⟩ := A; exact ne_arr E wi A
theorem r_topI {x x' : Int32} (q : x = x') (r : Run p e below m K T pc L (.int x' :: st)) : Run p e below m K T pc L (.int x :: st) := q ▸ r
theorem r_topJ {x x' : Int64} (q : x = x') (r : Run p e below m K T pc L (.long x' :: st)) : Run p e below m K T pc L (.long x :: st) := q ▸ r
theorem r_top {x x' : Value} (q : x = x') (r : Run p e below m K T pc L (x' :: st)) : Run p e below m K T pc L (x :: st) := q ▸ r
theorem r_loc {L' : Array Slot} (q : L = L') (r : Run p e below m K T pc L' st) : Run p e below m K T pc L st := q ▸ r
theorem r_iload (pc' : Nat) (X : Cx p l e R s m args below meth c Z bytes ml own ret mname n0 T h cells slots) {k : Nat} {v : Int32} (hd : decode bytes pc = .ok (.iload k, 2)) (hl : L[k]? = some (.val (.int v))) (r : Run p e below m K T pc' L (.int v :: st)) (q : pc + 2 = pc' := by rfl) : Run p e below m K T pc L st := by
  obtain ⟨⟨locs, X, -⟩, -, hx, hby, -⟩ := X
  subst q hby
  exact Run.of (fun t k => XS.iload X.here hx rfl hd hl k) r
theorem r_iloadN (pc' : Nat) (X : Cx p l e R s m args below meth c Z bytes ml own ret mname n0 T h cells slots) {k : Fin 4} {v : Int32} (hd : decode bytes pc = .ok (.iload_n k, 1)) (hl : L[k.val]? = some (.val (.int v))) (r : Run p e below m K T pc' L (.int v :: st)) (q : pc + 1 = pc' := by rfl) : Run p e below m K T pc L st := by
  obtain ⟨⟨locs, X, -⟩, -, hx, hby, -⟩ := X
  subst q hby
  exact Run.of (fun t k => XS.iloadN X.here hx rfl hd hl k) r
theorem r_istore (pc' : Nat) (X : Cx p l e R s m args below meth c Z bytes ml own ret mname n0 T h cells slots) {k : Nat} {v : Int32} (L' : Array Slot) (hd : decode bytes pc = .ok (.istore k, 2)) (hl : storeLocals L k (.int v) = some L') (r : Run p e below m K T pc' L' st) (q : pc + 2 = pc' := by rfl) : Run p e below m K T pc L (.int v :: st) := by
  obtain ⟨⟨locs, X, -⟩, -, hx, hby, -⟩ := X
  subst q hby
  exact Run.of (fun t k => XS.istore X.here hx rfl hd rfl hl k) r
theorem r_istoreN (pc' : Nat) (X : Cx p l e R s m args below meth c Z bytes ml own ret mname n0 T h cells slots) {k : Fin 4} {v : Int32} (L' : Array Slot) (hd : decode bytes pc = .ok (.istore_n k, 1)) (hl : storeLocals L k.val (.int v) = some L') (r : Run p e below m K T pc' L' st) (q : pc + 1 = pc' := by rfl) : Run p e below m K T pc L (.int v :: st) := by
  obtain ⟨⟨locs, X, -⟩, -, hx, hby, -⟩ := X
  subst q hby
  exact Run.of (fun t k => XS.istoreN X.here hx rfl hd rfl hl k) r
theorem r_lload (pc' : Nat) (X : Cx p l e R s m args below meth c Z bytes ml own ret mname n0 T h cells slots) {k : Nat} {v : Int64} (hd : decode bytes pc = .ok (.lload k, 2)) (hl : L[k]? = some (.val (.long v))) (r : Run p e below m K T pc' L (.long v :: st)) (q : pc + 2 = pc' := by rfl) : Run p e below m K T pc L st := by
  obtain ⟨⟨locs, X, -⟩, -, hx, hby, -⟩ := X
  subst q hby
  exact Run.of (fun t k => XS.lload X.here hx rfl hd hl k) r
theorem r_lloadN (pc' : Nat) (X : Cx p l e R s m args below meth c Z bytes ml own ret mname n0 T h cells slots) {k : Fin 4} {v : Int64} (hd : decode bytes pc = .ok (.lload_n k, 1)) (hl : L[k.val]? = some (.val (.long v))) (r : Run p e below m K T pc' L (.long v :: st)) (q : pc + 1 = pc' := by rfl) : Run p e below m K T pc L st := by
  obtain ⟨⟨locs, X, -⟩, -, hx, hby, -⟩ := X
  subst q hby
  exact Run.of (fun t k => XS.lloadN X.here hx rfl hd hl k) r
theorem r_lstore (pc' : Nat) (X : Cx p l e R s m args below meth c Z bytes ml own ret mname n0 T h cells slots) {k : Nat} {v : Int64} (L' : Array Slot) (hd : decode bytes pc = .ok (.lstore k, 2)) (hl : storeLocals L k (.long v) = some L') (r : Run p e below m K T pc' L' st) (q : pc + 2 = pc' := by rfl) : Run p e below m K T pc L (.long v :: st) := by
  obtain ⟨⟨locs, X, -⟩, -, hx, hby, -⟩ := X
  subst q hby
  exact Run.of (fun t k => XS.lstore X.here hx rfl hd rfl hl k) r
theorem r_lstoreN (pc' : Nat) (X : Cx p l e R s m args below meth c Z bytes ml own ret mname n0 T h cells slots) {k : Fin 4} {v : Int64} (L' : Array Slot) (hd : decode bytes pc = .ok (.lstore_n k, 1)) (hl : storeLocals L k.val (.long v) = some L') (r : Run p e below m K T pc' L' st) (q : pc + 1 = pc' := by rfl) : Run p e below m K T pc L (.long v :: st) := by
  obtain ⟨⟨locs, X, -⟩, -, hx, hby, -⟩ := X
  subst q hby
  exact Run.of (fun t k => XS.lstoreN X.here hx rfl hd rfl hl k) r
theorem r_dload (pc' : Nat) (X : Cx p l e R s m args below meth c Z bytes ml own ret mname n0 T h cells slots) {k : Nat} {v : UInt64} (hd : decode bytes pc = .ok (.dload k, 2)) (hl : L[k]? = some (.val (.double v))) (r : Run p e below m K T pc' L (.double v :: st)) (q : pc + 2 = pc' := by rfl) : Run p e below m K T pc L st := by
  obtain ⟨⟨locs, X, -⟩, -, hx, hby, -⟩ := X
  subst q hby
  exact Run.of (fun t k => XS.dload X.here hx rfl hd hl k) r
theorem r_dloadN (pc' : Nat) (X : Cx p l e R s m args below meth c Z bytes ml own ret mname n0 T h cells slots) {k : Fin 4} {v : UInt64} (hd : decode bytes pc = .ok (.dload_n k, 1)) (hl : L[k.val]? = some (.val (.double v))) (r : Run p e below m K T pc' L (.double v :: st)) (q : pc + 1 = pc' := by rfl) : Run p e below m K T pc L st := by
  obtain ⟨⟨locs, X, -⟩, -, hx, hby, -⟩ := X
  subst q hby
  exact Run.of (fun t k => XS.dloadN X.here hx rfl hd hl k) r
theorem r_dstore (pc' : Nat) (X : Cx p l e R s m args below meth c Z bytes ml own ret mname n0 T h cells slots) {k : Nat} {v : UInt64} (L' : Array Slot) (hd : decode bytes pc = .ok (.dstore k, 2)) (hl : storeLocals L k (.double v) = some L') (r : Run p e below m K T pc' L' st) (q : pc + 2 = pc' := by rfl) : Run p e below m K T pc L (.double v :: st) := by
  obtain ⟨⟨locs, X, -⟩, -, hx, hby, -⟩ := X
  subst q hby
  exact Run.of (fun t k => XS.dstore X.here hx rfl hd rfl hl k) r
theorem r_dstoreN (pc' : Nat) (X : Cx p l e R s m args below meth c Z bytes ml own ret mname n0 T h cells slots) {k : Fin 4} {v : UInt64} (L' : Array Slot) (hd : decode bytes pc = .ok (.dstore_n k, 1)) (hl : storeLocals L k.val (.double v) = some L') (r : Run p e below m K T pc' L' st) (q : pc + 1 = pc' := by rfl) : Run p e below m K T pc L (.double v :: st) := by
  obtain ⟨⟨locs, X, -⟩, -, hx, hby, -⟩ := X
  subst q hby
  exact Run.of (fun t k => XS.dstoreN X.here hx rfl hd rfl hl k) r
theorem r_aload (pc' : Nat) (X : Cx p l e R s m args below meth c Z bytes ml own ret mname n0 T h cells slots) {k : Nat} {v : Value} (hd : decode bytes pc = .ok (.aload k, 2)) (hl : L[k]? = some (.val v)) (hv : v.isRef = true) (r : Run p e below m K T pc' L (v :: st)) (q : pc + 2 = pc' := by rfl) : Run p e below m K T pc L st := by
  obtain ⟨⟨locs, X, -⟩, -, hx, hby, -⟩ := X
  subst q hby
  exact Run.of (fun t k => XS.aload X.here hx rfl hd hl hv k) r
theorem r_aloadN (pc' : Nat) (X : Cx p l e R s m args below meth c Z bytes ml own ret mname n0 T h cells slots) {k : Fin 4} {v : Value} (hd : decode bytes pc = .ok (.aload_n k, 1)) (hl : L[k.val]? = some (.val v)) (hv : v.isRef = true) (r : Run p e below m K T pc' L (v :: st)) (q : pc + 1 = pc' := by rfl) : Run p e below m K T pc L st := by
  obtain ⟨⟨locs, X, -⟩, -, hx, hby, -⟩ := X
  subst q hby
  exact Run.of (fun t k => XS.aloadN X.here hx rfl hd hl hv k) r
theorem r_astore (pc' : Nat) (X : Cx p l e R s m args below meth c Z bytes ml own ret mname n0 T h cells slots) {k : Nat} {v : Value} (L' : Array Slot) (hd : decode bytes pc = .ok (.astore k, 2)) (hv : v.isRef = true) (hl : storeLocals L k v = some L') (r : Run p e below m K T pc' L' st) (q : pc + 2 = pc' := by rfl) : Run p e below m K T pc L (v :: st) := by
  obtain ⟨⟨locs, X, -⟩, -, hx, hby, -⟩ := X
  subst q hby
  exact Run.of (fun t k => XS.astore X.here hx rfl hd rfl hv hl k) r
theorem r_astoreN (pc' : Nat) (X : Cx p l e R s m args below meth c Z bytes ml own ret mname n0 T h cells slots) {k : Fin 4} {v : Value} (L' : Array Slot) (hd : decode bytes pc = .ok (.astore_n k, 1)) (hv : v.isRef = true) (hl : storeLocals L k.val v = some L') (r : Run p e below m K T pc' L' st) (q : pc + 1 = pc' := by rfl) : Run p e below m K T pc L (v :: st) := by
  obtain ⟨⟨locs, X, -⟩, -, hx, hby, -⟩ := X
  subst q hby
  exact Run.of (fun t k => XS.astoreN X.here hx rfl hd rfl hv hl k) r
theorem r_iconst (pc' : Nat) (X : Cx p l e R s m args below meth c Z bytes ml own ret mname n0 T h cells slots) {i : Int} (z : Int32) (hd : decode bytes pc = .ok (.iconst i, 1)) (hz : Int32.ofInt i = z) (r : Run p e below m K T pc' L (.int z :: st)) (q : pc + 1 = pc' := by rfl) : Run p e below m K T pc L st := by
  obtain ⟨⟨locs, X, -⟩, -, hx, hby, -⟩ := X
  subst q hby hz
  exact Run.of (fun t k => XS.iconst X.here hx rfl hd  k) r
theorem r_bipush (pc' : Nat) (X : Cx p l e R s m args below meth c Z bytes ml own ret mname n0 T h cells slots) {i : Int} (z : Int32) (hd : decode bytes pc = .ok (.bipush i, 2)) (hz : (Int8.ofInt i).toInt32 = z) (r : Run p e below m K T pc' L (.int z :: st)) (q : pc + 2 = pc' := by rfl) : Run p e below m K T pc L st := by
  obtain ⟨⟨locs, X, -⟩, -, hx, hby, -⟩ := X
  subst q hby hz
  exact Run.of (fun t k => XS.bipush X.here hx rfl hd  k) r
theorem r_sipush (pc' : Nat) (X : Cx p l e R s m args below meth c Z bytes ml own ret mname n0 T h cells slots) {i : Int} (z : Int32) (hd : decode bytes pc = .ok (.sipush i, 3)) (hz : (Int16.ofInt i).toInt32 = z) (r : Run p e below m K T pc' L (.int z :: st)) (q : pc + 3 = pc' := by rfl) : Run p e below m K T pc L st := by
  obtain ⟨⟨locs, X, -⟩, -, hx, hby, -⟩ := X
  subst q hby hz
  exact Run.of (fun t k => XS.sipush X.here hx rfl hd  k) r
theorem r_lconst (pc' : Nat) (X : Cx p l e R s m args below meth c Z bytes ml own ret mname n0 T h cells slots) {i : Fin 2} (z : Int64) (hd : decode bytes pc = .ok (.lconst i, 1)) (hz : Int64.ofNat i = z) (r : Run p e below m K T pc' L (.long z :: st)) (q : pc + 1 = pc' := by rfl) : Run p e below m K T pc L st := by
  obtain ⟨⟨locs, X, -⟩, -, hx, hby, -⟩ := X
  subst q hby hz
  exact Run.of (fun t k => XS.lconst X.here hx rfl hd  k) r
theorem r_aconst_null (pc' : Nat) (X : Cx p l e R s m args below meth c Z bytes ml own ret mname n0 T h cells slots)  (hd : decode bytes pc = .ok (.aconst_null, 1))  (r : Run p e below m K T pc' L (.null :: st)) (q : pc + 1 = pc' := by rfl) : Run p e below m K T pc L st := by
  obtain ⟨⟨locs, X, -⟩, -, hx, hby, -⟩ := X
  subst q hby
  exact Run.of (fun t k => XS.aconstNull X.here hx rfl hd  k) r
theorem r_dconst0 (pc' : Nat) (X : Cx p l e R s m args below meth c Z bytes ml own ret mname n0 T h cells slots)  (hd : decode bytes pc = .ok (.dconst 0, 1))  (r : Run p e below m K T pc' L (.double FP.dconst0 :: st)) (q : pc + 1 = pc' := by rfl) : Run p e below m K T pc L st := by
  obtain ⟨⟨locs, X, -⟩, -, hx, hby, -⟩ := X
  subst q hby
  exact Run.of (fun t k => XS.dconst0 X.here hx rfl hd rfl k) r
theorem r_dconst1 (pc' : Nat) (X : Cx p l e R s m args below meth c Z bytes ml own ret mname n0 T h cells slots)  (hd : decode bytes pc = .ok (.dconst 1, 1))  (r : Run p e below m K T pc' L (.double FP.dconst1 :: st)) (q : pc + 1 = pc' := by rfl) : Run p e below m K T pc L st := by
  obtain ⟨⟨locs, X, -⟩, -, hx, hby, -⟩ := X
  subst q hby
  exact Run.of (fun t k => XS.dconst1 X.here hx rfl hd rfl k) r
theorem r_iadd (pc' : Nat) (X : Cx p l e R s m args below meth c Z bytes ml own ret mname n0 T h cells slots) {x y : Int32} (hd : decode bytes pc = .ok (.iadd, 1))  (r : Run p e below m K T pc' L (.int (x + y) :: st)) (q : pc + 1 = pc' := by rfl) : Run p e below m K T pc L (.int y :: .int x :: st) := by
  obtain ⟨⟨locs, X, -⟩, -, hx, hby, -⟩ := X
  subst q hby
  exact Run.of (fun t k => XS.iadd X.here hx rfl hd rfl k) r
theorem r_isub (pc' : Nat) (X : Cx p l e R s m args below meth c Z bytes ml own ret mname n0 T h cells slots) {x y : Int32} (hd : decode bytes pc = .ok (.isub, 1))  (r : Run p e below m K T pc' L (.int (x - y) :: st)) (q : pc + 1 = pc' := by rfl) : Run p e below m K T pc L (.int y :: .int x :: st) := by
  obtain ⟨⟨locs, X, -⟩, -, hx, hby, -⟩ := X
  subst q hby
  exact Run.of (fun t k => XS.isub X.here hx rfl hd rfl k) r
theorem r_imul (pc' : Nat) (X : Cx p l e R s m args below meth c Z bytes ml own ret mname n0 T h cells slots) {x y : Int32} (hd : decode bytes pc = .ok (.imul, 1))  (r : Run p e below m K T pc' L (.int (x * y) :: st)) (q : pc + 1 = pc' := by rfl) : Run p e below m K T pc L (.int y :: .int x :: st) := by
  obtain ⟨⟨locs, X, -⟩, -, hx, hby, -⟩ := X
  subst q hby
  exact Run.of (fun t k => XS.imul X.here hx rfl hd rfl k) r
theorem r_iand (pc' : Nat) (X : Cx p l e R s m args below meth c Z bytes ml own ret mname n0 T h cells slots) {x y : Int32} (hd : decode bytes pc = .ok (.iand, 1))  (r : Run p e below m K T pc' L (.int (x &&& y) :: st)) (q : pc + 1 = pc' := by rfl) : Run p e below m K T pc L (.int y :: .int x :: st) := by
  obtain ⟨⟨locs, X, -⟩, -, hx, hby, -⟩ := X
  subst q hby
  exact Run.of (fun t k => XS.iand X.here hx rfl hd rfl k) r
theorem r_ior (pc' : Nat) (X : Cx p l e R s m args below meth c Z bytes ml own ret mname n0 T h cells slots) {x y : Int32} (hd : decode bytes pc = .ok (.ior, 1))  (r : Run p e below m K T pc' L (.int (x ||| y) :: st)) (q : pc + 1 = pc' := by rfl) : Run p e below m K T pc L (.int y :: .int x :: st) := by
  obtain ⟨⟨locs, X, -⟩, -, hx, hby, -⟩ := X
  subst q hby
  exact Run.of (fun t k => XS.ior X.here hx rfl hd rfl k) r
theorem r_ixor (pc' : Nat) (X : Cx p l e R s m args below meth c Z bytes ml own ret mname n0 T h cells slots) {x y : Int32} (hd : decode bytes pc = .ok (.ixor, 1))  (r : Run p e below m K T pc' L (.int (x ^^^ y) :: st)) (q : pc + 1 = pc' := by rfl) : Run p e below m K T pc L (.int y :: .int x :: st) := by
  obtain ⟨⟨locs, X, -⟩, -, hx, hby, -⟩ := X
  subst q hby
  exact Run.of (fun t k => XS.ixor X.here hx rfl hd rfl k) r
theorem r_ishl (pc' : Nat) (X : Cx p l e R s m args below meth c Z bytes ml own ret mname n0 T h cells slots) {x y : Int32} (hd : decode bytes pc = .ok (.ishl, 1))  (r : Run p e below m K T pc' L (.int (x <<< (y &&& 31)) :: st)) (q : pc + 1 = pc' := by rfl) : Run p e below m K T pc L (.int y :: .int x :: st) := by
  obtain ⟨⟨locs, X, -⟩, -, hx, hby, -⟩ := X
  subst q hby
  exact Run.of (fun t k => XS.ishl X.here hx rfl hd rfl k) r
theorem r_ishr (pc' : Nat) (X : Cx p l e R s m args below meth c Z bytes ml own ret mname n0 T h cells slots) {x y : Int32} (hd : decode bytes pc = .ok (.ishr, 1))  (r : Run p e below m K T pc' L (.int (x >>> (y &&& 31)) :: st)) (q : pc + 1 = pc' := by rfl) : Run p e below m K T pc L (.int y :: .int x :: st) := by
  obtain ⟨⟨locs, X, -⟩, -, hx, hby, -⟩ := X
  subst q hby
  exact Run.of (fun t k => XS.ishr X.here hx rfl hd rfl k) r
theorem r_iushr (pc' : Nat) (X : Cx p l e R s m args below meth c Z bytes ml own ret mname n0 T h cells slots) {x y : Int32} (hd : decode bytes pc = .ok (.iushr, 1))  (r : Run p e below m K T pc' L (.int ((x.toUInt32 >>> (y &&& 31).toUInt32).toInt32) :: st)) (q : pc + 1 = pc' := by rfl) : Run p e below m K T pc L (.int y :: .int x :: st) := by
  obtain ⟨⟨locs, X, -⟩, -, hx, hby, -⟩ := X
  subst q hby
  exact Run.of (fun t k => XS.iushr X.here hx rfl hd rfl k) r
theorem r_ladd (pc' : Nat) (X : Cx p l e R s m args below meth c Z bytes ml own ret mname n0 T h cells slots) {x y : Int64} (hd : decode bytes pc = .ok (.ladd, 1))  (r : Run p e below m K T pc' L (.long (x + y) :: st)) (q : pc + 1 = pc' := by rfl) : Run p e below m K T pc L (.long y :: .long x :: st) := by
  obtain ⟨⟨locs, X, -⟩, -, hx, hby, -⟩ := X
  subst q hby
  exact Run.of (fun t k => XS.ladd X.here hx rfl hd rfl k) r
theorem r_lsub (pc' : Nat) (X : Cx p l e R s m args below meth c Z bytes ml own ret mname n0 T h cells slots) {x y : Int64} (hd : decode bytes pc = .ok (.lsub, 1))  (r : Run p e below m K T pc' L (.long (x - y) :: st)) (q : pc + 1 = pc' := by rfl) : Run p e below m K T pc L (.long y :: .long x :: st) := by
  obtain ⟨⟨locs, X, -⟩, -, hx, hby, -⟩ := X
  subst q hby
  exact Run.of (fun t k => XS.lsub X.here hx rfl hd rfl k) r
theorem r_lmul (pc' : Nat) (X : Cx p l e R s m args below meth c Z bytes ml own ret mname n0 T h cells slots) {x y : Int64} (hd : decode bytes pc = .ok (.lmul, 1))  (r : Run p e below m K T pc' L (.long (x * y) :: st)) (q : pc + 1 = pc' := by rfl) : Run p e below m K T pc L (.long y :: .long x :: st) := by
  obtain ⟨⟨locs, X, -⟩, -, hx, hby, -⟩ := X
  subst q hby
  exact Run.of (fun t k => XS.lmul X.here hx rfl hd rfl k) r
theorem r_land (pc' : Nat) (X : Cx p l e R s m args below meth c Z bytes ml own ret mname n0 T h cells slots) {x y : Int64} (hd : decode bytes pc = .ok (.land, 1))  (r : Run p e below m K T pc' L (.long (x &&& y) :: st)) (q : pc + 1 = pc' := by rfl) : Run p e below m K T pc L (.long y :: .long x :: st) := by
  obtain ⟨⟨locs, X, -⟩, -, hx, hby, -⟩ := X
  subst q hby
  exact Run.of (fun t k => XS.land X.here hx rfl hd rfl k) r
theorem r_lor (pc' : Nat) (X : Cx p l e R s m args below meth c Z bytes ml own ret mname n0 T h cells slots) {x y : Int64} (hd : decode bytes pc = .ok (.lor, 1))  (r : Run p e below m K T pc' L (.long (x ||| y) :: st)) (q : pc + 1 = pc' := by rfl) : Run p e below m K T pc L (.long y :: .long x :: st) := by
  obtain ⟨⟨locs, X, -⟩, -, hx, hby, -⟩ := X
  subst q hby
  exact Run.of (fun t k => XS.lor X.here hx rfl hd rfl k) r
theorem r_lxor (pc' : Nat) (X : Cx p l e R s m args below meth c Z bytes ml own ret mname n0 T h cells slots) {x y : Int64} (hd : decode bytes pc = .ok (.lxor, 1))  (r : Run p e below m K T pc' L (.long (x ^^^ y) :: st)) (q : pc + 1 = pc' := by rfl) : Run p e below m K T pc L (.long y :: .long x :: st) := by
  obtain ⟨⟨locs, X, -⟩, -, hx, hby, -⟩ := X
  subst q hby
  exact Run.of (fun t k => XS.lxor X.here hx rfl hd rfl k) r
theorem r_lshl (pc' : Nat) (X : Cx p l e R s m args below meth c Z bytes ml own ret mname n0 T h cells slots) {x : Int64} {y : Int32} (hd : decode bytes pc = .ok (.lshl, 1))  (r : Run p e below m K T pc' L (.long (x <<< (y &&& 0x3f).toInt64) :: st)) (q : pc + 1 = pc' := by rfl) : Run p e below m K T pc L (.int y :: .long x :: st) := by
  obtain ⟨⟨locs, X, -⟩, -, hx, hby, -⟩ := X
  subst q hby
  exact Run.of (fun t k => XS.lshl X.here hx rfl hd rfl k) r
theorem r_lshr (pc' : Nat) (X : Cx p l e R s m args below meth c Z bytes ml own ret mname n0 T h cells slots) {x : Int64} {y : Int32} (hd : decode bytes pc = .ok (.lshr, 1))  (r : Run p e below m K T pc' L (.long (x >>> (y &&& 0x3f).toInt64) :: st)) (q : pc + 1 = pc' := by rfl) : Run p e below m K T pc L (.int y :: .long x :: st) := by
  obtain ⟨⟨locs, X, -⟩, -, hx, hby, -⟩ := X
  subst q hby
  exact Run.of (fun t k => XS.lshr X.here hx rfl hd rfl k) r
theorem r_lushr (pc' : Nat) (X : Cx p l e R s m args below meth c Z bytes ml own ret mname n0 T h cells slots) {x : Int64} {y : Int32} (hd : decode bytes pc = .ok (.lushr, 1))  (r : Run p e below m K T pc' L (.long ((x.toUInt64 >>> (y &&& 0x3f).toInt64.toUInt64).toInt64) :: st)) (q : pc + 1 = pc' := by rfl) : Run p e below m K T pc L (.int y :: .long x :: st) := by
  obtain ⟨⟨locs, X, -⟩, -, hx, hby, -⟩ := X
  subst q hby
  exact Run.of (fun t k => XS.lushr X.here hx rfl hd rfl k) r
theorem r_lcmp (pc' : Nat) (X : Cx p l e R s m args below meth c Z bytes ml own ret mname n0 T h cells slots) {x y : Int64} (hd : decode bytes pc = .ok (.lcmp, 1))  (r : Run p e below m K T pc' L (.int (lcmpW x y) :: st)) (q : pc + 1 = pc' := by rfl) : Run p e below m K T pc L (.long y :: .long x :: st) := by
  obtain ⟨⟨locs, X, -⟩, -, hx, hby, -⟩ := X
  subst q hby
  exact Run.of (fun t k => XS.lcmp X.here hx rfl hd rfl k) r
theorem r_idiv (pc' : Nat) (X : Cx p l e R s m args below meth c Z bytes ml own ret mname n0 T h cells slots) {x y : Int32} (hd : decode bytes pc = .ok (.idiv, 1)) (hy : y ≠ 0) (r : Run p e below m K T pc' L (.int (x / y) :: st)) (q : pc + 1 = pc' := by rfl) : Run p e below m K T pc L (.int y :: .int x :: st) := by
  obtain ⟨⟨locs, X, -⟩, -, hx, hby, -⟩ := X
  subst q hby
  exact Run.of (fun t k => XS.idiv X.here hx rfl hd rfl hy k) r
theorem r_ldiv (pc' : Nat) (X : Cx p l e R s m args below meth c Z bytes ml own ret mname n0 T h cells slots) {x y : Int64} (hd : decode bytes pc = .ok (.ldiv, 1)) (hy : y ≠ 0) (r : Run p e below m K T pc' L (.long (x / y) :: st)) (q : pc + 1 = pc' := by rfl) : Run p e below m K T pc L (.long y :: .long x :: st) := by
  obtain ⟨⟨locs, X, -⟩, -, hx, hby, -⟩ := X
  subst q hby
  exact Run.of (fun t k => XS.ldiv X.here hx rfl hd rfl hy k) r
theorem r_irem (pc' : Nat) (X : Cx p l e R s m args below meth c Z bytes ml own ret mname n0 T h cells slots) {x y : Int32} (hd : decode bytes pc = .ok (.irem, 1)) (hy : y ≠ 0) (r : Run p e below m K T pc' L (.int (x % y) :: st)) (q : pc + 1 = pc' := by rfl) : Run p e below m K T pc L (.int y :: .int x :: st) := by
  obtain ⟨⟨locs, X, -⟩, -, hx, hby, -⟩ := X
  subst q hby
  exact Run.of (fun t k => iremM (g := mkF m pc L (.int y :: .int x :: st)) X hx rfl hd rfl hy k) r
theorem r_lrem (pc' : Nat) (X : Cx p l e R s m args below meth c Z bytes ml own ret mname n0 T h cells slots) {x y : Int64} (hd : decode bytes pc = .ok (.lrem, 1)) (hy : y ≠ 0) (r : Run p e below m K T pc' L (.long (x % y) :: st)) (q : pc + 1 = pc' := by rfl) : Run p e below m K T pc L (.long y :: .long x :: st) := by
  obtain ⟨⟨locs, X, -⟩, -, hx, hby, -⟩ := X
  subst q hby
  rw [← lrem_mod x y] at r
  exact Run.of (fun t k => XS.lrem X.here hx rfl hd rfl hy k) r
theorem r_ineg (pc' : Nat) (X : Cx p l e R s m args below meth c Z bytes ml own ret mname n0 T h cells slots) {x : Int32} (hd : decode bytes pc = .ok (.ineg, 1))  (r : Run p e below m K T pc' L (.int (-x) :: st)) (q : pc + 1 = pc' := by rfl) : Run p e below m K T pc L (.int x :: st) := by
  obtain ⟨⟨locs, X, -⟩, -, hx, hby, -⟩ := X
  subst q hby
  exact Run.of (fun t k => XS.ineg X.here hx rfl hd rfl k) r
theorem r_lneg (pc' : Nat) (X : Cx p l e R s m args below meth c Z bytes ml own ret mname n0 T h cells slots) {x : Int64} (hd : decode bytes pc = .ok (.lneg, 1))  (r : Run p e below m K T pc' L (.long (-x) :: st)) (q : pc + 1 = pc' := by rfl) : Run p e below m K T pc L (.long x :: st) := by
  obtain ⟨⟨locs, X, -⟩, -, hx, hby, -⟩ := X
  subst q hby
  exact Run.of (fun t k => XS.lneg X.here hx rfl hd rfl k) r
theorem r_i2l (pc' : Nat) (X : Cx p l e R s m args below meth c Z bytes ml own ret mname n0 T h cells slots) {x : Int32} (hd : decode bytes pc = .ok (.i2l, 1))  (r : Run p e below m K T pc' L (.long (x.toInt64) :: st)) (q : pc + 1 = pc' := by rfl) : Run p e below m K T pc L (.int x :: st) := by
  obtain ⟨⟨locs, X, -⟩, -, hx, hby, -⟩ := X
  subst q hby
  exact Run.of (fun t k => XS.i2l X.here hx rfl hd rfl k) r
theorem r_l2i (pc' : Nat) (X : Cx p l e R s m args below meth c Z bytes ml own ret mname n0 T h cells slots) {x : Int64} (hd : decode bytes pc = .ok (.l2i, 1))  (r : Run p e below m K T pc' L (.int (x.toInt32) :: st)) (q : pc + 1 = pc' := by rfl) : Run p e below m K T pc L (.long x :: st) := by
  obtain ⟨⟨locs, X, -⟩, -, hx, hby, -⟩ := X
  subst q hby
  exact Run.of (fun t k => XS.l2i X.here hx rfl hd rfl k) r
theorem r_i2b (pc' : Nat) (X : Cx p l e R s m args below meth c Z bytes ml own ret mname n0 T h cells slots) {x : Int32} (hd : decode bytes pc = .ok (.i2b, 1))  (r : Run p e below m K T pc' L (.int (x.toInt8.toInt32) :: st)) (q : pc + 1 = pc' := by rfl) : Run p e below m K T pc L (.int x :: st) := by
  obtain ⟨⟨locs, X, -⟩, -, hx, hby, -⟩ := X
  subst q hby
  exact Run.of (fun t k => XS.i2b X.here hx rfl hd rfl k) r
theorem r_i2s (pc' : Nat) (X : Cx p l e R s m args below meth c Z bytes ml own ret mname n0 T h cells slots) {x : Int32} (hd : decode bytes pc = .ok (.i2s, 1))  (r : Run p e below m K T pc' L (.int (x.toInt16.toInt32) :: st)) (q : pc + 1 = pc' := by rfl) : Run p e below m K T pc L (.int x :: st) := by
  obtain ⟨⟨locs, X, -⟩, -, hx, hby, -⟩ := X
  subst q hby
  exact Run.of (fun t k => XS.i2s X.here hx rfl hd rfl k) r
theorem r_i2c (pc' : Nat) (X : Cx p l e R s m args below meth c Z bytes ml own ret mname n0 T h cells slots) {x : Int32} (hd : decode bytes pc = .ok (.i2c, 1))  (r : Run p e below m K T pc' L (.int (x.toUInt32.toUInt16.toUInt32.toInt32) :: st)) (q : pc + 1 = pc' := by rfl) : Run p e below m K T pc L (.int x :: st) := by
  obtain ⟨⟨locs, X, -⟩, -, hx, hby, -⟩ := X
  subst q hby
  exact Run.of (fun t k => XS.i2c X.here hx rfl hd rfl k) r
theorem r_iinc (pc' : Nat) (X : Cx p l e R s m args below meth c Z bytes ml own ret mname n0 T h cells slots) {k : Nat} {cst : Int} {x : Int32} (z : Int32) (L' : Array Slot) (hd : decode bytes pc = .ok (.iinc k cst, 3)) (hl : L[k]? = some (.val (.int x))) (hz : Int32.ofInt cst = z) (hl' : storeLocals L k (.int (x + z)) = some L') (r : Run p e below m K T pc' L' st) (q : pc + 3 = pc' := by rfl) : Run p e below m K T pc L st := by
  obtain ⟨⟨locs, X, -⟩, -, hx, hby, -⟩ := X
  subst q hby
  exact Run.of (fun t k => XS.iinc X.here hx rfl hd hl (hz.symm ▸ hl') k) r
theorem r_dup (pc' : Nat) (X : Cx p l e R s m args below meth c Z bytes ml own ret mname n0 T h cells slots) {x : Value} (hd : decode bytes pc = .ok (.dup, 1)) (hc : x.category = 1) (r : Run p e below m K T pc' L (x :: x :: st)) (q : pc + 1 = pc' := by rfl) : Run p e below m K T pc L (x :: st) := by
  obtain ⟨⟨locs, X, -⟩, -, hx, hby, -⟩ := X
  subst q hby
  exact Run.of (fun t k => XS.dup X.here hx rfl hd rfl hc k) r
theorem r_pop (pc' : Nat) (X : Cx p l e R s m args below meth c Z bytes ml own ret mname n0 T h cells slots) {x : Value} (hd : decode bytes pc = .ok (.pop, 1)) (hc : x.category = 1) (r : Run p e below m K T pc' L st) (q : pc + 1 = pc' := by rfl) : Run p e below m K T pc L (x :: st) := by
  obtain ⟨⟨locs, X, -⟩, -, hx, hby, -⟩ := X
  subst q hby
  exact Run.of (fun t k => XS.pop X.here hx rfl hd rfl hc k) r
theorem r_swap (pc' : Nat) (X : Cx p l e R s m args below meth c Z bytes ml own ret mname n0 T h cells slots) {x y : Value} (hd : decode bytes pc = .ok (.swap, 1)) (hc : x.category = 1) (hc2 : y.category = 1) (r : Run p e below m K T pc' L (y :: x :: st)) (q : pc + 1 = pc' := by rfl) : Run p e below m K T pc L (x :: y :: st) := by
  obtain ⟨⟨locs, X, -⟩, -, hx, hby, -⟩ := X
  subst q hby
  exact Run.of (fun t k => XS.swap X.here hx rfl hd rfl hc hc2 k) r
theorem r_dup_x1 (pc' : Nat) (X : Cx p l e R s m args below meth c Z bytes ml own ret mname n0 T h cells slots) {x y : Value} (hd : decode bytes pc = .ok (.dup_x1, 1)) (hc : x.category = 1) (hc2 : y.category = 1) (r : Run p e below m K T pc' L (x :: y :: x :: st)) (q : pc + 1 = pc' := by rfl) : Run p e below m K T pc L (x :: y :: st) := by
  obtain ⟨⟨locs, X, -⟩, -, hx, hby, -⟩ := X
  subst q hby
  exact Run.of (fun t k => XS.dupX1 X.here hx rfl hd rfl hc hc2 k) r
theorem r_dup2_2 (pc' : Nat) (X : Cx p l e R s m args below meth c Z bytes ml own ret mname n0 T h cells slots) {x y : Value} (hd : decode bytes pc = .ok (.dup2, 1)) (hc : x.category = 1) (hc2 : y.category = 1) (r : Run p e below m K T pc' L (x :: y :: x :: y :: st)) (q : pc + 1 = pc' := by rfl) : Run p e below m K T pc L (x :: y :: st) := by
  obtain ⟨⟨locs, X, -⟩, -, hx, hby, -⟩ := X
  subst q hby
  refine Run.of (fun t k => ?_) r
  jvm_step X.here [X.here.top, hx, hd, hc, hc2]
  exact k
theorem r_dup2_1 (pc' : Nat) (X : Cx p l e R s m args below meth c Z bytes ml own ret mname n0 T h cells slots) {x : Value} (hd : decode bytes pc = .ok (.dup2, 1)) (hc : x.category = 2) (r : Run p e below m K T pc' L (x :: x :: st)) (q : pc + 1 = pc' := by rfl) : Run p e below m K T pc L (x :: st) := by
  obtain ⟨⟨locs, X, -⟩, -, hx, hby, -⟩ := X
  subst q hby
  refine Run.of (fun t k => ?_) r
  jvm_step X.here [X.here.top, hx, hd, hc]
  exact k
theorem r_dup_x2_111 (pc' : Nat) (X : Cx p l e R s m args below meth c Z bytes ml own ret mname n0 T h cells slots) {x y z : Value} (hd : decode bytes pc = .ok (.dup_x2, 1)) (hc : x.category = 1) (hc2 : y.category = 1) (hc3 : z.category = 1) (r : Run p e below m K T pc' L (x :: y :: z :: x :: st)) (q : pc + 1 = pc' := by rfl) : Run p e below m K T pc L (x :: y :: z :: st) := by
  obtain ⟨⟨locs, X, -⟩, -, hx, hby, -⟩ := X
  subst q hby
  refine Run.of (fun t k => ?_) r
  jvm_step X.here [X.here.top, hx, hd, hc, hc2, hc3]
  exact k
theorem r_dup2_x1_2 (pc' : Nat) (X : Cx p l e R s m args below meth c Z bytes ml own ret mname n0 T h cells slots) {x y : Value} (hd : decode bytes pc = .ok (.dup2_x1, 1)) (hc : x.category = 2) (hc2 : y.category = 1) (r : Run p e below m K T pc' L (x :: y :: x :: st)) (q : pc + 1 = pc' := by rfl) : Run p e below m K T pc L (x :: y :: st) := by
  obtain ⟨⟨locs, X, -⟩, -, hx, hby, -⟩ := X
  subst q hby
  refine Run.of (fun t k => ?_) r
  jvm_step X.here [X.here.top, hx, hd, hc, hc2]
  exact k
theorem r_dup2_x2_2 (pc' : Nat) (X : Cx p l e R s m args below meth c Z bytes ml own ret mname n0 T h cells slots) {x y z : Value} (hd : decode bytes pc = .ok (.dup2_x2, 1)) (hc : x.category = 2) (hc2 : y.category = 1) (hc3 : z.category = 1) (r : Run p e below m K T pc' L (x :: y :: z :: x :: st)) (q : pc + 1 = pc' := by rfl) : Run p e below m K T pc L (x :: y :: z :: st) := by
  obtain ⟨⟨locs, X, -⟩, -, hx, hby, -⟩ := X
  subst q hby
  refine Run.of (fun t k => ?_) r
  jvm_step X.here [X.here.top, hx, hd, hc, hc2, hc3]
  exact k
theorem r_pop2_1 (pc' : Nat) (X : Cx p l e R s m args below meth c Z bytes ml own ret mname n0 T h cells slots) {x : Value} (hd : decode bytes pc = .ok (.pop2, 1)) (hc : x.category = 2) (r : Run p e below m K T pc' L st) (q : pc + 1 = pc' := by rfl) : Run p e below m K T pc L (x :: st) := by
  obtain ⟨⟨locs, X, -⟩, -, hx, hby, -⟩ := X
  subst q hby
  refine Run.of (fun t k => ?_) r
  jvm_step X.here [X.here.top, hx, hd, hc]
  exact k
theorem r_goto (pc' : Nat) (X : Cx p l e R s m args below meth c Z bytes ml own ret mname n0 T h cells slots) {o : Int} (hd : decode bytes pc = .ok (.goto o, 3)) (r : Run p e below m K T pc' L st) (ho : 0 ≤ (pc : Int) + o := by decide) (hp : ((pc : Int) + o).toNat = pc' := by decide) : Run p e below m K T pc L st := by
  obtain ⟨⟨locs, X, -⟩, -, hx, hby, -⟩ := X
  subst hby
  exact Run.of (fun t k => XS.goto X.here hx rfl (pc0 := pc) (pc' := pc') rfl hd ho hp k) r
theorem r_ifY (pc' : Nat) (X : Cx p l e R s m args below meth c Z bytes ml own ret mname n0 T h cells slots) {cd : ClassFile.Cond} {o : Int} {x : Int32} (hd : decode bytes pc = .ok (.ifCond cd o, 3)) (hc : ifCond.holds cd x = true) (r : Run p e below m K T pc' L st) (ho : 0 ≤ (pc : Int) + o := by decide) (hp : ((pc : Int) + o).toNat = pc' := by decide) : Run p e below m K T pc L (.int x :: st) := by
  obtain ⟨⟨locs, X, -⟩, -, hx, hby, -⟩ := X
  subst hby
  exact Run.of (fun t k => XS.ifYes X.here hx rfl (pc0 := pc) (pc' := pc') rfl hd rfl hc ho hp k) r
theorem r_ifN (pc' : Nat) (X : Cx p l e R s m args below meth c Z bytes ml own ret mname n0 T h cells slots) {cd : ClassFile.Cond} {o : Int} {x : Int32} (hd : decode bytes pc = .ok (.ifCond cd o, 3)) (hc : ifCond.holds cd x = false) (r : Run p e below m K T pc' L st) (q : pc + 3 = pc' := by rfl) : Run p e below m K T pc L (.int x :: st) := by
  obtain ⟨⟨locs, X, -⟩, -, hx, hby, -⟩ := X
  subst q hby
  exact Run.of (fun t k => XS.ifNo X.here hx rfl hd rfl hc k) r
theorem r_icmpY (pc' : Nat) (X : Cx p l e R s m args below meth c Z bytes ml own ret mname n0 T h cells slots) {cd : ClassFile.Cond} {o : Int} {x y : Int32} (hd : decode bytes pc = .ok (.if_icmp cd o, 3)) (hc : if_icmp.holds cd x y = true) (r : Run p e below m K T pc' L st) (ho : 0 ≤ (pc : Int) + o := by decide) (hp : ((pc : Int) + o).toNat = pc' := by decide) : Run p e below m K T pc L (.int y :: .int x :: st) := by
  obtain ⟨⟨locs, X, -⟩, -, hx, hby, -⟩ := X
  subst hby
  exact Run.of (fun t k => XS.icmpYes X.here hx rfl (pc0 := pc) (pc' := pc') rfl hd rfl hc ho hp k) r
theorem r_icmpN (pc' : Nat) (X : Cx p l e R s m args below meth c Z bytes ml own ret mname n0 T h cells slots) {cd : ClassFile.Cond} {o : Int} {x y : Int32} (hd : decode bytes pc = .ok (.if_icmp cd o, 3)) (hc : if_icmp.holds cd x y = false) (r : Run p e below m K T pc' L st) (q : pc + 3 = pc' := by rfl) : Run p e below m K T pc L (.int y :: .int x :: st) := by
  obtain ⟨⟨locs, X, -⟩, -, hx, hby, -⟩ := X
  subst q hby
  exact Run.of (fun t k => XS.icmpNo X.here hx rfl hd rfl hc k) r
theorem r_ifnullY (pc' : Nat) (X : Cx p l e R s m args below meth c Z bytes ml own ret mname n0 T h cells slots) {o : Int}  (hd : decode bytes pc = .ok (.ifnull o, 3)) (r : Run p e below m K T pc' L st) (ho : 0 ≤ (pc : Int) + o := by decide) (hp : ((pc : Int) + o).toNat = pc' := by decide) : Run p e below m K T pc L (.null :: st) := by
  obtain ⟨⟨locs, X, -⟩, -, hx, hby, -⟩ := X
  subst hby
  exact Run.of (fun t k => XS.ifnullYes X.here hx rfl (pc0 := pc) (pc' := pc') rfl hd rfl ho hp k) r
theorem r_ifnullN (pc' : Nat) (X : Cx p l e R s m args below meth c Z bytes ml own ret mname n0 T h cells slots) {o : Int} {b : Addr} (hd : decode bytes pc = .ok (.ifnull o, 3)) (r : Run p e below m K T pc' L st) (q : pc + 3 = pc' := by rfl) : Run p e below m K T pc L (.ref b :: st) := by
  obtain ⟨⟨locs, X, -⟩, -, hx, hby, -⟩ := X
  subst q hby
  exact Run.of (fun t k => XS.ifnullNo X.here hx rfl hd rfl k) r
theorem r_ifnonnullY (pc' : Nat) (X : Cx p l e R s m args below meth c Z bytes ml own ret mname n0 T h cells slots) {o : Int} {b : Addr} (hd : decode bytes pc = .ok (.ifnonnull o, 3)) (r : Run p e below m K T pc' L st) (ho : 0 ≤ (pc : Int) + o := by decide) (hp : ((pc : Int) + o).toNat = pc' := by decide) : Run p e below m K T pc L (.ref b :: st) := by
  obtain ⟨⟨locs, X, -⟩, -, hx, hby, -⟩ := X
  subst hby
  exact Run.of (fun t k => XS.ifnonnullYes X.here hx rfl (pc0 := pc) (pc' := pc') rfl hd rfl ho hp k) r
theorem r_ifnonnullN (pc' : Nat) (X : Cx p l e R s m args below meth c Z bytes ml own ret mname n0 T h cells slots) {o : Int}  (hd : decode bytes pc = .ok (.ifnonnull o, 3)) (r : Run p e below m K T pc' L st) (q : pc + 3 = pc' := by rfl) : Run p e below m K T pc L (.null :: st) := by
  obtain ⟨⟨locs, X, -⟩, -, hx, hby, -⟩ := X
  subst q hby
  exact Run.of (fun t k => XS.ifnonnullNo X.here hx rfl hd rfl k) r
theorem r_acmpY (pc' : Nat) (X : Cx p l e R s m args below meth c Z bytes ml own ret mname n0 T h cells slots) {cd : ACond} {o : Int} {a b : Addr} (hd : decode bytes pc = .ok (.if_acmp cd o, 3)) (hc : if_acmp.holds cd (some a) (some b) = true) (r : Run p e below m K T pc' L st) (ho : 0 ≤ (pc : Int) + o := by decide) (hp : ((pc : Int) + o).toNat = pc' := by decide) : Run p e below m K T pc L (.ref b :: .ref a :: st) := by
  obtain ⟨⟨locs, X, -⟩, -, hx, hby, -⟩ := X
  subst hby
  exact Run.of (fun t k => XS.acmpYes X.here hx rfl (pc0 := pc) (pc' := pc') rfl hd rfl hc ho hp k) r
theorem r_acmpN (pc' : Nat) (X : Cx p l e R s m args below meth c Z bytes ml own ret mname n0 T h cells slots) {cd : ACond} {o : Int} {a b : Addr} (hd : decode bytes pc = .ok (.if_acmp cd o, 3)) (hc : if_acmp.holds cd (some a) (some b) = false) (r : Run p e below m K T pc' L st) (q : pc + 3 = pc' := by rfl) : Run p e below m K T pc L (.ref b :: .ref a :: st) := by
  obtain ⟨⟨locs, X, -⟩, -, hx, hby, -⟩ := X
  subst q hby
  exact Run.of (fun t k => XS.acmpNo X.here hx rfl hd rfl hc k) r
theorem r_ldcInt (pc' : Nat) (X : Cx p l e R s m args below meth c Z bytes ml own ret mname n0 T h cells slots) {a0 : Array Value} {i : Nat} {z : Int32} (w : (Jvm.Cond.constant own i z).before a0 Z = true) (hd : decode bytes pc = .ok (.ldc i, 2)) (r : Run p e below m K T pc' L (.int z :: st)) (q : pc + 2 = pc' := by rfl) : Run p e below m K T pc L st := by
  obtain ⟨⟨locs, X, -⟩, -, hx, hby, -, hZ, hown, -⟩ := X
  subst q hby
  exact Run.of (fun t k => X.ldcInt hx hown (mvT hZ w) (g := mkF m pc L st) rfl hd _ k) r
theorem r_ldcwInt (pc' : Nat) (X : Cx p l e R s m args below meth c Z bytes ml own ret mname n0 T h cells slots) {a0 : Array Value} {i : Nat} {z : Int32} (w : (Jvm.Cond.constant own i z).before a0 Z = true) (hd : decode bytes pc = .ok (.ldc_w i, 3)) (r : Run p e below m K T pc' L (.int z :: st)) (q : pc + 3 = pc' := by rfl) : Run p e below m K T pc L st := by
  obtain ⟨⟨locs, X, -⟩, -, hx, hby, -, hZ, hown, -⟩ := X
  subst q hby
  exact Run.of (fun t k => X.ldcwInt hx hown (mvT hZ w) (g := mkF m pc L st) rfl hd _ k) r
theorem r_ldc2Long (pc' : Nat) (X : Cx p l e R s m args below meth c Z bytes ml own ret mname n0 T h cells slots) {a0 : Array Value} {i : Nat} {z : Int64} (w : (Jvm.Cond.constantLong own i z).before a0 Z = true) (hd : decode bytes pc = .ok (.ldc2_w i, 3)) (r : Run p e below m K T pc' L (.long z :: st)) (q : pc + 3 = pc' := by rfl) : Run p e below m K T pc L st := by
  obtain ⟨⟨locs, X, -⟩, -, hx, hby, -, hZ, hown, -⟩ := X
  subst q hby
  exact Run.of (fun t k => X.ldc2Long hx hown (mvT hZ w) (g := mkF m pc L st) rfl hd _ k) r
theorem r_getfield (pc' : Nat) (X : Cx p l e R s m args below meth c Z bytes ml own ret mname n0 T h cells slots) {a0 : Array Value} {R0 O n d host : String} {index : Nat} (w : (Jvm.Cond.fieldLink own index R0 n d).before a0 Z = true ∨ (Jvm.Cond.fieldLinkNest own index R0 n d host).before a0 Z = true) (via : Via Z R0 O n d) {a : Addr} {v : Value} (F : Fld Z h a O n d v) (hd : decode bytes pc = .ok (.getfield index, 3)) (r : ∀ T', Cx p l e R s m args below meth c Z bytes ml own ret mname n0 T' h cells slots → Run p e below m K T' pc' L (v :: st)) (q : pc + 3 = pc' := by rfl) : Run p e below m K T pc L (.ref a :: st) := by
  obtain ⟨⟨locs, X, N⟩, e0, hx, hby, hml, hZ, hown, r1⟩ := X
  subst q
  obtain ⟨T', X', e', stp⟩ := getF X hx hZ hown w via e0 F (g := mkF m pc L (.ref a :: st)) rfl rfl (hb hby hd)
  exact Run.of stp (r T' ⟨⟨locs, X', N⟩, e', hx, hby, hml, hZ, hown, r1⟩)
theorem r_getstatic (pc' : Nat) (X : Cx p l e R s m args below meth c Z bytes ml own ret mname n0 T h cells slots) {a0 : Array Value} {R0 O n d host : String} {index : Nat} (w : (Jvm.Cond.fieldLink own index R0 n d).before a0 Z = true ∨ (Jvm.Cond.fieldLinkNest own index R0 n d host).before a0 Z = true) (via : Via Z R0 O n d) {v : Value} (F : Sta Z h O n d v) (hd : decode bytes pc = .ok (.getstatic index, 3)) (r : ∀ T', Cx p l e R s m args below meth c Z bytes ml own ret mname n0 T' h cells slots → Run p e below m K T' pc' L (v :: st)) (q : pc + 3 = pc' := by rfl) : Run p e below m K T pc L st := by
  obtain ⟨⟨locs, X, N⟩, e0, hx, hby, hml, hZ, hown, r1⟩ := X
  subst q
  obtain ⟨T', X', e', stp⟩ := getS2 X hx hZ hown w via e0 F (g := mkF m pc L st) rfl (hb hby hd)
  exact Run.of stp (r T' ⟨⟨locs, X', N⟩, e', hx, hby, hml, hZ, hown, r1⟩)
theorem r_putfield (pc' : Nat) (X : Cx p l e R s m args below meth c Z bytes ml own ret mname n0 T h cells slots) {a0 : Array Value} {R0 O n d host C : String} {index kk : Nat} {ty : FieldType} (w : (Jvm.Cond.fieldLink own index R0 n d).before a0 Z = true ∨ (Jvm.Cond.fieldLinkNest own index R0 n d host).before a0 Z = true) (via : Via Z R0 O n d) {a : Addr} {v old : Value} (F : Fld Z h a O n d old) (E : Exa Z h a C) (Lw : (Jvm.Cond.lays C O n d).before a0 Z = true ∨ ((Jvm.Cond.laysFinal C O n d).before a0 Z = true ∧ own = O ∧ mname = "<init>")) (wi : (Jvm.Cond.instantiable C kk).before a0 Z = true) (hty : parseFieldDescriptor d = some ty) (hn : narrow ty v = v) (hf : fits ty v = true) (ga : n0 ≤ a) (hd : decode bytes pc = .ok (.putfield index, 3)) (r : ∀ T' h', Wr h h' a (Jvm.RoadKit.slotOf Z O n d) v → Cx p l e R s m args below meth c Z bytes ml own ret mname n0 T' h' cells slots → Run p e below m K T' pc' L st) (q : pc + 3 = pc' := by rfl) : Run p e below m K T pc L (v :: .ref a :: st) := by
  obtain ⟨⟨locs, X, N⟩, e0, hx, hby, hml, hZ, hown, hret, hnm, hlk, hsz⟩ := X
  subst q
  obtain ⟨T', h', X', e', W', stp⟩ := putF X hx hZ hown w via e0 F E (Lw.imp id fun q => ⟨q.1, q.2.1, hnm.trans q.2.2⟩) wi hty hn hf (g := mkF m pc L (v :: .ref a :: st)) rfl rfl (hb hby hd)
  exact Run.of stp (r T' h' W' ⟨⟨_, X', Fr.snoc X' N ga⟩, e', hx, hby, hml, hZ, hown, hret, hnm, hlk, by rw [W'.size]; exact hsz⟩)
theorem r_putfieldN (pc' : Nat) (X : Cx p l e R s m args below meth c Z bytes ml own ret mname n0 T h cells slots) {a0 : Array Value} {R0 O n d C : String} {index kk : Nat} {ty : FieldType} (w : (Jvm.Cond.fieldLink own index R0 n d).before a0 Z = true) (via : Via Z R0 O n d) {a : Addr} {v v' old : Value} (F : Fld Z h a O n d old) (E : Exa Z h a C) (Lw : (Jvm.Cond.lays C O n d).before a0 Z = true ∨ ((Jvm.Cond.laysFinal C O n d).before a0 Z = true ∧ own = O ∧ mname = "<init>")) (wi : (Jvm.Cond.instantiable C kk).before a0 Z = true) (hty : parseFieldDescriptor d = some ty) (hn : narrow ty v = v') (hf : fits ty v' = true) (ga : n0 ≤ a) (hd : decode bytes pc = .ok (.putfield index, 3)) (r : ∀ T' h', Wr h h' a (Jvm.RoadKit.slotOf Z O n d) v' → Cx p l e R s m args below meth c Z bytes ml own ret mname n0 T' h' cells slots → Run p e below m K T' pc' L st) (q : pc + 3 = pc' := by rfl) : Run p e below m K T pc L (v :: .ref a :: st) := by
  obtain ⟨⟨locs, X, N⟩, e0, hx, hby, hml, hZ, hown, hret, hnm, hlk, hsz⟩ := X
  subst q
  obtain ⟨T', h', X', e', W', stp⟩ := putFN X hx hZ hown w via e0 F E (Lw.imp id fun q => ⟨q.1, q.2.1, hnm.trans q.2.2⟩) wi hty hn hf (g := mkF m pc L (v :: .ref a :: st)) rfl rfl (hb hby hd)
  exact Run.of stp (r T' h' W' ⟨⟨_, X', Fr.snoc X' N ga⟩, e', hx, hby, hml, hZ, hown, hret, hnm, hlk, by rw [W'.size]; exact hsz⟩)
theorem r_new (pc' : Nat) (X : Cx p l e R s m args below meth c Z bytes ml own ret mname n0 T h cells slots) {a0 : Array Value} {C : String} {index n : Nat} (w : (Jvm.Cond.classLink own index C).before a0 Z = true) (wi : (Jvm.Cond.instantiable C n).before a0 Z = true) (wz : (Jvm.Cond.initialized C).before a0 Z = true) (hd : decode bytes pc = .ok (.new index, 3)) (hc : cells + 1 ≤ R.cells) (hl : slots + n ≤ R.slots) (r : ∀ T' h' b, b = h.size → n0 ≤ b → Ext h h' → Exa Z h' b C → (∀ {O nm d : String} {ty : FieldType}, Laid Z a0 C O nm d → parseFieldDescriptor d = some ty → Fld Z h' b O nm d (defaultValue ty)) → Cx p l e R s m args below meth c Z bytes ml own ret mname n0 T' h' (cells + 1) (slots + n) → Run p e below m K T' pc' L (.ref b :: st)) (q : pc + 3 = pc' := by rfl) : Run p e below m K T pc L st := by
  obtain ⟨⟨locs, X, N⟩, e0, hx, hby, hml, hZ, hown, hret, hnm, hlk, hsz⟩ := X
  subst q
  obtain ⟨T', h', X', e', E', A', D', -, stp⟩ := newO X hx hZ hown w wi wz e0 (g := mkF m pc L st) rfl (hb hby hd) hc hl
  exact Run.of stp (r T' h' h.size rfl hsz E' A' D' ⟨⟨_, X', N⟩, e', hx, hby, hml, hZ, hown, hret, hnm, hlk, Nat.le_trans hsz E'.1⟩)
theorem r_newarray (pc' : Nat) (X : Cx p l e R s m args below meth c Z bytes ml own ret mname n0 T h cells slots) {a0 : Array Value} {aty : ArrayType} {z : Int32} (n cap : Nat) (w : (Jvm.Cond.arrayClass (newarray.typeOf aty)).before a0 Z = true) (hd : decode bytes pc = .ok (.newarray aty, 2)) (hz : z.toInt = (n : Int)) (hcap : n ≤ cap) (hb8 : cap * 8 ≤ 536870912) (hc : cells + 1 ≤ R.cells) (hl : slots + cap ≤ R.slots) (r : ∀ T' h' b, b = h.size → n0 ≤ b → Ext h h' → AF Z h' b (newarray.typeOf aty) n (fun _ => defaultValue (newarray.typeOf aty)) → Cx p l e R s m args below meth c Z bytes ml own ret mname n0 T' h' (cells + 1) (slots + cap) → Run p e below m K T' pc' L (.ref b :: st)) (q : pc + 2 = pc' := by rfl) : Run p e below m K T pc L (.int z :: st) := by
  obtain ⟨⟨locs, X, N⟩, e0, hx, hby, hml, hZ, hown, hret, hnm, hlk, hsz⟩ := X
  subst q
  have hz0 : ¬ z < 0 := by rw [Int32.lt_iff_toInt_lt]; have : (0 : Int32).toInt = 0 := rfl; omega
  have hzn : z.toNatClampNeg = n := by show z.toInt.toNat = n; omega
  have hzl := z.toInt_lt
  obtain ⟨T', h', cA, X', e', E', A', stp⟩ := newP X hx hZ w e0 (g := mkF m pc L (.int z :: st)) rfl (hb hby hd) rfl hz0 (cap := cap) (by rw [hzn]; exact hcap) hb8 hc hl
  refine Run.of stp (r T' h' h.size rfl hsz E' ⟨_, A', by rw [sz_new, hzn], by omega, fun j hj => ?_⟩ ⟨⟨_, X', N⟩, e', hx, hby, hml, hZ, hown, hret, hnm, hlk, Nat.le_trans hsz E'.1⟩)
  simp [newA, hzn, hj]
theorem r_arraylength (pc' : Nat) (X : Cx p l e R s m args below meth c Z bytes ml own ret mname n0 T h cells slots) {a : Addr} {ty : FieldType} {n : Nat} {f : Nat → Value} (A : AF Z h a ty n f) (z : Int32) (hz : z.toInt = (n : Int)) (hd : decode bytes pc = .ok (.arraylength, 1)) (r : Run p e below m K T pc' L (.int z :: st)) (q : pc + 1 = pc' := by rfl) : Run p e below m K T pc L (.ref a :: st) := by
  obtain ⟨⟨locs, X, N⟩, e0, hx, hby, hml, hZ, hown, r1⟩ := X
  subst q hby
  obtain ⟨cl, A, S, q, -⟩ := A
  have ez : cl.slots.size.toInt32 = z := by rw [S]; apply Int32.toInt_inj.mp; rw [hz]; exact len_toInt q
  rw [← ez] at r
  exact Run.of (fun t k => X.arraylength hx (by rw [e0]; exact A.1) (State.isArrayOf_alike hZ.alike A.2.1) (g := mkF m pc L (.ref a :: st)) rfl rfl hd _ k) r
theorem r_iaload (pc' : Nat) (X : Cx p l e R s m args below meth c Z bytes ml own ret mname n0 T h cells slots) {a : Addr} {n : Nat} {f : Nat → Value} (A : AF Z h a .int n f) {j : Int32} {i : Nat} {v : Value} (hj : j.toInt = (i : Int)) (hi : i < n) (hv : f i = v) (hd : decode bytes pc = .ok (.iaload, 1)) (r : Run p e below m K T pc' L (v :: st)) (q : pc + 1 = pc' := by rfl) : Run p e below m K T pc L (.int j :: .ref a :: st) := by
  obtain ⟨⟨locs, X, N⟩, e0, hx, hby, hml, hZ, hown, r1⟩ := X
  subst q hby
  obtain ⟨cl, A, S, -, H⟩ := A
  obtain ⟨h1, h2⟩ := idx_of hj (S ▸ hi)
  exact Run.of (fun t k => X.iaload hx (j := j) (v := v) (by rw [e0]; exact A.1) (State.isArrayOf_alike hZ.alike A.2.1) A.2.2 h1 (by rw [h2, H i hi, hv]) (g := mkF m pc L (.int j :: .ref a :: st)) rfl rfl hd _ k) r
theorem r_laload (pc' : Nat) (X : Cx p l e R s m args below meth c Z bytes ml own ret mname n0 T h cells slots) {a : Addr} {n : Nat} {f : Nat → Value} (A : AF Z h a .long n f) {j : Int32} {i : Nat} {v : Value} (hj : j.toInt = (i : Int)) (hi : i < n) (hv : f i = v) (hd : decode bytes pc = .ok (.laload, 1)) (r : Run p e below m K T pc' L (v :: st)) (q : pc + 1 = pc' := by rfl) : Run p e below m K T pc L (.int j :: .ref a :: st) := by
  obtain ⟨⟨locs, X, N⟩, e0, hx, hby, hml, hZ, hown, r1⟩ := X
  subst q hby
  obtain ⟨cl, A, S, -, H⟩ := A
  obtain ⟨h1, h2⟩ := idx_of hj (S ▸ hi)
  exact Run.of (fun t k => X.laload hx (j := j) (v := v) (by rw [e0]; exact A.1) (State.isArrayOf_alike hZ.alike A.2.1) A.2.2 h1 (by rw [h2, H i hi, hv]) (g := mkF m pc L (.int j :: .ref a :: st)) rfl rfl hd _ k) r
theorem r_caload (pc' : Nat) (X : Cx p l e R s m args below meth c Z bytes ml own ret mname n0 T h cells slots) {a : Addr} {n : Nat} {f : Nat → Value} (A : AF Z h a .char n f) {j : Int32} {i : Nat} {v : Value} (hj : j.toInt = (i : Int)) (hi : i < n) (hv : f i = v) (hd : decode bytes pc = .ok (.caload, 1)) (r : Run p e below m K T pc' L (v :: st)) (q : pc + 1 = pc' := by rfl) : Run p e below m K T pc L (.int j :: .ref a :: st) := by
  obtain ⟨⟨locs, X, N⟩, e0, hx, hby, hml, hZ, hown, r1⟩ := X
  subst q hby
  obtain ⟨cl, A, S, -, H⟩ := A
  obtain ⟨h1, h2⟩ := idx_of hj (S ▸ hi)
  exact Run.of (fun t k => X.caload hx (j := j) (v := v) (by rw [e0]; exact A.1) (State.isArrayOf_alike hZ.alike A.2.1) A.2.2 h1 (by rw [h2, H i hi, hv]) (g := mkF m pc L (.int j :: .ref a :: st)) rfl rfl hd _ k) r
theorem r_baloadB (pc' : Nat) (X : Cx p l e R s m args below meth c Z bytes ml own ret mname n0 T h cells slots) {a : Addr} {n : Nat} {f : Nat → Value} (A : AF Z h a .byte n f) {j : Int32} {i : Nat} {v : Value} (hj : j.toInt = (i : Int)) (hi : i < n) (hv : f i = v) (hd : decode bytes pc = .ok (.baload, 1)) (r : Run p e below m K T pc' L (v :: st)) (q : pc + 1 = pc' := by rfl) : Run p e below m K T pc L (.int j :: .ref a :: st) := by
  obtain ⟨⟨locs, X, N⟩, e0, hx, hby, hml, hZ, hown, r1⟩ := X
  subst q hby
  obtain ⟨cl, A, S, -, H⟩ := A
  obtain ⟨h1, h2⟩ := idx_of hj (S ▸ hi)
  exact Run.of (fun t k => X.baloadBytes hx (j := j) (v := v) (by rw [e0]; exact A.1) (State.isArrayOf_alike hZ.alike A.2.1) A.2.2 h1 (by rw [h2, H i hi, hv]) (g := mkF m pc L (.int j :: .ref a :: st)) rfl rfl hd _ k) r
theorem r_baloadZ (pc' : Nat) (X : Cx p l e R s m args below meth c Z bytes ml own ret mname n0 T h cells slots) {a : Addr} {n : Nat} {f : Nat → Value} (A : AF Z h a .boolean n f) {j : Int32} {i : Nat} {v : Value} (hj : j.toInt = (i : Int)) (hi : i < n) (hv : f i = v) (hd : decode bytes pc = .ok (.baload, 1)) (r : Run p e below m K T pc' L (v :: st)) (q : pc + 1 = pc' := by rfl) : Run p e below m K T pc L (.int j :: .ref a :: st) := by
  obtain ⟨⟨locs, X, N⟩, e0, hx, hby, hml, hZ, hown, r1⟩ := X
  subst q hby
  obtain ⟨cl, A, S, -, H⟩ := A
  obtain ⟨h1, h2⟩ := idx_of hj (S ▸ hi)
  exact Run.of (fun t k => X.baloadBooleans hx (j := j) (v := v) (by rw [e0]; exact A.1) (State.isArrayOf_alike hZ.alike A.2.1) A.2.2 h1 (by rw [h2, H i hi, hv]) (g := mkF m pc L (.int j :: .ref a :: st)) rfl rfl hd _ k) r
theorem r_daload (pc' : Nat) (X : Cx p l e R s m args below meth c Z bytes ml own ret mname n0 T h cells slots) {a : Addr} {n : Nat} {f : Nat → Value} (A : AF Z h a .double n f) {j : Int32} {i : Nat} {v : Value} (hj : j.toInt = (i : Int)) (hi : i < n) (hv : f i = v) (hd : decode bytes pc = .ok (.daload, 1)) (r : Run p e below m K T pc' L (v :: st)) (q : pc + 1 = pc' := by rfl) : Run p e below m K T pc L (.int j :: .ref a :: st) := by
  obtain ⟨⟨locs, X, N⟩, e0, hx, hby, hml, hZ, hown, r1⟩ := X
  subst q hby
  obtain ⟨cl, A, S, -, H⟩ := A
  obtain ⟨h1, h2⟩ := idx_of hj (S ▸ hi)
  exact Run.of (fun t k => X.daload hx (j := j) (v := v) (by rw [e0]; exact A.1) (State.isArrayOf_alike hZ.alike A.2.1) A.2.2 h1 (by rw [h2, H i hi, hv]) (g := mkF m pc L (.int j :: .ref a :: st)) rfl rfl hd _ k) r
theorem r_iastore (pc' : Nat) (X : Cx p l e R s m args below meth c Z bytes ml own ret mname n0 T h cells slots) {a : Addr} {n : Nat} {f : Nat → Value} (A : AF Z h a .int n f) {j : Int32} {i : Nat} {x : Int32} {v : Value} (hj : j.toInt = (i : Int)) (hi : i < n) (hv : (.int x) = v) (ga : n0 ≤ a) (hd : decode bytes pc = .ok (.iastore, 1)) (r : ∀ T' h', Wr h h' a i v → Cx p l e R s m args below meth c Z bytes ml own ret mname n0 T' h' cells slots → Run p e below m K T' pc' L st) (q : pc + 1 = pc' := by rfl) : Run p e below m K T pc L ((.int x) :: .int j :: .ref a :: st) := by
  obtain ⟨⟨locs, X, N⟩, e0, hx, hby, hml, hZ, hown, hret, hnm, hlk, hsz⟩ := X
  subst q hv
  obtain ⟨cl, A, S, -, H⟩ := A
  obtain ⟨h1, h2⟩ := idx_of hj (S ▸ hi)
  obtain ⟨T', h', X', e', W', stp⟩ := stI X hx hZ e0 A (j := j) h1 (g := mkF m pc L ((.int x) :: .int j :: .ref a :: st)) rfl rfl (hb hby hd)
  exact Run.of stp (r T' h' (h2 ▸ W') ⟨⟨_, X', Fr.snoc X' N ga⟩, e', hx, hby, hml, hZ, hown, hret, hnm, hlk, by rw [W'.size]; exact hsz⟩)
theorem r_lastore (pc' : Nat) (X : Cx p l e R s m args below meth c Z bytes ml own ret mname n0 T h cells slots) {a : Addr} {n : Nat} {f : Nat → Value} (A : AF Z h a .long n f) {j : Int32} {i : Nat} {x : Int64} {v : Value} (hj : j.toInt = (i : Int)) (hi : i < n) (hv : (.long x) = v) (ga : n0 ≤ a) (hd : decode bytes pc = .ok (.lastore, 1)) (r : ∀ T' h', Wr h h' a i v → Cx p l e R s m args below meth c Z bytes ml own ret mname n0 T' h' cells slots → Run p e below m K T' pc' L st) (q : pc + 1 = pc' := by rfl) : Run p e below m K T pc L ((.long x) :: .int j :: .ref a :: st) := by
  obtain ⟨⟨locs, X, N⟩, e0, hx, hby, hml, hZ, hown, hret, hnm, hlk, hsz⟩ := X
  subst q hv
  obtain ⟨cl, A, S, -, H⟩ := A
  obtain ⟨h1, h2⟩ := idx_of hj (S ▸ hi)
  obtain ⟨T', h', X', e', W', stp⟩ := stJ X hx hZ e0 A (j := j) h1 (g := mkF m pc L ((.long x) :: .int j :: .ref a :: st)) rfl rfl (hb hby hd)
  exact Run.of stp (r T' h' (h2 ▸ W') ⟨⟨_, X', Fr.snoc X' N ga⟩, e', hx, hby, hml, hZ, hown, hret, hnm, hlk, by rw [W'.size]; exact hsz⟩)
theorem r_castore (pc' : Nat) (X : Cx p l e R s m args below meth c Z bytes ml own ret mname n0 T h cells slots) {a : Addr} {n : Nat} {f : Nat → Value} (A : AF Z h a .char n f) {j : Int32} {i : Nat} {x : Int32} {v : Value} (hj : j.toInt = (i : Int)) (hi : i < n) (hv : (.int (nar .char x)) = v) (ga : n0 ≤ a) (hd : decode bytes pc = .ok (.castore, 1)) (r : ∀ T' h', Wr h h' a i v → Cx p l e R s m args below meth c Z bytes ml own ret mname n0 T' h' cells slots → Run p e below m K T' pc' L st) (q : pc + 1 = pc' := by rfl) : Run p e below m K T pc L ((.int x) :: .int j :: .ref a :: st) := by
  obtain ⟨⟨locs, X, N⟩, e0, hx, hby, hml, hZ, hown, hret, hnm, hlk, hsz⟩ := X
  subst q hv
  obtain ⟨cl, A, S, -, H⟩ := A
  obtain ⟨h1, h2⟩ := idx_of hj (S ▸ hi)
  obtain ⟨T', h', X', e', W', stp⟩ := stC X hx hZ e0 A (j := j) h1 (g := mkF m pc L ((.int x) :: .int j :: .ref a :: st)) rfl rfl (hb hby hd)
  exact Run.of stp (r T' h' (h2 ▸ W') ⟨⟨_, X', Fr.snoc X' N ga⟩, e', hx, hby, hml, hZ, hown, hret, hnm, hlk, by rw [W'.size]; exact hsz⟩)
theorem r_bastoreB (pc' : Nat) (X : Cx p l e R s m args below meth c Z bytes ml own ret mname n0 T h cells slots) {a : Addr} {n : Nat} {f : Nat → Value} (A : AF Z h a .byte n f) {j : Int32} {i : Nat} {x : Int32} {v : Value} (hj : j.toInt = (i : Int)) (hi : i < n) (hv : (.int (nar .byte x)) = v) (ga : n0 ≤ a) (hd : decode bytes pc = .ok (.bastore, 1)) (r : ∀ T' h', Wr h h' a i v → Cx p l e R s m args below meth c Z bytes ml own ret mname n0 T' h' cells slots → Run p e below m K T' pc' L st) (q : pc + 1 = pc' := by rfl) : Run p e below m K T pc L ((.int x) :: .int j :: .ref a :: st) := by
  obtain ⟨⟨locs, X, N⟩, e0, hx, hby, hml, hZ, hown, hret, hnm, hlk, hsz⟩ := X
  subst q hv
  obtain ⟨cl, A, S, -, H⟩ := A
  obtain ⟨h1, h2⟩ := idx_of hj (S ▸ hi)
  obtain ⟨T', h', X', e', W', stp⟩ := stB X hx hZ e0 A (j := j) h1 (g := mkF m pc L ((.int x) :: .int j :: .ref a :: st)) rfl rfl (hb hby hd)
  exact Run.of stp (r T' h' (h2 ▸ W') ⟨⟨_, X', Fr.snoc X' N ga⟩, e', hx, hby, hml, hZ, hown, hret, hnm, hlk, by rw [W'.size]; exact hsz⟩)
theorem r_bastoreZ (pc' : Nat) (X : Cx p l e R s m args below meth c Z bytes ml own ret mname n0 T h cells slots) {a : Addr} {n : Nat} {f : Nat → Value} (A : AF Z h a .boolean n f) {j : Int32} {i : Nat} {x : Int32} {v : Value} (hj : j.toInt = (i : Int)) (hi : i < n) (hv : (.int (nar .boolean x)) = v) (ga : n0 ≤ a) (hd : decode bytes pc = .ok (.bastore, 1)) (r : ∀ T' h', Wr h h' a i v → Cx p l e R s m args below meth c Z bytes ml own ret mname n0 T' h' cells slots → Run p e below m K T' pc' L st) (q : pc + 1 = pc' := by rfl) : Run p e below m K T pc L ((.int x) :: .int j :: .ref a :: st) := by
  obtain ⟨⟨locs, X, N⟩, e0, hx, hby, hml, hZ, hown, hret, hnm, hlk, hsz⟩ := X
  subst q hv
  obtain ⟨cl, A, S, -, H⟩ := A
  obtain ⟨h1, h2⟩ := idx_of hj (S ▸ hi)
  obtain ⟨T', h', X', e', W', stp⟩ := stZ X hx hZ e0 A (j := j) h1 (g := mkF m pc L ((.int x) :: .int j :: .ref a :: st)) rfl rfl (hb hby hd)
  exact Run.of stp (r T' h' (h2 ▸ W') ⟨⟨_, X', Fr.snoc X' N ga⟩, e', hx, hby, hml, hZ, hown, hret, hnm, hlk, by rw [W'.size]; exact hsz⟩)
theorem r_dastore (pc' : Nat) (X : Cx p l e R s m args below meth c Z bytes ml own ret mname n0 T h cells slots) {a : Addr} {n : Nat} {f : Nat → Value} (A : AF Z h a .double n f) {j : Int32} {i : Nat} {x : UInt64} {v : Value} (hj : j.toInt = (i : Int)) (hi : i < n) (hv : (.double x) = v) (ga : n0 ≤ a) (hd : decode bytes pc = .ok (.dastore, 1)) (r : ∀ T' h', Wr h h' a i v → Cx p l e R s m args below meth c Z bytes ml own ret mname n0 T' h' cells slots → Run p e below m K T' pc' L st) (q : pc + 1 = pc' := by rfl) : Run p e below m K T pc L ((.double x) :: .int j :: .ref a :: st) := by
  obtain ⟨⟨locs, X, N⟩, e0, hx, hby, hml, hZ, hown, hret, hnm, hlk, hsz⟩ := X
  subst q hv
  obtain ⟨cl, A, S, -, H⟩ := A
  obtain ⟨h1, h2⟩ := idx_of hj (S ▸ hi)
  obtain ⟨T', h', X', e', W', stp⟩ := stD X hx hZ e0 A (j := j) h1 (g := mkF m pc L ((.double x) :: .int j :: .ref a :: st)) rfl rfl (hb hby hd)
  exact Run.of stp (r T' h' (h2 ▸ W') ⟨⟨_, X', Fr.snoc X' N ga⟩, e', hx, hby, hml, hZ, hown, hret, hnm, hlk, by rw [W'.size]; exact hsz⟩)
theorem r_initO (pc' : Nat) (X : Cx p l e R s m args below meth c Z bytes ml own ret mname n0 T h cells slots) {a0 : Array Value} {idx : Nat} (w1 : (Jvm.Cond.methodLink own idx Lib.objectInit).before a0 Z = true) (w2 : (Jvm.Cond.instanceMethod Lib.objectInit).before a0 Z = true) (w3 : (Jvm.Cond.code Lib.objectInit ⟨#[0xb1]⟩ 1 none).before a0 Z = true) {a : Addr} (hd : decode bytes pc = .ok (.invokespecial idx, 3)) (hsize : L.size = ml) (hf : 1 ≤ R.frames) (W : Nat) (hW : (st.map fun v => v.category).sum ≤ W) (hl : W + 12 ≤ R.locals) (r : ∀ T', Cx p l e R s m args below meth c Z bytes ml own ret mname n0 T' h cells slots → Run p e below m K T' pc' L st) (q : pc + 3 = pc' := by rfl) : Run p e below m K T pc L (.ref a :: st) := by
  obtain ⟨⟨locs, X, N⟩, e0, hx, hby, hml, hZ, hown, r1⟩ := X
  subst q
  obtain ⟨T', X', e', stp⟩ := initO X hx hZ hown w1 w2 w3 e0 (g := mkF m pc L (.ref a :: st)) rfl (by rw [hml]; exact hsize) rfl (hb hby hd) hf (W := W) (by show 2 * 0 + _ ≤ _; omega) hl
  exact Run.of stp (r T' ⟨⟨_, X', N⟩, e', hx, hby, hml, hZ, hown, r1⟩)
theorem met_of {l : Launch} {Z : State} {n0 : Nat} {ws : List Jvm.Cond} {y : MethodName} {bytes : ByteArray} {ml : Nat} {ret : Option FieldType} {rm : Room} {as : Array Value} {h0 : Heap} {Q : Option Value → Heap → Prop} {L0 : Array Slot} (hpl : plainFor y = true) (hn0 : n0 ≤ h0.size) (ef : ∀ m, entryFrame m as ml = mkF m 0 L0 [])
    (body : ∀ p e s m below meth c T, s.heap = h0 → Cx p l e rm s m as below meth c Z bytes ml y.cls ret y.name n0 T h0 0 0 → Run p e below m (Fin1 below s n0 Q rm.cells rm.slots) T 0 L0 []) : Met1 l Z n0 ws y bytes ml ret rm as h0 Q := by
  refine MetFree.of_bodySF hpl hisR ?_
  intro p e s m args below meth c s₁ Bd hml0 hP hK
  obtain ⟨rfl, hZ, hh⟩ := hP
  have hlk : meth.locks = false := BodyLoose.notSynchronized Bd
  obtain ⟨u, h1, h2, o, h3, h4⟩ := body p e s m below meth c s₁ hh ⟨⟨[], Stand.of_body Bd, Fr.nil n0⟩, by rw [← hh, Bd.state]; rfl, Bd.exec, Bd.bytes, hml0, hZ, findClass_of_methodNamed Bd.named, Bd.returns, (name_of_methodNamed Bd.named Bd.method).1, hlk, hn0⟩
  exact ⟨u, o, castTop (ef m) h1, h2, h3, h4⟩
theorem fin_of {Q : Option Value → Heap → Prop} {cN sN : Nat} {v : Option Value} (X : Cx p l e R s m args below meth c Z bytes ml own ret mname n0 T h cells slots) (hc : cells ≤ cN) (hs : slots ≤ sN) (hQ : Q v h) (hv : ret = none → v = none) (stp : ∀ {T : State} {locs : List Loc} (X : Stand p l e R s m args below meth c T locs cells slots) (hx : p.tables.exec = Jvm.exec) (hret : meth.sig.returnType = ret) {fs : List Frame}, (∀ (f : JFrame) (acts : List Action), f.method = m → f.locked = none → f.entered = [] → (doReturn e (T.setTop f) acts v).1 = T.setFrames fs) → Steps p.tables e below (T.setTop (mkF m pc L st)) (T.setFrames fs)) : Run p e below m (Fin1 below s n0 Q cN sN) T pc L st := by
  obtain ⟨⟨locs, X, N⟩, e0, hx, hby, hml, hZ, hown, hret, hnm, hlk, hsz⟩ := X
  obtain ⟨fs, hr, hrun, hended, hW, hsame⟩ := X.leave (v := v) (fun q => hv (hret.symm.trans q)) hlk
  refine ⟨_, stp X hx hret hr, hrun, _, hended, v, locs, rfl, ⟨?_, N, ?_⟩, ⟨_, rfl⟩, hW, hsame.mono hc hs⟩
  · show Q v T.heap; rw [e0]; exact hQ
  · show n0 ≤ T.heap.size; rw [e0]; exact hsz
theorem r_retZ {Q : Option Value → Heap → Prop} {cN sN : Nat} (X : Cx p l e R s m args below meth c Z bytes ml own (some .boolean) mname n0 T h cells slots) {x z : Int32} (hd : decode bytes pc = .ok (.ireturn, 1)) (hz : nar .boolean x = z) (hc : cells ≤ cN) (hs : slots ≤ sN) (hQ : Q (some (.int z)) h) : Run p e below m (Fin1 below s n0 Q cN sN) T pc L (.int x :: st) := by
  have hby := X.2.2.2.1
  subst hz
  exact fin_of X hc hs hQ (fun q => by cases q) (fun X hx hret fs hr => retN X hx (t := .boolean) hret (by simp) (hb hby hd) hr)
theorem r_retB {Q : Option Value → Heap → Prop} {cN sN : Nat} (X : Cx p l e R s m args below meth c Z bytes ml own (some .byte) mname n0 T h cells slots) {x z : Int32} (hd : decode bytes pc = .ok (.ireturn, 1)) (hz : nar .byte x = z) (hc : cells ≤ cN) (hs : slots ≤ sN) (hQ : Q (some (.int z)) h) : Run p e below m (Fin1 below s n0 Q cN sN) T pc L (.int x :: st) := by
  have hby := X.2.2.2.1
  subst hz
  exact fin_of X hc hs hQ (fun q => by cases q) (fun X hx hret fs hr => retN X hx (t := .byte) hret (by simp) (hb hby hd) hr)
theorem r_retC {Q : Option Value → Heap → Prop} {cN sN : Nat} (X : Cx p l e R s m args below meth c Z bytes ml own (some .char) mname n0 T h cells slots) {x z : Int32} (hd : decode bytes pc = .ok (.ireturn, 1)) (hz : nar .char x = z) (hc : cells ≤ cN) (hs : slots ≤ sN) (hQ : Q (some (.int z)) h) : Run p e below m (Fin1 below s n0 Q cN sN) T pc L (.int x :: st) := by
  have hby := X.2.2.2.1
  subst hz
  exact fin_of X hc hs hQ (fun q => by cases q) (fun X hx hret fs hr => retN X hx (t := .char) hret (by simp) (hb hby hd) hr)
theorem r_retS {Q : Option Value → Heap → Prop} {cN sN : Nat} (X : Cx p l e R s m args below meth c Z bytes ml own (some .short) mname n0 T h cells slots) {x z : Int32} (hd : decode bytes pc = .ok (.ireturn, 1)) (hz : nar .short x = z) (hc : cells ≤ cN) (hs : slots ≤ sN) (hQ : Q (some (.int z)) h) : Run p e below m (Fin1 below s n0 Q cN sN) T pc L (.int x :: st) := by
  have hby := X.2.2.2.1
  subst hz
  exact fin_of X hc hs hQ (fun q => by cases q) (fun X hx hret fs hr => retN X hx (t := .short) hret (by simp) (hb hby hd) hr)
theorem r_retI {Q : Option Value → Heap → Prop} {cN sN : Nat} (X : Cx p l e R s m args below meth c Z bytes ml own (some .int) mname n0 T h cells slots) {x : Int32} (hd : decode bytes pc = .ok (.ireturn, 1)) (hc : cells ≤ cN) (hs : slots ≤ sN) (hQ : Q (some (.int x)) h) : Run p e below m (Fin1 below s n0 Q cN sN) T pc L (.int x :: st) := by
  have hby := X.2.2.2.1
  exact fin_of X hc hs hQ (fun q => by cases q) (fun X hx hret fs hr => retOut X hx (t := .int) hret rfl (Or.inl ⟨rfl, Or.inl rfl, _, rfl⟩) (hb hby hd) hr)
theorem r_retJ {Q : Option Value → Heap → Prop} {cN sN : Nat} (X : Cx p l e R s m args below meth c Z bytes ml own (some .long) mname n0 T h cells slots) {x : Int64} (hd : decode bytes pc = .ok (.lreturn, 1)) (hc : cells ≤ cN) (hs : slots ≤ sN) (hQ : Q (some (.long x)) h) : Run p e below m (Fin1 below s n0 Q cN sN) T pc L (.long x :: st) := by
  have hby := X.2.2.2.1
  exact fin_of X hc hs hQ (fun q => by cases q) (fun X hx hret fs hr => retOut X hx (t := .long) hret rfl (Or.inr (Or.inl ⟨rfl, rfl, _, rfl⟩)) (hb hby hd) hr)
theorem r_retA {Q : Option Value → Heap → Prop} {cN sN : Nat} {t : FieldType} (X : Cx p l e R s m args below meth c Z bytes ml own (some t) mname n0 T h cells slots) {x : Value} (hd : decode bytes pc = .ok (.areturn, 1)) (ht : t.isReference = true) (hn : narrow t x = x) (hx : x.isRef = true) (hc : cells ≤ cN) (hs : slots ≤ sN) (hQ : Q (some x) h) : Run p e below m (Fin1 below s n0 Q cN sN) T pc L (x :: st) := by
  have hby := X.2.2.2.1
  exact fin_of X hc hs hQ (fun q => by cases q) (fun X hx' hret fs hr => retOut X hx' (t := t) hret hn (Or.inr (Or.inr (Or.inr (Or.inr ⟨rfl, ht, hx⟩)))) (hb hby hd) hr)
theorem r_retV {Q : Option Value → Heap → Prop} {cN sN : Nat} (X : Cx p l e R s m args below meth c Z bytes ml own none mname n0 T h cells slots) (hd : decode bytes pc = .ok (.return_, 1)) (hc : cells ≤ cN) (hs : slots ≤ sN) (hQ : Q none h) : Run p e below m (Fin1 below s n0 Q cN sN) T pc L [] := by
  have hby := X.2.2.2.1
  exact fin_of X hc hs hQ (fun _ => rfl) (fun X hx hret fs hr => X.returnOut hx hret (hb hby hd) hr)
theorem r_callS (pc' : Nat) (X : Cx p l e R s m args below meth c Z bytes ml own ret mname n0 T h cells slots) {a0 : Array Value} {y : MethodName} {by' : ByteArray} {ml' : Nat} {ret' : Option FieldType} {rm : Room} {as : Array Value} {Q : Option Value → Heap → Prop} {index : Nat}  (hM : Met1 l Z n0 [] y by' ml' ret' rm as h Q) (w1 : (Jvm.Cond.methodLink own index y).before a0 Z = true) (w2 : (Jvm.Cond.static y).before a0 Z = true) (wc : (Jvm.Cond.code y by' ml' ret').before a0 Z = true) (wz : (Jvm.Cond.initialized y.cls).before a0 Z = true) (hy : y.cls ≠ "java/lang/invoke/MethodHandle" ∧ y.cls ≠ "java/lang/invoke/VarHandle") {ps : List FieldType} {rt : Option FieldType} (pd : parseMethodDescriptor y.desc = some ⟨ps, rt⟩) (argsL : List Value) (has : argsL.toArray = as) (hln : argsL.length = ps.length) (W : Nat) (hW : (st.map fun v => v.category).sum ≤ W) (hsize : L.size = ml) (hf : rm.frames + 1 ≤ R.frames) (hl : W + (ml' + 11) + rm.locals ≤ R.locals) (hc : cells + rm.cells ≤ R.cells) (hs : slots + rm.slots ≤ R.slots) (hd : decode bytes pc = .ok (.invokestatic index, 3)) (r : ∀ T' h' v, Q v h' → Cx p l e R s m args below meth c Z bytes ml own ret mname n0 T' h' (cells + rm.cells) (slots + rm.slots) → Run p e below m K T' pc' L (v.toList ++ st)) (q : pc + 3 = pc' := by rfl) {S : List Value} (hS : S = argsL.reverse ++ st := by rfl) : Run p e below m K T pc L S := by
  obtain ⟨⟨locs, X, N⟩, e0, hx, hby, hml, hZ, hown, hret, hnm, hlk, hsz⟩ := X
  subst q has hS
  obtain ⟨v, _, ⟨T', L', k', n'⟩, -, X', ⟨Lc, hQ', l', y', z'⟩, stp⟩ := Jvm.LawKit.callS X hx (y := y) hown (mvT hZ w1) (mvT hZ w2) (mvT hZ wz) (mvT hZ wc) hy (backOf (W := W) (Q := fun v h' L => Q v h' ∧ Fr n0 L ∧ n0 ≤ h'.size) hM hZ wc wz hf hl) (g := mkF m pc L (argsL.reverse ++ st)) rfl (by rw [hml]; exact hsize) (argsL := argsL) (rest := st) (lenOf pd hln) rfl (by show 2 * 0 + _ ≤ _; omega) (hb hby hd) (fun _ _ => ⟨rfl, e0, hc, hs⟩)
  dsimp only [Pt.U, Pt.locs, Pt.cells, Pt.slots] at X' l' y' z' stp hQ'
  subst l' y' z'
  obtain ⟨hQ1, N1, hs1⟩ := hQ'
  exact Run.of stp (r T' _ v hQ1 ⟨⟨_, X', Fr.app N N1⟩, rfl, hx, hby, hml, hZ, hown, hret, hnm, hlk, hs1⟩)
theorem r_special (pc' : Nat) (X : Cx p l e R s m args below meth c Z bytes ml own ret mname n0 T h cells slots) {a0 : Array Value} {y : MethodName} {by' : ByteArray} {ml' : Nat} {ret' : Option FieldType} {rm : Room} {as : Array Value} {Q : Option Value → Heap → Prop} {index : Nat} {a : Addr} (hM : Met1 l Z n0 [] y by' ml' ret' rm as h Q) (hyn : y.name = "<init>") (hr0 : ret' = none) (w1 : (Jvm.Cond.methodLink own index y).before a0 Z = true) (w2 : (Jvm.Cond.instanceMethod y).before a0 Z = true) (wc : (Jvm.Cond.code y by' ml' ret').before a0 Z = true) (wz : (Jvm.Cond.initialized y.cls).before a0 Z = true) (hy : y.cls ≠ "java/lang/invoke/MethodHandle" ∧ y.cls ≠ "java/lang/invoke/VarHandle") {ps : List FieldType} {rt : Option FieldType} (pd : parseMethodDescriptor y.desc = some ⟨ps, rt⟩) (argsL : List Value) (has : (Value.ref a :: argsL).toArray = as) (hln : argsL.length = ps.length) (W : Nat) (hW : (st.map fun v => v.category).sum ≤ W) (hsize : L.size = ml) (hf : rm.frames + 1 ≤ R.frames) (hl : W + (ml' + 11) + rm.locals ≤ R.locals) (hc : cells + rm.cells ≤ R.cells) (hs : slots + rm.slots ≤ R.slots) (hd : decode bytes pc = .ok (.invokespecial index, 3)) (r : ∀ T' h' v, Q v h' → Cx p l e R s m args below meth c Z bytes ml own ret mname n0 T' h' (cells + rm.cells) (slots + rm.slots) → Run p e below m K T' pc' L (v.toList ++ st)) (q : pc + 3 = pc' := by rfl) {S : List Value} (hS : S = argsL.reverse ++ Value.ref a :: st := by rfl) : Run p e below m K T pc L S := by
  obtain ⟨⟨locs, X, N⟩, e0, hx, hby, hml, hZ, hown, hret, hnm, hlk, hsz⟩ := X
  subst q has hS
  subst hr0
  obtain ⟨v, _, ⟨T', L', k', n'⟩, -, X', ⟨Lc, hQ', l', y', z'⟩, stp⟩ := X.specialBack hx (y := y) hyn hown (mvT hZ w1) (mvT hZ w2) (mvT hZ wc) hy (backOf (W := W) (Q := fun v h' L => Q v h' ∧ Fr n0 L ∧ n0 ≤ h'.size) hM hZ wc wz hf hl) (g := mkF m pc L (argsL.reverse ++ .ref a :: st)) rfl (by rw [hml]; exact hsize) (Steps.refl _) (a := a) (argsL := argsL) (rest := st) (lenOf pd hln) rfl (by show 2 * 0 + _ ≤ _; omega) (hb hby hd) (fun _ _ => ⟨rfl, e0, hc, hs⟩)
  dsimp only [Pt.U, Pt.locs, Pt.cells, Pt.slots] at X' l' y' z' stp hQ'
  subst l' y' z'
  obtain ⟨hQ1, N1, hs1⟩ := hQ'
  exact Run.of (fun t k => stp.trans k) (r T' _ v hQ1 ⟨⟨_, X', Fr.app N N1⟩, rfl, hx, hby, hml, hZ, hown, hret, hnm, hlk, hs1⟩)
theorem r_virtual (pc' : Nat) (X : Cx p l e R s m args below meth c Z bytes ml own ret mname n0 T h cells slots) {a0 : Array Value} {y : MethodName} {by' : ByteArray} {ml' : Nat} {ret' : Option FieldType} {rm : Room} {as : Array Value} {Q : Option Value → Heap → Prop} {index : Nat} {a : Addr} {C : String} (hM : Met1 l Z n0 [] y by' ml' ret' rm as h Q) (E : Exa Z h a C) (w1 : (Jvm.Cond.methodLink own index y).before a0 Z = true) (w3 : (Jvm.Cond.declares y).before a0 Z = true) (wf : (Jvm.Cond.selects y.cls y y).before a0 Z = true) (w4 : (Jvm.Cond.selects C y y).before a0 Z = true) (w2 : (Jvm.Cond.instanceMethod y).before a0 Z = true) (wc : (Jvm.Cond.code y by' ml' ret').before a0 Z = true) (wz : (Jvm.Cond.initialized y.cls).before a0 Z = true) (hy : y.cls ≠ "java/lang/invoke/MethodHandle" ∧ y.cls ≠ "java/lang/invoke/VarHandle") {ps : List FieldType} {rt : Option FieldType} (pd : parseMethodDescriptor y.desc = some ⟨ps, rt⟩) (argsL : List Value) (has : (Value.ref a :: argsL).toArray = as) (hln : argsL.length = ps.length) (W : Nat) (hW : (st.map fun v => v.category).sum ≤ W) (hsize : L.size = ml) (hf : rm.frames + 1 ≤ R.frames) (hl : W + (ml' + 11) + rm.locals ≤ R.locals) (hc : cells + rm.cells ≤ R.cells) (hs : slots + rm.slots ≤ R.slots) (hd : decode bytes pc = .ok (.invokevirtual index, 3)) (r : ∀ T' h' v, Q v h' → Cx p l e R s m args below meth c Z bytes ml own ret mname n0 T' h' (cells + rm.cells) (slots + rm.slots) → Run p e below m K T' pc' L (v.toList ++ st)) (q : pc + 3 = pc' := by rfl) {S : List Value} (hS : S = argsL.reverse ++ Value.ref a :: st := by rfl) : Run p e below m K T pc L S := by
  obtain ⟨⟨locs, X, N⟩, e0, hx, hby, hml, hZ, hown, hret, hnm, hlk, hsz⟩ := X
  subst q has hS
  obtain ⟨cq, kq, qa, qb, qc⟩ := isOf hZ e0 E
  obtain ⟨v, _, ⟨T', L', k', n'⟩, -, X', ⟨Lc, hQ', l', y', z'⟩, stp⟩ := X.virtualBack hx (C := C) (y := y) (z := y) hown (mvT hZ w1) (mvT hZ w3) (notFace_of_selects (args := #[]) (mvT hZ wf)) (mvT hZ w4) (mvT hZ w2) hy (backOf (W := W) (Q := fun v h' L => Q v h' ∧ Fr n0 L ∧ n0 ≤ h'.size) hM hZ wc wz hf hl) qa qc (g := mkF m pc L (argsL.reverse ++ .ref a :: st)) rfl (by rw [hml]; exact hsize) (Steps.refl _) (argsL := argsL) (rest := st) (lenOf pd hln) rfl (by show 2 * 0 + _ ≤ _; omega) (hb hby hd) (fun _ _ => ⟨rfl, e0, hc, hs⟩)
  dsimp only [Pt.U, Pt.locs, Pt.cells, Pt.slots] at X' l' y' z' stp hQ'
  subst l' y' z'
  obtain ⟨hQ1, N1, hs1⟩ := hQ'
  exact Run.of (fun t k => stp.trans k) (r T' _ v hQ1 ⟨⟨_, X', Fr.app N N1⟩, rfl, hx, hby, hml, hZ, hown, hret, hnm, hlk, hs1⟩)
theorem r_private (pc' : Nat) (X : Cx p l e R s m args below meth c Z bytes ml own ret mname n0 T h cells slots) {a0 : Array Value} {y : MethodName} {by' : ByteArray} {ml' : Nat} {ret' : Option FieldType} {rm : Room} {as : Array Value} {Q : Option Value → Heap → Prop} {index : Nat} {a : Addr} {C : String} (hM : Met1 l Z n0 [] y by' ml' ret' rm as h Q) (E : Exa Z h a C) (w1 : (Jvm.Cond.methodLink own index y).before a0 Z = true) (w2 : (Jvm.Cond.instanceMethod y).before a0 Z = true) {kk : Nat} (wi : (Jvm.Cond.instantiable y.cls kk).before a0 Z = true) (w4 : (Jvm.Cond.privateMethod y).before a0 Z = true) (wc : (Jvm.Cond.code y by' ml' ret').before a0 Z = true) (wz : (Jvm.Cond.initialized y.cls).before a0 Z = true) (hy : y.cls ≠ "java/lang/invoke/MethodHandle" ∧ y.cls ≠ "java/lang/invoke/VarHandle") {ps : List FieldType} {rt : Option FieldType} (pd : parseMethodDescriptor y.desc = some ⟨ps, rt⟩) (argsL : List Value) (has : (Value.ref a :: argsL).toArray = as) (hln : argsL.length = ps.length) (W : Nat) (hW : (st.map fun v => v.category).sum ≤ W) (hsize : L.size = ml) (hf : rm.frames + 1 ≤ R.frames) (hl : W + (ml' + 11) + rm.locals ≤ R.locals) (hc : cells + rm.cells ≤ R.cells) (hs : slots + rm.slots ≤ R.slots) (hd : decode bytes pc = .ok (.invokevirtual index, 3)) (r : ∀ T' h' v, Q v h' → Cx p l e R s m args below meth c Z bytes ml own ret mname n0 T' h' (cells + rm.cells) (slots + rm.slots) → Run p e below m K T' pc' L (v.toList ++ st)) (q : pc + 3 = pc' := by rfl) {S : List Value} (hS : S = argsL.reverse ++ Value.ref a :: st := by rfl) : Run p e below m K T pc L S := by
  obtain ⟨⟨locs, X, N⟩, e0, hx, hby, hml, hZ, hown, hret, hnm, hlk, hsz⟩ := X
  subst q has hS
  obtain ⟨cq, qq, qq'⟩ := E.cell
  obtain ⟨ci, ki, hi1, hi2, -, hi3, -⟩ := Cond.instantiable_spec (mvT hZ wi (args := #[]) : (Jvm.Cond.instantiable y.cls kk).before #[] s = true)
  have hpv := Cond.privateMethod_at (mvP hZ w4 (args := #[]))
  obtain ⟨v, _, ⟨T', L', k', n'⟩, -, X', ⟨Lc, hQ', l', y', z'⟩, stp⟩ := X.privateBack hx (y := y) hown (mvT hZ w1) (mvT hZ w2) (selects_self_of_private hi1 hi2 (Bool.or_eq_false_iff.mp hi3).1 hpv (mvT hZ w2) hy) hpv (mvT hZ wc) hy (backOf (W := W) (Q := fun v h' L => Q v h' ∧ Fr n0 L ∧ n0 ≤ h'.size) hM hZ wc wz hf hl) (g := mkF m pc L (argsL.reverse ++ .ref a :: st)) rfl (by rw [hml]; exact hsize) (Steps.refl _) (a := a) (by rw [e0]; exact qq) qq' (argsL := argsL) (rest := st) (lenOf pd hln) rfl (by show 2 * 0 + _ ≤ _; omega) (hb hby hd) (fun _ _ => ⟨rfl, e0, hc, hs⟩)
  dsimp only [Pt.U, Pt.locs, Pt.cells, Pt.slots] at X' l' y' z' stp hQ'
  subst l' y' z'
  obtain ⟨hQ1, N1, hs1⟩ := hQ'
  exact Run.of (fun t k => stp.trans k) (r T' _ v hQ1 ⟨⟨_, X', Fr.app N N1⟩, rfl, hx, hby, hml, hZ, hown, hret, hnm, hlk, hs1⟩)
theorem r_newarrayE (pc' : Nat) (X : Cx p l e R s m args below meth c Z bytes ml own ret mname n0 T h cells slots) {a0 : Array Value} {aty : ArrayType} {z : Int32} (n cap : Nat) (ad : String) (had : "[" ++ (newarray.typeOf aty).toString = ad) (w : (Jvm.Cond.arrayClass (newarray.typeOf aty)).before a0 Z = true) (hd : decode bytes pc = .ok (.newarray aty, 2)) (hz : z.toInt = (n : Int)) (hcap : n ≤ cap) (hb8 : cap * 8 ≤ 536870912) (hc : cells + 1 ≤ R.cells) (hl : slots + cap ≤ R.slots) (r : ∀ T' h' b, b = h.size → n0 ≤ b → Ext h h' → Exa Z h' b ad → AF Z h' b (newarray.typeOf aty) n (fun _ => defaultValue (newarray.typeOf aty)) → Cx p l e R s m args below meth c Z bytes ml own ret mname n0 T' h' (cells + 1) (slots + cap) → Run p e below m K T' pc' L (.ref b :: st)) (q : pc + 2 = pc' := by rfl) : Run p e below m K T pc L (.int z :: st) := by
  obtain ⟨⟨locs, X, N⟩, e0, hx, hby, hml, hZ, hown, hret, hnm, hlk, hsz⟩ := X
  subst q
  have hz0 : ¬ z < 0 := by rw [Int32.lt_iff_toInt_lt]; have : (0 : Int32).toInt = 0 := rfl; omega
  have hzn : z.toNatClampNeg = n := by show z.toInt.toNat = n; omega
  have hzl := z.toInt_lt
  obtain ⟨T', h', cA, X', e', E', A', Ex', stp⟩ := newPE X hx hZ w e0 (g := mkF m pc L (.int z :: st)) rfl (hb hby hd) rfl hz0 (cap := cap) (by rw [hzn]; exact hcap) hb8 hc hl had
  refine Run.of stp (r T' h' h.size rfl hsz E' Ex' ⟨_, A', by rw [sz_new, hzn], by omega, fun j hj => ?_⟩ ⟨⟨_, X', N⟩, e', hx, hby, hml, hZ, hown, hret, hnm, hlk, Nat.le_trans hsz E'.1⟩)
  simp [newA, hzn, hj]
theorem r_clone (pc' : Nat) (X : Cx p l e R s m args below meth c Z bytes ml own ret mname n0 T h cells slots) {a0 : Array Value} {ad : String} {index : Nat} (w1 : (Jvm.Cond.methodLink own index ⟨ad, "clone", "()Ljava/lang/Object;"⟩).before a0 Z = true) (w2 : (Jvm.Cond.sameMethod ad "java/lang/Object" "clone" "()Ljava/lang/Object;").before a0 Z = true) (w3 : (Jvm.Cond.native ⟨"java/lang/Object", "clone", "()Ljava/lang/Object;"⟩).before a0 Z = true) (w4 : (Jvm.Cond.instanceMethod ⟨"java/lang/Object", "clone", "()Ljava/lang/Object;"⟩).before a0 Z = true) (w5 : (Jvm.Cond.selects ad ⟨ad, "clone", "()Ljava/lang/Object;"⟩ ⟨"java/lang/Object", "clone", "()Ljava/lang/Object;"⟩).before a0 Z = true) (w6 : (Jvm.Cond.castable ad "java/lang/Cloneable").before a0 Z = true) {a : Addr} {ty : FieldType} {n : Nat} {f : Nat → Value} (A : AF Z h a ty n f) (E : Exa Z h a ad) (hfit : ∀ j, j < n → fits ty (f j) = true) (cap : Nat) (hcap : n ≤ cap) (W : Nat) (hW : (st.map fun v => v.category).sum ≤ W) (hsize : L.size = ml) (hf : 1 ≤ R.frames) (hl : W + 14 ≤ R.locals) (hc : cells + 1 ≤ R.cells) (hs : slots + cap ≤ R.slots) (hd : decode bytes pc = .ok (.invokevirtual index, 3)) (r : ∀ T' h' b, b = h.size → n0 ≤ b → Ext h h' → Exa Z h' b ad → AF Z h' b ty n f → Cx p l e R s m args below meth c Z bytes ml own ret mname n0 T' h' (cells + 1) (slots + cap) → Run p e below m K T' pc' L (.ref b :: st)) (q : pc + 3 = pc' := by rfl) : Run p e below m K T pc L (.ref a :: st) := by
  obtain ⟨⟨locs, X, N⟩, e0, hx, hby, hml, hZ, hown, hret, hnm, hlk, hsz⟩ := X
  subst q
  obtain ⟨cl, A, S, q, H⟩ := A
  have FC : FitC Z cl := fitC_of A fun i hi v hv => by rw [S] at hi; rw [H i hi] at hv; cases hv; exact hfit i hi
  obtain ⟨T', h', X', e', E', A', Ex', stp⟩ := cloneA X hx hZ hown w1 w2 w3 w4 w5 w6 e0 A E FC (g := mkF m pc L (.ref a :: st)) rfl (by rw [hml]; exact hsize) rfl (hb hby hd) hf (W := W) (cap := cap) (by show 2 * 0 + _ ≤ _; omega) hl (by rw [S]; exact hcap) hc hs
  exact Run.of stp (r T' h' h.size rfl hsz E' Ex' ⟨_, A', S, q, H⟩ ⟨⟨_, X', N⟩, e', hx, hby, hml, hZ, hown, hret, hnm, hlk, Nat.le_trans hsz E'.1⟩)
theorem r_castY (pc' : Nat) (X : Cx p l e R s m args below meth c Z bytes ml own ret mname n0 T h cells slots) {a0 : Array Value} {K0 : String} {index : Nat} (w : (Jvm.Cond.classLink own index K0).before a0 Z = true) {a : Addr} (F : Ins Z h a K0 true) (hd : decode bytes pc = .ok (.checkcast index, 3)) (r : ∀ T', Cx p l e R s m args below meth c Z bytes ml own ret mname n0 T' h cells slots → Run p e below m K T' pc' L (.ref a :: st)) (q : pc + 3 = pc' := by rfl) : Run p e below m K T pc L (.ref a :: st) := by
  obtain ⟨⟨locs, X, N⟩, e0, hx, hby, hml, hZ, hown, r1⟩ := X
  subst q
  obtain ⟨T', X', e', stp⟩ := castY X hx hZ hown w e0 F (g := mkF m pc L (.ref a :: st)) rfl rfl (hb hby hd)
  exact Run.of stp (r T' ⟨⟨locs, X', N⟩, e', hx, hby, hml, hZ, hown, r1⟩)
theorem r_instY (pc' : Nat) (X : Cx p l e R s m args below meth c Z bytes ml own ret mname n0 T h cells slots) {a0 : Array Value} {K0 : String} {index : Nat} (w : (Jvm.Cond.classLink own index K0).before a0 Z = true) {a : Addr} (F : Ins Z h a K0 true) (hd : decode bytes pc = .ok (.instanceof index, 3)) (r : ∀ T', Cx p l e R s m args below meth c Z bytes ml own ret mname n0 T' h cells slots → Run p e below m K T' pc' L (.int 1 :: st)) (q : pc + 3 = pc' := by rfl) : Run p e below m K T pc L (.ref a :: st) := by
  obtain ⟨⟨locs, X, N⟩, e0, hx, hby, hml, hZ, hown, r1⟩ := X
  subst q
  obtain ⟨T', X', e', stp⟩ := instY X hx hZ hown w e0 F (g := mkF m pc L (.ref a :: st)) rfl rfl (hb hby hd)
  exact Run.of stp (r T' ⟨⟨locs, X', N⟩, e', hx, hby, hml, hZ, hown, r1⟩)
theorem r_instN (pc' : Nat) (X : Cx p l e R s m args below meth c Z bytes ml own ret mname n0 T h cells slots) {a0 : Array Value} {K0 C : String} {index : Nat} (w : (Jvm.Cond.classLink own index K0).before a0 Z = true) {a : Addr} (F : Ins Z s.heap a K0 false) (E : Exa Z s.heap a C) (hd : decode bytes pc = .ok (.instanceof index, 3)) (r : ∀ T', Cx p l e R s m args below meth c Z bytes ml own ret mname n0 T' h cells slots → Run p e below m K T' pc' L (.int 0 :: st)) (q : pc + 3 = pc' := by rfl) : Run p e below m K T pc L (.ref a :: st) := by
  obtain ⟨⟨locs, X, N⟩, e0, hx, hby, hml, hZ, hown, r1⟩ := X
  subst q
  obtain ⟨T', X', e', stp⟩ := instN X hx hZ hown w e0 F E (g := mkF m pc L (.ref a :: st)) rfl rfl (hb hby hd)
  exact Run.of stp (r T' ⟨⟨locs, X', N⟩, e', hx, hby, hml, hZ, hown, r1⟩)
theorem r_instNull (pc' : Nat) (X : Cx p l e R s m args below meth c Z bytes ml own ret mname n0 T h cells slots) {index : Nat} (hd : decode bytes pc = .ok (.instanceof index, 3)) (r : Run p e below m K T pc' L (.int 0 :: st)) (q : pc + 3 = pc' := by rfl) : Run p e below m K T pc L (.null :: st) := by
  obtain ⟨⟨locs, X, -⟩, -, hx, hby, -⟩ := X
  subst q hby
  exact Run.of (fun t k => X.instanceofNull hx (g := mkF m pc L (.null :: st)) rfl rfl hd _ k) r
def b2i (P : Prop) [Decidable P] : Int32 := if P then 1 else 0
theorem b2i_t {P : Prop} [Decidable P] (h : P) : b2i P = 1 := if_pos h
theorem b2i_f {P : Prop} [Decidable P] (h : ¬ P) : b2i P = 0 := if_neg h
theorem b2i_eq0 {P : Prop} [Decidable P] (h : ¬ P) : b2i P = 0 := if_neg h
theorem b2i_ne0 {P : Prop} [Decidable P] (h : P) : ¬ b2i P = 0 := by rw [b2i_t h]; decide
theorem b2i_01 {P : Prop} [Decidable P] : b2i P = 0 ∨ b2i P = 1 := by by_cases h : P; exact Or.inr (b2i_t h); exact Or.inl (b2i_f h)
theorem b2i_nar {P : Prop} [Decidable P] : nar .boolean (b2i P) = b2i P := by by_cases h : P; (rw [b2i_t h]; rfl); (rw [b2i_f h]; rfl)
theorem b2i_congr {P Q : Prop} [Decidable P] [Decidable Q] (h : P ↔ Q) : b2i P = b2i Q := by by_cases q : P; (rw [b2i_t q, b2i_t (h.mp q)]); (rw [b2i_f q, b2i_f (fun z => q (h.mpr z))])
theorem ltI {x y : Int32} {a b : Int} (hx : x.toInt = a) (hy : y.toInt = b) : x < y ↔ a < b := by rw [Int32.lt_iff_toInt_lt, hx, hy]
theorem eqI {x y : Int32} {a b : Int} (hx : x.toInt = a) (hy : y.toInt = b) : x = y ↔ a = b := by rw [← Int32.toInt_inj, hx, hy]
theorem ltJ {x y : Int64} {a b : Int} (hx : x.toInt = a) (hy : y.toInt = b) : x < y ↔ a < b := by rw [Int64.lt_iff_toInt_lt, hx, hy]
theorem eqJ {x y : Int64} {a b : Int} (hx : x.toInt = a) (hy : y.toInt = b) : x = y ↔ a = b := by rw [← Int64.toInt_inj, hx, hy]
theorem addI {x y : Int32} {a b : Int} (hx : x.toInt = a) (hy : y.toInt = b) (h1 : -2147483648 ≤ a + b) (h2 : a + b < 2147483648) : (x + y).toInt = a + b := by have h := c_iadd x y; have r := rng32 (x + y); rw [hx, hy] at h; omega
theorem subI {x y : Int32} {a b : Int} (hx : x.toInt = a) (hy : y.toInt = b) (h1 : -2147483648 ≤ a - b) (h2 : a - b < 2147483648) : (x - y).toInt = a - b := by have h := c_isub x y; have r := rng32 (x - y); rw [hx, hy] at h; omega
theorem addJ {x y : Int64} {a b : Int} (hx : x.toInt = a) (hy : y.toInt = b) (h1 : -9223372036854775808 ≤ a + b) (h2 : a + b < 9223372036854775808) : (x + y).toInt = a + b := by have h := c_ladd x y; have r := rng64 (x + y); rw [hx, hy] at h; omega
theorem subJ {x y : Int64} {a b : Int} (hx : x.toInt = a) (hy : y.toInt = b) (h1 : -9223372036854775808 ≤ a - b) (h2 : a - b < 9223372036854775808) : (x - y).toInt = a - b := by have h := c_lsub x y; have r := rng64 (x - y); rw [hx, hy] at h; omega
theorem natI (n : Nat) (h : n < 2147483648) : (Int32.ofNat n).toInt = n := Int32.toInt_ofNat_small h
def updI (g : Nat → Int32) (i : Nat) (x : Int32) : Nat → Int32 := fun j => if j = i then x else g j
theorem updI_hit {g : Nat → Int32} {i : Nat} {x : Int32} : updI g i x i = x := if_pos rfl
theorem updI_miss {g : Nat → Int32} {i j : Nat} {x : Int32} (q : j ≠ i) : updI g i x j = g j := if_neg q
theorem AF.setI {a : Addr} {ty : FieldType} {n i : Nat} {x : Int32} {g : Nat → Int32} {h' : Heap} (A : AF Z h a ty n (fun j => .int (g j))) (W : Wr h h' a i (.int x)) : AF Z h' a ty n (fun j => .int (updI g i x j)) := (A.set W).congr fun j _ => by by_cases q : j = i <;> simp [upd, updI, q]
def updJ (g : Nat → Int64) (i : Nat) (x : Int64) : Nat → Int64 := fun j => if j = i then x else g j
theorem updJ_hit {g : Nat → Int64} {i : Nat} {x : Int64} : updJ g i x i = x := if_pos rfl
theorem updJ_miss {g : Nat → Int64} {i j : Nat} {x : Int64} (q : j ≠ i) : updJ g i x j = g j := if_neg q
theorem AF.setJ {a : Addr} {ty : FieldType} {n i : Nat} {x : Int64} {g : Nat → Int64} {h' : Heap} (A : AF Z h a ty n (fun j => .long (g j))) (W : Wr h h' a i (.long x)) : AF Z h' a ty n (fun j => .long (updJ g i x j)) := (A.set W).congr fun j _ => by by_cases q : j = i <;> simp [upd, updJ, q]
end Own
theorem pd_0 : parseMethodDescriptor "()V" = some ⟨[], none⟩ := by decide +kernel
theorem pd_1 : parseMethodDescriptor "(I)I" = some ⟨[.int], some .int⟩ := by decide +kernel
theorem pd_2 : parseMethodDescriptor "(II)V" = some ⟨[.int, .int], none⟩ := by decide +kernel
theorem pd_3 : parseMethodDescriptor "(Lcom/example/corollary/corollary/reason/Relation;[I[I)V" = some ⟨[(.object "com/example/corollary/corollary/reason/Relation"), (.array .int), (.array .int)], none⟩ := by decide +kernel
theorem pd_4 : parseMethodDescriptor "([Z)I" = some ⟨[(.array .boolean)], some .int⟩ := by decide +kernel
theorem pd_5 : parseMethodDescriptor "(III)I" = some ⟨[.int, .int, .int], some .int⟩ := by decide +kernel
theorem d3_0 : decode jdk_30_method_1_code 0 = .ok (.aload_n 0, 1) := by decide +kernel
theorem d3_1 : decode jdk_30_method_1_code 1 = .ok (.invokespecial 1, 3) := by decide +kernel
theorem d3_4 : decode jdk_30_method_1_code 4 = .ok (.return_, 1) := by decide +kernel
theorem pn_3 : plainName "java/lang/Record" = true := by first | (simp [plainName, overriddenIn]; done) | decide +kernel
theorem ef_3 (m : MethodId) (x0 : Addr) : entryFrame m #[(.ref x0)] 1 = mkF m 0 #[.val (.ref x0)] [] := by first | (simp [entryFrame, mkF, argsToLocals, Value.category]; done) | rfl
set_option maxRecDepth 65536 in
set_option maxHeartbeats 40000000 in
theorem rmRec (l : Launch) (Z : State) (a0 : Array Value) (hw : ∀ d ∈ tables_1, d.before a0 Z = true) (n0 : Nat) (h : Heap) (Z0 : n0 ≤ h.size) (a1 : Addr)  :
    Met1 l Z n0 [] (⟨"java/lang/Record", "<init>", "()V"⟩ : MethodName) jdk_30_method_1_code 1 none ({ frames := 1, cells := 0, slots := 0, locals := 12 } : Room) #[(.ref a1)] h (fun v h' => v = none ∧ h = h') := by
  refine met_of (plainFor_of_name pn_3) Z0 (fun m => ef_3 m a1) ?_
  intro p e s m below meth c T hs0 X
  refine r_aloadN 1 X d3_0 rfl rfl ?_
  refine r_initO 4 X (hw _ (List.mem_of_getElem? (i := 20) rfl)) (hw _ (List.mem_of_getElem? (i := 21) rfl)) (hw _ (List.mem_of_getElem? (i := 22) rfl)) d3_1 rfl (by decide) 0 (Nat.le_of_eq rfl) (by decide) ?_
  intro T X
  refine r_retV X d3_4 (by decide) (by decide) ?_
  exact ⟨rfl, rfl⟩
theorem d2_0 : decode prog_27_method_1_code 0 = .ok (.aload_n 0, 1) := by decide +kernel
theorem d2_1 : decode prog_27_method_1_code 1 = .ok (.invokespecial 1, 3) := by decide +kernel
theorem d2_4 : decode prog_27_method_1_code 4 = .ok (.aload_n 0, 1) := by decide +kernel
theorem d2_5 : decode prog_27_method_1_code 5 = .ok (.iload_n 1, 1) := by decide +kernel
theorem d2_6 : decode prog_27_method_1_code 6 = .ok (.putfield 7, 3) := by decide +kernel
theorem d2_9 : decode prog_27_method_1_code 9 = .ok (.aload_n 0, 1) := by decide +kernel
theorem d2_10 : decode prog_27_method_1_code 10 = .ok (.iload_n 2, 1) := by decide +kernel
theorem d2_11 : decode prog_27_method_1_code 11 = .ok (.putfield 13, 3) := by decide +kernel
theorem d2_14 : decode prog_27_method_1_code 14 = .ok (.return_, 1) := by decide +kernel
theorem pn_2 : plainName "com/example/corollary/corollary/reason/Relation" = true := by first | (simp [plainName, overriddenIn]; done) | decide +kernel
theorem ef_2 (m : MethodId) (x0 : Addr) (x1 : Int32) (x2 : Int32) : entryFrame m #[(.ref x0), (.int x1), (.int x2)] 3 = mkF m 0 #[.val (.ref x0), .val (.int x1), .val (.int x2)] [] := by first | (simp [entryFrame, mkF, argsToLocals, Value.category]; done) | rfl
set_option maxRecDepth 65536 in
set_option maxHeartbeats 40000000 in
theorem rmRel (l : Launch) (Z : State) (a0 : Array Value) (hw : ∀ d ∈ tables_1, d.before a0 Z = true) (n0 : Nat) (h : Heap) (Z0 : n0 ≤ h.size) (a1 : Addr) (p1 : Int32) (p2 : Int32) (E_a1 : Exa Z h a1 "com/example/corollary/corollary/reason/Relation") (F_a1_facts : Fld Z h a1 "com/example/corollary/corollary/reason/Relation" "facts" "I" (.int (0 : Int32))) (F_a1_mask : Fld Z h a1 "com/example/corollary/corollary/reason/Relation" "mask" "I" (.int (0 : Int32))) (ga : n0 ≤ a1) :
    Met1 l Z n0 [] (⟨"com/example/corollary/corollary/reason/Relation", "<init>", "(II)V"⟩ : MethodName) prog_27_method_1_code 3 none ({ frames := 2, cells := 0, slots := 0, locals := 24 } : Room) #[(.ref a1), (.int p1), (.int p2)] h (fun v h' => v = none ∧ Keep h h' [a1]) := by
  refine met_of (plainFor_of_name pn_2) Z0 (fun m => ef_2 m a1 p1 p2) ?_
  intro p e s m below meth c T hs0 X
  have K := Keep.refl h [a1]
  refine r_aloadN 1 X d2_0 rfl rfl ?_
  refine r_special 4 X (st := []) (a := a1) (rmRec l Z a0 hw n0 _ X.sz a1) rfl rfl (hw _ (List.mem_of_getElem? (i := 15) rfl)) (hw _ (List.mem_of_getElem? (i := 16) rfl)) (hw _ (List.mem_of_getElem? (i := 19) rfl)) (hw _ (List.mem_of_getElem? (i := 18) rfl)) (by decide) pd_0 [] rfl rfl 0 (Nat.le_of_eq rfl) rfl (by decide) (by decide) (by decide) (by decide) d2_1 ?_
  rintro T h1 v1 ⟨rfl, rfl⟩ X
  change Run _ _ _ _ _ _ _ _ []
  refine r_aloadN 5 X d2_4 rfl rfl ?_
  refine r_iloadN 6 X d2_5 rfl ?_
  refine r_putfield 9 X (host := "") (Or.inl (hw _ (List.mem_of_getElem? (i := 23) rfl))) Via.refl F_a1_facts E_a1 (Or.inr ⟨(hw _ (List.mem_of_getElem? (i := 24) rfl)), rfl, rfl⟩) (hw _ (List.mem_of_getElem? (i := 10) rfl)) (ty := .int) (by decide) rfl rfl ga d2_6 ?_
  intro T h2 W2 X
  have K := K.wr W2 (Or.inl (List.mem_of_getElem? (i := 0) rfl))
  have E_a1 := E_a1.wr W2
  have F_a1_facts := F_a1_facts.same W2
  have F_a1_mask := F_a1_mask.other W2 (Or.inr (slot_ne (Or.inr (hw _ (List.mem_of_getElem? (i := 26) rfl))) (Or.inr (hw _ (List.mem_of_getElem? (i := 24) rfl))) (by decide) (t := .int) (t' := .int) (by decide) (by decide)))
  refine r_aloadN 10 X d2_9 rfl rfl ?_
  refine r_iloadN 11 X d2_10 rfl ?_
  refine r_putfield 14 X (host := "") (Or.inl (hw _ (List.mem_of_getElem? (i := 25) rfl))) Via.refl F_a1_mask E_a1 (Or.inr ⟨(hw _ (List.mem_of_getElem? (i := 26) rfl)), rfl, rfl⟩) (hw _ (List.mem_of_getElem? (i := 10) rfl)) (ty := .int) (by decide) rfl rfl ga d2_11 ?_
  intro T h3 W3 X
  have K := K.wr W3 (Or.inl (List.mem_of_getElem? (i := 0) rfl))
  have E_a1 := E_a1.wr W3
  have F_a1_facts := F_a1_facts.other W3 (Or.inr (slot_ne (Or.inr (hw _ (List.mem_of_getElem? (i := 24) rfl))) (Or.inr (hw _ (List.mem_of_getElem? (i := 26) rfl))) (by decide) (t := .int) (t' := .int) (by decide) (by decide)))
  have F_a1_mask := F_a1_mask.same W3
  refine r_retV X d2_14 (by decide) (by decide) ?_
  exact ⟨rfl, K⟩
theorem d5_0 : decode prog_23_method_1_code 0 = .ok (.aload_n 0, 1) := by decide +kernel
theorem d5_1 : decode prog_23_method_1_code 1 = .ok (.invokespecial 1, 3) := by decide +kernel
theorem d5_4 : decode prog_23_method_1_code 4 = .ok (.aload_n 0, 1) := by decide +kernel
theorem d5_5 : decode prog_23_method_1_code 5 = .ok (.aload_n 1, 1) := by decide +kernel
theorem d5_6 : decode prog_23_method_1_code 6 = .ok (.putfield 7, 3) := by decide +kernel
theorem d5_9 : decode prog_23_method_1_code 9 = .ok (.aload_n 0, 1) := by decide +kernel
theorem d5_10 : decode prog_23_method_1_code 10 = .ok (.aload_n 2, 1) := by decide +kernel
theorem d5_11 : decode prog_23_method_1_code 11 = .ok (.invokevirtual 13, 3) := by decide +kernel
theorem d5_14 : decode prog_23_method_1_code 14 = .ok (.checkcast 14, 3) := by decide +kernel
theorem d5_17 : decode prog_23_method_1_code 17 = .ok (.putfield 19, 3) := by decide +kernel
theorem d5_20 : decode prog_23_method_1_code 20 = .ok (.aload_n 0, 1) := by decide +kernel
theorem d5_21 : decode prog_23_method_1_code 21 = .ok (.aload_n 3, 1) := by decide +kernel
theorem d5_22 : decode prog_23_method_1_code 22 = .ok (.invokevirtual 13, 3) := by decide +kernel
theorem d5_25 : decode prog_23_method_1_code 25 = .ok (.checkcast 14, 3) := by decide +kernel
theorem d5_28 : decode prog_23_method_1_code 28 = .ok (.putfield 22, 3) := by decide +kernel
theorem d5_31 : decode prog_23_method_1_code 31 = .ok (.return_, 1) := by decide +kernel
theorem pn_5 : plainName "com/example/corollary/corollary/reason/Atom" = true := by first | (simp [plainName, overriddenIn]; done) | decide +kernel
theorem ef_5 (m : MethodId) (x0 : Addr) (x1 : Addr) (x2 : Addr) (x3 : Addr) : entryFrame m #[(.ref x0), (.ref x1), (.ref x2), (.ref x3)] 4 = mkF m 0 #[.val (.ref x0), .val (.ref x1), .val (.ref x2), .val (.ref x3)] [] := by first | (simp [entryFrame, mkF, argsToLocals, Value.category]; done) | rfl
set_option maxRecDepth 65536 in
set_option maxHeartbeats 40000000 in
theorem rmAtom (l : Launch) (Z : State) (a0 : Array Value) (hw : ∀ d ∈ tables_1, d.before a0 Z = true) (n0 : Nat) (h : Heap) (Z0 : n0 ≤ h.size) (a1 a2 a3 a4 : Addr) (uf vf : Nat → Int32) (E_a1 : Exa Z h a1 "com/example/corollary/corollary/reason/Atom") (F_a1_relation : Fld Z h a1 "com/example/corollary/corollary/reason/Atom" "relation" "Lcom/example/corollary/corollary/reason/Relation;" .null) (F_a1_values : Fld Z h a1 "com/example/corollary/corollary/reason/Atom" "values" "[I" .null) (F_a1_variables : Fld Z h a1 "com/example/corollary/corollary/reason/Atom" "variables" "[I" .null) (E_a3 : Exa Z h a3 "[I") (A_a3 : AF Z h a3 .int 3 (fun j => .int (uf j))) (E_a4 : Exa Z h a4 "[I") (A_a4 : AF Z h a4 .int 3 (fun j => .int (vf j))) (ga : n0 ≤ a1) (ne_a3_a1 : a3 ≠ a1) (ne_a4_a1 : a4 ≠ a1) :
    Met1 l Z n0 [] (⟨"com/example/corollary/corollary/reason/Atom", "<init>", "(Lcom/example/corollary/corollary/reason/Relation;[I[I)V"⟩ : MethodName) prog_23_method_1_code 4 none ({ frames := 1, cells := 2, slots := 6, locals := 15 } : Room) #[(.ref a1), (.ref a2), (.ref a3), (.ref a4)] h (fun v h' => v = none ∧ Keep h h' [a1] ∧ Exa Z h' a1 "com/example/corollary/corollary/reason/Atom" ∧ ∃ b, h.size ≤ b ∧ n0 ≤ b ∧ Fld Z h' a1 "com/example/corollary/corollary/reason/Atom" "variables" "[I" (.ref b) ∧ AF Z h' b .int 3 (fun j => .int (vf j))) := by
  refine met_of (plainFor_of_name pn_5) Z0 (fun m => ef_5 m a1 a2 a3 a4) ?_
  intro p e s m below meth c T hs0 X
  have K := Keep.refl h [a1]
  refine r_aloadN 1 X d5_0 rfl rfl ?_
  refine r_initO 4 X (hw _ (List.mem_of_getElem? (i := 30) rfl)) (hw _ (List.mem_of_getElem? (i := 21) rfl)) (hw _ (List.mem_of_getElem? (i := 22) rfl)) d5_1 rfl (by decide) 0 (Nat.le_of_eq rfl) (by decide) ?_
  intro T X
  refine r_aloadN 5 X d5_4 rfl rfl ?_
  refine r_aloadN 6 X d5_5 rfl rfl ?_
  refine r_putfield 9 X (host := "") (Or.inl (hw _ (List.mem_of_getElem? (i := 31) rfl))) Via.refl F_a1_relation E_a1 (Or.inr ⟨(hw _ (List.mem_of_getElem? (i := 32) rfl)), rfl, rfl⟩) (hw _ (List.mem_of_getElem? (i := 7) rfl)) (ty := (.object "com/example/corollary/corollary/reason/Relation")) (by decide) rfl rfl ga d5_6 ?_
  intro T h1 W1 X
  have K := K.wr W1 (Or.inl (List.mem_of_getElem? (i := 0) rfl))
  have E_a1 := E_a1.wr W1
  have F_a1_relation := F_a1_relation.same W1
  have F_a1_values := F_a1_values.other W1 (Or.inr (slot_ne (Or.inr (hw _ (List.mem_of_getElem? (i := 43) rfl))) (Or.inr (hw _ (List.mem_of_getElem? (i := 32) rfl))) (by decide) (t := (.array .int)) (t' := (.object "com/example/corollary/corollary/reason/Relation")) (by decide) (by decide)))
  have F_a1_variables := F_a1_variables.other W1 (Or.inr (slot_ne (Or.inr (hw _ (List.mem_of_getElem? (i := 45) rfl))) (Or.inr (hw _ (List.mem_of_getElem? (i := 32) rfl))) (by decide) (t := (.array .int)) (t' := (.object "com/example/corollary/corollary/reason/Relation")) (by decide) (by decide)))
  have E_a3 := E_a3.wr W1
  have A_a3 := A_a3.other W1 ne_a3_a1
  have E_a4 := E_a4.wr W1
  have A_a4 := A_a4.other W1 ne_a4_a1
  refine r_aloadN 10 X d5_9 rfl rfl ?_
  refine r_aloadN 11 X d5_10 rfl rfl ?_
  refine r_clone 14 X (st := [(.ref a1)]) (hw _ (List.mem_of_getElem? (i := 33) rfl)) (hw _ (List.mem_of_getElem? (i := 34) rfl)) (hw _ (List.mem_of_getElem? (i := 38) rfl)) (hw _ (List.mem_of_getElem? (i := 36) rfl)) (hw _ (List.mem_of_getElem? (i := 37) rfl)) (hw _ (List.mem_of_getElem? (i := 39) rfl)) A_a3 E_a3 (fun _ _ => rfl) 3 (Nat.le_refl _) 1 (Nat.le_of_eq rfl) rfl (by decide) (by decide) (by decide) (by decide) d5_11 ?_
  intro T h2 b2 g2 gn_b2 E2 E_b2 A_b2 X
  have sz_b2 : h.size ≤ b2 := Nat.le_trans K.1 (Nat.le_of_eq g2.symm)
  have ne_a4_b2 : a4 ≠ b2 := Nat.ne_of_lt (Nat.lt_of_lt_of_eq E_a4.lt g2.symm)
  have ne_a1_b2 : a1 ≠ b2 := Nat.ne_of_lt (Nat.lt_of_lt_of_eq E_a1.lt g2.symm)
  have ne_a3_b2 : a3 ≠ b2 := Nat.ne_of_lt (Nat.lt_of_lt_of_eq E_a3.lt g2.symm)
  have K := K.ext E2
  have E_a1 := E_a1.ext E2
  have F_a1_relation := F_a1_relation.ext E2
  have F_a1_values := F_a1_values.ext E2
  have F_a1_variables := F_a1_variables.ext E2
  have E_a3 := E_a3.ext E2
  have A_a3 := A_a3.ext E2
  have E_a4 := E_a4.ext E2
  have A_a4 := A_a4.ext E2
  refine r_castY 17 X (hw _ (List.mem_of_getElem? (i := 40) rfl)) (Ins.self E_b2) d5_14 ?_
  intro T X
  refine r_putfield 20 X (host := "") (Or.inl (hw _ (List.mem_of_getElem? (i := 42) rfl))) Via.refl F_a1_values E_a1 (Or.inr ⟨(hw _ (List.mem_of_getElem? (i := 43) rfl)), rfl, rfl⟩) (hw _ (List.mem_of_getElem? (i := 7) rfl)) (ty := (.array .int)) (by decide) rfl rfl ga d5_17 ?_
  intro T h3 W3 X
  have K := K.wr W3 (Or.inl (List.mem_of_getElem? (i := 0) rfl))
  have E_a1 := E_a1.wr W3
  have F_a1_relation := F_a1_relation.other W3 (Or.inr (slot_ne (Or.inr (hw _ (List.mem_of_getElem? (i := 32) rfl))) (Or.inr (hw _ (List.mem_of_getElem? (i := 43) rfl))) (by decide) (t := (.object "com/example/corollary/corollary/reason/Relation")) (t' := (.array .int)) (by decide) (by decide)))
  have F_a1_values := F_a1_values.same W3
  have F_a1_variables := F_a1_variables.other W3 (Or.inr (slot_ne (Or.inr (hw _ (List.mem_of_getElem? (i := 45) rfl))) (Or.inr (hw _ (List.mem_of_getElem? (i := 43) rfl))) (by decide) (t := (.array .int)) (t' := (.array .int)) (by decide) (by decide)))
  have E_a3 := E_a3.wr W3
  have A_a3 := A_a3.other W3 ne_a3_a1
  have E_a4 := E_a4.wr W3
  have A_a4 := A_a4.other W3 ne_a4_a1
  have E_b2 := E_b2.wr W3
  have A_b2 := A_b2.other W3 (Ne.symm ne_a1_b2)
  refine r_aloadN 21 X d5_20 rfl rfl ?_
  refine r_aloadN 22 X d5_21 rfl rfl ?_
  refine r_clone 25 X (st := [(.ref a1)]) (hw _ (List.mem_of_getElem? (i := 33) rfl)) (hw _ (List.mem_of_getElem? (i := 34) rfl)) (hw _ (List.mem_of_getElem? (i := 38) rfl)) (hw _ (List.mem_of_getElem? (i := 36) rfl)) (hw _ (List.mem_of_getElem? (i := 37) rfl)) (hw _ (List.mem_of_getElem? (i := 39) rfl)) A_a4 E_a4 (fun _ _ => rfl) 3 (Nat.le_refl _) 1 (Nat.le_of_eq rfl) rfl (by decide) (by decide) (by decide) (by decide) d5_22 ?_
  intro T h4 b4 g4 gn_b4 E4 E_b4 A_b4 X
  have sz_b4 : h.size ≤ b4 := Nat.le_trans K.1 (Nat.le_of_eq g4.symm)
  have ne_a4_b4 : a4 ≠ b4 := Nat.ne_of_lt (Nat.lt_of_lt_of_eq E_a4.lt g4.symm)
  have ne_a1_b4 : a1 ≠ b4 := Nat.ne_of_lt (Nat.lt_of_lt_of_eq E_a1.lt g4.symm)
  have ne_b2_b4 : b2 ≠ b4 := Nat.ne_of_lt (Nat.lt_of_lt_of_eq E_b2.lt g4.symm)
  have ne_a3_b4 : a3 ≠ b4 := Nat.ne_of_lt (Nat.lt_of_lt_of_eq E_a3.lt g4.symm)
  have K := K.ext E4
  have E_a1 := E_a1.ext E4
  have F_a1_relation := F_a1_relation.ext E4
  have F_a1_values := F_a1_values.ext E4
  have F_a1_variables := F_a1_variables.ext E4
  have E_a3 := E_a3.ext E4
  have A_a3 := A_a3.ext E4
  have E_a4 := E_a4.ext E4
  have A_a4 := A_a4.ext E4
  have E_b2 := E_b2.ext E4
  have A_b2 := A_b2.ext E4
  refine r_castY 28 X (hw _ (List.mem_of_getElem? (i := 40) rfl)) (Ins.self E_b4) d5_25 ?_
  intro T X
  refine r_putfield 31 X (host := "") (Or.inl (hw _ (List.mem_of_getElem? (i := 44) rfl))) Via.refl F_a1_variables E_a1 (Or.inr ⟨(hw _ (List.mem_of_getElem? (i := 45) rfl)), rfl, rfl⟩) (hw _ (List.mem_of_getElem? (i := 7) rfl)) (ty := (.array .int)) (by decide) rfl rfl ga d5_28 ?_
  intro T h5 W5 X
  have K := K.wr W5 (Or.inl (List.mem_of_getElem? (i := 0) rfl))
  have E_a1 := E_a1.wr W5
  have F_a1_relation := F_a1_relation.other W5 (Or.inr (slot_ne (Or.inr (hw _ (List.mem_of_getElem? (i := 32) rfl))) (Or.inr (hw _ (List.mem_of_getElem? (i := 45) rfl))) (by decide) (t := (.object "com/example/corollary/corollary/reason/Relation")) (t' := (.array .int)) (by decide) (by decide)))
  have F_a1_values := F_a1_values.other W5 (Or.inr (slot_ne (Or.inr (hw _ (List.mem_of_getElem? (i := 43) rfl))) (Or.inr (hw _ (List.mem_of_getElem? (i := 45) rfl))) (by decide) (t := (.array .int)) (t' := (.array .int)) (by decide) (by decide)))
  have F_a1_variables := F_a1_variables.same W5
  have E_a3 := E_a3.wr W5
  have A_a3 := A_a3.other W5 ne_a3_a1
  have E_a4 := E_a4.wr W5
  have A_a4 := A_a4.other W5 ne_a4_a1
  have E_b2 := E_b2.wr W5
  have A_b2 := A_b2.other W5 (Ne.symm ne_a1_b2)
  have E_b4 := E_b4.wr W5
  have A_b4 := A_b4.other W5 (Ne.symm ne_a1_b4)
  refine r_retV X d5_31 (by decide) (by decide) ?_
  exact ⟨rfl, K, E_a1, b4, sz_b4, gn_b4, F_a1_variables, A_b4⟩
def varV (v : Int32) : Int32 := if (v &&& 4) = 0 then v &&& 3 else -1
abbrev cnd (v bb : Int32) : Prop := ¬ (v &&& 4) = 0 ∨ ¬ (((bb >>> ((v &&& 3) &&& 31)) &&& 1)) = 0
def bitV (v bb i : Int32) : Int32 := if cnd v bb then (1 : Int32) <<< (i &&& 31) else 0
def mM (m : Int32) (g : Nat → Int32) (v i : Int32) : Int32 := if v = -1 ∨ ¬ g v.toInt.toNat = 0 then m ||| ((1 : Int32) <<< (i &&& 31)) else m
theorem mM_yes {m v i : Int32} {g : Nat → Int32} (h : v = -1 ∨ ¬ g v.toInt.toNat = 0) : mM m g v i = m ||| ((1 : Int32) <<< (i &&& 31)) := if_pos h
theorem mM_no {m v i : Int32} {g : Nat → Int32} (h : ¬ (v = -1 ∨ ¬ g v.toInt.toNat = 0)) : mM m g v i = m := if_neg h
theorem own_and2 (n k : Nat) : (n &&& 2 ^ k = 0) ↔ n / 2 ^ k % 2 = 0 := by
  constructor
  · intro h
    have q : (n &&& 2 ^ k).testBit k = false := by rw [h]; exact Nat.zero_testBit k
    rw [Nat.testBit_and, Nat.testBit_two_pow] at q
    have : n.testBit k = false := by simpa using q
    rw [Nat.testBit_eq_decide_div_mod_eq] at this
    have := of_decide_eq_false this
    omega
  · intro h
    apply Nat.eq_of_testBit_eq
    intro i
    rw [Nat.testBit_and, Nat.testBit_two_pow, Nat.zero_testBit]
    by_cases e : k = i
    · subst e
      rw [Nat.testBit_eq_decide_div_mod_eq]
      simp [h]
    · simp [e]
theorem own_bit (x m : Int32) (k : Nat) (hm : m.toBitVec.toNat = 2 ^ k) : (x &&& m = 0) ↔ x.toBitVec.toNat / 2 ^ k % 2 = 0 := by
  have e : (x &&& m = 0) ↔ (x.toBitVec.toNat &&& m.toBitVec.toNat = 0) := by
    rw [← Int32.toBitVec_inj, ← BitVec.toNat_inj]
    show (x.toBitVec &&& m.toBitVec).toNat = 0 ↔ _
    rw [BitVec.toNat_and]
  rw [e, hm, own_and2]
theorem own_nat (x : Int32) : x.toInt = if 2 * x.toBitVec.toNat < 2 ^ 32 then (x.toBitVec.toNat : Int) else (x.toBitVec.toNat : Int) - (2 ^ 32 : Nat) := BitVec.toInt_eq_toNat_cond x.toBitVec
theorem own_sh (bb j m : Int32) (k : Nat) (hk : k ≤ 3) (hj : j.toBitVec.toNat % 32 = k) (hm : m.toBitVec.toNat = 2 ^ k) : (((bb >>> (j &&& 31)) &&& 1) = 0) ↔ (bb &&& m = 0) := by
  rw [own_bit bb m k hm]
  have h1 := c_ishr bb j k hj
  have h2 := c_mask (bb >>> (j &&& 31)) 1 1 (by decide) (by decide)
  have h3 := own_nat bb
  have h4 := bb.toBitVec.isLt
  rw [← Int32.toInt_inj, h2, h1]
  have e0 : (0 : Int32).toInt = 0 := rfl
  rw [e0]
  match k, hk with
  | 0, _ => simp only [Nat.pow_zero] at *; split at h3 <;> omega
  | 1, _ => simp only [Nat.pow_one] at *; split at h3 <;> omega
  | 2, _ => simp only [show 2 ^ 2 = 4 from rfl] at *; split at h3 <;> omega
  | 3, _ => simp only [show 2 ^ 3 = 8 from rfl] at *; split at h3 <;> omega
theorem own_mM (m v bb i : Int32) (g : Nat → Int32) (h0 : g 0 = b2i (¬ (bb &&& 1) = 0)) (h1 : g 1 = b2i (¬ (bb &&& 2) = 0)) (h2 : g 2 = b2i (¬ (bb &&& 4) = 0)) (h3 : g 3 = b2i (¬ (bb &&& 8) = 0)) : mM m g (varV v) i = m ||| bitV v bb i := by
  unfold mM bitV varV
  by_cases q : (v &&& 4) = 0
  · rw [if_pos q]
    have hc := c_mask v 3 2 (by decide) (by decide)
    have hn : ¬ (v &&& 3) = -1 := by rw [← Int32.toInt_inj, hc]; have : (-1 : Int32).toInt = -1 := rfl; omega
    have key : (¬ g (v &&& 3).toInt.toNat = 0) ↔ cnd v bb := by
      unfold cnd
      simp only [q, not_true_eq_false, false_or]
      obtain ⟨w, hw⟩ : ∃ w, w = (v &&& 3) := ⟨_, rfl⟩
      rw [← hw] at hc ⊢
      have hb : ∀ P : Prop, ∀ [Decidable P], (¬ b2i P = 0) ↔ P := fun P _ => ⟨fun z => Classical.byContradiction fun y => z (b2i_f y), fun z => b2i_ne0 z⟩
      have hlt : w.toInt = 0 ∨ w.toInt = 1 ∨ w.toInt = 2 ∨ w.toInt = 3 := by omega
      rcases hlt with e | e | e | e
      · obtain rfl : w = 0 := Int32.toInt_inj.mp e
        rw [show (0 : Int32).toInt.toNat = 0 from rfl, h0, hb, own_sh bb 0 1 0 (by decide) (by decide) (by decide)]
      · obtain rfl : w = 1 := Int32.toInt_inj.mp e
        rw [show (1 : Int32).toInt.toNat = 1 from rfl, h1, hb, own_sh bb 1 2 1 (by decide) (by decide) (by decide)]
      · obtain rfl : w = 2 := Int32.toInt_inj.mp e
        rw [show (2 : Int32).toInt.toNat = 2 from rfl, h2, hb, own_sh bb 2 4 2 (by decide) (by decide) (by decide)]
      · obtain rfl : w = 3 := Int32.toInt_inj.mp e
        rw [show (3 : Int32).toInt.toNat = 3 from rfl, h3, hb, own_sh bb 3 8 3 (by decide) (by decide) (by decide)]
    by_cases y : cnd v bb
    · rw [if_pos (Or.inr (key.mpr y)), if_pos y]
    · rw [if_neg (fun z => z.elim hn (fun u => y (key.mp u))), if_neg y, Int32.or_zero]
  · rw [if_neg q, if_pos (Or.inl rfl), if_pos (Or.inl q)]
theorem own_all (v0 v1 v2 bb : Int32) (g : Nat → Int32) (h0 : g 0 = b2i (¬ (bb &&& 1) = 0)) (h1 : g 1 = b2i (¬ (bb &&& 2) = 0)) (h2 : g 2 = b2i (¬ (bb &&& 4) = 0)) (h3 : g 3 = b2i (¬ (bb &&& 8) = 0)) : mM (mM (mM 0 g (varV v0) 0) g (varV v1) 1) g (varV v2) 2 = (bitV v0 bb 0 ||| bitV v1 bb 1) ||| bitV v2 bb 2 := by
  rw [own_mM _ _ bb _ _ h0 h1 h2 h3, own_mM _ _ bb _ _ h0 h1 h2 h3, own_mM _ _ bb _ _ h0 h1 h2 h3, Int32.zero_or]
theorem d1_0 : decode method_3_code 0 = .ok (.iload_n 0, 1) := by decide +kernel
theorem d1_1 : decode method_3_code 1 = .ok (.iconst 4, 1) := by decide +kernel
theorem d1_2 : decode method_3_code 2 = .ok (.iand, 1) := by decide +kernel
theorem d1_3 : decode method_3_code 3 = .ok (.ifCond .eq 7, 3) := by decide +kernel
theorem d1_6 : decode method_3_code 6 = .ok (.iconst (-1), 1) := by decide +kernel
theorem d1_7 : decode method_3_code 7 = .ok (.goto 6, 3) := by decide +kernel
theorem d1_10 : decode method_3_code 10 = .ok (.iload_n 0, 1) := by decide +kernel
theorem d1_11 : decode method_3_code 11 = .ok (.iconst 3, 1) := by decide +kernel
theorem d1_12 : decode method_3_code 12 = .ok (.iand, 1) := by decide +kernel
theorem d1_13 : decode method_3_code 13 = .ok (.ireturn, 1) := by decide +kernel
theorem pn_1 : plainName "com/example/corollary/corollary/reason/AtomBoundMaskPinLaw" = true := by first | (simp [plainName, overriddenIn]; done) | decide +kernel
theorem ef_1 (m : MethodId) (x0 : Int32) : entryFrame m #[(.int x0)] 1 = mkF m 0 #[.val (.int x0)] [] := by first | (simp [entryFrame, mkF, argsToLocals, Value.category]; done) | rfl
set_option maxRecDepth 65536 in
set_option maxHeartbeats 40000000 in
theorem rmVar (l : Launch) (Z : State) (a0 : Array Value) (hw : ∀ d ∈ tables_1, d.before a0 Z = true) (n0 : Nat) (h : Heap) (Z0 : n0 ≤ h.size) (p1 : Int32)  :
    Met1 l Z n0 [] (⟨"com/example/corollary/corollary/reason/AtomBoundMaskPinLaw", "varOf", "(I)I"⟩ : MethodName) method_3_code 1 (some .int) ({ frames := 0, cells := 0, slots := 0, locals := 0 } : Room) #[(.int p1)] h (fun v h' => v = some (.int (varV p1)) ∧ h = h') := by
  refine met_of (plainFor_of_name pn_1) Z0 (fun m => ef_1 m p1) ?_
  intro p e s m below meth c T hs0 X
  refine r_iloadN 1 X d1_0 rfl ?_
  refine r_iconst 2 X (4 : Int32) d1_1 rfl ?_
  refine r_iand 3 X d1_2 ?_
  by_cases h3_1 : (p1 &&& (4 : Int32)) = (0 : Int32)
  · refine r_ifY 10 X d1_3 ((if0 _ _).trans (teq h3_1).1) ?_
    refine r_iloadN 11 X d1_10 rfl ?_
    refine r_iconst 12 X (3 : Int32) d1_11 rfl ?_
    refine r_iand 13 X d1_12 ?_
    refine r_retI X d1_13 (by decide) (by decide) ?_
    exact ⟨by simp [varV, h3_1], rfl⟩
  · refine r_ifN 6 X d1_3 ((if0 _ _).trans (feq h3_1).1) ?_
    refine r_iconst 7 X (-1 : Int32) d1_6 rfl ?_
    refine r_goto 13 X d1_7 ?_
    refine r_retI X d1_13 (by decide) (by decide) ?_
    exact ⟨by simp [varV, h3_1], rfl⟩
theorem d7_0 : decode method_4_code 0 = .ok (.iload_n 0, 1) := by decide +kernel
theorem d7_1 : decode method_4_code 1 = .ok (.iconst 4, 1) := by decide +kernel
theorem d7_2 : decode method_4_code 2 = .ok (.iand, 1) := by decide +kernel
theorem d7_3 : decode method_4_code 3 = .ok (.ifCond .eq 7, 3) := by decide +kernel
theorem d7_6 : decode method_4_code 6 = .ok (.iconst 1, 1) := by decide +kernel
theorem d7_7 : decode method_4_code 7 = .ok (.goto 4, 3) := by decide +kernel
theorem d7_10 : decode method_4_code 10 = .ok (.iconst 0, 1) := by decide +kernel
theorem d7_11 : decode method_4_code 11 = .ok (.istore_n 3, 1) := by decide +kernel
theorem d7_12 : decode method_4_code 12 = .ok (.iload_n 1, 1) := by decide +kernel
theorem d7_13 : decode method_4_code 13 = .ok (.iload_n 0, 1) := by decide +kernel
theorem d7_14 : decode method_4_code 14 = .ok (.iconst 3, 1) := by decide +kernel
theorem d7_15 : decode method_4_code 15 = .ok (.iand, 1) := by decide +kernel
theorem d7_16 : decode method_4_code 16 = .ok (.ishr, 1) := by decide +kernel
theorem d7_17 : decode method_4_code 17 = .ok (.iconst 1, 1) := by decide +kernel
theorem d7_18 : decode method_4_code 18 = .ok (.iand, 1) := by decide +kernel
theorem d7_19 : decode method_4_code 19 = .ok (.ifCond .eq 7, 3) := by decide +kernel
theorem d7_22 : decode method_4_code 22 = .ok (.iconst 1, 1) := by decide +kernel
theorem d7_23 : decode method_4_code 23 = .ok (.goto 4, 3) := by decide +kernel
theorem d7_26 : decode method_4_code 26 = .ok (.iconst 0, 1) := by decide +kernel
theorem d7_27 : decode method_4_code 27 = .ok (.istore 4, 2) := by decide +kernel
theorem d7_29 : decode method_4_code 29 = .ok (.iload_n 3, 1) := by decide +kernel
theorem d7_30 : decode method_4_code 30 = .ok (.ifCond .ne 8, 3) := by decide +kernel
theorem d7_33 : decode method_4_code 33 = .ok (.iload 4, 2) := by decide +kernel
theorem d7_35 : decode method_4_code 35 = .ok (.ifCond .eq 9, 3) := by decide +kernel
theorem d7_38 : decode method_4_code 38 = .ok (.iconst 1, 1) := by decide +kernel
theorem d7_39 : decode method_4_code 39 = .ok (.iload_n 2, 1) := by decide +kernel
theorem d7_40 : decode method_4_code 40 = .ok (.ishl, 1) := by decide +kernel
theorem d7_41 : decode method_4_code 41 = .ok (.goto 4, 3) := by decide +kernel
theorem d7_44 : decode method_4_code 44 = .ok (.iconst 0, 1) := by decide +kernel
theorem d7_45 : decode method_4_code 45 = .ok (.ireturn, 1) := by decide +kernel
theorem pn_7 : plainName "com/example/corollary/corollary/reason/AtomBoundMaskPinLaw" = true := by first | (simp [plainName, overriddenIn]; done) | decide +kernel
theorem ef_7 (m : MethodId) (x0 : Int32) (x1 : Int32) (x2 : Int32) : entryFrame m #[(.int x0), (.int x1), (.int x2)] 5 = mkF m 0 #[.val (.int x0), .val (.int x1), .val (.int x2), .unset, .unset] [] := by first | (simp [entryFrame, mkF, argsToLocals, Value.category]; done) | rfl
set_option maxRecDepth 65536 in
set_option maxHeartbeats 40000000 in
theorem rmBit (l : Launch) (Z : State) (a0 : Array Value) (hw : ∀ d ∈ tables_1, d.before a0 Z = true) (n0 : Nat) (h : Heap) (Z0 : n0 ≤ h.size) (p1 : Int32) (p2 : Int32) (p3 : Int32)  :
    Met1 l Z n0 [] (⟨"com/example/corollary/corollary/reason/AtomBoundMaskPinLaw", "bit", "(III)I"⟩ : MethodName) method_4_code 5 (some .int) ({ frames := 0, cells := 0, slots := 0, locals := 0 } : Room) #[(.int p1), (.int p2), (.int p3)] h (fun v h' => v = some (.int (bitV p1 p2 p3)) ∧ h = h') := by
  refine met_of (plainFor_of_name pn_7) Z0 (fun m => ef_7 m p1 p2 p3) ?_
  intro p e s m below meth c T hs0 X
  refine r_iloadN 1 X d7_0 rfl ?_
  refine r_iconst 2 X (4 : Int32) d7_1 rfl ?_
  refine r_iand 3 X d7_2 ?_
  have J11_1 : ∀ (T : State), Cx p l e ({ frames := 0, cells := 0, slots := 0, locals := 0 } : Room) s m #[(.int p1), (.int p2), (.int p3)] below meth c Z method_4_code 5 "com/example/corollary/corollary/reason/AtomBoundMaskPinLaw" (some .int) "bit" n0 T h 0 0 → Run p e below m (Fin1 below s n0 (fun v h' => v = some (.int (bitV p1 p2 p3)) ∧ h = h') ({ frames := 0, cells := 0, slots := 0, locals := 0 } : Room).cells ({ frames := 0, cells := 0, slots := 0, locals := 0 } : Room).slots) T 11 #[.val (.int p1), .val (.int p2), .val (.int p3), .unset, .unset] [(.int (b2i (¬ ((p1 &&& (4 : Int32)) = (0 : Int32)))))] := by
    intro T X
    refine r_istoreN 12 X #[.val (.int p1), .val (.int p2), .val (.int p3), .val (.int (b2i (¬ ((p1 &&& (4 : Int32)) = (0 : Int32))))), .unset] d7_11 rfl ?_
    refine r_iloadN 13 X d7_12 rfl ?_
    refine r_iloadN 14 X d7_13 rfl ?_
    refine r_iconst 15 X (3 : Int32) d7_14 rfl ?_
    refine r_iand 16 X d7_15 ?_
    refine r_ishr 17 X d7_16 ?_
    refine r_iconst 18 X (1 : Int32) d7_17 rfl ?_
    refine r_iand 19 X d7_18 ?_
    have J27_2 : ∀ (T : State), Cx p l e ({ frames := 0, cells := 0, slots := 0, locals := 0 } : Room) s m #[(.int p1), (.int p2), (.int p3)] below meth c Z method_4_code 5 "com/example/corollary/corollary/reason/AtomBoundMaskPinLaw" (some .int) "bit" n0 T h 0 0 → Run p e below m (Fin1 below s n0 (fun v h' => v = some (.int (bitV p1 p2 p3)) ∧ h = h') ({ frames := 0, cells := 0, slots := 0, locals := 0 } : Room).cells ({ frames := 0, cells := 0, slots := 0, locals := 0 } : Room).slots) T 27 #[.val (.int p1), .val (.int p2), .val (.int p3), .val (.int (b2i (¬ ((p1 &&& (4 : Int32)) = (0 : Int32))))), .unset] [(.int (b2i (¬ (((p2 >>> ((p1 &&& (3 : Int32)) &&& 31)) &&& (1 : Int32)) = (0 : Int32)))))] := by
      intro T X
      refine r_istore 29 X #[.val (.int p1), .val (.int p2), .val (.int p3), .val (.int (b2i (¬ ((p1 &&& (4 : Int32)) = (0 : Int32))))), .val (.int (b2i (¬ (((p2 >>> ((p1 &&& (3 : Int32)) &&& 31)) &&& (1 : Int32)) = (0 : Int32)))))] d7_27 rfl ?_
      refine r_iloadN 30 X d7_29 rfl ?_
      by_cases h30_3 : ¬ ((p1 &&& (4 : Int32)) = (0 : Int32))
      · refine r_ifY 38 X d7_30 ((if0 _ _).trans (feq (b2i_ne0 h30_3)).2) ?_
        refine r_iconst 39 X (1 : Int32) d7_38 rfl ?_
        refine r_iloadN 40 X d7_39 rfl ?_
        refine r_ishl 41 X d7_40 ?_
        refine r_goto 45 X d7_41 ?_
        refine r_retI X d7_45 (by decide) (by decide) ?_
        exact ⟨by simp [bitV, cnd, h30_3], rfl⟩
      · refine r_ifN 33 X d7_30 ((if0 _ _).trans (teq (b2i_eq0 h30_3)).2) ?_
        refine r_iload 35 X d7_33 rfl ?_
        by_cases h35_4 : ¬ (((p2 >>> ((p1 &&& (3 : Int32)) &&& 31)) &&& (1 : Int32)) = (0 : Int32))
        · refine r_ifN 38 X d7_35 ((if0 _ _).trans (feq (b2i_ne0 h35_4)).1) ?_
          refine r_iconst 39 X (1 : Int32) d7_38 rfl ?_
          refine r_iloadN 40 X d7_39 rfl ?_
          refine r_ishl 41 X d7_40 ?_
          refine r_goto 45 X d7_41 ?_
          refine r_retI X d7_45 (by decide) (by decide) ?_
          exact ⟨by simp [bitV, cnd, h30_3, h35_4], rfl⟩
        · refine r_ifY 44 X d7_35 ((if0 _ _).trans (teq (b2i_eq0 h35_4)).1) ?_
          refine r_iconst 45 X (0 : Int32) d7_44 rfl ?_
          refine r_retI X d7_45 (by decide) (by decide) ?_
          exact ⟨by simp [bitV, cnd, h30_3, h35_4], rfl⟩
    by_cases h19_5 : ((p2 >>> ((p1 &&& (3 : Int32)) &&& 31)) &&& (1 : Int32)) = (0 : Int32)
    · refine r_ifY 26 X d7_19 ((if0 _ _).trans (teq h19_5).1) ?_
      refine r_iconst 27 X (0 : Int32) d7_26 rfl ?_
      refine r_topI (x' := (b2i (¬ (((p2 >>> ((p1 &&& (3 : Int32)) &&& 31)) &&& (1 : Int32)) = (0 : Int32))))) (by simp [b2i, h19_5]) ?_
      exact J27_2 _ X
    · refine r_ifN 22 X d7_19 ((if0 _ _).trans (feq h19_5).1) ?_
      refine r_iconst 23 X (1 : Int32) d7_22 rfl ?_
      refine r_goto 27 X d7_23 ?_
      refine r_topI (x' := (b2i (¬ (((p2 >>> ((p1 &&& (3 : Int32)) &&& 31)) &&& (1 : Int32)) = (0 : Int32))))) (by simp [b2i, h19_5]) ?_
      exact J27_2 _ X
  by_cases h3_6 : (p1 &&& (4 : Int32)) = (0 : Int32)
  · refine r_ifY 10 X d7_3 ((if0 _ _).trans (teq h3_6).1) ?_
    refine r_iconst 11 X (0 : Int32) d7_10 rfl ?_
    refine r_topI (x' := (b2i (¬ ((p1 &&& (4 : Int32)) = (0 : Int32))))) (by simp [b2i, h3_6]) ?_
    exact J11_1 _ X
  · refine r_ifN 6 X d7_3 ((if0 _ _).trans (feq h3_6).1) ?_
    refine r_iconst 7 X (1 : Int32) d7_6 rfl ?_
    refine r_goto 11 X d7_7 ?_
    refine r_topI (x' := (b2i (¬ ((p1 &&& (4 : Int32)) = (0 : Int32))))) (by simp [b2i, h3_6]) ?_
    exact J11_1 _ X
theorem d6_0 : decode prog_23_method_5_code 0 = .ok (.iconst 0, 1) := by decide +kernel
theorem d6_1 : decode prog_23_method_5_code 1 = .ok (.istore_n 2, 1) := by decide +kernel
theorem d6_2 : decode prog_23_method_5_code 2 = .ok (.iconst 0, 1) := by decide +kernel
theorem d6_3 : decode prog_23_method_5_code 3 = .ok (.istore_n 3, 1) := by decide +kernel
theorem d6_4 : decode prog_23_method_5_code 4 = .ok (.iload_n 3, 1) := by decide +kernel
theorem d6_5 : decode prog_23_method_5_code 5 = .ok (.iconst 3, 1) := by decide +kernel
theorem d6_6 : decode prog_23_method_5_code 6 = .ok (.if_icmp .ge 36, 3) := by decide +kernel
theorem d6_9 : decode prog_23_method_5_code 9 = .ok (.aload_n 0, 1) := by decide +kernel
theorem d6_10 : decode prog_23_method_5_code 10 = .ok (.getfield 22, 3) := by decide +kernel
theorem d6_13 : decode prog_23_method_5_code 13 = .ok (.iload_n 3, 1) := by decide +kernel
theorem d6_14 : decode prog_23_method_5_code 14 = .ok (.iaload, 1) := by decide +kernel
theorem d6_15 : decode prog_23_method_5_code 15 = .ok (.istore 4, 2) := by decide +kernel
theorem d6_17 : decode prog_23_method_5_code 17 = .ok (.iload 4, 2) := by decide +kernel
theorem d6_19 : decode prog_23_method_5_code 19 = .ok (.iconst (-1), 1) := by decide +kernel
theorem d6_20 : decode prog_23_method_5_code 20 = .ok (.if_icmp .eq 10, 3) := by decide +kernel
theorem d6_23 : decode prog_23_method_5_code 23 = .ok (.aload_n 1, 1) := by decide +kernel
theorem d6_24 : decode prog_23_method_5_code 24 = .ok (.iload 4, 2) := by decide +kernel
theorem d6_26 : decode prog_23_method_5_code 26 = .ok (.baload, 1) := by decide +kernel
theorem d6_27 : decode prog_23_method_5_code 27 = .ok (.ifCond .eq 9, 3) := by decide +kernel
theorem d6_30 : decode prog_23_method_5_code 30 = .ok (.iload_n 2, 1) := by decide +kernel
theorem d6_31 : decode prog_23_method_5_code 31 = .ok (.iconst 1, 1) := by decide +kernel
theorem d6_32 : decode prog_23_method_5_code 32 = .ok (.iload_n 3, 1) := by decide +kernel
theorem d6_33 : decode prog_23_method_5_code 33 = .ok (.ishl, 1) := by decide +kernel
theorem d6_34 : decode prog_23_method_5_code 34 = .ok (.ior, 1) := by decide +kernel
theorem d6_35 : decode prog_23_method_5_code 35 = .ok (.istore_n 2, 1) := by decide +kernel
theorem d6_36 : decode prog_23_method_5_code 36 = .ok (.iinc 3 1, 3) := by decide +kernel
theorem d6_39 : decode prog_23_method_5_code 39 = .ok (.goto (-35), 3) := by decide +kernel
theorem d6_42 : decode prog_23_method_5_code 42 = .ok (.iload_n 2, 1) := by decide +kernel
theorem d6_43 : decode prog_23_method_5_code 43 = .ok (.ireturn, 1) := by decide +kernel
theorem pn_6 : plainName "com/example/corollary/corollary/reason/Atom" = true := by first | (simp [plainName, overriddenIn]; done) | decide +kernel
theorem ef_6 (m : MethodId) (x0 : Addr) (x1 : Addr) : entryFrame m #[(.ref x0), (.ref x1)] 5 = mkF m 0 #[.val (.ref x0), .val (.ref x1), .unset, .unset, .unset] [] := by first | (simp [entryFrame, mkF, argsToLocals, Value.category]; done) | rfl
set_option maxRecDepth 65536 in
set_option maxHeartbeats 40000000 in
theorem rmMask (l : Launch) (Z : State) (a0 : Array Value) (hw : ∀ d ∈ tables_1, d.before a0 Z = true) (n0 : Nat) (h : Heap) (Z0 : n0 ≤ h.size) (a1 a2 a3 : Addr) (vf g : Nat → Int32) (F_a1_variables : Fld Z h a1 "com/example/corollary/corollary/reason/Atom" "variables" "[I" (.ref a3)) (A_a3 : AF Z h a3 .int 3 (fun j => .int (vf j))) (A_a2 : AF Z h a2 .boolean 4 (fun j => .int (g j))) (hv : ∀ j, j < 3 → -1 ≤ (vf j).toInt ∧ (vf j).toInt ≤ 3) :
    Met1 l Z n0 [] (⟨"com/example/corollary/corollary/reason/Atom", "boundMask", "([Z)I"⟩ : MethodName) prog_23_method_5_code 5 (some .int) ({ frames := 0, cells := 0, slots := 0, locals := 0 } : Room) #[(.ref a1), (.ref a2)] h (fun v h' => v = some (.int (mM (mM (mM 0 g (vf 0) 0) g (vf 1) 1) g (vf 2) 2)) ∧ h = h') := by
  refine met_of (plainFor_of_name pn_6) Z0 (fun m => ef_6 m a1 a2) ?_
  intro p e s m below meth c T hs0 X
  refine r_iconst 1 X (0 : Int32) d6_0 rfl ?_
  refine r_istoreN 2 X #[.val (.ref a1), .val (.ref a2), .val (.int (0 : Int32)), .unset, .unset] d6_1 rfl ?_
  refine r_iconst 3 X (0 : Int32) d6_2 rfl ?_
  refine r_istoreN 4 X #[.val (.ref a1), .val (.ref a2), .val (.int (0 : Int32)), .val (.int (0 : Int32)), .unset] d6_3 rfl ?_
  refine r_iloadN 5 X d6_4 rfl ?_
  refine r_iconst 6 X (3 : Int32) d6_5 rfl ?_
  refine r_icmpN 9 X d6_6 (tlt (by decide)).2.1 ?_
  refine r_aloadN 10 X d6_9 rfl rfl ?_
  refine r_getfield 13 X (host := "") (Or.inl (hw _ (List.mem_of_getElem? (i := 44) rfl))) Via.refl F_a1_variables d6_10 ?_
  intro T X
  refine r_iloadN 14 X d6_13 rfl ?_
  refine r_iaload 15 X A_a3 (i := 0) (v := (.int (vf 0))) (by decide) (by decide) rfl d6_14 ?_
  refine r_istore 17 X #[.val (.ref a1), .val (.ref a2), .val (.int (0 : Int32)), .val (.int (0 : Int32)), .val (.int (vf 0))] d6_15 rfl ?_
  refine r_iload 19 X d6_17 rfl ?_
  refine r_iconst 20 X (-1 : Int32) d6_19 rfl ?_
  have J36_0 : ∀ (T : State), Cx p l e ({ frames := 0, cells := 0, slots := 0, locals := 0 } : Room) s m #[(.ref a1), (.ref a2)] below meth c Z prog_23_method_5_code 5 "com/example/corollary/corollary/reason/Atom" (some .int) "boundMask" n0 T h 0 0 → Run p e below m (Fin1 below s n0 (fun v h' => v = some (.int (mM (mM (mM 0 g (vf 0) 0) g (vf 1) 1) g (vf 2) 2)) ∧ h = h') ({ frames := 0, cells := 0, slots := 0, locals := 0 } : Room).cells ({ frames := 0, cells := 0, slots := 0, locals := 0 } : Room).slots) T 36 #[.val (.ref a1), .val (.ref a2), .val (.int (mM (0 : Int32) g (vf 0) (0 : Int32))), .val (.int (0 : Int32)), .val (.int (vf 0))] [] := by
    intro T X
    refine r_iinc 39 X (1 : Int32) #[.val (.ref a1), .val (.ref a2), .val (.int (mM (0 : Int32) g (vf 0) (0 : Int32))), .val (.int (1 : Int32)), .val (.int (vf 0))] d6_36 rfl rfl rfl ?_
    refine r_goto 4 X d6_39 ?_
    refine r_iloadN 5 X d6_4 rfl ?_
    refine r_iconst 6 X (3 : Int32) d6_5 rfl ?_
    refine r_icmpN 9 X d6_6 (tlt (by decide)).2.1 ?_
    refine r_aloadN 10 X d6_9 rfl rfl ?_
    refine r_getfield 13 X (host := "") (Or.inl (hw _ (List.mem_of_getElem? (i := 44) rfl))) Via.refl F_a1_variables d6_10 ?_
    intro T X
    refine r_iloadN 14 X d6_13 rfl ?_
    refine r_iaload 15 X A_a3 (i := 1) (v := (.int (vf 1))) (by decide) (by decide) rfl d6_14 ?_
    refine r_istore 17 X #[.val (.ref a1), .val (.ref a2), .val (.int (mM (0 : Int32) g (vf 0) (0 : Int32))), .val (.int (1 : Int32)), .val (.int (vf 1))] d6_15 rfl ?_
    refine r_iload 19 X d6_17 rfl ?_
    refine r_iconst 20 X (-1 : Int32) d6_19 rfl ?_
    have J36_1 : ∀ (T : State), Cx p l e ({ frames := 0, cells := 0, slots := 0, locals := 0 } : Room) s m #[(.ref a1), (.ref a2)] below meth c Z prog_23_method_5_code 5 "com/example/corollary/corollary/reason/Atom" (some .int) "boundMask" n0 T h 0 0 → Run p e below m (Fin1 below s n0 (fun v h' => v = some (.int (mM (mM (mM 0 g (vf 0) 0) g (vf 1) 1) g (vf 2) 2)) ∧ h = h') ({ frames := 0, cells := 0, slots := 0, locals := 0 } : Room).cells ({ frames := 0, cells := 0, slots := 0, locals := 0 } : Room).slots) T 36 #[.val (.ref a1), .val (.ref a2), .val (.int (mM (mM (0 : Int32) g (vf 0) (0 : Int32)) g (vf 1) (1 : Int32))), .val (.int (1 : Int32)), .val (.int (vf 1))] [] := by
      intro T X
      refine r_iinc 39 X (1 : Int32) #[.val (.ref a1), .val (.ref a2), .val (.int (mM (mM (0 : Int32) g (vf 0) (0 : Int32)) g (vf 1) (1 : Int32))), .val (.int (2 : Int32)), .val (.int (vf 1))] d6_36 rfl rfl rfl ?_
      refine r_goto 4 X d6_39 ?_
      refine r_iloadN 5 X d6_4 rfl ?_
      refine r_iconst 6 X (3 : Int32) d6_5 rfl ?_
      refine r_icmpN 9 X d6_6 (tlt (by decide)).2.1 ?_
      refine r_aloadN 10 X d6_9 rfl rfl ?_
      refine r_getfield 13 X (host := "") (Or.inl (hw _ (List.mem_of_getElem? (i := 44) rfl))) Via.refl F_a1_variables d6_10 ?_
      intro T X
      refine r_iloadN 14 X d6_13 rfl ?_
      refine r_iaload 15 X A_a3 (i := 2) (v := (.int (vf 2))) (by decide) (by decide) rfl d6_14 ?_
      refine r_istore 17 X #[.val (.ref a1), .val (.ref a2), .val (.int (mM (mM (0 : Int32) g (vf 0) (0 : Int32)) g (vf 1) (1 : Int32))), .val (.int (2 : Int32)), .val (.int (vf 2))] d6_15 rfl ?_
      refine r_iload 19 X d6_17 rfl ?_
      refine r_iconst 20 X (-1 : Int32) d6_19 rfl ?_
      have J36_2 : ∀ (T : State), Cx p l e ({ frames := 0, cells := 0, slots := 0, locals := 0 } : Room) s m #[(.ref a1), (.ref a2)] below meth c Z prog_23_method_5_code 5 "com/example/corollary/corollary/reason/Atom" (some .int) "boundMask" n0 T h 0 0 → Run p e below m (Fin1 below s n0 (fun v h' => v = some (.int (mM (mM (mM 0 g (vf 0) 0) g (vf 1) 1) g (vf 2) 2)) ∧ h = h') ({ frames := 0, cells := 0, slots := 0, locals := 0 } : Room).cells ({ frames := 0, cells := 0, slots := 0, locals := 0 } : Room).slots) T 36 #[.val (.ref a1), .val (.ref a2), .val (.int (mM (mM (mM (0 : Int32) g (vf 0) (0 : Int32)) g (vf 1) (1 : Int32)) g (vf 2) (2 : Int32))), .val (.int (2 : Int32)), .val (.int (vf 2))] [] := by
        intro T X
        refine r_iinc 39 X (1 : Int32) #[.val (.ref a1), .val (.ref a2), .val (.int (mM (mM (mM (0 : Int32) g (vf 0) (0 : Int32)) g (vf 1) (1 : Int32)) g (vf 2) (2 : Int32))), .val (.int (3 : Int32)), .val (.int (vf 2))] d6_36 rfl rfl rfl ?_
        refine r_goto 4 X d6_39 ?_
        refine r_iloadN 5 X d6_4 rfl ?_
        refine r_iconst 6 X (3 : Int32) d6_5 rfl ?_
        refine r_icmpY 42 X d6_6 (flt (by decide)).2.1 ?_
        refine r_iloadN 43 X d6_42 rfl ?_
        refine r_retI X d6_43 (by decide) (by decide) ?_
        exact ⟨rfl, rfl⟩
      by_cases h20_1 : (vf 2) = (-1 : Int32)
      · refine r_icmpY 30 X d6_20 (teq h20_1).1 ?_
        refine r_iloadN 31 X d6_30 rfl ?_
        refine r_iconst 32 X (1 : Int32) d6_31 rfl ?_
        refine r_iloadN 33 X d6_32 rfl ?_
        refine r_ishl 34 X d6_33 ?_
        refine r_ior 35 X d6_34 ?_
        refine r_istoreN 36 X #[.val (.ref a1), .val (.ref a2), .val (.int ((mM (mM (0 : Int32) g (vf 0) (0 : Int32)) g (vf 1) (1 : Int32)) ||| ((1 : Int32) <<< ((2 : Int32) &&& 31)))), .val (.int (2 : Int32)), .val (.int (vf 2))] d6_35 rfl ?_
        refine r_loc (congrArg (fun z => (#[.val (.ref a1), .val (.ref a2), .val (.int z), .val (.int (2 : Int32)), .val (.int (vf 2))] : Array Slot)) (show ((mM (mM (0 : Int32) g (vf 0) (0 : Int32)) g (vf 1) (1 : Int32)) ||| ((1 : Int32) <<< ((2 : Int32) &&& 31))) = (mM (mM (mM (0 : Int32) g (vf 0) (0 : Int32)) g (vf 1) (1 : Int32)) g (vf 2) (2 : Int32)) from (mM_yes (Or.inl h20_1)).symm)) ?_
        exact J36_2 _ X
      · refine r_icmpN 23 X d6_20 (feq h20_1).1 ?_
        refine r_aloadN 24 X d6_23 rfl rfl ?_
        refine r_iload 26 X d6_24 rfl ?_
        obtain ⟨k2, hk2⟩ : ∃ k : Nat, (vf 2).toInt = (k : Int) := ⟨(vf 2).toInt.toNat, by have h1 := hv 2 (by decide); have h2 : (vf 2).toInt ≠ -1 := fun q => h20_1 (Int32.toInt_inj.mp q); omega⟩
        refine r_baloadZ 27 X A_a2 (i := k2) (v := (.int (g k2))) hk2 (by have h1 := hv 2 (by decide); omega) rfl d6_26 ?_
        by_cases h27_2 : (g k2) = (0 : Int32)
        · refine r_ifY 36 X d6_27 ((if0 _ _).trans (teq h27_2).1) ?_
          refine r_loc (congrArg (fun z => (#[.val (.ref a1), .val (.ref a2), .val (.int z), .val (.int (2 : Int32)), .val (.int (vf 2))] : Array Slot)) (show (mM (mM (0 : Int32) g (vf 0) (0 : Int32)) g (vf 1) (1 : Int32)) = (mM (mM (mM (0 : Int32) g (vf 0) (0 : Int32)) g (vf 1) (1 : Int32)) g (vf 2) (2 : Int32)) from (mM_no (by rw [show (vf 2).toInt.toNat = k2 from by rw [hk2]; rfl]; exact fun z => z.elim h20_1 (fun u => u h27_2))).symm)) ?_
          exact J36_2 _ X
        · refine r_ifN 30 X d6_27 ((if0 _ _).trans (feq h27_2).1) ?_
          refine r_iloadN 31 X d6_30 rfl ?_
          refine r_iconst 32 X (1 : Int32) d6_31 rfl ?_
          refine r_iloadN 33 X d6_32 rfl ?_
          refine r_ishl 34 X d6_33 ?_
          refine r_ior 35 X d6_34 ?_
          refine r_istoreN 36 X #[.val (.ref a1), .val (.ref a2), .val (.int ((mM (mM (0 : Int32) g (vf 0) (0 : Int32)) g (vf 1) (1 : Int32)) ||| ((1 : Int32) <<< ((2 : Int32) &&& 31)))), .val (.int (2 : Int32)), .val (.int (vf 2))] d6_35 rfl ?_
          refine r_loc (congrArg (fun z => (#[.val (.ref a1), .val (.ref a2), .val (.int z), .val (.int (2 : Int32)), .val (.int (vf 2))] : Array Slot)) (show ((mM (mM (0 : Int32) g (vf 0) (0 : Int32)) g (vf 1) (1 : Int32)) ||| ((1 : Int32) <<< ((2 : Int32) &&& 31))) = (mM (mM (mM (0 : Int32) g (vf 0) (0 : Int32)) g (vf 1) (1 : Int32)) g (vf 2) (2 : Int32)) from (mM_yes (Or.inr (by rw [show (vf 2).toInt.toNat = k2 from by rw [hk2]; rfl]; exact h27_2))).symm)) ?_
          exact J36_2 _ X
    by_cases h20_3 : (vf 1) = (-1 : Int32)
    · refine r_icmpY 30 X d6_20 (teq h20_3).1 ?_
      refine r_iloadN 31 X d6_30 rfl ?_
      refine r_iconst 32 X (1 : Int32) d6_31 rfl ?_
      refine r_iloadN 33 X d6_32 rfl ?_
      refine r_ishl 34 X d6_33 ?_
      refine r_ior 35 X d6_34 ?_
      refine r_istoreN 36 X #[.val (.ref a1), .val (.ref a2), .val (.int ((mM (0 : Int32) g (vf 0) (0 : Int32)) ||| ((1 : Int32) <<< ((1 : Int32) &&& 31)))), .val (.int (1 : Int32)), .val (.int (vf 1))] d6_35 rfl ?_
      refine r_loc (congrArg (fun z => (#[.val (.ref a1), .val (.ref a2), .val (.int z), .val (.int (1 : Int32)), .val (.int (vf 1))] : Array Slot)) (show ((mM (0 : Int32) g (vf 0) (0 : Int32)) ||| ((1 : Int32) <<< ((1 : Int32) &&& 31))) = (mM (mM (0 : Int32) g (vf 0) (0 : Int32)) g (vf 1) (1 : Int32)) from (mM_yes (Or.inl h20_3)).symm)) ?_
      exact J36_1 _ X
    · refine r_icmpN 23 X d6_20 (feq h20_3).1 ?_
      refine r_aloadN 24 X d6_23 rfl rfl ?_
      refine r_iload 26 X d6_24 rfl ?_
      obtain ⟨k1, hk1⟩ : ∃ k : Nat, (vf 1).toInt = (k : Int) := ⟨(vf 1).toInt.toNat, by have h1 := hv 1 (by decide); have h2 : (vf 1).toInt ≠ -1 := fun q => h20_3 (Int32.toInt_inj.mp q); omega⟩
      refine r_baloadZ 27 X A_a2 (i := k1) (v := (.int (g k1))) hk1 (by have h1 := hv 1 (by decide); omega) rfl d6_26 ?_
      by_cases h27_4 : (g k1) = (0 : Int32)
      · refine r_ifY 36 X d6_27 ((if0 _ _).trans (teq h27_4).1) ?_
        refine r_loc (congrArg (fun z => (#[.val (.ref a1), .val (.ref a2), .val (.int z), .val (.int (1 : Int32)), .val (.int (vf 1))] : Array Slot)) (show (mM (0 : Int32) g (vf 0) (0 : Int32)) = (mM (mM (0 : Int32) g (vf 0) (0 : Int32)) g (vf 1) (1 : Int32)) from (mM_no (by rw [show (vf 1).toInt.toNat = k1 from by rw [hk1]; rfl]; exact fun z => z.elim h20_3 (fun u => u h27_4))).symm)) ?_
        exact J36_1 _ X
      · refine r_ifN 30 X d6_27 ((if0 _ _).trans (feq h27_4).1) ?_
        refine r_iloadN 31 X d6_30 rfl ?_
        refine r_iconst 32 X (1 : Int32) d6_31 rfl ?_
        refine r_iloadN 33 X d6_32 rfl ?_
        refine r_ishl 34 X d6_33 ?_
        refine r_ior 35 X d6_34 ?_
        refine r_istoreN 36 X #[.val (.ref a1), .val (.ref a2), .val (.int ((mM (0 : Int32) g (vf 0) (0 : Int32)) ||| ((1 : Int32) <<< ((1 : Int32) &&& 31)))), .val (.int (1 : Int32)), .val (.int (vf 1))] d6_35 rfl ?_
        refine r_loc (congrArg (fun z => (#[.val (.ref a1), .val (.ref a2), .val (.int z), .val (.int (1 : Int32)), .val (.int (vf 1))] : Array Slot)) (show ((mM (0 : Int32) g (vf 0) (0 : Int32)) ||| ((1 : Int32) <<< ((1 : Int32) &&& 31))) = (mM (mM (0 : Int32) g (vf 0) (0 : Int32)) g (vf 1) (1 : Int32)) from (mM_yes (Or.inr (by rw [show (vf 1).toInt.toNat = k1 from by rw [hk1]; rfl]; exact h27_4))).symm)) ?_
        exact J36_1 _ X
  by_cases h20_5 : (vf 0) = (-1 : Int32)
  · refine r_icmpY 30 X d6_20 (teq h20_5).1 ?_
    refine r_iloadN 31 X d6_30 rfl ?_
    refine r_iconst 32 X (1 : Int32) d6_31 rfl ?_
    refine r_iloadN 33 X d6_32 rfl ?_
    refine r_ishl 34 X d6_33 ?_
    refine r_ior 35 X d6_34 ?_
    refine r_istoreN 36 X #[.val (.ref a1), .val (.ref a2), .val (.int ((0 : Int32) ||| ((1 : Int32) <<< ((0 : Int32) &&& 31)))), .val (.int (0 : Int32)), .val (.int (vf 0))] d6_35 rfl ?_
    refine r_loc (congrArg (fun z => (#[.val (.ref a1), .val (.ref a2), .val (.int z), .val (.int (0 : Int32)), .val (.int (vf 0))] : Array Slot)) (show ((0 : Int32) ||| ((1 : Int32) <<< ((0 : Int32) &&& 31))) = (mM (0 : Int32) g (vf 0) (0 : Int32)) from (mM_yes (Or.inl h20_5)).symm)) ?_
    exact J36_0 _ X
  · refine r_icmpN 23 X d6_20 (feq h20_5).1 ?_
    refine r_aloadN 24 X d6_23 rfl rfl ?_
    refine r_iload 26 X d6_24 rfl ?_
    obtain ⟨k0, hk0⟩ : ∃ k : Nat, (vf 0).toInt = (k : Int) := ⟨(vf 0).toInt.toNat, by have h1 := hv 0 (by decide); have h2 : (vf 0).toInt ≠ -1 := fun q => h20_5 (Int32.toInt_inj.mp q); omega⟩
    refine r_baloadZ 27 X A_a2 (i := k0) (v := (.int (g k0))) hk0 (by have h1 := hv 0 (by decide); omega) rfl d6_26 ?_
    by_cases h27_6 : (g k0) = (0 : Int32)
    · refine r_ifY 36 X d6_27 ((if0 _ _).trans (teq h27_6).1) ?_
      refine r_loc (congrArg (fun z => (#[.val (.ref a1), .val (.ref a2), .val (.int z), .val (.int (0 : Int32)), .val (.int (vf 0))] : Array Slot)) (show (0 : Int32) = (mM (0 : Int32) g (vf 0) (0 : Int32)) from (mM_no (by rw [show (vf 0).toInt.toNat = k0 from by rw [hk0]; rfl]; exact fun z => z.elim h20_5 (fun u => u h27_6))).symm)) ?_
      exact J36_0 _ X
    · refine r_ifN 30 X d6_27 ((if0 _ _).trans (feq h27_6).1) ?_
      refine r_iloadN 31 X d6_30 rfl ?_
      refine r_iconst 32 X (1 : Int32) d6_31 rfl ?_
      refine r_iloadN 33 X d6_32 rfl ?_
      refine r_ishl 34 X d6_33 ?_
      refine r_ior 35 X d6_34 ?_
      refine r_istoreN 36 X #[.val (.ref a1), .val (.ref a2), .val (.int ((0 : Int32) ||| ((1 : Int32) <<< ((0 : Int32) &&& 31)))), .val (.int (0 : Int32)), .val (.int (vf 0))] d6_35 rfl ?_
      refine r_loc (congrArg (fun z => (#[.val (.ref a1), .val (.ref a2), .val (.int z), .val (.int (0 : Int32)), .val (.int (vf 0))] : Array Slot)) (show ((0 : Int32) ||| ((1 : Int32) <<< ((0 : Int32) &&& 31))) = (mM (0 : Int32) g (vf 0) (0 : Int32)) from (mM_yes (Or.inr (by rw [show (vf 0).toInt.toNat = k0 from by rw [hk0]; rfl]; exact h27_6))).symm)) ?_
      exact J36_0 _ X
theorem own_rng (v : Int32) : -1 ≤ (varV v).toInt ∧ (varV v).toInt ≤ 3 := by
  unfold varV
  split
  · have := c_mask v 3 2 (by decide) (by decide); omega
  · decide
theorem pn_0 : plainName "com/example/corollary/corollary/reason/AtomBoundMaskPinLaw" = true := by first | (simp [plainName, overriddenIn]; done) | decide +kernel
theorem ef_0 (m : MethodId) (x0 : Int32) (x1 : Int32) (x2 : Int32) (x3 : Int32) : entryFrame m #[(.int x0), (.int x1), (.int x2), (.int x3)] maxLocals = mkF m 0 #[.val (.int x0), .val (.int x1), .val (.int x2), .val (.int x3), .unset, .unset, .unset, .unset, .unset, .unset, .unset] [] := by first | (simp [entryFrame, mkF, argsToLocals, Value.category, maxLocals]; done) | rfl
set_option maxRecDepth 65536 in
set_option maxHeartbeats 40000000 in
theorem rm0 (l : Launch) (Z : State) (a0 : Array Value) (hw : ∀ d ∈ tables_1, d.before a0 Z = true) (n0 : Nat) (h : Heap) (Z0 : n0 ≤ h.size) (p0 : Int32) (p1 : Int32) (p2 : Int32) (p3 : Int32)  :
    Met1 l Z n0 tables_1 x code maxLocals ret room_1 #[(.int p0), (.int p1), (.int p2), (.int p3)] h (fun v h' => v = some (.int 1)) := by
  refine met_of (plainFor_of_name pn_0) Z0 (fun m => ef_0 m p0 p1 p2 p3) ?_
  intro p e s m below meth c T hs0 X
  refine r_iconst 1 X (3 : Int32) at_0 rfl ?_
  refine r_newarrayE 3 X 3 3 "[I" (by decide) (hw _ (List.mem_of_getElem? (i := 0) rfl)) at_1 (by decide) (by decide) (by decide) (by decide) (by decide) ?_
  intro T h1 b1 g1 gn_b1 E1 E_b1 A_b1 X
  replace A_b1 : AF Z h1 b1 .int 3 (fun j => .int ((fun _ => (0 : Int32)) j)) := A_b1
  refine r_dup 4 X at_3 rfl ?_
  refine r_iconst 5 X (0 : Int32) at_4 rfl ?_
  refine r_iloadN 6 X at_5 rfl ?_
  refine r_iastore 7 X A_b1 (i := 0) (v := (.int p0)) (by decide) (by decide) rfl gn_b1 at_6 ?_
  intro T h2 W2 X
  have A_b1 := A_b1.setI W2
  have E_b1 := E_b1.wr W2
  refine r_dup 8 X at_7 rfl ?_
  refine r_iconst 9 X (1 : Int32) at_8 rfl ?_
  refine r_iloadN 10 X at_9 rfl ?_
  refine r_iastore 11 X A_b1 (i := 1) (v := (.int p1)) (by decide) (by decide) rfl gn_b1 at_10 ?_
  intro T h3 W3 X
  have A_b1 := A_b1.setI W3
  have E_b1 := E_b1.wr W3
  refine r_dup 12 X at_11 rfl ?_
  refine r_iconst 13 X (2 : Int32) at_12 rfl ?_
  refine r_iloadN 14 X at_13 rfl ?_
  refine r_iastore 15 X A_b1 (i := 2) (v := (.int p2)) (by decide) (by decide) rfl gn_b1 at_14 ?_
  intro T h4 W4 X
  have A_b1 := A_b1.setI W4
  have E_b1 := E_b1.wr W4
  refine r_astore 17 X #[.val (.int p0), .val (.int p1), .val (.int p2), .val (.int p3), .val (.ref b1), .unset, .unset, .unset, .unset, .unset, .unset] at_15 rfl rfl ?_
  refine r_iconst 18 X (3 : Int32) at_17 rfl ?_
  refine r_newarrayE 20 X 3 3 "[I" (by decide) (hw _ (List.mem_of_getElem? (i := 0) rfl)) at_18 (by decide) (by decide) (by decide) (by decide) (by decide) ?_
  intro T h5 b5 g5 gn_b5 E5 E_b5 A_b5 X
  have ne_b1_b5 : b1 ≠ b5 := Nat.ne_of_lt (Nat.lt_of_lt_of_eq A_b1.lt g5.symm)
  have A_b1 := A_b1.ext E5
  have E_b1 := E_b1.ext E5
  replace A_b5 : AF Z h5 b5 .int 3 (fun j => .int ((fun _ => (0 : Int32)) j)) := A_b5
  refine r_dup 21 X at_20 rfl ?_
  refine r_iconst 22 X (0 : Int32) at_21 rfl ?_
  refine r_iloadN 23 X at_22 rfl ?_
  refine r_callS 26 X (st := [(.int (0 : Int32)), (.ref b5), (.ref b5)]) (rmVar l Z a0 hw n0 _ X.sz p0) (hw _ (List.mem_of_getElem? (i := 1) rfl)) (hw _ (List.mem_of_getElem? (i := 2) rfl)) (hw _ (List.mem_of_getElem? (i := 4) rfl)) (hw _ (List.mem_of_getElem? (i := 3) rfl)) (by decide) pd_1 [(.int p0)] rfl rfl 3 (Nat.le_of_eq rfl) rfl (by decide) (by decide) (by decide) (by decide) at_23 ?_
  rintro T h6 v6 ⟨rfl, rfl⟩ X
  change Run _ _ _ _ _ _ _ _ [(.int (varV p0)), (.int (0 : Int32)), (.ref b5), (.ref b5)]
  refine r_iastore 27 X A_b5 (i := 0) (v := (.int (varV p0))) (by decide) (by decide) rfl gn_b5 at_26 ?_
  intro T h7 W7 X
  have A_b1 := A_b1.other W7 ne_b1_b5
  have E_b1 := E_b1.wr W7
  have A_b5 := A_b5.setI W7
  have E_b5 := E_b5.wr W7
  refine r_dup 28 X at_27 rfl ?_
  refine r_iconst 29 X (1 : Int32) at_28 rfl ?_
  refine r_iloadN 30 X at_29 rfl ?_
  refine r_callS 33 X (st := [(.int (1 : Int32)), (.ref b5), (.ref b5)]) (rmVar l Z a0 hw n0 _ X.sz p1) (hw _ (List.mem_of_getElem? (i := 1) rfl)) (hw _ (List.mem_of_getElem? (i := 2) rfl)) (hw _ (List.mem_of_getElem? (i := 4) rfl)) (hw _ (List.mem_of_getElem? (i := 3) rfl)) (by decide) pd_1 [(.int p1)] rfl rfl 3 (Nat.le_of_eq rfl) rfl (by decide) (by decide) (by decide) (by decide) at_30 ?_
  rintro T h8 v8 ⟨rfl, rfl⟩ X
  change Run _ _ _ _ _ _ _ _ [(.int (varV p1)), (.int (1 : Int32)), (.ref b5), (.ref b5)]
  refine r_iastore 34 X A_b5 (i := 1) (v := (.int (varV p1))) (by decide) (by decide) rfl gn_b5 at_33 ?_
  intro T h9 W9 X
  have A_b1 := A_b1.other W9 ne_b1_b5
  have E_b1 := E_b1.wr W9
  have A_b5 := A_b5.setI W9
  have E_b5 := E_b5.wr W9
  refine r_dup 35 X at_34 rfl ?_
  refine r_iconst 36 X (2 : Int32) at_35 rfl ?_
  refine r_iloadN 37 X at_36 rfl ?_
  refine r_callS 40 X (st := [(.int (2 : Int32)), (.ref b5), (.ref b5)]) (rmVar l Z a0 hw n0 _ X.sz p2) (hw _ (List.mem_of_getElem? (i := 1) rfl)) (hw _ (List.mem_of_getElem? (i := 2) rfl)) (hw _ (List.mem_of_getElem? (i := 4) rfl)) (hw _ (List.mem_of_getElem? (i := 3) rfl)) (by decide) pd_1 [(.int p2)] rfl rfl 3 (Nat.le_of_eq rfl) rfl (by decide) (by decide) (by decide) (by decide) at_37 ?_
  rintro T h10 v10 ⟨rfl, rfl⟩ X
  change Run _ _ _ _ _ _ _ _ [(.int (varV p2)), (.int (2 : Int32)), (.ref b5), (.ref b5)]
  refine r_iastore 41 X A_b5 (i := 2) (v := (.int (varV p2))) (by decide) (by decide) rfl gn_b5 at_40 ?_
  intro T h11 W11 X
  have A_b1 := A_b1.other W11 ne_b1_b5
  have E_b1 := E_b1.wr W11
  have A_b5 := A_b5.setI W11
  have E_b5 := E_b5.wr W11
  refine r_astore 43 X #[.val (.int p0), .val (.int p1), .val (.int p2), .val (.int p3), .val (.ref b1), .val (.ref b5), .unset, .unset, .unset, .unset, .unset] at_41 rfl rfl ?_
  refine r_iconst 44 X (4 : Int32) at_43 rfl ?_
  refine r_newarray 46 X 4 4 (hw _ (List.mem_of_getElem? (i := 5) rfl)) at_44 (by decide) (by decide) (by decide) (by decide) (by decide) ?_
  intro T h12 b12 g12 gn_b12 E12 A_b12 X
  have ne_b1_b12 : b1 ≠ b12 := Nat.ne_of_lt (Nat.lt_of_lt_of_eq A_b1.lt g12.symm)
  have ne_b5_b12 : b5 ≠ b12 := Nat.ne_of_lt (Nat.lt_of_lt_of_eq A_b5.lt g12.symm)
  have A_b1 := A_b1.ext E12
  have E_b1 := E_b1.ext E12
  have A_b5 := A_b5.ext E12
  have E_b5 := E_b5.ext E12
  replace A_b12 : AF Z h12 b12 .boolean 4 (fun j => .int ((fun _ => (0 : Int32)) j)) := A_b12
  refine r_astore 48 X #[.val (.int p0), .val (.int p1), .val (.int p2), .val (.int p3), .val (.ref b1), .val (.ref b5), .val (.ref b12), .unset, .unset, .unset, .unset] at_46 rfl rfl ?_
  refine r_aload 50 X at_48 rfl rfl ?_
  refine r_iconst 51 X (0 : Int32) at_50 rfl ?_
  refine r_iloadN 52 X at_51 rfl ?_
  refine r_iconst 53 X (1 : Int32) at_52 rfl ?_
  refine r_iand 54 X at_53 ?_
  have J62_13 : ∀ (T : State), Cx p l e room_1 s m #[(.int p0), (.int p1), (.int p2), (.int p3)] below meth c Z code maxLocals x.cls ret x.name n0 T h12 3 10 → Run p e below m (Fin1 below s n0 (fun v h' => v = some (.int 1)) room_1.cells room_1.slots) T 62 #[.val (.int p0), .val (.int p1), .val (.int p2), .val (.int p3), .val (.ref b1), .val (.ref b5), .val (.ref b12), .unset, .unset, .unset, .unset] [(.int (b2i (¬ ((p3 &&& (1 : Int32)) = (0 : Int32))))), (.int (0 : Int32)), (.ref b12)] := by
    intro T X
    refine r_bastoreZ 63 X A_b12 (i := 0) (v := (.int (b2i (¬ ((p3 &&& (1 : Int32)) = (0 : Int32)))))) (by decide) (by decide) (congrArg Value.int b2i_nar) gn_b12 at_62 ?_
    intro T h14 W14 X
    have A_b1 := A_b1.other W14 ne_b1_b12
    have E_b1 := E_b1.wr W14
    have A_b5 := A_b5.other W14 ne_b5_b12
    have E_b5 := E_b5.wr W14
    have A_b12 := A_b12.setI W14
    refine r_aload 65 X at_63 rfl rfl ?_
    refine r_iconst 66 X (1 : Int32) at_65 rfl ?_
    refine r_iloadN 67 X at_66 rfl ?_
    refine r_iconst 68 X (2 : Int32) at_67 rfl ?_
    refine r_iand 69 X at_68 ?_
    have J77_15 : ∀ (T : State), Cx p l e room_1 s m #[(.int p0), (.int p1), (.int p2), (.int p3)] below meth c Z code maxLocals x.cls ret x.name n0 T h14 3 10 → Run p e below m (Fin1 below s n0 (fun v h' => v = some (.int 1)) room_1.cells room_1.slots) T 77 #[.val (.int p0), .val (.int p1), .val (.int p2), .val (.int p3), .val (.ref b1), .val (.ref b5), .val (.ref b12), .unset, .unset, .unset, .unset] [(.int (b2i (¬ ((p3 &&& (2 : Int32)) = (0 : Int32))))), (.int (1 : Int32)), (.ref b12)] := by
      intro T X
      refine r_bastoreZ 78 X A_b12 (i := 1) (v := (.int (b2i (¬ ((p3 &&& (2 : Int32)) = (0 : Int32)))))) (by decide) (by decide) (congrArg Value.int b2i_nar) gn_b12 at_77 ?_
      intro T h16 W16 X
      have A_b1 := A_b1.other W16 ne_b1_b12
      have E_b1 := E_b1.wr W16
      have A_b5 := A_b5.other W16 ne_b5_b12
      have E_b5 := E_b5.wr W16
      have A_b12 := A_b12.setI W16
      refine r_aload 80 X at_78 rfl rfl ?_
      refine r_iconst 81 X (2 : Int32) at_80 rfl ?_
      refine r_iloadN 82 X at_81 rfl ?_
      refine r_iconst 83 X (4 : Int32) at_82 rfl ?_
      refine r_iand 84 X at_83 ?_
      have J92_17 : ∀ (T : State), Cx p l e room_1 s m #[(.int p0), (.int p1), (.int p2), (.int p3)] below meth c Z code maxLocals x.cls ret x.name n0 T h16 3 10 → Run p e below m (Fin1 below s n0 (fun v h' => v = some (.int 1)) room_1.cells room_1.slots) T 92 #[.val (.int p0), .val (.int p1), .val (.int p2), .val (.int p3), .val (.ref b1), .val (.ref b5), .val (.ref b12), .unset, .unset, .unset, .unset] [(.int (b2i (¬ ((p3 &&& (4 : Int32)) = (0 : Int32))))), (.int (2 : Int32)), (.ref b12)] := by
        intro T X
        refine r_bastoreZ 93 X A_b12 (i := 2) (v := (.int (b2i (¬ ((p3 &&& (4 : Int32)) = (0 : Int32)))))) (by decide) (by decide) (congrArg Value.int b2i_nar) gn_b12 at_92 ?_
        intro T h18 W18 X
        have A_b1 := A_b1.other W18 ne_b1_b12
        have E_b1 := E_b1.wr W18
        have A_b5 := A_b5.other W18 ne_b5_b12
        have E_b5 := E_b5.wr W18
        have A_b12 := A_b12.setI W18
        refine r_aload 95 X at_93 rfl rfl ?_
        refine r_iconst 96 X (3 : Int32) at_95 rfl ?_
        refine r_iloadN 97 X at_96 rfl ?_
        refine r_bipush 99 X (8 : Int32) at_97 rfl ?_
        refine r_iand 100 X at_99 ?_
        have J108_19 : ∀ (T : State), Cx p l e room_1 s m #[(.int p0), (.int p1), (.int p2), (.int p3)] below meth c Z code maxLocals x.cls ret x.name n0 T h18 3 10 → Run p e below m (Fin1 below s n0 (fun v h' => v = some (.int 1)) room_1.cells room_1.slots) T 108 #[.val (.int p0), .val (.int p1), .val (.int p2), .val (.int p3), .val (.ref b1), .val (.ref b5), .val (.ref b12), .unset, .unset, .unset, .unset] [(.int (b2i (¬ ((p3 &&& (8 : Int32)) = (0 : Int32))))), (.int (3 : Int32)), (.ref b12)] := by
          intro T X
          refine r_bastoreZ 109 X A_b12 (i := 3) (v := (.int (b2i (¬ ((p3 &&& (8 : Int32)) = (0 : Int32)))))) (by decide) (by decide) (congrArg Value.int b2i_nar) gn_b12 at_108 ?_
          intro T h20 W20 X
          have A_b1 := A_b1.other W20 ne_b1_b12
          have E_b1 := E_b1.wr W20
          have A_b5 := A_b5.other W20 ne_b5_b12
          have E_b5 := E_b5.wr W20
          have A_b12 := A_b12.setI W20
          refine r_new 112 X (hw _ (List.mem_of_getElem? (i := 6) rfl)) (hw _ (List.mem_of_getElem? (i := 7) rfl)) (hw _ (List.mem_of_getElem? (i := 8) rfl)) at_109 (by decide) (by decide) ?_
          intro T h21 b21 g21 gn_b21 E21 A21 D21 X
          have ne_b1_b21 : b1 ≠ b21 := Nat.ne_of_lt (Nat.lt_of_lt_of_eq A_b1.lt g21.symm)
          have ne_b12_b21 : b12 ≠ b21 := Nat.ne_of_lt (Nat.lt_of_lt_of_eq A_b12.lt g21.symm)
          have ne_b5_b21 : b5 ≠ b21 := Nat.ne_of_lt (Nat.lt_of_lt_of_eq A_b5.lt g21.symm)
          have A_b1 := A_b1.ext E21
          have E_b1 := E_b1.ext E21
          have A_b5 := A_b5.ext E21
          have E_b5 := E_b5.ext E21
          have A_b12 := A_b12.ext E21
          have E_b21 := A21
          have F_b21_relation : Fld Z h21 b21 "com/example/corollary/corollary/reason/Atom" "relation" "Lcom/example/corollary/corollary/reason/Relation;" .null := D21 (Or.inr (hw _ (List.mem_of_getElem? (i := 32) rfl))) (ty := (.object "com/example/corollary/corollary/reason/Relation")) (by decide)
          have F_b21_values : Fld Z h21 b21 "com/example/corollary/corollary/reason/Atom" "values" "[I" .null := D21 (Or.inr (hw _ (List.mem_of_getElem? (i := 43) rfl))) (ty := (.array .int)) (by decide)
          have F_b21_variables : Fld Z h21 b21 "com/example/corollary/corollary/reason/Atom" "variables" "[I" .null := D21 (Or.inr (hw _ (List.mem_of_getElem? (i := 45) rfl))) (ty := (.array .int)) (by decide)
          refine r_dup 113 X at_112 rfl ?_
          refine r_new 116 X (hw _ (List.mem_of_getElem? (i := 9) rfl)) (hw _ (List.mem_of_getElem? (i := 10) rfl)) (hw _ (List.mem_of_getElem? (i := 11) rfl)) at_113 (by decide) (by decide) ?_
          intro T h22 b22 g22 gn_b22 E22 A22 D22 X
          have ne_b1_b22 : b1 ≠ b22 := Nat.ne_of_lt (Nat.lt_of_lt_of_eq A_b1.lt g22.symm)
          have ne_b21_b22 : b21 ≠ b22 := Nat.ne_of_lt (Nat.lt_of_lt_of_eq E_b21.lt g22.symm)
          have ne_b12_b22 : b12 ≠ b22 := Nat.ne_of_lt (Nat.lt_of_lt_of_eq A_b12.lt g22.symm)
          have ne_b5_b22 : b5 ≠ b22 := Nat.ne_of_lt (Nat.lt_of_lt_of_eq A_b5.lt g22.symm)
          have A_b1 := A_b1.ext E22
          have E_b1 := E_b1.ext E22
          have A_b5 := A_b5.ext E22
          have E_b5 := E_b5.ext E22
          have A_b12 := A_b12.ext E22
          have E_b21 := E_b21.ext E22
          have F_b21_relation := F_b21_relation.ext E22
          have F_b21_values := F_b21_values.ext E22
          have F_b21_variables := F_b21_variables.ext E22
          have E_b22 := A22
          have F_b22_facts : Fld Z h22 b22 "com/example/corollary/corollary/reason/Relation" "facts" "I" (.int (0 : Int32)) := D22 (Or.inr (hw _ (List.mem_of_getElem? (i := 24) rfl))) (ty := .int) (by decide)
          have F_b22_mask : Fld Z h22 b22 "com/example/corollary/corollary/reason/Relation" "mask" "I" (.int (0 : Int32)) := D22 (Or.inr (hw _ (List.mem_of_getElem? (i := 26) rfl))) (ty := .int) (by decide)
          refine r_dup 117 X at_116 rfl ?_
          refine r_iconst 118 X (0 : Int32) at_117 rfl ?_
          refine r_iconst 119 X (-1 : Int32) at_118 rfl ?_
          refine r_special 122 X (st := [(.ref b22), (.ref b21), (.ref b21)]) (a := b22) (rmRel l Z a0 hw n0 _ X.sz b22 (0 : Int32) (-1 : Int32) E_b22 F_b22_facts F_b22_mask gn_b22) rfl rfl (hw _ (List.mem_of_getElem? (i := 12) rfl)) (hw _ (List.mem_of_getElem? (i := 13) rfl)) (hw _ (List.mem_of_getElem? (i := 14) rfl)) (hw _ (List.mem_of_getElem? (i := 11) rfl)) (by decide) pd_2 [(.int (0 : Int32)), (.int (-1 : Int32))] rfl rfl 3 (Nat.le_of_eq rfl) rfl (by decide) (by decide) (by decide) (by decide) at_119 ?_
          rintro T h23 v23 ⟨rfl, K23⟩ X
          have A_b1 := A_b1.keep K23 (ninS ne_b1_b22 nin0)
          have E_b1 := E_b1.keep K23
          have A_b5 := A_b5.keep K23 (ninS ne_b5_b22 nin0)
          have E_b5 := E_b5.keep K23
          have A_b12 := A_b12.keep K23 (ninS ne_b12_b22 nin0)
          have E_b21 := E_b21.keep K23
          have F_b21_relation := F_b21_relation.keep K23 (ninS ne_b21_b22 nin0)
          have F_b21_values := F_b21_values.keep K23 (ninS ne_b21_b22 nin0)
          have F_b21_variables := F_b21_variables.keep K23 (ninS ne_b21_b22 nin0)
          have E_b22 := E_b22.keep K23
          change Run _ _ _ _ _ _ _ _ [(.ref b22), (.ref b21), (.ref b21)]
          refine r_aload 124 X at_122 rfl rfl ?_
          refine r_aload 126 X at_124 rfl rfl ?_
          refine r_special 129 X (st := [(.ref b21)]) (a := b21) (rmAtom l Z a0 hw n0 _ X.sz b21 b22 b1 b5 (updI (updI (updI (fun _ => (0 : Int32)) 0 p0) 1 p1) 2 p2) (updI (updI (updI (fun _ => (0 : Int32)) 0 (varV p0)) 1 (varV p1)) 2 (varV p2)) E_b21 F_b21_relation F_b21_values F_b21_variables E_b1 A_b1 E_b5 A_b5 gn_b21 ne_b1_b21 ne_b5_b21) rfl rfl (hw _ (List.mem_of_getElem? (i := 27) rfl)) (hw _ (List.mem_of_getElem? (i := 28) rfl)) (hw _ (List.mem_of_getElem? (i := 29) rfl)) (hw _ (List.mem_of_getElem? (i := 8) rfl)) (by decide) pd_3 [(.ref b22), (.ref b1), (.ref b5)] rfl rfl 1 (Nat.le_of_eq rfl) rfl (by decide) (by decide) (by decide) (by decide) at_126 ?_
          rintro T h24 v24 ⟨rfl, K24, -, vs, zv24, gv24, Fv24, Av24⟩ X
          have ne_b1_vs : b1 ≠ vs := Nat.ne_of_lt (Nat.lt_of_lt_of_le A_b1.lt zv24)
          have ne_b12_vs : b12 ≠ vs := Nat.ne_of_lt (Nat.lt_of_lt_of_le A_b12.lt zv24)
          have ne_b21_vs : b21 ≠ vs := Nat.ne_of_lt (Nat.lt_of_lt_of_le E_b21.lt zv24)
          have ne_b22_vs : b22 ≠ vs := Nat.ne_of_lt (Nat.lt_of_lt_of_le E_b22.lt zv24)
          have ne_b5_vs : b5 ≠ vs := Nat.ne_of_lt (Nat.lt_of_lt_of_le A_b5.lt zv24)
          have A_b1 := A_b1.keep K24 (ninS ne_b1_b21 nin0)
          have E_b1 := E_b1.keep K24
          have A_b5 := A_b5.keep K24 (ninS ne_b5_b21 nin0)
          have E_b5 := E_b5.keep K24
          have A_b12 := A_b12.keep K24 (ninS ne_b12_b21 nin0)
          have E_b21 := E_b21.keep K24
          have E_b22 := E_b22.keep K24
          have F_b21_variables := Fv24
          have A_vs := Av24
          change Run _ _ _ _ _ _ _ _ [(.ref b21)]
          refine r_astore 131 X #[.val (.int p0), .val (.int p1), .val (.int p2), .val (.int p3), .val (.ref b1), .val (.ref b5), .val (.ref b12), .val (.ref b21), .unset, .unset, .unset] at_129 rfl rfl ?_
          refine r_aload 133 X at_131 rfl rfl ?_
          refine r_aload 135 X at_133 rfl rfl ?_
          refine r_virtual 138 X (st := []) (a := b21) (rmMask l Z a0 hw n0 _ X.sz b21 b12 vs (updI (updI (updI (fun _ => (0 : Int32)) 0 (varV p0)) 1 (varV p1)) 2 (varV p2)) (updI (updI (updI (updI (fun _ => (0 : Int32)) 0 (b2i (¬ ((p3 &&& (1 : Int32)) = (0 : Int32))))) 1 (b2i (¬ ((p3 &&& (2 : Int32)) = (0 : Int32))))) 2 (b2i (¬ ((p3 &&& (4 : Int32)) = (0 : Int32))))) 3 (b2i (¬ ((p3 &&& (8 : Int32)) = (0 : Int32))))) F_b21_variables A_vs A_b12 (fun j hj => match j, hj with | 0, _ => own_rng _ | 1, _ => own_rng _ | 2, _ => own_rng _)) E_b21 (hw _ (List.mem_of_getElem? (i := 46) rfl)) (hw _ (List.mem_of_getElem? (i := 47) rfl)) (hw _ (List.mem_of_getElem? (i := 49) rfl)) (hw _ (List.mem_of_getElem? (i := 49) rfl)) (hw _ (List.mem_of_getElem? (i := 48) rfl)) (hw _ (List.mem_of_getElem? (i := 50) rfl)) (hw _ (List.mem_of_getElem? (i := 8) rfl)) (by decide) pd_4 [(.ref b12)] rfl rfl 0 (Nat.le_of_eq rfl) rfl (by decide) (by decide) (by decide) (by decide) at_135 ?_
          rintro T h25 v25 ⟨rfl, rfl⟩ X
          change Run _ _ _ _ _ _ _ _ [(.int (mM (mM (mM 0 (updI (updI (updI (updI (fun _ => (0 : Int32)) 0 (b2i (¬ ((p3 &&& (1 : Int32)) = (0 : Int32))))) 1 (b2i (¬ ((p3 &&& (2 : Int32)) = (0 : Int32))))) 2 (b2i (¬ ((p3 &&& (4 : Int32)) = (0 : Int32))))) 3 (b2i (¬ ((p3 &&& (8 : Int32)) = (0 : Int32))))) (varV p0) 0) (updI (updI (updI (updI (fun _ => (0 : Int32)) 0 (b2i (¬ ((p3 &&& (1 : Int32)) = (0 : Int32))))) 1 (b2i (¬ ((p3 &&& (2 : Int32)) = (0 : Int32))))) 2 (b2i (¬ ((p3 &&& (4 : Int32)) = (0 : Int32))))) 3 (b2i (¬ ((p3 &&& (8 : Int32)) = (0 : Int32))))) (varV p1) 1) (updI (updI (updI (updI (fun _ => (0 : Int32)) 0 (b2i (¬ ((p3 &&& (1 : Int32)) = (0 : Int32))))) 1 (b2i (¬ ((p3 &&& (2 : Int32)) = (0 : Int32))))) 2 (b2i (¬ ((p3 &&& (4 : Int32)) = (0 : Int32))))) 3 (b2i (¬ ((p3 &&& (8 : Int32)) = (0 : Int32))))) (varV p2) 2))]
          refine r_istore 140 X #[.val (.int p0), .val (.int p1), .val (.int p2), .val (.int p3), .val (.ref b1), .val (.ref b5), .val (.ref b12), .val (.ref b21), .val (.int (mM (mM (mM 0 (updI (updI (updI (updI (fun _ => (0 : Int32)) 0 (b2i (¬ ((p3 &&& (1 : Int32)) = (0 : Int32))))) 1 (b2i (¬ ((p3 &&& (2 : Int32)) = (0 : Int32))))) 2 (b2i (¬ ((p3 &&& (4 : Int32)) = (0 : Int32))))) 3 (b2i (¬ ((p3 &&& (8 : Int32)) = (0 : Int32))))) (varV p0) 0) (updI (updI (updI (updI (fun _ => (0 : Int32)) 0 (b2i (¬ ((p3 &&& (1 : Int32)) = (0 : Int32))))) 1 (b2i (¬ ((p3 &&& (2 : Int32)) = (0 : Int32))))) 2 (b2i (¬ ((p3 &&& (4 : Int32)) = (0 : Int32))))) 3 (b2i (¬ ((p3 &&& (8 : Int32)) = (0 : Int32))))) (varV p1) 1) (updI (updI (updI (updI (fun _ => (0 : Int32)) 0 (b2i (¬ ((p3 &&& (1 : Int32)) = (0 : Int32))))) 1 (b2i (¬ ((p3 &&& (2 : Int32)) = (0 : Int32))))) 2 (b2i (¬ ((p3 &&& (4 : Int32)) = (0 : Int32))))) 3 (b2i (¬ ((p3 &&& (8 : Int32)) = (0 : Int32))))) (varV p2) 2)), .unset, .unset] at_138 rfl ?_
          refine r_iloadN 141 X at_140 rfl ?_
          refine r_iloadN 142 X at_141 rfl ?_
          refine r_iconst 143 X (0 : Int32) at_142 rfl ?_
          refine r_callS 146 X (st := []) (rmBit l Z a0 hw n0 _ X.sz p0 p3 (0 : Int32)) (hw _ (List.mem_of_getElem? (i := 51) rfl)) (hw _ (List.mem_of_getElem? (i := 52) rfl)) (hw _ (List.mem_of_getElem? (i := 53) rfl)) (hw _ (List.mem_of_getElem? (i := 3) rfl)) (by decide) pd_5 [(.int p0), (.int p3), (.int (0 : Int32))] rfl rfl 0 (Nat.le_of_eq rfl) rfl (by decide) (by decide) (by decide) (by decide) at_143 ?_
          rintro T h26 v26 ⟨rfl, rfl⟩ X
          change Run _ _ _ _ _ _ _ _ [(.int (bitV p0 p3 (0 : Int32)))]
          refine r_iloadN 147 X at_146 rfl ?_
          refine r_iloadN 148 X at_147 rfl ?_
          refine r_iconst 149 X (1 : Int32) at_148 rfl ?_
          refine r_callS 152 X (st := [(.int (bitV p0 p3 (0 : Int32)))]) (rmBit l Z a0 hw n0 _ X.sz p1 p3 (1 : Int32)) (hw _ (List.mem_of_getElem? (i := 51) rfl)) (hw _ (List.mem_of_getElem? (i := 52) rfl)) (hw _ (List.mem_of_getElem? (i := 53) rfl)) (hw _ (List.mem_of_getElem? (i := 3) rfl)) (by decide) pd_5 [(.int p1), (.int p3), (.int (1 : Int32))] rfl rfl 1 (Nat.le_of_eq rfl) rfl (by decide) (by decide) (by decide) (by decide) at_149 ?_
          rintro T h27 v27 ⟨rfl, rfl⟩ X
          change Run _ _ _ _ _ _ _ _ [(.int (bitV p1 p3 (1 : Int32))), (.int (bitV p0 p3 (0 : Int32)))]
          refine r_ior 153 X at_152 ?_
          refine r_iloadN 154 X at_153 rfl ?_
          refine r_iloadN 155 X at_154 rfl ?_
          refine r_iconst 156 X (2 : Int32) at_155 rfl ?_
          refine r_callS 159 X (st := [(.int ((bitV p0 p3 (0 : Int32)) ||| (bitV p1 p3 (1 : Int32))))]) (rmBit l Z a0 hw n0 _ X.sz p2 p3 (2 : Int32)) (hw _ (List.mem_of_getElem? (i := 51) rfl)) (hw _ (List.mem_of_getElem? (i := 52) rfl)) (hw _ (List.mem_of_getElem? (i := 53) rfl)) (hw _ (List.mem_of_getElem? (i := 3) rfl)) (by decide) pd_5 [(.int p2), (.int p3), (.int (2 : Int32))] rfl rfl 1 (Nat.le_of_eq rfl) rfl (by decide) (by decide) (by decide) (by decide) at_156 ?_
          rintro T h28 v28 ⟨rfl, rfl⟩ X
          change Run _ _ _ _ _ _ _ _ [(.int (bitV p2 p3 (2 : Int32))), (.int ((bitV p0 p3 (0 : Int32)) ||| (bitV p1 p3 (1 : Int32))))]
          refine r_ior 160 X at_159 ?_
          refine r_istore 162 X #[.val (.int p0), .val (.int p1), .val (.int p2), .val (.int p3), .val (.ref b1), .val (.ref b5), .val (.ref b12), .val (.ref b21), .val (.int (mM (mM (mM 0 (updI (updI (updI (updI (fun _ => (0 : Int32)) 0 (b2i (¬ ((p3 &&& (1 : Int32)) = (0 : Int32))))) 1 (b2i (¬ ((p3 &&& (2 : Int32)) = (0 : Int32))))) 2 (b2i (¬ ((p3 &&& (4 : Int32)) = (0 : Int32))))) 3 (b2i (¬ ((p3 &&& (8 : Int32)) = (0 : Int32))))) (varV p0) 0) (updI (updI (updI (updI (fun _ => (0 : Int32)) 0 (b2i (¬ ((p3 &&& (1 : Int32)) = (0 : Int32))))) 1 (b2i (¬ ((p3 &&& (2 : Int32)) = (0 : Int32))))) 2 (b2i (¬ ((p3 &&& (4 : Int32)) = (0 : Int32))))) 3 (b2i (¬ ((p3 &&& (8 : Int32)) = (0 : Int32))))) (varV p1) 1) (updI (updI (updI (updI (fun _ => (0 : Int32)) 0 (b2i (¬ ((p3 &&& (1 : Int32)) = (0 : Int32))))) 1 (b2i (¬ ((p3 &&& (2 : Int32)) = (0 : Int32))))) 2 (b2i (¬ ((p3 &&& (4 : Int32)) = (0 : Int32))))) 3 (b2i (¬ ((p3 &&& (8 : Int32)) = (0 : Int32))))) (varV p2) 2)), .val (.int (((bitV p0 p3 (0 : Int32)) ||| (bitV p1 p3 (1 : Int32))) ||| (bitV p2 p3 (2 : Int32)))), .unset] at_160 rfl ?_
          refine r_aload 164 X at_162 rfl rfl ?_
          refine r_iconst 165 X (0 : Int32) at_164 rfl ?_
          refine r_baloadZ 166 X A_b12 (i := 0) (v := (.int (b2i (¬ ((p3 &&& (1 : Int32)) = (0 : Int32)))))) (by decide) (by decide) rfl at_165 ?_
          refine r_iloadN 167 X at_166 rfl ?_
          refine r_iconst 168 X (1 : Int32) at_167 rfl ?_
          refine r_iand 169 X at_168 ?_
          have J177_29 : ∀ (T : State), Cx p l e room_1 s m #[(.int p0), (.int p1), (.int p2), (.int p3)] below meth c Z code maxLocals x.cls ret x.name n0 T h24 7 21 → Run p e below m (Fin1 below s n0 (fun v h' => v = some (.int 1)) room_1.cells room_1.slots) T 177 #[.val (.int p0), .val (.int p1), .val (.int p2), .val (.int p3), .val (.ref b1), .val (.ref b5), .val (.ref b12), .val (.ref b21), .val (.int (mM (mM (mM 0 (updI (updI (updI (updI (fun _ => (0 : Int32)) 0 (b2i (¬ ((p3 &&& (1 : Int32)) = (0 : Int32))))) 1 (b2i (¬ ((p3 &&& (2 : Int32)) = (0 : Int32))))) 2 (b2i (¬ ((p3 &&& (4 : Int32)) = (0 : Int32))))) 3 (b2i (¬ ((p3 &&& (8 : Int32)) = (0 : Int32))))) (varV p0) 0) (updI (updI (updI (updI (fun _ => (0 : Int32)) 0 (b2i (¬ ((p3 &&& (1 : Int32)) = (0 : Int32))))) 1 (b2i (¬ ((p3 &&& (2 : Int32)) = (0 : Int32))))) 2 (b2i (¬ ((p3 &&& (4 : Int32)) = (0 : Int32))))) 3 (b2i (¬ ((p3 &&& (8 : Int32)) = (0 : Int32))))) (varV p1) 1) (updI (updI (updI (updI (fun _ => (0 : Int32)) 0 (b2i (¬ ((p3 &&& (1 : Int32)) = (0 : Int32))))) 1 (b2i (¬ ((p3 &&& (2 : Int32)) = (0 : Int32))))) 2 (b2i (¬ ((p3 &&& (4 : Int32)) = (0 : Int32))))) 3 (b2i (¬ ((p3 &&& (8 : Int32)) = (0 : Int32))))) (varV p2) 2)), .val (.int (((bitV p0 p3 (0 : Int32)) ||| (bitV p1 p3 (1 : Int32))) ||| (bitV p2 p3 (2 : Int32)))), .unset] [(.int (b2i (¬ ((p3 &&& (1 : Int32)) = (0 : Int32))))), (.int (b2i (¬ ((p3 &&& (1 : Int32)) = (0 : Int32)))))] := by
            intro T X
            refine r_icmpN 180 X at_177 (teq rfl).2 ?_
            refine r_aload 182 X at_180 rfl rfl ?_
            refine r_iconst 183 X (1 : Int32) at_182 rfl ?_
            refine r_baloadZ 184 X A_b12 (i := 1) (v := (.int (b2i (¬ ((p3 &&& (2 : Int32)) = (0 : Int32)))))) (by decide) (by decide) rfl at_183 ?_
            refine r_iloadN 185 X at_184 rfl ?_
            refine r_iconst 186 X (2 : Int32) at_185 rfl ?_
            refine r_iand 187 X at_186 ?_
            have J195_30 : ∀ (T : State), Cx p l e room_1 s m #[(.int p0), (.int p1), (.int p2), (.int p3)] below meth c Z code maxLocals x.cls ret x.name n0 T h24 7 21 → Run p e below m (Fin1 below s n0 (fun v h' => v = some (.int 1)) room_1.cells room_1.slots) T 195 #[.val (.int p0), .val (.int p1), .val (.int p2), .val (.int p3), .val (.ref b1), .val (.ref b5), .val (.ref b12), .val (.ref b21), .val (.int (mM (mM (mM 0 (updI (updI (updI (updI (fun _ => (0 : Int32)) 0 (b2i (¬ ((p3 &&& (1 : Int32)) = (0 : Int32))))) 1 (b2i (¬ ((p3 &&& (2 : Int32)) = (0 : Int32))))) 2 (b2i (¬ ((p3 &&& (4 : Int32)) = (0 : Int32))))) 3 (b2i (¬ ((p3 &&& (8 : Int32)) = (0 : Int32))))) (varV p0) 0) (updI (updI (updI (updI (fun _ => (0 : Int32)) 0 (b2i (¬ ((p3 &&& (1 : Int32)) = (0 : Int32))))) 1 (b2i (¬ ((p3 &&& (2 : Int32)) = (0 : Int32))))) 2 (b2i (¬ ((p3 &&& (4 : Int32)) = (0 : Int32))))) 3 (b2i (¬ ((p3 &&& (8 : Int32)) = (0 : Int32))))) (varV p1) 1) (updI (updI (updI (updI (fun _ => (0 : Int32)) 0 (b2i (¬ ((p3 &&& (1 : Int32)) = (0 : Int32))))) 1 (b2i (¬ ((p3 &&& (2 : Int32)) = (0 : Int32))))) 2 (b2i (¬ ((p3 &&& (4 : Int32)) = (0 : Int32))))) 3 (b2i (¬ ((p3 &&& (8 : Int32)) = (0 : Int32))))) (varV p2) 2)), .val (.int (((bitV p0 p3 (0 : Int32)) ||| (bitV p1 p3 (1 : Int32))) ||| (bitV p2 p3 (2 : Int32)))), .unset] [(.int (b2i (¬ ((p3 &&& (2 : Int32)) = (0 : Int32))))), (.int (b2i (¬ ((p3 &&& (2 : Int32)) = (0 : Int32)))))] := by
              intro T X
              refine r_icmpN 198 X at_195 (teq rfl).2 ?_
              refine r_aload 200 X at_198 rfl rfl ?_
              refine r_iconst 201 X (2 : Int32) at_200 rfl ?_
              refine r_baloadZ 202 X A_b12 (i := 2) (v := (.int (b2i (¬ ((p3 &&& (4 : Int32)) = (0 : Int32)))))) (by decide) (by decide) rfl at_201 ?_
              refine r_iloadN 203 X at_202 rfl ?_
              refine r_iconst 204 X (4 : Int32) at_203 rfl ?_
              refine r_iand 205 X at_204 ?_
              have J213_31 : ∀ (T : State), Cx p l e room_1 s m #[(.int p0), (.int p1), (.int p2), (.int p3)] below meth c Z code maxLocals x.cls ret x.name n0 T h24 7 21 → Run p e below m (Fin1 below s n0 (fun v h' => v = some (.int 1)) room_1.cells room_1.slots) T 213 #[.val (.int p0), .val (.int p1), .val (.int p2), .val (.int p3), .val (.ref b1), .val (.ref b5), .val (.ref b12), .val (.ref b21), .val (.int (mM (mM (mM 0 (updI (updI (updI (updI (fun _ => (0 : Int32)) 0 (b2i (¬ ((p3 &&& (1 : Int32)) = (0 : Int32))))) 1 (b2i (¬ ((p3 &&& (2 : Int32)) = (0 : Int32))))) 2 (b2i (¬ ((p3 &&& (4 : Int32)) = (0 : Int32))))) 3 (b2i (¬ ((p3 &&& (8 : Int32)) = (0 : Int32))))) (varV p0) 0) (updI (updI (updI (updI (fun _ => (0 : Int32)) 0 (b2i (¬ ((p3 &&& (1 : Int32)) = (0 : Int32))))) 1 (b2i (¬ ((p3 &&& (2 : Int32)) = (0 : Int32))))) 2 (b2i (¬ ((p3 &&& (4 : Int32)) = (0 : Int32))))) 3 (b2i (¬ ((p3 &&& (8 : Int32)) = (0 : Int32))))) (varV p1) 1) (updI (updI (updI (updI (fun _ => (0 : Int32)) 0 (b2i (¬ ((p3 &&& (1 : Int32)) = (0 : Int32))))) 1 (b2i (¬ ((p3 &&& (2 : Int32)) = (0 : Int32))))) 2 (b2i (¬ ((p3 &&& (4 : Int32)) = (0 : Int32))))) 3 (b2i (¬ ((p3 &&& (8 : Int32)) = (0 : Int32))))) (varV p2) 2)), .val (.int (((bitV p0 p3 (0 : Int32)) ||| (bitV p1 p3 (1 : Int32))) ||| (bitV p2 p3 (2 : Int32)))), .unset] [(.int (b2i (¬ ((p3 &&& (4 : Int32)) = (0 : Int32))))), (.int (b2i (¬ ((p3 &&& (4 : Int32)) = (0 : Int32)))))] := by
                intro T X
                refine r_icmpN 216 X at_213 (teq rfl).2 ?_
                refine r_aload 218 X at_216 rfl rfl ?_
                refine r_iconst 219 X (3 : Int32) at_218 rfl ?_
                refine r_baloadZ 220 X A_b12 (i := 3) (v := (.int (b2i (¬ ((p3 &&& (8 : Int32)) = (0 : Int32)))))) (by decide) (by decide) rfl at_219 ?_
                refine r_iloadN 221 X at_220 rfl ?_
                refine r_bipush 223 X (8 : Int32) at_221 rfl ?_
                refine r_iand 224 X at_223 ?_
                have J232_32 : ∀ (T : State), Cx p l e room_1 s m #[(.int p0), (.int p1), (.int p2), (.int p3)] below meth c Z code maxLocals x.cls ret x.name n0 T h24 7 21 → Run p e below m (Fin1 below s n0 (fun v h' => v = some (.int 1)) room_1.cells room_1.slots) T 232 #[.val (.int p0), .val (.int p1), .val (.int p2), .val (.int p3), .val (.ref b1), .val (.ref b5), .val (.ref b12), .val (.ref b21), .val (.int (mM (mM (mM 0 (updI (updI (updI (updI (fun _ => (0 : Int32)) 0 (b2i (¬ ((p3 &&& (1 : Int32)) = (0 : Int32))))) 1 (b2i (¬ ((p3 &&& (2 : Int32)) = (0 : Int32))))) 2 (b2i (¬ ((p3 &&& (4 : Int32)) = (0 : Int32))))) 3 (b2i (¬ ((p3 &&& (8 : Int32)) = (0 : Int32))))) (varV p0) 0) (updI (updI (updI (updI (fun _ => (0 : Int32)) 0 (b2i (¬ ((p3 &&& (1 : Int32)) = (0 : Int32))))) 1 (b2i (¬ ((p3 &&& (2 : Int32)) = (0 : Int32))))) 2 (b2i (¬ ((p3 &&& (4 : Int32)) = (0 : Int32))))) 3 (b2i (¬ ((p3 &&& (8 : Int32)) = (0 : Int32))))) (varV p1) 1) (updI (updI (updI (updI (fun _ => (0 : Int32)) 0 (b2i (¬ ((p3 &&& (1 : Int32)) = (0 : Int32))))) 1 (b2i (¬ ((p3 &&& (2 : Int32)) = (0 : Int32))))) 2 (b2i (¬ ((p3 &&& (4 : Int32)) = (0 : Int32))))) 3 (b2i (¬ ((p3 &&& (8 : Int32)) = (0 : Int32))))) (varV p2) 2)), .val (.int (((bitV p0 p3 (0 : Int32)) ||| (bitV p1 p3 (1 : Int32))) ||| (bitV p2 p3 (2 : Int32)))), .unset] [(.int (b2i (¬ ((p3 &&& (8 : Int32)) = (0 : Int32))))), (.int (b2i (¬ ((p3 &&& (8 : Int32)) = (0 : Int32)))))] := by
                  intro T X
                  refine r_icmpN 235 X at_232 (teq rfl).2 ?_
                  refine r_iconst 236 X (1 : Int32) at_235 rfl ?_
                  refine r_goto 240 X at_236 ?_
                  refine r_istore 242 X #[.val (.int p0), .val (.int p1), .val (.int p2), .val (.int p3), .val (.ref b1), .val (.ref b5), .val (.ref b12), .val (.ref b21), .val (.int (mM (mM (mM 0 (updI (updI (updI (updI (fun _ => (0 : Int32)) 0 (b2i (¬ ((p3 &&& (1 : Int32)) = (0 : Int32))))) 1 (b2i (¬ ((p3 &&& (2 : Int32)) = (0 : Int32))))) 2 (b2i (¬ ((p3 &&& (4 : Int32)) = (0 : Int32))))) 3 (b2i (¬ ((p3 &&& (8 : Int32)) = (0 : Int32))))) (varV p0) 0) (updI (updI (updI (updI (fun _ => (0 : Int32)) 0 (b2i (¬ ((p3 &&& (1 : Int32)) = (0 : Int32))))) 1 (b2i (¬ ((p3 &&& (2 : Int32)) = (0 : Int32))))) 2 (b2i (¬ ((p3 &&& (4 : Int32)) = (0 : Int32))))) 3 (b2i (¬ ((p3 &&& (8 : Int32)) = (0 : Int32))))) (varV p1) 1) (updI (updI (updI (updI (fun _ => (0 : Int32)) 0 (b2i (¬ ((p3 &&& (1 : Int32)) = (0 : Int32))))) 1 (b2i (¬ ((p3 &&& (2 : Int32)) = (0 : Int32))))) 2 (b2i (¬ ((p3 &&& (4 : Int32)) = (0 : Int32))))) 3 (b2i (¬ ((p3 &&& (8 : Int32)) = (0 : Int32))))) (varV p2) 2)), .val (.int (((bitV p0 p3 (0 : Int32)) ||| (bitV p1 p3 (1 : Int32))) ||| (bitV p2 p3 (2 : Int32)))), .val (.int (1 : Int32))] at_240 rfl ?_
                  refine r_iload 244 X at_242 rfl ?_
                  refine r_iload 246 X at_244 rfl ?_
                  refine r_icmpN 249 X at_246 (teq (own_all _ _ _ p3 _ rfl rfl rfl rfl)).2 ?_
                  refine r_iload 251 X at_249 rfl ?_
                  refine r_ifN 254 X at_251 ((if0 _ _).trans (feq (by decide)).1) ?_
                  refine r_iconst 255 X (1 : Int32) at_254 rfl ?_
                  refine r_goto 259 X at_255 ?_
                  refine r_retZ (z := (1 : Int32)) X at_259 rfl (by decide) (by decide) ?_
                  exact rfl
                by_cases h224_33 : (p3 &&& (8 : Int32)) = (0 : Int32)
                · refine r_ifY 231 X at_224 ((if0 _ _).trans (teq h224_33).1) ?_
                  refine r_iconst 232 X (0 : Int32) at_231 rfl ?_
                  refine r_topI (x' := (b2i (¬ ((p3 &&& (8 : Int32)) = (0 : Int32))))) (by simp [b2i, h224_33]) ?_
                  exact J232_32 _ X
                · refine r_ifN 227 X at_224 ((if0 _ _).trans (feq h224_33).1) ?_
                  refine r_iconst 228 X (1 : Int32) at_227 rfl ?_
                  refine r_goto 232 X at_228 ?_
                  refine r_topI (x' := (b2i (¬ ((p3 &&& (8 : Int32)) = (0 : Int32))))) (by simp [b2i, h224_33]) ?_
                  exact J232_32 _ X
              by_cases h205_34 : (p3 &&& (4 : Int32)) = (0 : Int32)
              · refine r_ifY 212 X at_205 ((if0 _ _).trans (teq h205_34).1) ?_
                refine r_iconst 213 X (0 : Int32) at_212 rfl ?_
                refine r_topI (x' := (b2i (¬ ((p3 &&& (4 : Int32)) = (0 : Int32))))) (by simp [b2i, h205_34]) ?_
                exact J213_31 _ X
              · refine r_ifN 208 X at_205 ((if0 _ _).trans (feq h205_34).1) ?_
                refine r_iconst 209 X (1 : Int32) at_208 rfl ?_
                refine r_goto 213 X at_209 ?_
                refine r_topI (x' := (b2i (¬ ((p3 &&& (4 : Int32)) = (0 : Int32))))) (by simp [b2i, h205_34]) ?_
                exact J213_31 _ X
            by_cases h187_35 : (p3 &&& (2 : Int32)) = (0 : Int32)
            · refine r_ifY 194 X at_187 ((if0 _ _).trans (teq h187_35).1) ?_
              refine r_iconst 195 X (0 : Int32) at_194 rfl ?_
              refine r_topI (x' := (b2i (¬ ((p3 &&& (2 : Int32)) = (0 : Int32))))) (by simp [b2i, h187_35]) ?_
              exact J195_30 _ X
            · refine r_ifN 190 X at_187 ((if0 _ _).trans (feq h187_35).1) ?_
              refine r_iconst 191 X (1 : Int32) at_190 rfl ?_
              refine r_goto 195 X at_191 ?_
              refine r_topI (x' := (b2i (¬ ((p3 &&& (2 : Int32)) = (0 : Int32))))) (by simp [b2i, h187_35]) ?_
              exact J195_30 _ X
          by_cases h169_36 : (p3 &&& (1 : Int32)) = (0 : Int32)
          · refine r_ifY 176 X at_169 ((if0 _ _).trans (teq h169_36).1) ?_
            refine r_iconst 177 X (0 : Int32) at_176 rfl ?_
            refine r_topI (x' := (b2i (¬ ((p3 &&& (1 : Int32)) = (0 : Int32))))) (by simp [b2i, h169_36]) ?_
            exact J177_29 _ X
          · refine r_ifN 172 X at_169 ((if0 _ _).trans (feq h169_36).1) ?_
            refine r_iconst 173 X (1 : Int32) at_172 rfl ?_
            refine r_goto 177 X at_173 ?_
            refine r_topI (x' := (b2i (¬ ((p3 &&& (1 : Int32)) = (0 : Int32))))) (by simp [b2i, h169_36]) ?_
            exact J177_29 _ X
        by_cases h100_37 : (p3 &&& (8 : Int32)) = (0 : Int32)
        · refine r_ifY 107 X at_100 ((if0 _ _).trans (teq h100_37).1) ?_
          refine r_iconst 108 X (0 : Int32) at_107 rfl ?_
          refine r_topI (x' := (b2i (¬ ((p3 &&& (8 : Int32)) = (0 : Int32))))) (by simp [b2i, h100_37]) ?_
          exact J108_19 _ X
        · refine r_ifN 103 X at_100 ((if0 _ _).trans (feq h100_37).1) ?_
          refine r_iconst 104 X (1 : Int32) at_103 rfl ?_
          refine r_goto 108 X at_104 ?_
          refine r_topI (x' := (b2i (¬ ((p3 &&& (8 : Int32)) = (0 : Int32))))) (by simp [b2i, h100_37]) ?_
          exact J108_19 _ X
      by_cases h84_38 : (p3 &&& (4 : Int32)) = (0 : Int32)
      · refine r_ifY 91 X at_84 ((if0 _ _).trans (teq h84_38).1) ?_
        refine r_iconst 92 X (0 : Int32) at_91 rfl ?_
        refine r_topI (x' := (b2i (¬ ((p3 &&& (4 : Int32)) = (0 : Int32))))) (by simp [b2i, h84_38]) ?_
        exact J92_17 _ X
      · refine r_ifN 87 X at_84 ((if0 _ _).trans (feq h84_38).1) ?_
        refine r_iconst 88 X (1 : Int32) at_87 rfl ?_
        refine r_goto 92 X at_88 ?_
        refine r_topI (x' := (b2i (¬ ((p3 &&& (4 : Int32)) = (0 : Int32))))) (by simp [b2i, h84_38]) ?_
        exact J92_17 _ X
    by_cases h69_39 : (p3 &&& (2 : Int32)) = (0 : Int32)
    · refine r_ifY 76 X at_69 ((if0 _ _).trans (teq h69_39).1) ?_
      refine r_iconst 77 X (0 : Int32) at_76 rfl ?_
      refine r_topI (x' := (b2i (¬ ((p3 &&& (2 : Int32)) = (0 : Int32))))) (by simp [b2i, h69_39]) ?_
      exact J77_15 _ X
    · refine r_ifN 72 X at_69 ((if0 _ _).trans (feq h69_39).1) ?_
      refine r_iconst 73 X (1 : Int32) at_72 rfl ?_
      refine r_goto 77 X at_73 ?_
      refine r_topI (x' := (b2i (¬ ((p3 &&& (2 : Int32)) = (0 : Int32))))) (by simp [b2i, h69_39]) ?_
      exact J77_15 _ X
  by_cases h54_40 : (p3 &&& (1 : Int32)) = (0 : Int32)
  · refine r_ifY 61 X at_54 ((if0 _ _).trans (teq h54_40).1) ?_
    refine r_iconst 62 X (0 : Int32) at_61 rfl ?_
    refine r_topI (x' := (b2i (¬ ((p3 &&& (1 : Int32)) = (0 : Int32))))) (by simp [b2i, h54_40]) ?_
    exact J62_13 _ X
  · refine r_ifN 57 X at_54 ((if0 _ _).trans (feq h54_40).1) ?_
    refine r_iconst 58 X (1 : Int32) at_57 rfl ?_
    refine r_goto 62 X at_58 ?_
    refine r_topI (x' := (b2i (¬ ((p3 &&& (1 : Int32)) = (0 : Int32))))) (by simp [b2i, h54_40]) ?_
    exact J62_13 _ X
set_option maxRecDepth 65536 in
set_option maxHeartbeats 40000000 in
theorem comes_1 {Post : Tables → Env → Array Value → State → Outcome → State → Prop} (hpost : ∀ tb e args s v u, (limb_1_1.after args s (.returned v) u = true ∧ limb_1_2.after args s (.returned v) u = true ∧ True) → FrameEnd s (.returned v) u (Jvm.fieldLocs frame_1_writes args s ++ Jvm.arrayLocs frame_1_arrays args s ++ Jvm.staticLocs frame_1_statics s) 24 128 → Post tb e args s (.returned v) u) :
    ArmFor flags0 classFile x code maxLocals ret World_1 tables_1 room_1 Calls_1 rest_1 Pre_1 Post := by
  intro l hfl _ _ p e ha hc hk s m args below hf hA hF happ hP
  obtain ⟨hcalls, hrest, hpre⟩ := hP
  obtain ⟨-, -, -, hnamed, -, -, -, hat⟩ := (Spec.applies_iff hf).mp happ
  obtain ⟨hg, hn⟩ := and_e (Cond.before_iff.mp (show (Jvm.Cond.and given_1 narrow_1).before args s = true from hpre))
  obtain ⟨g1, g2⟩ := and_e hg
  obtain ⟨g3, g4⟩ := and_e g2
  obtain ⟨g5, g6⟩ := and_e g4
  obtain ⟨g7, g8⟩ := and_e g6
  obtain ⟨w0, w1, w2, w3, rfl⟩ : ∃ w0 w1 w2 w3 : Value, args = #[w0, w1, w2, w3] := by
    have hs : args.size = 4 := by simpa [Cond.value, given_1] using g1
    obtain ⟨L⟩ := args
    match L, hs with
    | [w0, w1, w2, w3], _ => exact ⟨w0, w1, w2, w3, rfl⟩
  have hw := fun d (hd : d ∈ tables_1) => atoms_spec (ws := Jvm.Cond.code x code maxLocals ret :: tables_1) hat d (List.mem_cons_of_mem _ hd)
  have hfit : Fit s := fun {y c} hc i hi => by
    obtain ⟨ha, rfl⟩ := Array.getElem?_eq_some_iff.mp hc
    have q := List.all_eq_true.mp ((Array.all_eq_true_iff_forall_mem.mp hF) _ (Array.getElem_mem ha)) i (List.mem_range.mpr hi)
    simpa [Array.getElem?_eq_getElem hi] using q
  obtain ⟨i0, ei0⟩ := is_v g3
  obtain rfl : w0 = (.int i0) := Option.some.inj ei0
  obtain ⟨i1, ei1⟩ := is_v g5
  obtain rfl : w1 = (.int i1) := Option.some.inj ei1
  obtain ⟨i2, ei2⟩ := is_v g7
  obtain rfl : w2 = (.int i2) := Option.some.inj ei2
  obtain ⟨i3, ei3⟩ := is_v g8
  obtain rfl : w3 = (.int i3) := Option.some.inj ei3
  obtain ⟨n, o, h1, h2, h3, _, L, rfl, ⟨rfl, N, -⟩, hq⟩ := rm0 l s _ hw s.heap.size s.heap (Nat.le_refl _) i0 i1 i2 i3  p e ha hc hk s m _ below hf ((Spec.applies_iff_loose hf).mp happ).1 ⟨rfl, State.Warmed39.refl s, rfl⟩ trivial
  refine ⟨n, _, h1, h2, h3, hpost _ _ _ _ _ _ ⟨Cond.after_iff.mpr rfl, Cond.after_iff.mpr (eq_i res_at (Term.int_eval (1)) rfl), trivial⟩ ⟨hq.1, hq.2.1, (hq.2.2.sift fun y hy => Or.inr (N y hy)).mono (by decide) (by decide)⟩⟩
theorem main_1_1 : Claimed_1_1 := comes_1 fun _ _ _ _ _ _ h hF => ⟨h.1, hF⟩
theorem main_1_2 : Claimed_1_2 := comes_1 fun _ _ _ _ _ _ h hF => ⟨h.2.1, hF⟩
end Jvm.Pilot.@@N@@
namespace Jvm.Pilot.@@N@@
open Jvm Jvm.ClassFile Sem Op Lib Jvm.Free Jvm.Stand Jvm.Pilot.@@N@@.Jvm.D
/-! MADE BY PROGRAM (witnessworld.py) out of the Statement's table words and the real class files: 13 classes; the members and pool entries that the words name. The judged class is class 1, her method 1. -/
namespace start1
open Jvm.ClassFile
def u (s : String) : CpInfo := .utf8 (stringToUtf16 s)
/-- a pool by its gaps: so many unusable entries, then the entry; so many at the end -/
def gap : Nat → List CpInfo → List CpInfo
  | 0, r => r
  | n + 1, r => .unusable :: gap n r
def poolList (es : List (Nat × CpInfo)) (last : Nat) : List CpInfo := es.foldr (fun e r => gap e.1 (e.2 :: r)) (gap last [])
def pool (es : List (Nat × CpInfo)) (last : Nat) : Array CpInfo := ⟨poolList es last⟩
def fileOf (pool : Array CpInfo) (this : Nat) (attrs : Array Attribute := #[]) (ms : Array MethodInfo := #[]) (fl : Nat := 33) (sup : Nat := 0) (ifs : Array Nat := #[]) (fds : Array FieldInfo := #[]) : ClassFile where
  minorVersion := 0
  majorVersion := 65
  constantPool := pool
  accessFlags := fl
  thisClass := this
  superClass := sup
  interfaces := ifs
  fields := fds
  methods := ms
  attributes := attrs
def plain (name : String) (sup : Option ClassId) : Class where
  name := name
  kind := .ordinary
  loader := none
  accessFlags := 33
  super := sup
  interfaces := #[]
  cf := none
  fields := #[]
  methods := #[]
  instanceTypes := #[]
  staticTypes := #[]
  resolved := #[]
  callSites := []
  init := .initialized
  statics := none
  mirror := none

def pool0 : Array CpInfo := pool [(5, u "<init>"), (0, u "()V"), (1, .class_ 10), (1, u "java/lang/Object"), (85, u "clone"), (0, u "()Ljava/lang/Object;")] 26

def k0c0 : Code := { maxStack := 0, maxLocals := 1, code := object_method_1_code, exceptionTable := #[], attributes := #[] }
def k0m0 : Method := { name := "<init>", desc := "()V", sig := { parameters := [], returnType := none }, accessFlags := 1, code := some k0c0 }
def k0m1 : Method := { name := "clone", desc := "()Ljava/lang/Object;", sig := { parameters := [], returnType := some (.object "java/lang/Object") }, accessFlags := 260, code := none }
/-- java/lang/Object -/
def k0 : Class := { plain "java/lang/Object" none with
  accessFlags := 33
  interfaces := #[]
  cf := some (fileOf pool0 8 #[] #[{ accessFlags := 1, nameIndex := 5, descriptorIndex := 6, attributes := #[] }, { accessFlags := 260, nameIndex := 96, descriptorIndex := 97, attributes := #[] }] 33 0 #[] #[])
  fields := #[]
  methods := #[k0m0, k0m1]
  instanceTypes := #[]
  staticTypes := #[]
  resolved := Array.replicate 124 none
  statics := none }

def pool1 : Array CpInfo := pool [(2, .class_ 4), (1, u "java/lang/Object"), (0, u "<init>"), (0, u "()V"), (0, .methodref 8 9), (0, .class_ 10), (0, .nameAndType 11 12), (0, u "com/example/corollary/corollary/reason/AtomBoundMaskPinLaw"), (0, u "varOf"), (0, u "(I)I"), (0, .class_ 14), (0, u "com/example/corollary/corollary/reason/Atom"), (0, .class_ 16), (0, u "com/example/corollary/corollary/reason/Relation"), (0, .methodref 15 18), (0, .nameAndType 5 19), (0, u "(II)V"), (0, .methodref 13 21), (0, .nameAndType 5 22), (0, u "(Lcom/example/corollary/corollary/reason/Relation;[I[I)V"), (0, .methodref 13 24), (0, .nameAndType 25 26), (0, u "boundMask"), (0, u "([Z)I"), (0, .methodref 8 28), (0, .nameAndType 29 30), (0, u "bit"), (0, u "(III)I"), (2, u "law"), (0, u "(IIII)Z")] 7

def k1m0 : Method := { name := "<init>", desc := "()V", sig := { parameters := [], returnType := none }, accessFlags := 1, code := none }
def k1c1 : Code := { maxStack := 6, maxLocals := 11, code := code, exceptionTable := #[], attributes := #[] }
def k1m1 : Method := { name := "law", desc := "(IIII)Z", sig := { parameters := [.int, .int, .int, .int], returnType := some .boolean }, accessFlags := 9, code := some k1c1 }
def k1c2 : Code := { maxStack := 2, maxLocals := 1, code := method_3_code, exceptionTable := #[], attributes := #[] }
def k1m2 : Method := { name := "varOf", desc := "(I)I", sig := { parameters := [.int], returnType := some .int }, accessFlags := 10, code := some k1c2 }
def k1c3 : Code := { maxStack := 3, maxLocals := 5, code := method_4_code, exceptionTable := #[], attributes := #[] }
def k1m3 : Method := { name := "bit", desc := "(III)I", sig := { parameters := [.int, .int, .int], returnType := some .int }, accessFlags := 10, code := some k1c3 }
/-- com/example/corollary/corollary/reason/AtomBoundMaskPinLaw -/
def k1 : Class := { plain "com/example/corollary/corollary/reason/AtomBoundMaskPinLaw" (some 0) with
  accessFlags := 49
  interfaces := #[]
  cf := some (fileOf pool1 8 #[] #[{ accessFlags := 1, nameIndex := 5, descriptorIndex := 6, attributes := #[] }, { accessFlags := 9, nameIndex := 33, descriptorIndex := 34, attributes := #[] }, { accessFlags := 10, nameIndex := 11, descriptorIndex := 12, attributes := #[] }, { accessFlags := 10, nameIndex := 29, descriptorIndex := 30, attributes := #[] }] 49 2 #[] #[])
  fields := #[]
  methods := #[k1m0, k1m1, k1m2, k1m3]
  instanceTypes := #[]
  staticTypes := #[]
  resolved := Array.replicate 42 none
  statics := none }

def pool2 : Array CpInfo := pool [(1, .methodref 2 3), (0, .class_ 4), (0, .nameAndType 5 6), (0, u "java/lang/Object"), (0, u "<init>"), (0, u "()V"), (0, .fieldref 8 9), (0, .class_ 10), (0, .nameAndType 11 12), (0, u "com/example/corollary/corollary/reason/Atom"), (0, u "relation"), (0, u "Lcom/example/corollary/corollary/reason/Relation;"), (0, .methodref 14 15), (0, .class_ 16), (0, .nameAndType 17 18), (0, u "[I"), (0, u "clone"), (0, u "()Ljava/lang/Object;"), (0, .fieldref 8 20), (0, .nameAndType 21 16), (0, u "values"), (0, .fieldref 8 23), (0, .nameAndType 24 16), (0, u "variables"), (8, u "NO_PREFERENCE"), (0, u "Lcom/example/corollary/corollary/reason/Atom$Preference;"), (10, u "boundMask"), (0, u "([Z)I"), (7, .class_ 56), (1, u "com/example/corollary/corollary/reason/Atom$Preference"), (2, .class_ 60), (0, u "com/example/corollary/corollary/reason/Atom$Unranked"), (1, u "NO_VARIABLE"), (0, u "I"), (2, u "UNUSED"), (1, u "(Lcom/example/corollary/corollary/reason/Relation;[I[I)V")] 21

def k2c0 : Code := { maxStack := 2, maxLocals := 4, code := prog_23_method_1_code, exceptionTable := #[], attributes := #[] }
def k2m0 : Method := { name := "<init>", desc := "(Lcom/example/corollary/corollary/reason/Relation;[I[I)V", sig := { parameters := [(.object "com/example/corollary/corollary/reason/Relation"), (.array .int), (.array .int)], returnType := none }, accessFlags := 0, code := some k2c0 }
def k2c1 : Code := { maxStack := 3, maxLocals := 5, code := prog_23_method_5_code, exceptionTable := #[], attributes := #[] }
def k2m1 : Method := { name := "boundMask", desc := "([Z)I", sig := { parameters := [(.array .boolean)], returnType := some .int }, accessFlags := 0, code := some k2c1 }
/-- com/example/corollary/corollary/reason/Atom -/
def k2 : Class := { plain "com/example/corollary/corollary/reason/Atom" (some 0) with
  accessFlags := 48
  interfaces := #[]
  cf := some (fileOf pool2 8 #[.nestMembers #[59, 54]] #[{ accessFlags := 0, nameIndex := 5, descriptorIndex := 68, attributes := #[] }, { accessFlags := 0, nameIndex := 45, descriptorIndex := 46, attributes := #[] }] 48 2 #[] #[{ accessFlags := 24, nameIndex := 62, descriptorIndex := 63, attributes := #[] }, { accessFlags := 24, nameIndex := 66, descriptorIndex := 63, attributes := #[] }, { accessFlags := 24, nameIndex := 33, descriptorIndex := 34, attributes := #[] }, { accessFlags := 16, nameIndex := 11, descriptorIndex := 12, attributes := #[] }, { accessFlags := 18, nameIndex := 21, descriptorIndex := 16, attributes := #[] }, { accessFlags := 18, nameIndex := 24, descriptorIndex := 16, attributes := #[] }])
  fields := #[{ name := "NO_VARIABLE", type := .int, accessFlags := 24, slot := 0, constantValue := 0 }, { name := "UNUSED", type := .int, accessFlags := 24, slot := 1, constantValue := 0 }, { name := "NO_PREFERENCE", type := (.object "com/example/corollary/corollary/reason/Atom$Preference"), accessFlags := 24, slot := 2, constantValue := 0 }, { name := "relation", type := (.object "com/example/corollary/corollary/reason/Relation"), accessFlags := 16, slot := 0, constantValue := 0 }, { name := "values", type := (.array .int), accessFlags := 18, slot := 1, constantValue := 0 }, { name := "variables", type := (.array .int), accessFlags := 18, slot := 2, constantValue := 0 }]
  methods := #[k2m0, k2m1]
  instanceTypes := #[(.object "com/example/corollary/corollary/reason/Relation"), (.array .int), (.array .int)]
  staticTypes := #[.int, .int, (.object "com/example/corollary/corollary/reason/Atom$Preference")]
  resolved := Array.replicate 90 none
  statics := none }

def pool3 : Array CpInfo := pool [(1, .methodref 2 3), (0, .class_ 4), (0, .nameAndType 5 6), (0, u "java/lang/Object"), (0, u "<init>"), (0, u "()V"), (0, .class_ 8), (0, u "java/lang/Record")] 13

def k3c0 : Code := { maxStack := 1, maxLocals := 1, code := jdk_30_method_1_code, exceptionTable := #[], attributes := #[] }
def k3m0 : Method := { name := "<init>", desc := "()V", sig := { parameters := [], returnType := none }, accessFlags := 4, code := some k3c0 }
/-- java/lang/Record -/
def k3 : Class := { plain "java/lang/Record" (some 0) with
  accessFlags := 1057
  interfaces := #[]
  cf := some (fileOf pool3 7 #[] #[{ accessFlags := 4, nameIndex := 5, descriptorIndex := 6, attributes := #[] }] 1057 2 #[] #[])
  fields := #[]
  methods := #[k3m0]
  instanceTypes := #[]
  staticTypes := #[]
  resolved := Array.replicate 22 none
  statics := none }

def pool4 : Array CpInfo := pool [(1, .methodref 2 3), (0, .class_ 4), (0, .nameAndType 5 6), (0, u "java/lang/Record"), (0, u "<init>"), (0, u "()V"), (0, .fieldref 8 9), (0, .class_ 10), (0, .nameAndType 11 12), (0, u "com/example/corollary/corollary/reason/Relation"), (0, u "facts"), (0, u "I"), (0, .fieldref 8 14), (0, .nameAndType 15 12), (0, u "mask"), (2, u "(II)V"), (25, u "TRIPLES"), (0, u "Lcom/example/corollary/corollary/reason/Relation;"), (0, u "FACTS"), (2, u "PER_FACTS")] 42

def k4c0 : Code := { maxStack := 2, maxLocals := 3, code := prog_27_method_1_code, exceptionTable := #[], attributes := #[] }
def k4m0 : Method := { name := "<init>", desc := "(II)V", sig := { parameters := [.int, .int], returnType := none }, accessFlags := 0, code := some k4c0 }
/-- com/example/corollary/corollary/reason/Relation -/
def k4 : Class := { plain "com/example/corollary/corollary/reason/Relation" (some 3) with
  accessFlags := 48
  interfaces := #[]
  cf := some (fileOf pool4 8 #[] #[{ accessFlags := 0, nameIndex := 5, descriptorIndex := 18, attributes := #[] }] 48 2 #[] #[{ accessFlags := 18, nameIndex := 11, descriptorIndex := 12, attributes := #[] }, { accessFlags := 18, nameIndex := 15, descriptorIndex := 12, attributes := #[] }, { accessFlags := 24, nameIndex := 46, descriptorIndex := 12, attributes := #[] }, { accessFlags := 24, nameIndex := 44, descriptorIndex := 45, attributes := #[] }, { accessFlags := 26, nameIndex := 49, descriptorIndex := 12, attributes := #[] }])
  fields := #[{ name := "facts", type := .int, accessFlags := 18, slot := 0, constantValue := 0 }, { name := "mask", type := .int, accessFlags := 18, slot := 1, constantValue := 0 }, { name := "FACTS", type := .int, accessFlags := 24, slot := 0, constantValue := 0 }, { name := "TRIPLES", type := (.object "com/example/corollary/corollary/reason/Relation"), accessFlags := 24, slot := 1, constantValue := 0 }, { name := "PER_FACTS", type := .int, accessFlags := 26, slot := 2, constantValue := 0 }]
  methods := #[k4m0]
  instanceTypes := #[.int, .int]
  staticTypes := #[.int, (.object "com/example/corollary/corollary/reason/Relation"), .int]
  resolved := Array.replicate 92 none
  statics := none }

def pool5 : Array CpInfo := pool [(1, .class_ 2), (0, u "java/lang/Cloneable"), (0, .class_ 4), (0, u "java/lang/Object")] 2

/-- java/lang/Cloneable -/
def k5 : Class := { plain "java/lang/Cloneable" (some 0) with
  accessFlags := 1537
  interfaces := #[]
  cf := some (fileOf pool5 1 #[] #[] 1537 3 #[] #[])
  fields := #[]
  methods := #[]
  instanceTypes := #[]
  staticTypes := #[]
  resolved := Array.replicate 7 none
  statics := none }

def pool6 : Array CpInfo := pool [(1, u "java/io/Serializable"), (0, .class_ 1), (0, u "java/lang/Object"), (0, .class_ 3)] 3

/-- java/io/Serializable -/
def k6 : Class := { plain "java/io/Serializable" (some 0) with
  accessFlags := 1537
  interfaces := #[]
  cf := some (fileOf pool6 2 #[] #[] 1537 4 #[] #[])
  fields := #[]
  methods := #[]
  instanceTypes := #[]
  staticTypes := #[]
  resolved := Array.replicate 8 none
  statics := none }

/-- the primitive boolean -/
def k7 : Class := { plain "boolean" none with kind := .primitive 'Z', accessFlags := 0x411 }
/-- [Z -/
def k8 : Class := { plain "[Z" (some 0) with kind := .array 7 .boolean, interfaces := #[5, 6], accessFlags := 1041 }

/-- the primitive byte -/
def k9 : Class := { plain "byte" none with kind := .primitive 'B', accessFlags := 0x411 }
/-- [B -/
def k10 : Class := { plain "[B" (some 0) with kind := .array 9 .byte, interfaces := #[5, 6], accessFlags := 1041 }

/-- the primitive int -/
def k11 : Class := { plain "int" none with kind := .primitive 'I', accessFlags := 0x411 }
/-- [I -/
def k12 : Class := { plain "[I" (some 0) with kind := .array 11 .int, interfaces := #[5, 6], accessFlags := 1041 }

def heap : Heap := #[]
def classes : Array Class := #[k0, k1, k2, k3, k4, k5, k6, k7, k8, k9, k10, k11, k12]
def interned : List (Array UInt16 × Addr) := []
def slotsUsed : Nat := 0
def theMethod : MethodId := ⟨1, 1⟩
def args0 : Array Value := #[.int 0, .int 1, .int 2, .int 3]
def aboutOver (below : List Frame) : State where
  vm := { classes := classes, interned := interned.toArray }
  heap := heap
  slotsUsed := slotsUsed
  threads := #[{ frames := .invoking theMethod args0 :: below }]
def below0 : List Frame := [.native { method := ⟨0, 0⟩, args := #[] }]
def about1 : State := aboutOver below0
def p0 : Program := .bare "" "" ""
def e0 : Env := launch0.env 0 0 0
theorem w_frames : about1.frames = Frame.invoking theMethod args0 :: below0 := rfl
set_option maxRecDepth 65536 in
theorem w_args : argsFit about1.vm theMethod args0 = true := by decide +kernel
set_option maxRecDepth 65536 in
theorem w_heap : heapFits about1 = true := by decide +kernel
set_option maxRecDepth 65536 in
theorem w_runnable : about1.curStatus? = some .runnable := by decide +kernel
set_option maxRecDepth 65536 in
theorem w_alone : about1.alone = true := by decide +kernel
set_option maxRecDepth 65536 in
theorem w_named : about1.methodNamed? x = some theMethod := by decide +kernel
set_option maxRecDepth 65536 in
theorem w_hears : about1.hears theMethod below0 = true := by decide +kernel
set_option maxRecDepth 65536 in
theorem w_ripe : about1.ripe theMethod args0 below0 = true := by decide +kernel
theorem w_running : about1.status = .running := rfl
set_option maxRecDepth 65536 in
theorem w_room : about1.hasRoom e0.platform room_1 = true :=
  launch0.hasRoom_least _ room_1 (by decide +kernel) (by decide +kernel) (by decide +kernel) (by decide +kernel) (by decide +kernel) (by decide +kernel)
theorem allAtoms_all (ts : List Jvm.Cond) (a : Array Jvm.Value) (st : Jvm.State) : (allAtoms ts).before a st = ts.all (fun c => c.before a st) := by
  induction ts with
  | nil => rfl
  | cons c t ih =>
    show (Jvm.Cond.and c (allAtoms t)).before a st = _
    rw [Jvm.Cond.before_and, ih, List.all_cons]
def words1 : List Jvm.Cond := Jvm.Cond.code x code maxLocals ret :: tables_1
/-- a 'code' word, met by the world's own term for the bytes: nothing is compared byte by byte -/
theorem code_word {y : MethodName} {bytes : ByteArray} {mx : Nat} {rt : Option FieldType} {a : Array Value} {s : State} {m : MethodId} {meth : Method} {c : Code} (h1 : s.methodNamed? y = some m) (h2 : s.vm.method? m = some meth) (h3 : meth.code = some c) (h4 : c.code = bytes)
    (h5 : (c.maxLocals == mx && c.exceptionTable.isEmpty && decide (c.maxStack ≤ mostOperands) && decide (meth.sig.returnType = rt) && !meth.locks && decide (parseMethodDescriptor y.desc = some meth.sig)) = true) : (Jvm.Cond.code y bytes mx rt).before a s = true := by
  simp only [Bool.and_eq_true, beq_iff_eq, Bool.not_eq_true', decide_eq_true_eq] at h5
  obtain ⟨⟨⟨⟨⟨g1, g2⟩, g3⟩, g4⟩, g5⟩, g6⟩ := h5
  simp [Cond.before, Cond.holds, Cond.value, h1, h2, h3, h4, g1, g2, g3, g4, g5, g6]
def isCode : Jvm.Cond → Bool
  | .code _ _ _ _ => true
  | _ => false
theorem all_split {L : List Jvm.Cond} {P : Jvm.Cond → Bool} (h1 : L.all (fun c => isCode c || P c) = true) (h2 : ∀ c ∈ L.filter isCode, P c = true) : L.all P = true := by
  refine List.all_eq_true.mpr fun c hc => ?_
  have h := List.all_eq_true.mp h1 c hc
  rcases Bool.eq_false_or_eq_true (isCode c) with hi | hi
  · exact h2 c (List.mem_filter.mpr ⟨hc, hi⟩)
  · simpa [hi] using h
set_option maxRecDepth 65536 in
theorem w_c0 : (Jvm.Cond.code x code maxLocals ret).before args0 about1 = true := code_word (m := ⟨1, 1⟩) (meth := k1m1) (c := k1c1) (by decide +kernel) rfl rfl rfl (by decide +kernel)
set_option maxRecDepth 65536 in
theorem w_c1 : (Jvm.Cond.code ({ cls := "com/example/corollary/corollary/reason/AtomBoundMaskPinLaw", name := "varOf", desc := "(I)I" } : Jvm.MethodName) method_3_code (1 : Nat) (Option.some Jvm.ClassFile.FieldType.int)).before args0 about1 = true := code_word (m := ⟨1, 2⟩) (meth := k1m2) (c := k1c2) (by decide +kernel) rfl rfl rfl (by decide +kernel)
set_option maxRecDepth 65536 in
theorem w_c2 : (Jvm.Cond.code ({ cls := "com/example/corollary/corollary/reason/Relation", name := "<init>", desc := "(II)V" } : Jvm.MethodName) prog_27_method_1_code (3 : Nat) (Option.none : Option Jvm.ClassFile.FieldType)).before args0 about1 = true := code_word (m := ⟨4, 0⟩) (meth := k4m0) (c := k4c0) (by decide +kernel) rfl rfl rfl (by decide +kernel)
set_option maxRecDepth 65536 in
theorem w_c3 : (Jvm.Cond.code ({ cls := "java/lang/Record", name := "<init>", desc := "()V" } : Jvm.MethodName) jdk_30_method_1_code (1 : Nat) (Option.none : Option Jvm.ClassFile.FieldType)).before args0 about1 = true := code_word (m := ⟨3, 0⟩) (meth := k3m0) (c := k3c0) (by decide +kernel) rfl rfl rfl (by decide +kernel)
set_option maxRecDepth 65536 in
theorem w_c4 : (Jvm.Cond.code ({ cls := "java/lang/Object", name := "<init>", desc := "()V" } : Jvm.MethodName) object_method_1_code (1 : Nat) (Option.none : Option Jvm.ClassFile.FieldType)).before args0 about1 = true := code_word (m := ⟨0, 0⟩) (meth := k0m0) (c := k0c0) (by decide +kernel) rfl rfl rfl (by decide +kernel)
set_option maxRecDepth 65536 in
theorem w_c5 : (Jvm.Cond.code ({ cls := "com/example/corollary/corollary/reason/Atom", name := "<init>", desc := "(Lcom/example/corollary/corollary/reason/Relation;[I[I)V" } : Jvm.MethodName) prog_23_method_1_code (4 : Nat) (Option.none : Option Jvm.ClassFile.FieldType)).before args0 about1 = true := code_word (m := ⟨2, 0⟩) (meth := k2m0) (c := k2c0) (by decide +kernel) rfl rfl rfl (by decide +kernel)
set_option maxRecDepth 65536 in
theorem w_c6 : (Jvm.Cond.code ({ cls := "com/example/corollary/corollary/reason/Atom", name := "boundMask", desc := "([Z)I" } : Jvm.MethodName) prog_23_method_5_code (5 : Nat) (Option.some Jvm.ClassFile.FieldType.int)).before args0 about1 = true := code_word (m := ⟨2, 1⟩) (meth := k2m1) (c := k2c1) (by decide +kernel) rfl rfl rfl (by decide +kernel)
set_option maxRecDepth 65536 in
theorem w_c7 : (Jvm.Cond.code ({ cls := "com/example/corollary/corollary/reason/AtomBoundMaskPinLaw", name := "bit", desc := "(III)I" } : Jvm.MethodName) method_4_code (5 : Nat) (Option.some Jvm.ClassFile.FieldType.int)).before args0 about1 = true := code_word (m := ⟨1, 3⟩) (meth := k1m3) (c := k1c3) (by decide +kernel) rfl rfl rfl (by decide +kernel)
def codes1 : List Jvm.Cond := [Jvm.Cond.code x code maxLocals ret, Jvm.Cond.code ({ cls := "com/example/corollary/corollary/reason/AtomBoundMaskPinLaw", name := "varOf", desc := "(I)I" } : Jvm.MethodName) method_3_code (1 : Nat) (Option.some Jvm.ClassFile.FieldType.int), Jvm.Cond.code ({ cls := "com/example/corollary/corollary/reason/Relation", name := "<init>", desc := "(II)V" } : Jvm.MethodName) prog_27_method_1_code (3 : Nat) (Option.none : Option Jvm.ClassFile.FieldType), Jvm.Cond.code ({ cls := "java/lang/Record", name := "<init>", desc := "()V" } : Jvm.MethodName) jdk_30_method_1_code (1 : Nat) (Option.none : Option Jvm.ClassFile.FieldType), Jvm.Cond.code ({ cls := "java/lang/Object", name := "<init>", desc := "()V" } : Jvm.MethodName) object_method_1_code (1 : Nat) (Option.none : Option Jvm.ClassFile.FieldType), Jvm.Cond.code ({ cls := "com/example/corollary/corollary/reason/Atom", name := "<init>", desc := "(Lcom/example/corollary/corollary/reason/Relation;[I[I)V" } : Jvm.MethodName) prog_23_method_1_code (4 : Nat) (Option.none : Option Jvm.ClassFile.FieldType), Jvm.Cond.code ({ cls := "com/example/corollary/corollary/reason/Atom", name := "boundMask", desc := "([Z)I" } : Jvm.MethodName) prog_23_method_5_code (5 : Nat) (Option.some Jvm.ClassFile.FieldType.int), Jvm.Cond.code ({ cls := "com/example/corollary/corollary/reason/AtomBoundMaskPinLaw", name := "bit", desc := "(III)I" } : Jvm.MethodName) method_4_code (5 : Nat) (Option.some Jvm.ClassFile.FieldType.int)]
set_option maxRecDepth 65536 in
theorem codes_eq : words1.filter isCode = codes1 := rfl
theorem w_codes : ∀ c ∈ words1.filter isCode, c.before args0 about1 = true := by
  rw [codes_eq]
  intro c hc
  simp only [codes1, List.mem_cons, List.not_mem_nil, or_false] at hc
  rcases hc with rfl | rfl | rfl | rfl | rfl | rfl | rfl | rfl
  · exact w_c0
  · exact w_c1
  · exact w_c2
  · exact w_c3
  · exact w_c4
  · exact w_c5
  · exact w_c6
  · exact w_c7
set_option maxRecDepth 65536 in
theorem w_t1 : (words1.take 24).all (fun c => isCode c || c.before args0 about1) = true := by decide +kernel
set_option maxRecDepth 65536 in
theorem w_t2 : ((words1.drop 24).take 24).all (fun c => isCode c || c.before args0 about1) = true := by decide +kernel
set_option maxRecDepth 65536 in
theorem w_t3 : ((words1.drop 24).drop 24).all (fun c => isCode c || c.before args0 about1) = true := by decide +kernel
theorem w_tables : (allAtoms (Jvm.Cond.code x code maxLocals ret :: tables_1)).before args0 about1 = true := by
  rw [allAtoms_all]
  show words1.all (fun c => c.before args0 about1) = true
  refine all_split ?_ w_codes
  rw [← List.take_append_drop 24 words1, List.all_append, w_t1, ← List.take_append_drop 24 (words1.drop 24), List.all_append, w_t2, w_t3]
  rfl
set_option maxRecDepth 65536 in
theorem w_case : (Jvm.Cond.and given_1 narrow_1).before args0 about1 = true := by decide +kernel
theorem w_applies : (headSpec (Jvm.Cond.code x code maxLocals ret :: tables_1) room_1).applies x e0.platform about1 = true :=
  (Spec.applies_iff w_frames).mpr ⟨w_running, w_runnable, w_alone, w_named, w_hears, w_ripe, w_room, w_tables⟩
theorem atStart : AtStart classFile x code maxLocals ret World_1 tables_1 room_1 Calls_1 rest_1 Pre_1 launch0 p0 e0 about1 theMethod args0 below0 :=
  ⟨lists_1, trivial, launch0.admits_env _ _ _, launch0.least_env, fairChoices_fair.cas, fairChoices_fair.clock, w_frames, w_args, w_heap, w_applies, trivial, trivial, w_case⟩
end start1
theorem witness_1 : WitnessClaimed_1 := ⟨start1.p0, start1.e0, start1.about1, start1.theMethod, start1.args0, start1.below0, start1.atStart⟩
end Jvm.Pilot.@@N@@
