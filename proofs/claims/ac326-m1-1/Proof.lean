import JvmDerived
import JvmDerived.Pilot.@@N@@Statement
import JvmDerived.Pilot.@@N@@Code
set_option linter.unusedVariables false
set_option linter.unusedSimpArgs false
namespace Jvm.Pilot.@@N@@
open Jvm Jvm.ClassFile Sem Op Lib Jvm.Free Jvm.Stand Jvm.LawKit Jvm.RoadKit Bundle Jvm.Pilot.@@N@@.Jvm.D
/-! own kit (printed by wip/gen/kit.py) -/
/-- from here the walk comes to an end that K takes -/
def Run (p : Program) (e : Env) (below : List Frame) (m : MethodId) (K : State → Prop) (T : State) (pc : Nat) (L : Array Slot) (st : List Value) : Prop :=
  ∃ u, Steps p.tables e below (T.setTop (mkF m pc L st)) u ∧ K u
/-- what goes through a whole body -/
def Cx (p : Program) (l : Launch) (e : Env) (R : Room) (s : State) (m : MethodId) (args : Array Value) (below : List Frame) (meth : Method) (c : Code) (Z : State) (bytes : ByteArray) (ml : Nat) (own : String) (ret : Option FieldType) (mname : String) (n0 : Nat) (T : State) (h : Heap) (cells slots : Nat) : Prop :=
  (∃ locs, Stand p l e R s m args below meth c T locs cells slots ∧ Fr n0 locs) ∧ T.heap = h ∧ p.tables.exec = Jvm.exec ∧ c.code = bytes ∧ c.maxLocals = ml ∧ Z.Warmed39 s.vm ∧ s.vm.findClass own = some m.cls ∧ meth.sig.returnType = ret ∧ meth.name = mname ∧ meth.locks = false ∧ n0 ≤ h.size
/-- the end of a body: what it returns and leaves is Q's -/
def Fin1 (below : List Frame) (s : State) (n0 : Nat) (Q : Option Value → Heap → Prop) (cN sN : Nat) (u : State) : Prop :=
  u.status = .running ∧ ∃ o, Ended u below o ∧ ∃ v L, o = .returned v ∧ (Q v u.heap ∧ Fr n0 L ∧ n0 ≤ u.heap.size) ∧ FrameEnd s o u L cN sN
/-- a body's contract -/
def Met1 (l : Launch) (Z : State) (n0 : Nat) (ws : List Jvm.Cond) (y : MethodName) (bytes : ByteArray) (ml : Nat) (ret : Option FieldType) (rm : Room) (as : Array Value) (h0 : Heap) (Q : Option Value → Heap → Prop) : Prop :=
  MetFree l y (head1 (Jvm.Cond.code y bytes ml ret :: ws) rm) (fun a U => a = as ∧ Z.Warmed39 U.vm ∧ U.heap = h0) (fun _ _ _ _ _ => True) (fun _ U o U' => ∃ v L, o = .returned v ∧ (Q v U'.heap ∧ Fr n0 L ∧ n0 ≤ U'.heap.size) ∧ FrameEnd U o U' L rm.cells rm.slots)
/-- an array: its kind, its length, what each place holds -/
def AF (Z : State) (h : Heap) (a : Addr) (ty : FieldType) (n : Nat) (f : Nat → Value) : Prop := ∃ c : Cell, Arr Z h a c ty ∧ c.slots.size = n ∧ n < 2 ^ 31 ∧ ∀ j, j < n → c.slots[j]? = some (f j)
def upd (f : Nat → Value) (i : Nat) (v : Value) : Nat → Value := fun j => if j = i then v else f j
section Own
variable {p : Program} {l : Launch} {e : Env} {R : Room} {s : State} {m : MethodId} {args : Array Value} {below : List Frame} {meth : Method} {c : Code} {Z : State} {bytes : ByteArray} {ml : Nat} {own mname : String} {ret : Option FieldType} {n0 : Nat} {T : State} {h : Heap} {cells slots : Nat} {K : State → Prop} {pc : Nat} {L : Array Slot} {st : List Value}
theorem Cx.sz (X : Cx p l e R s m args below meth c Z bytes ml own ret mname n0 T h cells slots) : n0 ≤ h.size := X.2.2.2.2.2.2.2.2.2.2
theorem Run.of {T' : State} {pc' : Nat} {L' : Array Slot} {st' : List Value} (h : ∀ t, Steps p.tables e below (T'.setTop (mkF m pc' L' st')) t → Steps p.tables e below (T.setTop (mkF m pc L st)) t) (r : Run p e below m K T' pc' L' st') : Run p e below m K T pc L st :=
  r.imp fun u q => ⟨h u q.1, q.2⟩
theorem upd_hit {f : Nat → Value} {i : Nat} {v : Value} : upd f i v i = v := if_pos rfl
theorem upd_miss {f : Nat → Value} {i j : Nat} {v : Value} (q : j ≠ i) : upd f i v j = f j := if_neg q
theorem idx_of {j : Int32} {i n : Nat} (hj : j.toInt = (i : Int)) (hi : i < n) : ¬ (j < 0 ∨ n ≤ j.toNatClampNeg) ∧ j.toNatClampNeg = i := by
  have q : j.toNatClampNeg = i := by show j.toInt.toNat = i; omega
  refine ⟨?_, q⟩
  rw [q, Int32.lt_iff_toInt_lt]
  have : (0 : Int32).toInt = 0 := rfl
  omega
theorem AF.lt {a : Addr} {ty : FieldType} {n : Nat} {f : Nat → Value} (A : AF Z h a ty n f) : a < h.size := by obtain ⟨c, A, -⟩ := A; exact A.lt
theorem AF.small {a : Addr} {ty : FieldType} {n : Nat} {f : Nat → Value} (A : AF Z h a ty n f) : n < 2 ^ 31 := by obtain ⟨c, -, -, q, -⟩ := A; exact q
theorem AF.ext {a : Addr} {ty : FieldType} {n : Nat} {f : Nat → Value} {h' : Heap} (A : AF Z h a ty n f) (E : Ext h h') : AF Z h' a ty n f := by obtain ⟨c, A, r⟩ := A; exact ⟨c, A.ext E, r⟩
theorem AF.other {a b : Addr} {ty : FieldType} {n sl : Nat} {v : Value} {f : Nat → Value} {h' : Heap} (A : AF Z h b ty n f) (W : Wr h h' a sl v) (q : b ≠ a) : AF Z h' b ty n f := by obtain ⟨c, A, r⟩ := A; exact ⟨c, A.other W q, r⟩
theorem AF.keep {a : Addr} {ty : FieldType} {n : Nat} {f : Nat → Value} {h' : Heap} {ws : List Addr} (A : AF Z h a ty n f) (K : Keep h h' ws) (q : a ∉ ws) : AF Z h' a ty n f := by obtain ⟨c, A, r⟩ := A; exact ⟨c, ⟨K.2.1 a c A.1 q, A.2⟩, r⟩
theorem AF.set {a : Addr} {ty : FieldType} {n i : Nat} {v : Value} {f : Nat → Value} {h' : Heap} (A : AF Z h a ty n f) (W : Wr h h' a i v) : AF Z h' a ty n (upd f i v) := by
  obtain ⟨c, A, S, q, H⟩ := A
  refine ⟨_, A.same W, by rw [sz_set]; exact S, q, fun j hj => ?_⟩
  show (c.slots.setIfInBounds i v)[j]? = _
  rw [Array.getElem?_setIfInBounds, S]
  by_cases e : i = j
  · subst e; simp [hj, upd]
  · have e' : j ≠ i := fun q => e q.symm
    simp [e, upd, e', H j hj]
theorem AF.congr {a : Addr} {ty : FieldType} {n : Nat} {f g : Nat → Value} (A : AF Z h a ty n f) (q : ∀ j, j < n → f j = g j) : AF Z h a ty n g := by
  obtain ⟨c, A, S, r, H⟩ := A; exact ⟨c, A, S, r, fun j hj => by rw [H j hj, q j hj]⟩
theorem AF.ne_obj {a b : Addr} {ty : FieldType} {n k : Nat} {f : Nat → Value} {C : String} {a0 : Array Value} (A : AF Z h b ty n f) (E : Exa Z h a C) (wi : (Jvm.Cond.instantiable C k).before a0 Z = true) : a ≠ b := by obtain ⟨c, A, -⟩ := A; exact ne_arr E wi A
theorem r_topI {x x' : Int32} (q : x = x') (r : Run p e below m K T pc L (.int x' :: st)) : Run p e below m K T pc L (.int x :: st) := q ▸ r
theorem r_topJ {x x' : Int64} (q : x = x') (r : Run p e below m K T pc L (.long x' :: st)) : Run p e below m K T pc L (.long x :: st) := q ▸ r
theorem r_top {x x' : Value} (q : x = x') (r : Run p e below m K T pc L (x' :: st)) : Run p e below m K T pc L (x :: st) := q ▸ r
theorem r_loc {L' : Array Slot} (q : L = L') (r : Run p e below m K T pc L' st) : Run p e below m K T pc L st := q ▸ r
theorem r_iload (pc' : Nat) (X : Cx p l e R s m args below meth c Z bytes ml own ret mname n0 T h cells slots) {k : Nat} {v : Int32} (hd : decode bytes pc = .ok (.iload k, 2)) (hl : L[k]? = some (.val (.int v))) (r : Run p e below m K T pc' L (.int v :: st)) (q : pc + 2 = pc' := by rfl) : Run p e below m K T pc L st := by
  obtain ⟨⟨locs, X, -⟩, -, hx, hby, -⟩ := X
  subst q hby
  exact Run.of (fun t k => XS.iload X.here hx rfl hd hl k) r
theorem r_iloadN (pc' : Nat) (X : Cx p l e R s m args below meth c Z bytes ml own ret mname n0 T h cells slots) {k : Fin 4} {v : Int32} (hd : decode bytes pc = .ok (.iload_n k, 1)) (hl : L[k.val]? = some (.val (.int v))) (r : Run p e below m K T pc' L (.int v :: st)) (q : pc + 1 = pc' := by rfl) : Run p e below m K T pc L st := by
  obtain ⟨⟨locs, X, -⟩, -, hx, hby, -⟩ := X
  subst q hby
  exact Run.of (fun t k => XS.iloadN X.here hx rfl hd hl k) r
theorem r_istore (pc' : Nat) (X : Cx p l e R s m args below meth c Z bytes ml own ret mname n0 T h cells slots) {k : Nat} {v : Int32} (L' : Array Slot) (hd : decode bytes pc = .ok (.istore k, 2)) (hl : storeLocals L k (.int v) = some L') (r : Run p e below m K T pc' L' st) (q : pc + 2 = pc' := by rfl) : Run p e below m K T pc L (.int v :: st) := by
  obtain ⟨⟨locs, X, -⟩, -, hx, hby, -⟩ := X
  subst q hby
  exact Run.of (fun t k => XS.istore X.here hx rfl hd rfl hl k) r
theorem r_istoreN (pc' : Nat) (X : Cx p l e R s m args below meth c Z bytes ml own ret mname n0 T h cells slots) {k : Fin 4} {v : Int32} (L' : Array Slot) (hd : decode bytes pc = .ok (.istore_n k, 1)) (hl : storeLocals L k.val (.int v) = some L') (r : Run p e below m K T pc' L' st) (q : pc + 1 = pc' := by rfl) : Run p e below m K T pc L (.int v :: st) := by
  obtain ⟨⟨locs, X, -⟩, -, hx, hby, -⟩ := X
  subst q hby
  exact Run.of (fun t k => XS.istoreN X.here hx rfl hd rfl hl k) r
theorem r_lload (pc' : Nat) (X : Cx p l e R s m args below meth c Z bytes ml own ret mname n0 T h cells slots) {k : Nat} {v : Int64} (hd : decode bytes pc = .ok (.lload k, 2)) (hl : L[k]? = some (.val (.long v))) (r : Run p e below m K T pc' L (.long v :: st)) (q : pc + 2 = pc' := by rfl) : Run p e below m K T pc L st := by
  obtain ⟨⟨locs, X, -⟩, -, hx, hby, -⟩ := X
  subst q hby
  exact Run.of (fun t k => XS.lload X.here hx rfl hd hl k) r
theorem r_lloadN (pc' : Nat) (X : Cx p l e R s m args below meth c Z bytes ml own ret mname n0 T h cells slots) {k : Fin 4} {v : Int64} (hd : decode bytes pc = .ok (.lload_n k, 1)) (hl : L[k.val]? = some (.val (.long v))) (r : Run p e below m K T pc' L (.long v :: st)) (q : pc + 1 = pc' := by rfl) : Run p e below m K T pc L st := by
  obtain ⟨⟨locs, X, -⟩, -, hx, hby, -⟩ := X
  subst q hby
  exact Run.of (fun t k => XS.lloadN X.here hx rfl hd hl k) r
theorem r_lstore (pc' : Nat) (X : Cx p l e R s m args below meth c Z bytes ml own ret mname n0 T h cells slots) {k : Nat} {v : Int64} (L' : Array Slot) (hd : decode bytes pc = .ok (.lstore k, 2)) (hl : storeLocals L k (.long v) = some L') (r : Run p e below m K T pc' L' st) (q : pc + 2 = pc' := by rfl) : Run p e below m K T pc L (.long v :: st) := by
  obtain ⟨⟨locs, X, -⟩, -, hx, hby, -⟩ := X
  subst q hby
  exact Run.of (fun t k => XS.lstore X.here hx rfl hd rfl hl k) r
theorem r_lstoreN (pc' : Nat) (X : Cx p l e R s m args below meth c Z bytes ml own ret mname n0 T h cells slots) {k : Fin 4} {v : Int64} (L' : Array Slot) (hd : decode bytes pc = .ok (.lstore_n k, 1)) (hl : storeLocals L k.val (.long v) = some L') (r : Run p e below m K T pc' L' st) (q : pc + 1 = pc' := by rfl) : Run p e below m K T pc L (.long v :: st) := by
  obtain ⟨⟨locs, X, -⟩, -, hx, hby, -⟩ := X
  subst q hby
  exact Run.of (fun t k => XS.lstoreN X.here hx rfl hd rfl hl k) r
theorem r_dload (pc' : Nat) (X : Cx p l e R s m args below meth c Z bytes ml own ret mname n0 T h cells slots) {k : Nat} {v : UInt64} (hd : decode bytes pc = .ok (.dload k, 2)) (hl : L[k]? = some (.val (.double v))) (r : Run p e below m K T pc' L (.double v :: st)) (q : pc + 2 = pc' := by rfl) : Run p e below m K T pc L st := by
  obtain ⟨⟨locs, X, -⟩, -, hx, hby, -⟩ := X
  subst q hby
  exact Run.of (fun t k => XS.dload X.here hx rfl hd hl k) r
theorem r_dloadN (pc' : Nat) (X : Cx p l e R s m args below meth c Z bytes ml own ret mname n0 T h cells slots) {k : Fin 4} {v : UInt64} (hd : decode bytes pc = .ok (.dload_n k, 1)) (hl : L[k.val]? = some (.val (.double v))) (r : Run p e below m K T pc' L (.double v :: st)) (q : pc + 1 = pc' := by rfl) : Run p e below m K T pc L st := by
  obtain ⟨⟨locs, X, -⟩, -, hx, hby, -⟩ := X
  subst q hby
  exact Run.of (fun t k => XS.dloadN X.here hx rfl hd hl k) r
theorem r_dstore (pc' : Nat) (X : Cx p l e R s m args below meth c Z bytes ml own ret mname n0 T h cells slots) {k : Nat} {v : UInt64} (L' : Array Slot) (hd : decode bytes pc = .ok (.dstore k, 2)) (hl : storeLocals L k (.double v) = some L') (r : Run p e below m K T pc' L' st) (q : pc + 2 = pc' := by rfl) : Run p e below m K T pc L (.double v :: st) := by
  obtain ⟨⟨locs, X, -⟩, -, hx, hby, -⟩ := X
  subst q hby
  exact Run.of (fun t k => XS.dstore X.here hx rfl hd rfl hl k) r
theorem r_dstoreN (pc' : Nat) (X : Cx p l e R s m args below meth c Z bytes ml own ret mname n0 T h cells slots) {k : Fin 4} {v : UInt64} (L' : Array Slot) (hd : decode bytes pc = .ok (.dstore_n k, 1)) (hl : storeLocals L k.val (.double v) = some L') (r : Run p e below m K T pc' L' st) (q : pc + 1 = pc' := by rfl) : Run p e below m K T pc L (.double v :: st) := by
  obtain ⟨⟨locs, X, -⟩, -, hx, hby, -⟩ := X
  subst q hby
  exact Run.of (fun t k => XS.dstoreN X.here hx rfl hd rfl hl k) r
theorem r_aload (pc' : Nat) (X : Cx p l e R s m args below meth c Z bytes ml own ret mname n0 T h cells slots) {k : Nat} {v : Value} (hd : decode bytes pc = .ok (.aload k, 2)) (hl : L[k]? = some (.val v)) (hv : v.isRef = true) (r : Run p e below m K T pc' L (v :: st)) (q : pc + 2 = pc' := by rfl) : Run p e below m K T pc L st := by
  obtain ⟨⟨locs, X, -⟩, -, hx, hby, -⟩ := X
  subst q hby
  exact Run.of (fun t k => XS.aload X.here hx rfl hd hl hv k) r
theorem r_aloadN (pc' : Nat) (X : Cx p l e R s m args below meth c Z bytes ml own ret mname n0 T h cells slots) {k : Fin 4} {v : Value} (hd : decode bytes pc = .ok (.aload_n k, 1)) (hl : L[k.val]? = some (.val v)) (hv : v.isRef = true) (r : Run p e below m K T pc' L (v :: st)) (q : pc + 1 = pc' := by rfl) : Run p e below m K T pc L st := by
  obtain ⟨⟨locs, X, -⟩, -, hx, hby, -⟩ := X
  subst q hby
  exact Run.of (fun t k => XS.aloadN X.here hx rfl hd hl hv k) r
theorem r_astore (pc' : Nat) (X : Cx p l e R s m args below meth c Z bytes ml own ret mname n0 T h cells slots) {k : Nat} {v : Value} (L' : Array Slot) (hd : decode bytes pc = .ok (.astore k, 2)) (hv : v.isRef = true) (hl : storeLocals L k v = some L') (r : Run p e below m K T pc' L' st) (q : pc + 2 = pc' := by rfl) : Run p e below m K T pc L (v :: st) := by
  obtain ⟨⟨locs, X, -⟩, -, hx, hby, -⟩ := X
  subst q hby
  exact Run.of (fun t k => XS.astore X.here hx rfl hd rfl hv hl k) r
theorem r_astoreN (pc' : Nat) (X : Cx p l e R s m args below meth c Z bytes ml own ret mname n0 T h cells slots) {k : Fin 4} {v : Value} (L' : Array Slot) (hd : decode bytes pc = .ok (.astore_n k, 1)) (hv : v.isRef = true) (hl : storeLocals L k.val v = some L') (r : Run p e below m K T pc' L' st) (q : pc + 1 = pc' := by rfl) : Run p e below m K T pc L (v :: st) := by
  obtain ⟨⟨locs, X, -⟩, -, hx, hby, -⟩ := X
  subst q hby
  exact Run.of (fun t k => XS.astoreN X.here hx rfl hd rfl hv hl k) r
theorem r_iconst (pc' : Nat) (X : Cx p l e R s m args below meth c Z bytes ml own ret mname n0 T h cells slots) {i : Int} (z : Int32) (hd : decode bytes pc = .ok (.iconst i, 1)) (hz : Int32.ofInt i = z) (r : Run p e below m K T pc' L (.int z :: st)) (q : pc + 1 = pc' := by rfl) : Run p e below m K T pc L st := by
  obtain ⟨⟨locs, X, -⟩, -, hx, hby, -⟩ := X
  subst q hby hz
  exact Run.of (fun t k => XS.iconst X.here hx rfl hd  k) r
theorem r_bipush (pc' : Nat) (X : Cx p l e R s m args below meth c Z bytes ml own ret mname n0 T h cells slots) {i : Int} (z : Int32) (hd : decode bytes pc = .ok (.bipush i, 2)) (hz : (Int8.ofInt i).toInt32 = z) (r : Run p e below m K T pc' L (.int z :: st)) (q : pc + 2 = pc' := by rfl) : Run p e below m K T pc L st := by
  obtain ⟨⟨locs, X, -⟩, -, hx, hby, -⟩ := X
  subst q hby hz
  exact Run.of (fun t k => XS.bipush X.here hx rfl hd  k) r
theorem r_sipush (pc' : Nat) (X : Cx p l e R s m args below meth c Z bytes ml own ret mname n0 T h cells slots) {i : Int} (z : Int32) (hd : decode bytes pc = .ok (.sipush i, 3)) (hz : (Int16.ofInt i).toInt32 = z) (r : Run p e below m K T pc' L (.int z :: st)) (q : pc + 3 = pc' := by rfl) : Run p e below m K T pc L st := by
  obtain ⟨⟨locs, X, -⟩, -, hx, hby, -⟩ := X
  subst q hby hz
  exact Run.of (fun t k => XS.sipush X.here hx rfl hd  k) r
theorem r_lconst (pc' : Nat) (X : Cx p l e R s m args below meth c Z bytes ml own ret mname n0 T h cells slots) {i : Fin 2} (z : Int64) (hd : decode bytes pc = .ok (.lconst i, 1)) (hz : Int64.ofNat i = z) (r : Run p e below m K T pc' L (.long z :: st)) (q : pc + 1 = pc' := by rfl) : Run p e below m K T pc L st := by
  obtain ⟨⟨locs, X, -⟩, -, hx, hby, -⟩ := X
  subst q hby hz
  exact Run.of (fun t k => XS.lconst X.here hx rfl hd  k) r
theorem r_aconst_null (pc' : Nat) (X : Cx p l e R s m args below meth c Z bytes ml own ret mname n0 T h cells slots)  (hd : decode bytes pc = .ok (.aconst_null, 1))  (r : Run p e below m K T pc' L (.null :: st)) (q : pc + 1 = pc' := by rfl) : Run p e below m K T pc L st := by
  obtain ⟨⟨locs, X, -⟩, -, hx, hby, -⟩ := X
  subst q hby
  exact Run.of (fun t k => XS.aconstNull X.here hx rfl hd  k) r
theorem r_dconst0 (pc' : Nat) (X : Cx p l e R s m args below meth c Z bytes ml own ret mname n0 T h cells slots)  (hd : decode bytes pc = .ok (.dconst 0, 1))  (r : Run p e below m K T pc' L (.double FP.dconst0 :: st)) (q : pc + 1 = pc' := by rfl) : Run p e below m K T pc L st := by
  obtain ⟨⟨locs, X, -⟩, -, hx, hby, -⟩ := X
  subst q hby
  exact Run.of (fun t k => XS.dconst0 X.here hx rfl hd rfl k) r
theorem r_dconst1 (pc' : Nat) (X : Cx p l e R s m args below meth c Z bytes ml own ret mname n0 T h cells slots)  (hd : decode bytes pc = .ok (.dconst 1, 1))  (r : Run p e below m K T pc' L (.double FP.dconst1 :: st)) (q : pc + 1 = pc' := by rfl) : Run p e below m K T pc L st := by
  obtain ⟨⟨locs, X, -⟩, -, hx, hby, -⟩ := X
  subst q hby
  exact Run.of (fun t k => XS.dconst1 X.here hx rfl hd rfl k) r
theorem r_iadd (pc' : Nat) (X : Cx p l e R s m args below meth c Z bytes ml own ret mname n0 T h cells slots) {x y : Int32} (hd : decode bytes pc = .ok (.iadd, 1))  (r : Run p e below m K T pc' L (.int (x + y) :: st)) (q : pc + 1 = pc' := by rfl) : Run p e below m K T pc L (.int y :: .int x :: st) := by
  obtain ⟨⟨locs, X, -⟩, -, hx, hby, -⟩ := X
  subst q hby
  exact Run.of (fun t k => XS.iadd X.here hx rfl hd rfl k) r
theorem r_isub (pc' : Nat) (X : Cx p l e R s m args below meth c Z bytes ml own ret mname n0 T h cells slots) {x y : Int32} (hd : decode bytes pc = .ok (.isub, 1))  (r : Run p e below m K T pc' L (.int (x - y) :: st)) (q : pc + 1 = pc' := by rfl) : Run p e below m K T pc L (.int y :: .int x :: st) := by
  obtain ⟨⟨locs, X, -⟩, -, hx, hby, -⟩ := X
  subst q hby
  exact Run.of (fun t k => XS.isub X.here hx rfl hd rfl k) r
theorem r_imul (pc' : Nat) (X : Cx p l e R s m args below meth c Z bytes ml own ret mname n0 T h cells slots) {x y : Int32} (hd : decode bytes pc = .ok (.imul, 1))  (r : Run p e below m K T pc' L (.int (x * y) :: st)) (q : pc + 1 = pc' := by rfl) : Run p e below m K T pc L (.int y :: .int x :: st) := by
  obtain ⟨⟨locs, X, -⟩, -, hx, hby, -⟩ := X
  subst q hby
  exact Run.of (fun t k => XS.imul X.here hx rfl hd rfl k) r
theorem r_iand (pc' : Nat) (X : Cx p l e R s m args below meth c Z bytes ml own ret mname n0 T h cells slots) {x y : Int32} (hd : decode bytes pc = .ok (.iand, 1))  (r : Run p e below m K T pc' L (.int (x &&& y) :: st)) (q : pc + 1 = pc' := by rfl) : Run p e below m K T pc L (.int y :: .int x :: st) := by
  obtain ⟨⟨locs, X, -⟩, -, hx, hby, -⟩ := X
  subst q hby
  exact Run.of (fun t k => XS.iand X.here hx rfl hd rfl k) r
theorem r_ior (pc' : Nat) (X : Cx p l e R s m args below meth c Z bytes ml own ret mname n0 T h cells slots) {x y : Int32} (hd : decode bytes pc = .ok (.ior, 1))  (r : Run p e below m K T pc' L (.int (x ||| y) :: st)) (q : pc + 1 = pc' := by rfl) : Run p e below m K T pc L (.int y :: .int x :: st) := by
  obtain ⟨⟨locs, X, -⟩, -, hx, hby, -⟩ := X
  subst q hby
  exact Run.of (fun t k => XS.ior X.here hx rfl hd rfl k) r
theorem r_ixor (pc' : Nat) (X : Cx p l e R s m args below meth c Z bytes ml own ret mname n0 T h cells slots) {x y : Int32} (hd : decode bytes pc = .ok (.ixor, 1))  (r : Run p e below m K T pc' L (.int (x ^^^ y) :: st)) (q : pc + 1 = pc' := by rfl) : Run p e below m K T pc L (.int y :: .int x :: st) := by
  obtain ⟨⟨locs, X, -⟩, -, hx, hby, -⟩ := X
  subst q hby
  exact Run.of (fun t k => XS.ixor X.here hx rfl hd rfl k) r
theorem r_ishl (pc' : Nat) (X : Cx p l e R s m args below meth c Z bytes ml own ret mname n0 T h cells slots) {x y : Int32} (hd : decode bytes pc = .ok (.ishl, 1))  (r : Run p e below m K T pc' L (.int (x <<< (y &&& 31)) :: st)) (q : pc + 1 = pc' := by rfl) : Run p e below m K T pc L (.int y :: .int x :: st) := by
  obtain ⟨⟨locs, X, -⟩, -, hx, hby, -⟩ := X
  subst q hby
  exact Run.of (fun t k => XS.ishl X.here hx rfl hd rfl k) r
theorem r_ishr (pc' : Nat) (X : Cx p l e R s m args below meth c Z bytes ml own ret mname n0 T h cells slots) {x y : Int32} (hd : decode bytes pc = .ok (.ishr, 1))  (r : Run p e below m K T pc' L (.int (x >>> (y &&& 31)) :: st)) (q : pc + 1 = pc' := by rfl) : Run p e below m K T pc L (.int y :: .int x :: st) := by
  obtain ⟨⟨locs, X, -⟩, -, hx, hby, -⟩ := X
  subst q hby
  exact Run.of (fun t k => XS.ishr X.here hx rfl hd rfl k) r
theorem r_iushr (pc' : Nat) (X : Cx p l e R s m args below meth c Z bytes ml own ret mname n0 T h cells slots) {x y : Int32} (hd : decode bytes pc = .ok (.iushr, 1))  (r : Run p e below m K T pc' L (.int ((x.toUInt32 >>> (y &&& 31).toUInt32).toInt32) :: st)) (q : pc + 1 = pc' := by rfl) : Run p e below m K T pc L (.int y :: .int x :: st) := by
  obtain ⟨⟨locs, X, -⟩, -, hx, hby, -⟩ := X
  subst q hby
  exact Run.of (fun t k => XS.iushr X.here hx rfl hd rfl k) r
theorem r_ladd (pc' : Nat) (X : Cx p l e R s m args below meth c Z bytes ml own ret mname n0 T h cells slots) {x y : Int64} (hd : decode bytes pc = .ok (.ladd, 1))  (r : Run p e below m K T pc' L (.long (x + y) :: st)) (q : pc + 1 = pc' := by rfl) : Run p e below m K T pc L (.long y :: .long x :: st) := by
  obtain ⟨⟨locs, X, -⟩, -, hx, hby, -⟩ := X
  subst q hby
  exact Run.of (fun t k => XS.ladd X.here hx rfl hd rfl k) r
theorem r_lsub (pc' : Nat) (X : Cx p l e R s m args below meth c Z bytes ml own ret mname n0 T h cells slots) {x y : Int64} (hd : decode bytes pc = .ok (.lsub, 1))  (r : Run p e below m K T pc' L (.long (x - y) :: st)) (q : pc + 1 = pc' := by rfl) : Run p e below m K T pc L (.long y :: .long x :: st) := by
  obtain ⟨⟨locs, X, -⟩, -, hx, hby, -⟩ := X
  subst q hby
  exact Run.of (fun t k => XS.lsub X.here hx rfl hd rfl k) r
theorem r_lmul (pc' : Nat) (X : Cx p l e R s m args below meth c Z bytes ml own ret mname n0 T h cells slots) {x y : Int64} (hd : decode bytes pc = .ok (.lmul, 1))  (r : Run p e below m K T pc' L (.long (x * y) :: st)) (q : pc + 1 = pc' := by rfl) : Run p e below m K T pc L (.long y :: .long x :: st) := by
  obtain ⟨⟨locs, X, -⟩, -, hx, hby, -⟩ := X
  subst q hby
  exact Run.of (fun t k => XS.lmul X.here hx rfl hd rfl k) r
theorem r_land (pc' : Nat) (X : Cx p l e R s m args below meth c Z bytes ml own ret mname n0 T h cells slots) {x y : Int64} (hd : decode bytes pc = .ok (.land, 1))  (r : Run p e below m K T pc' L (.long (x &&& y) :: st)) (q : pc + 1 = pc' := by rfl) : Run p e below m K T pc L (.long y :: .long x :: st) := by
  obtain ⟨⟨locs, X, -⟩, -, hx, hby, -⟩ := X
  subst q hby
  exact Run.of (fun t k => XS.land X.here hx rfl hd rfl k) r
theorem r_lor (pc' : Nat) (X : Cx p l e R s m args below meth c Z bytes ml own ret mname n0 T h cells slots) {x y : Int64} (hd : decode bytes pc = .ok (.lor, 1))  (r : Run p e below m K T pc' L (.long (x ||| y) :: st)) (q : pc + 1 = pc' := by rfl) : Run p e below m K T pc L (.long y :: .long x :: st) := by
  obtain ⟨⟨locs, X, -⟩, -, hx, hby, -⟩ := X
  subst q hby
  exact Run.of (fun t k => XS.lor X.here hx rfl hd rfl k) r
theorem r_lxor (pc' : Nat) (X : Cx p l e R s m args below meth c Z bytes ml own ret mname n0 T h cells slots) {x y : Int64} (hd : decode bytes pc = .ok (.lxor, 1))  (r : Run p e below m K T pc' L (.long (x ^^^ y) :: st)) (q : pc + 1 = pc' := by rfl) : Run p e below m K T pc L (.long y :: .long x :: st) := by
  obtain ⟨⟨locs, X, -⟩, -, hx, hby, -⟩ := X
  subst q hby
  exact Run.of (fun t k => XS.lxor X.here hx rfl hd rfl k) r
theorem r_lshl (pc' : Nat) (X : Cx p l e R s m args below meth c Z bytes ml own ret mname n0 T h cells slots) {x : Int64} {y : Int32} (hd : decode bytes pc = .ok (.lshl, 1))  (r : Run p e below m K T pc' L (.long (x <<< (y &&& 0x3f).toInt64) :: st)) (q : pc + 1 = pc' := by rfl) : Run p e below m K T pc L (.int y :: .long x :: st) := by
  obtain ⟨⟨locs, X, -⟩, -, hx, hby, -⟩ := X
  subst q hby
  exact Run.of (fun t k => XS.lshl X.here hx rfl hd rfl k) r
theorem r_lshr (pc' : Nat) (X : Cx p l e R s m args below meth c Z bytes ml own ret mname n0 T h cells slots) {x : Int64} {y : Int32} (hd : decode bytes pc = .ok (.lshr, 1))  (r : Run p e below m K T pc' L (.long (x >>> (y &&& 0x3f).toInt64) :: st)) (q : pc + 1 = pc' := by rfl) : Run p e below m K T pc L (.int y :: .long x :: st) := by
  obtain ⟨⟨locs, X, -⟩, -, hx, hby, -⟩ := X
  subst q hby
  exact Run.of (fun t k => XS.lshr X.here hx rfl hd rfl k) r
theorem r_lushr (pc' : Nat) (X : Cx p l e R s m args below meth c Z bytes ml own ret mname n0 T h cells slots) {x : Int64} {y : Int32} (hd : decode bytes pc = .ok (.lushr, 1))  (r : Run p e below m K T pc' L (.long ((x.toUInt64 >>> (y &&& 0x3f).toInt64.toUInt64).toInt64) :: st)) (q : pc + 1 = pc' := by rfl) : Run p e below m K T pc L (.int y :: .long x :: st) := by
  obtain ⟨⟨locs, X, -⟩, -, hx, hby, -⟩ := X
  subst q hby
  exact Run.of (fun t k => XS.lushr X.here hx rfl hd rfl k) r
theorem r_lcmp (pc' : Nat) (X : Cx p l e R s m args below meth c Z bytes ml own ret mname n0 T h cells slots) {x y : Int64} (hd : decode bytes pc = .ok (.lcmp, 1))  (r : Run p e below m K T pc' L (.int (lcmpW x y) :: st)) (q : pc + 1 = pc' := by rfl) : Run p e below m K T pc L (.long y :: .long x :: st) := by
  obtain ⟨⟨locs, X, -⟩, -, hx, hby, -⟩ := X
  subst q hby
  exact Run.of (fun t k => XS.lcmp X.here hx rfl hd rfl k) r
theorem r_idiv (pc' : Nat) (X : Cx p l e R s m args below meth c Z bytes ml own ret mname n0 T h cells slots) {x y : Int32} (hd : decode bytes pc = .ok (.idiv, 1)) (hy : y ≠ 0) (r : Run p e below m K T pc' L (.int (x / y) :: st)) (q : pc + 1 = pc' := by rfl) : Run p e below m K T pc L (.int y :: .int x :: st) := by
  obtain ⟨⟨locs, X, -⟩, -, hx, hby, -⟩ := X
  subst q hby
  exact Run.of (fun t k => XS.idiv X.here hx rfl hd rfl hy k) r
theorem r_ldiv (pc' : Nat) (X : Cx p l e R s m args below meth c Z bytes ml own ret mname n0 T h cells slots) {x y : Int64} (hd : decode bytes pc = .ok (.ldiv, 1)) (hy : y ≠ 0) (r : Run p e below m K T pc' L (.long (x / y) :: st)) (q : pc + 1 = pc' := by rfl) : Run p e below m K T pc L (.long y :: .long x :: st) := by
  obtain ⟨⟨locs, X, -⟩, -, hx, hby, -⟩ := X
  subst q hby
  exact Run.of (fun t k => XS.ldiv X.here hx rfl hd rfl hy k) r
theorem r_irem (pc' : Nat) (X : Cx p l e R s m args below meth c Z bytes ml own ret mname n0 T h cells slots) {x y : Int32} (hd : decode bytes pc = .ok (.irem, 1)) (hy : y ≠ 0) (r : Run p e below m K T pc' L (.int (x % y) :: st)) (q : pc + 1 = pc' := by rfl) : Run p e below m K T pc L (.int y :: .int x :: st) := by
  obtain ⟨⟨locs, X, -⟩, -, hx, hby, -⟩ := X
  subst q hby
  exact Run.of (fun t k => iremM (g := mkF m pc L (.int y :: .int x :: st)) X hx rfl hd rfl hy k) r
theorem r_lrem (pc' : Nat) (X : Cx p l e R s m args below meth c Z bytes ml own ret mname n0 T h cells slots) {x y : Int64} (hd : decode bytes pc = .ok (.lrem, 1)) (hy : y ≠ 0) (r : Run p e below m K T pc' L (.long (x % y) :: st)) (q : pc + 1 = pc' := by rfl) : Run p e below m K T pc L (.long y :: .long x :: st) := by
  obtain ⟨⟨locs, X, -⟩, -, hx, hby, -⟩ := X
  subst q hby
  rw [← lrem_mod x y] at r
  exact Run.of (fun t k => XS.lrem X.here hx rfl hd rfl hy k) r
theorem r_ineg (pc' : Nat) (X : Cx p l e R s m args below meth c Z bytes ml own ret mname n0 T h cells slots) {x : Int32} (hd : decode bytes pc = .ok (.ineg, 1))  (r : Run p e below m K T pc' L (.int (-x) :: st)) (q : pc + 1 = pc' := by rfl) : Run p e below m K T pc L (.int x :: st) := by
  obtain ⟨⟨locs, X, -⟩, -, hx, hby, -⟩ := X
  subst q hby
  exact Run.of (fun t k => XS.ineg X.here hx rfl hd rfl k) r
theorem r_lneg (pc' : Nat) (X : Cx p l e R s m args below meth c Z bytes ml own ret mname n0 T h cells slots) {x : Int64} (hd : decode bytes pc = .ok (.lneg, 1))  (r : Run p e below m K T pc' L (.long (-x) :: st)) (q : pc + 1 = pc' := by rfl) : Run p e below m K T pc L (.long x :: st) := by
  obtain ⟨⟨locs, X, -⟩, -, hx, hby, -⟩ := X
  subst q hby
  exact Run.of (fun t k => XS.lneg X.here hx rfl hd rfl k) r
theorem r_i2l (pc' : Nat) (X : Cx p l e R s m args below meth c Z bytes ml own ret mname n0 T h cells slots) {x : Int32} (hd : decode bytes pc = .ok (.i2l, 1))  (r : Run p e below m K T pc' L (.long (x.toInt64) :: st)) (q : pc + 1 = pc' := by rfl) : Run p e below m K T pc L (.int x :: st) := by
  obtain ⟨⟨locs, X, -⟩, -, hx, hby, -⟩ := X
  subst q hby
  exact Run.of (fun t k => XS.i2l X.here hx rfl hd rfl k) r
theorem r_l2i (pc' : Nat) (X : Cx p l e R s m args below meth c Z bytes ml own ret mname n0 T h cells slots) {x : Int64} (hd : decode bytes pc = .ok (.l2i, 1))  (r : Run p e below m K T pc' L (.int (x.toInt32) :: st)) (q : pc + 1 = pc' := by rfl) : Run p e below m K T pc L (.long x :: st) := by
  obtain ⟨⟨locs, X, -⟩, -, hx, hby, -⟩ := X
  subst q hby
  exact Run.of (fun t k => XS.l2i X.here hx rfl hd rfl k) r
theorem r_i2b (pc' : Nat) (X : Cx p l e R s m args below meth c Z bytes ml own ret mname n0 T h cells slots) {x : Int32} (hd : decode bytes pc = .ok (.i2b, 1))  (r : Run p e below m K T pc' L (.int (x.toInt8.toInt32) :: st)) (q : pc + 1 = pc' := by rfl) : Run p e below m K T pc L (.int x :: st) := by
  obtain ⟨⟨locs, X, -⟩, -, hx, hby, -⟩ := X
  subst q hby
  exact Run.of (fun t k => XS.i2b X.here hx rfl hd rfl k) r
theorem r_i2s (pc' : Nat) (X : Cx p l e R s m args below meth c Z bytes ml own ret mname n0 T h cells slots) {x : Int32} (hd : decode bytes pc = .ok (.i2s, 1))  (r : Run p e below m K T pc' L (.int (x.toInt16.toInt32) :: st)) (q : pc + 1 = pc' := by rfl) : Run p e below m K T pc L (.int x :: st) := by
  obtain ⟨⟨locs, X, -⟩, -, hx, hby, -⟩ := X
  subst q hby
  exact Run.of (fun t k => XS.i2s X.here hx rfl hd rfl k) r
theorem r_i2c (pc' : Nat) (X : Cx p l e R s m args below meth c Z bytes ml own ret mname n0 T h cells slots) {x : Int32} (hd : decode bytes pc = .ok (.i2c, 1))  (r : Run p e below m K T pc' L (.int (x.toUInt32.toUInt16.toUInt32.toInt32) :: st)) (q : pc + 1 = pc' := by rfl) : Run p e below m K T pc L (.int x :: st) := by
  obtain ⟨⟨locs, X, -⟩, -, hx, hby, -⟩ := X
  subst q hby
  exact Run.of (fun t k => XS.i2c X.here hx rfl hd rfl k) r
theorem r_iinc (pc' : Nat) (X : Cx p l e R s m args below meth c Z bytes ml own ret mname n0 T h cells slots) {k : Nat} {cst : Int} {x : Int32} (z : Int32) (L' : Array Slot) (hd : decode bytes pc = .ok (.iinc k cst, 3)) (hl : L[k]? = some (.val (.int x))) (hz : Int32.ofInt cst = z) (hl' : storeLocals L k (.int (x + z)) = some L') (r : Run p e below m K T pc' L' st) (q : pc + 3 = pc' := by rfl) : Run p e below m K T pc L st := by
  obtain ⟨⟨locs, X, -⟩, -, hx, hby, -⟩ := X
  subst q hby
  exact Run.of (fun t k => XS.iinc X.here hx rfl hd hl (hz.symm ▸ hl') k) r
theorem r_dup (pc' : Nat) (X : Cx p l e R s m args below meth c Z bytes ml own ret mname n0 T h cells slots) {x : Value} (hd : decode bytes pc = .ok (.dup, 1)) (hc : x.category = 1) (r : Run p e below m K T pc' L (x :: x :: st)) (q : pc + 1 = pc' := by rfl) : Run p e below m K T pc L (x :: st) := by
  obtain ⟨⟨locs, X, -⟩, -, hx, hby, -⟩ := X
  subst q hby
  exact Run.of (fun t k => XS.dup X.here hx rfl hd rfl hc k) r
theorem r_pop (pc' : Nat) (X : Cx p l e R s m args below meth c Z bytes ml own ret mname n0 T h cells slots) {x : Value} (hd : decode bytes pc = .ok (.pop, 1)) (hc : x.category = 1) (r : Run p e below m K T pc' L st) (q : pc + 1 = pc' := by rfl) : Run p e below m K T pc L (x :: st) := by
  obtain ⟨⟨locs, X, -⟩, -, hx, hby, -⟩ := X
  subst q hby
  exact Run.of (fun t k => XS.pop X.here hx rfl hd rfl hc k) r
theorem r_swap (pc' : Nat) (X : Cx p l e R s m args below meth c Z bytes ml own ret mname n0 T h cells slots) {x y : Value} (hd : decode bytes pc = .ok (.swap, 1)) (hc : x.category = 1) (hc2 : y.category = 1) (r : Run p e below m K T pc' L (y :: x :: st)) (q : pc + 1 = pc' := by rfl) : Run p e below m K T pc L (x :: y :: st) := by
  obtain ⟨⟨locs, X, -⟩, -, hx, hby, -⟩ := X
  subst q hby
  exact Run.of (fun t k => XS.swap X.here hx rfl hd rfl hc hc2 k) r
theorem r_dup_x1 (pc' : Nat) (X : Cx p l e R s m args below meth c Z bytes ml own ret mname n0 T h cells slots) {x y : Value} (hd : decode bytes pc = .ok (.dup_x1, 1)) (hc : x.category = 1) (hc2 : y.category = 1) (r : Run p e below m K T pc' L (x :: y :: x :: st)) (q : pc + 1 = pc' := by rfl) : Run p e below m K T pc L (x :: y :: st) := by
  obtain ⟨⟨locs, X, -⟩, -, hx, hby, -⟩ := X
  subst q hby
  exact Run.of (fun t k => XS.dupX1 X.here hx rfl hd rfl hc hc2 k) r
theorem r_i2d (pc' : Nat) (X : Cx p l e R s m args below meth c Z bytes ml own ret mname n0 T h cells slots) {x : Int32} (hd : decode bytes pc = .ok (.i2d, 1))  (r : Run p e below m K T pc' L (.double (FP.i2d x) :: st)) (q : pc + 1 = pc' := by rfl) : Run p e below m K T pc L (.int x :: st) := by
  obtain ⟨⟨locs, X, -⟩, -, hx, hby, -⟩ := X
  subst q hby
  exact Run.of (fun t k => XS.i2dS X.here hx rfl hd rfl rfl k) r
theorem r_dneg (pc' : Nat) (X : Cx p l e R s m args below meth c Z bytes ml own ret mname n0 T h cells slots) {x : UInt64} (hd : decode bytes pc = .ok (.dneg, 1))  (r : Run p e below m K T pc' L (.double (FP.dneg x) :: st)) (q : pc + 1 = pc' := by rfl) : Run p e below m K T pc L (.double x :: st) := by
  obtain ⟨⟨locs, X, -⟩, -, hx, hby, -⟩ := X
  subst q hby
  exact Run.of (fun t k => XS.dnegS X.here hx rfl hd rfl rfl k) r
theorem r_dadd (pc' : Nat) (X : Cx p l e R s m args below meth c Z bytes ml own ret mname n0 T h cells slots) {x y : UInt64} (hd : decode bytes pc = .ok (.dadd, 1)) (hn : Jvm.Free.Fl.NoNaN64 (FP.dadd x y)) (r : Run p e below m K T pc' L (.double (FP.dadd x y) :: st)) (q : pc + 1 = pc' := by rfl) : Run p e below m K T pc L (.double y :: .double x :: st) := by
  obtain ⟨⟨locs, X, -⟩, -, hx, hby, -⟩ := X
  subst q hby
  exact Run.of (fun t k => XS.daddS X.here hx rfl hd rfl hn rfl k) r
theorem r_dsub (pc' : Nat) (X : Cx p l e R s m args below meth c Z bytes ml own ret mname n0 T h cells slots) {x y : UInt64} (hd : decode bytes pc = .ok (.dsub, 1)) (hn : Jvm.Free.Fl.NoNaN64 (FP.dsub x y)) (r : Run p e below m K T pc' L (.double (FP.dsub x y) :: st)) (q : pc + 1 = pc' := by rfl) : Run p e below m K T pc L (.double y :: .double x :: st) := by
  obtain ⟨⟨locs, X, -⟩, -, hx, hby, -⟩ := X
  subst q hby
  exact Run.of (fun t k => XS.dsubS X.here hx rfl hd rfl hn rfl k) r
theorem r_dcmpSelf (pc' : Nat) (X : Cx p l e R s m args below meth c Z bytes ml own ret mname n0 T h cells slots) {o : CmpOp} {x : UInt64} (hd : decode bytes pc = .ok (.dcmp o, 1)) (hn : Jvm.Free.Fl.NoNaN64 x) (r : Run p e below m K T pc' L (.int 0 :: st)) (q : pc + 1 = pc' := by rfl) : Run p e below m K T pc L (.double x :: .double x :: st) := by
  obtain ⟨⟨locs, X, -⟩, -, hx, hby, -⟩ := X
  subst q hby
  exact Run.of (fun t k => XS.dcmpS X.here hx rfl hd rfl (dcmpV_self hn o) k) r
theorem r_dup2_2 (pc' : Nat) (X : Cx p l e R s m args below meth c Z bytes ml own ret mname n0 T h cells slots) {x y : Value} (hd : decode bytes pc = .ok (.dup2, 1)) (hc : x.category = 1) (hc2 : y.category = 1) (r : Run p e below m K T pc' L (x :: y :: x :: y :: st)) (q : pc + 1 = pc' := by rfl) : Run p e below m K T pc L (x :: y :: st) := by
  obtain ⟨⟨locs, X, -⟩, -, hx, hby, -⟩ := X
  subst q hby
  refine Run.of (fun t k => ?_) r
  jvm_step X.here [X.here.top, hx, hd, hc, hc2]
  exact k
theorem r_dup2_1 (pc' : Nat) (X : Cx p l e R s m args below meth c Z bytes ml own ret mname n0 T h cells slots) {x : Value} (hd : decode bytes pc = .ok (.dup2, 1)) (hc : x.category = 2) (r : Run p e below m K T pc' L (x :: x :: st)) (q : pc + 1 = pc' := by rfl) : Run p e below m K T pc L (x :: st) := by
  obtain ⟨⟨locs, X, -⟩, -, hx, hby, -⟩ := X
  subst q hby
  refine Run.of (fun t k => ?_) r
  jvm_step X.here [X.here.top, hx, hd, hc]
  exact k
theorem r_dup_x2_111 (pc' : Nat) (X : Cx p l e R s m args below meth c Z bytes ml own ret mname n0 T h cells slots) {x y z : Value} (hd : decode bytes pc = .ok (.dup_x2, 1)) (hc : x.category = 1) (hc2 : y.category = 1) (hc3 : z.category = 1) (r : Run p e below m K T pc' L (x :: y :: z :: x :: st)) (q : pc + 1 = pc' := by rfl) : Run p e below m K T pc L (x :: y :: z :: st) := by
  obtain ⟨⟨locs, X, -⟩, -, hx, hby, -⟩ := X
  subst q hby
  refine Run.of (fun t k => ?_) r
  jvm_step X.here [X.here.top, hx, hd, hc, hc2, hc3]
  exact k
theorem r_dup2_x1_2 (pc' : Nat) (X : Cx p l e R s m args below meth c Z bytes ml own ret mname n0 T h cells slots) {x y : Value} (hd : decode bytes pc = .ok (.dup2_x1, 1)) (hc : x.category = 2) (hc2 : y.category = 1) (r : Run p e below m K T pc' L (x :: y :: x :: st)) (q : pc + 1 = pc' := by rfl) : Run p e below m K T pc L (x :: y :: st) := by
  obtain ⟨⟨locs, X, -⟩, -, hx, hby, -⟩ := X
  subst q hby
  refine Run.of (fun t k => ?_) r
  jvm_step X.here [X.here.top, hx, hd, hc, hc2]
  exact k
theorem r_dup2_x2_2 (pc' : Nat) (X : Cx p l e R s m args below meth c Z bytes ml own ret mname n0 T h cells slots) {x y z : Value} (hd : decode bytes pc = .ok (.dup2_x2, 1)) (hc : x.category = 2) (hc2 : y.category = 1) (hc3 : z.category = 1) (r : Run p e below m K T pc' L (x :: y :: z :: x :: st)) (q : pc + 1 = pc' := by rfl) : Run p e below m K T pc L (x :: y :: z :: st) := by
  obtain ⟨⟨locs, X, -⟩, -, hx, hby, -⟩ := X
  subst q hby
  refine Run.of (fun t k => ?_) r
  jvm_step X.here [X.here.top, hx, hd, hc, hc2, hc3]
  exact k
theorem r_pop2_1 (pc' : Nat) (X : Cx p l e R s m args below meth c Z bytes ml own ret mname n0 T h cells slots) {x : Value} (hd : decode bytes pc = .ok (.pop2, 1)) (hc : x.category = 2) (r : Run p e below m K T pc' L st) (q : pc + 1 = pc' := by rfl) : Run p e below m K T pc L (x :: st) := by
  obtain ⟨⟨locs, X, -⟩, -, hx, hby, -⟩ := X
  subst q hby
  refine Run.of (fun t k => ?_) r
  jvm_step X.here [X.here.top, hx, hd, hc]
  exact k
theorem r_goto (pc' : Nat) (X : Cx p l e R s m args below meth c Z bytes ml own ret mname n0 T h cells slots) {o : Int} (hd : decode bytes pc = .ok (.goto o, 3)) (r : Run p e below m K T pc' L st) (ho : 0 ≤ (pc : Int) + o := by decide) (hp : ((pc : Int) + o).toNat = pc' := by decide) : Run p e below m K T pc L st := by
  obtain ⟨⟨locs, X, -⟩, -, hx, hby, -⟩ := X
  subst hby
  exact Run.of (fun t k => XS.goto X.here hx rfl (pc0 := pc) (pc' := pc') rfl hd ho hp k) r
theorem r_ifY (pc' : Nat) (X : Cx p l e R s m args below meth c Z bytes ml own ret mname n0 T h cells slots) {cd : ClassFile.Cond} {o : Int} {x : Int32} (hd : decode bytes pc = .ok (.ifCond cd o, 3)) (hc : ifCond.holds cd x = true) (r : Run p e below m K T pc' L st) (ho : 0 ≤ (pc : Int) + o := by decide) (hp : ((pc : Int) + o).toNat = pc' := by decide) : Run p e below m K T pc L (.int x :: st) := by
  obtain ⟨⟨locs, X, -⟩, -, hx, hby, -⟩ := X
  subst hby
  exact Run.of (fun t k => XS.ifYes X.here hx rfl (pc0 := pc) (pc' := pc') rfl hd rfl hc ho hp k) r
theorem r_ifN (pc' : Nat) (X : Cx p l e R s m args below meth c Z bytes ml own ret mname n0 T h cells slots) {cd : ClassFile.Cond} {o : Int} {x : Int32} (hd : decode bytes pc = .ok (.ifCond cd o, 3)) (hc : ifCond.holds cd x = false) (r : Run p e below m K T pc' L st) (q : pc + 3 = pc' := by rfl) : Run p e below m K T pc L (.int x :: st) := by
  obtain ⟨⟨locs, X, -⟩, -, hx, hby, -⟩ := X
  subst q hby
  exact Run.of (fun t k => XS.ifNo X.here hx rfl hd rfl hc k) r
theorem r_icmpY (pc' : Nat) (X : Cx p l e R s m args below meth c Z bytes ml own ret mname n0 T h cells slots) {cd : ClassFile.Cond} {o : Int} {x y : Int32} (hd : decode bytes pc = .ok (.if_icmp cd o, 3)) (hc : if_icmp.holds cd x y = true) (r : Run p e below m K T pc' L st) (ho : 0 ≤ (pc : Int) + o := by decide) (hp : ((pc : Int) + o).toNat = pc' := by decide) : Run p e below m K T pc L (.int y :: .int x :: st) := by
  obtain ⟨⟨locs, X, -⟩, -, hx, hby, -⟩ := X
  subst hby
  exact Run.of (fun t k => XS.icmpYes X.here hx rfl (pc0 := pc) (pc' := pc') rfl hd rfl hc ho hp k) r
theorem r_icmpN (pc' : Nat) (X : Cx p l e R s m args below meth c Z bytes ml own ret mname n0 T h cells slots) {cd : ClassFile.Cond} {o : Int} {x y : Int32} (hd : decode bytes pc = .ok (.if_icmp cd o, 3)) (hc : if_icmp.holds cd x y = false) (r : Run p e below m K T pc' L st) (q : pc + 3 = pc' := by rfl) : Run p e below m K T pc L (.int y :: .int x :: st) := by
  obtain ⟨⟨locs, X, -⟩, -, hx, hby, -⟩ := X
  subst q hby
  exact Run.of (fun t k => XS.icmpNo X.here hx rfl hd rfl hc k) r
theorem r_ifnullY (pc' : Nat) (X : Cx p l e R s m args below meth c Z bytes ml own ret mname n0 T h cells slots) {o : Int}  (hd : decode bytes pc = .ok (.ifnull o, 3)) (r : Run p e below m K T pc' L st) (ho : 0 ≤ (pc : Int) + o := by decide) (hp : ((pc : Int) + o).toNat = pc' := by decide) : Run p e below m K T pc L (.null :: st) := by
  obtain ⟨⟨locs, X, -⟩, -, hx, hby, -⟩ := X
  subst hby
  exact Run.of (fun t k => XS.ifnullYes X.here hx rfl (pc0 := pc) (pc' := pc') rfl hd rfl ho hp k) r
theorem r_ifnullN (pc' : Nat) (X : Cx p l e R s m args below meth c Z bytes ml own ret mname n0 T h cells slots) {o : Int} {b : Addr} (hd : decode bytes pc = .ok (.ifnull o, 3)) (r : Run p e below m K T pc' L st) (q : pc + 3 = pc' := by rfl) : Run p e below m K T pc L (.ref b :: st) := by
  obtain ⟨⟨locs, X, -⟩, -, hx, hby, -⟩ := X
  subst q hby
  exact Run.of (fun t k => XS.ifnullNo X.here hx rfl hd rfl k) r
theorem r_ifnonnullY (pc' : Nat) (X : Cx p l e R s m args below meth c Z bytes ml own ret mname n0 T h cells slots) {o : Int} {b : Addr} (hd : decode bytes pc = .ok (.ifnonnull o, 3)) (r : Run p e below m K T pc' L st) (ho : 0 ≤ (pc : Int) + o := by decide) (hp : ((pc : Int) + o).toNat = pc' := by decide) : Run p e below m K T pc L (.ref b :: st) := by
  obtain ⟨⟨locs, X, -⟩, -, hx, hby, -⟩ := X
  subst hby
  exact Run.of (fun t k => XS.ifnonnullYes X.here hx rfl (pc0 := pc) (pc' := pc') rfl hd rfl ho hp k) r
theorem r_ifnonnullN (pc' : Nat) (X : Cx p l e R s m args below meth c Z bytes ml own ret mname n0 T h cells slots) {o : Int}  (hd : decode bytes pc = .ok (.ifnonnull o, 3)) (r : Run p e below m K T pc' L st) (q : pc + 3 = pc' := by rfl) : Run p e below m K T pc L (.null :: st) := by
  obtain ⟨⟨locs, X, -⟩, -, hx, hby, -⟩ := X
  subst q hby
  exact Run.of (fun t k => XS.ifnonnullNo X.here hx rfl hd rfl k) r
theorem r_acmpY (pc' : Nat) (X : Cx p l e R s m args below meth c Z bytes ml own ret mname n0 T h cells slots) {cd : ACond} {o : Int} {a b : Addr} (hd : decode bytes pc = .ok (.if_acmp cd o, 3)) (hc : if_acmp.holds cd (some a) (some b) = true) (r : Run p e below m K T pc' L st) (ho : 0 ≤ (pc : Int) + o := by decide) (hp : ((pc : Int) + o).toNat = pc' := by decide) : Run p e below m K T pc L (.ref b :: .ref a :: st) := by
  obtain ⟨⟨locs, X, -⟩, -, hx, hby, -⟩ := X
  subst hby
  exact Run.of (fun t k => XS.acmpYes X.here hx rfl (pc0 := pc) (pc' := pc') rfl hd rfl hc ho hp k) r
theorem r_acmpN (pc' : Nat) (X : Cx p l e R s m args below meth c Z bytes ml own ret mname n0 T h cells slots) {cd : ACond} {o : Int} {a b : Addr} (hd : decode bytes pc = .ok (.if_acmp cd o, 3)) (hc : if_acmp.holds cd (some a) (some b) = false) (r : Run p e below m K T pc' L st) (q : pc + 3 = pc' := by rfl) : Run p e below m K T pc L (.ref b :: .ref a :: st) := by
  obtain ⟨⟨locs, X, -⟩, -, hx, hby, -⟩ := X
  subst q hby
  exact Run.of (fun t k => XS.acmpNo X.here hx rfl hd rfl hc k) r
theorem r_ldcInt (pc' : Nat) (X : Cx p l e R s m args below meth c Z bytes ml own ret mname n0 T h cells slots) {a0 : Array Value} {i : Nat} {z : Int32} (w : (Jvm.Cond.constant own i z).before a0 Z = true) (hd : decode bytes pc = .ok (.ldc i, 2)) (r : Run p e below m K T pc' L (.int z :: st)) (q : pc + 2 = pc' := by rfl) : Run p e below m K T pc L st := by
  obtain ⟨⟨locs, X, -⟩, -, hx, hby, -, hZ, hown, -⟩ := X
  subst q hby
  exact Run.of (fun t k => X.ldcInt hx hown (mvT hZ w) (g := mkF m pc L st) rfl hd _ k) r
theorem r_ldcwInt (pc' : Nat) (X : Cx p l e R s m args below meth c Z bytes ml own ret mname n0 T h cells slots) {a0 : Array Value} {i : Nat} {z : Int32} (w : (Jvm.Cond.constant own i z).before a0 Z = true) (hd : decode bytes pc = .ok (.ldc_w i, 3)) (r : Run p e below m K T pc' L (.int z :: st)) (q : pc + 3 = pc' := by rfl) : Run p e below m K T pc L st := by
  obtain ⟨⟨locs, X, -⟩, -, hx, hby, -, hZ, hown, -⟩ := X
  subst q hby
  exact Run.of (fun t k => X.ldcwInt hx hown (mvT hZ w) (g := mkF m pc L st) rfl hd _ k) r
theorem r_ldc2Long (pc' : Nat) (X : Cx p l e R s m args below meth c Z bytes ml own ret mname n0 T h cells slots) {a0 : Array Value} {i : Nat} {z : Int64} (w : (Jvm.Cond.constantLong own i z).before a0 Z = true) (hd : decode bytes pc = .ok (.ldc2_w i, 3)) (r : Run p e below m K T pc' L (.long z :: st)) (q : pc + 3 = pc' := by rfl) : Run p e below m K T pc L st := by
  obtain ⟨⟨locs, X, -⟩, -, hx, hby, -, hZ, hown, -⟩ := X
  subst q hby
  exact Run.of (fun t k => X.ldc2Long hx hown (mvT hZ w) (g := mkF m pc L st) rfl hd _ k) r
theorem r_ldc2Double (pc' : Nat) (X : Cx p l e R s m args below meth c Z bytes ml own ret mname n0 T h cells slots) {a0 : Array Value} {i : Nat} {z : UInt64} (w : (Jvm.Cond.constantDouble own i z).before a0 Z = true) (hd : decode bytes pc = .ok (.ldc2_w i, 3)) (r : Run p e below m K T pc' L (.double z :: st)) (q : pc + 3 = pc' := by rfl) : Run p e below m K T pc L st := by
  obtain ⟨⟨locs, X, -⟩, -, hx, hby, -, hZ, hown, -⟩ := X
  subst q hby
  exact Run.of (fun t k => X.ldc2DoubleC hx hown (mvT hZ w) (g := mkF m pc L st) rfl hd _ k) r
theorem r_getfield (pc' : Nat) (X : Cx p l e R s m args below meth c Z bytes ml own ret mname n0 T h cells slots) {a0 : Array Value} {R0 O n d host : String} {index : Nat} (w : (Jvm.Cond.fieldLink own index R0 n d).before a0 Z = true ∨ (Jvm.Cond.fieldLinkNest own index R0 n d host).before a0 Z = true) (via : Via Z R0 O n d) {a : Addr} {v : Value} (F : Fld Z h a O n d v) (hd : decode bytes pc = .ok (.getfield index, 3)) (r : ∀ T', Cx p l e R s m args below meth c Z bytes ml own ret mname n0 T' h cells slots → Run p e below m K T' pc' L (v :: st)) (q : pc + 3 = pc' := by rfl) : Run p e below m K T pc L (.ref a :: st) := by
  obtain ⟨⟨locs, X, N⟩, e0, hx, hby, hml, hZ, hown, r1⟩ := X
  subst q
  obtain ⟨T', X', e', stp⟩ := getF X hx hZ hown w via e0 F (g := mkF m pc L (.ref a :: st)) rfl rfl (hb hby hd)
  exact Run.of stp (r T' ⟨⟨locs, X', N⟩, e', hx, hby, hml, hZ, hown, r1⟩)
theorem r_getstatic (pc' : Nat) (X : Cx p l e R s m args below meth c Z bytes ml own ret mname n0 T h cells slots) {a0 : Array Value} {R0 O n d host : String} {index : Nat} (w : (Jvm.Cond.fieldLink own index R0 n d).before a0 Z = true ∨ (Jvm.Cond.fieldLinkNest own index R0 n d host).before a0 Z = true) (via : Via Z R0 O n d) {v : Value} (F : Sta Z h O n d v) (hd : decode bytes pc = .ok (.getstatic index, 3)) (r : ∀ T', Cx p l e R s m args below meth c Z bytes ml own ret mname n0 T' h cells slots → Run p e below m K T' pc' L (v :: st)) (q : pc + 3 = pc' := by rfl) : Run p e below m K T pc L st := by
  obtain ⟨⟨locs, X, N⟩, e0, hx, hby, hml, hZ, hown, r1⟩ := X
  subst q
  obtain ⟨T', X', e', stp⟩ := getS2 X hx hZ hown w via e0 F (g := mkF m pc L st) rfl (hb hby hd)
  exact Run.of stp (r T' ⟨⟨locs, X', N⟩, e', hx, hby, hml, hZ, hown, r1⟩)
theorem r_putfield (pc' : Nat) (X : Cx p l e R s m args below meth c Z bytes ml own ret mname n0 T h cells slots) {a0 : Array Value} {R0 O n d host C : String} {index kk : Nat} {ty : FieldType} (w : (Jvm.Cond.fieldLink own index R0 n d).before a0 Z = true ∨ (Jvm.Cond.fieldLinkNest own index R0 n d host).before a0 Z = true) (via : Via Z R0 O n d) {a : Addr} {v old : Value} (F : Fld Z h a O n d old) (E : Exa Z h a C) (Lw : (Jvm.Cond.lays C O n d).before a0 Z = true ∨ ((Jvm.Cond.laysFinal C O n d).before a0 Z = true ∧ own = O ∧ mname = "<init>")) (wi : (Jvm.Cond.instantiable C kk).before a0 Z = true) (hty : parseFieldDescriptor d = some ty) (hn : narrow ty v = v) (hf : fits ty v = true) (ga : n0 ≤ a) (hd : decode bytes pc = .ok (.putfield index, 3)) (r : ∀ T' h', Wr h h' a (Jvm.RoadKit.slotOf Z O n d) v → Cx p l e R s m args below meth c Z bytes ml own ret mname n0 T' h' cells slots → Run p e below m K T' pc' L st) (q : pc + 3 = pc' := by rfl) : Run p e below m K T pc L (v :: .ref a :: st) := by
  obtain ⟨⟨locs, X, N⟩, e0, hx, hby, hml, hZ, hown, hret, hnm, hlk, hsz⟩ := X
  subst q
  obtain ⟨T', h', X', e', W', stp⟩ := putF X hx hZ hown w via e0 F E (Lw.imp id fun q => ⟨q.1, q.2.1, hnm.trans q.2.2⟩) wi hty hn hf (g := mkF m pc L (v :: .ref a :: st)) rfl rfl (hb hby hd)
  exact Run.of stp (r T' h' W' ⟨⟨_, X', Fr.snoc X' N ga⟩, e', hx, hby, hml, hZ, hown, hret, hnm, hlk, by rw [W'.size]; exact hsz⟩)
theorem r_putfieldN (pc' : Nat) (X : Cx p l e R s m args below meth c Z bytes ml own ret mname n0 T h cells slots) {a0 : Array Value} {R0 O n d C : String} {index kk : Nat} {ty : FieldType} (w : (Jvm.Cond.fieldLink own index R0 n d).before a0 Z = true) (via : Via Z R0 O n d) {a : Addr} {v v' old : Value} (F : Fld Z h a O n d old) (E : Exa Z h a C) (Lw : (Jvm.Cond.lays C O n d).before a0 Z = true ∨ ((Jvm.Cond.laysFinal C O n d).before a0 Z = true ∧ own = O ∧ mname = "<init>")) (wi : (Jvm.Cond.instantiable C kk).before a0 Z = true) (hty : parseFieldDescriptor d = some ty) (hn : narrow ty v = v') (hf : fits ty v' = true) (ga : n0 ≤ a) (hd : decode bytes pc = .ok (.putfield index, 3)) (r : ∀ T' h', Wr h h' a (Jvm.RoadKit.slotOf Z O n d) v' → Cx p l e R s m args below meth c Z bytes ml own ret mname n0 T' h' cells slots → Run p e below m K T' pc' L st) (q : pc + 3 = pc' := by rfl) : Run p e below m K T pc L (v :: .ref a :: st) := by
  obtain ⟨⟨locs, X, N⟩, e0, hx, hby, hml, hZ, hown, hret, hnm, hlk, hsz⟩ := X
  subst q
  obtain ⟨T', h', X', e', W', stp⟩ := putFN X hx hZ hown w via e0 F E (Lw.imp id fun q => ⟨q.1, q.2.1, hnm.trans q.2.2⟩) wi hty hn hf (g := mkF m pc L (v :: .ref a :: st)) rfl rfl (hb hby hd)
  exact Run.of stp (r T' h' W' ⟨⟨_, X', Fr.snoc X' N ga⟩, e', hx, hby, hml, hZ, hown, hret, hnm, hlk, by rw [W'.size]; exact hsz⟩)
theorem r_new (pc' : Nat) (X : Cx p l e R s m args below meth c Z bytes ml own ret mname n0 T h cells slots) {a0 : Array Value} {C : String} {index n : Nat} (w : (Jvm.Cond.classLink own index C).before a0 Z = true) (wi : (Jvm.Cond.instantiable C n).before a0 Z = true) (wz : (Jvm.Cond.initialized C).before a0 Z = true) (hd : decode bytes pc = .ok (.new index, 3)) (hc : cells + 1 ≤ R.cells) (hl : slots + n ≤ R.slots) (r : ∀ T' h' b, b = h.size → n0 ≤ b → Ext h h' → Exa Z h' b C → (∀ {O nm d : String} {ty : FieldType}, Laid Z a0 C O nm d → parseFieldDescriptor d = some ty → Fld Z h' b O nm d (defaultValue ty)) → Cx p l e R s m args below meth c Z bytes ml own ret mname n0 T' h' (cells + 1) (slots + n) → Run p e below m K T' pc' L (.ref b :: st)) (q : pc + 3 = pc' := by rfl) : Run p e below m K T pc L st := by
  obtain ⟨⟨locs, X, N⟩, e0, hx, hby, hml, hZ, hown, hret, hnm, hlk, hsz⟩ := X
  subst q
  obtain ⟨T', h', X', e', E', A', D', -, stp⟩ := newO X hx hZ hown w wi wz e0 (g := mkF m pc L st) rfl (hb hby hd) hc hl
  exact Run.of stp (r T' h' h.size rfl hsz E' A' D' ⟨⟨_, X', N⟩, e', hx, hby, hml, hZ, hown, hret, hnm, hlk, Nat.le_trans hsz E'.1⟩)
theorem r_newarray (pc' : Nat) (X : Cx p l e R s m args below meth c Z bytes ml own ret mname n0 T h cells slots) {a0 : Array Value} {aty : ArrayType} {z : Int32} (n cap : Nat) (w : (Jvm.Cond.arrayClass (newarray.typeOf aty)).before a0 Z = true) (hd : decode bytes pc = .ok (.newarray aty, 2)) (hz : z.toInt = (n : Int)) (hcap : n ≤ cap) (hb8 : cap * 8 ≤ 536870912) (hc : cells + 1 ≤ R.cells) (hl : slots + cap ≤ R.slots) (r : ∀ T' h' b, b = h.size → n0 ≤ b → Ext h h' → AF Z h' b (newarray.typeOf aty) n (fun _ => defaultValue (newarray.typeOf aty)) → Cx p l e R s m args below meth c Z bytes ml own ret mname n0 T' h' (cells + 1) (slots + cap) → Run p e below m K T' pc' L (.ref b :: st)) (q : pc + 2 = pc' := by rfl) : Run p e below m K T pc L (.int z :: st) := by
  obtain ⟨⟨locs, X, N⟩, e0, hx, hby, hml, hZ, hown, hret, hnm, hlk, hsz⟩ := X
  subst q
  have hz0 : ¬ z < 0 := by rw [Int32.lt_iff_toInt_lt]; have : (0 : Int32).toInt = 0 := rfl; omega
  have hzn : z.toNatClampNeg = n := by show z.toInt.toNat = n; omega
  have hzl := z.toInt_lt
  obtain ⟨T', h', cA, X', e', E', A', stp⟩ := newP X hx hZ w e0 (g := mkF m pc L (.int z :: st)) rfl (hb hby hd) rfl hz0 (cap := cap) (by rw [hzn]; exact hcap) hb8 hc hl
  refine Run.of stp (r T' h' h.size rfl hsz E' ⟨_, A', by rw [sz_new, hzn], by omega, fun j hj => ?_⟩ ⟨⟨_, X', N⟩, e', hx, hby, hml, hZ, hown, hret, hnm, hlk, Nat.le_trans hsz E'.1⟩)
  simp [newA, hzn, hj]
theorem r_arraylength (pc' : Nat) (X : Cx p l e R s m args below meth c Z bytes ml own ret mname n0 T h cells slots) {a : Addr} {ty : FieldType} {n : Nat} {f : Nat → Value} (A : AF Z h a ty n f) (z : Int32) (hz : z.toInt = (n : Int)) (hd : decode bytes pc = .ok (.arraylength, 1)) (r : Run p e below m K T pc' L (.int z :: st)) (q : pc + 1 = pc' := by rfl) : Run p e below m K T pc L (.ref a :: st) := by
  obtain ⟨⟨locs, X, N⟩, e0, hx, hby, hml, hZ, hown, r1⟩ := X
  subst q hby
  obtain ⟨cl, A, S, q, -⟩ := A
  have ez : cl.slots.size.toInt32 = z := by rw [S]; apply Int32.toInt_inj.mp; rw [hz]; exact len_toInt q
  rw [← ez] at r
  exact Run.of (fun t k => X.arraylength hx (by rw [e0]; exact A.1) (State.isArrayOf_alike hZ.alike A.2.1) (g := mkF m pc L (.ref a :: st)) rfl rfl hd _ k) r
theorem r_iaload (pc' : Nat) (X : Cx p l e R s m args below meth c Z bytes ml own ret mname n0 T h cells slots) {a : Addr} {n : Nat} {f : Nat → Value} (A : AF Z h a .int n f) {j : Int32} {i : Nat} {v : Value} (hj : j.toInt = (i : Int)) (hi : i < n) (hv : f i = v) (hd : decode bytes pc = .ok (.iaload, 1)) (r : Run p e below m K T pc' L (v :: st)) (q : pc + 1 = pc' := by rfl) : Run p e below m K T pc L (.int j :: .ref a :: st) := by
  obtain ⟨⟨locs, X, N⟩, e0, hx, hby, hml, hZ, hown, r1⟩ := X
  subst q hby
  obtain ⟨cl, A, S, -, H⟩ := A
  obtain ⟨h1, h2⟩ := idx_of hj (S ▸ hi)
  exact Run.of (fun t k => X.iaload hx (j := j) (v := v) (by rw [e0]; exact A.1) (State.isArrayOf_alike hZ.alike A.2.1) A.2.2 h1 (by rw [h2, H i hi, hv]) (g := mkF m pc L (.int j :: .ref a :: st)) rfl rfl hd _ k) r
theorem r_laload (pc' : Nat) (X : Cx p l e R s m args below meth c Z bytes ml own ret mname n0 T h cells slots) {a : Addr} {n : Nat} {f : Nat → Value} (A : AF Z h a .long n f) {j : Int32} {i : Nat} {v : Value} (hj : j.toInt = (i : Int)) (hi : i < n) (hv : f i = v) (hd : decode bytes pc = .ok (.laload, 1)) (r : Run p e below m K T pc' L (v :: st)) (q : pc + 1 = pc' := by rfl) : Run p e below m K T pc L (.int j :: .ref a :: st) := by
  obtain ⟨⟨locs, X, N⟩, e0, hx, hby, hml, hZ, hown, r1⟩ := X
  subst q hby
  obtain ⟨cl, A, S, -, H⟩ := A
  obtain ⟨h1, h2⟩ := idx_of hj (S ▸ hi)
  exact Run.of (fun t k => X.laload hx (j := j) (v := v) (by rw [e0]; exact A.1) (State.isArrayOf_alike hZ.alike A.2.1) A.2.2 h1 (by rw [h2, H i hi, hv]) (g := mkF m pc L (.int j :: .ref a :: st)) rfl rfl hd _ k) r
theorem r_caload (pc' : Nat) (X : Cx p l e R s m args below meth c Z bytes ml own ret mname n0 T h cells slots) {a : Addr} {n : Nat} {f : Nat → Value} (A : AF Z h a .char n f) {j : Int32} {i : Nat} {v : Value} (hj : j.toInt = (i : Int)) (hi : i < n) (hv : f i = v) (hd : decode bytes pc = .ok (.caload, 1)) (r : Run p e below m K T pc' L (v :: st)) (q : pc + 1 = pc' := by rfl) : Run p e below m K T pc L (.int j :: .ref a :: st) := by
  obtain ⟨⟨locs, X, N⟩, e0, hx, hby, hml, hZ, hown, r1⟩ := X
  subst q hby
  obtain ⟨cl, A, S, -, H⟩ := A
  obtain ⟨h1, h2⟩ := idx_of hj (S ▸ hi)
  exact Run.of (fun t k => X.caload hx (j := j) (v := v) (by rw [e0]; exact A.1) (State.isArrayOf_alike hZ.alike A.2.1) A.2.2 h1 (by rw [h2, H i hi, hv]) (g := mkF m pc L (.int j :: .ref a :: st)) rfl rfl hd _ k) r
theorem r_baloadB (pc' : Nat) (X : Cx p l e R s m args below meth c Z bytes ml own ret mname n0 T h cells slots) {a : Addr} {n : Nat} {f : Nat → Value} (A : AF Z h a .byte n f) {j : Int32} {i : Nat} {v : Value} (hj : j.toInt = (i : Int)) (hi : i < n) (hv : f i = v) (hd : decode bytes pc = .ok (.baload, 1)) (r : Run p e below m K T pc' L (v :: st)) (q : pc + 1 = pc' := by rfl) : Run p e below m K T pc L (.int j :: .ref a :: st) := by
  obtain ⟨⟨locs, X, N⟩, e0, hx, hby, hml, hZ, hown, r1⟩ := X
  subst q hby
  obtain ⟨cl, A, S, -, H⟩ := A
  obtain ⟨h1, h2⟩ := idx_of hj (S ▸ hi)
  exact Run.of (fun t k => X.baloadBytes hx (j := j) (v := v) (by rw [e0]; exact A.1) (State.isArrayOf_alike hZ.alike A.2.1) A.2.2 h1 (by rw [h2, H i hi, hv]) (g := mkF m pc L (.int j :: .ref a :: st)) rfl rfl hd _ k) r
theorem r_baloadZ (pc' : Nat) (X : Cx p l e R s m args below meth c Z bytes ml own ret mname n0 T h cells slots) {a : Addr} {n : Nat} {f : Nat → Value} (A : AF Z h a .boolean n f) {j : Int32} {i : Nat} {v : Value} (hj : j.toInt = (i : Int)) (hi : i < n) (hv : f i = v) (hd : decode bytes pc = .ok (.baload, 1)) (r : Run p e below m K T pc' L (v :: st)) (q : pc + 1 = pc' := by rfl) : Run p e below m K T pc L (.int j :: .ref a :: st) := by
  obtain ⟨⟨locs, X, N⟩, e0, hx, hby, hml, hZ, hown, r1⟩ := X
  subst q hby
  obtain ⟨cl, A, S, -, H⟩ := A
  obtain ⟨h1, h2⟩ := idx_of hj (S ▸ hi)
  exact Run.of (fun t k => X.baloadBooleans hx (j := j) (v := v) (by rw [e0]; exact A.1) (State.isArrayOf_alike hZ.alike A.2.1) A.2.2 h1 (by rw [h2, H i hi, hv]) (g := mkF m pc L (.int j :: .ref a :: st)) rfl rfl hd _ k) r
theorem r_daload (pc' : Nat) (X : Cx p l e R s m args below meth c Z bytes ml own ret mname n0 T h cells slots) {a : Addr} {n : Nat} {f : Nat → Value} (A : AF Z h a .double n f) {j : Int32} {i : Nat} {v : Value} (hj : j.toInt = (i : Int)) (hi : i < n) (hv : f i = v) (hd : decode bytes pc = .ok (.daload, 1)) (r : Run p e below m K T pc' L (v :: st)) (q : pc + 1 = pc' := by rfl) : Run p e below m K T pc L (.int j :: .ref a :: st) := by
  obtain ⟨⟨locs, X, N⟩, e0, hx, hby, hml, hZ, hown, r1⟩ := X
  subst q hby
  obtain ⟨cl, A, S, -, H⟩ := A
  obtain ⟨h1, h2⟩ := idx_of hj (S ▸ hi)
  exact Run.of (fun t k => X.daload hx (j := j) (v := v) (by rw [e0]; exact A.1) (State.isArrayOf_alike hZ.alike A.2.1) A.2.2 h1 (by rw [h2, H i hi, hv]) (g := mkF m pc L (.int j :: .ref a :: st)) rfl rfl hd _ k) r
theorem r_iastore (pc' : Nat) (X : Cx p l e R s m args below meth c Z bytes ml own ret mname n0 T h cells slots) {a : Addr} {n : Nat} {f : Nat → Value} (A : AF Z h a .int n f) {j : Int32} {i : Nat} {x : Int32} {v : Value} (hj : j.toInt = (i : Int)) (hi : i < n) (hv : (.int x) = v) (ga : n0 ≤ a) (hd : decode bytes pc = .ok (.iastore, 1)) (r : ∀ T' h', Wr h h' a i v → Cx p l e R s m args below meth c Z bytes ml own ret mname n0 T' h' cells slots → Run p e below m K T' pc' L st) (q : pc + 1 = pc' := by rfl) : Run p e below m K T pc L ((.int x) :: .int j :: .ref a :: st) := by
  obtain ⟨⟨locs, X, N⟩, e0, hx, hby, hml, hZ, hown, hret, hnm, hlk, hsz⟩ := X
  subst q hv
  obtain ⟨cl, A, S, -, H⟩ := A
  obtain ⟨h1, h2⟩ := idx_of hj (S ▸ hi)
  obtain ⟨T', h', X', e', W', stp⟩ := stI X hx hZ e0 A (j := j) h1 (g := mkF m pc L ((.int x) :: .int j :: .ref a :: st)) rfl rfl (hb hby hd)
  exact Run.of stp (r T' h' (h2 ▸ W') ⟨⟨_, X', Fr.snoc X' N ga⟩, e', hx, hby, hml, hZ, hown, hret, hnm, hlk, by rw [W'.size]; exact hsz⟩)
theorem r_lastore (pc' : Nat) (X : Cx p l e R s m args below meth c Z bytes ml own ret mname n0 T h cells slots) {a : Addr} {n : Nat} {f : Nat → Value} (A : AF Z h a .long n f) {j : Int32} {i : Nat} {x : Int64} {v : Value} (hj : j.toInt = (i : Int)) (hi : i < n) (hv : (.long x) = v) (ga : n0 ≤ a) (hd : decode bytes pc = .ok (.lastore, 1)) (r : ∀ T' h', Wr h h' a i v → Cx p l e R s m args below meth c Z bytes ml own ret mname n0 T' h' cells slots → Run p e below m K T' pc' L st) (q : pc + 1 = pc' := by rfl) : Run p e below m K T pc L ((.long x) :: .int j :: .ref a :: st) := by
  obtain ⟨⟨locs, X, N⟩, e0, hx, hby, hml, hZ, hown, hret, hnm, hlk, hsz⟩ := X
  subst q hv
  obtain ⟨cl, A, S, -, H⟩ := A
  obtain ⟨h1, h2⟩ := idx_of hj (S ▸ hi)
  obtain ⟨T', h', X', e', W', stp⟩ := stJ X hx hZ e0 A (j := j) h1 (g := mkF m pc L ((.long x) :: .int j :: .ref a :: st)) rfl rfl (hb hby hd)
  exact Run.of stp (r T' h' (h2 ▸ W') ⟨⟨_, X', Fr.snoc X' N ga⟩, e', hx, hby, hml, hZ, hown, hret, hnm, hlk, by rw [W'.size]; exact hsz⟩)
theorem r_castore (pc' : Nat) (X : Cx p l e R s m args below meth c Z bytes ml own ret mname n0 T h cells slots) {a : Addr} {n : Nat} {f : Nat → Value} (A : AF Z h a .char n f) {j : Int32} {i : Nat} {x : Int32} {v : Value} (hj : j.toInt = (i : Int)) (hi : i < n) (hv : (.int (nar .char x)) = v) (ga : n0 ≤ a) (hd : decode bytes pc = .ok (.castore, 1)) (r : ∀ T' h', Wr h h' a i v → Cx p l e R s m args below meth c Z bytes ml own ret mname n0 T' h' cells slots → Run p e below m K T' pc' L st) (q : pc + 1 = pc' := by rfl) : Run p e below m K T pc L ((.int x) :: .int j :: .ref a :: st) := by
  obtain ⟨⟨locs, X, N⟩, e0, hx, hby, hml, hZ, hown, hret, hnm, hlk, hsz⟩ := X
  subst q hv
  obtain ⟨cl, A, S, -, H⟩ := A
  obtain ⟨h1, h2⟩ := idx_of hj (S ▸ hi)
  obtain ⟨T', h', X', e', W', stp⟩ := stC X hx hZ e0 A (j := j) h1 (g := mkF m pc L ((.int x) :: .int j :: .ref a :: st)) rfl rfl (hb hby hd)
  exact Run.of stp (r T' h' (h2 ▸ W') ⟨⟨_, X', Fr.snoc X' N ga⟩, e', hx, hby, hml, hZ, hown, hret, hnm, hlk, by rw [W'.size]; exact hsz⟩)
theorem r_bastoreB (pc' : Nat) (X : Cx p l e R s m args below meth c Z bytes ml own ret mname n0 T h cells slots) {a : Addr} {n : Nat} {f : Nat → Value} (A : AF Z h a .byte n f) {j : Int32} {i : Nat} {x : Int32} {v : Value} (hj : j.toInt = (i : Int)) (hi : i < n) (hv : (.int (nar .byte x)) = v) (ga : n0 ≤ a) (hd : decode bytes pc = .ok (.bastore, 1)) (r : ∀ T' h', Wr h h' a i v → Cx p l e R s m args below meth c Z bytes ml own ret mname n0 T' h' cells slots → Run p e below m K T' pc' L st) (q : pc + 1 = pc' := by rfl) : Run p e below m K T pc L ((.int x) :: .int j :: .ref a :: st) := by
  obtain ⟨⟨locs, X, N⟩, e0, hx, hby, hml, hZ, hown, hret, hnm, hlk, hsz⟩ := X
  subst q hv
  obtain ⟨cl, A, S, -, H⟩ := A
  obtain ⟨h1, h2⟩ := idx_of hj (S ▸ hi)
  obtain ⟨T', h', X', e', W', stp⟩ := stB X hx hZ e0 A (j := j) h1 (g := mkF m pc L ((.int x) :: .int j :: .ref a :: st)) rfl rfl (hb hby hd)
  exact Run.of stp (r T' h' (h2 ▸ W') ⟨⟨_, X', Fr.snoc X' N ga⟩, e', hx, hby, hml, hZ, hown, hret, hnm, hlk, by rw [W'.size]; exact hsz⟩)
theorem r_bastoreZ (pc' : Nat) (X : Cx p l e R s m args below meth c Z bytes ml own ret mname n0 T h cells slots) {a : Addr} {n : Nat} {f : Nat → Value} (A : AF Z h a .boolean n f) {j : Int32} {i : Nat} {x : Int32} {v : Value} (hj : j.toInt = (i : Int)) (hi : i < n) (hv : (.int (nar .boolean x)) = v) (ga : n0 ≤ a) (hd : decode bytes pc = .ok (.bastore, 1)) (r : ∀ T' h', Wr h h' a i v → Cx p l e R s m args below meth c Z bytes ml own ret mname n0 T' h' cells slots → Run p e below m K T' pc' L st) (q : pc + 1 = pc' := by rfl) : Run p e below m K T pc L ((.int x) :: .int j :: .ref a :: st) := by
  obtain ⟨⟨locs, X, N⟩, e0, hx, hby, hml, hZ, hown, hret, hnm, hlk, hsz⟩ := X
  subst q hv
  obtain ⟨cl, A, S, -, H⟩ := A
  obtain ⟨h1, h2⟩ := idx_of hj (S ▸ hi)
  obtain ⟨T', h', X', e', W', stp⟩ := stZ X hx hZ e0 A (j := j) h1 (g := mkF m pc L ((.int x) :: .int j :: .ref a :: st)) rfl rfl (hb hby hd)
  exact Run.of stp (r T' h' (h2 ▸ W') ⟨⟨_, X', Fr.snoc X' N ga⟩, e', hx, hby, hml, hZ, hown, hret, hnm, hlk, by rw [W'.size]; exact hsz⟩)
theorem r_dastore (pc' : Nat) (X : Cx p l e R s m args below meth c Z bytes ml own ret mname n0 T h cells slots) {a : Addr} {n : Nat} {f : Nat → Value} (A : AF Z h a .double n f) {j : Int32} {i : Nat} {x : UInt64} {v : Value} (hj : j.toInt = (i : Int)) (hi : i < n) (hv : (.double x) = v) (ga : n0 ≤ a) (hd : decode bytes pc = .ok (.dastore, 1)) (r : ∀ T' h', Wr h h' a i v → Cx p l e R s m args below meth c Z bytes ml own ret mname n0 T' h' cells slots → Run p e below m K T' pc' L st) (q : pc + 1 = pc' := by rfl) : Run p e below m K T pc L ((.double x) :: .int j :: .ref a :: st) := by
  obtain ⟨⟨locs, X, N⟩, e0, hx, hby, hml, hZ, hown, hret, hnm, hlk, hsz⟩ := X
  subst q hv
  obtain ⟨cl, A, S, -, H⟩ := A
  obtain ⟨h1, h2⟩ := idx_of hj (S ▸ hi)
  obtain ⟨T', h', X', e', W', stp⟩ := stD X hx hZ e0 A (j := j) h1 (g := mkF m pc L ((.double x) :: .int j :: .ref a :: st)) rfl rfl (hb hby hd)
  exact Run.of stp (r T' h' (h2 ▸ W') ⟨⟨_, X', Fr.snoc X' N ga⟩, e', hx, hby, hml, hZ, hown, hret, hnm, hlk, by rw [W'.size]; exact hsz⟩)
theorem r_initO (pc' : Nat) (X : Cx p l e R s m args below meth c Z bytes ml own ret mname n0 T h cells slots) {a0 : Array Value} {idx : Nat} (w1 : (Jvm.Cond.methodLink own idx Lib.objectInit).before a0 Z = true) (w2 : (Jvm.Cond.instanceMethod Lib.objectInit).before a0 Z = true) (w3 : (Jvm.Cond.code Lib.objectInit ⟨#[0xb1]⟩ 1 none).before a0 Z = true) {a : Addr} (hd : decode bytes pc = .ok (.invokespecial idx, 3)) (hsize : L.size = ml) (hf : 1 ≤ R.frames) (W : Nat) (hW : (st.map fun v => v.category).sum ≤ W) (hl : W + 12 ≤ R.locals) (r : ∀ T', Cx p l e R s m args below meth c Z bytes ml own ret mname n0 T' h cells slots → Run p e below m K T' pc' L st) (q : pc + 3 = pc' := by rfl) : Run p e below m K T pc L (.ref a :: st) := by
  obtain ⟨⟨locs, X, N⟩, e0, hx, hby, hml, hZ, hown, r1⟩ := X
  subst q
  obtain ⟨T', X', e', stp⟩ := initO X hx hZ hown w1 w2 w3 e0 (g := mkF m pc L (.ref a :: st)) rfl (by rw [hml]; exact hsize) rfl (hb hby hd) hf (W := W) (by show 2 * 0 + _ ≤ _; omega) hl
  exact Run.of stp (r T' ⟨⟨_, X', N⟩, e', hx, hby, hml, hZ, hown, r1⟩)
theorem met_of {l : Launch} {Z : State} {n0 : Nat} {ws : List Jvm.Cond} {y : MethodName} {bytes : ByteArray} {ml : Nat} {ret : Option FieldType} {rm : Room} {as : Array Value} {h0 : Heap} {Q : Option Value → Heap → Prop} {L0 : Array Slot} (hpl : plainFor y = true) (hn0 : n0 ≤ h0.size) (ef : ∀ m, entryFrame m as ml = mkF m 0 L0 [])
    (body : ∀ p e s m below meth c T, s.heap = h0 → Cx p l e rm s m as below meth c Z bytes ml y.cls ret y.name n0 T h0 0 0 → Run p e below m (Fin1 below s n0 Q rm.cells rm.slots) T 0 L0 []) : Met1 l Z n0 ws y bytes ml ret rm as h0 Q := by
  refine MetFree.of_bodySF hpl hisR ?_
  intro p e s m args below meth c s₁ Bd hml0 hP hK
  obtain ⟨rfl, hZ, hh⟩ := hP
  have hlk : meth.locks = false := BodyLoose.notSynchronized Bd
  obtain ⟨u, h1, h2, o, h3, h4⟩ := body p e s m below meth c s₁ hh ⟨⟨[], Stand.of_body Bd, Fr.nil n0⟩, by rw [← hh, Bd.state]; rfl, Bd.exec, Bd.bytes, hml0, hZ, findClass_of_methodNamed Bd.named, Bd.returns, (name_of_methodNamed Bd.named Bd.method).1, hlk, hn0⟩
  exact ⟨u, o, castTop (ef m) h1, h2, h3, h4⟩
theorem fin_of {Q : Option Value → Heap → Prop} {cN sN : Nat} {v : Option Value} (X : Cx p l e R s m args below meth c Z bytes ml own ret mname n0 T h cells slots) (hc : cells ≤ cN) (hs : slots ≤ sN) (hQ : Q v h) (hv : ret = none → v = none) (stp : ∀ {T : State} {locs : List Loc} (X : Stand p l e R s m args below meth c T locs cells slots) (hx : p.tables.exec = Jvm.exec) (hret : meth.sig.returnType = ret) {fs : List Frame}, (∀ (f : JFrame) (acts : List Action), f.method = m → f.locked = none → f.entered = [] → (doReturn e (T.setTop f) acts v).1 = T.setFrames fs) → Steps p.tables e below (T.setTop (mkF m pc L st)) (T.setFrames fs)) : Run p e below m (Fin1 below s n0 Q cN sN) T pc L st := by
  obtain ⟨⟨locs, X, N⟩, e0, hx, hby, hml, hZ, hown, hret, hnm, hlk, hsz⟩ := X
  obtain ⟨fs, hr, hrun, hended, hW, hsame⟩ := X.leave (v := v) (fun q => hv (hret.symm.trans q)) hlk
  refine ⟨_, stp X hx hret hr, hrun, _, hended, v, locs, rfl, ⟨?_, N, ?_⟩, ⟨_, rfl⟩, hW, hsame.mono hc hs⟩
  · show Q v T.heap; rw [e0]; exact hQ
  · show n0 ≤ T.heap.size; rw [e0]; exact hsz
theorem r_retZ {Q : Option Value → Heap → Prop} {cN sN : Nat} (X : Cx p l e R s m args below meth c Z bytes ml own (some .boolean) mname n0 T h cells slots) {x z : Int32} (hd : decode bytes pc = .ok (.ireturn, 1)) (hz : nar .boolean x = z) (hc : cells ≤ cN) (hs : slots ≤ sN) (hQ : Q (some (.int z)) h) : Run p e below m (Fin1 below s n0 Q cN sN) T pc L (.int x :: st) := by
  have hby := X.2.2.2.1
  subst hz
  exact fin_of X hc hs hQ (fun q => by cases q) (fun X hx hret fs hr => retN X hx (t := .boolean) hret (by simp) (hb hby hd) hr)
theorem r_retB {Q : Option Value → Heap → Prop} {cN sN : Nat} (X : Cx p l e R s m args below meth c Z bytes ml own (some .byte) mname n0 T h cells slots) {x z : Int32} (hd : decode bytes pc = .ok (.ireturn, 1)) (hz : nar .byte x = z) (hc : cells ≤ cN) (hs : slots ≤ sN) (hQ : Q (some (.int z)) h) : Run p e below m (Fin1 below s n0 Q cN sN) T pc L (.int x :: st) := by
  have hby := X.2.2.2.1
  subst hz
  exact fin_of X hc hs hQ (fun q => by cases q) (fun X hx hret fs hr => retN X hx (t := .byte) hret (by simp) (hb hby hd) hr)
theorem r_retC {Q : Option Value → Heap → Prop} {cN sN : Nat} (X : Cx p l e R s m args below meth c Z bytes ml own (some .char) mname n0 T h cells slots) {x z : Int32} (hd : decode bytes pc = .ok (.ireturn, 1)) (hz : nar .char x = z) (hc : cells ≤ cN) (hs : slots ≤ sN) (hQ : Q (some (.int z)) h) : Run p e below m (Fin1 below s n0 Q cN sN) T pc L (.int x :: st) := by
  have hby := X.2.2.2.1
  subst hz
  exact fin_of X hc hs hQ (fun q => by cases q) (fun X hx hret fs hr => retN X hx (t := .char) hret (by simp) (hb hby hd) hr)
theorem r_retS {Q : Option Value → Heap → Prop} {cN sN : Nat} (X : Cx p l e R s m args below meth c Z bytes ml own (some .short) mname n0 T h cells slots) {x z : Int32} (hd : decode bytes pc = .ok (.ireturn, 1)) (hz : nar .short x = z) (hc : cells ≤ cN) (hs : slots ≤ sN) (hQ : Q (some (.int z)) h) : Run p e below m (Fin1 below s n0 Q cN sN) T pc L (.int x :: st) := by
  have hby := X.2.2.2.1
  subst hz
  exact fin_of X hc hs hQ (fun q => by cases q) (fun X hx hret fs hr => retN X hx (t := .short) hret (by simp) (hb hby hd) hr)
theorem r_retI {Q : Option Value → Heap → Prop} {cN sN : Nat} (X : Cx p l e R s m args below meth c Z bytes ml own (some .int) mname n0 T h cells slots) {x : Int32} (hd : decode bytes pc = .ok (.ireturn, 1)) (hc : cells ≤ cN) (hs : slots ≤ sN) (hQ : Q (some (.int x)) h) : Run p e below m (Fin1 below s n0 Q cN sN) T pc L (.int x :: st) := by
  have hby := X.2.2.2.1
  exact fin_of X hc hs hQ (fun q => by cases q) (fun X hx hret fs hr => retOut X hx (t := .int) hret rfl (Or.inl ⟨rfl, Or.inl rfl, _, rfl⟩) (hb hby hd) hr)
theorem r_retJ {Q : Option Value → Heap → Prop} {cN sN : Nat} (X : Cx p l e R s m args below meth c Z bytes ml own (some .long) mname n0 T h cells slots) {x : Int64} (hd : decode bytes pc = .ok (.lreturn, 1)) (hc : cells ≤ cN) (hs : slots ≤ sN) (hQ : Q (some (.long x)) h) : Run p e below m (Fin1 below s n0 Q cN sN) T pc L (.long x :: st) := by
  have hby := X.2.2.2.1
  exact fin_of X hc hs hQ (fun q => by cases q) (fun X hx hret fs hr => retOut X hx (t := .long) hret rfl (Or.inr (Or.inl ⟨rfl, rfl, _, rfl⟩)) (hb hby hd) hr)
theorem r_retA {Q : Option Value → Heap → Prop} {cN sN : Nat} {t : FieldType} (X : Cx p l e R s m args below meth c Z bytes ml own (some t) mname n0 T h cells slots) {x : Value} (hd : decode bytes pc = .ok (.areturn, 1)) (ht : t.isReference = true) (hn : narrow t x = x) (hx : x.isRef = true) (hc : cells ≤ cN) (hs : slots ≤ sN) (hQ : Q (some x) h) : Run p e below m (Fin1 below s n0 Q cN sN) T pc L (x :: st) := by
  have hby := X.2.2.2.1
  exact fin_of X hc hs hQ (fun q => by cases q) (fun X hx' hret fs hr => retOut X hx' (t := t) hret hn (Or.inr (Or.inr (Or.inr (Or.inr ⟨rfl, ht, hx⟩)))) (hb hby hd) hr)
theorem r_retV {Q : Option Value → Heap → Prop} {cN sN : Nat} (X : Cx p l e R s m args below meth c Z bytes ml own none mname n0 T h cells slots) (hd : decode bytes pc = .ok (.return_, 1)) (hc : cells ≤ cN) (hs : slots ≤ sN) (hQ : Q none h) : Run p e below m (Fin1 below s n0 Q cN sN) T pc L [] := by
  have hby := X.2.2.2.1
  exact fin_of X hc hs hQ (fun _ => rfl) (fun X hx hret fs hr => X.returnOut hx hret (hb hby hd) hr)
theorem r_callS (pc' : Nat) (X : Cx p l e R s m args below meth c Z bytes ml own ret mname n0 T h cells slots) {a0 : Array Value} {y : MethodName} {by' : ByteArray} {ml' : Nat} {ret' : Option FieldType} {rm : Room} {as : Array Value} {Q : Option Value → Heap → Prop} {index : Nat}  (hM : Met1 l Z n0 [] y by' ml' ret' rm as h Q) (w1 : (Jvm.Cond.methodLink own index y).before a0 Z = true) (w2 : (Jvm.Cond.static y).before a0 Z = true) (wc : (Jvm.Cond.code y by' ml' ret').before a0 Z = true) (wz : (Jvm.Cond.initialized y.cls).before a0 Z = true) (hy : y.cls ≠ "java/lang/invoke/MethodHandle" ∧ y.cls ≠ "java/lang/invoke/VarHandle") {ps : List FieldType} {rt : Option FieldType} (pd : parseMethodDescriptor y.desc = some ⟨ps, rt⟩) (argsL : List Value) (has : argsL.toArray = as) (hln : argsL.length = ps.length) (W : Nat) (hW : (st.map fun v => v.category).sum ≤ W) (hsize : L.size = ml) (hf : rm.frames + 1 ≤ R.frames) (hl : W + (ml' + 11) + rm.locals ≤ R.locals) (hc : cells + rm.cells ≤ R.cells) (hs : slots + rm.slots ≤ R.slots) (hd : decode bytes pc = .ok (.invokestatic index, 3)) (r : ∀ T' h' v, Q v h' → Cx p l e R s m args below meth c Z bytes ml own ret mname n0 T' h' (cells + rm.cells) (slots + rm.slots) → Run p e below m K T' pc' L (v.toList ++ st)) (q : pc + 3 = pc' := by rfl) {S : List Value} (hS : S = argsL.reverse ++ st := by rfl) : Run p e below m K T pc L S := by
  obtain ⟨⟨locs, X, N⟩, e0, hx, hby, hml, hZ, hown, hret, hnm, hlk, hsz⟩ := X
  subst q has hS
  obtain ⟨v, _, ⟨T', L', k', n'⟩, -, X', ⟨Lc, hQ', l', y', z'⟩, stp⟩ := Jvm.LawKit.callS X hx (y := y) hown (mvT hZ w1) (mvT hZ w2) (mvT hZ wz) (mvT hZ wc) hy (backOf (W := W) (Q := fun v h' L => Q v h' ∧ Fr n0 L ∧ n0 ≤ h'.size) hM hZ wc wz hf hl) (g := mkF m pc L (argsL.reverse ++ st)) rfl (by rw [hml]; exact hsize) (argsL := argsL) (rest := st) (lenOf pd hln) rfl (by show 2 * 0 + _ ≤ _; omega) (hb hby hd) (fun _ _ => ⟨rfl, e0, hc, hs⟩)
  dsimp only [Pt.U, Pt.locs, Pt.cells, Pt.slots] at X' l' y' z' stp hQ'
  subst l' y' z'
  obtain ⟨hQ1, N1, hs1⟩ := hQ'
  exact Run.of stp (r T' _ v hQ1 ⟨⟨_, X', Fr.app N N1⟩, rfl, hx, hby, hml, hZ, hown, hret, hnm, hlk, hs1⟩)
theorem r_special (pc' : Nat) (X : Cx p l e R s m args below meth c Z bytes ml own ret mname n0 T h cells slots) {a0 : Array Value} {y : MethodName} {by' : ByteArray} {ml' : Nat} {ret' : Option FieldType} {rm : Room} {as : Array Value} {Q : Option Value → Heap → Prop} {index : Nat} {a : Addr} (hM : Met1 l Z n0 [] y by' ml' ret' rm as h Q) (hyn : y.name = "<init>") (hr0 : ret' = none) (w1 : (Jvm.Cond.methodLink own index y).before a0 Z = true) (w2 : (Jvm.Cond.instanceMethod y).before a0 Z = true) (wc : (Jvm.Cond.code y by' ml' ret').before a0 Z = true) (wz : (Jvm.Cond.initialized y.cls).before a0 Z = true) (hy : y.cls ≠ "java/lang/invoke/MethodHandle" ∧ y.cls ≠ "java/lang/invoke/VarHandle") {ps : List FieldType} {rt : Option FieldType} (pd : parseMethodDescriptor y.desc = some ⟨ps, rt⟩) (argsL : List Value) (has : (Value.ref a :: argsL).toArray = as) (hln : argsL.length = ps.length) (W : Nat) (hW : (st.map fun v => v.category).sum ≤ W) (hsize : L.size = ml) (hf : rm.frames + 1 ≤ R.frames) (hl : W + (ml' + 11) + rm.locals ≤ R.locals) (hc : cells + rm.cells ≤ R.cells) (hs : slots + rm.slots ≤ R.slots) (hd : decode bytes pc = .ok (.invokespecial index, 3)) (r : ∀ T' h' v, Q v h' → Cx p l e R s m args below meth c Z bytes ml own ret mname n0 T' h' (cells + rm.cells) (slots + rm.slots) → Run p e below m K T' pc' L (v.toList ++ st)) (q : pc + 3 = pc' := by rfl) {S : List Value} (hS : S = argsL.reverse ++ Value.ref a :: st := by rfl) : Run p e below m K T pc L S := by
  obtain ⟨⟨locs, X, N⟩, e0, hx, hby, hml, hZ, hown, hret, hnm, hlk, hsz⟩ := X
  subst q has hS
  subst hr0
  obtain ⟨v, _, ⟨T', L', k', n'⟩, -, X', ⟨Lc, hQ', l', y', z'⟩, stp⟩ := X.specialBack hx (y := y) hyn hown (mvT hZ w1) (mvT hZ w2) (mvT hZ wc) hy (backOf (W := W) (Q := fun v h' L => Q v h' ∧ Fr n0 L ∧ n0 ≤ h'.size) hM hZ wc wz hf hl) (g := mkF m pc L (argsL.reverse ++ .ref a :: st)) rfl (by rw [hml]; exact hsize) (Steps.refl _) (a := a) (argsL := argsL) (rest := st) (lenOf pd hln) rfl (by show 2 * 0 + _ ≤ _; omega) (hb hby hd) (fun _ _ => ⟨rfl, e0, hc, hs⟩)
  dsimp only [Pt.U, Pt.locs, Pt.cells, Pt.slots] at X' l' y' z' stp hQ'
  subst l' y' z'
  obtain ⟨hQ1, N1, hs1⟩ := hQ'
  exact Run.of (fun t k => stp.trans k) (r T' _ v hQ1 ⟨⟨_, X', Fr.app N N1⟩, rfl, hx, hby, hml, hZ, hown, hret, hnm, hlk, hs1⟩)
theorem r_virtual (pc' : Nat) (X : Cx p l e R s m args below meth c Z bytes ml own ret mname n0 T h cells slots) {a0 : Array Value} {y : MethodName} {by' : ByteArray} {ml' : Nat} {ret' : Option FieldType} {rm : Room} {as : Array Value} {Q : Option Value → Heap → Prop} {index : Nat} {a : Addr} {C : String} (hM : Met1 l Z n0 [] y by' ml' ret' rm as h Q) (E : Exa Z h a C) (w1 : (Jvm.Cond.methodLink own index y).before a0 Z = true) (w3 : (Jvm.Cond.declares y).before a0 Z = true) (wf : (Jvm.Cond.selects y.cls y y).before a0 Z = true) (w4 : (Jvm.Cond.selects C y y).before a0 Z = true) (w2 : (Jvm.Cond.instanceMethod y).before a0 Z = true) (wc : (Jvm.Cond.code y by' ml' ret').before a0 Z = true) (wz : (Jvm.Cond.initialized y.cls).before a0 Z = true) (hy : y.cls ≠ "java/lang/invoke/MethodHandle" ∧ y.cls ≠ "java/lang/invoke/VarHandle") {ps : List FieldType} {rt : Option FieldType} (pd : parseMethodDescriptor y.desc = some ⟨ps, rt⟩) (argsL : List Value) (has : (Value.ref a :: argsL).toArray = as) (hln : argsL.length = ps.length) (W : Nat) (hW : (st.map fun v => v.category).sum ≤ W) (hsize : L.size = ml) (hf : rm.frames + 1 ≤ R.frames) (hl : W + (ml' + 11) + rm.locals ≤ R.locals) (hc : cells + rm.cells ≤ R.cells) (hs : slots + rm.slots ≤ R.slots) (hd : decode bytes pc = .ok (.invokevirtual index, 3)) (r : ∀ T' h' v, Q v h' → Cx p l e R s m args below meth c Z bytes ml own ret mname n0 T' h' (cells + rm.cells) (slots + rm.slots) → Run p e below m K T' pc' L (v.toList ++ st)) (q : pc + 3 = pc' := by rfl) {S : List Value} (hS : S = argsL.reverse ++ Value.ref a :: st := by rfl) : Run p e below m K T pc L S := by
  obtain ⟨⟨locs, X, N⟩, e0, hx, hby, hml, hZ, hown, hret, hnm, hlk, hsz⟩ := X
  subst q has hS
  obtain ⟨cq, kq, qa, qb, qc⟩ := isOf hZ e0 E
  obtain ⟨v, _, ⟨T', L', k', n'⟩, -, X', ⟨Lc, hQ', l', y', z'⟩, stp⟩ := X.virtualBack hx (C := C) (y := y) (z := y) hown (mvT hZ w1) (mvT hZ w3) (notFace_of_selects (args := #[]) (mvT hZ wf)) (mvT hZ w4) (mvT hZ w2) hy (backOf (W := W) (Q := fun v h' L => Q v h' ∧ Fr n0 L ∧ n0 ≤ h'.size) hM hZ wc wz hf hl) qa qc (g := mkF m pc L (argsL.reverse ++ .ref a :: st)) rfl (by rw [hml]; exact hsize) (Steps.refl _) (argsL := argsL) (rest := st) (lenOf pd hln) rfl (by show 2 * 0 + _ ≤ _; omega) (hb hby hd) (fun _ _ => ⟨rfl, e0, hc, hs⟩)
  dsimp only [Pt.U, Pt.locs, Pt.cells, Pt.slots] at X' l' y' z' stp hQ'
  subst l' y' z'
  obtain ⟨hQ1, N1, hs1⟩ := hQ'
  exact Run.of (fun t k => stp.trans k) (r T' _ v hQ1 ⟨⟨_, X', Fr.app N N1⟩, rfl, hx, hby, hml, hZ, hown, hret, hnm, hlk, hs1⟩)
theorem r_private (pc' : Nat) (X : Cx p l e R s m args below meth c Z bytes ml own ret mname n0 T h cells slots) {a0 : Array Value} {y : MethodName} {by' : ByteArray} {ml' : Nat} {ret' : Option FieldType} {rm : Room} {as : Array Value} {Q : Option Value → Heap → Prop} {index : Nat} {a : Addr} {C : String} (hM : Met1 l Z n0 [] y by' ml' ret' rm as h Q) (E : Exa Z h a C) (w1 : (Jvm.Cond.methodLink own index y).before a0 Z = true) (w2 : (Jvm.Cond.instanceMethod y).before a0 Z = true) {kk : Nat} (wi : (Jvm.Cond.instantiable y.cls kk).before a0 Z = true) (w4 : (Jvm.Cond.privateMethod y).before a0 Z = true) (wc : (Jvm.Cond.code y by' ml' ret').before a0 Z = true) (wz : (Jvm.Cond.initialized y.cls).before a0 Z = true) (hy : y.cls ≠ "java/lang/invoke/MethodHandle" ∧ y.cls ≠ "java/lang/invoke/VarHandle") {ps : List FieldType} {rt : Option FieldType} (pd : parseMethodDescriptor y.desc = some ⟨ps, rt⟩) (argsL : List Value) (has : (Value.ref a :: argsL).toArray = as) (hln : argsL.length = ps.length) (W : Nat) (hW : (st.map fun v => v.category).sum ≤ W) (hsize : L.size = ml) (hf : rm.frames + 1 ≤ R.frames) (hl : W + (ml' + 11) + rm.locals ≤ R.locals) (hc : cells + rm.cells ≤ R.cells) (hs : slots + rm.slots ≤ R.slots) (hd : decode bytes pc = .ok (.invokevirtual index, 3)) (r : ∀ T' h' v, Q v h' → Cx p l e R s m args below meth c Z bytes ml own ret mname n0 T' h' (cells + rm.cells) (slots + rm.slots) → Run p e below m K T' pc' L (v.toList ++ st)) (q : pc + 3 = pc' := by rfl) {S : List Value} (hS : S = argsL.reverse ++ Value.ref a :: st := by rfl) : Run p e below m K T pc L S := by
  obtain ⟨⟨locs, X, N⟩, e0, hx, hby, hml, hZ, hown, hret, hnm, hlk, hsz⟩ := X
  subst q has hS
  obtain ⟨cq, qq, qq'⟩ := E.cell
  obtain ⟨ci, ki, hi1, hi2, -, hi3, -⟩ := Cond.instantiable_spec (mvT hZ wi (args := #[]) : (Jvm.Cond.instantiable y.cls kk).before #[] s = true)
  have hpv := Cond.privateMethod_at (mvP hZ w4 (args := #[]))
  obtain ⟨v, _, ⟨T', L', k', n'⟩, -, X', ⟨Lc, hQ', l', y', z'⟩, stp⟩ := X.privateBack hx (y := y) hown (mvT hZ w1) (mvT hZ w2) (selects_self_of_private hi1 hi2 (Bool.or_eq_false_iff.mp hi3).1 hpv (mvT hZ w2) hy) hpv (mvT hZ wc) hy (backOf (W := W) (Q := fun v h' L => Q v h' ∧ Fr n0 L ∧ n0 ≤ h'.size) hM hZ wc wz hf hl) (g := mkF m pc L (argsL.reverse ++ .ref a :: st)) rfl (by rw [hml]; exact hsize) (Steps.refl _) (a := a) (by rw [e0]; exact qq) qq' (argsL := argsL) (rest := st) (lenOf pd hln) rfl (by show 2 * 0 + _ ≤ _; omega) (hb hby hd) (fun _ _ => ⟨rfl, e0, hc, hs⟩)
  dsimp only [Pt.U, Pt.locs, Pt.cells, Pt.slots] at X' l' y' z' stp hQ'
  subst l' y' z'
  obtain ⟨hQ1, N1, hs1⟩ := hQ'
  exact Run.of (fun t k => stp.trans k) (r T' _ v hQ1 ⟨⟨_, X', Fr.app N N1⟩, rfl, hx, hby, hml, hZ, hown, hret, hnm, hlk, hs1⟩)
theorem r_newarrayE (pc' : Nat) (X : Cx p l e R s m args below meth c Z bytes ml own ret mname n0 T h cells slots) {a0 : Array Value} {aty : ArrayType} {z : Int32} (n cap : Nat) (ad : String) (had : "[" ++ (newarray.typeOf aty).toString = ad) (w : (Jvm.Cond.arrayClass (newarray.typeOf aty)).before a0 Z = true) (hd : decode bytes pc = .ok (.newarray aty, 2)) (hz : z.toInt = (n : Int)) (hcap : n ≤ cap) (hb8 : cap * 8 ≤ 536870912) (hc : cells + 1 ≤ R.cells) (hl : slots + cap ≤ R.slots) (r : ∀ T' h' b, b = h.size → n0 ≤ b → Ext h h' → Exa Z h' b ad → AF Z h' b (newarray.typeOf aty) n (fun _ => defaultValue (newarray.typeOf aty)) → Cx p l e R s m args below meth c Z bytes ml own ret mname n0 T' h' (cells + 1) (slots + cap) → Run p e below m K T' pc' L (.ref b :: st)) (q : pc + 2 = pc' := by rfl) : Run p e below m K T pc L (.int z :: st) := by
  obtain ⟨⟨locs, X, N⟩, e0, hx, hby, hml, hZ, hown, hret, hnm, hlk, hsz⟩ := X
  subst q
  have hz0 : ¬ z < 0 := by rw [Int32.lt_iff_toInt_lt]; have : (0 : Int32).toInt = 0 := rfl; omega
  have hzn : z.toNatClampNeg = n := by show z.toInt.toNat = n; omega
  have hzl := z.toInt_lt
  obtain ⟨T', h', cA, X', e', E', A', Ex', stp⟩ := newPE X hx hZ w e0 (g := mkF m pc L (.int z :: st)) rfl (hb hby hd) rfl hz0 (cap := cap) (by rw [hzn]; exact hcap) hb8 hc hl had
  refine Run.of stp (r T' h' h.size rfl hsz E' Ex' ⟨_, A', by rw [sz_new, hzn], by omega, fun j hj => ?_⟩ ⟨⟨_, X', N⟩, e', hx, hby, hml, hZ, hown, hret, hnm, hlk, Nat.le_trans hsz E'.1⟩)
  simp [newA, hzn, hj]
theorem r_clone (pc' : Nat) (X : Cx p l e R s m args below meth c Z bytes ml own ret mname n0 T h cells slots) {a0 : Array Value} {ad : String} {index : Nat} (w1 : (Jvm.Cond.methodLink own index ⟨ad, "clone", "()Ljava/lang/Object;"⟩).before a0 Z = true) (w2 : (Jvm.Cond.sameMethod ad "java/lang/Object" "clone" "()Ljava/lang/Object;").before a0 Z = true) (w3 : (Jvm.Cond.native ⟨"java/lang/Object", "clone", "()Ljava/lang/Object;"⟩).before a0 Z = true) (w4 : (Jvm.Cond.instanceMethod ⟨"java/lang/Object", "clone", "()Ljava/lang/Object;"⟩).before a0 Z = true) (w5 : (Jvm.Cond.selects ad ⟨ad, "clone", "()Ljava/lang/Object;"⟩ ⟨"java/lang/Object", "clone", "()Ljava/lang/Object;"⟩).before a0 Z = true) (w6 : (Jvm.Cond.castable ad "java/lang/Cloneable").before a0 Z = true) {a : Addr} {ty : FieldType} {n : Nat} {f : Nat → Value} (A : AF Z h a ty n f) (E : Exa Z h a ad) (hfit : ∀ j, j < n → fits ty (f j) = true) (cap : Nat) (hcap : n ≤ cap) (W : Nat) (hW : (st.map fun v => v.category).sum ≤ W) (hsize : L.size = ml) (hf : 1 ≤ R.frames) (hl : W + 14 ≤ R.locals) (hc : cells + 1 ≤ R.cells) (hs : slots + cap ≤ R.slots) (hd : decode bytes pc = .ok (.invokevirtual index, 3)) (r : ∀ T' h' b, b = h.size → n0 ≤ b → Ext h h' → Exa Z h' b ad → AF Z h' b ty n f → Cx p l e R s m args below meth c Z bytes ml own ret mname n0 T' h' (cells + 1) (slots + cap) → Run p e below m K T' pc' L (.ref b :: st)) (q : pc + 3 = pc' := by rfl) : Run p e below m K T pc L (.ref a :: st) := by
  obtain ⟨⟨locs, X, N⟩, e0, hx, hby, hml, hZ, hown, hret, hnm, hlk, hsz⟩ := X
  subst q
  obtain ⟨cl, A, S, q, H⟩ := A
  have FC : FitC Z cl := fitC_of A fun i hi v hv => by rw [S] at hi; rw [H i hi] at hv; cases hv; exact hfit i hi
  obtain ⟨T', h', X', e', E', A', Ex', stp⟩ := cloneA X hx hZ hown w1 w2 w3 w4 w5 w6 e0 A E FC (g := mkF m pc L (.ref a :: st)) rfl (by rw [hml]; exact hsize) rfl (hb hby hd) hf (W := W) (cap := cap) (by show 2 * 0 + _ ≤ _; omega) hl (by rw [S]; exact hcap) hc hs
  exact Run.of stp (r T' h' h.size rfl hsz E' Ex' ⟨_, A', S, q, H⟩ ⟨⟨_, X', N⟩, e', hx, hby, hml, hZ, hown, hret, hnm, hlk, Nat.le_trans hsz E'.1⟩)
theorem r_castY (pc' : Nat) (X : Cx p l e R s m args below meth c Z bytes ml own ret mname n0 T h cells slots) {a0 : Array Value} {K0 : String} {index : Nat} (w : (Jvm.Cond.classLink own index K0).before a0 Z = true) {a : Addr} (F : Ins Z h a K0 true) (hd : decode bytes pc = .ok (.checkcast index, 3)) (r : ∀ T', Cx p l e R s m args below meth c Z bytes ml own ret mname n0 T' h cells slots → Run p e below m K T' pc' L (.ref a :: st)) (q : pc + 3 = pc' := by rfl) : Run p e below m K T pc L (.ref a :: st) := by
  obtain ⟨⟨locs, X, N⟩, e0, hx, hby, hml, hZ, hown, r1⟩ := X
  subst q
  obtain ⟨T', X', e', stp⟩ := castY X hx hZ hown w e0 F (g := mkF m pc L (.ref a :: st)) rfl rfl (hb hby hd)
  exact Run.of stp (r T' ⟨⟨locs, X', N⟩, e', hx, hby, hml, hZ, hown, r1⟩)
theorem r_instY (pc' : Nat) (X : Cx p l e R s m args below meth c Z bytes ml own ret mname n0 T h cells slots) {a0 : Array Value} {K0 : String} {index : Nat} (w : (Jvm.Cond.classLink own index K0).before a0 Z = true) {a : Addr} (F : Ins Z h a K0 true) (hd : decode bytes pc = .ok (.instanceof index, 3)) (r : ∀ T', Cx p l e R s m args below meth c Z bytes ml own ret mname n0 T' h cells slots → Run p e below m K T' pc' L (.int 1 :: st)) (q : pc + 3 = pc' := by rfl) : Run p e below m K T pc L (.ref a :: st) := by
  obtain ⟨⟨locs, X, N⟩, e0, hx, hby, hml, hZ, hown, r1⟩ := X
  subst q
  obtain ⟨T', X', e', stp⟩ := instY X hx hZ hown w e0 F (g := mkF m pc L (.ref a :: st)) rfl rfl (hb hby hd)
  exact Run.of stp (r T' ⟨⟨locs, X', N⟩, e', hx, hby, hml, hZ, hown, r1⟩)
theorem r_instN (pc' : Nat) (X : Cx p l e R s m args below meth c Z bytes ml own ret mname n0 T h cells slots) {a0 : Array Value} {K0 C : String} {index : Nat} (w : (Jvm.Cond.classLink own index K0).before a0 Z = true) {a : Addr} (F : Ins Z s.heap a K0 false) (E : Exa Z s.heap a C) (hd : decode bytes pc = .ok (.instanceof index, 3)) (r : ∀ T', Cx p l e R s m args below meth c Z bytes ml own ret mname n0 T' h cells slots → Run p e below m K T' pc' L (.int 0 :: st)) (q : pc + 3 = pc' := by rfl) : Run p e below m K T pc L (.ref a :: st) := by
  obtain ⟨⟨locs, X, N⟩, e0, hx, hby, hml, hZ, hown, r1⟩ := X
  subst q
  obtain ⟨T', X', e', stp⟩ := instN X hx hZ hown w e0 F E (g := mkF m pc L (.ref a :: st)) rfl rfl (hb hby hd)
  exact Run.of stp (r T' ⟨⟨locs, X', N⟩, e', hx, hby, hml, hZ, hown, r1⟩)
theorem r_instNo (pc' : Nat) (X : Cx p l e R s m args below meth c Z bytes ml own ret mname n0 T h cells slots) {a0 : Array Value} {K0 C : String} {index : Nat} (w : (Jvm.Cond.classLink own index K0).before a0 Z = true) {a : Addr} (E : Exa Z h a C) (F : ∃ c t, Z.vm.findClass C = some c ∧ Z.vm.findClass K0 = some t ∧ Z.vm.assignable c t = false) (hd : decode bytes pc = .ok (.instanceof index, 3)) (r : ∀ T', Cx p l e R s m args below meth c Z bytes ml own ret mname n0 T' h cells slots → Run p e below m K T' pc' L (.int 0 :: st)) (q : pc + 3 = pc' := by rfl) : Run p e below m K T pc L (.ref a :: st) := by
  obtain ⟨⟨locs, X, N⟩, e0, hx, hby, hml, hZ, hown, r1⟩ := X
  subst q
  obtain ⟨T', X', e', stp⟩ := instNo X hx hZ hown w e0 E F (g := mkF m pc L (.ref a :: st)) rfl rfl (hb hby hd)
  exact Run.of stp (r T' ⟨⟨locs, X', N⟩, e', hx, hby, hml, hZ, hown, r1⟩)
theorem r_aaloadC (pc' : Nat) (X : Cx p l e R s m args below meth c Z bytes ml own ret mname n0 T h cells slots) {a : Addr} {cl : Cell} {ty : FieldType} (A : Arr Z h a cl ty) (hty : ty.isReference = true) {j : Int32} {v : Value} (hin : ¬ (j < 0 ∨ cl.slots.size ≤ j.toNatClampNeg)) (hv : cl.slots[j.toNatClampNeg]? = some v) (hd : decode bytes pc = .ok (.aaload, 1)) (r : Run p e below m K T pc' L (v :: st)) (q : pc + 1 = pc' := by rfl) : Run p e below m K T pc L (.int j :: .ref a :: st) := by
  obtain ⟨⟨locs, X, N⟩, e0, hx, hby, hml, hZ, hown, r1⟩ := X
  subst q hby
  exact Run.of (fun t k => X.aaload hx (j := j) (v := v) (by rw [e0]; exact A.1) (State.isArrayOf_alike hZ.alike A.2.1) hty A.2.2 hin hv (g := mkF m pc L (.int j :: .ref a :: st)) rfl rfl hd _ k) r
theorem r_aaload (pc' : Nat) (X : Cx p l e R s m args below meth c Z bytes ml own ret mname n0 T h cells slots) {a : Addr} {ty : FieldType} {n : Nat} {f : Nat → Value} (A : AF Z h a ty n f) (hty : ty.isReference = true) {j : Int32} {i : Nat} {v : Value} (hj : j.toInt = (i : Int)) (hi : i < n) (hv : f i = v) (hd : decode bytes pc = .ok (.aaload, 1)) (r : Run p e below m K T pc' L (v :: st)) (q : pc + 1 = pc' := by rfl) : Run p e below m K T pc L (.int j :: .ref a :: st) := by
  obtain ⟨cl, A, S, -, H⟩ := A
  obtain ⟨h1, h2⟩ := idx_of hj (S ▸ hi)
  exact r_aaloadC pc' X A hty h1 (by rw [h2, H i hi, hv]) hd r q
theorem keepExt {h0 h1 : Heap} (K : Keep h0 h1 []) : Ext h0 h1 := ⟨K.1, fun a c q => K.2.1 a c q nin0⟩
theorem r_instNull (pc' : Nat) (X : Cx p l e R s m args below meth c Z bytes ml own ret mname n0 T h cells slots) {index : Nat} (hd : decode bytes pc = .ok (.instanceof index, 3)) (r : Run p e below m K T pc' L (.int 0 :: st)) (q : pc + 3 = pc' := by rfl) : Run p e below m K T pc L (.null :: st) := by
  obtain ⟨⟨locs, X, -⟩, -, hx, hby, -⟩ := X
  subst q hby
  exact Run.of (fun t k => X.instanceofNull hx (g := mkF m pc L (.null :: st)) rfl rfl hd _ k) r
def b2i (P : Prop) [Decidable P] : Int32 := if P then 1 else 0
theorem b2i_t {P : Prop} [Decidable P] (h : P) : b2i P = 1 := if_pos h
theorem b2i_f {P : Prop} [Decidable P] (h : ¬ P) : b2i P = 0 := if_neg h
theorem b2i_eq0 {P : Prop} [Decidable P] (h : ¬ P) : b2i P = 0 := if_neg h
theorem b2i_ne0 {P : Prop} [Decidable P] (h : P) : ¬ b2i P = 0 := by rw [b2i_t h]; decide
theorem b2i_01 {P : Prop} [Decidable P] : b2i P = 0 ∨ b2i P = 1 := by by_cases h : P; exact Or.inr (b2i_t h); exact Or.inl (b2i_f h)
theorem b2i_nar {P : Prop} [Decidable P] : nar .boolean (b2i P) = b2i P := by by_cases h : P; (rw [b2i_t h]; rfl); (rw [b2i_f h]; rfl)
theorem b2i_congr {P Q : Prop} [Decidable P] [Decidable Q] (h : P ↔ Q) : b2i P = b2i Q := by by_cases q : P; (rw [b2i_t q, b2i_t (h.mp q)]); (rw [b2i_f q, b2i_f (fun z => q (h.mpr z))])
theorem ltI {x y : Int32} {a b : Int} (hx : x.toInt = a) (hy : y.toInt = b) : x < y ↔ a < b := by rw [Int32.lt_iff_toInt_lt, hx, hy]
theorem eqI {x y : Int32} {a b : Int} (hx : x.toInt = a) (hy : y.toInt = b) : x = y ↔ a = b := by rw [← Int32.toInt_inj, hx, hy]
theorem ltJ {x y : Int64} {a b : Int} (hx : x.toInt = a) (hy : y.toInt = b) : x < y ↔ a < b := by rw [Int64.lt_iff_toInt_lt, hx, hy]
theorem eqJ {x y : Int64} {a b : Int} (hx : x.toInt = a) (hy : y.toInt = b) : x = y ↔ a = b := by rw [← Int64.toInt_inj, hx, hy]
theorem addI {x y : Int32} {a b : Int} (hx : x.toInt = a) (hy : y.toInt = b) (h1 : -2147483648 ≤ a + b) (h2 : a + b < 2147483648) : (x + y).toInt = a + b := by have h := c_iadd x y; have r := rng32 (x + y); rw [hx, hy] at h; omega
theorem subI {x y : Int32} {a b : Int} (hx : x.toInt = a) (hy : y.toInt = b) (h1 : -2147483648 ≤ a - b) (h2 : a - b < 2147483648) : (x - y).toInt = a - b := by have h := c_isub x y; have r := rng32 (x - y); rw [hx, hy] at h; omega
theorem addJ {x y : Int64} {a b : Int} (hx : x.toInt = a) (hy : y.toInt = b) (h1 : -9223372036854775808 ≤ a + b) (h2 : a + b < 9223372036854775808) : (x + y).toInt = a + b := by have h := c_ladd x y; have r := rng64 (x + y); rw [hx, hy] at h; omega
theorem subJ {x y : Int64} {a b : Int} (hx : x.toInt = a) (hy : y.toInt = b) (h1 : -9223372036854775808 ≤ a - b) (h2 : a - b < 9223372036854775808) : (x - y).toInt = a - b := by have h := c_lsub x y; have r := rng64 (x - y); rw [hx, hy] at h; omega
theorem natI (n : Nat) (h : n < 2147483648) : (Int32.ofNat n).toInt = n := Int32.toInt_ofNat_small h
def updI (g : Nat → Int32) (i : Nat) (x : Int32) : Nat → Int32 := fun j => if j = i then x else g j
theorem updI_hit {g : Nat → Int32} {i : Nat} {x : Int32} : updI g i x i = x := if_pos rfl
theorem updI_miss {g : Nat → Int32} {i j : Nat} {x : Int32} (q : j ≠ i) : updI g i x j = g j := if_neg q
theorem AF.setI {a : Addr} {ty : FieldType} {n i : Nat} {x : Int32} {g : Nat → Int32} {h' : Heap} (A : AF Z h a ty n (fun j => .int (g j))) (W : Wr h h' a i (.int x)) : AF Z h' a ty n (fun j => .int (updI g i x j)) := (A.set W).congr fun j _ => by by_cases q : j = i <;> simp [upd, updI, q]
def updD (g : Nat → UInt64) (i : Nat) (x : UInt64) : Nat → UInt64 := fun j => if j = i then x else g j
theorem AF.setD {a : Addr} {ty : FieldType} {n i : Nat} {x : UInt64} {g : Nat → UInt64} {h' : Heap} (A : AF Z h a ty n (fun j => .double (g j))) (W : Wr h h' a i (.double x)) : AF Z h' a ty n (fun j => .double (updD g i x j)) := (A.set W).congr fun j _ => by by_cases q : j = i <;> simp [upd, updD, q]
def updJ (g : Nat → Int64) (i : Nat) (x : Int64) : Nat → Int64 := fun j => if j = i then x else g j
theorem updJ_hit {g : Nat → Int64} {i : Nat} {x : Int64} : updJ g i x i = x := if_pos rfl
theorem updJ_miss {g : Nat → Int64} {i j : Nat} {x : Int64} (q : j ≠ i) : updJ g i x j = g j := if_neg q
theorem AF.setJ {a : Addr} {ty : FieldType} {n i : Nat} {x : Int64} {g : Nat → Int64} {h' : Heap} (A : AF Z h a ty n (fun j => .long (g j))) (W : Wr h h' a i (.long x)) : AF Z h' a ty n (fun j => .long (updJ g i x j)) := (A.set W).congr fun j _ => by by_cases q : j = i <;> simp [upd, updJ, q]
theorem Cx.more {cells' slots' : Nat} (X : Cx p l e R s m args below meth c Z bytes ml own ret mname n0 T h cells slots) (h1 : cells ≤ cells') (h2 : slots ≤ slots') : Cx p l e R s m args below meth c Z bytes ml own ret mname n0 T h cells' slots' := by obtain ⟨⟨locs, X, N⟩, r⟩ := X; exact ⟨⟨locs, X.more h1 h2, N⟩, r⟩
def OV (Z : State) (ad : String) (ty : FieldType) (C : String) : Prop := ∃ cA, Z.vm.findClass ad = some cA ∧ OvrA Z cA ty C
theorem r_anewarrayA (pc' : Nat) (X : Cx p l e R s m args below meth c Z bytes ml own ret mname n0 T h cells slots) {a0 : Array Value} {ty : FieldType} {z : Int32} (n cap : Nat) (C ad : String) {index : Nat} (hC : (FieldType.array ty).toString = C) (had : "[" ++ C = ad) (w1 : (Jvm.Cond.classLink own index C).before a0 Z = true) (w2 : (Jvm.Cond.arrayOver (.array ty)).before a0 Z = true) (hd : decode bytes pc = .ok (.anewarray index, 3)) (hz : z.toInt = (n : Int)) (hcap : n ≤ cap) (hb8 : cap * 8 ≤ 536870912) (hc : cells + 1 ≤ R.cells) (hl : slots + cap ≤ R.slots) (r : ∀ T' h' b, b = h.size → n0 ≤ b → Ext h h' → Exa Z h' b ad → OV Z ad ty C → AF Z h' b (.array ty) n (fun _ => .null) → Cx p l e R s m args below meth c Z bytes ml own ret mname n0 T' h' (cells + 1) (slots + cap) → Run p e below m K T' pc' L (.ref b :: st)) (q : pc + 3 = pc' := by rfl) : Run p e below m K T pc L (.int z :: st) := by
  obtain ⟨⟨locs, X, N⟩, e0, hx, hby, hml, hZ, hown, hret, hnm, hlk, hsz⟩ := X
  subst q
  have hz0 : ¬ z < 0 := by rw [Int32.lt_iff_toInt_lt]; have : (0 : Int32).toInt = 0 := rfl; omega
  have hzn : z.toNatClampNeg = n := by show z.toInt.toNat = n; omega
  have hzl := z.toInt_lt
  obtain ⟨T', h', cA, X', e', E', A', Ex', O', stp⟩ := newRA X hx hZ hown hC w1 w2 e0 (g := mkF m pc L (.int z :: st)) rfl (hb hby hd) rfl hz0 (cap := cap) (by rw [hzn]; exact hcap) hb8 hc hl had
  refine Run.of stp (r T' h' h.size rfl hsz E' Ex' ⟨cA, ?_, O'⟩ ⟨_, A', by rw [sz_new, hzn], by omega, fun j hj => ?_⟩ ⟨⟨_, X', N⟩, e', hx, hby, hml, hZ, hown, hret, hnm, hlk, Nat.le_trans hsz E'.1⟩)
  · obtain ⟨cell, k, q1, q2, -⟩ := Ex'
    have q3 := A'.1
    rw [q3] at q1
    cases q1
    exact q2
  · simp [newA, hzn, hj, defaultValue]
theorem r_aastoreA (pc' : Nat) (X : Cx p l e R s m args below meth c Z bytes ml own ret mname n0 T h cells slots) {a y : Addr} {ty : FieldType} {C ad : String} {n : Nat} {f : Nat → Value} (A : AF Z h a (.array ty) n f) (E : Exa Z h a ad) (O : OV Z ad ty C) (Ey : Exa Z h y C) {j : Int32} {i : Nat} (hj : j.toInt = (i : Int)) (hi : i < n) (ga : n0 ≤ a) (hd : decode bytes pc = .ok (.aastore, 1)) (r : ∀ T' h', Wr h h' a i (.ref y) → Cx p l e R s m args below meth c Z bytes ml own ret mname n0 T' h' cells slots → Run p e below m K T' pc' L st) (q : pc + 1 = pc' := by rfl) : Run p e below m K T pc L (.ref y :: .int j :: .ref a :: st) := by
  obtain ⟨⟨locs, X, N⟩, e0, hx, hby, hml, hZ, hown, hret, hnm, hlk, hsz⟩ := X
  subst q
  obtain ⟨cl, A, S, -, H⟩ := A
  obtain ⟨h1, h2⟩ := idx_of hj (S ▸ hi)
  obtain ⟨cA, o1, O⟩ := O
  have ec : cl.cls = cA := by
    obtain ⟨cell, k, q1, q2, -⟩ := E
    rw [A.1] at q1
    cases q1
    rw [o1] at q2
    cases q2
    rfl
  obtain ⟨T', h', X', e', W', stp⟩ := stR X hx hZ e0 A (j := j) h1 rfl (Sto.ofVA A ec O (Ins.self Ey)) (g := mkF m pc L (.ref y :: .int j :: .ref a :: st)) rfl rfl (hb hby hd)
  exact Run.of stp (r T' h' (h2 ▸ W') ⟨⟨_, X', Fr.snoc X' N ga⟩, e', hx, hby, hml, hZ, hown, hret, hnm, hlk, by rw [W'.size]; exact hsz⟩)
end Own
theorem pd_0 : parseMethodDescriptor "(JJ)Z" = some ⟨[.long, .long], some .boolean⟩ := by decide +kernel
theorem pd_1 : parseMethodDescriptor "(II)I" = some ⟨[.int, .int], some .int⟩ := by decide +kernel
theorem pd_2 : parseMethodDescriptor "(I)I" = some ⟨[.int], some .int⟩ := by decide +kernel
theorem pd_3 : parseMethodDescriptor "([JJ)V" = some ⟨[(.array .long), .long], none⟩ := by decide +kernel
theorem pd_4 : parseMethodDescriptor "(JJ)J" = some ⟨[.long, .long], some .long⟩ := by decide +kernel
theorem pd_5 : parseMethodDescriptor "(IIIJJJ)J" = some ⟨[.int, .int, .int, .long, .long, .long], some .long⟩ := by decide +kernel
theorem pd_6 : parseMethodDescriptor "([J)V" = some ⟨[(.array .long)], none⟩ := by decide +kernel
theorem pd_7 : parseMethodDescriptor "(J)I" = some ⟨[.long], some .int⟩ := by decide +kernel
theorem own_x63 (n : Nat) (h : n < 18446744073709551616) : n ^^^ 9223372036854775808 = if n < 9223372036854775808 then n + 9223372036854775808 else n - 9223372036854775808 := by
  have h1 : (n ^^^ 9223372036854775808) / 9223372036854775808 = n / 9223372036854775808 ^^^ 1 := by
    have := Nat.xor_div_two_pow (a := n) (b := 9223372036854775808) (n := 63)
    simpa using this
  have h2 : (n ^^^ 9223372036854775808) % 9223372036854775808 = n % 9223372036854775808 := by
    have := Nat.xor_mod_two_pow (a := n) (b := 9223372036854775808) (n := 63)
    simpa using this
  by_cases q : n < 9223372036854775808
  · rw [if_pos q]
    have e : n / 9223372036854775808 = 0 := by omega
    rw [e] at h1
    have : (0 : Nat) ^^^ 1 = 1 := by decide
    omega
  · rw [if_neg q]
    have e : n / 9223372036854775808 = 1 := by omega
    rw [e] at h1
    have : (1 : Nat) ^^^ 1 = 0 := by decide
    omega
theorem own_sx (x : Int64) : (x ^^^ (-9223372036854775808 : Int64)).toInt = if 0 ≤ x.toInt then x.toInt - 9223372036854775808 else x.toInt + 9223372036854775808 := by
  have e : (x ^^^ (-9223372036854775808 : Int64)).toInt = (x.toBitVec ^^^ (-9223372036854775808 : Int64).toBitVec).toInt := rfl
  have e2 : (x.toBitVec ^^^ (-9223372036854775808 : Int64).toBitVec).toNat = x.toBitVec.toNat ^^^ 9223372036854775808 := by rw [BitVec.toNat_xor]; rfl
  have e3 : x.toInt = x.toBitVec.toInt := rfl
  have hl := x.toBitVec.isLt
  rw [e, e3, BitVec.toInt_eq_toNat_cond, BitVec.toInt_eq_toNat_cond, e2, own_x63 _ hl]
  split <;> split <;> split <;> omega
def ulP (x y : Int64) : Prop := (x ^^^ (-9223372036854775808 : Int64)) < (y ^^^ (-9223372036854775808 : Int64))
instance (x y : Int64) : Decidable (ulP x y) := by unfold ulP; infer_instance
theorem own_ul (x y : Int64) : ulP x y ↔ (0 ≤ x.toInt ∧ y.toInt < 0) ∨ (0 ≤ x.toInt ∧ 0 ≤ y.toInt ∧ x.toInt < y.toInt) ∨ (x.toInt < 0 ∧ y.toInt < 0 ∧ x.toInt < y.toInt) := by
  unfold ulP
  rw [Int64.lt_iff_toInt_lt, own_sx, own_sx]
  have := x.toInt_lt
  have := y.toInt_lt
  have := x.le_toInt
  have := y.le_toInt
  split <;> split <;> omega
def mxU (x y : Int64) : Int64 := if ulP x y then y else x
theorem own_mxU (x y : Int64) : (x ^^^ (-9223372036854775808 : Int64)).toInt ≤ (mxU x y ^^^ (-9223372036854775808 : Int64)).toInt := by
  unfold mxU
  split
  · rename_i q; unfold ulP at q; rw [Int64.lt_iff_toInt_lt] at q; omega
  · exact Int.le_refl _
def mxI (x y : Int32) : Int32 := if x < y then y else x
def pkV (i c0 c1 : Int32) (u0 u1 u2 : Int64) : Int64 := if i < c0 then u0 else if i < c1 then u1 else u2
def KF (c0 c1 : Int32) (u0 u1 u2 : Int64) (j : Nat) : Int64 := pkV (Int32.ofNat j) c0 c1 u0 u1 u2
def flN (x : Int64) (g : Nat → Int64) (k j : Nat) : Int64 := if j < k then x else g j
theorem flN_step (x : Int64) (g : Nat → Int64) (k j : Nat) : updJ (flN x g k) k x j = flN x g (k + 1) j := by
  unfold updJ flN
  by_cases q : j = k
  · rw [if_pos q, if_pos (by omega)]
  · rw [if_neg q]
    by_cases q2 : j < k
    · rw [if_pos q2, if_pos (by omega)]
    · rw [if_neg q2, if_neg (by omega)]
def cntL (g : Nat → Int64) (q : Int64) (s : Nat) : Nat → Nat
  | 0 => 0
  | k + 1 => cntL g q s k + (if g (s + k) < q then 1 else 0)
theorem cntL_le (g : Nat → Int64) (q : Int64) (s : Nat) : ∀ k, cntL g q s k ≤ k
  | 0 => Nat.le_refl _
  | k + 1 => by have := cntL_le g q s k; unfold cntL; split <;> omega
theorem own_cntL {g : Nat → Int64} {q : Int64} {s m N : Nat} (H : ∀ j, j < N → (g j < q ↔ j < m)) : ∀ k, s + k ≤ N → cntL g q s k = min k (m - s)
  | 0, _ => by unfold cntL; omega
  | k + 1, h => by
    have h1 := own_cntL (s := s) H k (by omega)
    have h2 := H (s + k) (by omega)
    unfold cntL
    by_cases z : g (s + k) < q
    · have := h2.mp z; rw [if_pos z]; omega
    · have : ¬ s + k < m := fun y => z (h2.mpr y)
      rw [if_neg z]; omega
theorem cntL_succ (g : Nat → Int64) (q : Int64) (s k : Nat) : cntL g q s (k + 1) = cntL g q s k + (if g (s + k) < q then 1 else 0) := rfl
theorem own_cntS {g : Nat → Int64} {q : Int64} {s k : Nat} {ci : Int32} (hc : ci.toInt = (cntL g q s k : Int)) (hk : k < 8) : (ci + b2i (g (s + k) < q)).toInt = (cntL g q s (k + 1) : Int) := by
  have hle := cntL_le g q s k
  by_cases z : g (s + k) < q
  · have e := addI hc (show (b2i (g (s + k) < q)).toInt = 1 by rw [b2i_t z]; rfl) (by omega) (by omega)
    rw [e, cntL_succ, if_pos z]; omega
  · have e := addI hc (show (b2i (g (s + k) < q)).toInt = 0 by rw [b2i_f z]; rfl) (by omega) (by omega)
    rw [e, cntL_succ, if_neg z]; omega
theorem own_mul8 {x : Int32} {a : Int} (hx : x.toInt = a) (h0 : 0 ≤ a) (h1 : a < 1000) : (x * (8 : Int32)).toInt = a * 8 := by
  rw [Int32.toInt_mul, hx]
  have : (8 : Int32).toInt = 8 := rfl
  rw [this]
  exact Int.bmod_eq_of_le (by omega) (by omega)
def pad0 (f : Nat → Int64) (n j : Nat) : Int64 := if j < n then f j ^^^ (-9223372036854775808 : Int64) else (9223372036854775807 : Int64)
def pad1 (g : Nat → Int64) (G j : Nat) : Int64 := if j < G then g (j * 8) else (9223372036854775807 : Int64)
/-- how many of the n keys are below q -/
def mcnt (n c0 c1 : Nat) (u0 u1 u2 q : Int64) : Nat := if ulP u2 q ∧ c1 < n then n else if ulP u1 q ∧ c0 < c1 then c1 else if ulP u0 q ∧ 0 < c0 then c0 else 0
theorem own_max (q : Int64) : ¬ (9223372036854775807 : Int64) < q := by
  rw [Int64.lt_iff_toInt_lt]; have := q.toInt_lt; have e : (9223372036854775807 : Int64).toInt = 9223372036854775807 := rfl; omega
theorem own_m {n a b : Nat} {c0 c1 : Int32} {u0 u1 u2 q : Int64} (h0 : c0.toInt = (a : Int)) (h1 : c1.toInt = (b : Int)) (hab : a ≤ b) (hbn : b ≤ n) (hn : n ≤ 17)
    (k1 : (u0 ^^^ (-9223372036854775808 : Int64)).toInt ≤ (u1 ^^^ (-9223372036854775808 : Int64)).toInt) (k2 : (u1 ^^^ (-9223372036854775808 : Int64)).toInt ≤ (u2 ^^^ (-9223372036854775808 : Int64)).toInt) :
    mcnt n a b u0 u1 u2 q ≤ n ∧ ∀ j, pad0 (KF c0 c1 u0 u1 u2) n j < (q ^^^ (-9223372036854775808 : Int64)) ↔ j < mcnt n a b u0 u1 u2 q := by
  constructor
  · unfold mcnt; split; omega; split; omega; split <;> omega
  · intro j
    unfold pad0
    by_cases hj : j < n
    · rw [if_pos hj]
      have ej : (Int32.ofNat j).toInt = (j : Int) := natI j (by omega)
      have l0 := ltI ej h0
      have l1 := ltI ej h1
      have U0 : ulP u0 q ↔ (u0 ^^^ (-9223372036854775808 : Int64)).toInt < (q ^^^ (-9223372036854775808 : Int64)).toInt := by unfold ulP; rw [Int64.lt_iff_toInt_lt]
      have U1 : ulP u1 q ↔ (u1 ^^^ (-9223372036854775808 : Int64)).toInt < (q ^^^ (-9223372036854775808 : Int64)).toInt := by unfold ulP; rw [Int64.lt_iff_toInt_lt]
      have U2 : ulP u2 q ↔ (u2 ^^^ (-9223372036854775808 : Int64)).toInt < (q ^^^ (-9223372036854775808 : Int64)).toInt := by unfold ulP; rw [Int64.lt_iff_toInt_lt]
      rw [Int64.lt_iff_toInt_lt]
      unfold KF pkV mcnt
      simp only [U0, U1, U2]
      by_cases q0 : Int32.ofNat j < c0
      · rw [if_pos q0]; rw [l0] at q0
        (repeat' split) <;> omega
      · rw [if_neg q0]; rw [l0] at q0
        by_cases q1 : Int32.ofNat j < c1
        · rw [if_pos q1]; rw [l1] at q1
          (repeat' split) <;> omega
        · rw [if_neg q1]; rw [l1] at q1
          (repeat' split) <;> omega
    · rw [if_neg hj]
      have : ¬ j < mcnt n a b u0 u1 u2 q := by unfold mcnt; split; omega; split; omega; split <;> omega
      exact ⟨fun z => absurd z (own_max _), fun z => absurd z this⟩
theorem own_m1 {g : Nat → Int64} {q : Int64} {m G : Nat} (hm : m ≤ 8 * G) (H : ∀ j, g j < q ↔ j < m) (j : Nat) : pad1 g G j < q ↔ 8 * j < m := by
  unfold pad1
  by_cases h : j < G
  · rw [if_pos h, H]; omega
  · rw [if_neg h]
    exact ⟨fun z => absurd z (own_max _), fun z => by omega⟩

theorem d2_0 : decode method_2_code 0 = .ok (.lload_n 0, 1) := by decide +kernel
theorem d2_1 : decode method_2_code 1 = .ok (.lconst 0, 1) := by decide +kernel
theorem d2_2 : decode method_2_code 2 = .ok (.lcmp, 1) := by decide +kernel
theorem d2_3 : decode method_2_code 3 = .ok (.ifCond .lt 7, 3) := by decide +kernel
theorem d2_6 : decode method_2_code 6 = .ok (.iconst 1, 1) := by decide +kernel
theorem d2_7 : decode method_2_code 7 = .ok (.goto 4, 3) := by decide +kernel
theorem d2_10 : decode method_2_code 10 = .ok (.iconst 0, 1) := by decide +kernel
theorem d2_11 : decode method_2_code 11 = .ok (.lload_n 2, 1) := by decide +kernel
theorem d2_12 : decode method_2_code 12 = .ok (.lconst 0, 1) := by decide +kernel
theorem d2_13 : decode method_2_code 13 = .ok (.lcmp, 1) := by decide +kernel
theorem d2_14 : decode method_2_code 14 = .ok (.ifCond .lt 7, 3) := by decide +kernel
theorem d2_17 : decode method_2_code 17 = .ok (.iconst 1, 1) := by decide +kernel
theorem d2_18 : decode method_2_code 18 = .ok (.goto 4, 3) := by decide +kernel
theorem d2_21 : decode method_2_code 21 = .ok (.iconst 0, 1) := by decide +kernel
theorem d2_22 : decode method_2_code 22 = .ok (.if_icmp .ne 15, 3) := by decide +kernel
theorem d2_25 : decode method_2_code 25 = .ok (.lload_n 0, 1) := by decide +kernel
theorem d2_26 : decode method_2_code 26 = .ok (.lload_n 2, 1) := by decide +kernel
theorem d2_27 : decode method_2_code 27 = .ok (.lcmp, 1) := by decide +kernel
theorem d2_28 : decode method_2_code 28 = .ok (.ifCond .ge 7, 3) := by decide +kernel
theorem d2_31 : decode method_2_code 31 = .ok (.iconst 1, 1) := by decide +kernel
theorem d2_32 : decode method_2_code 32 = .ok (.goto 4, 3) := by decide +kernel
theorem d2_35 : decode method_2_code 35 = .ok (.iconst 0, 1) := by decide +kernel
theorem d2_36 : decode method_2_code 36 = .ok (.ireturn, 1) := by decide +kernel
theorem d2_37 : decode method_2_code 37 = .ok (.lload_n 0, 1) := by decide +kernel
theorem d2_38 : decode method_2_code 38 = .ok (.lconst 0, 1) := by decide +kernel
theorem d2_39 : decode method_2_code 39 = .ok (.lcmp, 1) := by decide +kernel
theorem d2_40 : decode method_2_code 40 = .ok (.ifCond .lt 7, 3) := by decide +kernel
theorem d2_43 : decode method_2_code 43 = .ok (.iconst 1, 1) := by decide +kernel
theorem d2_44 : decode method_2_code 44 = .ok (.goto 4, 3) := by decide +kernel
theorem d2_47 : decode method_2_code 47 = .ok (.iconst 0, 1) := by decide +kernel
theorem d2_48 : decode method_2_code 48 = .ok (.ireturn, 1) := by decide +kernel
theorem pn_2 : plainName "com/example/skiprail/skiprail/index/GroupedKeysBelowPinLaw" = true := by first | (simp [plainName, overriddenIn]; done) | decide +kernel
theorem ef_2 (m : MethodId) (x0 : Int64) (x1 : Int64) : entryFrame m #[(.long x0), (.long x1)] 4 = mkF m 0 #[.val (.long x0), .second, .val (.long x1), .second] [] := by first | (simp [entryFrame, mkF, argsToLocals, Value.category]; done) | rfl
set_option maxRecDepth 65536 in
set_option maxHeartbeats 40000000 in
theorem rmU (l : Launch) (Z : State) (a0 : Array Value) (hw : ∀ d ∈ tables_1, d.before a0 Z = true) (n0 : Nat) (h : Heap) (Z0 : n0 ≤ h.size) (q1 : Int64) (q2 : Int64)  :
    Met1 l Z n0 [] (⟨"com/example/skiprail/skiprail/index/GroupedKeysBelowPinLaw", "ult", "(JJ)Z"⟩ : MethodName) method_2_code 4 (some .boolean) ({ frames := 0, cells := 0, slots := 0, locals := 0 } : Room) #[(.long q1), (.long q2)] h (fun v h' => v = some (.int (b2i (ulP q1 q2))) ∧ h = h') := by
  refine met_of (plainFor_of_name pn_2) Z0 (fun m => ef_2 m q1 q2) ?_
  intro p e s m below meth c T hs0 X
  refine r_lloadN 1 X d2_0 rfl ?_
  refine r_lconst 2 X (0 : Int64) d2_1 rfl ?_
  refine r_lcmp 3 X d2_2 ?_
  by_cases h3_1 : q1 < (0 : Int64)
  · refine r_ifY 10 X d2_3 ((if0 _ _).trans (tlt ((lw_lt _ _).mpr h3_1)).1) ?_
    refine r_iconst 11 X (0 : Int32) d2_10 rfl ?_
    refine r_lloadN 12 X d2_11 rfl ?_
    refine r_lconst 13 X (0 : Int64) d2_12 rfl ?_
    refine r_lcmp 14 X d2_13 ?_
    by_cases h14_2 : q2 < (0 : Int64)
    · refine r_ifY 21 X d2_14 ((if0 _ _).trans (tlt ((lw_lt _ _).mpr h14_2)).1) ?_
      refine r_iconst 22 X (0 : Int32) d2_21 rfl ?_
      refine r_icmpN 25 X d2_22 (teq (by decide)).2 ?_
      refine r_lloadN 26 X d2_25 rfl ?_
      refine r_lloadN 27 X d2_26 rfl ?_
      refine r_lcmp 28 X d2_27 ?_
      by_cases h28_3 : q1 < q2
      · refine r_ifN 31 X d2_28 ((if0 _ _).trans (tlt ((lw_lt _ _).mpr h28_3)).2.1) ?_
        refine r_iconst 32 X (1 : Int32) d2_31 rfl ?_
        refine r_goto 36 X d2_32 ?_
        refine r_retZ (z := (1 : Int32)) X d2_36 rfl (by decide) (by decide) ?_
        exact ⟨congrArg (fun z => some (Value.int z)) (b2i_t (by rw [own_ul]; simp only [Int64.lt_iff_toInt_lt] at h3_1 h14_2 h28_3; have z0 : (0 : Int64).toInt = 0 := rfl; omega)).symm, rfl⟩
      · refine r_ifY 35 X d2_28 ((if0 _ _).trans (flt (fun q => h28_3 ((lw_lt _ _).mp q))).2.1) ?_
        refine r_iconst 36 X (0 : Int32) d2_35 rfl ?_
        refine r_retZ (z := (0 : Int32)) X d2_36 rfl (by decide) (by decide) ?_
        exact ⟨congrArg (fun z => some (Value.int z)) (b2i_f (by rw [own_ul]; simp only [Int64.lt_iff_toInt_lt] at h3_1 h14_2 h28_3; have z0 : (0 : Int64).toInt = 0 := rfl; omega)).symm, rfl⟩
    · refine r_ifN 17 X d2_14 ((if0 _ _).trans (flt (fun q => h14_2 ((lw_lt _ _).mp q))).1) ?_
      refine r_iconst 18 X (1 : Int32) d2_17 rfl ?_
      refine r_goto 22 X d2_18 ?_
      refine r_icmpY 37 X d2_22 (feq (by decide)).2 ?_
      refine r_lloadN 38 X d2_37 rfl ?_
      refine r_lconst 39 X (0 : Int64) d2_38 rfl ?_
      refine r_lcmp 40 X d2_39 ?_
      refine r_ifY 47 X d2_40 ((if0 _ _).trans (tlt ((lw_lt _ _).mpr h3_1)).1) ?_
      refine r_iconst 48 X (0 : Int32) d2_47 rfl ?_
      refine r_retZ (z := (0 : Int32)) X d2_48 rfl (by decide) (by decide) ?_
      exact ⟨congrArg (fun z => some (Value.int z)) (b2i_f (by rw [own_ul]; simp only [Int64.lt_iff_toInt_lt] at h3_1 h14_2; have z0 : (0 : Int64).toInt = 0 := rfl; omega)).symm, rfl⟩
  · refine r_ifN 6 X d2_3 ((if0 _ _).trans (flt (fun q => h3_1 ((lw_lt _ _).mp q))).1) ?_
    refine r_iconst 7 X (1 : Int32) d2_6 rfl ?_
    refine r_goto 11 X d2_7 ?_
    refine r_lloadN 12 X d2_11 rfl ?_
    refine r_lconst 13 X (0 : Int64) d2_12 rfl ?_
    refine r_lcmp 14 X d2_13 ?_
    by_cases h14_4 : q2 < (0 : Int64)
    · refine r_ifY 21 X d2_14 ((if0 _ _).trans (tlt ((lw_lt _ _).mpr h14_4)).1) ?_
      refine r_iconst 22 X (0 : Int32) d2_21 rfl ?_
      refine r_icmpY 37 X d2_22 (feq (by decide)).2 ?_
      refine r_lloadN 38 X d2_37 rfl ?_
      refine r_lconst 39 X (0 : Int64) d2_38 rfl ?_
      refine r_lcmp 40 X d2_39 ?_
      refine r_ifN 43 X d2_40 ((if0 _ _).trans (flt (fun q => h3_1 ((lw_lt _ _).mp q))).1) ?_
      refine r_iconst 44 X (1 : Int32) d2_43 rfl ?_
      refine r_goto 48 X d2_44 ?_
      refine r_retZ (z := (1 : Int32)) X d2_48 rfl (by decide) (by decide) ?_
      exact ⟨congrArg (fun z => some (Value.int z)) (b2i_t (by rw [own_ul]; simp only [Int64.lt_iff_toInt_lt] at h3_1 h14_4; have z0 : (0 : Int64).toInt = 0 := rfl; omega)).symm, rfl⟩
    · refine r_ifN 17 X d2_14 ((if0 _ _).trans (flt (fun q => h14_4 ((lw_lt _ _).mp q))).1) ?_
      refine r_iconst 18 X (1 : Int32) d2_17 rfl ?_
      refine r_goto 22 X d2_18 ?_
      refine r_icmpN 25 X d2_22 (teq (by decide)).2 ?_
      refine r_lloadN 26 X d2_25 rfl ?_
      refine r_lloadN 27 X d2_26 rfl ?_
      refine r_lcmp 28 X d2_27 ?_
      by_cases h28_5 : q1 < q2
      · refine r_ifN 31 X d2_28 ((if0 _ _).trans (tlt ((lw_lt _ _).mpr h28_5)).2.1) ?_
        refine r_iconst 32 X (1 : Int32) d2_31 rfl ?_
        refine r_goto 36 X d2_32 ?_
        refine r_retZ (z := (1 : Int32)) X d2_36 rfl (by decide) (by decide) ?_
        exact ⟨congrArg (fun z => some (Value.int z)) (b2i_t (by rw [own_ul]; simp only [Int64.lt_iff_toInt_lt] at h3_1 h14_4 h28_5; have z0 : (0 : Int64).toInt = 0 := rfl; omega)).symm, rfl⟩
      · refine r_ifY 35 X d2_28 ((if0 _ _).trans (flt (fun q => h28_5 ((lw_lt _ _).mp q))).2.1) ?_
        refine r_iconst 36 X (0 : Int32) d2_35 rfl ?_
        refine r_retZ (z := (0 : Int32)) X d2_36 rfl (by decide) (by decide) ?_
        exact ⟨congrArg (fun z => some (Value.int z)) (b2i_f (by rw [own_ul]; simp only [Int64.lt_iff_toInt_lt] at h3_1 h14_4 h28_5; have z0 : (0 : Int64).toInt = 0 := rfl; omega)).symm, rfl⟩
theorem d1_0 : decode method_3_code 0 = .ok (.lload_n 0, 1) := by decide +kernel
theorem d1_1 : decode method_3_code 1 = .ok (.lload_n 2, 1) := by decide +kernel
theorem d1_2 : decode method_3_code 2 = .ok (.invokestatic 7, 3) := by decide +kernel
theorem d1_5 : decode method_3_code 5 = .ok (.ifCond .eq 7, 3) := by decide +kernel
theorem d1_8 : decode method_3_code 8 = .ok (.lload_n 2, 1) := by decide +kernel
theorem d1_9 : decode method_3_code 9 = .ok (.goto 4, 3) := by decide +kernel
theorem d1_12 : decode method_3_code 12 = .ok (.lload_n 0, 1) := by decide +kernel
theorem d1_13 : decode method_3_code 13 = .ok (.lreturn, 1) := by decide +kernel
theorem pn_1 : plainName "com/example/skiprail/skiprail/index/GroupedKeysBelowPinLaw" = true := by first | (simp [plainName, overriddenIn]; done) | decide +kernel
theorem ef_1 (m : MethodId) (x0 : Int64) (x1 : Int64) : entryFrame m #[(.long x0), (.long x1)] 4 = mkF m 0 #[.val (.long x0), .second, .val (.long x1), .second] [] := by first | (simp [entryFrame, mkF, argsToLocals, Value.category]; done) | rfl
set_option maxRecDepth 65536 in
set_option maxHeartbeats 40000000 in
theorem rmMU (l : Launch) (Z : State) (a0 : Array Value) (hw : ∀ d ∈ tables_1, d.before a0 Z = true) (n0 : Nat) (h : Heap) (Z0 : n0 ≤ h.size) (q1 : Int64) (q2 : Int64)  :
    Met1 l Z n0 [] (⟨"com/example/skiprail/skiprail/index/GroupedKeysBelowPinLaw", "maxu", "(JJ)J"⟩ : MethodName) method_3_code 4 (some .long) ({ frames := 1, cells := 0, slots := 0, locals := 15 } : Room) #[(.long q1), (.long q2)] h (fun v h' => v = some (.long (mxU q1 q2)) ∧ h = h') := by
  refine met_of (plainFor_of_name pn_1) Z0 (fun m => ef_1 m q1 q2) ?_
  intro p e s m below meth c T hs0 X
  refine r_lloadN 1 X d1_0 rfl ?_
  refine r_lloadN 2 X d1_1 rfl ?_
  refine r_callS 5 X (st := []) (rmU l Z a0 hw n0 _ X.sz q1 q2) (hw _ (List.mem_of_getElem? (i := 5) rfl)) (hw _ (List.mem_of_getElem? (i := 6) rfl)) (hw _ (List.mem_of_getElem? (i := 7) rfl)) (hw _ (List.mem_of_getElem? (i := 3) rfl)) (by decide) pd_0 [(.long q1), (.long q2)] rfl rfl 0 (Nat.le_of_eq rfl) rfl (by decide) (by decide) (by decide) (by decide) d1_2 ?_
  rintro T h1 v1 ⟨rfl, rfl⟩ X
  change Run _ _ _ _ _ _ _ _ [(.int (b2i (ulP q1 q2)))]
  by_cases h5_2 : ulP q1 q2
  · refine r_ifN 8 X d1_5 ((if0 _ _).trans (feq (b2i_ne0 h5_2)).1) ?_
    refine r_lloadN 9 X d1_8 rfl ?_
    refine r_goto 13 X d1_9 ?_
    refine r_retJ X d1_13 (by decide) (by decide) ?_
    exact ⟨by simp only [mxU, h5_2, if_true, if_false], rfl⟩
  · refine r_ifY 12 X d1_5 ((if0 _ _).trans (teq (b2i_eq0 h5_2)).1) ?_
    refine r_lloadN 13 X d1_12 rfl ?_
    refine r_retJ X d1_13 (by decide) (by decide) ?_
    exact ⟨by simp only [mxU, h5_2, if_true, if_false], rfl⟩
theorem d3_0 : decode method_4_code 0 = .ok (.iload_n 0, 1) := by decide +kernel
theorem d3_1 : decode method_4_code 1 = .ok (.iload_n 1, 1) := by decide +kernel
theorem d3_2 : decode method_4_code 2 = .ok (.if_icmp .ge 5, 3) := by decide +kernel
theorem d3_5 : decode method_4_code 5 = .ok (.lload_n 3, 1) := by decide +kernel
theorem d3_6 : decode method_4_code 6 = .ok (.lreturn, 1) := by decide +kernel
theorem d3_7 : decode method_4_code 7 = .ok (.iload_n 0, 1) := by decide +kernel
theorem d3_8 : decode method_4_code 8 = .ok (.iload_n 2, 1) := by decide +kernel
theorem d3_9 : decode method_4_code 9 = .ok (.if_icmp .ge 6, 3) := by decide +kernel
theorem d3_12 : decode method_4_code 12 = .ok (.lload 5, 2) := by decide +kernel
theorem d3_14 : decode method_4_code 14 = .ok (.lreturn, 1) := by decide +kernel
theorem d3_15 : decode method_4_code 15 = .ok (.lload 7, 2) := by decide +kernel
theorem d3_17 : decode method_4_code 17 = .ok (.lreturn, 1) := by decide +kernel
theorem pn_3 : plainName "com/example/skiprail/skiprail/index/GroupedKeysBelowPinLaw" = true := by first | (simp [plainName, overriddenIn]; done) | decide +kernel
theorem ef_3 (m : MethodId) (x0 : Int32) (x1 : Int32) (x2 : Int32) (x3 : Int64) (x4 : Int64) (x5 : Int64) : entryFrame m #[(.int x0), (.int x1), (.int x2), (.long x3), (.long x4), (.long x5)] 9 = mkF m 0 #[.val (.int x0), .val (.int x1), .val (.int x2), .val (.long x3), .second, .val (.long x4), .second, .val (.long x5), .second] [] := by first | (simp [entryFrame, mkF, argsToLocals, Value.category]; done) | rfl
set_option maxRecDepth 65536 in
set_option maxHeartbeats 40000000 in
theorem rmPk (l : Launch) (Z : State) (a0 : Array Value) (hw : ∀ d ∈ tables_1, d.before a0 Z = true) (n0 : Nat) (h : Heap) (Z0 : n0 ≤ h.size) (i : Int32) (ca : Int32) (cb : Int32) (u0 : Int64) (u1 : Int64) (u2 : Int64)  :
    Met1 l Z n0 [] (⟨"com/example/skiprail/skiprail/index/GroupedKeysBelowPinLaw", "pick", "(IIIJJJ)J"⟩ : MethodName) method_4_code 9 (some .long) ({ frames := 0, cells := 0, slots := 0, locals := 0 } : Room) #[(.int i), (.int ca), (.int cb), (.long u0), (.long u1), (.long u2)] h (fun v h' => v = some (.long (pkV i ca cb u0 u1 u2)) ∧ h = h') := by
  refine met_of (plainFor_of_name pn_3) Z0 (fun m => ef_3 m i ca cb u0 u1 u2) ?_
  intro p e s m below meth c T hs0 X
  refine r_iloadN 1 X d3_0 rfl ?_
  refine r_iloadN 2 X d3_1 rfl ?_
  by_cases h2_1 : i < ca
  · refine r_icmpN 5 X d3_2 (tlt h2_1).2.1 ?_
    refine r_lloadN 6 X d3_5 rfl ?_
    refine r_retJ X d3_6 (by decide) (by decide) ?_
    exact ⟨by simp only [pkV, h2_1, if_true, if_false], rfl⟩
  · refine r_icmpY 7 X d3_2 (flt h2_1).2.1 ?_
    refine r_iloadN 8 X d3_7 rfl ?_
    refine r_iloadN 9 X d3_8 rfl ?_
    by_cases h9_2 : i < cb
    · refine r_icmpN 12 X d3_9 (tlt h9_2).2.1 ?_
      refine r_lload 14 X d3_12 rfl ?_
      refine r_retJ X d3_14 (by decide) (by decide) ?_
      exact ⟨by simp only [pkV, h2_1, h9_2, if_true, if_false], rfl⟩
    · refine r_icmpY 15 X d3_9 (flt h9_2).2.1 ?_
      refine r_lload 17 X d3_15 rfl ?_
      refine r_retJ X d3_17 (by decide) (by decide) ?_
      exact ⟨by simp only [pkV, h2_1, h9_2, if_true, if_false], rfl⟩
theorem d7_0 : decode jdk_29_method_65_code 0 = .ok (.iload_n 0, 1) := by decide +kernel
theorem d7_1 : decode jdk_29_method_65_code 1 = .ok (.iload_n 1, 1) := by decide +kernel
theorem d7_2 : decode jdk_29_method_65_code 2 = .ok (.if_icmp .lt 7, 3) := by decide +kernel
theorem d7_5 : decode jdk_29_method_65_code 5 = .ok (.iload_n 0, 1) := by decide +kernel
theorem d7_6 : decode jdk_29_method_65_code 6 = .ok (.goto 4, 3) := by decide +kernel
theorem d7_9 : decode jdk_29_method_65_code 9 = .ok (.iload_n 1, 1) := by decide +kernel
theorem d7_10 : decode jdk_29_method_65_code 10 = .ok (.ireturn, 1) := by decide +kernel
theorem ef_7 (m : MethodId) (x0 : Int32) (x1 : Int32) : entryFrame m #[(.int x0), (.int x1)] 2 = mkF m 0 #[.val (.int x0), .val (.int x1)] [] := by first | (simp [entryFrame, mkF, argsToLocals, Value.category]; done) | rfl
set_option maxRecDepth 65536 in
set_option maxHeartbeats 40000000 in
theorem rmMx (l : Launch) (Z : State) (a0 : Array Value) (hw : ∀ d ∈ tables_1, d.before a0 Z = true) (n0 : Nat) (h : Heap) (Z0 : n0 ≤ h.size) (i : Int32) (j : Int32)  :
    Met1 l Z n0 [] (⟨"java/lang/Math", "max", "(II)I"⟩ : MethodName) jdk_29_method_65_code 2 (some .int) ({ frames := 0, cells := 0, slots := 0, locals := 0 } : Room) #[(.int i), (.int j)] h (fun v h' => v = some (.int (mxI i j)) ∧ h = h') := by
  refine met_of (Jvm.Free.JP.mathPlain rfl (by decide +kernel)) Z0 (fun m => ef_7 m i j) ?_
  intro p e s m below meth c T hs0 X
  refine r_iloadN 1 X d7_0 rfl ?_
  refine r_iloadN 2 X d7_1 rfl ?_
  by_cases h2_1 : i < j
  · refine r_icmpY 9 X d7_2 (tlt h2_1).1 ?_
    refine r_iloadN 10 X d7_9 rfl ?_
    refine r_retI X d7_10 (by decide) (by decide) ?_
    exact ⟨by simp only [mxI, h2_1, if_true, if_false], rfl⟩
  · refine r_icmpN 5 X d7_2 (flt h2_1).1 ?_
    refine r_iloadN 6 X d7_5 rfl ?_
    refine r_goto 10 X d7_6 ?_
    refine r_retI X d7_10 (by decide) (by decide) ?_
    exact ⟨by simp only [mxI, h2_1, if_true, if_false], rfl⟩
theorem d6_0 : decode prog_24_method_2_code 0 = .ok (.iconst 1, 1) := by decide +kernel
theorem d6_1 : decode prog_24_method_2_code 1 = .ok (.iload_n 0, 1) := by decide +kernel
theorem d6_2 : decode prog_24_method_2_code 2 = .ok (.bipush 8, 2) := by decide +kernel
theorem d6_4 : decode prog_24_method_2_code 4 = .ok (.iadd, 1) := by decide +kernel
theorem d6_5 : decode prog_24_method_2_code 5 = .ok (.iconst 1, 1) := by decide +kernel
theorem d6_6 : decode prog_24_method_2_code 6 = .ok (.isub, 1) := by decide +kernel
theorem d6_7 : decode prog_24_method_2_code 7 = .ok (.bipush 8, 2) := by decide +kernel
theorem d6_9 : decode prog_24_method_2_code 9 = .ok (.idiv, 1) := by decide +kernel
theorem d6_10 : decode prog_24_method_2_code 10 = .ok (.invokestatic 37, 3) := by decide +kernel
theorem d6_13 : decode prog_24_method_2_code 13 = .ok (.ireturn, 1) := by decide +kernel
theorem pn_6 : plainName "com/example/skiprail/skiprail/index/GroupedKeys" = true := by first | (simp [plainName, overriddenIn]; done) | decide +kernel
theorem ef_6 (m : MethodId) (x0 : Int32) : entryFrame m #[(.int x0)] 1 = mkF m 0 #[.val (.int x0)] [] := by first | (simp [entryFrame, mkF, argsToLocals, Value.category]; done) | rfl
set_option maxRecDepth 65536 in
set_option maxHeartbeats 40000000 in
theorem rmG0 (l : Launch) (Z : State) (a0 : Array Value) (hw : ∀ d ∈ tables_1, d.before a0 Z = true) (n0 : Nat) (h : Heap) (Z0 : n0 ≤ h.size)   :
    Met1 l Z n0 [] (⟨"com/example/skiprail/skiprail/index/GroupedKeys", "groups", "(I)I"⟩ : MethodName) prog_24_method_2_code 1 (some .int) ({ frames := 1, cells := 0, slots := 0, locals := 13 } : Room) #[(.int (0 : Int32))] h (fun v h' => v = some (.int 1) ∧ h = h') := by
  refine met_of (plainFor_of_name pn_6) Z0 (fun m => ef_6 m (0 : Int32)) ?_
  intro p e s m below meth c T hs0 X
  refine r_iconst 1 X (1 : Int32) d6_0 rfl ?_
  refine r_iloadN 2 X d6_1 rfl ?_
  refine r_bipush 4 X (8 : Int32) d6_2 rfl ?_
  refine r_iadd 5 X d6_4 ?_
  refine r_topI (x' := (8 : Int32)) (by decide) ?_
  refine r_iconst 6 X (1 : Int32) d6_5 rfl ?_
  refine r_isub 7 X d6_6 ?_
  refine r_topI (x' := (7 : Int32)) (by decide) ?_
  refine r_bipush 9 X (8 : Int32) d6_7 rfl ?_
  refine r_idiv 10 X d6_9 (by decide) ?_
  refine r_topI (x' := (0 : Int32)) (by decide) ?_
  refine r_callS 13 X (st := []) (rmMx l Z a0 hw n0 _ X.sz (1 : Int32) (0 : Int32)) (hw _ (List.mem_of_getElem? (i := 31) rfl)) (hw _ (List.mem_of_getElem? (i := 32) rfl)) (hw _ (List.mem_of_getElem? (i := 34) rfl)) (hw _ (List.mem_of_getElem? (i := 33) rfl)) (by decide) pd_1 [(.int (1 : Int32)), (.int (0 : Int32))] rfl rfl 0 (Nat.le_of_eq rfl) rfl (by decide) (by decide) (by decide) (by decide) d6_10 ?_
  rintro T h1 v1 ⟨rfl, rfl⟩ X
  change Run _ _ _ _ _ _ _ _ [(.int (mxI (1 : Int32) (0 : Int32)))]
  refine r_topI (x' := (1 : Int32)) (by decide) ?_
  refine r_retI X d6_13 (by decide) (by decide) ?_
  exact ⟨rfl, rfl⟩
set_option maxRecDepth 65536 in
set_option maxHeartbeats 40000000 in
theorem rmG2 (l : Launch) (Z : State) (a0 : Array Value) (hw : ∀ d ∈ tables_1, d.before a0 Z = true) (n0 : Nat) (h : Heap) (Z0 : n0 ≤ h.size)   :
    Met1 l Z n0 [] (⟨"com/example/skiprail/skiprail/index/GroupedKeys", "groups", "(I)I"⟩ : MethodName) prog_24_method_2_code 1 (some .int) ({ frames := 1, cells := 0, slots := 0, locals := 13 } : Room) #[(.int (2 : Int32))] h (fun v h' => v = some (.int 1) ∧ h = h') := by
  refine met_of (plainFor_of_name pn_6) Z0 (fun m => ef_6 m (2 : Int32)) ?_
  intro p e s m below meth c T hs0 X
  refine r_iconst 1 X (1 : Int32) d6_0 rfl ?_
  refine r_iloadN 2 X d6_1 rfl ?_
  refine r_bipush 4 X (8 : Int32) d6_2 rfl ?_
  refine r_iadd 5 X d6_4 ?_
  refine r_topI (x' := (10 : Int32)) (by decide) ?_
  refine r_iconst 6 X (1 : Int32) d6_5 rfl ?_
  refine r_isub 7 X d6_6 ?_
  refine r_topI (x' := (9 : Int32)) (by decide) ?_
  refine r_bipush 9 X (8 : Int32) d6_7 rfl ?_
  refine r_idiv 10 X d6_9 (by decide) ?_
  refine r_topI (x' := (1 : Int32)) (by decide) ?_
  refine r_callS 13 X (st := []) (rmMx l Z a0 hw n0 _ X.sz (1 : Int32) (1 : Int32)) (hw _ (List.mem_of_getElem? (i := 31) rfl)) (hw _ (List.mem_of_getElem? (i := 32) rfl)) (hw _ (List.mem_of_getElem? (i := 34) rfl)) (hw _ (List.mem_of_getElem? (i := 33) rfl)) (by decide) pd_1 [(.int (1 : Int32)), (.int (1 : Int32))] rfl rfl 0 (Nat.le_of_eq rfl) rfl (by decide) (by decide) (by decide) (by decide) d6_10 ?_
  rintro T h1 v1 ⟨rfl, rfl⟩ X
  change Run _ _ _ _ _ _ _ _ [(.int (mxI (1 : Int32) (1 : Int32)))]
  refine r_topI (x' := (1 : Int32)) (by decide) ?_
  refine r_retI X d6_13 (by decide) (by decide) ?_
  exact ⟨rfl, rfl⟩
set_option maxRecDepth 65536 in
set_option maxHeartbeats 40000000 in
theorem rmG3 (l : Launch) (Z : State) (a0 : Array Value) (hw : ∀ d ∈ tables_1, d.before a0 Z = true) (n0 : Nat) (h : Heap) (Z0 : n0 ≤ h.size)   :
    Met1 l Z n0 [] (⟨"com/example/skiprail/skiprail/index/GroupedKeys", "groups", "(I)I"⟩ : MethodName) prog_24_method_2_code 1 (some .int) ({ frames := 1, cells := 0, slots := 0, locals := 13 } : Room) #[(.int (3 : Int32))] h (fun v h' => v = some (.int 1) ∧ h = h') := by
  refine met_of (plainFor_of_name pn_6) Z0 (fun m => ef_6 m (3 : Int32)) ?_
  intro p e s m below meth c T hs0 X
  refine r_iconst 1 X (1 : Int32) d6_0 rfl ?_
  refine r_iloadN 2 X d6_1 rfl ?_
  refine r_bipush 4 X (8 : Int32) d6_2 rfl ?_
  refine r_iadd 5 X d6_4 ?_
  refine r_topI (x' := (11 : Int32)) (by decide) ?_
  refine r_iconst 6 X (1 : Int32) d6_5 rfl ?_
  refine r_isub 7 X d6_6 ?_
  refine r_topI (x' := (10 : Int32)) (by decide) ?_
  refine r_bipush 9 X (8 : Int32) d6_7 rfl ?_
  refine r_idiv 10 X d6_9 (by decide) ?_
  refine r_topI (x' := (1 : Int32)) (by decide) ?_
  refine r_callS 13 X (st := []) (rmMx l Z a0 hw n0 _ X.sz (1 : Int32) (1 : Int32)) (hw _ (List.mem_of_getElem? (i := 31) rfl)) (hw _ (List.mem_of_getElem? (i := 32) rfl)) (hw _ (List.mem_of_getElem? (i := 34) rfl)) (hw _ (List.mem_of_getElem? (i := 33) rfl)) (by decide) pd_1 [(.int (1 : Int32)), (.int (1 : Int32))] rfl rfl 0 (Nat.le_of_eq rfl) rfl (by decide) (by decide) (by decide) (by decide) d6_10 ?_
  rintro T h1 v1 ⟨rfl, rfl⟩ X
  change Run _ _ _ _ _ _ _ _ [(.int (mxI (1 : Int32) (1 : Int32)))]
  refine r_topI (x' := (1 : Int32)) (by decide) ?_
  refine r_retI X d6_13 (by decide) (by decide) ?_
  exact ⟨rfl, rfl⟩
set_option maxRecDepth 65536 in
set_option maxHeartbeats 40000000 in
theorem rmG8 (l : Launch) (Z : State) (a0 : Array Value) (hw : ∀ d ∈ tables_1, d.before a0 Z = true) (n0 : Nat) (h : Heap) (Z0 : n0 ≤ h.size)   :
    Met1 l Z n0 [] (⟨"com/example/skiprail/skiprail/index/GroupedKeys", "groups", "(I)I"⟩ : MethodName) prog_24_method_2_code 1 (some .int) ({ frames := 1, cells := 0, slots := 0, locals := 13 } : Room) #[(.int (8 : Int32))] h (fun v h' => v = some (.int 1) ∧ h = h') := by
  refine met_of (plainFor_of_name pn_6) Z0 (fun m => ef_6 m (8 : Int32)) ?_
  intro p e s m below meth c T hs0 X
  refine r_iconst 1 X (1 : Int32) d6_0 rfl ?_
  refine r_iloadN 2 X d6_1 rfl ?_
  refine r_bipush 4 X (8 : Int32) d6_2 rfl ?_
  refine r_iadd 5 X d6_4 ?_
  refine r_topI (x' := (16 : Int32)) (by decide) ?_
  refine r_iconst 6 X (1 : Int32) d6_5 rfl ?_
  refine r_isub 7 X d6_6 ?_
  refine r_topI (x' := (15 : Int32)) (by decide) ?_
  refine r_bipush 9 X (8 : Int32) d6_7 rfl ?_
  refine r_idiv 10 X d6_9 (by decide) ?_
  refine r_topI (x' := (1 : Int32)) (by decide) ?_
  refine r_callS 13 X (st := []) (rmMx l Z a0 hw n0 _ X.sz (1 : Int32) (1 : Int32)) (hw _ (List.mem_of_getElem? (i := 31) rfl)) (hw _ (List.mem_of_getElem? (i := 32) rfl)) (hw _ (List.mem_of_getElem? (i := 34) rfl)) (hw _ (List.mem_of_getElem? (i := 33) rfl)) (by decide) pd_1 [(.int (1 : Int32)), (.int (1 : Int32))] rfl rfl 0 (Nat.le_of_eq rfl) rfl (by decide) (by decide) (by decide) (by decide) d6_10 ?_
  rintro T h1 v1 ⟨rfl, rfl⟩ X
  change Run _ _ _ _ _ _ _ _ [(.int (mxI (1 : Int32) (1 : Int32)))]
  refine r_topI (x' := (1 : Int32)) (by decide) ?_
  refine r_retI X d6_13 (by decide) (by decide) ?_
  exact ⟨rfl, rfl⟩
set_option maxRecDepth 65536 in
set_option maxHeartbeats 40000000 in
theorem rmG9 (l : Launch) (Z : State) (a0 : Array Value) (hw : ∀ d ∈ tables_1, d.before a0 Z = true) (n0 : Nat) (h : Heap) (Z0 : n0 ≤ h.size)   :
    Met1 l Z n0 [] (⟨"com/example/skiprail/skiprail/index/GroupedKeys", "groups", "(I)I"⟩ : MethodName) prog_24_method_2_code 1 (some .int) ({ frames := 1, cells := 0, slots := 0, locals := 13 } : Room) #[(.int (9 : Int32))] h (fun v h' => v = some (.int 2) ∧ h = h') := by
  refine met_of (plainFor_of_name pn_6) Z0 (fun m => ef_6 m (9 : Int32)) ?_
  intro p e s m below meth c T hs0 X
  refine r_iconst 1 X (1 : Int32) d6_0 rfl ?_
  refine r_iloadN 2 X d6_1 rfl ?_
  refine r_bipush 4 X (8 : Int32) d6_2 rfl ?_
  refine r_iadd 5 X d6_4 ?_
  refine r_topI (x' := (17 : Int32)) (by decide) ?_
  refine r_iconst 6 X (1 : Int32) d6_5 rfl ?_
  refine r_isub 7 X d6_6 ?_
  refine r_topI (x' := (16 : Int32)) (by decide) ?_
  refine r_bipush 9 X (8 : Int32) d6_7 rfl ?_
  refine r_idiv 10 X d6_9 (by decide) ?_
  refine r_topI (x' := (2 : Int32)) (by decide) ?_
  refine r_callS 13 X (st := []) (rmMx l Z a0 hw n0 _ X.sz (1 : Int32) (2 : Int32)) (hw _ (List.mem_of_getElem? (i := 31) rfl)) (hw _ (List.mem_of_getElem? (i := 32) rfl)) (hw _ (List.mem_of_getElem? (i := 34) rfl)) (hw _ (List.mem_of_getElem? (i := 33) rfl)) (by decide) pd_1 [(.int (1 : Int32)), (.int (2 : Int32))] rfl rfl 0 (Nat.le_of_eq rfl) rfl (by decide) (by decide) (by decide) (by decide) d6_10 ?_
  rintro T h1 v1 ⟨rfl, rfl⟩ X
  change Run _ _ _ _ _ _ _ _ [(.int (mxI (1 : Int32) (2 : Int32)))]
  refine r_topI (x' := (2 : Int32)) (by decide) ?_
  refine r_retI X d6_13 (by decide) (by decide) ?_
  exact ⟨rfl, rfl⟩
set_option maxRecDepth 65536 in
set_option maxHeartbeats 40000000 in
theorem rmG17 (l : Launch) (Z : State) (a0 : Array Value) (hw : ∀ d ∈ tables_1, d.before a0 Z = true) (n0 : Nat) (h : Heap) (Z0 : n0 ≤ h.size)   :
    Met1 l Z n0 [] (⟨"com/example/skiprail/skiprail/index/GroupedKeys", "groups", "(I)I"⟩ : MethodName) prog_24_method_2_code 1 (some .int) ({ frames := 1, cells := 0, slots := 0, locals := 13 } : Room) #[(.int (17 : Int32))] h (fun v h' => v = some (.int 3) ∧ h = h') := by
  refine met_of (plainFor_of_name pn_6) Z0 (fun m => ef_6 m (17 : Int32)) ?_
  intro p e s m below meth c T hs0 X
  refine r_iconst 1 X (1 : Int32) d6_0 rfl ?_
  refine r_iloadN 2 X d6_1 rfl ?_
  refine r_bipush 4 X (8 : Int32) d6_2 rfl ?_
  refine r_iadd 5 X d6_4 ?_
  refine r_topI (x' := (25 : Int32)) (by decide) ?_
  refine r_iconst 6 X (1 : Int32) d6_5 rfl ?_
  refine r_isub 7 X d6_6 ?_
  refine r_topI (x' := (24 : Int32)) (by decide) ?_
  refine r_bipush 9 X (8 : Int32) d6_7 rfl ?_
  refine r_idiv 10 X d6_9 (by decide) ?_
  refine r_topI (x' := (3 : Int32)) (by decide) ?_
  refine r_callS 13 X (st := []) (rmMx l Z a0 hw n0 _ X.sz (1 : Int32) (3 : Int32)) (hw _ (List.mem_of_getElem? (i := 31) rfl)) (hw _ (List.mem_of_getElem? (i := 32) rfl)) (hw _ (List.mem_of_getElem? (i := 34) rfl)) (hw _ (List.mem_of_getElem? (i := 33) rfl)) (by decide) pd_1 [(.int (1 : Int32)), (.int (3 : Int32))] rfl rfl 0 (Nat.le_of_eq rfl) rfl (by decide) (by decide) (by decide) (by decide) d6_10 ?_
  rintro T h1 v1 ⟨rfl, rfl⟩ X
  change Run _ _ _ _ _ _ _ _ [(.int (mxI (1 : Int32) (3 : Int32)))]
  refine r_topI (x' := (3 : Int32)) (by decide) ?_
  refine r_retI X d6_13 (by decide) (by decide) ?_
  exact ⟨rfl, rfl⟩
theorem d8_0 : decode jdk_65_method_101_code 0 = .ok (.iconst 0, 1) := by decide +kernel
theorem d8_1 : decode jdk_65_method_101_code 1 = .ok (.istore_n 3, 1) := by decide +kernel
theorem d8_2 : decode jdk_65_method_101_code 2 = .ok (.aload_n 0, 1) := by decide +kernel
theorem d8_3 : decode jdk_65_method_101_code 3 = .ok (.arraylength, 1) := by decide +kernel
theorem d8_4 : decode jdk_65_method_101_code 4 = .ok (.istore 4, 2) := by decide +kernel
theorem d8_6 : decode jdk_65_method_101_code 6 = .ok (.iload_n 3, 1) := by decide +kernel
theorem d8_7 : decode jdk_65_method_101_code 7 = .ok (.iload 4, 2) := by decide +kernel
theorem d8_9 : decode jdk_65_method_101_code 9 = .ok (.if_icmp .ge 13, 3) := by decide +kernel
theorem d8_12 : decode jdk_65_method_101_code 12 = .ok (.aload_n 0, 1) := by decide +kernel
theorem d8_13 : decode jdk_65_method_101_code 13 = .ok (.iload_n 3, 1) := by decide +kernel
theorem d8_14 : decode jdk_65_method_101_code 14 = .ok (.lload_n 1, 1) := by decide +kernel
theorem d8_15 : decode jdk_65_method_101_code 15 = .ok (.lastore, 1) := by decide +kernel
theorem d8_16 : decode jdk_65_method_101_code 16 = .ok (.iinc 3 1, 3) := by decide +kernel
theorem d8_19 : decode jdk_65_method_101_code 19 = .ok (.goto (-13), 3) := by decide +kernel
theorem d8_22 : decode jdk_65_method_101_code 22 = .ok (.return_, 1) := by decide +kernel
theorem pn_8 : plainName "java/util/Arrays" = true := by first | (simp [plainName, overriddenIn]; done) | decide +kernel
theorem ef_8 (m : MethodId) (x0 : Addr) (x1 : Int64) : entryFrame m #[(.ref x0), (.long x1)] 5 = mkF m 0 #[.val (.ref x0), .val (.long x1), .second, .unset, .unset] [] := by first | (simp [entryFrame, mkF, argsToLocals, Value.category]; done) | rfl
set_option maxRecDepth 65536 in
set_option maxHeartbeats 40000000 in
theorem rmFl (l : Launch) (Z : State) (a0 : Array Value) (hw : ∀ d ∈ tables_1, d.before a0 Z = true) (n0 : Nat) (h : Heap) (Z0 : n0 ≤ h.size) (a1 : Addr) (x1 : Int64) (N : Nat) (zN : Int32) (g : Nat → Int64) (hzN : zN.toInt = (N : Int)) (ga : n0 ≤ a1) (A_a1 : AF Z h a1 .long N (fun j => .long (g j))) :
    Met1 l Z n0 [] (⟨"java/util/Arrays", "fill", "([JJ)V"⟩ : MethodName) jdk_65_method_101_code 5 none ({ frames := 0, cells := 0, slots := 0, locals := 0 } : Room) #[(.ref a1), (.long x1)] h (fun v h' => v = none ∧ Keep h h' [a1] ∧ AF Z h' a1 .long N (fun _ => .long x1)) := by
  refine met_of (plainFor_of_name pn_8) Z0 (fun m => ef_8 m a1 x1) ?_
  intro p e s m below meth c T hs0 X
  have K := Keep.refl h [a1]
  refine r_iconst 1 X (0 : Int32) d8_0 rfl ?_
  refine r_istoreN 2 X #[.val (.ref a1), .val (.long x1), .second, .val (.int (0 : Int32)), .unset] d8_1 rfl ?_
  refine r_aloadN 3 X d8_2 rfl rfl ?_
  refine r_arraylength 4 X A_a1 zN hzN d8_3 ?_
  refine r_istore 6 X #[.val (.ref a1), .val (.long x1), .second, .val (.int (0 : Int32)), .val (.int zN)] d8_4 rfl ?_
  have loop : ∀ (r : Nat) (T : State) (h1 : Heap) (k : Nat) (ki : Int32), k + r = N → ki.toInt = (k : Int) → Keep h h1 [a1] → AF Z h1 a1 .long N (fun j => .long (flN x1 g k j)) → Cx p l e ({ frames := 0, cells := 0, slots := 0, locals := 0 } : Room) s m #[(.ref a1), (.long x1)] below meth c Z jdk_65_method_101_code 5 "java/util/Arrays" none "fill" n0 T h1 0 0 → Run p e below m (Fin1 below s n0 (fun v h' => v = none ∧ Keep h h' [a1] ∧ AF Z h' a1 .long N (fun _ => .long x1)) ({ frames := 0, cells := 0, slots := 0, locals := 0 } : Room).cells ({ frames := 0, cells := 0, slots := 0, locals := 0 } : Room).slots) T 6 #[.val (.ref a1), .val (.long x1), .second, .val (.int ki), .val (.int zN)] [] := by
    intro r
    induction r with
    | zero =>
      intro T h1 k ki hk hi K A_a1 X
      refine r_iloadN 7 X d8_6 rfl ?_
      refine r_iload 9 X d8_7 rfl ?_
      refine r_icmpY 22 X d8_9 (flt (fun z => absurd ((ltI hi hzN).mp z) (by omega))).2.1 ?_
      refine r_retV X d8_22 (by decide) (by decide) ?_
      exact ⟨rfl, K, A_a1.congr fun j hj => congrArg Value.long (if_pos (by omega))⟩
    | succ r ih =>
      intro T h1 k ki hk hi K A_a1 X
      refine r_iloadN 7 X d8_6 rfl ?_
      refine r_iload 9 X d8_7 rfl ?_
      refine r_icmpN 12 X d8_9 (tlt ((ltI hi hzN).mpr (by omega))).2.1 ?_
      refine r_aloadN 13 X d8_12 rfl rfl ?_
      refine r_iloadN 14 X d8_13 rfl ?_
      refine r_lloadN 15 X d8_14 rfl ?_
      refine r_lastore 16 X A_a1 (i := k) (v := (.long x1)) hi (by omega) rfl ga d8_15 ?_
      intro T h1 W1 X
      have K := K.wr W1 (Or.inl (List.mem_of_getElem? (i := 0) rfl))
      have A_a1 := A_a1.setJ W1
      refine r_iinc 19 X (1 : Int32) #[.val (.ref a1), .val (.long x1), .second, .val (.int (ki + (1 : Int32))), .val (.int zN)] d8_16 rfl rfl rfl ?_
      refine r_goto 6 X d8_19 ?_
      exact ih _ _ (k + 1) _ (by omega) (addI hi (y := (1 : Int32)) (b := 1) rfl (by have := A_a1.small; omega) (by have := A_a1.small; omega)) K (A_a1.congr fun j _ => congrArg Value.long (flN_step _ _ _ _)) X
  exact loop N _ _ 0 _ (Nat.zero_add _) rfl K (A_a1.congr fun j _ => congrArg Value.long (if_neg (Nat.not_lt_zero _)).symm) X
def GKs (Z : State) (h : Heap) (a : Addr) (n : Nat) (f : Nat → Int64) : Prop := ∃ lv l0, Fld Z h a "com/example/skiprail/skiprail/index/GroupedKeys" "levels" "[[J" (.ref lv) ∧ ((n ≤ 8 ∧ AF Z h lv (.array .long) 1 (upd (fun _ => .null) 0 (.ref l0)) ∧ AF Z h l0 .long 8 (fun j => .long (pad0 f n j))) ∨ ∃ l1 G, n ≤ 8 * G ∧ G ≤ 8 ∧ AF Z h lv (.array .long) 2 (upd (upd (fun _ => .null) 0 (.ref l0)) 1 (.ref l1)) ∧ AF Z h l0 .long (8 * G) (fun j => .long (pad0 f n j)) ∧ AF Z h l1 .long 8 (fun j => .long (pad1 (pad0 f n) G j)))
theorem d4_0 : decode prog_24_method_1_code 0 = .ok (.aload_n 0, 1) := by decide +kernel
theorem d4_1 : decode prog_24_method_1_code 1 = .ok (.invokespecial 1, 3) := by decide +kernel
theorem d4_4 : decode prog_24_method_1_code 4 = .ok (.aload_n 0, 1) := by decide +kernel
theorem d4_5 : decode prog_24_method_1_code 5 = .ok (.aload_n 1, 1) := by decide +kernel
theorem d4_6 : decode prog_24_method_1_code 6 = .ok (.arraylength, 1) := by decide +kernel
theorem d4_7 : decode prog_24_method_1_code 7 = .ok (.putfield 7, 3) := by decide +kernel
theorem d4_10 : decode prog_24_method_1_code 10 = .ok (.iconst 1, 1) := by decide +kernel
theorem d4_11 : decode prog_24_method_1_code 11 = .ok (.istore_n 2, 1) := by decide +kernel
theorem d4_12 : decode prog_24_method_1_code 12 = .ok (.aload_n 1, 1) := by decide +kernel
theorem d4_13 : decode prog_24_method_1_code 13 = .ok (.arraylength, 1) := by decide +kernel
theorem d4_14 : decode prog_24_method_1_code 14 = .ok (.i2l, 1) := by decide +kernel
theorem d4_15 : decode prog_24_method_1_code 15 = .ok (.lstore_n 3, 1) := by decide +kernel
theorem d4_16 : decode prog_24_method_1_code 16 = .ok (.lload_n 3, 1) := by decide +kernel
theorem d4_17 : decode prog_24_method_1_code 17 = .ok (.ldc2_w 13, 3) := by decide +kernel
theorem d4_20 : decode prog_24_method_1_code 20 = .ok (.lcmp, 1) := by decide +kernel
theorem d4_21 : decode prog_24_method_1_code 21 = .ok (.ifCond .le 21, 3) := by decide +kernel
theorem d4_42 : decode prog_24_method_1_code 42 = .ok (.aload_n 0, 1) := by decide +kernel
theorem d4_43 : decode prog_24_method_1_code 43 = .ok (.iload_n 2, 1) := by decide +kernel
theorem d4_44 : decode prog_24_method_1_code 44 = .ok (.anewarray 15, 3) := by decide +kernel
theorem d4_47 : decode prog_24_method_1_code 47 = .ok (.putfield 17, 3) := by decide +kernel
theorem d4_50 : decode prog_24_method_1_code 50 = .ok (.aload_n 1, 1) := by decide +kernel
theorem d4_51 : decode prog_24_method_1_code 51 = .ok (.arraylength, 1) := by decide +kernel
theorem d4_52 : decode prog_24_method_1_code 52 = .ok (.invokestatic 21, 3) := by decide +kernel
theorem d4_55 : decode prog_24_method_1_code 55 = .ok (.bipush 8, 2) := by decide +kernel
theorem d4_57 : decode prog_24_method_1_code 57 = .ok (.imul, 1) := by decide +kernel
theorem d4_58 : decode prog_24_method_1_code 58 = .ok (.newarray .long, 2) := by decide +kernel
theorem d4_60 : decode prog_24_method_1_code 60 = .ok (.astore_n 3, 1) := by decide +kernel
theorem d4_61 : decode prog_24_method_1_code 61 = .ok (.aload_n 3, 1) := by decide +kernel
theorem d4_62 : decode prog_24_method_1_code 62 = .ok (.ldc2_w 27, 3) := by decide +kernel
theorem d4_65 : decode prog_24_method_1_code 65 = .ok (.invokestatic 29, 3) := by decide +kernel
theorem d4_68 : decode prog_24_method_1_code 68 = .ok (.iconst 0, 1) := by decide +kernel
theorem d4_69 : decode prog_24_method_1_code 69 = .ok (.istore 4, 2) := by decide +kernel
theorem d4_71 : decode prog_24_method_1_code 71 = .ok (.iload 4, 2) := by decide +kernel
theorem d4_73 : decode prog_24_method_1_code 73 = .ok (.aload_n 1, 1) := by decide +kernel
theorem d4_74 : decode prog_24_method_1_code 74 = .ok (.arraylength, 1) := by decide +kernel
theorem d4_75 : decode prog_24_method_1_code 75 = .ok (.if_icmp .ge 21, 3) := by decide +kernel
theorem d4_96 : decode prog_24_method_1_code 96 = .ok (.aload_n 0, 1) := by decide +kernel
theorem d4_97 : decode prog_24_method_1_code 97 = .ok (.getfield 17, 3) := by decide +kernel
theorem d4_100 : decode prog_24_method_1_code 100 = .ok (.iconst 0, 1) := by decide +kernel
theorem d4_101 : decode prog_24_method_1_code 101 = .ok (.aload_n 3, 1) := by decide +kernel
theorem d4_102 : decode prog_24_method_1_code 102 = .ok (.aastore, 1) := by decide +kernel
theorem d4_103 : decode prog_24_method_1_code 103 = .ok (.iconst 1, 1) := by decide +kernel
theorem d4_104 : decode prog_24_method_1_code 104 = .ok (.istore 4, 2) := by decide +kernel
theorem d4_106 : decode prog_24_method_1_code 106 = .ok (.iload 4, 2) := by decide +kernel
theorem d4_108 : decode prog_24_method_1_code 108 = .ok (.iload_n 2, 1) := by decide +kernel
theorem d4_109 : decode prog_24_method_1_code 109 = .ok (.if_icmp .ge 78, 3) := by decide +kernel
theorem d4_187 : decode prog_24_method_1_code 187 = .ok (.return_, 1) := by decide +kernel
theorem pn_4 : plainName "com/example/skiprail/skiprail/index/GroupedKeys" = true := by first | (simp [plainName, overriddenIn]; done) | decide +kernel
theorem ef_4 (m : MethodId) (x0 : Addr) (x1 : Addr) : entryFrame m #[(.ref x0), (.ref x1)] 8 = mkF m 0 #[.val (.ref x0), .val (.ref x1), .unset, .unset, .unset, .unset, .unset, .unset] [] := by first | (simp [entryFrame, mkF, argsToLocals, Value.category]; done) | rfl
set_option maxRecDepth 65536 in
set_option maxHeartbeats 40000000 in
theorem rmIn0 (l : Launch) (Z : State) (a0 : Array Value) (hw : ∀ d ∈ tables_1, d.before a0 Z = true) (n0 : Nat) (h : Heap) (Z0 : n0 ≤ h.size) (a1 a2 : Addr) (f : Nat → Int64) (ga : n0 ≤ a1) (ne_a1_a2 : a1 ≠ a2) (E_a1 : Exa Z h a1 "com/example/skiprail/skiprail/index/GroupedKeys") (F_a1_size : Fld Z h a1 "com/example/skiprail/skiprail/index/GroupedKeys" "size" "I" (.int (0 : Int32))) (F_a1_levels : Fld Z h a1 "com/example/skiprail/skiprail/index/GroupedKeys" "levels" "[[J" .null) (A_a2 : AF Z h a2 .long 0 (fun j => .long (f j))) :
    Met1 l Z n0 [] (⟨"com/example/skiprail/skiprail/index/GroupedKeys", "<init>", "([J)V"⟩ : MethodName) prog_24_method_1_code 8 none ({ frames := 2, cells := 3, slots := 34, locals := 25 } : Room) #[(.ref a1), (.ref a2)] h (fun v h' => v = none ∧ Keep h h' [a1] ∧ GKs Z h' a1 0 f) := by
  refine met_of (plainFor_of_name pn_4) Z0 (fun m => ef_4 m a1 a2) ?_
  intro p e s m below meth c T hs0 X
  have K := Keep.refl h [a1]
  refine r_aloadN 1 X d4_0 rfl rfl ?_
  refine r_initO 4 X (hw _ (List.mem_of_getElem? (i := 18) rfl)) (hw _ (List.mem_of_getElem? (i := 19) rfl)) (hw _ (List.mem_of_getElem? (i := 20) rfl)) d4_1 rfl (by decide) 0 (Nat.le_of_eq rfl) (by decide) ?_
  intro T X
  refine r_aloadN 5 X d4_4 rfl rfl ?_
  refine r_aloadN 6 X d4_5 rfl rfl ?_
  refine r_arraylength 7 X A_a2 (0 : Int32) (by decide) d4_6 ?_
  refine r_putfield 10 X (host := "") (Or.inl (hw _ (List.mem_of_getElem? (i := 21) rfl))) Via.refl F_a1_size E_a1 (Or.inr ⟨(hw _ (List.mem_of_getElem? (i := 22) rfl)), rfl, rfl⟩) (hw _ (List.mem_of_getElem? (i := 13) rfl)) (ty := .int) (by decide) rfl rfl ga d4_7 ?_
  intro T h1 W1 X
  have K := K.wr W1 (Or.inl (List.mem_of_getElem? (i := 0) rfl))
  have E_a1 := E_a1.wr W1
  have F_a1_size := F_a1_size.same W1
  have F_a1_levels := F_a1_levels.other W1 (Or.inr (slot_ne (Or.inr (hw _ (List.mem_of_getElem? (i := 27) rfl))) (Or.inr (hw _ (List.mem_of_getElem? (i := 22) rfl))) (by decide) (t := (.array (.array .long))) (t' := .int) (by decide) (by decide)))
  have A_a2 := A_a2.other W1 (Ne.symm ne_a1_a2)
  refine r_iconst 11 X (1 : Int32) d4_10 rfl ?_
  refine r_istoreN 12 X #[.val (.ref a1), .val (.ref a2), .val (.int (1 : Int32)), .unset, .unset, .unset, .unset, .unset] d4_11 rfl ?_
  refine r_aloadN 13 X d4_12 rfl rfl ?_
  refine r_arraylength 14 X A_a2 (0 : Int32) (by decide) d4_13 ?_
  refine r_i2l 15 X d4_14 ?_
  refine r_topJ (x' := (0 : Int64)) (by decide) ?_
  refine r_lstoreN 16 X #[.val (.ref a1), .val (.ref a2), .val (.int (1 : Int32)), .val (.long (0 : Int64)), .second, .unset, .unset, .unset] d4_15 rfl ?_
  refine r_lloadN 17 X d4_16 rfl ?_
  refine r_ldc2Long 20 X (hw _ (List.mem_of_getElem? (i := 23) rfl)) d4_17 ?_
  refine r_lcmp 21 X d4_20 ?_
  refine r_ifY 42 X d4_21 ((if0 _ _).trans (flt (fun q => (show ¬ ((8 : Int64) < (0 : Int64)) by decide) ((lw_gt _ _).mp q))).2.2.2) ?_
  refine r_aloadN 43 X d4_42 rfl rfl ?_
  refine r_iloadN 44 X d4_43 rfl ?_
  refine r_anewarrayA 47 X (ty := .long) 1 1 "[J" "[[J" (by decide) (by decide) (hw _ (List.mem_of_getElem? (i := 24) rfl)) (hw _ (List.mem_of_getElem? (i := 25) rfl)) d4_44 (by decide) (by decide) (by decide) (by decide) (by decide) ?_
  intro T h2 b2 g2 gn_b2 E2 E_b2 O_b2 A_b2 X
  have sz_b2 : h.size ≤ b2 := Nat.le_trans K.1 (Nat.le_of_eq g2.symm)
  have ne_a2_b2 : a2 ≠ b2 := Nat.ne_of_lt (Nat.lt_of_lt_of_eq A_a2.lt g2.symm)
  have ne_a1_b2 : a1 ≠ b2 := Nat.ne_of_lt (Nat.lt_of_lt_of_eq E_a1.lt g2.symm)
  have K := K.ext E2
  have E_a1 := E_a1.ext E2
  have F_a1_size := F_a1_size.ext E2
  have F_a1_levels := F_a1_levels.ext E2
  have A_a2 := A_a2.ext E2
  refine r_putfield 50 X (host := "") (Or.inl (hw _ (List.mem_of_getElem? (i := 26) rfl))) Via.refl F_a1_levels E_a1 (Or.inr ⟨(hw _ (List.mem_of_getElem? (i := 27) rfl)), rfl, rfl⟩) (hw _ (List.mem_of_getElem? (i := 13) rfl)) (ty := (.array (.array .long))) (by decide) rfl rfl ga d4_47 ?_
  intro T h3 W3 X
  have K := K.wr W3 (Or.inl (List.mem_of_getElem? (i := 0) rfl))
  have E_a1 := E_a1.wr W3
  have F_a1_size := F_a1_size.other W3 (Or.inr (slot_ne (Or.inr (hw _ (List.mem_of_getElem? (i := 22) rfl))) (Or.inr (hw _ (List.mem_of_getElem? (i := 27) rfl))) (by decide) (t := .int) (t' := (.array (.array .long))) (by decide) (by decide)))
  have F_a1_levels := F_a1_levels.same W3
  have A_a2 := A_a2.other W3 (Ne.symm ne_a1_a2)
  have A_b2 := A_b2.other W3 (Ne.symm ne_a1_b2)
  have E_b2 := E_b2.wr W3
  refine r_aloadN 51 X d4_50 rfl rfl ?_
  refine r_arraylength 52 X A_a2 (0 : Int32) (by decide) d4_51 ?_
  refine r_callS 55 X (st := []) (rmG0 l Z a0 hw n0 _ X.sz) (hw _ (List.mem_of_getElem? (i := 28) rfl)) (hw _ (List.mem_of_getElem? (i := 29) rfl)) (hw _ (List.mem_of_getElem? (i := 30) rfl)) (hw _ (List.mem_of_getElem? (i := 14) rfl)) (by decide) pd_2 [(.int (0 : Int32))] rfl rfl 0 (Nat.le_of_eq rfl) rfl (by decide) (by decide) (by decide) (by decide) d4_52 ?_
  rintro T h4 v4 ⟨rfl, rfl⟩ X
  change Run _ _ _ _ _ _ _ _ [(.int (1 : Int32))]
  refine r_bipush 57 X (8 : Int32) d4_55 rfl ?_
  refine r_imul 58 X d4_57 ?_
  refine r_topI (x' := (8 : Int32)) (by decide) ?_
  refine r_newarrayE 60 X 8 8 "[J" (by decide) (hw _ (List.mem_of_getElem? (i := 8) rfl)) d4_58 (by decide) (by decide) (by decide) (by decide) (by decide) ?_
  intro T h5 b5 g5 gn_b5 E5 E_b5 A_b5 X
  have sz_b5 : h.size ≤ b5 := Nat.le_trans K.1 (Nat.le_of_eq g5.symm)
  have ne_b2_b5 : b2 ≠ b5 := Nat.ne_of_lt (Nat.lt_of_lt_of_eq A_b2.lt g5.symm)
  have ne_a2_b5 : a2 ≠ b5 := Nat.ne_of_lt (Nat.lt_of_lt_of_eq A_a2.lt g5.symm)
  have ne_a1_b5 : a1 ≠ b5 := Nat.ne_of_lt (Nat.lt_of_lt_of_eq E_a1.lt g5.symm)
  have K := K.ext E5
  have E_a1 := E_a1.ext E5
  have F_a1_size := F_a1_size.ext E5
  have F_a1_levels := F_a1_levels.ext E5
  have A_a2 := A_a2.ext E5
  have A_b2 := A_b2.ext E5
  have E_b2 := E_b2.ext E5
  replace A_b5 : AF Z h5 b5 .long 8 (fun j => .long ((fun _ => (0 : Int64)) j)) := A_b5
  refine r_astoreN 61 X #[.val (.ref a1), .val (.ref a2), .val (.int (1 : Int32)), .val (.ref b5), .unset, .unset, .unset, .unset] d4_60 rfl rfl ?_
  refine r_aloadN 62 X d4_61 rfl rfl ?_
  refine r_ldc2Long 65 X (hw _ (List.mem_of_getElem? (i := 35) rfl)) d4_62 ?_
  refine r_callS 68 X (st := []) (rmFl l Z a0 hw n0 _ X.sz b5 (9223372036854775807 : Int64) 8 (8 : Int32) (fun _ => (0 : Int64)) (by decide) gn_b5 A_b5) (hw _ (List.mem_of_getElem? (i := 36) rfl)) (hw _ (List.mem_of_getElem? (i := 37) rfl)) (hw _ (List.mem_of_getElem? (i := 39) rfl)) (hw _ (List.mem_of_getElem? (i := 38) rfl)) (by decide) pd_3 [(.ref b5), (.long (9223372036854775807 : Int64))] rfl rfl 0 (Nat.le_of_eq rfl) rfl (by decide) (by decide) (by decide) (by decide) d4_65 ?_
  rintro T h6 v6 ⟨rfl, K6, A6⟩ X
  have K := K.trans K6 (allS (Or.inr sz_b5) all0)
  have E_a1 := E_a1.keep K6
  have F_a1_size := F_a1_size.keep K6 (ninS ne_a1_b5 nin0)
  have F_a1_levels := F_a1_levels.keep K6 (ninS ne_a1_b5 nin0)
  have A_a2 := A_a2.keep K6 (ninS ne_a2_b5 nin0)
  have A_b2 := A_b2.keep K6 (ninS ne_b2_b5 nin0)
  have E_b2 := E_b2.keep K6
  have E_b5 := E_b5.keep K6
  replace A6 : AF Z h6 b5 .long 8 (fun j => .long ((fun _ => (9223372036854775807 : Int64)) j)) := A6
  have A_b5 := A6
  change Run _ _ _ _ _ _ _ _ []
  refine r_iconst 69 X (0 : Int32) d4_68 rfl ?_
  refine r_istore 71 X #[.val (.ref a1), .val (.ref a2), .val (.int (1 : Int32)), .val (.ref b5), .val (.int (0 : Int32)), .unset, .unset, .unset] d4_69 rfl ?_
  refine r_iload 73 X d4_71 rfl ?_
  refine r_aloadN 74 X d4_73 rfl rfl ?_
  refine r_arraylength 75 X A_a2 (0 : Int32) (by decide) d4_74 ?_
  refine r_icmpY 96 X d4_75 (flt (by decide)).2.1 ?_
  refine r_aloadN 97 X d4_96 rfl rfl ?_
  refine r_getfield 100 X (host := "") (Or.inl (hw _ (List.mem_of_getElem? (i := 26) rfl))) Via.refl F_a1_levels d4_97 ?_
  intro T X
  refine r_iconst 101 X (0 : Int32) d4_100 rfl ?_
  refine r_aloadN 102 X d4_101 rfl rfl ?_
  refine r_aastoreA 103 X A_b2 E_b2 O_b2 E_b5 (i := 0) (by decide) (by decide) gn_b2 d4_102 ?_
  intro T h7 W7 X
  have K := K.wr W7 (Or.inr sz_b2)
  have E_a1 := E_a1.wr W7
  have F_a1_size := F_a1_size.other W7 (Or.inl ne_a1_b2)
  have F_a1_levels := F_a1_levels.other W7 (Or.inl ne_a1_b2)
  have A_a2 := A_a2.other W7 ne_a2_b2
  have A_b2 := A_b2.set W7
  have E_b2 := E_b2.wr W7
  have E_b5 := E_b5.wr W7
  have A_b5 := A_b5.other W7 (Ne.symm ne_b2_b5)
  refine r_iconst 104 X (1 : Int32) d4_103 rfl ?_
  refine r_istore 106 X #[.val (.ref a1), .val (.ref a2), .val (.int (1 : Int32)), .val (.ref b5), .val (.int (1 : Int32)), .unset, .unset, .unset] d4_104 rfl ?_
  refine r_iload 108 X d4_106 rfl ?_
  refine r_iloadN 109 X d4_108 rfl ?_
  refine r_icmpY 187 X d4_109 (flt (by decide)).2.1 ?_
  refine r_retV X d4_187 (by decide) (by decide) ?_
  exact ⟨rfl, K, b2, b5, F_a1_levels, Or.inl ⟨by decide, A_b2, A_b5.congr (fun j hj => match j, hj with | 0, _ => rfl | 1, _ => rfl | 2, _ => rfl | 3, _ => rfl | 4, _ => rfl | 5, _ => rfl | 6, _ => rfl | 7, _ => rfl | _ + 8, hj => absurd hj (by omega))⟩⟩
theorem d4_78 : decode prog_24_method_1_code 78 = .ok (.aload_n 3, 1) := by decide +kernel
theorem d4_79 : decode prog_24_method_1_code 79 = .ok (.iload 4, 2) := by decide +kernel
theorem d4_81 : decode prog_24_method_1_code 81 = .ok (.aload_n 1, 1) := by decide +kernel
theorem d4_82 : decode prog_24_method_1_code 82 = .ok (.iload 4, 2) := by decide +kernel
theorem d4_84 : decode prog_24_method_1_code 84 = .ok (.laload, 1) := by decide +kernel
theorem d4_85 : decode prog_24_method_1_code 85 = .ok (.ldc2_w 35, 3) := by decide +kernel
theorem d4_88 : decode prog_24_method_1_code 88 = .ok (.lxor, 1) := by decide +kernel
theorem d4_89 : decode prog_24_method_1_code 89 = .ok (.lastore, 1) := by decide +kernel
theorem d4_90 : decode prog_24_method_1_code 90 = .ok (.iinc 4 1, 3) := by decide +kernel
theorem d4_93 : decode prog_24_method_1_code 93 = .ok (.goto (-22), 3) := by decide +kernel
set_option maxRecDepth 65536 in
set_option maxHeartbeats 40000000 in
theorem rmIn3 (l : Launch) (Z : State) (a0 : Array Value) (hw : ∀ d ∈ tables_1, d.before a0 Z = true) (n0 : Nat) (h : Heap) (Z0 : n0 ≤ h.size) (a1 a2 : Addr) (f : Nat → Int64) (ga : n0 ≤ a1) (ne_a1_a2 : a1 ≠ a2) (E_a1 : Exa Z h a1 "com/example/skiprail/skiprail/index/GroupedKeys") (F_a1_size : Fld Z h a1 "com/example/skiprail/skiprail/index/GroupedKeys" "size" "I" (.int (0 : Int32))) (F_a1_levels : Fld Z h a1 "com/example/skiprail/skiprail/index/GroupedKeys" "levels" "[[J" .null) (A_a2 : AF Z h a2 .long 3 (fun j => .long (f j))) :
    Met1 l Z n0 [] (⟨"com/example/skiprail/skiprail/index/GroupedKeys", "<init>", "([J)V"⟩ : MethodName) prog_24_method_1_code 8 none ({ frames := 2, cells := 3, slots := 34, locals := 25 } : Room) #[(.ref a1), (.ref a2)] h (fun v h' => v = none ∧ Keep h h' [a1] ∧ GKs Z h' a1 3 f) := by
  refine met_of (plainFor_of_name pn_4) Z0 (fun m => ef_4 m a1 a2) ?_
  intro p e s m below meth c T hs0 X
  have K := Keep.refl h [a1]
  refine r_aloadN 1 X d4_0 rfl rfl ?_
  refine r_initO 4 X (hw _ (List.mem_of_getElem? (i := 18) rfl)) (hw _ (List.mem_of_getElem? (i := 19) rfl)) (hw _ (List.mem_of_getElem? (i := 20) rfl)) d4_1 rfl (by decide) 0 (Nat.le_of_eq rfl) (by decide) ?_
  intro T X
  refine r_aloadN 5 X d4_4 rfl rfl ?_
  refine r_aloadN 6 X d4_5 rfl rfl ?_
  refine r_arraylength 7 X A_a2 (3 : Int32) (by decide) d4_6 ?_
  refine r_putfield 10 X (host := "") (Or.inl (hw _ (List.mem_of_getElem? (i := 21) rfl))) Via.refl F_a1_size E_a1 (Or.inr ⟨(hw _ (List.mem_of_getElem? (i := 22) rfl)), rfl, rfl⟩) (hw _ (List.mem_of_getElem? (i := 13) rfl)) (ty := .int) (by decide) rfl rfl ga d4_7 ?_
  intro T h1 W1 X
  have K := K.wr W1 (Or.inl (List.mem_of_getElem? (i := 0) rfl))
  have E_a1 := E_a1.wr W1
  have F_a1_size := F_a1_size.same W1
  have F_a1_levels := F_a1_levels.other W1 (Or.inr (slot_ne (Or.inr (hw _ (List.mem_of_getElem? (i := 27) rfl))) (Or.inr (hw _ (List.mem_of_getElem? (i := 22) rfl))) (by decide) (t := (.array (.array .long))) (t' := .int) (by decide) (by decide)))
  have A_a2 := A_a2.other W1 (Ne.symm ne_a1_a2)
  refine r_iconst 11 X (1 : Int32) d4_10 rfl ?_
  refine r_istoreN 12 X #[.val (.ref a1), .val (.ref a2), .val (.int (1 : Int32)), .unset, .unset, .unset, .unset, .unset] d4_11 rfl ?_
  refine r_aloadN 13 X d4_12 rfl rfl ?_
  refine r_arraylength 14 X A_a2 (3 : Int32) (by decide) d4_13 ?_
  refine r_i2l 15 X d4_14 ?_
  refine r_topJ (x' := (3 : Int64)) (by decide) ?_
  refine r_lstoreN 16 X #[.val (.ref a1), .val (.ref a2), .val (.int (1 : Int32)), .val (.long (3 : Int64)), .second, .unset, .unset, .unset] d4_15 rfl ?_
  refine r_lloadN 17 X d4_16 rfl ?_
  refine r_ldc2Long 20 X (hw _ (List.mem_of_getElem? (i := 23) rfl)) d4_17 ?_
  refine r_lcmp 21 X d4_20 ?_
  refine r_ifY 42 X d4_21 ((if0 _ _).trans (flt (fun q => (show ¬ ((8 : Int64) < (3 : Int64)) by decide) ((lw_gt _ _).mp q))).2.2.2) ?_
  refine r_aloadN 43 X d4_42 rfl rfl ?_
  refine r_iloadN 44 X d4_43 rfl ?_
  refine r_anewarrayA 47 X (ty := .long) 1 1 "[J" "[[J" (by decide) (by decide) (hw _ (List.mem_of_getElem? (i := 24) rfl)) (hw _ (List.mem_of_getElem? (i := 25) rfl)) d4_44 (by decide) (by decide) (by decide) (by decide) (by decide) ?_
  intro T h2 b2 g2 gn_b2 E2 E_b2 O_b2 A_b2 X
  have sz_b2 : h.size ≤ b2 := Nat.le_trans K.1 (Nat.le_of_eq g2.symm)
  have ne_a2_b2 : a2 ≠ b2 := Nat.ne_of_lt (Nat.lt_of_lt_of_eq A_a2.lt g2.symm)
  have ne_a1_b2 : a1 ≠ b2 := Nat.ne_of_lt (Nat.lt_of_lt_of_eq E_a1.lt g2.symm)
  have K := K.ext E2
  have E_a1 := E_a1.ext E2
  have F_a1_size := F_a1_size.ext E2
  have F_a1_levels := F_a1_levels.ext E2
  have A_a2 := A_a2.ext E2
  refine r_putfield 50 X (host := "") (Or.inl (hw _ (List.mem_of_getElem? (i := 26) rfl))) Via.refl F_a1_levels E_a1 (Or.inr ⟨(hw _ (List.mem_of_getElem? (i := 27) rfl)), rfl, rfl⟩) (hw _ (List.mem_of_getElem? (i := 13) rfl)) (ty := (.array (.array .long))) (by decide) rfl rfl ga d4_47 ?_
  intro T h3 W3 X
  have K := K.wr W3 (Or.inl (List.mem_of_getElem? (i := 0) rfl))
  have E_a1 := E_a1.wr W3
  have F_a1_size := F_a1_size.other W3 (Or.inr (slot_ne (Or.inr (hw _ (List.mem_of_getElem? (i := 22) rfl))) (Or.inr (hw _ (List.mem_of_getElem? (i := 27) rfl))) (by decide) (t := .int) (t' := (.array (.array .long))) (by decide) (by decide)))
  have F_a1_levels := F_a1_levels.same W3
  have A_a2 := A_a2.other W3 (Ne.symm ne_a1_a2)
  have A_b2 := A_b2.other W3 (Ne.symm ne_a1_b2)
  have E_b2 := E_b2.wr W3
  refine r_aloadN 51 X d4_50 rfl rfl ?_
  refine r_arraylength 52 X A_a2 (3 : Int32) (by decide) d4_51 ?_
  refine r_callS 55 X (st := []) (rmG3 l Z a0 hw n0 _ X.sz) (hw _ (List.mem_of_getElem? (i := 28) rfl)) (hw _ (List.mem_of_getElem? (i := 29) rfl)) (hw _ (List.mem_of_getElem? (i := 30) rfl)) (hw _ (List.mem_of_getElem? (i := 14) rfl)) (by decide) pd_2 [(.int (3 : Int32))] rfl rfl 0 (Nat.le_of_eq rfl) rfl (by decide) (by decide) (by decide) (by decide) d4_52 ?_
  rintro T h4 v4 ⟨rfl, rfl⟩ X
  change Run _ _ _ _ _ _ _ _ [(.int (1 : Int32))]
  refine r_bipush 57 X (8 : Int32) d4_55 rfl ?_
  refine r_imul 58 X d4_57 ?_
  refine r_topI (x' := (8 : Int32)) (by decide) ?_
  refine r_newarrayE 60 X 8 8 "[J" (by decide) (hw _ (List.mem_of_getElem? (i := 8) rfl)) d4_58 (by decide) (by decide) (by decide) (by decide) (by decide) ?_
  intro T h5 b5 g5 gn_b5 E5 E_b5 A_b5 X
  have sz_b5 : h.size ≤ b5 := Nat.le_trans K.1 (Nat.le_of_eq g5.symm)
  have ne_b2_b5 : b2 ≠ b5 := Nat.ne_of_lt (Nat.lt_of_lt_of_eq A_b2.lt g5.symm)
  have ne_a2_b5 : a2 ≠ b5 := Nat.ne_of_lt (Nat.lt_of_lt_of_eq A_a2.lt g5.symm)
  have ne_a1_b5 : a1 ≠ b5 := Nat.ne_of_lt (Nat.lt_of_lt_of_eq E_a1.lt g5.symm)
  have K := K.ext E5
  have E_a1 := E_a1.ext E5
  have F_a1_size := F_a1_size.ext E5
  have F_a1_levels := F_a1_levels.ext E5
  have A_a2 := A_a2.ext E5
  have A_b2 := A_b2.ext E5
  have E_b2 := E_b2.ext E5
  replace A_b5 : AF Z h5 b5 .long 8 (fun j => .long ((fun _ => (0 : Int64)) j)) := A_b5
  refine r_astoreN 61 X #[.val (.ref a1), .val (.ref a2), .val (.int (1 : Int32)), .val (.ref b5), .unset, .unset, .unset, .unset] d4_60 rfl rfl ?_
  refine r_aloadN 62 X d4_61 rfl rfl ?_
  refine r_ldc2Long 65 X (hw _ (List.mem_of_getElem? (i := 35) rfl)) d4_62 ?_
  refine r_callS 68 X (st := []) (rmFl l Z a0 hw n0 _ X.sz b5 (9223372036854775807 : Int64) 8 (8 : Int32) (fun _ => (0 : Int64)) (by decide) gn_b5 A_b5) (hw _ (List.mem_of_getElem? (i := 36) rfl)) (hw _ (List.mem_of_getElem? (i := 37) rfl)) (hw _ (List.mem_of_getElem? (i := 39) rfl)) (hw _ (List.mem_of_getElem? (i := 38) rfl)) (by decide) pd_3 [(.ref b5), (.long (9223372036854775807 : Int64))] rfl rfl 0 (Nat.le_of_eq rfl) rfl (by decide) (by decide) (by decide) (by decide) d4_65 ?_
  rintro T h6 v6 ⟨rfl, K6, A6⟩ X
  have K := K.trans K6 (allS (Or.inr sz_b5) all0)
  have E_a1 := E_a1.keep K6
  have F_a1_size := F_a1_size.keep K6 (ninS ne_a1_b5 nin0)
  have F_a1_levels := F_a1_levels.keep K6 (ninS ne_a1_b5 nin0)
  have A_a2 := A_a2.keep K6 (ninS ne_a2_b5 nin0)
  have A_b2 := A_b2.keep K6 (ninS ne_b2_b5 nin0)
  have E_b2 := E_b2.keep K6
  have E_b5 := E_b5.keep K6
  replace A6 : AF Z h6 b5 .long 8 (fun j => .long ((fun _ => (9223372036854775807 : Int64)) j)) := A6
  have A_b5 := A6
  change Run _ _ _ _ _ _ _ _ []
  refine r_iconst 69 X (0 : Int32) d4_68 rfl ?_
  refine r_istore 71 X #[.val (.ref a1), .val (.ref a2), .val (.int (1 : Int32)), .val (.ref b5), .val (.int (0 : Int32)), .unset, .unset, .unset] d4_69 rfl ?_
  refine r_iload 73 X d4_71 rfl ?_
  refine r_aloadN 74 X d4_73 rfl rfl ?_
  refine r_arraylength 75 X A_a2 (3 : Int32) (by decide) d4_74 ?_
  refine r_icmpN 78 X d4_75 (tlt (by decide)).2.1 ?_
  refine r_aloadN 79 X d4_78 rfl rfl ?_
  refine r_iload 81 X d4_79 rfl ?_
  refine r_aloadN 82 X d4_81 rfl rfl ?_
  refine r_iload 84 X d4_82 rfl ?_
  refine r_laload 85 X A_a2 (i := 0) (v := (.long (f 0))) (by decide) (by decide) rfl d4_84 ?_
  refine r_ldc2Long 88 X (hw _ (List.mem_of_getElem? (i := 46) rfl)) d4_85 ?_
  refine r_lxor 89 X d4_88 ?_
  refine r_lastore 90 X A_b5 (i := 0) (v := (.long ((f 0) ^^^ (-9223372036854775808 : Int64)))) (by decide) (by decide) rfl gn_b5 d4_89 ?_
  intro T h7 W7 X
  have K := K.wr W7 (Or.inr sz_b5)
  have E_a1 := E_a1.wr W7
  have F_a1_size := F_a1_size.other W7 (Or.inl ne_a1_b5)
  have F_a1_levels := F_a1_levels.other W7 (Or.inl ne_a1_b5)
  have A_a2 := A_a2.other W7 ne_a2_b5
  have A_b2 := A_b2.other W7 ne_b2_b5
  have E_b2 := E_b2.wr W7
  have E_b5 := E_b5.wr W7
  have A_b5 := A_b5.setJ W7
  refine r_iinc 93 X (1 : Int32) #[.val (.ref a1), .val (.ref a2), .val (.int (1 : Int32)), .val (.ref b5), .val (.int (1 : Int32)), .unset, .unset, .unset] d4_90 rfl rfl rfl ?_
  refine r_goto 71 X d4_93 ?_
  refine r_iload 73 X d4_71 rfl ?_
  refine r_aloadN 74 X d4_73 rfl rfl ?_
  refine r_arraylength 75 X A_a2 (3 : Int32) (by decide) d4_74 ?_
  refine r_icmpN 78 X d4_75 (tlt (by decide)).2.1 ?_
  refine r_aloadN 79 X d4_78 rfl rfl ?_
  refine r_iload 81 X d4_79 rfl ?_
  refine r_aloadN 82 X d4_81 rfl rfl ?_
  refine r_iload 84 X d4_82 rfl ?_
  refine r_laload 85 X A_a2 (i := 1) (v := (.long (f 1))) (by decide) (by decide) rfl d4_84 ?_
  refine r_ldc2Long 88 X (hw _ (List.mem_of_getElem? (i := 46) rfl)) d4_85 ?_
  refine r_lxor 89 X d4_88 ?_
  refine r_lastore 90 X A_b5 (i := 1) (v := (.long ((f 1) ^^^ (-9223372036854775808 : Int64)))) (by decide) (by decide) rfl gn_b5 d4_89 ?_
  intro T h8 W8 X
  have K := K.wr W8 (Or.inr sz_b5)
  have E_a1 := E_a1.wr W8
  have F_a1_size := F_a1_size.other W8 (Or.inl ne_a1_b5)
  have F_a1_levels := F_a1_levels.other W8 (Or.inl ne_a1_b5)
  have A_a2 := A_a2.other W8 ne_a2_b5
  have A_b2 := A_b2.other W8 ne_b2_b5
  have E_b2 := E_b2.wr W8
  have E_b5 := E_b5.wr W8
  have A_b5 := A_b5.setJ W8
  refine r_iinc 93 X (1 : Int32) #[.val (.ref a1), .val (.ref a2), .val (.int (1 : Int32)), .val (.ref b5), .val (.int (2 : Int32)), .unset, .unset, .unset] d4_90 rfl rfl rfl ?_
  refine r_goto 71 X d4_93 ?_
  refine r_iload 73 X d4_71 rfl ?_
  refine r_aloadN 74 X d4_73 rfl rfl ?_
  refine r_arraylength 75 X A_a2 (3 : Int32) (by decide) d4_74 ?_
  refine r_icmpN 78 X d4_75 (tlt (by decide)).2.1 ?_
  refine r_aloadN 79 X d4_78 rfl rfl ?_
  refine r_iload 81 X d4_79 rfl ?_
  refine r_aloadN 82 X d4_81 rfl rfl ?_
  refine r_iload 84 X d4_82 rfl ?_
  refine r_laload 85 X A_a2 (i := 2) (v := (.long (f 2))) (by decide) (by decide) rfl d4_84 ?_
  refine r_ldc2Long 88 X (hw _ (List.mem_of_getElem? (i := 46) rfl)) d4_85 ?_
  refine r_lxor 89 X d4_88 ?_
  refine r_lastore 90 X A_b5 (i := 2) (v := (.long ((f 2) ^^^ (-9223372036854775808 : Int64)))) (by decide) (by decide) rfl gn_b5 d4_89 ?_
  intro T h9 W9 X
  have K := K.wr W9 (Or.inr sz_b5)
  have E_a1 := E_a1.wr W9
  have F_a1_size := F_a1_size.other W9 (Or.inl ne_a1_b5)
  have F_a1_levels := F_a1_levels.other W9 (Or.inl ne_a1_b5)
  have A_a2 := A_a2.other W9 ne_a2_b5
  have A_b2 := A_b2.other W9 ne_b2_b5
  have E_b2 := E_b2.wr W9
  have E_b5 := E_b5.wr W9
  have A_b5 := A_b5.setJ W9
  refine r_iinc 93 X (1 : Int32) #[.val (.ref a1), .val (.ref a2), .val (.int (1 : Int32)), .val (.ref b5), .val (.int (3 : Int32)), .unset, .unset, .unset] d4_90 rfl rfl rfl ?_
  refine r_goto 71 X d4_93 ?_
  refine r_iload 73 X d4_71 rfl ?_
  refine r_aloadN 74 X d4_73 rfl rfl ?_
  refine r_arraylength 75 X A_a2 (3 : Int32) (by decide) d4_74 ?_
  refine r_icmpY 96 X d4_75 (flt (by decide)).2.1 ?_
  refine r_aloadN 97 X d4_96 rfl rfl ?_
  refine r_getfield 100 X (host := "") (Or.inl (hw _ (List.mem_of_getElem? (i := 26) rfl))) Via.refl F_a1_levels d4_97 ?_
  intro T X
  refine r_iconst 101 X (0 : Int32) d4_100 rfl ?_
  refine r_aloadN 102 X d4_101 rfl rfl ?_
  refine r_aastoreA 103 X A_b2 E_b2 O_b2 E_b5 (i := 0) (by decide) (by decide) gn_b2 d4_102 ?_
  intro T h10 W10 X
  have K := K.wr W10 (Or.inr sz_b2)
  have E_a1 := E_a1.wr W10
  have F_a1_size := F_a1_size.other W10 (Or.inl ne_a1_b2)
  have F_a1_levels := F_a1_levels.other W10 (Or.inl ne_a1_b2)
  have A_a2 := A_a2.other W10 ne_a2_b2
  have A_b2 := A_b2.set W10
  have E_b2 := E_b2.wr W10
  have E_b5 := E_b5.wr W10
  have A_b5 := A_b5.other W10 (Ne.symm ne_b2_b5)
  refine r_iconst 104 X (1 : Int32) d4_103 rfl ?_
  refine r_istore 106 X #[.val (.ref a1), .val (.ref a2), .val (.int (1 : Int32)), .val (.ref b5), .val (.int (1 : Int32)), .unset, .unset, .unset] d4_104 rfl ?_
  refine r_iload 108 X d4_106 rfl ?_
  refine r_iloadN 109 X d4_108 rfl ?_
  refine r_icmpY 187 X d4_109 (flt (by decide)).2.1 ?_
  refine r_retV X d4_187 (by decide) (by decide) ?_
  exact ⟨rfl, K, b2, b5, F_a1_levels, Or.inl ⟨by decide, A_b2, A_b5.congr (fun j hj => match j, hj with | 0, _ => rfl | 1, _ => rfl | 2, _ => rfl | 3, _ => rfl | 4, _ => rfl | 5, _ => rfl | 6, _ => rfl | 7, _ => rfl | _ + 8, hj => absurd hj (by omega))⟩⟩
set_option maxRecDepth 65536 in
set_option maxHeartbeats 40000000 in
theorem rmIn8 (l : Launch) (Z : State) (a0 : Array Value) (hw : ∀ d ∈ tables_1, d.before a0 Z = true) (n0 : Nat) (h : Heap) (Z0 : n0 ≤ h.size) (a1 a2 : Addr) (f : Nat → Int64) (ga : n0 ≤ a1) (ne_a1_a2 : a1 ≠ a2) (E_a1 : Exa Z h a1 "com/example/skiprail/skiprail/index/GroupedKeys") (F_a1_size : Fld Z h a1 "com/example/skiprail/skiprail/index/GroupedKeys" "size" "I" (.int (0 : Int32))) (F_a1_levels : Fld Z h a1 "com/example/skiprail/skiprail/index/GroupedKeys" "levels" "[[J" .null) (A_a2 : AF Z h a2 .long 8 (fun j => .long (f j))) :
    Met1 l Z n0 [] (⟨"com/example/skiprail/skiprail/index/GroupedKeys", "<init>", "([J)V"⟩ : MethodName) prog_24_method_1_code 8 none ({ frames := 2, cells := 3, slots := 34, locals := 25 } : Room) #[(.ref a1), (.ref a2)] h (fun v h' => v = none ∧ Keep h h' [a1] ∧ GKs Z h' a1 8 f) := by
  refine met_of (plainFor_of_name pn_4) Z0 (fun m => ef_4 m a1 a2) ?_
  intro p e s m below meth c T hs0 X
  have K := Keep.refl h [a1]
  refine r_aloadN 1 X d4_0 rfl rfl ?_
  refine r_initO 4 X (hw _ (List.mem_of_getElem? (i := 18) rfl)) (hw _ (List.mem_of_getElem? (i := 19) rfl)) (hw _ (List.mem_of_getElem? (i := 20) rfl)) d4_1 rfl (by decide) 0 (Nat.le_of_eq rfl) (by decide) ?_
  intro T X
  refine r_aloadN 5 X d4_4 rfl rfl ?_
  refine r_aloadN 6 X d4_5 rfl rfl ?_
  refine r_arraylength 7 X A_a2 (8 : Int32) (by decide) d4_6 ?_
  refine r_putfield 10 X (host := "") (Or.inl (hw _ (List.mem_of_getElem? (i := 21) rfl))) Via.refl F_a1_size E_a1 (Or.inr ⟨(hw _ (List.mem_of_getElem? (i := 22) rfl)), rfl, rfl⟩) (hw _ (List.mem_of_getElem? (i := 13) rfl)) (ty := .int) (by decide) rfl rfl ga d4_7 ?_
  intro T h1 W1 X
  have K := K.wr W1 (Or.inl (List.mem_of_getElem? (i := 0) rfl))
  have E_a1 := E_a1.wr W1
  have F_a1_size := F_a1_size.same W1
  have F_a1_levels := F_a1_levels.other W1 (Or.inr (slot_ne (Or.inr (hw _ (List.mem_of_getElem? (i := 27) rfl))) (Or.inr (hw _ (List.mem_of_getElem? (i := 22) rfl))) (by decide) (t := (.array (.array .long))) (t' := .int) (by decide) (by decide)))
  have A_a2 := A_a2.other W1 (Ne.symm ne_a1_a2)
  refine r_iconst 11 X (1 : Int32) d4_10 rfl ?_
  refine r_istoreN 12 X #[.val (.ref a1), .val (.ref a2), .val (.int (1 : Int32)), .unset, .unset, .unset, .unset, .unset] d4_11 rfl ?_
  refine r_aloadN 13 X d4_12 rfl rfl ?_
  refine r_arraylength 14 X A_a2 (8 : Int32) (by decide) d4_13 ?_
  refine r_i2l 15 X d4_14 ?_
  refine r_topJ (x' := (8 : Int64)) (by decide) ?_
  refine r_lstoreN 16 X #[.val (.ref a1), .val (.ref a2), .val (.int (1 : Int32)), .val (.long (8 : Int64)), .second, .unset, .unset, .unset] d4_15 rfl ?_
  refine r_lloadN 17 X d4_16 rfl ?_
  refine r_ldc2Long 20 X (hw _ (List.mem_of_getElem? (i := 23) rfl)) d4_17 ?_
  refine r_lcmp 21 X d4_20 ?_
  refine r_ifY 42 X d4_21 ((if0 _ _).trans (flt (fun q => (show ¬ ((8 : Int64) < (8 : Int64)) by decide) ((lw_gt _ _).mp q))).2.2.2) ?_
  refine r_aloadN 43 X d4_42 rfl rfl ?_
  refine r_iloadN 44 X d4_43 rfl ?_
  refine r_anewarrayA 47 X (ty := .long) 1 1 "[J" "[[J" (by decide) (by decide) (hw _ (List.mem_of_getElem? (i := 24) rfl)) (hw _ (List.mem_of_getElem? (i := 25) rfl)) d4_44 (by decide) (by decide) (by decide) (by decide) (by decide) ?_
  intro T h2 b2 g2 gn_b2 E2 E_b2 O_b2 A_b2 X
  have sz_b2 : h.size ≤ b2 := Nat.le_trans K.1 (Nat.le_of_eq g2.symm)
  have ne_a2_b2 : a2 ≠ b2 := Nat.ne_of_lt (Nat.lt_of_lt_of_eq A_a2.lt g2.symm)
  have ne_a1_b2 : a1 ≠ b2 := Nat.ne_of_lt (Nat.lt_of_lt_of_eq E_a1.lt g2.symm)
  have K := K.ext E2
  have E_a1 := E_a1.ext E2
  have F_a1_size := F_a1_size.ext E2
  have F_a1_levels := F_a1_levels.ext E2
  have A_a2 := A_a2.ext E2
  refine r_putfield 50 X (host := "") (Or.inl (hw _ (List.mem_of_getElem? (i := 26) rfl))) Via.refl F_a1_levels E_a1 (Or.inr ⟨(hw _ (List.mem_of_getElem? (i := 27) rfl)), rfl, rfl⟩) (hw _ (List.mem_of_getElem? (i := 13) rfl)) (ty := (.array (.array .long))) (by decide) rfl rfl ga d4_47 ?_
  intro T h3 W3 X
  have K := K.wr W3 (Or.inl (List.mem_of_getElem? (i := 0) rfl))
  have E_a1 := E_a1.wr W3
  have F_a1_size := F_a1_size.other W3 (Or.inr (slot_ne (Or.inr (hw _ (List.mem_of_getElem? (i := 22) rfl))) (Or.inr (hw _ (List.mem_of_getElem? (i := 27) rfl))) (by decide) (t := .int) (t' := (.array (.array .long))) (by decide) (by decide)))
  have F_a1_levels := F_a1_levels.same W3
  have A_a2 := A_a2.other W3 (Ne.symm ne_a1_a2)
  have A_b2 := A_b2.other W3 (Ne.symm ne_a1_b2)
  have E_b2 := E_b2.wr W3
  refine r_aloadN 51 X d4_50 rfl rfl ?_
  refine r_arraylength 52 X A_a2 (8 : Int32) (by decide) d4_51 ?_
  refine r_callS 55 X (st := []) (rmG8 l Z a0 hw n0 _ X.sz) (hw _ (List.mem_of_getElem? (i := 28) rfl)) (hw _ (List.mem_of_getElem? (i := 29) rfl)) (hw _ (List.mem_of_getElem? (i := 30) rfl)) (hw _ (List.mem_of_getElem? (i := 14) rfl)) (by decide) pd_2 [(.int (8 : Int32))] rfl rfl 0 (Nat.le_of_eq rfl) rfl (by decide) (by decide) (by decide) (by decide) d4_52 ?_
  rintro T h4 v4 ⟨rfl, rfl⟩ X
  change Run _ _ _ _ _ _ _ _ [(.int (1 : Int32))]
  refine r_bipush 57 X (8 : Int32) d4_55 rfl ?_
  refine r_imul 58 X d4_57 ?_
  refine r_topI (x' := (8 : Int32)) (by decide) ?_
  refine r_newarrayE 60 X 8 8 "[J" (by decide) (hw _ (List.mem_of_getElem? (i := 8) rfl)) d4_58 (by decide) (by decide) (by decide) (by decide) (by decide) ?_
  intro T h5 b5 g5 gn_b5 E5 E_b5 A_b5 X
  have sz_b5 : h.size ≤ b5 := Nat.le_trans K.1 (Nat.le_of_eq g5.symm)
  have ne_b2_b5 : b2 ≠ b5 := Nat.ne_of_lt (Nat.lt_of_lt_of_eq A_b2.lt g5.symm)
  have ne_a2_b5 : a2 ≠ b5 := Nat.ne_of_lt (Nat.lt_of_lt_of_eq A_a2.lt g5.symm)
  have ne_a1_b5 : a1 ≠ b5 := Nat.ne_of_lt (Nat.lt_of_lt_of_eq E_a1.lt g5.symm)
  have K := K.ext E5
  have E_a1 := E_a1.ext E5
  have F_a1_size := F_a1_size.ext E5
  have F_a1_levels := F_a1_levels.ext E5
  have A_a2 := A_a2.ext E5
  have A_b2 := A_b2.ext E5
  have E_b2 := E_b2.ext E5
  replace A_b5 : AF Z h5 b5 .long 8 (fun j => .long ((fun _ => (0 : Int64)) j)) := A_b5
  refine r_astoreN 61 X #[.val (.ref a1), .val (.ref a2), .val (.int (1 : Int32)), .val (.ref b5), .unset, .unset, .unset, .unset] d4_60 rfl rfl ?_
  refine r_aloadN 62 X d4_61 rfl rfl ?_
  refine r_ldc2Long 65 X (hw _ (List.mem_of_getElem? (i := 35) rfl)) d4_62 ?_
  refine r_callS 68 X (st := []) (rmFl l Z a0 hw n0 _ X.sz b5 (9223372036854775807 : Int64) 8 (8 : Int32) (fun _ => (0 : Int64)) (by decide) gn_b5 A_b5) (hw _ (List.mem_of_getElem? (i := 36) rfl)) (hw _ (List.mem_of_getElem? (i := 37) rfl)) (hw _ (List.mem_of_getElem? (i := 39) rfl)) (hw _ (List.mem_of_getElem? (i := 38) rfl)) (by decide) pd_3 [(.ref b5), (.long (9223372036854775807 : Int64))] rfl rfl 0 (Nat.le_of_eq rfl) rfl (by decide) (by decide) (by decide) (by decide) d4_65 ?_
  rintro T h6 v6 ⟨rfl, K6, A6⟩ X
  have K := K.trans K6 (allS (Or.inr sz_b5) all0)
  have E_a1 := E_a1.keep K6
  have F_a1_size := F_a1_size.keep K6 (ninS ne_a1_b5 nin0)
  have F_a1_levels := F_a1_levels.keep K6 (ninS ne_a1_b5 nin0)
  have A_a2 := A_a2.keep K6 (ninS ne_a2_b5 nin0)
  have A_b2 := A_b2.keep K6 (ninS ne_b2_b5 nin0)
  have E_b2 := E_b2.keep K6
  have E_b5 := E_b5.keep K6
  replace A6 : AF Z h6 b5 .long 8 (fun j => .long ((fun _ => (9223372036854775807 : Int64)) j)) := A6
  have A_b5 := A6
  change Run _ _ _ _ _ _ _ _ []
  refine r_iconst 69 X (0 : Int32) d4_68 rfl ?_
  refine r_istore 71 X #[.val (.ref a1), .val (.ref a2), .val (.int (1 : Int32)), .val (.ref b5), .val (.int (0 : Int32)), .unset, .unset, .unset] d4_69 rfl ?_
  refine r_iload 73 X d4_71 rfl ?_
  refine r_aloadN 74 X d4_73 rfl rfl ?_
  refine r_arraylength 75 X A_a2 (8 : Int32) (by decide) d4_74 ?_
  refine r_icmpN 78 X d4_75 (tlt (by decide)).2.1 ?_
  refine r_aloadN 79 X d4_78 rfl rfl ?_
  refine r_iload 81 X d4_79 rfl ?_
  refine r_aloadN 82 X d4_81 rfl rfl ?_
  refine r_iload 84 X d4_82 rfl ?_
  refine r_laload 85 X A_a2 (i := 0) (v := (.long (f 0))) (by decide) (by decide) rfl d4_84 ?_
  refine r_ldc2Long 88 X (hw _ (List.mem_of_getElem? (i := 46) rfl)) d4_85 ?_
  refine r_lxor 89 X d4_88 ?_
  refine r_lastore 90 X A_b5 (i := 0) (v := (.long ((f 0) ^^^ (-9223372036854775808 : Int64)))) (by decide) (by decide) rfl gn_b5 d4_89 ?_
  intro T h7 W7 X
  have K := K.wr W7 (Or.inr sz_b5)
  have E_a1 := E_a1.wr W7
  have F_a1_size := F_a1_size.other W7 (Or.inl ne_a1_b5)
  have F_a1_levels := F_a1_levels.other W7 (Or.inl ne_a1_b5)
  have A_a2 := A_a2.other W7 ne_a2_b5
  have A_b2 := A_b2.other W7 ne_b2_b5
  have E_b2 := E_b2.wr W7
  have E_b5 := E_b5.wr W7
  have A_b5 := A_b5.setJ W7
  refine r_iinc 93 X (1 : Int32) #[.val (.ref a1), .val (.ref a2), .val (.int (1 : Int32)), .val (.ref b5), .val (.int (1 : Int32)), .unset, .unset, .unset] d4_90 rfl rfl rfl ?_
  refine r_goto 71 X d4_93 ?_
  refine r_iload 73 X d4_71 rfl ?_
  refine r_aloadN 74 X d4_73 rfl rfl ?_
  refine r_arraylength 75 X A_a2 (8 : Int32) (by decide) d4_74 ?_
  refine r_icmpN 78 X d4_75 (tlt (by decide)).2.1 ?_
  refine r_aloadN 79 X d4_78 rfl rfl ?_
  refine r_iload 81 X d4_79 rfl ?_
  refine r_aloadN 82 X d4_81 rfl rfl ?_
  refine r_iload 84 X d4_82 rfl ?_
  refine r_laload 85 X A_a2 (i := 1) (v := (.long (f 1))) (by decide) (by decide) rfl d4_84 ?_
  refine r_ldc2Long 88 X (hw _ (List.mem_of_getElem? (i := 46) rfl)) d4_85 ?_
  refine r_lxor 89 X d4_88 ?_
  refine r_lastore 90 X A_b5 (i := 1) (v := (.long ((f 1) ^^^ (-9223372036854775808 : Int64)))) (by decide) (by decide) rfl gn_b5 d4_89 ?_
  intro T h8 W8 X
  have K := K.wr W8 (Or.inr sz_b5)
  have E_a1 := E_a1.wr W8
  have F_a1_size := F_a1_size.other W8 (Or.inl ne_a1_b5)
  have F_a1_levels := F_a1_levels.other W8 (Or.inl ne_a1_b5)
  have A_a2 := A_a2.other W8 ne_a2_b5
  have A_b2 := A_b2.other W8 ne_b2_b5
  have E_b2 := E_b2.wr W8
  have E_b5 := E_b5.wr W8
  have A_b5 := A_b5.setJ W8
  refine r_iinc 93 X (1 : Int32) #[.val (.ref a1), .val (.ref a2), .val (.int (1 : Int32)), .val (.ref b5), .val (.int (2 : Int32)), .unset, .unset, .unset] d4_90 rfl rfl rfl ?_
  refine r_goto 71 X d4_93 ?_
  refine r_iload 73 X d4_71 rfl ?_
  refine r_aloadN 74 X d4_73 rfl rfl ?_
  refine r_arraylength 75 X A_a2 (8 : Int32) (by decide) d4_74 ?_
  refine r_icmpN 78 X d4_75 (tlt (by decide)).2.1 ?_
  refine r_aloadN 79 X d4_78 rfl rfl ?_
  refine r_iload 81 X d4_79 rfl ?_
  refine r_aloadN 82 X d4_81 rfl rfl ?_
  refine r_iload 84 X d4_82 rfl ?_
  refine r_laload 85 X A_a2 (i := 2) (v := (.long (f 2))) (by decide) (by decide) rfl d4_84 ?_
  refine r_ldc2Long 88 X (hw _ (List.mem_of_getElem? (i := 46) rfl)) d4_85 ?_
  refine r_lxor 89 X d4_88 ?_
  refine r_lastore 90 X A_b5 (i := 2) (v := (.long ((f 2) ^^^ (-9223372036854775808 : Int64)))) (by decide) (by decide) rfl gn_b5 d4_89 ?_
  intro T h9 W9 X
  have K := K.wr W9 (Or.inr sz_b5)
  have E_a1 := E_a1.wr W9
  have F_a1_size := F_a1_size.other W9 (Or.inl ne_a1_b5)
  have F_a1_levels := F_a1_levels.other W9 (Or.inl ne_a1_b5)
  have A_a2 := A_a2.other W9 ne_a2_b5
  have A_b2 := A_b2.other W9 ne_b2_b5
  have E_b2 := E_b2.wr W9
  have E_b5 := E_b5.wr W9
  have A_b5 := A_b5.setJ W9
  refine r_iinc 93 X (1 : Int32) #[.val (.ref a1), .val (.ref a2), .val (.int (1 : Int32)), .val (.ref b5), .val (.int (3 : Int32)), .unset, .unset, .unset] d4_90 rfl rfl rfl ?_
  refine r_goto 71 X d4_93 ?_
  refine r_iload 73 X d4_71 rfl ?_
  refine r_aloadN 74 X d4_73 rfl rfl ?_
  refine r_arraylength 75 X A_a2 (8 : Int32) (by decide) d4_74 ?_
  refine r_icmpN 78 X d4_75 (tlt (by decide)).2.1 ?_
  refine r_aloadN 79 X d4_78 rfl rfl ?_
  refine r_iload 81 X d4_79 rfl ?_
  refine r_aloadN 82 X d4_81 rfl rfl ?_
  refine r_iload 84 X d4_82 rfl ?_
  refine r_laload 85 X A_a2 (i := 3) (v := (.long (f 3))) (by decide) (by decide) rfl d4_84 ?_
  refine r_ldc2Long 88 X (hw _ (List.mem_of_getElem? (i := 46) rfl)) d4_85 ?_
  refine r_lxor 89 X d4_88 ?_
  refine r_lastore 90 X A_b5 (i := 3) (v := (.long ((f 3) ^^^ (-9223372036854775808 : Int64)))) (by decide) (by decide) rfl gn_b5 d4_89 ?_
  intro T h10 W10 X
  have K := K.wr W10 (Or.inr sz_b5)
  have E_a1 := E_a1.wr W10
  have F_a1_size := F_a1_size.other W10 (Or.inl ne_a1_b5)
  have F_a1_levels := F_a1_levels.other W10 (Or.inl ne_a1_b5)
  have A_a2 := A_a2.other W10 ne_a2_b5
  have A_b2 := A_b2.other W10 ne_b2_b5
  have E_b2 := E_b2.wr W10
  have E_b5 := E_b5.wr W10
  have A_b5 := A_b5.setJ W10
  refine r_iinc 93 X (1 : Int32) #[.val (.ref a1), .val (.ref a2), .val (.int (1 : Int32)), .val (.ref b5), .val (.int (4 : Int32)), .unset, .unset, .unset] d4_90 rfl rfl rfl ?_
  refine r_goto 71 X d4_93 ?_
  refine r_iload 73 X d4_71 rfl ?_
  refine r_aloadN 74 X d4_73 rfl rfl ?_
  refine r_arraylength 75 X A_a2 (8 : Int32) (by decide) d4_74 ?_
  refine r_icmpN 78 X d4_75 (tlt (by decide)).2.1 ?_
  refine r_aloadN 79 X d4_78 rfl rfl ?_
  refine r_iload 81 X d4_79 rfl ?_
  refine r_aloadN 82 X d4_81 rfl rfl ?_
  refine r_iload 84 X d4_82 rfl ?_
  refine r_laload 85 X A_a2 (i := 4) (v := (.long (f 4))) (by decide) (by decide) rfl d4_84 ?_
  refine r_ldc2Long 88 X (hw _ (List.mem_of_getElem? (i := 46) rfl)) d4_85 ?_
  refine r_lxor 89 X d4_88 ?_
  refine r_lastore 90 X A_b5 (i := 4) (v := (.long ((f 4) ^^^ (-9223372036854775808 : Int64)))) (by decide) (by decide) rfl gn_b5 d4_89 ?_
  intro T h11 W11 X
  have K := K.wr W11 (Or.inr sz_b5)
  have E_a1 := E_a1.wr W11
  have F_a1_size := F_a1_size.other W11 (Or.inl ne_a1_b5)
  have F_a1_levels := F_a1_levels.other W11 (Or.inl ne_a1_b5)
  have A_a2 := A_a2.other W11 ne_a2_b5
  have A_b2 := A_b2.other W11 ne_b2_b5
  have E_b2 := E_b2.wr W11
  have E_b5 := E_b5.wr W11
  have A_b5 := A_b5.setJ W11
  refine r_iinc 93 X (1 : Int32) #[.val (.ref a1), .val (.ref a2), .val (.int (1 : Int32)), .val (.ref b5), .val (.int (5 : Int32)), .unset, .unset, .unset] d4_90 rfl rfl rfl ?_
  refine r_goto 71 X d4_93 ?_
  refine r_iload 73 X d4_71 rfl ?_
  refine r_aloadN 74 X d4_73 rfl rfl ?_
  refine r_arraylength 75 X A_a2 (8 : Int32) (by decide) d4_74 ?_
  refine r_icmpN 78 X d4_75 (tlt (by decide)).2.1 ?_
  refine r_aloadN 79 X d4_78 rfl rfl ?_
  refine r_iload 81 X d4_79 rfl ?_
  refine r_aloadN 82 X d4_81 rfl rfl ?_
  refine r_iload 84 X d4_82 rfl ?_
  refine r_laload 85 X A_a2 (i := 5) (v := (.long (f 5))) (by decide) (by decide) rfl d4_84 ?_
  refine r_ldc2Long 88 X (hw _ (List.mem_of_getElem? (i := 46) rfl)) d4_85 ?_
  refine r_lxor 89 X d4_88 ?_
  refine r_lastore 90 X A_b5 (i := 5) (v := (.long ((f 5) ^^^ (-9223372036854775808 : Int64)))) (by decide) (by decide) rfl gn_b5 d4_89 ?_
  intro T h12 W12 X
  have K := K.wr W12 (Or.inr sz_b5)
  have E_a1 := E_a1.wr W12
  have F_a1_size := F_a1_size.other W12 (Or.inl ne_a1_b5)
  have F_a1_levels := F_a1_levels.other W12 (Or.inl ne_a1_b5)
  have A_a2 := A_a2.other W12 ne_a2_b5
  have A_b2 := A_b2.other W12 ne_b2_b5
  have E_b2 := E_b2.wr W12
  have E_b5 := E_b5.wr W12
  have A_b5 := A_b5.setJ W12
  refine r_iinc 93 X (1 : Int32) #[.val (.ref a1), .val (.ref a2), .val (.int (1 : Int32)), .val (.ref b5), .val (.int (6 : Int32)), .unset, .unset, .unset] d4_90 rfl rfl rfl ?_
  refine r_goto 71 X d4_93 ?_
  refine r_iload 73 X d4_71 rfl ?_
  refine r_aloadN 74 X d4_73 rfl rfl ?_
  refine r_arraylength 75 X A_a2 (8 : Int32) (by decide) d4_74 ?_
  refine r_icmpN 78 X d4_75 (tlt (by decide)).2.1 ?_
  refine r_aloadN 79 X d4_78 rfl rfl ?_
  refine r_iload 81 X d4_79 rfl ?_
  refine r_aloadN 82 X d4_81 rfl rfl ?_
  refine r_iload 84 X d4_82 rfl ?_
  refine r_laload 85 X A_a2 (i := 6) (v := (.long (f 6))) (by decide) (by decide) rfl d4_84 ?_
  refine r_ldc2Long 88 X (hw _ (List.mem_of_getElem? (i := 46) rfl)) d4_85 ?_
  refine r_lxor 89 X d4_88 ?_
  refine r_lastore 90 X A_b5 (i := 6) (v := (.long ((f 6) ^^^ (-9223372036854775808 : Int64)))) (by decide) (by decide) rfl gn_b5 d4_89 ?_
  intro T h13 W13 X
  have K := K.wr W13 (Or.inr sz_b5)
  have E_a1 := E_a1.wr W13
  have F_a1_size := F_a1_size.other W13 (Or.inl ne_a1_b5)
  have F_a1_levels := F_a1_levels.other W13 (Or.inl ne_a1_b5)
  have A_a2 := A_a2.other W13 ne_a2_b5
  have A_b2 := A_b2.other W13 ne_b2_b5
  have E_b2 := E_b2.wr W13
  have E_b5 := E_b5.wr W13
  have A_b5 := A_b5.setJ W13
  refine r_iinc 93 X (1 : Int32) #[.val (.ref a1), .val (.ref a2), .val (.int (1 : Int32)), .val (.ref b5), .val (.int (7 : Int32)), .unset, .unset, .unset] d4_90 rfl rfl rfl ?_
  refine r_goto 71 X d4_93 ?_
  refine r_iload 73 X d4_71 rfl ?_
  refine r_aloadN 74 X d4_73 rfl rfl ?_
  refine r_arraylength 75 X A_a2 (8 : Int32) (by decide) d4_74 ?_
  refine r_icmpN 78 X d4_75 (tlt (by decide)).2.1 ?_
  refine r_aloadN 79 X d4_78 rfl rfl ?_
  refine r_iload 81 X d4_79 rfl ?_
  refine r_aloadN 82 X d4_81 rfl rfl ?_
  refine r_iload 84 X d4_82 rfl ?_
  refine r_laload 85 X A_a2 (i := 7) (v := (.long (f 7))) (by decide) (by decide) rfl d4_84 ?_
  refine r_ldc2Long 88 X (hw _ (List.mem_of_getElem? (i := 46) rfl)) d4_85 ?_
  refine r_lxor 89 X d4_88 ?_
  refine r_lastore 90 X A_b5 (i := 7) (v := (.long ((f 7) ^^^ (-9223372036854775808 : Int64)))) (by decide) (by decide) rfl gn_b5 d4_89 ?_
  intro T h14 W14 X
  have K := K.wr W14 (Or.inr sz_b5)
  have E_a1 := E_a1.wr W14
  have F_a1_size := F_a1_size.other W14 (Or.inl ne_a1_b5)
  have F_a1_levels := F_a1_levels.other W14 (Or.inl ne_a1_b5)
  have A_a2 := A_a2.other W14 ne_a2_b5
  have A_b2 := A_b2.other W14 ne_b2_b5
  have E_b2 := E_b2.wr W14
  have E_b5 := E_b5.wr W14
  have A_b5 := A_b5.setJ W14
  refine r_iinc 93 X (1 : Int32) #[.val (.ref a1), .val (.ref a2), .val (.int (1 : Int32)), .val (.ref b5), .val (.int (8 : Int32)), .unset, .unset, .unset] d4_90 rfl rfl rfl ?_
  refine r_goto 71 X d4_93 ?_
  refine r_iload 73 X d4_71 rfl ?_
  refine r_aloadN 74 X d4_73 rfl rfl ?_
  refine r_arraylength 75 X A_a2 (8 : Int32) (by decide) d4_74 ?_
  refine r_icmpY 96 X d4_75 (flt (by decide)).2.1 ?_
  refine r_aloadN 97 X d4_96 rfl rfl ?_
  refine r_getfield 100 X (host := "") (Or.inl (hw _ (List.mem_of_getElem? (i := 26) rfl))) Via.refl F_a1_levels d4_97 ?_
  intro T X
  refine r_iconst 101 X (0 : Int32) d4_100 rfl ?_
  refine r_aloadN 102 X d4_101 rfl rfl ?_
  refine r_aastoreA 103 X A_b2 E_b2 O_b2 E_b5 (i := 0) (by decide) (by decide) gn_b2 d4_102 ?_
  intro T h15 W15 X
  have K := K.wr W15 (Or.inr sz_b2)
  have E_a1 := E_a1.wr W15
  have F_a1_size := F_a1_size.other W15 (Or.inl ne_a1_b2)
  have F_a1_levels := F_a1_levels.other W15 (Or.inl ne_a1_b2)
  have A_a2 := A_a2.other W15 ne_a2_b2
  have A_b2 := A_b2.set W15
  have E_b2 := E_b2.wr W15
  have E_b5 := E_b5.wr W15
  have A_b5 := A_b5.other W15 (Ne.symm ne_b2_b5)
  refine r_iconst 104 X (1 : Int32) d4_103 rfl ?_
  refine r_istore 106 X #[.val (.ref a1), .val (.ref a2), .val (.int (1 : Int32)), .val (.ref b5), .val (.int (1 : Int32)), .unset, .unset, .unset] d4_104 rfl ?_
  refine r_iload 108 X d4_106 rfl ?_
  refine r_iloadN 109 X d4_108 rfl ?_
  refine r_icmpY 187 X d4_109 (flt (by decide)).2.1 ?_
  refine r_retV X d4_187 (by decide) (by decide) ?_
  exact ⟨rfl, K, b2, b5, F_a1_levels, Or.inl ⟨by decide, A_b2, A_b5.congr (fun j hj => match j, hj with | 0, _ => rfl | 1, _ => rfl | 2, _ => rfl | 3, _ => rfl | 4, _ => rfl | 5, _ => rfl | 6, _ => rfl | 7, _ => rfl | _ + 8, hj => absurd hj (by omega))⟩⟩
theorem d4_24 : decode prog_24_method_1_code 24 = .ok (.iinc 2 1, 3) := by decide +kernel
theorem d4_27 : decode prog_24_method_1_code 27 = .ok (.lload_n 3, 1) := by decide +kernel
theorem d4_28 : decode prog_24_method_1_code 28 = .ok (.ldc2_w 13, 3) := by decide +kernel
theorem d4_31 : decode prog_24_method_1_code 31 = .ok (.ladd, 1) := by decide +kernel
theorem d4_32 : decode prog_24_method_1_code 32 = .ok (.lconst 1, 1) := by decide +kernel
theorem d4_33 : decode prog_24_method_1_code 33 = .ok (.lsub, 1) := by decide +kernel
theorem d4_34 : decode prog_24_method_1_code 34 = .ok (.ldc2_w 13, 3) := by decide +kernel
theorem d4_37 : decode prog_24_method_1_code 37 = .ok (.ldiv, 1) := by decide +kernel
theorem d4_38 : decode prog_24_method_1_code 38 = .ok (.lstore_n 3, 1) := by decide +kernel
theorem d4_39 : decode prog_24_method_1_code 39 = .ok (.goto (-23), 3) := by decide +kernel
theorem d4_112 : decode prog_24_method_1_code 112 = .ok (.aload_n 3, 1) := by decide +kernel
theorem d4_113 : decode prog_24_method_1_code 113 = .ok (.astore 5, 2) := by decide +kernel
theorem d4_115 : decode prog_24_method_1_code 115 = .ok (.aload 5, 2) := by decide +kernel
theorem d4_117 : decode prog_24_method_1_code 117 = .ok (.arraylength, 1) := by decide +kernel
theorem d4_118 : decode prog_24_method_1_code 118 = .ok (.bipush 8, 2) := by decide +kernel
theorem d4_120 : decode prog_24_method_1_code 120 = .ok (.idiv, 1) := by decide +kernel
theorem d4_121 : decode prog_24_method_1_code 121 = .ok (.invokestatic 21, 3) := by decide +kernel
theorem d4_124 : decode prog_24_method_1_code 124 = .ok (.istore 6, 2) := by decide +kernel
theorem d4_126 : decode prog_24_method_1_code 126 = .ok (.iload 6, 2) := by decide +kernel
theorem d4_128 : decode prog_24_method_1_code 128 = .ok (.bipush 8, 2) := by decide +kernel
theorem d4_130 : decode prog_24_method_1_code 130 = .ok (.imul, 1) := by decide +kernel
theorem d4_131 : decode prog_24_method_1_code 131 = .ok (.newarray .long, 2) := by decide +kernel
theorem d4_133 : decode prog_24_method_1_code 133 = .ok (.astore_n 3, 1) := by decide +kernel
theorem d4_134 : decode prog_24_method_1_code 134 = .ok (.aload_n 3, 1) := by decide +kernel
theorem d4_135 : decode prog_24_method_1_code 135 = .ok (.ldc2_w 27, 3) := by decide +kernel
theorem d4_138 : decode prog_24_method_1_code 138 = .ok (.invokestatic 29, 3) := by decide +kernel
theorem d4_141 : decode prog_24_method_1_code 141 = .ok (.iconst 0, 1) := by decide +kernel
theorem d4_142 : decode prog_24_method_1_code 142 = .ok (.istore 7, 2) := by decide +kernel
theorem d4_144 : decode prog_24_method_1_code 144 = .ok (.iload 7, 2) := by decide +kernel
theorem d4_146 : decode prog_24_method_1_code 146 = .ok (.aload 5, 2) := by decide +kernel
theorem d4_148 : decode prog_24_method_1_code 148 = .ok (.arraylength, 1) := by decide +kernel
theorem d4_149 : decode prog_24_method_1_code 149 = .ok (.bipush 8, 2) := by decide +kernel
theorem d4_151 : decode prog_24_method_1_code 151 = .ok (.idiv, 1) := by decide +kernel
theorem d4_152 : decode prog_24_method_1_code 152 = .ok (.if_icmp .ge 21, 3) := by decide +kernel
theorem d4_155 : decode prog_24_method_1_code 155 = .ok (.aload_n 3, 1) := by decide +kernel
theorem d4_156 : decode prog_24_method_1_code 156 = .ok (.iload 7, 2) := by decide +kernel
theorem d4_158 : decode prog_24_method_1_code 158 = .ok (.aload 5, 2) := by decide +kernel
theorem d4_160 : decode prog_24_method_1_code 160 = .ok (.iload 7, 2) := by decide +kernel
theorem d4_162 : decode prog_24_method_1_code 162 = .ok (.bipush 8, 2) := by decide +kernel
theorem d4_164 : decode prog_24_method_1_code 164 = .ok (.imul, 1) := by decide +kernel
theorem d4_165 : decode prog_24_method_1_code 165 = .ok (.laload, 1) := by decide +kernel
theorem d4_166 : decode prog_24_method_1_code 166 = .ok (.lastore, 1) := by decide +kernel
theorem d4_167 : decode prog_24_method_1_code 167 = .ok (.iinc 7 1, 3) := by decide +kernel
theorem d4_170 : decode prog_24_method_1_code 170 = .ok (.goto (-26), 3) := by decide +kernel
theorem d4_173 : decode prog_24_method_1_code 173 = .ok (.aload_n 0, 1) := by decide +kernel
theorem d4_174 : decode prog_24_method_1_code 174 = .ok (.getfield 17, 3) := by decide +kernel
theorem d4_177 : decode prog_24_method_1_code 177 = .ok (.iload 4, 2) := by decide +kernel
theorem d4_179 : decode prog_24_method_1_code 179 = .ok (.aload_n 3, 1) := by decide +kernel
theorem d4_180 : decode prog_24_method_1_code 180 = .ok (.aastore, 1) := by decide +kernel
theorem d4_181 : decode prog_24_method_1_code 181 = .ok (.iinc 4 1, 3) := by decide +kernel
theorem d4_184 : decode prog_24_method_1_code 184 = .ok (.goto (-78), 3) := by decide +kernel
set_option maxRecDepth 65536 in
set_option maxHeartbeats 40000000 in
theorem rmIn9 (l : Launch) (Z : State) (a0 : Array Value) (hw : ∀ d ∈ tables_1, d.before a0 Z = true) (n0 : Nat) (h : Heap) (Z0 : n0 ≤ h.size) (a1 a2 : Addr) (f : Nat → Int64) (ga : n0 ≤ a1) (ne_a1_a2 : a1 ≠ a2) (E_a1 : Exa Z h a1 "com/example/skiprail/skiprail/index/GroupedKeys") (F_a1_size : Fld Z h a1 "com/example/skiprail/skiprail/index/GroupedKeys" "size" "I" (.int (0 : Int32))) (F_a1_levels : Fld Z h a1 "com/example/skiprail/skiprail/index/GroupedKeys" "levels" "[[J" .null) (A_a2 : AF Z h a2 .long 9 (fun j => .long (f j))) :
    Met1 l Z n0 [] (⟨"com/example/skiprail/skiprail/index/GroupedKeys", "<init>", "([J)V"⟩ : MethodName) prog_24_method_1_code 8 none ({ frames := 2, cells := 3, slots := 34, locals := 25 } : Room) #[(.ref a1), (.ref a2)] h (fun v h' => v = none ∧ Keep h h' [a1] ∧ GKs Z h' a1 9 f) := by
  refine met_of (plainFor_of_name pn_4) Z0 (fun m => ef_4 m a1 a2) ?_
  intro p e s m below meth c T hs0 X
  have K := Keep.refl h [a1]
  refine r_aloadN 1 X d4_0 rfl rfl ?_
  refine r_initO 4 X (hw _ (List.mem_of_getElem? (i := 18) rfl)) (hw _ (List.mem_of_getElem? (i := 19) rfl)) (hw _ (List.mem_of_getElem? (i := 20) rfl)) d4_1 rfl (by decide) 0 (Nat.le_of_eq rfl) (by decide) ?_
  intro T X
  refine r_aloadN 5 X d4_4 rfl rfl ?_
  refine r_aloadN 6 X d4_5 rfl rfl ?_
  refine r_arraylength 7 X A_a2 (9 : Int32) (by decide) d4_6 ?_
  refine r_putfield 10 X (host := "") (Or.inl (hw _ (List.mem_of_getElem? (i := 21) rfl))) Via.refl F_a1_size E_a1 (Or.inr ⟨(hw _ (List.mem_of_getElem? (i := 22) rfl)), rfl, rfl⟩) (hw _ (List.mem_of_getElem? (i := 13) rfl)) (ty := .int) (by decide) rfl rfl ga d4_7 ?_
  intro T h1 W1 X
  have K := K.wr W1 (Or.inl (List.mem_of_getElem? (i := 0) rfl))
  have E_a1 := E_a1.wr W1
  have F_a1_size := F_a1_size.same W1
  have F_a1_levels := F_a1_levels.other W1 (Or.inr (slot_ne (Or.inr (hw _ (List.mem_of_getElem? (i := 27) rfl))) (Or.inr (hw _ (List.mem_of_getElem? (i := 22) rfl))) (by decide) (t := (.array (.array .long))) (t' := .int) (by decide) (by decide)))
  have A_a2 := A_a2.other W1 (Ne.symm ne_a1_a2)
  refine r_iconst 11 X (1 : Int32) d4_10 rfl ?_
  refine r_istoreN 12 X #[.val (.ref a1), .val (.ref a2), .val (.int (1 : Int32)), .unset, .unset, .unset, .unset, .unset] d4_11 rfl ?_
  refine r_aloadN 13 X d4_12 rfl rfl ?_
  refine r_arraylength 14 X A_a2 (9 : Int32) (by decide) d4_13 ?_
  refine r_i2l 15 X d4_14 ?_
  refine r_topJ (x' := (9 : Int64)) (by decide) ?_
  refine r_lstoreN 16 X #[.val (.ref a1), .val (.ref a2), .val (.int (1 : Int32)), .val (.long (9 : Int64)), .second, .unset, .unset, .unset] d4_15 rfl ?_
  refine r_lloadN 17 X d4_16 rfl ?_
  refine r_ldc2Long 20 X (hw _ (List.mem_of_getElem? (i := 23) rfl)) d4_17 ?_
  refine r_lcmp 21 X d4_20 ?_
  refine r_ifN 24 X d4_21 ((if0 _ _).trans (tlt ((lw_gt _ _).mpr (show (8 : Int64) < (9 : Int64) by decide))).2.2.2) ?_
  refine r_iinc 27 X (1 : Int32) #[.val (.ref a1), .val (.ref a2), .val (.int (2 : Int32)), .val (.long (9 : Int64)), .second, .unset, .unset, .unset] d4_24 rfl rfl rfl ?_
  refine r_lloadN 28 X d4_27 rfl ?_
  refine r_ldc2Long 31 X (hw _ (List.mem_of_getElem? (i := 23) rfl)) d4_28 ?_
  refine r_ladd 32 X d4_31 ?_
  refine r_topJ (x' := (17 : Int64)) (by decide) ?_
  refine r_lconst 33 X (1 : Int64) d4_32 rfl ?_
  refine r_lsub 34 X d4_33 ?_
  refine r_topJ (x' := (16 : Int64)) (by decide) ?_
  refine r_ldc2Long 37 X (hw _ (List.mem_of_getElem? (i := 23) rfl)) d4_34 ?_
  refine r_ldiv 38 X d4_37 (by decide) ?_
  refine r_topJ (x' := (2 : Int64)) (by decide) ?_
  refine r_lstoreN 39 X #[.val (.ref a1), .val (.ref a2), .val (.int (2 : Int32)), .val (.long (2 : Int64)), .second, .unset, .unset, .unset] d4_38 rfl ?_
  refine r_goto 16 X d4_39 ?_
  refine r_lloadN 17 X d4_16 rfl ?_
  refine r_ldc2Long 20 X (hw _ (List.mem_of_getElem? (i := 23) rfl)) d4_17 ?_
  refine r_lcmp 21 X d4_20 ?_
  refine r_ifY 42 X d4_21 ((if0 _ _).trans (flt (fun q => (show ¬ ((8 : Int64) < (2 : Int64)) by decide) ((lw_gt _ _).mp q))).2.2.2) ?_
  refine r_aloadN 43 X d4_42 rfl rfl ?_
  refine r_iloadN 44 X d4_43 rfl ?_
  refine r_anewarrayA 47 X (ty := .long) 2 2 "[J" "[[J" (by decide) (by decide) (hw _ (List.mem_of_getElem? (i := 24) rfl)) (hw _ (List.mem_of_getElem? (i := 25) rfl)) d4_44 (by decide) (by decide) (by decide) (by decide) (by decide) ?_
  intro T h2 b2 g2 gn_b2 E2 E_b2 O_b2 A_b2 X
  have sz_b2 : h.size ≤ b2 := Nat.le_trans K.1 (Nat.le_of_eq g2.symm)
  have ne_a2_b2 : a2 ≠ b2 := Nat.ne_of_lt (Nat.lt_of_lt_of_eq A_a2.lt g2.symm)
  have ne_a1_b2 : a1 ≠ b2 := Nat.ne_of_lt (Nat.lt_of_lt_of_eq E_a1.lt g2.symm)
  have K := K.ext E2
  have E_a1 := E_a1.ext E2
  have F_a1_size := F_a1_size.ext E2
  have F_a1_levels := F_a1_levels.ext E2
  have A_a2 := A_a2.ext E2
  refine r_putfield 50 X (host := "") (Or.inl (hw _ (List.mem_of_getElem? (i := 26) rfl))) Via.refl F_a1_levels E_a1 (Or.inr ⟨(hw _ (List.mem_of_getElem? (i := 27) rfl)), rfl, rfl⟩) (hw _ (List.mem_of_getElem? (i := 13) rfl)) (ty := (.array (.array .long))) (by decide) rfl rfl ga d4_47 ?_
  intro T h3 W3 X
  have K := K.wr W3 (Or.inl (List.mem_of_getElem? (i := 0) rfl))
  have E_a1 := E_a1.wr W3
  have F_a1_size := F_a1_size.other W3 (Or.inr (slot_ne (Or.inr (hw _ (List.mem_of_getElem? (i := 22) rfl))) (Or.inr (hw _ (List.mem_of_getElem? (i := 27) rfl))) (by decide) (t := .int) (t' := (.array (.array .long))) (by decide) (by decide)))
  have F_a1_levels := F_a1_levels.same W3
  have A_a2 := A_a2.other W3 (Ne.symm ne_a1_a2)
  have A_b2 := A_b2.other W3 (Ne.symm ne_a1_b2)
  have E_b2 := E_b2.wr W3
  refine r_aloadN 51 X d4_50 rfl rfl ?_
  refine r_arraylength 52 X A_a2 (9 : Int32) (by decide) d4_51 ?_
  refine r_callS 55 X (st := []) (rmG9 l Z a0 hw n0 _ X.sz) (hw _ (List.mem_of_getElem? (i := 28) rfl)) (hw _ (List.mem_of_getElem? (i := 29) rfl)) (hw _ (List.mem_of_getElem? (i := 30) rfl)) (hw _ (List.mem_of_getElem? (i := 14) rfl)) (by decide) pd_2 [(.int (9 : Int32))] rfl rfl 0 (Nat.le_of_eq rfl) rfl (by decide) (by decide) (by decide) (by decide) d4_52 ?_
  rintro T h4 v4 ⟨rfl, rfl⟩ X
  change Run _ _ _ _ _ _ _ _ [(.int (2 : Int32))]
  refine r_bipush 57 X (8 : Int32) d4_55 rfl ?_
  refine r_imul 58 X d4_57 ?_
  refine r_topI (x' := (16 : Int32)) (by decide) ?_
  refine r_newarrayE 60 X 16 16 "[J" (by decide) (hw _ (List.mem_of_getElem? (i := 8) rfl)) d4_58 (by decide) (by decide) (by decide) (by decide) (by decide) ?_
  intro T h5 b5 g5 gn_b5 E5 E_b5 A_b5 X
  have sz_b5 : h.size ≤ b5 := Nat.le_trans K.1 (Nat.le_of_eq g5.symm)
  have ne_b2_b5 : b2 ≠ b5 := Nat.ne_of_lt (Nat.lt_of_lt_of_eq A_b2.lt g5.symm)
  have ne_a2_b5 : a2 ≠ b5 := Nat.ne_of_lt (Nat.lt_of_lt_of_eq A_a2.lt g5.symm)
  have ne_a1_b5 : a1 ≠ b5 := Nat.ne_of_lt (Nat.lt_of_lt_of_eq E_a1.lt g5.symm)
  have K := K.ext E5
  have E_a1 := E_a1.ext E5
  have F_a1_size := F_a1_size.ext E5
  have F_a1_levels := F_a1_levels.ext E5
  have A_a2 := A_a2.ext E5
  have A_b2 := A_b2.ext E5
  have E_b2 := E_b2.ext E5
  replace A_b5 : AF Z h5 b5 .long 16 (fun j => .long ((fun _ => (0 : Int64)) j)) := A_b5
  refine r_astoreN 61 X #[.val (.ref a1), .val (.ref a2), .val (.int (2 : Int32)), .val (.ref b5), .unset, .unset, .unset, .unset] d4_60 rfl rfl ?_
  refine r_aloadN 62 X d4_61 rfl rfl ?_
  refine r_ldc2Long 65 X (hw _ (List.mem_of_getElem? (i := 35) rfl)) d4_62 ?_
  refine r_callS 68 X (st := []) (rmFl l Z a0 hw n0 _ X.sz b5 (9223372036854775807 : Int64) 16 (16 : Int32) (fun _ => (0 : Int64)) (by decide) gn_b5 A_b5) (hw _ (List.mem_of_getElem? (i := 36) rfl)) (hw _ (List.mem_of_getElem? (i := 37) rfl)) (hw _ (List.mem_of_getElem? (i := 39) rfl)) (hw _ (List.mem_of_getElem? (i := 38) rfl)) (by decide) pd_3 [(.ref b5), (.long (9223372036854775807 : Int64))] rfl rfl 0 (Nat.le_of_eq rfl) rfl (by decide) (by decide) (by decide) (by decide) d4_65 ?_
  rintro T h6 v6 ⟨rfl, K6, A6⟩ X
  have K := K.trans K6 (allS (Or.inr sz_b5) all0)
  have E_a1 := E_a1.keep K6
  have F_a1_size := F_a1_size.keep K6 (ninS ne_a1_b5 nin0)
  have F_a1_levels := F_a1_levels.keep K6 (ninS ne_a1_b5 nin0)
  have A_a2 := A_a2.keep K6 (ninS ne_a2_b5 nin0)
  have A_b2 := A_b2.keep K6 (ninS ne_b2_b5 nin0)
  have E_b2 := E_b2.keep K6
  have E_b5 := E_b5.keep K6
  replace A6 : AF Z h6 b5 .long 16 (fun j => .long ((fun _ => (9223372036854775807 : Int64)) j)) := A6
  have A_b5 := A6
  change Run _ _ _ _ _ _ _ _ []
  refine r_iconst 69 X (0 : Int32) d4_68 rfl ?_
  refine r_istore 71 X #[.val (.ref a1), .val (.ref a2), .val (.int (2 : Int32)), .val (.ref b5), .val (.int (0 : Int32)), .unset, .unset, .unset] d4_69 rfl ?_
  refine r_iload 73 X d4_71 rfl ?_
  refine r_aloadN 74 X d4_73 rfl rfl ?_
  refine r_arraylength 75 X A_a2 (9 : Int32) (by decide) d4_74 ?_
  refine r_icmpN 78 X d4_75 (tlt (by decide)).2.1 ?_
  refine r_aloadN 79 X d4_78 rfl rfl ?_
  refine r_iload 81 X d4_79 rfl ?_
  refine r_aloadN 82 X d4_81 rfl rfl ?_
  refine r_iload 84 X d4_82 rfl ?_
  refine r_laload 85 X A_a2 (i := 0) (v := (.long (f 0))) (by decide) (by decide) rfl d4_84 ?_
  refine r_ldc2Long 88 X (hw _ (List.mem_of_getElem? (i := 46) rfl)) d4_85 ?_
  refine r_lxor 89 X d4_88 ?_
  refine r_lastore 90 X A_b5 (i := 0) (v := (.long ((f 0) ^^^ (-9223372036854775808 : Int64)))) (by decide) (by decide) rfl gn_b5 d4_89 ?_
  intro T h7 W7 X
  have K := K.wr W7 (Or.inr sz_b5)
  have E_a1 := E_a1.wr W7
  have F_a1_size := F_a1_size.other W7 (Or.inl ne_a1_b5)
  have F_a1_levels := F_a1_levels.other W7 (Or.inl ne_a1_b5)
  have A_a2 := A_a2.other W7 ne_a2_b5
  have A_b2 := A_b2.other W7 ne_b2_b5
  have E_b2 := E_b2.wr W7
  have E_b5 := E_b5.wr W7
  have A_b5 := A_b5.setJ W7
  refine r_iinc 93 X (1 : Int32) #[.val (.ref a1), .val (.ref a2), .val (.int (2 : Int32)), .val (.ref b5), .val (.int (1 : Int32)), .unset, .unset, .unset] d4_90 rfl rfl rfl ?_
  refine r_goto 71 X d4_93 ?_
  refine r_iload 73 X d4_71 rfl ?_
  refine r_aloadN 74 X d4_73 rfl rfl ?_
  refine r_arraylength 75 X A_a2 (9 : Int32) (by decide) d4_74 ?_
  refine r_icmpN 78 X d4_75 (tlt (by decide)).2.1 ?_
  refine r_aloadN 79 X d4_78 rfl rfl ?_
  refine r_iload 81 X d4_79 rfl ?_
  refine r_aloadN 82 X d4_81 rfl rfl ?_
  refine r_iload 84 X d4_82 rfl ?_
  refine r_laload 85 X A_a2 (i := 1) (v := (.long (f 1))) (by decide) (by decide) rfl d4_84 ?_
  refine r_ldc2Long 88 X (hw _ (List.mem_of_getElem? (i := 46) rfl)) d4_85 ?_
  refine r_lxor 89 X d4_88 ?_
  refine r_lastore 90 X A_b5 (i := 1) (v := (.long ((f 1) ^^^ (-9223372036854775808 : Int64)))) (by decide) (by decide) rfl gn_b5 d4_89 ?_
  intro T h8 W8 X
  have K := K.wr W8 (Or.inr sz_b5)
  have E_a1 := E_a1.wr W8
  have F_a1_size := F_a1_size.other W8 (Or.inl ne_a1_b5)
  have F_a1_levels := F_a1_levels.other W8 (Or.inl ne_a1_b5)
  have A_a2 := A_a2.other W8 ne_a2_b5
  have A_b2 := A_b2.other W8 ne_b2_b5
  have E_b2 := E_b2.wr W8
  have E_b5 := E_b5.wr W8
  have A_b5 := A_b5.setJ W8
  refine r_iinc 93 X (1 : Int32) #[.val (.ref a1), .val (.ref a2), .val (.int (2 : Int32)), .val (.ref b5), .val (.int (2 : Int32)), .unset, .unset, .unset] d4_90 rfl rfl rfl ?_
  refine r_goto 71 X d4_93 ?_
  refine r_iload 73 X d4_71 rfl ?_
  refine r_aloadN 74 X d4_73 rfl rfl ?_
  refine r_arraylength 75 X A_a2 (9 : Int32) (by decide) d4_74 ?_
  refine r_icmpN 78 X d4_75 (tlt (by decide)).2.1 ?_
  refine r_aloadN 79 X d4_78 rfl rfl ?_
  refine r_iload 81 X d4_79 rfl ?_
  refine r_aloadN 82 X d4_81 rfl rfl ?_
  refine r_iload 84 X d4_82 rfl ?_
  refine r_laload 85 X A_a2 (i := 2) (v := (.long (f 2))) (by decide) (by decide) rfl d4_84 ?_
  refine r_ldc2Long 88 X (hw _ (List.mem_of_getElem? (i := 46) rfl)) d4_85 ?_
  refine r_lxor 89 X d4_88 ?_
  refine r_lastore 90 X A_b5 (i := 2) (v := (.long ((f 2) ^^^ (-9223372036854775808 : Int64)))) (by decide) (by decide) rfl gn_b5 d4_89 ?_
  intro T h9 W9 X
  have K := K.wr W9 (Or.inr sz_b5)
  have E_a1 := E_a1.wr W9
  have F_a1_size := F_a1_size.other W9 (Or.inl ne_a1_b5)
  have F_a1_levels := F_a1_levels.other W9 (Or.inl ne_a1_b5)
  have A_a2 := A_a2.other W9 ne_a2_b5
  have A_b2 := A_b2.other W9 ne_b2_b5
  have E_b2 := E_b2.wr W9
  have E_b5 := E_b5.wr W9
  have A_b5 := A_b5.setJ W9
  refine r_iinc 93 X (1 : Int32) #[.val (.ref a1), .val (.ref a2), .val (.int (2 : Int32)), .val (.ref b5), .val (.int (3 : Int32)), .unset, .unset, .unset] d4_90 rfl rfl rfl ?_
  refine r_goto 71 X d4_93 ?_
  refine r_iload 73 X d4_71 rfl ?_
  refine r_aloadN 74 X d4_73 rfl rfl ?_
  refine r_arraylength 75 X A_a2 (9 : Int32) (by decide) d4_74 ?_
  refine r_icmpN 78 X d4_75 (tlt (by decide)).2.1 ?_
  refine r_aloadN 79 X d4_78 rfl rfl ?_
  refine r_iload 81 X d4_79 rfl ?_
  refine r_aloadN 82 X d4_81 rfl rfl ?_
  refine r_iload 84 X d4_82 rfl ?_
  refine r_laload 85 X A_a2 (i := 3) (v := (.long (f 3))) (by decide) (by decide) rfl d4_84 ?_
  refine r_ldc2Long 88 X (hw _ (List.mem_of_getElem? (i := 46) rfl)) d4_85 ?_
  refine r_lxor 89 X d4_88 ?_
  refine r_lastore 90 X A_b5 (i := 3) (v := (.long ((f 3) ^^^ (-9223372036854775808 : Int64)))) (by decide) (by decide) rfl gn_b5 d4_89 ?_
  intro T h10 W10 X
  have K := K.wr W10 (Or.inr sz_b5)
  have E_a1 := E_a1.wr W10
  have F_a1_size := F_a1_size.other W10 (Or.inl ne_a1_b5)
  have F_a1_levels := F_a1_levels.other W10 (Or.inl ne_a1_b5)
  have A_a2 := A_a2.other W10 ne_a2_b5
  have A_b2 := A_b2.other W10 ne_b2_b5
  have E_b2 := E_b2.wr W10
  have E_b5 := E_b5.wr W10
  have A_b5 := A_b5.setJ W10
  refine r_iinc 93 X (1 : Int32) #[.val (.ref a1), .val (.ref a2), .val (.int (2 : Int32)), .val (.ref b5), .val (.int (4 : Int32)), .unset, .unset, .unset] d4_90 rfl rfl rfl ?_
  refine r_goto 71 X d4_93 ?_
  refine r_iload 73 X d4_71 rfl ?_
  refine r_aloadN 74 X d4_73 rfl rfl ?_
  refine r_arraylength 75 X A_a2 (9 : Int32) (by decide) d4_74 ?_
  refine r_icmpN 78 X d4_75 (tlt (by decide)).2.1 ?_
  refine r_aloadN 79 X d4_78 rfl rfl ?_
  refine r_iload 81 X d4_79 rfl ?_
  refine r_aloadN 82 X d4_81 rfl rfl ?_
  refine r_iload 84 X d4_82 rfl ?_
  refine r_laload 85 X A_a2 (i := 4) (v := (.long (f 4))) (by decide) (by decide) rfl d4_84 ?_
  refine r_ldc2Long 88 X (hw _ (List.mem_of_getElem? (i := 46) rfl)) d4_85 ?_
  refine r_lxor 89 X d4_88 ?_
  refine r_lastore 90 X A_b5 (i := 4) (v := (.long ((f 4) ^^^ (-9223372036854775808 : Int64)))) (by decide) (by decide) rfl gn_b5 d4_89 ?_
  intro T h11 W11 X
  have K := K.wr W11 (Or.inr sz_b5)
  have E_a1 := E_a1.wr W11
  have F_a1_size := F_a1_size.other W11 (Or.inl ne_a1_b5)
  have F_a1_levels := F_a1_levels.other W11 (Or.inl ne_a1_b5)
  have A_a2 := A_a2.other W11 ne_a2_b5
  have A_b2 := A_b2.other W11 ne_b2_b5
  have E_b2 := E_b2.wr W11
  have E_b5 := E_b5.wr W11
  have A_b5 := A_b5.setJ W11
  refine r_iinc 93 X (1 : Int32) #[.val (.ref a1), .val (.ref a2), .val (.int (2 : Int32)), .val (.ref b5), .val (.int (5 : Int32)), .unset, .unset, .unset] d4_90 rfl rfl rfl ?_
  refine r_goto 71 X d4_93 ?_
  refine r_iload 73 X d4_71 rfl ?_
  refine r_aloadN 74 X d4_73 rfl rfl ?_
  refine r_arraylength 75 X A_a2 (9 : Int32) (by decide) d4_74 ?_
  refine r_icmpN 78 X d4_75 (tlt (by decide)).2.1 ?_
  refine r_aloadN 79 X d4_78 rfl rfl ?_
  refine r_iload 81 X d4_79 rfl ?_
  refine r_aloadN 82 X d4_81 rfl rfl ?_
  refine r_iload 84 X d4_82 rfl ?_
  refine r_laload 85 X A_a2 (i := 5) (v := (.long (f 5))) (by decide) (by decide) rfl d4_84 ?_
  refine r_ldc2Long 88 X (hw _ (List.mem_of_getElem? (i := 46) rfl)) d4_85 ?_
  refine r_lxor 89 X d4_88 ?_
  refine r_lastore 90 X A_b5 (i := 5) (v := (.long ((f 5) ^^^ (-9223372036854775808 : Int64)))) (by decide) (by decide) rfl gn_b5 d4_89 ?_
  intro T h12 W12 X
  have K := K.wr W12 (Or.inr sz_b5)
  have E_a1 := E_a1.wr W12
  have F_a1_size := F_a1_size.other W12 (Or.inl ne_a1_b5)
  have F_a1_levels := F_a1_levels.other W12 (Or.inl ne_a1_b5)
  have A_a2 := A_a2.other W12 ne_a2_b5
  have A_b2 := A_b2.other W12 ne_b2_b5
  have E_b2 := E_b2.wr W12
  have E_b5 := E_b5.wr W12
  have A_b5 := A_b5.setJ W12
  refine r_iinc 93 X (1 : Int32) #[.val (.ref a1), .val (.ref a2), .val (.int (2 : Int32)), .val (.ref b5), .val (.int (6 : Int32)), .unset, .unset, .unset] d4_90 rfl rfl rfl ?_
  refine r_goto 71 X d4_93 ?_
  refine r_iload 73 X d4_71 rfl ?_
  refine r_aloadN 74 X d4_73 rfl rfl ?_
  refine r_arraylength 75 X A_a2 (9 : Int32) (by decide) d4_74 ?_
  refine r_icmpN 78 X d4_75 (tlt (by decide)).2.1 ?_
  refine r_aloadN 79 X d4_78 rfl rfl ?_
  refine r_iload 81 X d4_79 rfl ?_
  refine r_aloadN 82 X d4_81 rfl rfl ?_
  refine r_iload 84 X d4_82 rfl ?_
  refine r_laload 85 X A_a2 (i := 6) (v := (.long (f 6))) (by decide) (by decide) rfl d4_84 ?_
  refine r_ldc2Long 88 X (hw _ (List.mem_of_getElem? (i := 46) rfl)) d4_85 ?_
  refine r_lxor 89 X d4_88 ?_
  refine r_lastore 90 X A_b5 (i := 6) (v := (.long ((f 6) ^^^ (-9223372036854775808 : Int64)))) (by decide) (by decide) rfl gn_b5 d4_89 ?_
  intro T h13 W13 X
  have K := K.wr W13 (Or.inr sz_b5)
  have E_a1 := E_a1.wr W13
  have F_a1_size := F_a1_size.other W13 (Or.inl ne_a1_b5)
  have F_a1_levels := F_a1_levels.other W13 (Or.inl ne_a1_b5)
  have A_a2 := A_a2.other W13 ne_a2_b5
  have A_b2 := A_b2.other W13 ne_b2_b5
  have E_b2 := E_b2.wr W13
  have E_b5 := E_b5.wr W13
  have A_b5 := A_b5.setJ W13
  refine r_iinc 93 X (1 : Int32) #[.val (.ref a1), .val (.ref a2), .val (.int (2 : Int32)), .val (.ref b5), .val (.int (7 : Int32)), .unset, .unset, .unset] d4_90 rfl rfl rfl ?_
  refine r_goto 71 X d4_93 ?_
  refine r_iload 73 X d4_71 rfl ?_
  refine r_aloadN 74 X d4_73 rfl rfl ?_
  refine r_arraylength 75 X A_a2 (9 : Int32) (by decide) d4_74 ?_
  refine r_icmpN 78 X d4_75 (tlt (by decide)).2.1 ?_
  refine r_aloadN 79 X d4_78 rfl rfl ?_
  refine r_iload 81 X d4_79 rfl ?_
  refine r_aloadN 82 X d4_81 rfl rfl ?_
  refine r_iload 84 X d4_82 rfl ?_
  refine r_laload 85 X A_a2 (i := 7) (v := (.long (f 7))) (by decide) (by decide) rfl d4_84 ?_
  refine r_ldc2Long 88 X (hw _ (List.mem_of_getElem? (i := 46) rfl)) d4_85 ?_
  refine r_lxor 89 X d4_88 ?_
  refine r_lastore 90 X A_b5 (i := 7) (v := (.long ((f 7) ^^^ (-9223372036854775808 : Int64)))) (by decide) (by decide) rfl gn_b5 d4_89 ?_
  intro T h14 W14 X
  have K := K.wr W14 (Or.inr sz_b5)
  have E_a1 := E_a1.wr W14
  have F_a1_size := F_a1_size.other W14 (Or.inl ne_a1_b5)
  have F_a1_levels := F_a1_levels.other W14 (Or.inl ne_a1_b5)
  have A_a2 := A_a2.other W14 ne_a2_b5
  have A_b2 := A_b2.other W14 ne_b2_b5
  have E_b2 := E_b2.wr W14
  have E_b5 := E_b5.wr W14
  have A_b5 := A_b5.setJ W14
  refine r_iinc 93 X (1 : Int32) #[.val (.ref a1), .val (.ref a2), .val (.int (2 : Int32)), .val (.ref b5), .val (.int (8 : Int32)), .unset, .unset, .unset] d4_90 rfl rfl rfl ?_
  refine r_goto 71 X d4_93 ?_
  refine r_iload 73 X d4_71 rfl ?_
  refine r_aloadN 74 X d4_73 rfl rfl ?_
  refine r_arraylength 75 X A_a2 (9 : Int32) (by decide) d4_74 ?_
  refine r_icmpN 78 X d4_75 (tlt (by decide)).2.1 ?_
  refine r_aloadN 79 X d4_78 rfl rfl ?_
  refine r_iload 81 X d4_79 rfl ?_
  refine r_aloadN 82 X d4_81 rfl rfl ?_
  refine r_iload 84 X d4_82 rfl ?_
  refine r_laload 85 X A_a2 (i := 8) (v := (.long (f 8))) (by decide) (by decide) rfl d4_84 ?_
  refine r_ldc2Long 88 X (hw _ (List.mem_of_getElem? (i := 46) rfl)) d4_85 ?_
  refine r_lxor 89 X d4_88 ?_
  refine r_lastore 90 X A_b5 (i := 8) (v := (.long ((f 8) ^^^ (-9223372036854775808 : Int64)))) (by decide) (by decide) rfl gn_b5 d4_89 ?_
  intro T h15 W15 X
  have K := K.wr W15 (Or.inr sz_b5)
  have E_a1 := E_a1.wr W15
  have F_a1_size := F_a1_size.other W15 (Or.inl ne_a1_b5)
  have F_a1_levels := F_a1_levels.other W15 (Or.inl ne_a1_b5)
  have A_a2 := A_a2.other W15 ne_a2_b5
  have A_b2 := A_b2.other W15 ne_b2_b5
  have E_b2 := E_b2.wr W15
  have E_b5 := E_b5.wr W15
  have A_b5 := A_b5.setJ W15
  refine r_iinc 93 X (1 : Int32) #[.val (.ref a1), .val (.ref a2), .val (.int (2 : Int32)), .val (.ref b5), .val (.int (9 : Int32)), .unset, .unset, .unset] d4_90 rfl rfl rfl ?_
  refine r_goto 71 X d4_93 ?_
  refine r_iload 73 X d4_71 rfl ?_
  refine r_aloadN 74 X d4_73 rfl rfl ?_
  refine r_arraylength 75 X A_a2 (9 : Int32) (by decide) d4_74 ?_
  refine r_icmpY 96 X d4_75 (flt (by decide)).2.1 ?_
  refine r_aloadN 97 X d4_96 rfl rfl ?_
  refine r_getfield 100 X (host := "") (Or.inl (hw _ (List.mem_of_getElem? (i := 26) rfl))) Via.refl F_a1_levels d4_97 ?_
  intro T X
  refine r_iconst 101 X (0 : Int32) d4_100 rfl ?_
  refine r_aloadN 102 X d4_101 rfl rfl ?_
  refine r_aastoreA 103 X A_b2 E_b2 O_b2 E_b5 (i := 0) (by decide) (by decide) gn_b2 d4_102 ?_
  intro T h16 W16 X
  have K := K.wr W16 (Or.inr sz_b2)
  have E_a1 := E_a1.wr W16
  have F_a1_size := F_a1_size.other W16 (Or.inl ne_a1_b2)
  have F_a1_levels := F_a1_levels.other W16 (Or.inl ne_a1_b2)
  have A_a2 := A_a2.other W16 ne_a2_b2
  have A_b2 := A_b2.set W16
  have E_b2 := E_b2.wr W16
  have E_b5 := E_b5.wr W16
  have A_b5 := A_b5.other W16 (Ne.symm ne_b2_b5)
  refine r_iconst 104 X (1 : Int32) d4_103 rfl ?_
  refine r_istore 106 X #[.val (.ref a1), .val (.ref a2), .val (.int (2 : Int32)), .val (.ref b5), .val (.int (1 : Int32)), .unset, .unset, .unset] d4_104 rfl ?_
  refine r_iload 108 X d4_106 rfl ?_
  refine r_iloadN 109 X d4_108 rfl ?_
  refine r_icmpN 112 X d4_109 (tlt (by decide)).2.1 ?_
  refine r_aloadN 113 X d4_112 rfl rfl ?_
  refine r_astore 115 X #[.val (.ref a1), .val (.ref a2), .val (.int (2 : Int32)), .val (.ref b5), .val (.int (1 : Int32)), .val (.ref b5), .unset, .unset] d4_113 rfl rfl ?_
  refine r_aload 117 X d4_115 rfl rfl ?_
  refine r_arraylength 118 X A_b5 (16 : Int32) (by decide) d4_117 ?_
  refine r_bipush 120 X (8 : Int32) d4_118 rfl ?_
  refine r_idiv 121 X d4_120 (by decide) ?_
  refine r_topI (x' := (2 : Int32)) (by decide) ?_
  refine r_callS 124 X (st := []) (rmG2 l Z a0 hw n0 _ X.sz) (hw _ (List.mem_of_getElem? (i := 28) rfl)) (hw _ (List.mem_of_getElem? (i := 29) rfl)) (hw _ (List.mem_of_getElem? (i := 30) rfl)) (hw _ (List.mem_of_getElem? (i := 14) rfl)) (by decide) pd_2 [(.int (2 : Int32))] rfl rfl 0 (Nat.le_of_eq rfl) rfl (by decide) (by decide) (by decide) (by decide) d4_121 ?_
  rintro T h17 v17 ⟨rfl, rfl⟩ X
  change Run _ _ _ _ _ _ _ _ [(.int (1 : Int32))]
  refine r_istore 126 X #[.val (.ref a1), .val (.ref a2), .val (.int (2 : Int32)), .val (.ref b5), .val (.int (1 : Int32)), .val (.ref b5), .val (.int (1 : Int32)), .unset] d4_124 rfl ?_
  refine r_iload 128 X d4_126 rfl ?_
  refine r_bipush 130 X (8 : Int32) d4_128 rfl ?_
  refine r_imul 131 X d4_130 ?_
  refine r_topI (x' := (8 : Int32)) (by decide) ?_
  refine r_newarrayE 133 X 8 8 "[J" (by decide) (hw _ (List.mem_of_getElem? (i := 8) rfl)) d4_131 (by decide) (by decide) (by decide) (by decide) (by decide) ?_
  intro T h18 b18 g18 gn_b18 E18 E_b18 A_b18 X
  have sz_b18 : h.size ≤ b18 := Nat.le_trans K.1 (Nat.le_of_eq g18.symm)
  have ne_b2_b18 : b2 ≠ b18 := Nat.ne_of_lt (Nat.lt_of_lt_of_eq A_b2.lt g18.symm)
  have ne_a2_b18 : a2 ≠ b18 := Nat.ne_of_lt (Nat.lt_of_lt_of_eq A_a2.lt g18.symm)
  have ne_b5_b18 : b5 ≠ b18 := Nat.ne_of_lt (Nat.lt_of_lt_of_eq E_b5.lt g18.symm)
  have ne_a1_b18 : a1 ≠ b18 := Nat.ne_of_lt (Nat.lt_of_lt_of_eq E_a1.lt g18.symm)
  have K := K.ext E18
  have E_a1 := E_a1.ext E18
  have F_a1_size := F_a1_size.ext E18
  have F_a1_levels := F_a1_levels.ext E18
  have A_a2 := A_a2.ext E18
  have A_b2 := A_b2.ext E18
  have E_b2 := E_b2.ext E18
  have E_b5 := E_b5.ext E18
  have A_b5 := A_b5.ext E18
  replace A_b18 : AF Z h18 b18 .long 8 (fun j => .long ((fun _ => (0 : Int64)) j)) := A_b18
  refine r_astoreN 134 X #[.val (.ref a1), .val (.ref a2), .val (.int (2 : Int32)), .val (.ref b18), .val (.int (1 : Int32)), .val (.ref b5), .val (.int (1 : Int32)), .unset] d4_133 rfl rfl ?_
  refine r_aloadN 135 X d4_134 rfl rfl ?_
  refine r_ldc2Long 138 X (hw _ (List.mem_of_getElem? (i := 35) rfl)) d4_135 ?_
  refine r_callS 141 X (st := []) (rmFl l Z a0 hw n0 _ X.sz b18 (9223372036854775807 : Int64) 8 (8 : Int32) (fun _ => (0 : Int64)) (by decide) gn_b18 A_b18) (hw _ (List.mem_of_getElem? (i := 36) rfl)) (hw _ (List.mem_of_getElem? (i := 37) rfl)) (hw _ (List.mem_of_getElem? (i := 39) rfl)) (hw _ (List.mem_of_getElem? (i := 38) rfl)) (by decide) pd_3 [(.ref b18), (.long (9223372036854775807 : Int64))] rfl rfl 0 (Nat.le_of_eq rfl) rfl (by decide) (by decide) (by decide) (by decide) d4_138 ?_
  rintro T h19 v19 ⟨rfl, K19, A19⟩ X
  have K := K.trans K19 (allS (Or.inr sz_b18) all0)
  have E_a1 := E_a1.keep K19
  have F_a1_size := F_a1_size.keep K19 (ninS ne_a1_b18 nin0)
  have F_a1_levels := F_a1_levels.keep K19 (ninS ne_a1_b18 nin0)
  have A_a2 := A_a2.keep K19 (ninS ne_a2_b18 nin0)
  have A_b2 := A_b2.keep K19 (ninS ne_b2_b18 nin0)
  have E_b2 := E_b2.keep K19
  have E_b5 := E_b5.keep K19
  have A_b5 := A_b5.keep K19 (ninS ne_b5_b18 nin0)
  have E_b18 := E_b18.keep K19
  replace A19 : AF Z h19 b18 .long 8 (fun j => .long ((fun _ => (9223372036854775807 : Int64)) j)) := A19
  have A_b18 := A19
  change Run _ _ _ _ _ _ _ _ []
  refine r_iconst 142 X (0 : Int32) d4_141 rfl ?_
  refine r_istore 144 X #[.val (.ref a1), .val (.ref a2), .val (.int (2 : Int32)), .val (.ref b18), .val (.int (1 : Int32)), .val (.ref b5), .val (.int (1 : Int32)), .val (.int (0 : Int32))] d4_142 rfl ?_
  refine r_iload 146 X d4_144 rfl ?_
  refine r_aload 148 X d4_146 rfl rfl ?_
  refine r_arraylength 149 X A_b5 (16 : Int32) (by decide) d4_148 ?_
  refine r_bipush 151 X (8 : Int32) d4_149 rfl ?_
  refine r_idiv 152 X d4_151 (by decide) ?_
  refine r_topI (x' := (2 : Int32)) (by decide) ?_
  refine r_icmpN 155 X d4_152 (tlt (by decide)).2.1 ?_
  refine r_aloadN 156 X d4_155 rfl rfl ?_
  refine r_iload 158 X d4_156 rfl ?_
  refine r_aload 160 X d4_158 rfl rfl ?_
  refine r_iload 162 X d4_160 rfl ?_
  refine r_bipush 164 X (8 : Int32) d4_162 rfl ?_
  refine r_imul 165 X d4_164 ?_
  refine r_topI (x' := (0 : Int32)) (by decide) ?_
  refine r_laload 166 X A_b5 (i := 0) (v := (.long ((f 0) ^^^ (-9223372036854775808 : Int64)))) (by decide) (by decide) rfl d4_165 ?_
  refine r_lastore 167 X A_b18 (i := 0) (v := (.long ((f 0) ^^^ (-9223372036854775808 : Int64)))) (by decide) (by decide) rfl gn_b18 d4_166 ?_
  intro T h20 W20 X
  have K := K.wr W20 (Or.inr sz_b18)
  have E_a1 := E_a1.wr W20
  have F_a1_size := F_a1_size.other W20 (Or.inl ne_a1_b18)
  have F_a1_levels := F_a1_levels.other W20 (Or.inl ne_a1_b18)
  have A_a2 := A_a2.other W20 ne_a2_b18
  have A_b2 := A_b2.other W20 ne_b2_b18
  have E_b2 := E_b2.wr W20
  have E_b5 := E_b5.wr W20
  have A_b5 := A_b5.other W20 ne_b5_b18
  have E_b18 := E_b18.wr W20
  have A_b18 := A_b18.setJ W20
  refine r_iinc 170 X (1 : Int32) #[.val (.ref a1), .val (.ref a2), .val (.int (2 : Int32)), .val (.ref b18), .val (.int (1 : Int32)), .val (.ref b5), .val (.int (1 : Int32)), .val (.int (1 : Int32))] d4_167 rfl rfl rfl ?_
  refine r_goto 144 X d4_170 ?_
  refine r_iload 146 X d4_144 rfl ?_
  refine r_aload 148 X d4_146 rfl rfl ?_
  refine r_arraylength 149 X A_b5 (16 : Int32) (by decide) d4_148 ?_
  refine r_bipush 151 X (8 : Int32) d4_149 rfl ?_
  refine r_idiv 152 X d4_151 (by decide) ?_
  refine r_topI (x' := (2 : Int32)) (by decide) ?_
  refine r_icmpN 155 X d4_152 (tlt (by decide)).2.1 ?_
  refine r_aloadN 156 X d4_155 rfl rfl ?_
  refine r_iload 158 X d4_156 rfl ?_
  refine r_aload 160 X d4_158 rfl rfl ?_
  refine r_iload 162 X d4_160 rfl ?_
  refine r_bipush 164 X (8 : Int32) d4_162 rfl ?_
  refine r_imul 165 X d4_164 ?_
  refine r_topI (x' := (8 : Int32)) (by decide) ?_
  refine r_laload 166 X A_b5 (i := 8) (v := (.long ((f 8) ^^^ (-9223372036854775808 : Int64)))) (by decide) (by decide) rfl d4_165 ?_
  refine r_lastore 167 X A_b18 (i := 1) (v := (.long ((f 8) ^^^ (-9223372036854775808 : Int64)))) (by decide) (by decide) rfl gn_b18 d4_166 ?_
  intro T h21 W21 X
  have K := K.wr W21 (Or.inr sz_b18)
  have E_a1 := E_a1.wr W21
  have F_a1_size := F_a1_size.other W21 (Or.inl ne_a1_b18)
  have F_a1_levels := F_a1_levels.other W21 (Or.inl ne_a1_b18)
  have A_a2 := A_a2.other W21 ne_a2_b18
  have A_b2 := A_b2.other W21 ne_b2_b18
  have E_b2 := E_b2.wr W21
  have E_b5 := E_b5.wr W21
  have A_b5 := A_b5.other W21 ne_b5_b18
  have E_b18 := E_b18.wr W21
  have A_b18 := A_b18.setJ W21
  refine r_iinc 170 X (1 : Int32) #[.val (.ref a1), .val (.ref a2), .val (.int (2 : Int32)), .val (.ref b18), .val (.int (1 : Int32)), .val (.ref b5), .val (.int (1 : Int32)), .val (.int (2 : Int32))] d4_167 rfl rfl rfl ?_
  refine r_goto 144 X d4_170 ?_
  refine r_iload 146 X d4_144 rfl ?_
  refine r_aload 148 X d4_146 rfl rfl ?_
  refine r_arraylength 149 X A_b5 (16 : Int32) (by decide) d4_148 ?_
  refine r_bipush 151 X (8 : Int32) d4_149 rfl ?_
  refine r_idiv 152 X d4_151 (by decide) ?_
  refine r_topI (x' := (2 : Int32)) (by decide) ?_
  refine r_icmpY 173 X d4_152 (flt (by decide)).2.1 ?_
  refine r_aloadN 174 X d4_173 rfl rfl ?_
  refine r_getfield 177 X (host := "") (Or.inl (hw _ (List.mem_of_getElem? (i := 26) rfl))) Via.refl F_a1_levels d4_174 ?_
  intro T X
  refine r_iload 179 X d4_177 rfl ?_
  refine r_aloadN 180 X d4_179 rfl rfl ?_
  refine r_aastoreA 181 X A_b2 E_b2 O_b2 E_b18 (i := 1) (by decide) (by decide) gn_b2 d4_180 ?_
  intro T h22 W22 X
  have K := K.wr W22 (Or.inr sz_b2)
  have E_a1 := E_a1.wr W22
  have F_a1_size := F_a1_size.other W22 (Or.inl ne_a1_b2)
  have F_a1_levels := F_a1_levels.other W22 (Or.inl ne_a1_b2)
  have A_a2 := A_a2.other W22 ne_a2_b2
  have A_b2 := A_b2.set W22
  have E_b2 := E_b2.wr W22
  have E_b5 := E_b5.wr W22
  have A_b5 := A_b5.other W22 (Ne.symm ne_b2_b5)
  have E_b18 := E_b18.wr W22
  have A_b18 := A_b18.other W22 (Ne.symm ne_b2_b18)
  refine r_iinc 184 X (1 : Int32) #[.val (.ref a1), .val (.ref a2), .val (.int (2 : Int32)), .val (.ref b18), .val (.int (2 : Int32)), .val (.ref b5), .val (.int (1 : Int32)), .val (.int (2 : Int32))] d4_181 rfl rfl rfl ?_
  refine r_goto 106 X d4_184 ?_
  refine r_iload 108 X d4_106 rfl ?_
  refine r_iloadN 109 X d4_108 rfl ?_
  refine r_icmpY 187 X d4_109 (flt (by decide)).2.1 ?_
  refine r_retV X d4_187 (by decide) (by decide) ?_
  exact ⟨rfl, K, b2, b5, F_a1_levels, Or.inr ⟨b18, 2, by decide, by decide, A_b2, A_b5.congr (fun j hj => match j, hj with | 0, _ => rfl | 1, _ => rfl | 2, _ => rfl | 3, _ => rfl | 4, _ => rfl | 5, _ => rfl | 6, _ => rfl | 7, _ => rfl | 8, _ => rfl | 9, _ => rfl | 10, _ => rfl | 11, _ => rfl | 12, _ => rfl | 13, _ => rfl | 14, _ => rfl | 15, _ => rfl | _ + 16, hj => absurd hj (by omega)), A_b18.congr (fun j hj => match j, hj with | 0, _ => rfl | 1, _ => rfl | 2, _ => rfl | 3, _ => rfl | 4, _ => rfl | 5, _ => rfl | 6, _ => rfl | 7, _ => rfl | _ + 8, hj => absurd hj (by omega))⟩⟩
set_option maxRecDepth 65536 in
set_option maxHeartbeats 40000000 in
theorem rmIn17 (l : Launch) (Z : State) (a0 : Array Value) (hw : ∀ d ∈ tables_1, d.before a0 Z = true) (n0 : Nat) (h : Heap) (Z0 : n0 ≤ h.size) (a1 a2 : Addr) (f : Nat → Int64) (ga : n0 ≤ a1) (ne_a1_a2 : a1 ≠ a2) (E_a1 : Exa Z h a1 "com/example/skiprail/skiprail/index/GroupedKeys") (F_a1_size : Fld Z h a1 "com/example/skiprail/skiprail/index/GroupedKeys" "size" "I" (.int (0 : Int32))) (F_a1_levels : Fld Z h a1 "com/example/skiprail/skiprail/index/GroupedKeys" "levels" "[[J" .null) (A_a2 : AF Z h a2 .long 17 (fun j => .long (f j))) :
    Met1 l Z n0 [] (⟨"com/example/skiprail/skiprail/index/GroupedKeys", "<init>", "([J)V"⟩ : MethodName) prog_24_method_1_code 8 none ({ frames := 2, cells := 3, slots := 34, locals := 25 } : Room) #[(.ref a1), (.ref a2)] h (fun v h' => v = none ∧ Keep h h' [a1] ∧ GKs Z h' a1 17 f) := by
  refine met_of (plainFor_of_name pn_4) Z0 (fun m => ef_4 m a1 a2) ?_
  intro p e s m below meth c T hs0 X
  have K := Keep.refl h [a1]
  refine r_aloadN 1 X d4_0 rfl rfl ?_
  refine r_initO 4 X (hw _ (List.mem_of_getElem? (i := 18) rfl)) (hw _ (List.mem_of_getElem? (i := 19) rfl)) (hw _ (List.mem_of_getElem? (i := 20) rfl)) d4_1 rfl (by decide) 0 (Nat.le_of_eq rfl) (by decide) ?_
  intro T X
  refine r_aloadN 5 X d4_4 rfl rfl ?_
  refine r_aloadN 6 X d4_5 rfl rfl ?_
  refine r_arraylength 7 X A_a2 (17 : Int32) (by decide) d4_6 ?_
  refine r_putfield 10 X (host := "") (Or.inl (hw _ (List.mem_of_getElem? (i := 21) rfl))) Via.refl F_a1_size E_a1 (Or.inr ⟨(hw _ (List.mem_of_getElem? (i := 22) rfl)), rfl, rfl⟩) (hw _ (List.mem_of_getElem? (i := 13) rfl)) (ty := .int) (by decide) rfl rfl ga d4_7 ?_
  intro T h1 W1 X
  have K := K.wr W1 (Or.inl (List.mem_of_getElem? (i := 0) rfl))
  have E_a1 := E_a1.wr W1
  have F_a1_size := F_a1_size.same W1
  have F_a1_levels := F_a1_levels.other W1 (Or.inr (slot_ne (Or.inr (hw _ (List.mem_of_getElem? (i := 27) rfl))) (Or.inr (hw _ (List.mem_of_getElem? (i := 22) rfl))) (by decide) (t := (.array (.array .long))) (t' := .int) (by decide) (by decide)))
  have A_a2 := A_a2.other W1 (Ne.symm ne_a1_a2)
  refine r_iconst 11 X (1 : Int32) d4_10 rfl ?_
  refine r_istoreN 12 X #[.val (.ref a1), .val (.ref a2), .val (.int (1 : Int32)), .unset, .unset, .unset, .unset, .unset] d4_11 rfl ?_
  refine r_aloadN 13 X d4_12 rfl rfl ?_
  refine r_arraylength 14 X A_a2 (17 : Int32) (by decide) d4_13 ?_
  refine r_i2l 15 X d4_14 ?_
  refine r_topJ (x' := (17 : Int64)) (by decide) ?_
  refine r_lstoreN 16 X #[.val (.ref a1), .val (.ref a2), .val (.int (1 : Int32)), .val (.long (17 : Int64)), .second, .unset, .unset, .unset] d4_15 rfl ?_
  refine r_lloadN 17 X d4_16 rfl ?_
  refine r_ldc2Long 20 X (hw _ (List.mem_of_getElem? (i := 23) rfl)) d4_17 ?_
  refine r_lcmp 21 X d4_20 ?_
  refine r_ifN 24 X d4_21 ((if0 _ _).trans (tlt ((lw_gt _ _).mpr (show (8 : Int64) < (17 : Int64) by decide))).2.2.2) ?_
  refine r_iinc 27 X (1 : Int32) #[.val (.ref a1), .val (.ref a2), .val (.int (2 : Int32)), .val (.long (17 : Int64)), .second, .unset, .unset, .unset] d4_24 rfl rfl rfl ?_
  refine r_lloadN 28 X d4_27 rfl ?_
  refine r_ldc2Long 31 X (hw _ (List.mem_of_getElem? (i := 23) rfl)) d4_28 ?_
  refine r_ladd 32 X d4_31 ?_
  refine r_topJ (x' := (25 : Int64)) (by decide) ?_
  refine r_lconst 33 X (1 : Int64) d4_32 rfl ?_
  refine r_lsub 34 X d4_33 ?_
  refine r_topJ (x' := (24 : Int64)) (by decide) ?_
  refine r_ldc2Long 37 X (hw _ (List.mem_of_getElem? (i := 23) rfl)) d4_34 ?_
  refine r_ldiv 38 X d4_37 (by decide) ?_
  refine r_topJ (x' := (3 : Int64)) (by decide) ?_
  refine r_lstoreN 39 X #[.val (.ref a1), .val (.ref a2), .val (.int (2 : Int32)), .val (.long (3 : Int64)), .second, .unset, .unset, .unset] d4_38 rfl ?_
  refine r_goto 16 X d4_39 ?_
  refine r_lloadN 17 X d4_16 rfl ?_
  refine r_ldc2Long 20 X (hw _ (List.mem_of_getElem? (i := 23) rfl)) d4_17 ?_
  refine r_lcmp 21 X d4_20 ?_
  refine r_ifY 42 X d4_21 ((if0 _ _).trans (flt (fun q => (show ¬ ((8 : Int64) < (3 : Int64)) by decide) ((lw_gt _ _).mp q))).2.2.2) ?_
  refine r_aloadN 43 X d4_42 rfl rfl ?_
  refine r_iloadN 44 X d4_43 rfl ?_
  refine r_anewarrayA 47 X (ty := .long) 2 2 "[J" "[[J" (by decide) (by decide) (hw _ (List.mem_of_getElem? (i := 24) rfl)) (hw _ (List.mem_of_getElem? (i := 25) rfl)) d4_44 (by decide) (by decide) (by decide) (by decide) (by decide) ?_
  intro T h2 b2 g2 gn_b2 E2 E_b2 O_b2 A_b2 X
  have sz_b2 : h.size ≤ b2 := Nat.le_trans K.1 (Nat.le_of_eq g2.symm)
  have ne_a2_b2 : a2 ≠ b2 := Nat.ne_of_lt (Nat.lt_of_lt_of_eq A_a2.lt g2.symm)
  have ne_a1_b2 : a1 ≠ b2 := Nat.ne_of_lt (Nat.lt_of_lt_of_eq E_a1.lt g2.symm)
  have K := K.ext E2
  have E_a1 := E_a1.ext E2
  have F_a1_size := F_a1_size.ext E2
  have F_a1_levels := F_a1_levels.ext E2
  have A_a2 := A_a2.ext E2
  refine r_putfield 50 X (host := "") (Or.inl (hw _ (List.mem_of_getElem? (i := 26) rfl))) Via.refl F_a1_levels E_a1 (Or.inr ⟨(hw _ (List.mem_of_getElem? (i := 27) rfl)), rfl, rfl⟩) (hw _ (List.mem_of_getElem? (i := 13) rfl)) (ty := (.array (.array .long))) (by decide) rfl rfl ga d4_47 ?_
  intro T h3 W3 X
  have K := K.wr W3 (Or.inl (List.mem_of_getElem? (i := 0) rfl))
  have E_a1 := E_a1.wr W3
  have F_a1_size := F_a1_size.other W3 (Or.inr (slot_ne (Or.inr (hw _ (List.mem_of_getElem? (i := 22) rfl))) (Or.inr (hw _ (List.mem_of_getElem? (i := 27) rfl))) (by decide) (t := .int) (t' := (.array (.array .long))) (by decide) (by decide)))
  have F_a1_levels := F_a1_levels.same W3
  have A_a2 := A_a2.other W3 (Ne.symm ne_a1_a2)
  have A_b2 := A_b2.other W3 (Ne.symm ne_a1_b2)
  have E_b2 := E_b2.wr W3
  refine r_aloadN 51 X d4_50 rfl rfl ?_
  refine r_arraylength 52 X A_a2 (17 : Int32) (by decide) d4_51 ?_
  refine r_callS 55 X (st := []) (rmG17 l Z a0 hw n0 _ X.sz) (hw _ (List.mem_of_getElem? (i := 28) rfl)) (hw _ (List.mem_of_getElem? (i := 29) rfl)) (hw _ (List.mem_of_getElem? (i := 30) rfl)) (hw _ (List.mem_of_getElem? (i := 14) rfl)) (by decide) pd_2 [(.int (17 : Int32))] rfl rfl 0 (Nat.le_of_eq rfl) rfl (by decide) (by decide) (by decide) (by decide) d4_52 ?_
  rintro T h4 v4 ⟨rfl, rfl⟩ X
  change Run _ _ _ _ _ _ _ _ [(.int (3 : Int32))]
  refine r_bipush 57 X (8 : Int32) d4_55 rfl ?_
  refine r_imul 58 X d4_57 ?_
  refine r_topI (x' := (24 : Int32)) (by decide) ?_
  refine r_newarrayE 60 X 24 24 "[J" (by decide) (hw _ (List.mem_of_getElem? (i := 8) rfl)) d4_58 (by decide) (by decide) (by decide) (by decide) (by decide) ?_
  intro T h5 b5 g5 gn_b5 E5 E_b5 A_b5 X
  have sz_b5 : h.size ≤ b5 := Nat.le_trans K.1 (Nat.le_of_eq g5.symm)
  have ne_b2_b5 : b2 ≠ b5 := Nat.ne_of_lt (Nat.lt_of_lt_of_eq A_b2.lt g5.symm)
  have ne_a2_b5 : a2 ≠ b5 := Nat.ne_of_lt (Nat.lt_of_lt_of_eq A_a2.lt g5.symm)
  have ne_a1_b5 : a1 ≠ b5 := Nat.ne_of_lt (Nat.lt_of_lt_of_eq E_a1.lt g5.symm)
  have K := K.ext E5
  have E_a1 := E_a1.ext E5
  have F_a1_size := F_a1_size.ext E5
  have F_a1_levels := F_a1_levels.ext E5
  have A_a2 := A_a2.ext E5
  have A_b2 := A_b2.ext E5
  have E_b2 := E_b2.ext E5
  replace A_b5 : AF Z h5 b5 .long 24 (fun j => .long ((fun _ => (0 : Int64)) j)) := A_b5
  refine r_astoreN 61 X #[.val (.ref a1), .val (.ref a2), .val (.int (2 : Int32)), .val (.ref b5), .unset, .unset, .unset, .unset] d4_60 rfl rfl ?_
  refine r_aloadN 62 X d4_61 rfl rfl ?_
  refine r_ldc2Long 65 X (hw _ (List.mem_of_getElem? (i := 35) rfl)) d4_62 ?_
  refine r_callS 68 X (st := []) (rmFl l Z a0 hw n0 _ X.sz b5 (9223372036854775807 : Int64) 24 (24 : Int32) (fun _ => (0 : Int64)) (by decide) gn_b5 A_b5) (hw _ (List.mem_of_getElem? (i := 36) rfl)) (hw _ (List.mem_of_getElem? (i := 37) rfl)) (hw _ (List.mem_of_getElem? (i := 39) rfl)) (hw _ (List.mem_of_getElem? (i := 38) rfl)) (by decide) pd_3 [(.ref b5), (.long (9223372036854775807 : Int64))] rfl rfl 0 (Nat.le_of_eq rfl) rfl (by decide) (by decide) (by decide) (by decide) d4_65 ?_
  rintro T h6 v6 ⟨rfl, K6, A6⟩ X
  have K := K.trans K6 (allS (Or.inr sz_b5) all0)
  have E_a1 := E_a1.keep K6
  have F_a1_size := F_a1_size.keep K6 (ninS ne_a1_b5 nin0)
  have F_a1_levels := F_a1_levels.keep K6 (ninS ne_a1_b5 nin0)
  have A_a2 := A_a2.keep K6 (ninS ne_a2_b5 nin0)
  have A_b2 := A_b2.keep K6 (ninS ne_b2_b5 nin0)
  have E_b2 := E_b2.keep K6
  have E_b5 := E_b5.keep K6
  replace A6 : AF Z h6 b5 .long 24 (fun j => .long ((fun _ => (9223372036854775807 : Int64)) j)) := A6
  have A_b5 := A6
  change Run _ _ _ _ _ _ _ _ []
  refine r_iconst 69 X (0 : Int32) d4_68 rfl ?_
  refine r_istore 71 X #[.val (.ref a1), .val (.ref a2), .val (.int (2 : Int32)), .val (.ref b5), .val (.int (0 : Int32)), .unset, .unset, .unset] d4_69 rfl ?_
  refine r_iload 73 X d4_71 rfl ?_
  refine r_aloadN 74 X d4_73 rfl rfl ?_
  refine r_arraylength 75 X A_a2 (17 : Int32) (by decide) d4_74 ?_
  refine r_icmpN 78 X d4_75 (tlt (by decide)).2.1 ?_
  refine r_aloadN 79 X d4_78 rfl rfl ?_
  refine r_iload 81 X d4_79 rfl ?_
  refine r_aloadN 82 X d4_81 rfl rfl ?_
  refine r_iload 84 X d4_82 rfl ?_
  refine r_laload 85 X A_a2 (i := 0) (v := (.long (f 0))) (by decide) (by decide) rfl d4_84 ?_
  refine r_ldc2Long 88 X (hw _ (List.mem_of_getElem? (i := 46) rfl)) d4_85 ?_
  refine r_lxor 89 X d4_88 ?_
  refine r_lastore 90 X A_b5 (i := 0) (v := (.long ((f 0) ^^^ (-9223372036854775808 : Int64)))) (by decide) (by decide) rfl gn_b5 d4_89 ?_
  intro T h7 W7 X
  have K := K.wr W7 (Or.inr sz_b5)
  have E_a1 := E_a1.wr W7
  have F_a1_size := F_a1_size.other W7 (Or.inl ne_a1_b5)
  have F_a1_levels := F_a1_levels.other W7 (Or.inl ne_a1_b5)
  have A_a2 := A_a2.other W7 ne_a2_b5
  have A_b2 := A_b2.other W7 ne_b2_b5
  have E_b2 := E_b2.wr W7
  have E_b5 := E_b5.wr W7
  have A_b5 := A_b5.setJ W7
  refine r_iinc 93 X (1 : Int32) #[.val (.ref a1), .val (.ref a2), .val (.int (2 : Int32)), .val (.ref b5), .val (.int (1 : Int32)), .unset, .unset, .unset] d4_90 rfl rfl rfl ?_
  refine r_goto 71 X d4_93 ?_
  refine r_iload 73 X d4_71 rfl ?_
  refine r_aloadN 74 X d4_73 rfl rfl ?_
  refine r_arraylength 75 X A_a2 (17 : Int32) (by decide) d4_74 ?_
  refine r_icmpN 78 X d4_75 (tlt (by decide)).2.1 ?_
  refine r_aloadN 79 X d4_78 rfl rfl ?_
  refine r_iload 81 X d4_79 rfl ?_
  refine r_aloadN 82 X d4_81 rfl rfl ?_
  refine r_iload 84 X d4_82 rfl ?_
  refine r_laload 85 X A_a2 (i := 1) (v := (.long (f 1))) (by decide) (by decide) rfl d4_84 ?_
  refine r_ldc2Long 88 X (hw _ (List.mem_of_getElem? (i := 46) rfl)) d4_85 ?_
  refine r_lxor 89 X d4_88 ?_
  refine r_lastore 90 X A_b5 (i := 1) (v := (.long ((f 1) ^^^ (-9223372036854775808 : Int64)))) (by decide) (by decide) rfl gn_b5 d4_89 ?_
  intro T h8 W8 X
  have K := K.wr W8 (Or.inr sz_b5)
  have E_a1 := E_a1.wr W8
  have F_a1_size := F_a1_size.other W8 (Or.inl ne_a1_b5)
  have F_a1_levels := F_a1_levels.other W8 (Or.inl ne_a1_b5)
  have A_a2 := A_a2.other W8 ne_a2_b5
  have A_b2 := A_b2.other W8 ne_b2_b5
  have E_b2 := E_b2.wr W8
  have E_b5 := E_b5.wr W8
  have A_b5 := A_b5.setJ W8
  refine r_iinc 93 X (1 : Int32) #[.val (.ref a1), .val (.ref a2), .val (.int (2 : Int32)), .val (.ref b5), .val (.int (2 : Int32)), .unset, .unset, .unset] d4_90 rfl rfl rfl ?_
  refine r_goto 71 X d4_93 ?_
  refine r_iload 73 X d4_71 rfl ?_
  refine r_aloadN 74 X d4_73 rfl rfl ?_
  refine r_arraylength 75 X A_a2 (17 : Int32) (by decide) d4_74 ?_
  refine r_icmpN 78 X d4_75 (tlt (by decide)).2.1 ?_
  refine r_aloadN 79 X d4_78 rfl rfl ?_
  refine r_iload 81 X d4_79 rfl ?_
  refine r_aloadN 82 X d4_81 rfl rfl ?_
  refine r_iload 84 X d4_82 rfl ?_
  refine r_laload 85 X A_a2 (i := 2) (v := (.long (f 2))) (by decide) (by decide) rfl d4_84 ?_
  refine r_ldc2Long 88 X (hw _ (List.mem_of_getElem? (i := 46) rfl)) d4_85 ?_
  refine r_lxor 89 X d4_88 ?_
  refine r_lastore 90 X A_b5 (i := 2) (v := (.long ((f 2) ^^^ (-9223372036854775808 : Int64)))) (by decide) (by decide) rfl gn_b5 d4_89 ?_
  intro T h9 W9 X
  have K := K.wr W9 (Or.inr sz_b5)
  have E_a1 := E_a1.wr W9
  have F_a1_size := F_a1_size.other W9 (Or.inl ne_a1_b5)
  have F_a1_levels := F_a1_levels.other W9 (Or.inl ne_a1_b5)
  have A_a2 := A_a2.other W9 ne_a2_b5
  have A_b2 := A_b2.other W9 ne_b2_b5
  have E_b2 := E_b2.wr W9
  have E_b5 := E_b5.wr W9
  have A_b5 := A_b5.setJ W9
  refine r_iinc 93 X (1 : Int32) #[.val (.ref a1), .val (.ref a2), .val (.int (2 : Int32)), .val (.ref b5), .val (.int (3 : Int32)), .unset, .unset, .unset] d4_90 rfl rfl rfl ?_
  refine r_goto 71 X d4_93 ?_
  refine r_iload 73 X d4_71 rfl ?_
  refine r_aloadN 74 X d4_73 rfl rfl ?_
  refine r_arraylength 75 X A_a2 (17 : Int32) (by decide) d4_74 ?_
  refine r_icmpN 78 X d4_75 (tlt (by decide)).2.1 ?_
  refine r_aloadN 79 X d4_78 rfl rfl ?_
  refine r_iload 81 X d4_79 rfl ?_
  refine r_aloadN 82 X d4_81 rfl rfl ?_
  refine r_iload 84 X d4_82 rfl ?_
  refine r_laload 85 X A_a2 (i := 3) (v := (.long (f 3))) (by decide) (by decide) rfl d4_84 ?_
  refine r_ldc2Long 88 X (hw _ (List.mem_of_getElem? (i := 46) rfl)) d4_85 ?_
  refine r_lxor 89 X d4_88 ?_
  refine r_lastore 90 X A_b5 (i := 3) (v := (.long ((f 3) ^^^ (-9223372036854775808 : Int64)))) (by decide) (by decide) rfl gn_b5 d4_89 ?_
  intro T h10 W10 X
  have K := K.wr W10 (Or.inr sz_b5)
  have E_a1 := E_a1.wr W10
  have F_a1_size := F_a1_size.other W10 (Or.inl ne_a1_b5)
  have F_a1_levels := F_a1_levels.other W10 (Or.inl ne_a1_b5)
  have A_a2 := A_a2.other W10 ne_a2_b5
  have A_b2 := A_b2.other W10 ne_b2_b5
  have E_b2 := E_b2.wr W10
  have E_b5 := E_b5.wr W10
  have A_b5 := A_b5.setJ W10
  refine r_iinc 93 X (1 : Int32) #[.val (.ref a1), .val (.ref a2), .val (.int (2 : Int32)), .val (.ref b5), .val (.int (4 : Int32)), .unset, .unset, .unset] d4_90 rfl rfl rfl ?_
  refine r_goto 71 X d4_93 ?_
  refine r_iload 73 X d4_71 rfl ?_
  refine r_aloadN 74 X d4_73 rfl rfl ?_
  refine r_arraylength 75 X A_a2 (17 : Int32) (by decide) d4_74 ?_
  refine r_icmpN 78 X d4_75 (tlt (by decide)).2.1 ?_
  refine r_aloadN 79 X d4_78 rfl rfl ?_
  refine r_iload 81 X d4_79 rfl ?_
  refine r_aloadN 82 X d4_81 rfl rfl ?_
  refine r_iload 84 X d4_82 rfl ?_
  refine r_laload 85 X A_a2 (i := 4) (v := (.long (f 4))) (by decide) (by decide) rfl d4_84 ?_
  refine r_ldc2Long 88 X (hw _ (List.mem_of_getElem? (i := 46) rfl)) d4_85 ?_
  refine r_lxor 89 X d4_88 ?_
  refine r_lastore 90 X A_b5 (i := 4) (v := (.long ((f 4) ^^^ (-9223372036854775808 : Int64)))) (by decide) (by decide) rfl gn_b5 d4_89 ?_
  intro T h11 W11 X
  have K := K.wr W11 (Or.inr sz_b5)
  have E_a1 := E_a1.wr W11
  have F_a1_size := F_a1_size.other W11 (Or.inl ne_a1_b5)
  have F_a1_levels := F_a1_levels.other W11 (Or.inl ne_a1_b5)
  have A_a2 := A_a2.other W11 ne_a2_b5
  have A_b2 := A_b2.other W11 ne_b2_b5
  have E_b2 := E_b2.wr W11
  have E_b5 := E_b5.wr W11
  have A_b5 := A_b5.setJ W11
  refine r_iinc 93 X (1 : Int32) #[.val (.ref a1), .val (.ref a2), .val (.int (2 : Int32)), .val (.ref b5), .val (.int (5 : Int32)), .unset, .unset, .unset] d4_90 rfl rfl rfl ?_
  refine r_goto 71 X d4_93 ?_
  refine r_iload 73 X d4_71 rfl ?_
  refine r_aloadN 74 X d4_73 rfl rfl ?_
  refine r_arraylength 75 X A_a2 (17 : Int32) (by decide) d4_74 ?_
  refine r_icmpN 78 X d4_75 (tlt (by decide)).2.1 ?_
  refine r_aloadN 79 X d4_78 rfl rfl ?_
  refine r_iload 81 X d4_79 rfl ?_
  refine r_aloadN 82 X d4_81 rfl rfl ?_
  refine r_iload 84 X d4_82 rfl ?_
  refine r_laload 85 X A_a2 (i := 5) (v := (.long (f 5))) (by decide) (by decide) rfl d4_84 ?_
  refine r_ldc2Long 88 X (hw _ (List.mem_of_getElem? (i := 46) rfl)) d4_85 ?_
  refine r_lxor 89 X d4_88 ?_
  refine r_lastore 90 X A_b5 (i := 5) (v := (.long ((f 5) ^^^ (-9223372036854775808 : Int64)))) (by decide) (by decide) rfl gn_b5 d4_89 ?_
  intro T h12 W12 X
  have K := K.wr W12 (Or.inr sz_b5)
  have E_a1 := E_a1.wr W12
  have F_a1_size := F_a1_size.other W12 (Or.inl ne_a1_b5)
  have F_a1_levels := F_a1_levels.other W12 (Or.inl ne_a1_b5)
  have A_a2 := A_a2.other W12 ne_a2_b5
  have A_b2 := A_b2.other W12 ne_b2_b5
  have E_b2 := E_b2.wr W12
  have E_b5 := E_b5.wr W12
  have A_b5 := A_b5.setJ W12
  refine r_iinc 93 X (1 : Int32) #[.val (.ref a1), .val (.ref a2), .val (.int (2 : Int32)), .val (.ref b5), .val (.int (6 : Int32)), .unset, .unset, .unset] d4_90 rfl rfl rfl ?_
  refine r_goto 71 X d4_93 ?_
  refine r_iload 73 X d4_71 rfl ?_
  refine r_aloadN 74 X d4_73 rfl rfl ?_
  refine r_arraylength 75 X A_a2 (17 : Int32) (by decide) d4_74 ?_
  refine r_icmpN 78 X d4_75 (tlt (by decide)).2.1 ?_
  refine r_aloadN 79 X d4_78 rfl rfl ?_
  refine r_iload 81 X d4_79 rfl ?_
  refine r_aloadN 82 X d4_81 rfl rfl ?_
  refine r_iload 84 X d4_82 rfl ?_
  refine r_laload 85 X A_a2 (i := 6) (v := (.long (f 6))) (by decide) (by decide) rfl d4_84 ?_
  refine r_ldc2Long 88 X (hw _ (List.mem_of_getElem? (i := 46) rfl)) d4_85 ?_
  refine r_lxor 89 X d4_88 ?_
  refine r_lastore 90 X A_b5 (i := 6) (v := (.long ((f 6) ^^^ (-9223372036854775808 : Int64)))) (by decide) (by decide) rfl gn_b5 d4_89 ?_
  intro T h13 W13 X
  have K := K.wr W13 (Or.inr sz_b5)
  have E_a1 := E_a1.wr W13
  have F_a1_size := F_a1_size.other W13 (Or.inl ne_a1_b5)
  have F_a1_levels := F_a1_levels.other W13 (Or.inl ne_a1_b5)
  have A_a2 := A_a2.other W13 ne_a2_b5
  have A_b2 := A_b2.other W13 ne_b2_b5
  have E_b2 := E_b2.wr W13
  have E_b5 := E_b5.wr W13
  have A_b5 := A_b5.setJ W13
  refine r_iinc 93 X (1 : Int32) #[.val (.ref a1), .val (.ref a2), .val (.int (2 : Int32)), .val (.ref b5), .val (.int (7 : Int32)), .unset, .unset, .unset] d4_90 rfl rfl rfl ?_
  refine r_goto 71 X d4_93 ?_
  refine r_iload 73 X d4_71 rfl ?_
  refine r_aloadN 74 X d4_73 rfl rfl ?_
  refine r_arraylength 75 X A_a2 (17 : Int32) (by decide) d4_74 ?_
  refine r_icmpN 78 X d4_75 (tlt (by decide)).2.1 ?_
  refine r_aloadN 79 X d4_78 rfl rfl ?_
  refine r_iload 81 X d4_79 rfl ?_
  refine r_aloadN 82 X d4_81 rfl rfl ?_
  refine r_iload 84 X d4_82 rfl ?_
  refine r_laload 85 X A_a2 (i := 7) (v := (.long (f 7))) (by decide) (by decide) rfl d4_84 ?_
  refine r_ldc2Long 88 X (hw _ (List.mem_of_getElem? (i := 46) rfl)) d4_85 ?_
  refine r_lxor 89 X d4_88 ?_
  refine r_lastore 90 X A_b5 (i := 7) (v := (.long ((f 7) ^^^ (-9223372036854775808 : Int64)))) (by decide) (by decide) rfl gn_b5 d4_89 ?_
  intro T h14 W14 X
  have K := K.wr W14 (Or.inr sz_b5)
  have E_a1 := E_a1.wr W14
  have F_a1_size := F_a1_size.other W14 (Or.inl ne_a1_b5)
  have F_a1_levels := F_a1_levels.other W14 (Or.inl ne_a1_b5)
  have A_a2 := A_a2.other W14 ne_a2_b5
  have A_b2 := A_b2.other W14 ne_b2_b5
  have E_b2 := E_b2.wr W14
  have E_b5 := E_b5.wr W14
  have A_b5 := A_b5.setJ W14
  refine r_iinc 93 X (1 : Int32) #[.val (.ref a1), .val (.ref a2), .val (.int (2 : Int32)), .val (.ref b5), .val (.int (8 : Int32)), .unset, .unset, .unset] d4_90 rfl rfl rfl ?_
  refine r_goto 71 X d4_93 ?_
  refine r_iload 73 X d4_71 rfl ?_
  refine r_aloadN 74 X d4_73 rfl rfl ?_
  refine r_arraylength 75 X A_a2 (17 : Int32) (by decide) d4_74 ?_
  refine r_icmpN 78 X d4_75 (tlt (by decide)).2.1 ?_
  refine r_aloadN 79 X d4_78 rfl rfl ?_
  refine r_iload 81 X d4_79 rfl ?_
  refine r_aloadN 82 X d4_81 rfl rfl ?_
  refine r_iload 84 X d4_82 rfl ?_
  refine r_laload 85 X A_a2 (i := 8) (v := (.long (f 8))) (by decide) (by decide) rfl d4_84 ?_
  refine r_ldc2Long 88 X (hw _ (List.mem_of_getElem? (i := 46) rfl)) d4_85 ?_
  refine r_lxor 89 X d4_88 ?_
  refine r_lastore 90 X A_b5 (i := 8) (v := (.long ((f 8) ^^^ (-9223372036854775808 : Int64)))) (by decide) (by decide) rfl gn_b5 d4_89 ?_
  intro T h15 W15 X
  have K := K.wr W15 (Or.inr sz_b5)
  have E_a1 := E_a1.wr W15
  have F_a1_size := F_a1_size.other W15 (Or.inl ne_a1_b5)
  have F_a1_levels := F_a1_levels.other W15 (Or.inl ne_a1_b5)
  have A_a2 := A_a2.other W15 ne_a2_b5
  have A_b2 := A_b2.other W15 ne_b2_b5
  have E_b2 := E_b2.wr W15
  have E_b5 := E_b5.wr W15
  have A_b5 := A_b5.setJ W15
  refine r_iinc 93 X (1 : Int32) #[.val (.ref a1), .val (.ref a2), .val (.int (2 : Int32)), .val (.ref b5), .val (.int (9 : Int32)), .unset, .unset, .unset] d4_90 rfl rfl rfl ?_
  refine r_goto 71 X d4_93 ?_
  refine r_iload 73 X d4_71 rfl ?_
  refine r_aloadN 74 X d4_73 rfl rfl ?_
  refine r_arraylength 75 X A_a2 (17 : Int32) (by decide) d4_74 ?_
  refine r_icmpN 78 X d4_75 (tlt (by decide)).2.1 ?_
  refine r_aloadN 79 X d4_78 rfl rfl ?_
  refine r_iload 81 X d4_79 rfl ?_
  refine r_aloadN 82 X d4_81 rfl rfl ?_
  refine r_iload 84 X d4_82 rfl ?_
  refine r_laload 85 X A_a2 (i := 9) (v := (.long (f 9))) (by decide) (by decide) rfl d4_84 ?_
  refine r_ldc2Long 88 X (hw _ (List.mem_of_getElem? (i := 46) rfl)) d4_85 ?_
  refine r_lxor 89 X d4_88 ?_
  refine r_lastore 90 X A_b5 (i := 9) (v := (.long ((f 9) ^^^ (-9223372036854775808 : Int64)))) (by decide) (by decide) rfl gn_b5 d4_89 ?_
  intro T h16 W16 X
  have K := K.wr W16 (Or.inr sz_b5)
  have E_a1 := E_a1.wr W16
  have F_a1_size := F_a1_size.other W16 (Or.inl ne_a1_b5)
  have F_a1_levels := F_a1_levels.other W16 (Or.inl ne_a1_b5)
  have A_a2 := A_a2.other W16 ne_a2_b5
  have A_b2 := A_b2.other W16 ne_b2_b5
  have E_b2 := E_b2.wr W16
  have E_b5 := E_b5.wr W16
  have A_b5 := A_b5.setJ W16
  refine r_iinc 93 X (1 : Int32) #[.val (.ref a1), .val (.ref a2), .val (.int (2 : Int32)), .val (.ref b5), .val (.int (10 : Int32)), .unset, .unset, .unset] d4_90 rfl rfl rfl ?_
  refine r_goto 71 X d4_93 ?_
  refine r_iload 73 X d4_71 rfl ?_
  refine r_aloadN 74 X d4_73 rfl rfl ?_
  refine r_arraylength 75 X A_a2 (17 : Int32) (by decide) d4_74 ?_
  refine r_icmpN 78 X d4_75 (tlt (by decide)).2.1 ?_
  refine r_aloadN 79 X d4_78 rfl rfl ?_
  refine r_iload 81 X d4_79 rfl ?_
  refine r_aloadN 82 X d4_81 rfl rfl ?_
  refine r_iload 84 X d4_82 rfl ?_
  refine r_laload 85 X A_a2 (i := 10) (v := (.long (f 10))) (by decide) (by decide) rfl d4_84 ?_
  refine r_ldc2Long 88 X (hw _ (List.mem_of_getElem? (i := 46) rfl)) d4_85 ?_
  refine r_lxor 89 X d4_88 ?_
  refine r_lastore 90 X A_b5 (i := 10) (v := (.long ((f 10) ^^^ (-9223372036854775808 : Int64)))) (by decide) (by decide) rfl gn_b5 d4_89 ?_
  intro T h17 W17 X
  have K := K.wr W17 (Or.inr sz_b5)
  have E_a1 := E_a1.wr W17
  have F_a1_size := F_a1_size.other W17 (Or.inl ne_a1_b5)
  have F_a1_levels := F_a1_levels.other W17 (Or.inl ne_a1_b5)
  have A_a2 := A_a2.other W17 ne_a2_b5
  have A_b2 := A_b2.other W17 ne_b2_b5
  have E_b2 := E_b2.wr W17
  have E_b5 := E_b5.wr W17
  have A_b5 := A_b5.setJ W17
  refine r_iinc 93 X (1 : Int32) #[.val (.ref a1), .val (.ref a2), .val (.int (2 : Int32)), .val (.ref b5), .val (.int (11 : Int32)), .unset, .unset, .unset] d4_90 rfl rfl rfl ?_
  refine r_goto 71 X d4_93 ?_
  refine r_iload 73 X d4_71 rfl ?_
  refine r_aloadN 74 X d4_73 rfl rfl ?_
  refine r_arraylength 75 X A_a2 (17 : Int32) (by decide) d4_74 ?_
  refine r_icmpN 78 X d4_75 (tlt (by decide)).2.1 ?_
  refine r_aloadN 79 X d4_78 rfl rfl ?_
  refine r_iload 81 X d4_79 rfl ?_
  refine r_aloadN 82 X d4_81 rfl rfl ?_
  refine r_iload 84 X d4_82 rfl ?_
  refine r_laload 85 X A_a2 (i := 11) (v := (.long (f 11))) (by decide) (by decide) rfl d4_84 ?_
  refine r_ldc2Long 88 X (hw _ (List.mem_of_getElem? (i := 46) rfl)) d4_85 ?_
  refine r_lxor 89 X d4_88 ?_
  refine r_lastore 90 X A_b5 (i := 11) (v := (.long ((f 11) ^^^ (-9223372036854775808 : Int64)))) (by decide) (by decide) rfl gn_b5 d4_89 ?_
  intro T h18 W18 X
  have K := K.wr W18 (Or.inr sz_b5)
  have E_a1 := E_a1.wr W18
  have F_a1_size := F_a1_size.other W18 (Or.inl ne_a1_b5)
  have F_a1_levels := F_a1_levels.other W18 (Or.inl ne_a1_b5)
  have A_a2 := A_a2.other W18 ne_a2_b5
  have A_b2 := A_b2.other W18 ne_b2_b5
  have E_b2 := E_b2.wr W18
  have E_b5 := E_b5.wr W18
  have A_b5 := A_b5.setJ W18
  refine r_iinc 93 X (1 : Int32) #[.val (.ref a1), .val (.ref a2), .val (.int (2 : Int32)), .val (.ref b5), .val (.int (12 : Int32)), .unset, .unset, .unset] d4_90 rfl rfl rfl ?_
  refine r_goto 71 X d4_93 ?_
  refine r_iload 73 X d4_71 rfl ?_
  refine r_aloadN 74 X d4_73 rfl rfl ?_
  refine r_arraylength 75 X A_a2 (17 : Int32) (by decide) d4_74 ?_
  refine r_icmpN 78 X d4_75 (tlt (by decide)).2.1 ?_
  refine r_aloadN 79 X d4_78 rfl rfl ?_
  refine r_iload 81 X d4_79 rfl ?_
  refine r_aloadN 82 X d4_81 rfl rfl ?_
  refine r_iload 84 X d4_82 rfl ?_
  refine r_laload 85 X A_a2 (i := 12) (v := (.long (f 12))) (by decide) (by decide) rfl d4_84 ?_
  refine r_ldc2Long 88 X (hw _ (List.mem_of_getElem? (i := 46) rfl)) d4_85 ?_
  refine r_lxor 89 X d4_88 ?_
  refine r_lastore 90 X A_b5 (i := 12) (v := (.long ((f 12) ^^^ (-9223372036854775808 : Int64)))) (by decide) (by decide) rfl gn_b5 d4_89 ?_
  intro T h19 W19 X
  have K := K.wr W19 (Or.inr sz_b5)
  have E_a1 := E_a1.wr W19
  have F_a1_size := F_a1_size.other W19 (Or.inl ne_a1_b5)
  have F_a1_levels := F_a1_levels.other W19 (Or.inl ne_a1_b5)
  have A_a2 := A_a2.other W19 ne_a2_b5
  have A_b2 := A_b2.other W19 ne_b2_b5
  have E_b2 := E_b2.wr W19
  have E_b5 := E_b5.wr W19
  have A_b5 := A_b5.setJ W19
  refine r_iinc 93 X (1 : Int32) #[.val (.ref a1), .val (.ref a2), .val (.int (2 : Int32)), .val (.ref b5), .val (.int (13 : Int32)), .unset, .unset, .unset] d4_90 rfl rfl rfl ?_
  refine r_goto 71 X d4_93 ?_
  refine r_iload 73 X d4_71 rfl ?_
  refine r_aloadN 74 X d4_73 rfl rfl ?_
  refine r_arraylength 75 X A_a2 (17 : Int32) (by decide) d4_74 ?_
  refine r_icmpN 78 X d4_75 (tlt (by decide)).2.1 ?_
  refine r_aloadN 79 X d4_78 rfl rfl ?_
  refine r_iload 81 X d4_79 rfl ?_
  refine r_aloadN 82 X d4_81 rfl rfl ?_
  refine r_iload 84 X d4_82 rfl ?_
  refine r_laload 85 X A_a2 (i := 13) (v := (.long (f 13))) (by decide) (by decide) rfl d4_84 ?_
  refine r_ldc2Long 88 X (hw _ (List.mem_of_getElem? (i := 46) rfl)) d4_85 ?_
  refine r_lxor 89 X d4_88 ?_
  refine r_lastore 90 X A_b5 (i := 13) (v := (.long ((f 13) ^^^ (-9223372036854775808 : Int64)))) (by decide) (by decide) rfl gn_b5 d4_89 ?_
  intro T h20 W20 X
  have K := K.wr W20 (Or.inr sz_b5)
  have E_a1 := E_a1.wr W20
  have F_a1_size := F_a1_size.other W20 (Or.inl ne_a1_b5)
  have F_a1_levels := F_a1_levels.other W20 (Or.inl ne_a1_b5)
  have A_a2 := A_a2.other W20 ne_a2_b5
  have A_b2 := A_b2.other W20 ne_b2_b5
  have E_b2 := E_b2.wr W20
  have E_b5 := E_b5.wr W20
  have A_b5 := A_b5.setJ W20
  refine r_iinc 93 X (1 : Int32) #[.val (.ref a1), .val (.ref a2), .val (.int (2 : Int32)), .val (.ref b5), .val (.int (14 : Int32)), .unset, .unset, .unset] d4_90 rfl rfl rfl ?_
  refine r_goto 71 X d4_93 ?_
  refine r_iload 73 X d4_71 rfl ?_
  refine r_aloadN 74 X d4_73 rfl rfl ?_
  refine r_arraylength 75 X A_a2 (17 : Int32) (by decide) d4_74 ?_
  refine r_icmpN 78 X d4_75 (tlt (by decide)).2.1 ?_
  refine r_aloadN 79 X d4_78 rfl rfl ?_
  refine r_iload 81 X d4_79 rfl ?_
  refine r_aloadN 82 X d4_81 rfl rfl ?_
  refine r_iload 84 X d4_82 rfl ?_
  refine r_laload 85 X A_a2 (i := 14) (v := (.long (f 14))) (by decide) (by decide) rfl d4_84 ?_
  refine r_ldc2Long 88 X (hw _ (List.mem_of_getElem? (i := 46) rfl)) d4_85 ?_
  refine r_lxor 89 X d4_88 ?_
  refine r_lastore 90 X A_b5 (i := 14) (v := (.long ((f 14) ^^^ (-9223372036854775808 : Int64)))) (by decide) (by decide) rfl gn_b5 d4_89 ?_
  intro T h21 W21 X
  have K := K.wr W21 (Or.inr sz_b5)
  have E_a1 := E_a1.wr W21
  have F_a1_size := F_a1_size.other W21 (Or.inl ne_a1_b5)
  have F_a1_levels := F_a1_levels.other W21 (Or.inl ne_a1_b5)
  have A_a2 := A_a2.other W21 ne_a2_b5
  have A_b2 := A_b2.other W21 ne_b2_b5
  have E_b2 := E_b2.wr W21
  have E_b5 := E_b5.wr W21
  have A_b5 := A_b5.setJ W21
  refine r_iinc 93 X (1 : Int32) #[.val (.ref a1), .val (.ref a2), .val (.int (2 : Int32)), .val (.ref b5), .val (.int (15 : Int32)), .unset, .unset, .unset] d4_90 rfl rfl rfl ?_
  refine r_goto 71 X d4_93 ?_
  refine r_iload 73 X d4_71 rfl ?_
  refine r_aloadN 74 X d4_73 rfl rfl ?_
  refine r_arraylength 75 X A_a2 (17 : Int32) (by decide) d4_74 ?_
  refine r_icmpN 78 X d4_75 (tlt (by decide)).2.1 ?_
  refine r_aloadN 79 X d4_78 rfl rfl ?_
  refine r_iload 81 X d4_79 rfl ?_
  refine r_aloadN 82 X d4_81 rfl rfl ?_
  refine r_iload 84 X d4_82 rfl ?_
  refine r_laload 85 X A_a2 (i := 15) (v := (.long (f 15))) (by decide) (by decide) rfl d4_84 ?_
  refine r_ldc2Long 88 X (hw _ (List.mem_of_getElem? (i := 46) rfl)) d4_85 ?_
  refine r_lxor 89 X d4_88 ?_
  refine r_lastore 90 X A_b5 (i := 15) (v := (.long ((f 15) ^^^ (-9223372036854775808 : Int64)))) (by decide) (by decide) rfl gn_b5 d4_89 ?_
  intro T h22 W22 X
  have K := K.wr W22 (Or.inr sz_b5)
  have E_a1 := E_a1.wr W22
  have F_a1_size := F_a1_size.other W22 (Or.inl ne_a1_b5)
  have F_a1_levels := F_a1_levels.other W22 (Or.inl ne_a1_b5)
  have A_a2 := A_a2.other W22 ne_a2_b5
  have A_b2 := A_b2.other W22 ne_b2_b5
  have E_b2 := E_b2.wr W22
  have E_b5 := E_b5.wr W22
  have A_b5 := A_b5.setJ W22
  refine r_iinc 93 X (1 : Int32) #[.val (.ref a1), .val (.ref a2), .val (.int (2 : Int32)), .val (.ref b5), .val (.int (16 : Int32)), .unset, .unset, .unset] d4_90 rfl rfl rfl ?_
  refine r_goto 71 X d4_93 ?_
  refine r_iload 73 X d4_71 rfl ?_
  refine r_aloadN 74 X d4_73 rfl rfl ?_
  refine r_arraylength 75 X A_a2 (17 : Int32) (by decide) d4_74 ?_
  refine r_icmpN 78 X d4_75 (tlt (by decide)).2.1 ?_
  refine r_aloadN 79 X d4_78 rfl rfl ?_
  refine r_iload 81 X d4_79 rfl ?_
  refine r_aloadN 82 X d4_81 rfl rfl ?_
  refine r_iload 84 X d4_82 rfl ?_
  refine r_laload 85 X A_a2 (i := 16) (v := (.long (f 16))) (by decide) (by decide) rfl d4_84 ?_
  refine r_ldc2Long 88 X (hw _ (List.mem_of_getElem? (i := 46) rfl)) d4_85 ?_
  refine r_lxor 89 X d4_88 ?_
  refine r_lastore 90 X A_b5 (i := 16) (v := (.long ((f 16) ^^^ (-9223372036854775808 : Int64)))) (by decide) (by decide) rfl gn_b5 d4_89 ?_
  intro T h23 W23 X
  have K := K.wr W23 (Or.inr sz_b5)
  have E_a1 := E_a1.wr W23
  have F_a1_size := F_a1_size.other W23 (Or.inl ne_a1_b5)
  have F_a1_levels := F_a1_levels.other W23 (Or.inl ne_a1_b5)
  have A_a2 := A_a2.other W23 ne_a2_b5
  have A_b2 := A_b2.other W23 ne_b2_b5
  have E_b2 := E_b2.wr W23
  have E_b5 := E_b5.wr W23
  have A_b5 := A_b5.setJ W23
  refine r_iinc 93 X (1 : Int32) #[.val (.ref a1), .val (.ref a2), .val (.int (2 : Int32)), .val (.ref b5), .val (.int (17 : Int32)), .unset, .unset, .unset] d4_90 rfl rfl rfl ?_
  refine r_goto 71 X d4_93 ?_
  refine r_iload 73 X d4_71 rfl ?_
  refine r_aloadN 74 X d4_73 rfl rfl ?_
  refine r_arraylength 75 X A_a2 (17 : Int32) (by decide) d4_74 ?_
  refine r_icmpY 96 X d4_75 (flt (by decide)).2.1 ?_
  refine r_aloadN 97 X d4_96 rfl rfl ?_
  refine r_getfield 100 X (host := "") (Or.inl (hw _ (List.mem_of_getElem? (i := 26) rfl))) Via.refl F_a1_levels d4_97 ?_
  intro T X
  refine r_iconst 101 X (0 : Int32) d4_100 rfl ?_
  refine r_aloadN 102 X d4_101 rfl rfl ?_
  refine r_aastoreA 103 X A_b2 E_b2 O_b2 E_b5 (i := 0) (by decide) (by decide) gn_b2 d4_102 ?_
  intro T h24 W24 X
  have K := K.wr W24 (Or.inr sz_b2)
  have E_a1 := E_a1.wr W24
  have F_a1_size := F_a1_size.other W24 (Or.inl ne_a1_b2)
  have F_a1_levels := F_a1_levels.other W24 (Or.inl ne_a1_b2)
  have A_a2 := A_a2.other W24 ne_a2_b2
  have A_b2 := A_b2.set W24
  have E_b2 := E_b2.wr W24
  have E_b5 := E_b5.wr W24
  have A_b5 := A_b5.other W24 (Ne.symm ne_b2_b5)
  refine r_iconst 104 X (1 : Int32) d4_103 rfl ?_
  refine r_istore 106 X #[.val (.ref a1), .val (.ref a2), .val (.int (2 : Int32)), .val (.ref b5), .val (.int (1 : Int32)), .unset, .unset, .unset] d4_104 rfl ?_
  refine r_iload 108 X d4_106 rfl ?_
  refine r_iloadN 109 X d4_108 rfl ?_
  refine r_icmpN 112 X d4_109 (tlt (by decide)).2.1 ?_
  refine r_aloadN 113 X d4_112 rfl rfl ?_
  refine r_astore 115 X #[.val (.ref a1), .val (.ref a2), .val (.int (2 : Int32)), .val (.ref b5), .val (.int (1 : Int32)), .val (.ref b5), .unset, .unset] d4_113 rfl rfl ?_
  refine r_aload 117 X d4_115 rfl rfl ?_
  refine r_arraylength 118 X A_b5 (24 : Int32) (by decide) d4_117 ?_
  refine r_bipush 120 X (8 : Int32) d4_118 rfl ?_
  refine r_idiv 121 X d4_120 (by decide) ?_
  refine r_topI (x' := (3 : Int32)) (by decide) ?_
  refine r_callS 124 X (st := []) (rmG3 l Z a0 hw n0 _ X.sz) (hw _ (List.mem_of_getElem? (i := 28) rfl)) (hw _ (List.mem_of_getElem? (i := 29) rfl)) (hw _ (List.mem_of_getElem? (i := 30) rfl)) (hw _ (List.mem_of_getElem? (i := 14) rfl)) (by decide) pd_2 [(.int (3 : Int32))] rfl rfl 0 (Nat.le_of_eq rfl) rfl (by decide) (by decide) (by decide) (by decide) d4_121 ?_
  rintro T h25 v25 ⟨rfl, rfl⟩ X
  change Run _ _ _ _ _ _ _ _ [(.int (1 : Int32))]
  refine r_istore 126 X #[.val (.ref a1), .val (.ref a2), .val (.int (2 : Int32)), .val (.ref b5), .val (.int (1 : Int32)), .val (.ref b5), .val (.int (1 : Int32)), .unset] d4_124 rfl ?_
  refine r_iload 128 X d4_126 rfl ?_
  refine r_bipush 130 X (8 : Int32) d4_128 rfl ?_
  refine r_imul 131 X d4_130 ?_
  refine r_topI (x' := (8 : Int32)) (by decide) ?_
  refine r_newarrayE 133 X 8 8 "[J" (by decide) (hw _ (List.mem_of_getElem? (i := 8) rfl)) d4_131 (by decide) (by decide) (by decide) (by decide) (by decide) ?_
  intro T h26 b26 g26 gn_b26 E26 E_b26 A_b26 X
  have sz_b26 : h.size ≤ b26 := Nat.le_trans K.1 (Nat.le_of_eq g26.symm)
  have ne_b2_b26 : b2 ≠ b26 := Nat.ne_of_lt (Nat.lt_of_lt_of_eq A_b2.lt g26.symm)
  have ne_a2_b26 : a2 ≠ b26 := Nat.ne_of_lt (Nat.lt_of_lt_of_eq A_a2.lt g26.symm)
  have ne_b5_b26 : b5 ≠ b26 := Nat.ne_of_lt (Nat.lt_of_lt_of_eq E_b5.lt g26.symm)
  have ne_a1_b26 : a1 ≠ b26 := Nat.ne_of_lt (Nat.lt_of_lt_of_eq E_a1.lt g26.symm)
  have K := K.ext E26
  have E_a1 := E_a1.ext E26
  have F_a1_size := F_a1_size.ext E26
  have F_a1_levels := F_a1_levels.ext E26
  have A_a2 := A_a2.ext E26
  have A_b2 := A_b2.ext E26
  have E_b2 := E_b2.ext E26
  have E_b5 := E_b5.ext E26
  have A_b5 := A_b5.ext E26
  replace A_b26 : AF Z h26 b26 .long 8 (fun j => .long ((fun _ => (0 : Int64)) j)) := A_b26
  refine r_astoreN 134 X #[.val (.ref a1), .val (.ref a2), .val (.int (2 : Int32)), .val (.ref b26), .val (.int (1 : Int32)), .val (.ref b5), .val (.int (1 : Int32)), .unset] d4_133 rfl rfl ?_
  refine r_aloadN 135 X d4_134 rfl rfl ?_
  refine r_ldc2Long 138 X (hw _ (List.mem_of_getElem? (i := 35) rfl)) d4_135 ?_
  refine r_callS 141 X (st := []) (rmFl l Z a0 hw n0 _ X.sz b26 (9223372036854775807 : Int64) 8 (8 : Int32) (fun _ => (0 : Int64)) (by decide) gn_b26 A_b26) (hw _ (List.mem_of_getElem? (i := 36) rfl)) (hw _ (List.mem_of_getElem? (i := 37) rfl)) (hw _ (List.mem_of_getElem? (i := 39) rfl)) (hw _ (List.mem_of_getElem? (i := 38) rfl)) (by decide) pd_3 [(.ref b26), (.long (9223372036854775807 : Int64))] rfl rfl 0 (Nat.le_of_eq rfl) rfl (by decide) (by decide) (by decide) (by decide) d4_138 ?_
  rintro T h27 v27 ⟨rfl, K27, A27⟩ X
  have K := K.trans K27 (allS (Or.inr sz_b26) all0)
  have E_a1 := E_a1.keep K27
  have F_a1_size := F_a1_size.keep K27 (ninS ne_a1_b26 nin0)
  have F_a1_levels := F_a1_levels.keep K27 (ninS ne_a1_b26 nin0)
  have A_a2 := A_a2.keep K27 (ninS ne_a2_b26 nin0)
  have A_b2 := A_b2.keep K27 (ninS ne_b2_b26 nin0)
  have E_b2 := E_b2.keep K27
  have E_b5 := E_b5.keep K27
  have A_b5 := A_b5.keep K27 (ninS ne_b5_b26 nin0)
  have E_b26 := E_b26.keep K27
  replace A27 : AF Z h27 b26 .long 8 (fun j => .long ((fun _ => (9223372036854775807 : Int64)) j)) := A27
  have A_b26 := A27
  change Run _ _ _ _ _ _ _ _ []
  refine r_iconst 142 X (0 : Int32) d4_141 rfl ?_
  refine r_istore 144 X #[.val (.ref a1), .val (.ref a2), .val (.int (2 : Int32)), .val (.ref b26), .val (.int (1 : Int32)), .val (.ref b5), .val (.int (1 : Int32)), .val (.int (0 : Int32))] d4_142 rfl ?_
  refine r_iload 146 X d4_144 rfl ?_
  refine r_aload 148 X d4_146 rfl rfl ?_
  refine r_arraylength 149 X A_b5 (24 : Int32) (by decide) d4_148 ?_
  refine r_bipush 151 X (8 : Int32) d4_149 rfl ?_
  refine r_idiv 152 X d4_151 (by decide) ?_
  refine r_topI (x' := (3 : Int32)) (by decide) ?_
  refine r_icmpN 155 X d4_152 (tlt (by decide)).2.1 ?_
  refine r_aloadN 156 X d4_155 rfl rfl ?_
  refine r_iload 158 X d4_156 rfl ?_
  refine r_aload 160 X d4_158 rfl rfl ?_
  refine r_iload 162 X d4_160 rfl ?_
  refine r_bipush 164 X (8 : Int32) d4_162 rfl ?_
  refine r_imul 165 X d4_164 ?_
  refine r_topI (x' := (0 : Int32)) (by decide) ?_
  refine r_laload 166 X A_b5 (i := 0) (v := (.long ((f 0) ^^^ (-9223372036854775808 : Int64)))) (by decide) (by decide) rfl d4_165 ?_
  refine r_lastore 167 X A_b26 (i := 0) (v := (.long ((f 0) ^^^ (-9223372036854775808 : Int64)))) (by decide) (by decide) rfl gn_b26 d4_166 ?_
  intro T h28 W28 X
  have K := K.wr W28 (Or.inr sz_b26)
  have E_a1 := E_a1.wr W28
  have F_a1_size := F_a1_size.other W28 (Or.inl ne_a1_b26)
  have F_a1_levels := F_a1_levels.other W28 (Or.inl ne_a1_b26)
  have A_a2 := A_a2.other W28 ne_a2_b26
  have A_b2 := A_b2.other W28 ne_b2_b26
  have E_b2 := E_b2.wr W28
  have E_b5 := E_b5.wr W28
  have A_b5 := A_b5.other W28 ne_b5_b26
  have E_b26 := E_b26.wr W28
  have A_b26 := A_b26.setJ W28
  refine r_iinc 170 X (1 : Int32) #[.val (.ref a1), .val (.ref a2), .val (.int (2 : Int32)), .val (.ref b26), .val (.int (1 : Int32)), .val (.ref b5), .val (.int (1 : Int32)), .val (.int (1 : Int32))] d4_167 rfl rfl rfl ?_
  refine r_goto 144 X d4_170 ?_
  refine r_iload 146 X d4_144 rfl ?_
  refine r_aload 148 X d4_146 rfl rfl ?_
  refine r_arraylength 149 X A_b5 (24 : Int32) (by decide) d4_148 ?_
  refine r_bipush 151 X (8 : Int32) d4_149 rfl ?_
  refine r_idiv 152 X d4_151 (by decide) ?_
  refine r_topI (x' := (3 : Int32)) (by decide) ?_
  refine r_icmpN 155 X d4_152 (tlt (by decide)).2.1 ?_
  refine r_aloadN 156 X d4_155 rfl rfl ?_
  refine r_iload 158 X d4_156 rfl ?_
  refine r_aload 160 X d4_158 rfl rfl ?_
  refine r_iload 162 X d4_160 rfl ?_
  refine r_bipush 164 X (8 : Int32) d4_162 rfl ?_
  refine r_imul 165 X d4_164 ?_
  refine r_topI (x' := (8 : Int32)) (by decide) ?_
  refine r_laload 166 X A_b5 (i := 8) (v := (.long ((f 8) ^^^ (-9223372036854775808 : Int64)))) (by decide) (by decide) rfl d4_165 ?_
  refine r_lastore 167 X A_b26 (i := 1) (v := (.long ((f 8) ^^^ (-9223372036854775808 : Int64)))) (by decide) (by decide) rfl gn_b26 d4_166 ?_
  intro T h29 W29 X
  have K := K.wr W29 (Or.inr sz_b26)
  have E_a1 := E_a1.wr W29
  have F_a1_size := F_a1_size.other W29 (Or.inl ne_a1_b26)
  have F_a1_levels := F_a1_levels.other W29 (Or.inl ne_a1_b26)
  have A_a2 := A_a2.other W29 ne_a2_b26
  have A_b2 := A_b2.other W29 ne_b2_b26
  have E_b2 := E_b2.wr W29
  have E_b5 := E_b5.wr W29
  have A_b5 := A_b5.other W29 ne_b5_b26
  have E_b26 := E_b26.wr W29
  have A_b26 := A_b26.setJ W29
  refine r_iinc 170 X (1 : Int32) #[.val (.ref a1), .val (.ref a2), .val (.int (2 : Int32)), .val (.ref b26), .val (.int (1 : Int32)), .val (.ref b5), .val (.int (1 : Int32)), .val (.int (2 : Int32))] d4_167 rfl rfl rfl ?_
  refine r_goto 144 X d4_170 ?_
  refine r_iload 146 X d4_144 rfl ?_
  refine r_aload 148 X d4_146 rfl rfl ?_
  refine r_arraylength 149 X A_b5 (24 : Int32) (by decide) d4_148 ?_
  refine r_bipush 151 X (8 : Int32) d4_149 rfl ?_
  refine r_idiv 152 X d4_151 (by decide) ?_
  refine r_topI (x' := (3 : Int32)) (by decide) ?_
  refine r_icmpN 155 X d4_152 (tlt (by decide)).2.1 ?_
  refine r_aloadN 156 X d4_155 rfl rfl ?_
  refine r_iload 158 X d4_156 rfl ?_
  refine r_aload 160 X d4_158 rfl rfl ?_
  refine r_iload 162 X d4_160 rfl ?_
  refine r_bipush 164 X (8 : Int32) d4_162 rfl ?_
  refine r_imul 165 X d4_164 ?_
  refine r_topI (x' := (16 : Int32)) (by decide) ?_
  refine r_laload 166 X A_b5 (i := 16) (v := (.long ((f 16) ^^^ (-9223372036854775808 : Int64)))) (by decide) (by decide) rfl d4_165 ?_
  refine r_lastore 167 X A_b26 (i := 2) (v := (.long ((f 16) ^^^ (-9223372036854775808 : Int64)))) (by decide) (by decide) rfl gn_b26 d4_166 ?_
  intro T h30 W30 X
  have K := K.wr W30 (Or.inr sz_b26)
  have E_a1 := E_a1.wr W30
  have F_a1_size := F_a1_size.other W30 (Or.inl ne_a1_b26)
  have F_a1_levels := F_a1_levels.other W30 (Or.inl ne_a1_b26)
  have A_a2 := A_a2.other W30 ne_a2_b26
  have A_b2 := A_b2.other W30 ne_b2_b26
  have E_b2 := E_b2.wr W30
  have E_b5 := E_b5.wr W30
  have A_b5 := A_b5.other W30 ne_b5_b26
  have E_b26 := E_b26.wr W30
  have A_b26 := A_b26.setJ W30
  refine r_iinc 170 X (1 : Int32) #[.val (.ref a1), .val (.ref a2), .val (.int (2 : Int32)), .val (.ref b26), .val (.int (1 : Int32)), .val (.ref b5), .val (.int (1 : Int32)), .val (.int (3 : Int32))] d4_167 rfl rfl rfl ?_
  refine r_goto 144 X d4_170 ?_
  refine r_iload 146 X d4_144 rfl ?_
  refine r_aload 148 X d4_146 rfl rfl ?_
  refine r_arraylength 149 X A_b5 (24 : Int32) (by decide) d4_148 ?_
  refine r_bipush 151 X (8 : Int32) d4_149 rfl ?_
  refine r_idiv 152 X d4_151 (by decide) ?_
  refine r_topI (x' := (3 : Int32)) (by decide) ?_
  refine r_icmpY 173 X d4_152 (flt (by decide)).2.1 ?_
  refine r_aloadN 174 X d4_173 rfl rfl ?_
  refine r_getfield 177 X (host := "") (Or.inl (hw _ (List.mem_of_getElem? (i := 26) rfl))) Via.refl F_a1_levels d4_174 ?_
  intro T X
  refine r_iload 179 X d4_177 rfl ?_
  refine r_aloadN 180 X d4_179 rfl rfl ?_
  refine r_aastoreA 181 X A_b2 E_b2 O_b2 E_b26 (i := 1) (by decide) (by decide) gn_b2 d4_180 ?_
  intro T h31 W31 X
  have K := K.wr W31 (Or.inr sz_b2)
  have E_a1 := E_a1.wr W31
  have F_a1_size := F_a1_size.other W31 (Or.inl ne_a1_b2)
  have F_a1_levels := F_a1_levels.other W31 (Or.inl ne_a1_b2)
  have A_a2 := A_a2.other W31 ne_a2_b2
  have A_b2 := A_b2.set W31
  have E_b2 := E_b2.wr W31
  have E_b5 := E_b5.wr W31
  have A_b5 := A_b5.other W31 (Ne.symm ne_b2_b5)
  have E_b26 := E_b26.wr W31
  have A_b26 := A_b26.other W31 (Ne.symm ne_b2_b26)
  refine r_iinc 184 X (1 : Int32) #[.val (.ref a1), .val (.ref a2), .val (.int (2 : Int32)), .val (.ref b26), .val (.int (2 : Int32)), .val (.ref b5), .val (.int (1 : Int32)), .val (.int (3 : Int32))] d4_181 rfl rfl rfl ?_
  refine r_goto 106 X d4_184 ?_
  refine r_iload 108 X d4_106 rfl ?_
  refine r_iloadN 109 X d4_108 rfl ?_
  refine r_icmpY 187 X d4_109 (flt (by decide)).2.1 ?_
  refine r_retV X d4_187 (by decide) (by decide) ?_
  exact ⟨rfl, K, b2, b5, F_a1_levels, Or.inr ⟨b26, 3, by decide, by decide, A_b2, A_b5.congr (fun j hj => match j, hj with | 0, _ => rfl | 1, _ => rfl | 2, _ => rfl | 3, _ => rfl | 4, _ => rfl | 5, _ => rfl | 6, _ => rfl | 7, _ => rfl | 8, _ => rfl | 9, _ => rfl | 10, _ => rfl | 11, _ => rfl | 12, _ => rfl | 13, _ => rfl | 14, _ => rfl | 15, _ => rfl | 16, _ => rfl | 17, _ => rfl | 18, _ => rfl | 19, _ => rfl | 20, _ => rfl | 21, _ => rfl | 22, _ => rfl | 23, _ => rfl | _ + 24, hj => absurd hj (by omega)), A_b26.congr (fun j hj => match j, hj with | 0, _ => rfl | 1, _ => rfl | 2, _ => rfl | 3, _ => rfl | 4, _ => rfl | 5, _ => rfl | 6, _ => rfl | 7, _ => rfl | _ + 8, hj => absurd hj (by omega))⟩⟩
theorem rmIn (l : Launch) (Z : State) (a0 : Array Value) (hw : ∀ d ∈ tables_1, d.before a0 Z = true) (n0 : Nat) (h : Heap) (Z0 : n0 ≤ h.size) (a1 a2 : Addr) (n : Nat) (f : Nat → Int64) (hn : n = 0 ∨ n = 3 ∨ n = 8 ∨ n = 9 ∨ n = 17) (ga : n0 ≤ a1) (ne_a1_a2 : a1 ≠ a2) (E_a1 : Exa Z h a1 "com/example/skiprail/skiprail/index/GroupedKeys") (F_a1_size : Fld Z h a1 "com/example/skiprail/skiprail/index/GroupedKeys" "size" "I" (.int (0 : Int32))) (F_a1_levels : Fld Z h a1 "com/example/skiprail/skiprail/index/GroupedKeys" "levels" "[[J" .null) (A_a2 : AF Z h a2 .long n (fun j => .long (f j))) :
    Met1 l Z n0 [] (⟨"com/example/skiprail/skiprail/index/GroupedKeys", "<init>", "([J)V"⟩ : MethodName) prog_24_method_1_code 8 none ({ frames := 2, cells := 3, slots := 34, locals := 25 } : Room) #[(.ref a1), (.ref a2)] h (fun v h' => v = none ∧ Keep h h' [a1] ∧ GKs Z h' a1 n f) := by
  rcases hn with rfl | rfl | rfl | rfl | rfl
  · exact rmIn0 l Z a0 hw n0 h Z0 a1 a2 f ga ne_a1_a2 E_a1 F_a1_size F_a1_levels A_a2
  · exact rmIn3 l Z a0 hw n0 h Z0 a1 a2 f ga ne_a1_a2 E_a1 F_a1_size F_a1_levels A_a2
  · exact rmIn8 l Z a0 hw n0 h Z0 a1 a2 f ga ne_a1_a2 E_a1 F_a1_size F_a1_levels A_a2
  · exact rmIn9 l Z a0 hw n0 h Z0 a1 a2 f ga ne_a1_a2 E_a1 F_a1_size F_a1_levels A_a2
  · exact rmIn17 l Z a0 hw n0 h Z0 a1 a2 f ga ne_a1_a2 E_a1 F_a1_size F_a1_levels A_a2
theorem d9_0 : decode prog_24_method_5_code 0 = .ok (.lload_n 1, 1) := by decide +kernel
theorem d9_1 : decode prog_24_method_5_code 1 = .ok (.ldc2_w 35, 3) := by decide +kernel
theorem d9_4 : decode prog_24_method_5_code 4 = .ok (.lxor, 1) := by decide +kernel
theorem d9_5 : decode prog_24_method_5_code 5 = .ok (.lstore_n 3, 1) := by decide +kernel
theorem d9_6 : decode prog_24_method_5_code 6 = .ok (.iconst 0, 1) := by decide +kernel
theorem d9_7 : decode prog_24_method_5_code 7 = .ok (.istore 5, 2) := by decide +kernel
theorem d9_9 : decode prog_24_method_5_code 9 = .ok (.aload_n 0, 1) := by decide +kernel
theorem d9_10 : decode prog_24_method_5_code 10 = .ok (.getfield 17, 3) := by decide +kernel
theorem d9_13 : decode prog_24_method_5_code 13 = .ok (.arraylength, 1) := by decide +kernel
theorem d9_14 : decode prog_24_method_5_code 14 = .ok (.iconst 1, 1) := by decide +kernel
theorem d9_15 : decode prog_24_method_5_code 15 = .ok (.isub, 1) := by decide +kernel
theorem d9_16 : decode prog_24_method_5_code 16 = .ok (.istore 6, 2) := by decide +kernel
theorem d9_18 : decode prog_24_method_5_code 18 = .ok (.iload 6, 2) := by decide +kernel
theorem d9_20 : decode prog_24_method_5_code 20 = .ok (.ifCond .lt 84, 3) := by decide +kernel
theorem d9_23 : decode prog_24_method_5_code 23 = .ok (.aload_n 0, 1) := by decide +kernel
theorem d9_24 : decode prog_24_method_5_code 24 = .ok (.getfield 17, 3) := by decide +kernel
theorem d9_27 : decode prog_24_method_5_code 27 = .ok (.iload 6, 2) := by decide +kernel
theorem d9_29 : decode prog_24_method_5_code 29 = .ok (.aaload, 1) := by decide +kernel
theorem d9_30 : decode prog_24_method_5_code 30 = .ok (.astore 7, 2) := by decide +kernel
theorem d9_32 : decode prog_24_method_5_code 32 = .ok (.iload 5, 2) := by decide +kernel
theorem d9_34 : decode prog_24_method_5_code 34 = .ok (.bipush 8, 2) := by decide +kernel
theorem d9_36 : decode prog_24_method_5_code 36 = .ok (.imul, 1) := by decide +kernel
theorem d9_37 : decode prog_24_method_5_code 37 = .ok (.istore 8, 2) := by decide +kernel
theorem d9_39 : decode prog_24_method_5_code 39 = .ok (.iconst 0, 1) := by decide +kernel
theorem d9_40 : decode prog_24_method_5_code 40 = .ok (.istore 9, 2) := by decide +kernel
theorem d9_42 : decode prog_24_method_5_code 42 = .ok (.iload 8, 2) := by decide +kernel
theorem d9_44 : decode prog_24_method_5_code 44 = .ok (.istore 10, 2) := by decide +kernel
theorem d9_46 : decode prog_24_method_5_code 46 = .ok (.iload 10, 2) := by decide +kernel
theorem d9_48 : decode prog_24_method_5_code 48 = .ok (.iload 8, 2) := by decide +kernel
theorem d9_50 : decode prog_24_method_5_code 50 = .ok (.bipush 8, 2) := by decide +kernel
theorem d9_52 : decode prog_24_method_5_code 52 = .ok (.iadd, 1) := by decide +kernel
theorem d9_53 : decode prog_24_method_5_code 53 = .ok (.if_icmp .ge 29, 3) := by decide +kernel
theorem d9_56 : decode prog_24_method_5_code 56 = .ok (.iload 9, 2) := by decide +kernel
theorem d9_58 : decode prog_24_method_5_code 58 = .ok (.aload 7, 2) := by decide +kernel
theorem d9_60 : decode prog_24_method_5_code 60 = .ok (.iload 10, 2) := by decide +kernel
theorem d9_62 : decode prog_24_method_5_code 62 = .ok (.laload, 1) := by decide +kernel
theorem d9_63 : decode prog_24_method_5_code 63 = .ok (.lload_n 3, 1) := by decide +kernel
theorem d9_64 : decode prog_24_method_5_code 64 = .ok (.lcmp, 1) := by decide +kernel
theorem d9_65 : decode prog_24_method_5_code 65 = .ok (.ifCond .ge 7, 3) := by decide +kernel
theorem d9_68 : decode prog_24_method_5_code 68 = .ok (.iconst 1, 1) := by decide +kernel
theorem d9_69 : decode prog_24_method_5_code 69 = .ok (.goto 4, 3) := by decide +kernel
theorem d9_72 : decode prog_24_method_5_code 72 = .ok (.iconst 0, 1) := by decide +kernel
theorem d9_73 : decode prog_24_method_5_code 73 = .ok (.iadd, 1) := by decide +kernel
theorem d9_74 : decode prog_24_method_5_code 74 = .ok (.istore 9, 2) := by decide +kernel
theorem d9_76 : decode prog_24_method_5_code 76 = .ok (.iinc 10 1, 3) := by decide +kernel
theorem d9_79 : decode prog_24_method_5_code 79 = .ok (.goto (-33), 3) := by decide +kernel
theorem d9_82 : decode prog_24_method_5_code 82 = .ok (.iload 9, 2) := by decide +kernel
theorem d9_84 : decode prog_24_method_5_code 84 = .ok (.ifCond .ne 5, 3) := by decide +kernel
theorem d9_87 : decode prog_24_method_5_code 87 = .ok (.iconst (-1), 1) := by decide +kernel
theorem d9_88 : decode prog_24_method_5_code 88 = .ok (.ireturn, 1) := by decide +kernel
theorem d9_89 : decode prog_24_method_5_code 89 = .ok (.iload 8, 2) := by decide +kernel
theorem d9_91 : decode prog_24_method_5_code 91 = .ok (.iload 9, 2) := by decide +kernel
theorem d9_93 : decode prog_24_method_5_code 93 = .ok (.iadd, 1) := by decide +kernel
theorem d9_94 : decode prog_24_method_5_code 94 = .ok (.iconst 1, 1) := by decide +kernel
theorem d9_95 : decode prog_24_method_5_code 95 = .ok (.isub, 1) := by decide +kernel
theorem d9_96 : decode prog_24_method_5_code 96 = .ok (.istore 5, 2) := by decide +kernel
theorem d9_98 : decode prog_24_method_5_code 98 = .ok (.iinc 6 (-1), 3) := by decide +kernel
theorem d9_101 : decode prog_24_method_5_code 101 = .ok (.goto (-83), 3) := by decide +kernel
theorem d9_104 : decode prog_24_method_5_code 104 = .ok (.iload 5, 2) := by decide +kernel
theorem d9_106 : decode prog_24_method_5_code 106 = .ok (.ireturn, 1) := by decide +kernel
theorem pn_9 : plainName "com/example/skiprail/skiprail/index/GroupedKeys" = true := by first | (simp [plainName, overriddenIn]; done) | decide +kernel
theorem ef_9 (m : MethodId) (x0 : Addr) (x1 : Int64) : entryFrame m #[(.ref x0), (.long x1)] 11 = mkF m 0 #[.val (.ref x0), .val (.long x1), .second, .unset, .unset, .unset, .unset, .unset, .unset, .unset, .unset] [] := by first | (simp [entryFrame, mkF, argsToLocals, Value.category]; done) | rfl
set_option maxRecDepth 65536 in
set_option maxHeartbeats 40000000 in
theorem rmB1 (l : Launch) (Z : State) (a0 : Array Value) (hw : ∀ d ∈ tables_1, d.before a0 Z = true) (n0 : Nat) (h : Heap) (Z0 : n0 ≤ h.size) (a1 lv l0 : Addr) (g0 : Nat → Int64) (m0 : Nat) (x1 : Int64) (hm8 : m0 ≤ 8) (hm0 : ∀ j, j < 8 → (g0 j < (x1 ^^^ (-9223372036854775808 : Int64)) ↔ j < m0)) (E_a1 : Exa Z h a1 "com/example/skiprail/skiprail/index/GroupedKeys") (F_a1_levels : Fld Z h a1 "com/example/skiprail/skiprail/index/GroupedKeys" "levels" "[[J" (.ref lv)) (A_lv : AF Z h lv (.array .long) 1 (upd (fun _ => .null) 0 (.ref l0))) (A_l0 : AF Z h l0 .long 8 (fun j => .long (g0 j))) :
    Met1 l Z n0 [] (⟨"com/example/skiprail/skiprail/index/GroupedKeys", "below", "(J)I"⟩ : MethodName) prog_24_method_5_code 11 (some .int) ({ frames := 0, cells := 0, slots := 0, locals := 0 } : Room) #[(.ref a1), (.long x1)] h (fun v h' => ∃ r : Int32, v = some (.int r) ∧ h = h' ∧ r.toInt = (m0 : Int) - 1) := by
  refine met_of (plainFor_of_name pn_9) Z0 (fun m => ef_9 m a1 x1) ?_
  intro p e s m below meth c T hs0 X
  refine r_lloadN 1 X d9_0 rfl ?_
  refine r_ldc2Long 4 X (hw _ (List.mem_of_getElem? (i := 46) rfl)) d9_1 ?_
  refine r_lxor 5 X d9_4 ?_
  refine r_lstoreN 6 X #[.val (.ref a1), .val (.long x1), .second, .val (.long (x1 ^^^ (-9223372036854775808 : Int64))), .second, .unset, .unset, .unset, .unset, .unset, .unset] d9_5 rfl ?_
  refine r_iconst 7 X (0 : Int32) d9_6 rfl ?_
  refine r_istore 9 X #[.val (.ref a1), .val (.long x1), .second, .val (.long (x1 ^^^ (-9223372036854775808 : Int64))), .second, .val (.int (0 : Int32)), .unset, .unset, .unset, .unset, .unset] d9_7 rfl ?_
  refine r_aloadN 10 X d9_9 rfl rfl ?_
  refine r_getfield 13 X (host := "") (Or.inl (hw _ (List.mem_of_getElem? (i := 26) rfl))) Via.refl F_a1_levels d9_10 ?_
  intro T X
  refine r_arraylength 14 X A_lv (1 : Int32) (by decide) d9_13 ?_
  refine r_iconst 15 X (1 : Int32) d9_14 rfl ?_
  refine r_isub 16 X d9_15 ?_
  refine r_topI (x' := (0 : Int32)) (by decide) ?_
  refine r_istore 18 X #[.val (.ref a1), .val (.long x1), .second, .val (.long (x1 ^^^ (-9223372036854775808 : Int64))), .second, .val (.int (0 : Int32)), .val (.int (0 : Int32)), .unset, .unset, .unset, .unset] d9_16 rfl ?_
  refine r_iload 20 X d9_18 rfl ?_
  refine r_ifN 23 X d9_20 ((if0 _ _).trans (flt (by decide)).1) ?_
  refine r_aloadN 24 X d9_23 rfl rfl ?_
  refine r_getfield 27 X (host := "") (Or.inl (hw _ (List.mem_of_getElem? (i := 26) rfl))) Via.refl F_a1_levels d9_24 ?_
  intro T X
  refine r_iload 29 X d9_27 rfl ?_
  refine r_aaload 30 X A_lv rfl (i := 0) (v := (.ref l0)) (by decide) (by decide) rfl d9_29 ?_
  refine r_astore 32 X #[.val (.ref a1), .val (.long x1), .second, .val (.long (x1 ^^^ (-9223372036854775808 : Int64))), .second, .val (.int (0 : Int32)), .val (.int (0 : Int32)), .val (.ref l0), .unset, .unset, .unset] d9_30 rfl rfl ?_
  refine r_iload 34 X d9_32 rfl ?_
  refine r_bipush 36 X (8 : Int32) d9_34 rfl ?_
  refine r_imul 37 X d9_36 ?_
  refine r_topI (x' := (0 : Int32)) (by decide) ?_
  refine r_istore 39 X #[.val (.ref a1), .val (.long x1), .second, .val (.long (x1 ^^^ (-9223372036854775808 : Int64))), .second, .val (.int (0 : Int32)), .val (.int (0 : Int32)), .val (.ref l0), .val (.int (0 : Int32)), .unset, .unset] d9_37 rfl ?_
  refine r_iconst 40 X (0 : Int32) d9_39 rfl ?_
  refine r_istore 42 X #[.val (.ref a1), .val (.long x1), .second, .val (.long (x1 ^^^ (-9223372036854775808 : Int64))), .second, .val (.int (0 : Int32)), .val (.int (0 : Int32)), .val (.ref l0), .val (.int (0 : Int32)), .val (.int (0 : Int32)), .unset] d9_40 rfl ?_
  refine r_iload 44 X d9_42 rfl ?_
  refine r_istore 46 X #[.val (.ref a1), .val (.long x1), .second, .val (.long (x1 ^^^ (-9223372036854775808 : Int64))), .second, .val (.int (0 : Int32)), .val (.int (0 : Int32)), .val (.ref l0), .val (.int (0 : Int32)), .val (.int (0 : Int32)), .val (.int (0 : Int32))] d9_44 rfl ?_
  have hs1 : (0 : Int32).toInt = ((0 : Nat) : Int) := rfl
  have hsE1 : (8 : Int32).toInt = ((0 : Nat) : Int) + 8 := rfl
  have loop1 : ∀ (r : Nat) (T : State) (k1 : Nat) (ci1 pi1 : Int32), k1 + r = 8 → pi1.toInt = ((0 + k1 : Nat) : Int) → ci1.toInt = (cntL g0 (x1 ^^^ (-9223372036854775808 : Int64)) 0 k1 : Int) → Cx p l e ({ frames := 0, cells := 0, slots := 0, locals := 0 } : Room) s m #[(.ref a1), (.long x1)] below meth c Z prog_24_method_5_code 11 "com/example/skiprail/skiprail/index/GroupedKeys" (some .int) "below" n0 T h 0 0 → Run p e below m (Fin1 below s n0 (fun v h' => ∃ r : Int32, v = some (.int r) ∧ h = h' ∧ r.toInt = (m0 : Int) - 1) ({ frames := 0, cells := 0, slots := 0, locals := 0 } : Room).cells ({ frames := 0, cells := 0, slots := 0, locals := 0 } : Room).slots) T 46 #[.val (.ref a1), .val (.long x1), .second, .val (.long (x1 ^^^ (-9223372036854775808 : Int64))), .second, .val (.int (0 : Int32)), .val (.int (0 : Int32)), .val (.ref l0), .val (.int (0 : Int32)), .val (.int ci1), .val (.int pi1)] [] := by
    intro r
    induction r with
    | zero =>
      intro T k1 ci1 pi1 hk hp hc X
      obtain rfl : k1 = 8 := by omega
      have hc1 : ci1.toInt = ((min 8 (m0 - 0) : Nat) : Int) := by rw [hc, own_cntL (hm0) 8 (by omega)]
      refine r_iload 48 X d9_46 rfl ?_
      refine r_iload 50 X d9_48 rfl ?_
      refine r_bipush 52 X (8 : Int32) d9_50 rfl ?_
      refine r_iadd 53 X d9_52 ?_
      refine r_topI (x' := (8 : Int32)) (by decide) ?_
      refine r_icmpY 82 X d9_53 (flt (fun z => absurd ((ltI hp hsE1).mp z) (by omega))).2.1 ?_
      refine r_iload 84 X d9_82 rfl ?_
      by_cases h84_1 : ci1 = (0 : Int32)
      · refine r_ifN 87 X d9_84 ((if0 _ _).trans (teq h84_1).2) ?_
        refine r_iconst 88 X (-1 : Int32) d9_87 rfl ?_
        refine r_retI X d9_88 (by decide) (by decide) ?_
        exact ⟨_, rfl, rfl, by have e := (eqI hc1 (b := 0) rfl).mp h84_1; have e2 : (-1 : Int32).toInt = -1 := rfl; omega⟩
      · refine r_ifY 89 X d9_84 ((if0 _ _).trans (feq h84_1).2) ?_
        refine r_iload 91 X d9_89 rfl ?_
        refine r_iload 93 X d9_91 rfl ?_
        refine r_iadd 94 X d9_93 ?_
        refine r_iconst 95 X (1 : Int32) d9_94 rfl ?_
        refine r_isub 96 X d9_95 ?_
        have hci : ¬ ci1 = (0 : Int32) := h84_1
        rw [eqI hc1 (b := 0) rfl] at hci
        have hgr := subI (addI hs1 hc1 (by omega) (by omega)) (y := (1 : Int32)) (b := 1) rfl (by omega) (by omega)
        generalize (((0 : Int32) + ci1) - (1 : Int32)) = gr1 at hgr ⊢
        refine r_istore 98 X #[.val (.ref a1), .val (.long x1), .second, .val (.long (x1 ^^^ (-9223372036854775808 : Int64))), .second, .val (.int gr1), .val (.int (0 : Int32)), .val (.ref l0), .val (.int (0 : Int32)), .val (.int ci1), .val (.int pi1)] d9_96 rfl ?_
        refine r_iinc 101 X (-1 : Int32) #[.val (.ref a1), .val (.long x1), .second, .val (.long (x1 ^^^ (-9223372036854775808 : Int64))), .second, .val (.int gr1), .val (.int (-1 : Int32)), .val (.ref l0), .val (.int (0 : Int32)), .val (.int ci1), .val (.int pi1)] d9_98 rfl rfl rfl ?_
        refine r_goto 18 X d9_101 ?_
        refine r_iload 20 X d9_18 rfl ?_
        refine r_ifY 104 X d9_20 ((if0 _ _).trans (tlt (by decide)).1) ?_
        refine r_iload 106 X d9_104 rfl ?_
        refine r_retI X d9_106 (by decide) (by decide) ?_
        exact ⟨_, rfl, rfl, by omega⟩
    | succ r ih =>
      intro T k1 ci1 pi1 hk hp hc X
      refine r_iload 48 X d9_46 rfl ?_
      refine r_iload 50 X d9_48 rfl ?_
      refine r_bipush 52 X (8 : Int32) d9_50 rfl ?_
      refine r_iadd 53 X d9_52 ?_
      refine r_topI (x' := (8 : Int32)) (by decide) ?_
      refine r_icmpN 56 X d9_53 (tlt ((ltI hp hsE1).mpr (by omega))).2.1 ?_
      refine r_iload 58 X d9_56 rfl ?_
      refine r_aload 60 X d9_58 rfl rfl ?_
      refine r_iload 62 X d9_60 rfl ?_
      refine r_laload 63 X A_l0 (i := (0 + k1)) (v := (.long (g0 (0 + k1)))) hp (by omega) rfl d9_62 ?_
      refine r_lloadN 64 X d9_63 rfl ?_
      refine r_lcmp 65 X d9_64 ?_
      have J73_2 : ∀ (T : State), Cx p l e ({ frames := 0, cells := 0, slots := 0, locals := 0 } : Room) s m #[(.ref a1), (.long x1)] below meth c Z prog_24_method_5_code 11 "com/example/skiprail/skiprail/index/GroupedKeys" (some .int) "below" n0 T h 0 0 → Run p e below m (Fin1 below s n0 (fun v h' => ∃ r : Int32, v = some (.int r) ∧ h = h' ∧ r.toInt = (m0 : Int) - 1) ({ frames := 0, cells := 0, slots := 0, locals := 0 } : Room).cells ({ frames := 0, cells := 0, slots := 0, locals := 0 } : Room).slots) T 73 #[.val (.ref a1), .val (.long x1), .second, .val (.long (x1 ^^^ (-9223372036854775808 : Int64))), .second, .val (.int (0 : Int32)), .val (.int (0 : Int32)), .val (.ref l0), .val (.int (0 : Int32)), .val (.int ci1), .val (.int pi1)] [(.int (b2i ((g0 (0 + k1)) < (x1 ^^^ (-9223372036854775808 : Int64))))), (.int ci1)] := by
        intro T X
        refine r_iadd 74 X d9_73 ?_
        refine r_istore 76 X #[.val (.ref a1), .val (.long x1), .second, .val (.long (x1 ^^^ (-9223372036854775808 : Int64))), .second, .val (.int (0 : Int32)), .val (.int (0 : Int32)), .val (.ref l0), .val (.int (0 : Int32)), .val (.int (ci1 + (b2i ((g0 (0 + k1)) < (x1 ^^^ (-9223372036854775808 : Int64)))))), .val (.int pi1)] d9_74 rfl ?_
        refine r_iinc 79 X (1 : Int32) #[.val (.ref a1), .val (.long x1), .second, .val (.long (x1 ^^^ (-9223372036854775808 : Int64))), .second, .val (.int (0 : Int32)), .val (.int (0 : Int32)), .val (.ref l0), .val (.int (0 : Int32)), .val (.int (ci1 + (b2i ((g0 (0 + k1)) < (x1 ^^^ (-9223372036854775808 : Int64)))))), .val (.int (pi1 + (1 : Int32)))] d9_76 rfl rfl rfl ?_
        refine r_goto 46 X d9_79 ?_
        exact ih _ (k1 + 1) _ _ (by omega) ((addI hp (y := (1 : Int32)) (b := 1) rfl (by omega) (by omega)).trans (by omega)) (own_cntS hc (by omega)) X
      by_cases h65_3 : (g0 (0 + k1)) < (x1 ^^^ (-9223372036854775808 : Int64))
      · refine r_ifN 68 X d9_65 ((if0 _ _).trans (tlt ((lw_lt _ _).mpr h65_3)).2.1) ?_
        refine r_iconst 69 X (1 : Int32) d9_68 rfl ?_
        refine r_goto 73 X d9_69 ?_
        refine r_topI (x' := (b2i ((g0 (0 + k1)) < (x1 ^^^ (-9223372036854775808 : Int64))))) (b2i_t h65_3).symm ?_
        exact J73_2 _ X
      · refine r_ifY 72 X d9_65 ((if0 _ _).trans (flt (fun q => h65_3 ((lw_lt _ _).mp q))).2.1) ?_
        refine r_iconst 73 X (0 : Int32) d9_72 rfl ?_
        refine r_topI (x' := (b2i ((g0 (0 + k1)) < (x1 ^^^ (-9223372036854775808 : Int64))))) (b2i_f h65_3).symm ?_
        exact J73_2 _ X
  exact loop1 8 _ 0 _ _ rfl (hs1.trans (by omega)) rfl X
set_option maxRecDepth 65536 in
set_option maxHeartbeats 40000000 in
theorem rmB2 (l : Launch) (Z : State) (a0 : Array Value) (hw : ∀ d ∈ tables_1, d.before a0 Z = true) (n0 : Nat) (h : Heap) (Z0 : n0 ≤ h.size) (a1 lv l0 l1 : Addr) (g0 g1 : Nat → Int64) (m0 G : Nat) (x1 : Int64) (hm8 : m0 ≤ 8 * G) (hG8 : G ≤ 8) (hm0 : ∀ j, j < 8 * G → (g0 j < (x1 ^^^ (-9223372036854775808 : Int64)) ↔ j < m0)) (hm1 : ∀ j, j < 8 → (g1 j < (x1 ^^^ (-9223372036854775808 : Int64)) ↔ 8 * j < m0)) (E_a1 : Exa Z h a1 "com/example/skiprail/skiprail/index/GroupedKeys") (F_a1_levels : Fld Z h a1 "com/example/skiprail/skiprail/index/GroupedKeys" "levels" "[[J" (.ref lv)) (A_lv : AF Z h lv (.array .long) 2 (upd (upd (fun _ => .null) 0 (.ref l0)) 1 (.ref l1))) (A_l0 : AF Z h l0 .long (8 * G) (fun j => .long (g0 j))) (A_l1 : AF Z h l1 .long 8 (fun j => .long (g1 j))) :
    Met1 l Z n0 [] (⟨"com/example/skiprail/skiprail/index/GroupedKeys", "below", "(J)I"⟩ : MethodName) prog_24_method_5_code 11 (some .int) ({ frames := 0, cells := 0, slots := 0, locals := 0 } : Room) #[(.ref a1), (.long x1)] h (fun v h' => ∃ r : Int32, v = some (.int r) ∧ h = h' ∧ r.toInt = (m0 : Int) - 1) := by
  refine met_of (plainFor_of_name pn_9) Z0 (fun m => ef_9 m a1 x1) ?_
  intro p e s m below meth c T hs0 X
  refine r_lloadN 1 X d9_0 rfl ?_
  refine r_ldc2Long 4 X (hw _ (List.mem_of_getElem? (i := 46) rfl)) d9_1 ?_
  refine r_lxor 5 X d9_4 ?_
  refine r_lstoreN 6 X #[.val (.ref a1), .val (.long x1), .second, .val (.long (x1 ^^^ (-9223372036854775808 : Int64))), .second, .unset, .unset, .unset, .unset, .unset, .unset] d9_5 rfl ?_
  refine r_iconst 7 X (0 : Int32) d9_6 rfl ?_
  refine r_istore 9 X #[.val (.ref a1), .val (.long x1), .second, .val (.long (x1 ^^^ (-9223372036854775808 : Int64))), .second, .val (.int (0 : Int32)), .unset, .unset, .unset, .unset, .unset] d9_7 rfl ?_
  refine r_aloadN 10 X d9_9 rfl rfl ?_
  refine r_getfield 13 X (host := "") (Or.inl (hw _ (List.mem_of_getElem? (i := 26) rfl))) Via.refl F_a1_levels d9_10 ?_
  intro T X
  refine r_arraylength 14 X A_lv (2 : Int32) (by decide) d9_13 ?_
  refine r_iconst 15 X (1 : Int32) d9_14 rfl ?_
  refine r_isub 16 X d9_15 ?_
  refine r_topI (x' := (1 : Int32)) (by decide) ?_
  refine r_istore 18 X #[.val (.ref a1), .val (.long x1), .second, .val (.long (x1 ^^^ (-9223372036854775808 : Int64))), .second, .val (.int (0 : Int32)), .val (.int (1 : Int32)), .unset, .unset, .unset, .unset] d9_16 rfl ?_
  refine r_iload 20 X d9_18 rfl ?_
  refine r_ifN 23 X d9_20 ((if0 _ _).trans (flt (by decide)).1) ?_
  refine r_aloadN 24 X d9_23 rfl rfl ?_
  refine r_getfield 27 X (host := "") (Or.inl (hw _ (List.mem_of_getElem? (i := 26) rfl))) Via.refl F_a1_levels d9_24 ?_
  intro T X
  refine r_iload 29 X d9_27 rfl ?_
  refine r_aaload 30 X A_lv rfl (i := 1) (v := (.ref l1)) (by decide) (by decide) rfl d9_29 ?_
  refine r_astore 32 X #[.val (.ref a1), .val (.long x1), .second, .val (.long (x1 ^^^ (-9223372036854775808 : Int64))), .second, .val (.int (0 : Int32)), .val (.int (1 : Int32)), .val (.ref l1), .unset, .unset, .unset] d9_30 rfl rfl ?_
  refine r_iload 34 X d9_32 rfl ?_
  refine r_bipush 36 X (8 : Int32) d9_34 rfl ?_
  refine r_imul 37 X d9_36 ?_
  refine r_topI (x' := (0 : Int32)) (by decide) ?_
  refine r_istore 39 X #[.val (.ref a1), .val (.long x1), .second, .val (.long (x1 ^^^ (-9223372036854775808 : Int64))), .second, .val (.int (0 : Int32)), .val (.int (1 : Int32)), .val (.ref l1), .val (.int (0 : Int32)), .unset, .unset] d9_37 rfl ?_
  refine r_iconst 40 X (0 : Int32) d9_39 rfl ?_
  refine r_istore 42 X #[.val (.ref a1), .val (.long x1), .second, .val (.long (x1 ^^^ (-9223372036854775808 : Int64))), .second, .val (.int (0 : Int32)), .val (.int (1 : Int32)), .val (.ref l1), .val (.int (0 : Int32)), .val (.int (0 : Int32)), .unset] d9_40 rfl ?_
  refine r_iload 44 X d9_42 rfl ?_
  refine r_istore 46 X #[.val (.ref a1), .val (.long x1), .second, .val (.long (x1 ^^^ (-9223372036854775808 : Int64))), .second, .val (.int (0 : Int32)), .val (.int (1 : Int32)), .val (.ref l1), .val (.int (0 : Int32)), .val (.int (0 : Int32)), .val (.int (0 : Int32))] d9_44 rfl ?_
  have hs1 : (0 : Int32).toInt = ((0 : Nat) : Int) := rfl
  have hsE1 : (8 : Int32).toInt = ((0 : Nat) : Int) + 8 := rfl
  have loop1 : ∀ (r : Nat) (T : State) (k1 : Nat) (ci1 pi1 : Int32), k1 + r = 8 → pi1.toInt = ((0 + k1 : Nat) : Int) → ci1.toInt = (cntL g1 (x1 ^^^ (-9223372036854775808 : Int64)) 0 k1 : Int) → Cx p l e ({ frames := 0, cells := 0, slots := 0, locals := 0 } : Room) s m #[(.ref a1), (.long x1)] below meth c Z prog_24_method_5_code 11 "com/example/skiprail/skiprail/index/GroupedKeys" (some .int) "below" n0 T h 0 0 → Run p e below m (Fin1 below s n0 (fun v h' => ∃ r : Int32, v = some (.int r) ∧ h = h' ∧ r.toInt = (m0 : Int) - 1) ({ frames := 0, cells := 0, slots := 0, locals := 0 } : Room).cells ({ frames := 0, cells := 0, slots := 0, locals := 0 } : Room).slots) T 46 #[.val (.ref a1), .val (.long x1), .second, .val (.long (x1 ^^^ (-9223372036854775808 : Int64))), .second, .val (.int (0 : Int32)), .val (.int (1 : Int32)), .val (.ref l1), .val (.int (0 : Int32)), .val (.int ci1), .val (.int pi1)] [] := by
    intro r
    induction r with
    | zero =>
      intro T k1 ci1 pi1 hk hp hc X
      obtain rfl : k1 = 8 := by omega
      have hc1 : ci1.toInt = ((min 8 ((m0 + 7) / 8) : Nat) : Int) := by rw [hc, own_cntL (m := (m0 + 7) / 8) (fun j hj => (hm1 j hj).trans (by omega)) 8 (by omega)]; omega
      refine r_iload 48 X d9_46 rfl ?_
      refine r_iload 50 X d9_48 rfl ?_
      refine r_bipush 52 X (8 : Int32) d9_50 rfl ?_
      refine r_iadd 53 X d9_52 ?_
      refine r_topI (x' := (8 : Int32)) (by decide) ?_
      refine r_icmpY 82 X d9_53 (flt (fun z => absurd ((ltI hp hsE1).mp z) (by omega))).2.1 ?_
      refine r_iload 84 X d9_82 rfl ?_
      by_cases h84_1 : ci1 = (0 : Int32)
      · refine r_ifN 87 X d9_84 ((if0 _ _).trans (teq h84_1).2) ?_
        refine r_iconst 88 X (-1 : Int32) d9_87 rfl ?_
        refine r_retI X d9_88 (by decide) (by decide) ?_
        exact ⟨_, rfl, rfl, by have e := (eqI hc1 (b := 0) rfl).mp h84_1; have e2 : (-1 : Int32).toInt = -1 := rfl; omega⟩
      · refine r_ifY 89 X d9_84 ((if0 _ _).trans (feq h84_1).2) ?_
        refine r_iload 91 X d9_89 rfl ?_
        refine r_iload 93 X d9_91 rfl ?_
        refine r_iadd 94 X d9_93 ?_
        refine r_iconst 95 X (1 : Int32) d9_94 rfl ?_
        refine r_isub 96 X d9_95 ?_
        have hci : ¬ ci1 = (0 : Int32) := h84_1
        rw [eqI hc1 (b := 0) rfl] at hci
        have hgr := subI (addI hs1 hc1 (by omega) (by omega)) (y := (1 : Int32)) (b := 1) rfl (by omega) (by omega)
        generalize (((0 : Int32) + ci1) - (1 : Int32)) = gr1 at hgr ⊢
        refine r_istore 98 X #[.val (.ref a1), .val (.long x1), .second, .val (.long (x1 ^^^ (-9223372036854775808 : Int64))), .second, .val (.int gr1), .val (.int (1 : Int32)), .val (.ref l1), .val (.int (0 : Int32)), .val (.int ci1), .val (.int pi1)] d9_96 rfl ?_
        refine r_iinc 101 X (-1 : Int32) #[.val (.ref a1), .val (.long x1), .second, .val (.long (x1 ^^^ (-9223372036854775808 : Int64))), .second, .val (.int gr1), .val (.int (0 : Int32)), .val (.ref l1), .val (.int (0 : Int32)), .val (.int ci1), .val (.int pi1)] d9_98 rfl rfl rfl ?_
        refine r_goto 18 X d9_101 ?_
        refine r_iload 20 X d9_18 rfl ?_
        refine r_ifN 23 X d9_20 ((if0 _ _).trans (flt (by decide)).1) ?_
        refine r_aloadN 24 X d9_23 rfl rfl ?_
        refine r_getfield 27 X (host := "") (Or.inl (hw _ (List.mem_of_getElem? (i := 26) rfl))) Via.refl F_a1_levels d9_24 ?_
        intro T X
        refine r_iload 29 X d9_27 rfl ?_
        refine r_aaload 30 X A_lv rfl (i := 0) (v := (.ref l0)) (by decide) (by decide) rfl d9_29 ?_
        refine r_astore 32 X #[.val (.ref a1), .val (.long x1), .second, .val (.long (x1 ^^^ (-9223372036854775808 : Int64))), .second, .val (.int gr1), .val (.int (0 : Int32)), .val (.ref l0), .val (.int (0 : Int32)), .val (.int ci1), .val (.int pi1)] d9_30 rfl rfl ?_
        refine r_iload 34 X d9_32 rfl ?_
        refine r_bipush 36 X (8 : Int32) d9_34 rfl ?_
        refine r_imul 37 X d9_36 ?_
        have hst := own_mul8 hgr (by omega) (by omega)
        replace hst : (gr1 * (8 : Int32)).toInt = ((8 * ((m0 + 7) / 8 - 1) : Nat) : Int) := hst.trans (by omega)
        generalize (gr1 * (8 : Int32)) = st2 at hst ⊢
        refine r_istore 39 X #[.val (.ref a1), .val (.long x1), .second, .val (.long (x1 ^^^ (-9223372036854775808 : Int64))), .second, .val (.int gr1), .val (.int (0 : Int32)), .val (.ref l0), .val (.int st2), .val (.int ci1), .val (.int pi1)] d9_37 rfl ?_
        refine r_iconst 40 X (0 : Int32) d9_39 rfl ?_
        refine r_istore 42 X #[.val (.ref a1), .val (.long x1), .second, .val (.long (x1 ^^^ (-9223372036854775808 : Int64))), .second, .val (.int gr1), .val (.int (0 : Int32)), .val (.ref l0), .val (.int st2), .val (.int (0 : Int32)), .val (.int pi1)] d9_40 rfl ?_
        refine r_iload 44 X d9_42 rfl ?_
        refine r_istore 46 X #[.val (.ref a1), .val (.long x1), .second, .val (.long (x1 ^^^ (-9223372036854775808 : Int64))), .second, .val (.int gr1), .val (.int (0 : Int32)), .val (.ref l0), .val (.int st2), .val (.int (0 : Int32)), .val (.int st2)] d9_44 rfl ?_
        have hs2 := hst
        have hsE2 := addI hst (y := (8 : Int32)) (b := 8) rfl (by omega) (by omega)
        have loop2 : ∀ (r : Nat) (T : State) (k2 : Nat) (ci2 pi2 : Int32), k2 + r = 8 → pi2.toInt = (((8 * ((m0 + 7) / 8 - 1)) + k2 : Nat) : Int) → ci2.toInt = (cntL g0 (x1 ^^^ (-9223372036854775808 : Int64)) (8 * ((m0 + 7) / 8 - 1)) k2 : Int) → Cx p l e ({ frames := 0, cells := 0, slots := 0, locals := 0 } : Room) s m #[(.ref a1), (.long x1)] below meth c Z prog_24_method_5_code 11 "com/example/skiprail/skiprail/index/GroupedKeys" (some .int) "below" n0 T h 0 0 → Run p e below m (Fin1 below s n0 (fun v h' => ∃ r : Int32, v = some (.int r) ∧ h = h' ∧ r.toInt = (m0 : Int) - 1) ({ frames := 0, cells := 0, slots := 0, locals := 0 } : Room).cells ({ frames := 0, cells := 0, slots := 0, locals := 0 } : Room).slots) T 46 #[.val (.ref a1), .val (.long x1), .second, .val (.long (x1 ^^^ (-9223372036854775808 : Int64))), .second, .val (.int gr1), .val (.int (0 : Int32)), .val (.ref l0), .val (.int st2), .val (.int ci2), .val (.int pi2)] [] := by
          intro r
          induction r with
          | zero =>
            intro T k2 ci2 pi2 hk hp hc X
            obtain rfl : k2 = 8 := by omega
            have hc2 : ci2.toInt = ((min 8 (m0 - (8 * ((m0 + 7) / 8 - 1))) : Nat) : Int) := by rw [hc, own_cntL (hm0) 8 (by omega)]
            refine r_iload 48 X d9_46 rfl ?_
            refine r_iload 50 X d9_48 rfl ?_
            refine r_bipush 52 X (8 : Int32) d9_50 rfl ?_
            refine r_iadd 53 X d9_52 ?_
            refine r_icmpY 82 X d9_53 (flt (fun z => absurd ((ltI hp hsE2).mp z) (by omega))).2.1 ?_
            refine r_iload 84 X d9_82 rfl ?_
            by_cases h84_2 : ci2 = (0 : Int32)
            · refine r_ifN 87 X d9_84 ((if0 _ _).trans (teq h84_2).2) ?_
              refine r_iconst 88 X (-1 : Int32) d9_87 rfl ?_
              refine r_retI X d9_88 (by decide) (by decide) ?_
              exact ⟨_, rfl, rfl, by have e := (eqI hc2 (b := 0) rfl).mp h84_2; have e2 : (-1 : Int32).toInt = -1 := rfl; omega⟩
            · refine r_ifY 89 X d9_84 ((if0 _ _).trans (feq h84_2).2) ?_
              refine r_iload 91 X d9_89 rfl ?_
              refine r_iload 93 X d9_91 rfl ?_
              refine r_iadd 94 X d9_93 ?_
              refine r_iconst 95 X (1 : Int32) d9_94 rfl ?_
              refine r_isub 96 X d9_95 ?_
              have hci : ¬ ci2 = (0 : Int32) := h84_2
              rw [eqI hc2 (b := 0) rfl] at hci
              have hgr := subI (addI hs2 hc2 (by omega) (by omega)) (y := (1 : Int32)) (b := 1) rfl (by omega) (by omega)
              generalize ((st2 + ci2) - (1 : Int32)) = gr2 at hgr ⊢
              refine r_istore 98 X #[.val (.ref a1), .val (.long x1), .second, .val (.long (x1 ^^^ (-9223372036854775808 : Int64))), .second, .val (.int gr2), .val (.int (0 : Int32)), .val (.ref l0), .val (.int st2), .val (.int ci2), .val (.int pi2)] d9_96 rfl ?_
              refine r_iinc 101 X (-1 : Int32) #[.val (.ref a1), .val (.long x1), .second, .val (.long (x1 ^^^ (-9223372036854775808 : Int64))), .second, .val (.int gr2), .val (.int (-1 : Int32)), .val (.ref l0), .val (.int st2), .val (.int ci2), .val (.int pi2)] d9_98 rfl rfl rfl ?_
              refine r_goto 18 X d9_101 ?_
              refine r_iload 20 X d9_18 rfl ?_
              refine r_ifY 104 X d9_20 ((if0 _ _).trans (tlt (by decide)).1) ?_
              refine r_iload 106 X d9_104 rfl ?_
              refine r_retI X d9_106 (by decide) (by decide) ?_
              exact ⟨_, rfl, rfl, by omega⟩
          | succ r ih =>
            intro T k2 ci2 pi2 hk hp hc X
            refine r_iload 48 X d9_46 rfl ?_
            refine r_iload 50 X d9_48 rfl ?_
            refine r_bipush 52 X (8 : Int32) d9_50 rfl ?_
            refine r_iadd 53 X d9_52 ?_
            refine r_icmpN 56 X d9_53 (tlt ((ltI hp hsE2).mpr (by omega))).2.1 ?_
            refine r_iload 58 X d9_56 rfl ?_
            refine r_aload 60 X d9_58 rfl rfl ?_
            refine r_iload 62 X d9_60 rfl ?_
            refine r_laload 63 X A_l0 (i := ((8 * ((m0 + 7) / 8 - 1)) + k2)) (v := (.long (g0 ((8 * ((m0 + 7) / 8 - 1)) + k2)))) hp (by omega) rfl d9_62 ?_
            refine r_lloadN 64 X d9_63 rfl ?_
            refine r_lcmp 65 X d9_64 ?_
            have J73_3 : ∀ (T : State), Cx p l e ({ frames := 0, cells := 0, slots := 0, locals := 0 } : Room) s m #[(.ref a1), (.long x1)] below meth c Z prog_24_method_5_code 11 "com/example/skiprail/skiprail/index/GroupedKeys" (some .int) "below" n0 T h 0 0 → Run p e below m (Fin1 below s n0 (fun v h' => ∃ r : Int32, v = some (.int r) ∧ h = h' ∧ r.toInt = (m0 : Int) - 1) ({ frames := 0, cells := 0, slots := 0, locals := 0 } : Room).cells ({ frames := 0, cells := 0, slots := 0, locals := 0 } : Room).slots) T 73 #[.val (.ref a1), .val (.long x1), .second, .val (.long (x1 ^^^ (-9223372036854775808 : Int64))), .second, .val (.int gr1), .val (.int (0 : Int32)), .val (.ref l0), .val (.int st2), .val (.int ci2), .val (.int pi2)] [(.int (b2i ((g0 ((8 * ((m0 + 7) / 8 - 1)) + k2)) < (x1 ^^^ (-9223372036854775808 : Int64))))), (.int ci2)] := by
              intro T X
              refine r_iadd 74 X d9_73 ?_
              refine r_istore 76 X #[.val (.ref a1), .val (.long x1), .second, .val (.long (x1 ^^^ (-9223372036854775808 : Int64))), .second, .val (.int gr1), .val (.int (0 : Int32)), .val (.ref l0), .val (.int st2), .val (.int (ci2 + (b2i ((g0 ((8 * ((m0 + 7) / 8 - 1)) + k2)) < (x1 ^^^ (-9223372036854775808 : Int64)))))), .val (.int pi2)] d9_74 rfl ?_
              refine r_iinc 79 X (1 : Int32) #[.val (.ref a1), .val (.long x1), .second, .val (.long (x1 ^^^ (-9223372036854775808 : Int64))), .second, .val (.int gr1), .val (.int (0 : Int32)), .val (.ref l0), .val (.int st2), .val (.int (ci2 + (b2i ((g0 ((8 * ((m0 + 7) / 8 - 1)) + k2)) < (x1 ^^^ (-9223372036854775808 : Int64)))))), .val (.int (pi2 + (1 : Int32)))] d9_76 rfl rfl rfl ?_
              refine r_goto 46 X d9_79 ?_
              exact ih _ (k2 + 1) _ _ (by omega) ((addI hp (y := (1 : Int32)) (b := 1) rfl (by omega) (by omega)).trans (by omega)) (own_cntS hc (by omega)) X
            by_cases h65_4 : (g0 ((8 * ((m0 + 7) / 8 - 1)) + k2)) < (x1 ^^^ (-9223372036854775808 : Int64))
            · refine r_ifN 68 X d9_65 ((if0 _ _).trans (tlt ((lw_lt _ _).mpr h65_4)).2.1) ?_
              refine r_iconst 69 X (1 : Int32) d9_68 rfl ?_
              refine r_goto 73 X d9_69 ?_
              refine r_topI (x' := (b2i ((g0 ((8 * ((m0 + 7) / 8 - 1)) + k2)) < (x1 ^^^ (-9223372036854775808 : Int64))))) (b2i_t h65_4).symm ?_
              exact J73_3 _ X
            · refine r_ifY 72 X d9_65 ((if0 _ _).trans (flt (fun q => h65_4 ((lw_lt _ _).mp q))).2.1) ?_
              refine r_iconst 73 X (0 : Int32) d9_72 rfl ?_
              refine r_topI (x' := (b2i ((g0 ((8 * ((m0 + 7) / 8 - 1)) + k2)) < (x1 ^^^ (-9223372036854775808 : Int64))))) (b2i_f h65_4).symm ?_
              exact J73_3 _ X
        exact loop2 8 _ 0 _ _ rfl (hs2.trans (by omega)) rfl X
    | succ r ih =>
      intro T k1 ci1 pi1 hk hp hc X
      refine r_iload 48 X d9_46 rfl ?_
      refine r_iload 50 X d9_48 rfl ?_
      refine r_bipush 52 X (8 : Int32) d9_50 rfl ?_
      refine r_iadd 53 X d9_52 ?_
      refine r_topI (x' := (8 : Int32)) (by decide) ?_
      refine r_icmpN 56 X d9_53 (tlt ((ltI hp hsE1).mpr (by omega))).2.1 ?_
      refine r_iload 58 X d9_56 rfl ?_
      refine r_aload 60 X d9_58 rfl rfl ?_
      refine r_iload 62 X d9_60 rfl ?_
      refine r_laload 63 X A_l1 (i := (0 + k1)) (v := (.long (g1 (0 + k1)))) hp (by omega) rfl d9_62 ?_
      refine r_lloadN 64 X d9_63 rfl ?_
      refine r_lcmp 65 X d9_64 ?_
      have J73_5 : ∀ (T : State), Cx p l e ({ frames := 0, cells := 0, slots := 0, locals := 0 } : Room) s m #[(.ref a1), (.long x1)] below meth c Z prog_24_method_5_code 11 "com/example/skiprail/skiprail/index/GroupedKeys" (some .int) "below" n0 T h 0 0 → Run p e below m (Fin1 below s n0 (fun v h' => ∃ r : Int32, v = some (.int r) ∧ h = h' ∧ r.toInt = (m0 : Int) - 1) ({ frames := 0, cells := 0, slots := 0, locals := 0 } : Room).cells ({ frames := 0, cells := 0, slots := 0, locals := 0 } : Room).slots) T 73 #[.val (.ref a1), .val (.long x1), .second, .val (.long (x1 ^^^ (-9223372036854775808 : Int64))), .second, .val (.int (0 : Int32)), .val (.int (1 : Int32)), .val (.ref l1), .val (.int (0 : Int32)), .val (.int ci1), .val (.int pi1)] [(.int (b2i ((g1 (0 + k1)) < (x1 ^^^ (-9223372036854775808 : Int64))))), (.int ci1)] := by
        intro T X
        refine r_iadd 74 X d9_73 ?_
        refine r_istore 76 X #[.val (.ref a1), .val (.long x1), .second, .val (.long (x1 ^^^ (-9223372036854775808 : Int64))), .second, .val (.int (0 : Int32)), .val (.int (1 : Int32)), .val (.ref l1), .val (.int (0 : Int32)), .val (.int (ci1 + (b2i ((g1 (0 + k1)) < (x1 ^^^ (-9223372036854775808 : Int64)))))), .val (.int pi1)] d9_74 rfl ?_
        refine r_iinc 79 X (1 : Int32) #[.val (.ref a1), .val (.long x1), .second, .val (.long (x1 ^^^ (-9223372036854775808 : Int64))), .second, .val (.int (0 : Int32)), .val (.int (1 : Int32)), .val (.ref l1), .val (.int (0 : Int32)), .val (.int (ci1 + (b2i ((g1 (0 + k1)) < (x1 ^^^ (-9223372036854775808 : Int64)))))), .val (.int (pi1 + (1 : Int32)))] d9_76 rfl rfl rfl ?_
        refine r_goto 46 X d9_79 ?_
        exact ih _ (k1 + 1) _ _ (by omega) ((addI hp (y := (1 : Int32)) (b := 1) rfl (by omega) (by omega)).trans (by omega)) (own_cntS hc (by omega)) X
      by_cases h65_6 : (g1 (0 + k1)) < (x1 ^^^ (-9223372036854775808 : Int64))
      · refine r_ifN 68 X d9_65 ((if0 _ _).trans (tlt ((lw_lt _ _).mpr h65_6)).2.1) ?_
        refine r_iconst 69 X (1 : Int32) d9_68 rfl ?_
        refine r_goto 73 X d9_69 ?_
        refine r_topI (x' := (b2i ((g1 (0 + k1)) < (x1 ^^^ (-9223372036854775808 : Int64))))) (b2i_t h65_6).symm ?_
        exact J73_5 _ X
      · refine r_ifY 72 X d9_65 ((if0 _ _).trans (flt (fun q => h65_6 ((lw_lt _ _).mp q))).2.1) ?_
        refine r_iconst 73 X (0 : Int32) d9_72 rfl ?_
        refine r_topI (x' := (b2i ((g1 (0 + k1)) < (x1 ^^^ (-9223372036854775808 : Int64))))) (b2i_f h65_6).symm ?_
        exact J73_5 _ X
  exact loop1 8 _ 0 _ _ rfl (hs1.trans (by omega)) rfl X
theorem rmB (l : Launch) (Z : State) (a0 : Array Value) (hw : ∀ d ∈ tables_1, d.before a0 Z = true) (n0 : Nat) (h : Heap) (Z0 : n0 ≤ h.size) (a1 : Addr) (n m0 : Nat) (f : Nat → Int64) (x1 : Int64) (hmn : m0 ≤ n) (hm : ∀ j, pad0 f n j < (x1 ^^^ (-9223372036854775808 : Int64)) ↔ j < m0) (E : Exa Z h a1 "com/example/skiprail/skiprail/index/GroupedKeys") (D : GKs Z h a1 n f) :
    Met1 l Z n0 [] (⟨"com/example/skiprail/skiprail/index/GroupedKeys", "below", "(J)I"⟩ : MethodName) prog_24_method_5_code 11 (some .int) ({ frames := 0, cells := 0, slots := 0, locals := 0 } : Room) #[(.ref a1), (.long x1)] h (fun v h' => ∃ r : Int32, v = some (.int r) ∧ h = h' ∧ r.toInt = (m0 : Int) - 1) := by
  obtain ⟨lv, l0, F, ⟨hn8, A, B⟩ | ⟨l1, G, hnG, hG8, A, B, B1⟩⟩ := D
  · exact rmB1 l Z a0 hw n0 h Z0 a1 lv l0 _ m0 x1 (by omega) (fun j _ => hm j) E F A B
  · exact rmB2 l Z a0 hw n0 h Z0 a1 lv l0 l1 _ _ m0 G x1 (by omega) hG8 (fun j _ => hm j) (fun j _ => own_m1 (by omega) hm j) E F A B B1
theorem own_rem {x y : Int32} {a b : Nat} (hx : x.toInt = (a : Int)) (hy : y.toInt = (b : Int)) (hb : 0 < b) : ∃ k : Nat, (x % y).toInt = (k : Int) ∧ k < b := by
  refine ⟨a % b, ?_, Nat.mod_lt _ hb⟩
  rw [Int32.toInt_mod, hx, hy]
  rw [Int.tmod_eq_emod_of_nonneg (by omega)]
  omega
theorem own_and255 (x : Int32) : ∃ k : Nat, (x &&& (255 : Int32)).toInt = (k : Int) ∧ k < 256 := by
  have e : (x &&& (255 : Int32)).toInt = (x.toBitVec &&& 255#32).toInt := rfl
  have e2 : (x.toBitVec &&& 255#32).toNat = x.toBitVec.toNat &&& 255 := by rw [BitVec.toNat_and]; rfl
  have e3 : x.toBitVec.toNat &&& 255 = x.toBitVec.toNat % 256 := Nat.and_two_pow_sub_one_eq_mod x.toBitVec.toNat 8
  refine ⟨x.toBitVec.toNat % 256, ?_, Nat.mod_lt _ (by decide)⟩
  rw [e, BitVec.toInt_eq_toNat_cond, e2, e3]
  split <;> omega
theorem own_c0 (x ni : Int32) {n : Nat} (hni : ni.toInt = (n : Int)) (hn : n ≤ 17) : ni + 1 ≠ 0 ∧ ∃ k : Nat, ((x &&& (255 : Int32)) % (ni + (1 : Int32))).toInt = (k : Int) ∧ k ≤ n := by
  have h1 := addI hni (y := (1 : Int32)) (b := 1) rfl (by omega) (by omega)
  obtain ⟨a, ha, -⟩ := own_and255 x
  obtain ⟨k, hk, hk2⟩ := own_rem ha (h1.trans (show (n : Int) + 1 = ((n + 1 : Nat) : Int) by omega)) (by omega)
  exact ⟨fun z => by have := (eqI h1 (b := 0) rfl).mp z; omega, k, hk, by omega⟩
theorem own_c1 (x ni ca : Int32) {n ka : Nat} (hni : ni.toInt = (n : Int)) (hn : n ≤ 17) (hc : ca.toInt = (ka : Int)) (hk : ka ≤ n) : ni + 1 - ca ≠ 0 ∧ ∃ k : Nat, (ca + ((x &&& (255 : Int32)) % (ni + (1 : Int32) - ca))).toInt = (k : Int) ∧ ka ≤ k ∧ k ≤ n := by
  have h1 := subI (addI hni (y := (1 : Int32)) (b := 1) rfl (by omega) (by omega)) hc (by omega) (by omega)
  obtain ⟨a, ha, -⟩ := own_and255 x
  obtain ⟨k, hk, hk2⟩ := own_rem ha (h1.trans (show (n : Int) + 1 - (ka : Int) = ((n + 1 - ka : Nat) : Int) by omega)) (by omega)
  refine ⟨fun z => by have := (eqI h1 (b := 0) rfl).mp z; omega, ka + k, (addI hc hk (by omega) (by omega)).trans (by omega), by omega, by omega⟩
theorem own_exp {n ka kb : Nat} {u0 u1 u2 q : Int64} (h1 : ka ≤ kb) (h2 : kb ≤ n) (k1 : (u0 ^^^ (-9223372036854775808 : Int64)).toInt ≤ (u1 ^^^ (-9223372036854775808 : Int64)).toInt) (k2 : (u1 ^^^ (-9223372036854775808 : Int64)).toInt ≤ (u2 ^^^ (-9223372036854775808 : Int64)).toInt) :
    (mcnt n ka kb u0 u1 u2 q : Int) = (if ulP u0 q then (ka : Int) else 0) + (if ulP u1 q then (kb : Int) - ka else 0) + (if ulP u2 q then (n : Int) - kb else 0) := by
  have U0 : ulP u0 q ↔ (u0 ^^^ (-9223372036854775808 : Int64)).toInt < (q ^^^ (-9223372036854775808 : Int64)).toInt := by unfold ulP; rw [Int64.lt_iff_toInt_lt]
  have U1 : ulP u1 q ↔ (u1 ^^^ (-9223372036854775808 : Int64)).toInt < (q ^^^ (-9223372036854775808 : Int64)).toInt := by unfold ulP; rw [Int64.lt_iff_toInt_lt]
  have U2 : ulP u2 q ↔ (u2 ^^^ (-9223372036854775808 : Int64)).toInt < (q ^^^ (-9223372036854775808 : Int64)).toInt := by unfold ulP; rw [Int64.lt_iff_toInt_lt]
  unfold mcnt
  simp only [U0, U1, U2]
  (repeat' split) <;> omega
set_option maxRecDepth 65536 in
set_option maxHeartbeats 40000000 in
theorem rmTail (l : Launch) (Z : State) (a0 : Array Value) (hw : ∀ d ∈ tables_1, d.before a0 Z = true) (n0 : Nat) (p : Program) (e : Env) (s : State) (m : MethodId) (below : List Frame) (meth : Method) (c : Code) (q1 p2 q2 p3 u1 u2 : Int64) (p5 p6 ni ca cb : Int32) (b4 : Addr) (ka kb : Nat) (k1 : (q1 ^^^ (-9223372036854775808 : Int64)).toInt ≤ (u1 ^^^ (-9223372036854775808 : Int64)).toInt) (k2 : (u1 ^^^ (-9223372036854775808 : Int64)).toInt ≤ (u2 ^^^ (-9223372036854775808 : Int64)).toInt) (hca : ca.toInt = (ka : Int)) (hcb : cb.toInt = (kb : Int)) (hkab : ka ≤ kb) : ∀ (T : State) (h1 : Heap) (kb_ : Addr) (n : Nat), ni.toInt = (n : Int) → (n = 0 ∨ n = 3 ∨ n = 8 ∨ n = 9 ∨ n = 17) → kb_ < h1.size → AF Z h1 kb_ .long n (fun j => .long ((KF ca cb q1 u1 u2) j)) → n ≤ 17 → kb ≤ n → Cx p l e room_1 s m #[(.long q1), (.long p2), (.long q2), (.long p3), (.int p5), (.int p6)] below meth c Z code maxLocals x.cls ret x.name n0 T h1 2 26 → Run p e below m (Fin1 below s n0 (fun v h' => v = some (.int 1)) room_1.cells room_1.slots) T 656 #[.val (.long q1), .second, .val (.long p2), .second, .val (.long q2), .second, .val (.long p3), .second, .val (.int p5), .val (.int p6), .val (.int ((p6 &&& (2147483647 : Int32)) % (5 : Int32))), .val (.int ni), .val (.long q1), .second, .val (.long u1), .second, .val (.long u2), .second, .val (.int ca), .val (.int cb), .val (.ref b4), .val (.ref kb_), .unset, .unset] [] := by
  intro T h1 kb_ n hni hn hlt A_kb_ hn17 hkb X
  have hmM := own_m (n := n) (q := p3) hca hcb hkab hkb hn17 k1 k2
  refine r_new 659 X (hw _ (List.mem_of_getElem? (i := 12) rfl)) (hw _ (List.mem_of_getElem? (i := 13) rfl)) (hw _ (List.mem_of_getElem? (i := 14) rfl)) at_656 (by decide) (by decide) ?_
  intro T h39 b39 g39 gn_b39 E39 A39 D39 X
  have ne_kb__b39 : kb_ ≠ b39 := Nat.ne_of_lt (Nat.lt_of_lt_of_eq A_kb_.lt g39.symm)
  have A_kb_ := A_kb_.ext E39
  have E_b39 := A39
  have F_b39_size : Fld Z h39 b39 "com/example/skiprail/skiprail/index/GroupedKeys" "size" "I" (.int (0 : Int32)) := D39 (Or.inr (hw _ (List.mem_of_getElem? (i := 22) rfl))) (ty := .int) (by decide)
  have F_b39_levels : Fld Z h39 b39 "com/example/skiprail/skiprail/index/GroupedKeys" "levels" "[[J" .null := D39 (Or.inr (hw _ (List.mem_of_getElem? (i := 27) rfl))) (ty := (.array (.array .long))) (by decide)
  refine r_dup 660 X at_659 rfl ?_
  refine r_aload 662 X at_660 rfl rfl ?_
  refine r_special 665 X (st := [(.ref b39)]) (a := b39) (rmIn l Z a0 hw n0 _ X.sz b39 kb_ n (KF ca cb q1 u1 u2) hn gn_b39 (Ne.symm ne_kb__b39) E_b39 F_b39_size F_b39_levels A_kb_) rfl rfl (hw _ (List.mem_of_getElem? (i := 15) rfl)) (hw _ (List.mem_of_getElem? (i := 16) rfl)) (hw _ (List.mem_of_getElem? (i := 17) rfl)) (hw _ (List.mem_of_getElem? (i := 14) rfl)) (by decide) pd_6 [(.ref kb_)] rfl rfl 1 (Nat.le_of_eq rfl) rfl (by decide) (by decide) (by decide) (by decide) at_662 ?_
  rintro T h40 v40 ⟨rfl, K40, GKb⟩ X
  have A_kb_ := A_kb_.keep K40 (ninS ne_kb__b39 nin0)
  have E_b39 := E_b39.keep K40
  change Run _ _ _ _ _ _ _ _ [(.ref b39)]
  refine r_astore 667 X #[.val (.long q1), .second, .val (.long p2), .second, .val (.long q2), .second, .val (.long p3), .second, .val (.int p5), .val (.int p6), .val (.int ((p6 &&& (2147483647 : Int32)) % (5 : Int32))), .val (.int ni), .val (.long q1), .second, .val (.long u1), .second, .val (.long u2), .second, .val (.int ca), .val (.int cb), .val (.ref b4), .val (.ref kb_), .val (.ref b39), .unset] at_665 rfl rfl ?_
  refine r_lload 669 X at_667 rfl ?_
  refine r_lload 671 X at_669 rfl ?_
  refine r_callS 674 X (st := []) (rmU l Z a0 hw n0 _ X.sz q1 p3) (hw _ (List.mem_of_getElem? (i := 5) rfl)) (hw _ (List.mem_of_getElem? (i := 6) rfl)) (hw _ (List.mem_of_getElem? (i := 7) rfl)) (hw _ (List.mem_of_getElem? (i := 3) rfl)) (by decide) pd_0 [(.long q1), (.long p3)] rfl rfl 0 (Nat.le_of_eq rfl) rfl (by decide) (by decide) (by decide) (by decide) at_671 ?_
  rintro T h41 v41 ⟨rfl, rfl⟩ X
  change Run _ _ _ _ _ _ _ _ [(.int (b2i (ulP q1 p3)))]
  have J683_42 : ∀ (T : State) (s1 : Int32), s1.toInt = (if ulP q1 p3 then (ka : Int) else 0) → Cx p l e room_1 s m #[(.long q1), (.long p2), (.long q2), (.long p3), (.int p5), (.int p6)] below meth c Z code maxLocals x.cls ret x.name n0 T h40 6 62 → Run p e below m (Fin1 below s n0 (fun v h' => v = some (.int 1)) room_1.cells room_1.slots) T 683 #[.val (.long q1), .second, .val (.long p2), .second, .val (.long q2), .second, .val (.long p3), .second, .val (.int p5), .val (.int p6), .val (.int ((p6 &&& (2147483647 : Int32)) % (5 : Int32))), .val (.int ni), .val (.long q1), .second, .val (.long u1), .second, .val (.long u2), .second, .val (.int ca), .val (.int cb), .val (.ref b4), .val (.ref kb_), .val (.ref b39), .unset] [(.int s1)] := by
    intro T s1 hs1 X
    refine r_lload 685 X at_683 rfl ?_
    refine r_lload 687 X at_685 rfl ?_
    refine r_callS 690 X (st := [(.int s1)]) (rmU l Z a0 hw n0 _ X.sz u1 p3) (hw _ (List.mem_of_getElem? (i := 5) rfl)) (hw _ (List.mem_of_getElem? (i := 6) rfl)) (hw _ (List.mem_of_getElem? (i := 7) rfl)) (hw _ (List.mem_of_getElem? (i := 3) rfl)) (by decide) pd_0 [(.long u1), (.long p3)] rfl rfl 1 (Nat.le_of_eq rfl) rfl (by decide) (by decide) (by decide) (by decide) at_687 ?_
    rintro T h43 v43 ⟨rfl, rfl⟩ X
    change Run _ _ _ _ _ _ _ _ [(.int (b2i (ulP u1 p3))), (.int s1)]
    have J702_44 : ∀ (T : State) (s2 : Int32), s2.toInt = (if ulP u1 p3 then (kb : Int) - ka else 0) → Cx p l e room_1 s m #[(.long q1), (.long p2), (.long q2), (.long p3), (.int p5), (.int p6)] below meth c Z code maxLocals x.cls ret x.name n0 T h40 6 62 → Run p e below m (Fin1 below s n0 (fun v h' => v = some (.int 1)) room_1.cells room_1.slots) T 702 #[.val (.long q1), .second, .val (.long p2), .second, .val (.long q2), .second, .val (.long p3), .second, .val (.int p5), .val (.int p6), .val (.int ((p6 &&& (2147483647 : Int32)) % (5 : Int32))), .val (.int ni), .val (.long q1), .second, .val (.long u1), .second, .val (.long u2), .second, .val (.int ca), .val (.int cb), .val (.ref b4), .val (.ref kb_), .val (.ref b39), .unset] [(.int s2), (.int s1)] := by
      intro T s2 hs2 X
      refine r_iadd 703 X at_702 ?_
      refine r_lload 705 X at_703 rfl ?_
      refine r_lload 707 X at_705 rfl ?_
      refine r_callS 710 X (st := [(.int (s1 + s2))]) (rmU l Z a0 hw n0 _ X.sz u2 p3) (hw _ (List.mem_of_getElem? (i := 5) rfl)) (hw _ (List.mem_of_getElem? (i := 6) rfl)) (hw _ (List.mem_of_getElem? (i := 7) rfl)) (hw _ (List.mem_of_getElem? (i := 3) rfl)) (by decide) pd_0 [(.long u2), (.long p3)] rfl rfl 1 (Nat.le_of_eq rfl) rfl (by decide) (by decide) (by decide) (by decide) at_707 ?_
      rintro T h45 v45 ⟨rfl, rfl⟩ X
      change Run _ _ _ _ _ _ _ _ [(.int (b2i (ulP u2 p3))), (.int (s1 + s2))]
      have J722_46 : ∀ (T : State) (s3 : Int32), s3.toInt = (if ulP u2 p3 then (n : Int) - kb else 0) → Cx p l e room_1 s m #[(.long q1), (.long p2), (.long q2), (.long p3), (.int p5), (.int p6)] below meth c Z code maxLocals x.cls ret x.name n0 T h40 6 62 → Run p e below m (Fin1 below s n0 (fun v h' => v = some (.int 1)) room_1.cells room_1.slots) T 722 #[.val (.long q1), .second, .val (.long p2), .second, .val (.long q2), .second, .val (.long p3), .second, .val (.int p5), .val (.int p6), .val (.int ((p6 &&& (2147483647 : Int32)) % (5 : Int32))), .val (.int ni), .val (.long q1), .second, .val (.long u1), .second, .val (.long u2), .second, .val (.int ca), .val (.int cb), .val (.ref b4), .val (.ref kb_), .val (.ref b39), .unset] [(.int s3), (.int (s1 + s2))] := by
        intro T s3 hs3 X
        refine r_iadd 723 X at_722 ?_
        refine r_iconst 724 X (1 : Int32) at_723 rfl ?_
        refine r_isub 725 X at_724 ?_
        refine r_istore 727 X #[.val (.long q1), .second, .val (.long p2), .second, .val (.long q2), .second, .val (.long p3), .second, .val (.int p5), .val (.int p6), .val (.int ((p6 &&& (2147483647 : Int32)) % (5 : Int32))), .val (.int ni), .val (.long q1), .second, .val (.long u1), .second, .val (.long u2), .second, .val (.int ca), .val (.int cb), .val (.ref b4), .val (.ref kb_), .val (.ref b39), .val (.int (((s1 + s2) + s3) - (1 : Int32)))] at_725 rfl ?_
        refine r_aload 729 X at_727 rfl rfl ?_
        refine r_lload 731 X at_729 rfl ?_
        refine r_virtual 734 X (st := []) (a := b39) (rmB l Z a0 hw n0 _ X.sz b39 n (mcnt n ka kb q1 u1 u2 p3) (KF ca cb q1 u1 u2) p3 hmM.1 hmM.2 E_b39 GKb) E_b39 (hw _ (List.mem_of_getElem? (i := 41) rfl)) (hw _ (List.mem_of_getElem? (i := 42) rfl)) (hw _ (List.mem_of_getElem? (i := 44) rfl)) (hw _ (List.mem_of_getElem? (i := 44) rfl)) (hw _ (List.mem_of_getElem? (i := 43) rfl)) (hw _ (List.mem_of_getElem? (i := 45) rfl)) (hw _ (List.mem_of_getElem? (i := 14) rfl)) (by decide) pd_7 [(.long p3)] rfl rfl 0 (Nat.le_of_eq rfl) rfl (by decide) (by decide) (by decide) (by decide) at_731 ?_
        rintro T h47 v47 ⟨rr, rfl, rfl, hrr⟩ X
        change Run _ _ _ _ _ _ _ _ [(.int rr)]
        refine r_iload 736 X at_734 rfl ?_
        have hex := own_exp (q := p3) hkab hkb k1 k2
        rw [← hs1, ← hs2, ← hs3] at hex
        have b1 := hmM.1
        have r1 : s1.toInt ≤ 17 ∧ 0 ≤ s1.toInt := by rw [hs1]; split <;> omega
        have r2 : s2.toInt ≤ 17 ∧ 0 ≤ s2.toInt := by rw [hs2]; split <;> omega
        have r3 : s3.toInt ≤ 17 ∧ 0 ≤ s3.toInt := by rw [hs3]; split <;> omega
        have hee := subI (addI (addI (x := s1) rfl (y := s2) rfl (by omega) (by omega)) (y := s3) rfl (by omega) (by omega)) (y := (1 : Int32)) (b := 1) rfl (by omega) (by omega)
        refine r_icmpN 739 X at_736 (teq ((eqI hrr hee).mpr (by omega))).2 ?_
        refine r_iconst 740 X (1 : Int32) at_739 rfl ?_
        refine r_goto 744 X at_740 ?_
        refine r_retZ (z := (1 : Int32)) X at_744 rfl (by decide) (by decide) ?_
        exact rfl
      by_cases h710_48 : ulP u2 p3
      · refine r_ifN 713 X at_710 ((if0 _ _).trans (feq (b2i_ne0 h710_48)).1) ?_
        refine r_iload 715 X at_713 rfl ?_
        refine r_iload 717 X at_715 rfl ?_
        refine r_isub 718 X at_717 ?_
        refine r_goto 722 X at_718 ?_
        exact J722_46 _ _ (by rw [if_pos h710_48]; exact subI hni hcb (by omega) (by omega)) X
      · refine r_ifY 721 X at_710 ((if0 _ _).trans (teq (b2i_eq0 h710_48)).1) ?_
        refine r_iconst 722 X (0 : Int32) at_721 rfl ?_
        exact J722_46 _ _ (by rw [if_neg h710_48]; rfl) X
    by_cases h690_49 : ulP u1 p3
    · refine r_ifN 693 X at_690 ((if0 _ _).trans (feq (b2i_ne0 h690_49)).1) ?_
      refine r_iload 695 X at_693 rfl ?_
      refine r_iload 697 X at_695 rfl ?_
      refine r_isub 698 X at_697 ?_
      refine r_goto 702 X at_698 ?_
      exact J702_44 _ _ (by rw [if_pos h690_49]; exact subI hcb hca (by omega) (by omega)) X
    · refine r_ifY 701 X at_690 ((if0 _ _).trans (teq (b2i_eq0 h690_49)).1) ?_
      refine r_iconst 702 X (0 : Int32) at_701 rfl ?_
      exact J702_44 _ _ (by rw [if_neg h690_49]; rfl) X
  by_cases h674_50 : ulP q1 p3
  · refine r_ifN 677 X at_674 ((if0 _ _).trans (feq (b2i_ne0 h674_50)).1) ?_
    refine r_iload 679 X at_677 rfl ?_
    refine r_goto 683 X at_679 ?_
    exact J683_42 _ _ (by rw [if_pos h674_50]; exact hca) X
  · refine r_ifY 682 X at_674 ((if0 _ _).trans (teq (b2i_eq0 h674_50)).1) ?_
    refine r_iconst 683 X (0 : Int32) at_682 rfl ?_
    exact J683_42 _ _ (by rw [if_neg h674_50]; rfl) X
set_option maxRecDepth 65536 in
set_option maxHeartbeats 40000000 in
theorem rmMid (l : Launch) (Z : State) (a0 : Array Value) (hw : ∀ d ∈ tables_1, d.before a0 Z = true) (n0 : Nat) (p : Program) (e : Env) (s : State) (m : MethodId) (below : List Frame) (meth : Method) (c : Code) (q1 p2 q2 p3 u1 u2 : Int64) (p5 p6 ni ca cb : Int32) (b4 : Addr) (ka kb n : Nat) (k1 : (q1 ^^^ (-9223372036854775808 : Int64)).toInt ≤ (u1 ^^^ (-9223372036854775808 : Int64)).toInt) (k2 : (u1 ^^^ (-9223372036854775808 : Int64)).toInt ≤ (u2 ^^^ (-9223372036854775808 : Int64)).toInt) (hca : ca.toInt = (ka : Int)) (hcb : cb.toInt = (kb : Int)) (hkab : ka ≤ kb) (hkb : kb ≤ n) (hni : ni.toInt = (n : Int)) (hn : n = 0 ∨ n = 3 ∨ n = 8 ∨ n = 9 ∨ n = 17) (kf : Nat → Int64) (hkf : kf = KF ca cb q1 u1 u2) : ∀ (T : State) (h1 : Heap), AF Z h1 b4 .long 17 (fun j => .long (kf j)) → Cx p l e room_1 s m #[(.long q1), (.long p2), (.long q2), (.long p3), (.int p5), (.int p6)] below meth c Z code maxLocals x.cls ret x.name n0 T h1 1 17 → Run p e below m (Fin1 below s n0 (fun v h' => v = some (.int 1)) room_1.cells room_1.slots) T 443 #[.val (.long q1), .second, .val (.long p2), .second, .val (.long q2), .second, .val (.long p3), .second, .val (.int p5), .val (.int p6), .val (.int ((p6 &&& (2147483647 : Int32)) % (5 : Int32))), .val (.int ni), .val (.long q1), .second, .val (.long u1), .second, .val (.long u2), .second, .val (.int ca), .val (.int cb), .val (.ref b4), .unset, .unset, .unset] [] := by
  intro T h1 A_b4 X
  have J656 := rmTail l Z a0 hw n0 p e s m below meth c q1 p2 q2 p3 u1 u2 p5 p6 ni ca cb b4 ka kb k1 k2 hca hcb hkab
  refine r_iload 445 X at_443 rfl ?_
  by_cases h445_51 : ni = (0 : Int32)
  · refine r_ifN 448 X at_445 ((if0 _ _).trans (teq h445_51).2) ?_
    refine r_iconst 449 X (0 : Int32) at_448 rfl ?_
    refine r_newarray 451 X 0 0 (hw _ (List.mem_of_getElem? (i := 8) rfl)) at_449 (by decide) (by decide) (by decide) (by decide) (by decide) ?_
    intro T h52 b52 g52 gn_b52 E52 A_b52 X
    have ne_b4_b52 : b4 ≠ b52 := Nat.ne_of_lt (Nat.lt_of_lt_of_eq A_b4.lt g52.symm)
    have A_b4 := A_b4.ext E52
    replace A_b52 : AF Z h52 b52 .long 0 (fun j => .long ((fun _ => (0 : Int64)) j)) := A_b52
    refine r_astore 453 X #[.val (.long q1), .second, .val (.long p2), .second, .val (.long q2), .second, .val (.long p3), .second, .val (.int p5), .val (.int p6), .val (.int ((p6 &&& (2147483647 : Int32)) % (5 : Int32))), .val (.int ni), .val (.long q1), .second, .val (.long u1), .second, .val (.long u2), .second, .val (.int ca), .val (.int cb), .val (.ref b4), .val (.ref b52), .unset, .unset] at_451 rfl rfl ?_
    refine r_goto 656 X at_453 ?_
    obtain rfl : n = 0 := by have e0 := (eqI hni (b := 0) rfl).mp h445_51; omega
    exact J656 _ _ b52 0 hni (by decide) A_b52.lt (by rw [← hkf]; exact A_b52.congr (fun j hj => match j, hj with  | _ + 0, hj => absurd hj (by omega))) (by decide) hkb (X.more (by decide) (by decide))
  · refine r_ifY 456 X at_445 ((if0 _ _).trans (feq h445_51).2) ?_
    refine r_iload 458 X at_456 rfl ?_
    refine r_iconst 459 X (3 : Int32) at_458 rfl ?_
    by_cases h459_53 : ni = (3 : Int32)
    · refine r_icmpN 462 X at_459 (teq h459_53).2 ?_
      refine r_iconst 463 X (3 : Int32) at_462 rfl ?_
      refine r_newarray 465 X 3 3 (hw _ (List.mem_of_getElem? (i := 8) rfl)) at_463 (by decide) (by decide) (by decide) (by decide) (by decide) ?_
      intro T h54 b54 g54 gn_b54 E54 A_b54 X
      have ne_b4_b54 : b4 ≠ b54 := Nat.ne_of_lt (Nat.lt_of_lt_of_eq A_b4.lt g54.symm)
      have A_b4 := A_b4.ext E54
      replace A_b54 : AF Z h54 b54 .long 3 (fun j => .long ((fun _ => (0 : Int64)) j)) := A_b54
      refine r_dup 466 X at_465 rfl ?_
      refine r_iconst 467 X (0 : Int32) at_466 rfl ?_
      refine r_aload 469 X at_467 rfl rfl ?_
      refine r_iconst 470 X (0 : Int32) at_469 rfl ?_
      refine r_laload 471 X A_b4 (i := 0) (v := (.long (kf 0))) (by decide) (by decide) rfl at_470 ?_
      refine r_lastore 472 X A_b54 (i := 0) (v := (.long (kf 0))) (by decide) (by decide) rfl gn_b54 at_471 ?_
      intro T h55 W55 X
      have A_b4 := A_b4.other W55 ne_b4_b54
      have A_b54 := A_b54.setJ W55
      refine r_dup 473 X at_472 rfl ?_
      refine r_iconst 474 X (1 : Int32) at_473 rfl ?_
      refine r_aload 476 X at_474 rfl rfl ?_
      refine r_iconst 477 X (1 : Int32) at_476 rfl ?_
      refine r_laload 478 X A_b4 (i := 1) (v := (.long (kf 1))) (by decide) (by decide) rfl at_477 ?_
      refine r_lastore 479 X A_b54 (i := 1) (v := (.long (kf 1))) (by decide) (by decide) rfl gn_b54 at_478 ?_
      intro T h56 W56 X
      have A_b4 := A_b4.other W56 ne_b4_b54
      have A_b54 := A_b54.setJ W56
      refine r_dup 480 X at_479 rfl ?_
      refine r_iconst 481 X (2 : Int32) at_480 rfl ?_
      refine r_aload 483 X at_481 rfl rfl ?_
      refine r_iconst 484 X (2 : Int32) at_483 rfl ?_
      refine r_laload 485 X A_b4 (i := 2) (v := (.long (kf 2))) (by decide) (by decide) rfl at_484 ?_
      refine r_lastore 486 X A_b54 (i := 2) (v := (.long (kf 2))) (by decide) (by decide) rfl gn_b54 at_485 ?_
      intro T h57 W57 X
      have A_b4 := A_b4.other W57 ne_b4_b54
      have A_b54 := A_b54.setJ W57
      refine r_astore 488 X #[.val (.long q1), .second, .val (.long p2), .second, .val (.long q2), .second, .val (.long p3), .second, .val (.int p5), .val (.int p6), .val (.int ((p6 &&& (2147483647 : Int32)) % (5 : Int32))), .val (.int ni), .val (.long q1), .second, .val (.long u1), .second, .val (.long u2), .second, .val (.int ca), .val (.int cb), .val (.ref b4), .val (.ref b54), .unset, .unset] at_486 rfl rfl ?_
      refine r_goto 656 X at_488 ?_
      obtain rfl : n = 3 := by have e0 := mt (eqI hni (b := 0) rfl).mpr h445_51; have e3 := (eqI hni (b := 3) rfl).mp h459_53; omega
      exact J656 _ _ b54 3 hni (by decide) A_b54.lt (by rw [← hkf]; exact A_b54.congr (fun j hj => match j, hj with | 0, _ => rfl | 1, _ => rfl | 2, _ => rfl | _ + 3, hj => absurd hj (by omega))) (by decide) hkb (X.more (by decide) (by decide))
    · refine r_icmpY 491 X at_459 (feq h459_53).2 ?_
      refine r_iload 493 X at_491 rfl ?_
      refine r_bipush 495 X (8 : Int32) at_493 rfl ?_
      by_cases h495_58 : ni = (8 : Int32)
      · refine r_icmpN 498 X at_495 (teq h495_58).2 ?_
        refine r_bipush 500 X (8 : Int32) at_498 rfl ?_
        refine r_newarray 502 X 8 8 (hw _ (List.mem_of_getElem? (i := 8) rfl)) at_500 (by decide) (by decide) (by decide) (by decide) (by decide) ?_
        intro T h59 b59 g59 gn_b59 E59 A_b59 X
        have ne_b4_b59 : b4 ≠ b59 := Nat.ne_of_lt (Nat.lt_of_lt_of_eq A_b4.lt g59.symm)
        have A_b4 := A_b4.ext E59
        replace A_b59 : AF Z h59 b59 .long 8 (fun j => .long ((fun _ => (0 : Int64)) j)) := A_b59
        refine r_dup 503 X at_502 rfl ?_
        refine r_iconst 504 X (0 : Int32) at_503 rfl ?_
        refine r_aload 506 X at_504 rfl rfl ?_
        refine r_iconst 507 X (0 : Int32) at_506 rfl ?_
        refine r_laload 508 X A_b4 (i := 0) (v := (.long (kf 0))) (by decide) (by decide) rfl at_507 ?_
        refine r_lastore 509 X A_b59 (i := 0) (v := (.long (kf 0))) (by decide) (by decide) rfl gn_b59 at_508 ?_
        intro T h60 W60 X
        have A_b4 := A_b4.other W60 ne_b4_b59
        have A_b59 := A_b59.setJ W60
        refine r_dup 510 X at_509 rfl ?_
        refine r_iconst 511 X (1 : Int32) at_510 rfl ?_
        refine r_aload 513 X at_511 rfl rfl ?_
        refine r_iconst 514 X (1 : Int32) at_513 rfl ?_
        refine r_laload 515 X A_b4 (i := 1) (v := (.long (kf 1))) (by decide) (by decide) rfl at_514 ?_
        refine r_lastore 516 X A_b59 (i := 1) (v := (.long (kf 1))) (by decide) (by decide) rfl gn_b59 at_515 ?_
        intro T h61 W61 X
        have A_b4 := A_b4.other W61 ne_b4_b59
        have A_b59 := A_b59.setJ W61
        refine r_dup 517 X at_516 rfl ?_
        refine r_iconst 518 X (2 : Int32) at_517 rfl ?_
        refine r_aload 520 X at_518 rfl rfl ?_
        refine r_iconst 521 X (2 : Int32) at_520 rfl ?_
        refine r_laload 522 X A_b4 (i := 2) (v := (.long (kf 2))) (by decide) (by decide) rfl at_521 ?_
        refine r_lastore 523 X A_b59 (i := 2) (v := (.long (kf 2))) (by decide) (by decide) rfl gn_b59 at_522 ?_
        intro T h62 W62 X
        have A_b4 := A_b4.other W62 ne_b4_b59
        have A_b59 := A_b59.setJ W62
        refine r_dup 524 X at_523 rfl ?_
        refine r_iconst 525 X (3 : Int32) at_524 rfl ?_
        refine r_aload 527 X at_525 rfl rfl ?_
        refine r_iconst 528 X (3 : Int32) at_527 rfl ?_
        refine r_laload 529 X A_b4 (i := 3) (v := (.long (kf 3))) (by decide) (by decide) rfl at_528 ?_
        refine r_lastore 530 X A_b59 (i := 3) (v := (.long (kf 3))) (by decide) (by decide) rfl gn_b59 at_529 ?_
        intro T h63 W63 X
        have A_b4 := A_b4.other W63 ne_b4_b59
        have A_b59 := A_b59.setJ W63
        refine r_dup 531 X at_530 rfl ?_
        refine r_iconst 532 X (4 : Int32) at_531 rfl ?_
        refine r_aload 534 X at_532 rfl rfl ?_
        refine r_iconst 535 X (4 : Int32) at_534 rfl ?_
        refine r_laload 536 X A_b4 (i := 4) (v := (.long (kf 4))) (by decide) (by decide) rfl at_535 ?_
        refine r_lastore 537 X A_b59 (i := 4) (v := (.long (kf 4))) (by decide) (by decide) rfl gn_b59 at_536 ?_
        intro T h64 W64 X
        have A_b4 := A_b4.other W64 ne_b4_b59
        have A_b59 := A_b59.setJ W64
        refine r_dup 538 X at_537 rfl ?_
        refine r_iconst 539 X (5 : Int32) at_538 rfl ?_
        refine r_aload 541 X at_539 rfl rfl ?_
        refine r_iconst 542 X (5 : Int32) at_541 rfl ?_
        refine r_laload 543 X A_b4 (i := 5) (v := (.long (kf 5))) (by decide) (by decide) rfl at_542 ?_
        refine r_lastore 544 X A_b59 (i := 5) (v := (.long (kf 5))) (by decide) (by decide) rfl gn_b59 at_543 ?_
        intro T h65 W65 X
        have A_b4 := A_b4.other W65 ne_b4_b59
        have A_b59 := A_b59.setJ W65
        refine r_dup 545 X at_544 rfl ?_
        refine r_bipush 547 X (6 : Int32) at_545 rfl ?_
        refine r_aload 549 X at_547 rfl rfl ?_
        refine r_bipush 551 X (6 : Int32) at_549 rfl ?_
        refine r_laload 552 X A_b4 (i := 6) (v := (.long (kf 6))) (by decide) (by decide) rfl at_551 ?_
        refine r_lastore 553 X A_b59 (i := 6) (v := (.long (kf 6))) (by decide) (by decide) rfl gn_b59 at_552 ?_
        intro T h66 W66 X
        have A_b4 := A_b4.other W66 ne_b4_b59
        have A_b59 := A_b59.setJ W66
        refine r_dup 554 X at_553 rfl ?_
        refine r_bipush 556 X (7 : Int32) at_554 rfl ?_
        refine r_aload 558 X at_556 rfl rfl ?_
        refine r_bipush 560 X (7 : Int32) at_558 rfl ?_
        refine r_laload 561 X A_b4 (i := 7) (v := (.long (kf 7))) (by decide) (by decide) rfl at_560 ?_
        refine r_lastore 562 X A_b59 (i := 7) (v := (.long (kf 7))) (by decide) (by decide) rfl gn_b59 at_561 ?_
        intro T h67 W67 X
        have A_b4 := A_b4.other W67 ne_b4_b59
        have A_b59 := A_b59.setJ W67
        refine r_astore 564 X #[.val (.long q1), .second, .val (.long p2), .second, .val (.long q2), .second, .val (.long p3), .second, .val (.int p5), .val (.int p6), .val (.int ((p6 &&& (2147483647 : Int32)) % (5 : Int32))), .val (.int ni), .val (.long q1), .second, .val (.long u1), .second, .val (.long u2), .second, .val (.int ca), .val (.int cb), .val (.ref b4), .val (.ref b59), .unset, .unset] at_562 rfl rfl ?_
        refine r_goto 656 X at_564 ?_
        obtain rfl : n = 8 := by have e0 := mt (eqI hni (b := 0) rfl).mpr h445_51; have e3 := mt (eqI hni (b := 3) rfl).mpr h459_53; have e8 := (eqI hni (b := 8) rfl).mp h495_58; omega
        exact J656 _ _ b59 8 hni (by decide) A_b59.lt (by rw [← hkf]; exact A_b59.congr (fun j hj => match j, hj with | 0, _ => rfl | 1, _ => rfl | 2, _ => rfl | 3, _ => rfl | 4, _ => rfl | 5, _ => rfl | 6, _ => rfl | 7, _ => rfl | _ + 8, hj => absurd hj (by omega))) (by decide) hkb (X.more (by decide) (by decide))
      · refine r_icmpY 567 X at_495 (feq h495_58).2 ?_
        refine r_iload 569 X at_567 rfl ?_
        refine r_bipush 571 X (9 : Int32) at_569 rfl ?_
        by_cases h571_68 : ni = (9 : Int32)
        · refine r_icmpN 574 X at_571 (teq h571_68).2 ?_
          refine r_bipush 576 X (9 : Int32) at_574 rfl ?_
          refine r_newarray 578 X 9 9 (hw _ (List.mem_of_getElem? (i := 8) rfl)) at_576 (by decide) (by decide) (by decide) (by decide) (by decide) ?_
          intro T h69 b69 g69 gn_b69 E69 A_b69 X
          have ne_b4_b69 : b4 ≠ b69 := Nat.ne_of_lt (Nat.lt_of_lt_of_eq A_b4.lt g69.symm)
          have A_b4 := A_b4.ext E69
          replace A_b69 : AF Z h69 b69 .long 9 (fun j => .long ((fun _ => (0 : Int64)) j)) := A_b69
          refine r_dup 579 X at_578 rfl ?_
          refine r_iconst 580 X (0 : Int32) at_579 rfl ?_
          refine r_aload 582 X at_580 rfl rfl ?_
          refine r_iconst 583 X (0 : Int32) at_582 rfl ?_
          refine r_laload 584 X A_b4 (i := 0) (v := (.long (kf 0))) (by decide) (by decide) rfl at_583 ?_
          refine r_lastore 585 X A_b69 (i := 0) (v := (.long (kf 0))) (by decide) (by decide) rfl gn_b69 at_584 ?_
          intro T h70 W70 X
          have A_b4 := A_b4.other W70 ne_b4_b69
          have A_b69 := A_b69.setJ W70
          refine r_dup 586 X at_585 rfl ?_
          refine r_iconst 587 X (1 : Int32) at_586 rfl ?_
          refine r_aload 589 X at_587 rfl rfl ?_
          refine r_iconst 590 X (1 : Int32) at_589 rfl ?_
          refine r_laload 591 X A_b4 (i := 1) (v := (.long (kf 1))) (by decide) (by decide) rfl at_590 ?_
          refine r_lastore 592 X A_b69 (i := 1) (v := (.long (kf 1))) (by decide) (by decide) rfl gn_b69 at_591 ?_
          intro T h71 W71 X
          have A_b4 := A_b4.other W71 ne_b4_b69
          have A_b69 := A_b69.setJ W71
          refine r_dup 593 X at_592 rfl ?_
          refine r_iconst 594 X (2 : Int32) at_593 rfl ?_
          refine r_aload 596 X at_594 rfl rfl ?_
          refine r_iconst 597 X (2 : Int32) at_596 rfl ?_
          refine r_laload 598 X A_b4 (i := 2) (v := (.long (kf 2))) (by decide) (by decide) rfl at_597 ?_
          refine r_lastore 599 X A_b69 (i := 2) (v := (.long (kf 2))) (by decide) (by decide) rfl gn_b69 at_598 ?_
          intro T h72 W72 X
          have A_b4 := A_b4.other W72 ne_b4_b69
          have A_b69 := A_b69.setJ W72
          refine r_dup 600 X at_599 rfl ?_
          refine r_iconst 601 X (3 : Int32) at_600 rfl ?_
          refine r_aload 603 X at_601 rfl rfl ?_
          refine r_iconst 604 X (3 : Int32) at_603 rfl ?_
          refine r_laload 605 X A_b4 (i := 3) (v := (.long (kf 3))) (by decide) (by decide) rfl at_604 ?_
          refine r_lastore 606 X A_b69 (i := 3) (v := (.long (kf 3))) (by decide) (by decide) rfl gn_b69 at_605 ?_
          intro T h73 W73 X
          have A_b4 := A_b4.other W73 ne_b4_b69
          have A_b69 := A_b69.setJ W73
          refine r_dup 607 X at_606 rfl ?_
          refine r_iconst 608 X (4 : Int32) at_607 rfl ?_
          refine r_aload 610 X at_608 rfl rfl ?_
          refine r_iconst 611 X (4 : Int32) at_610 rfl ?_
          refine r_laload 612 X A_b4 (i := 4) (v := (.long (kf 4))) (by decide) (by decide) rfl at_611 ?_
          refine r_lastore 613 X A_b69 (i := 4) (v := (.long (kf 4))) (by decide) (by decide) rfl gn_b69 at_612 ?_
          intro T h74 W74 X
          have A_b4 := A_b4.other W74 ne_b4_b69
          have A_b69 := A_b69.setJ W74
          refine r_dup 614 X at_613 rfl ?_
          refine r_iconst 615 X (5 : Int32) at_614 rfl ?_
          refine r_aload 617 X at_615 rfl rfl ?_
          refine r_iconst 618 X (5 : Int32) at_617 rfl ?_
          refine r_laload 619 X A_b4 (i := 5) (v := (.long (kf 5))) (by decide) (by decide) rfl at_618 ?_
          refine r_lastore 620 X A_b69 (i := 5) (v := (.long (kf 5))) (by decide) (by decide) rfl gn_b69 at_619 ?_
          intro T h75 W75 X
          have A_b4 := A_b4.other W75 ne_b4_b69
          have A_b69 := A_b69.setJ W75
          refine r_dup 621 X at_620 rfl ?_
          refine r_bipush 623 X (6 : Int32) at_621 rfl ?_
          refine r_aload 625 X at_623 rfl rfl ?_
          refine r_bipush 627 X (6 : Int32) at_625 rfl ?_
          refine r_laload 628 X A_b4 (i := 6) (v := (.long (kf 6))) (by decide) (by decide) rfl at_627 ?_
          refine r_lastore 629 X A_b69 (i := 6) (v := (.long (kf 6))) (by decide) (by decide) rfl gn_b69 at_628 ?_
          intro T h76 W76 X
          have A_b4 := A_b4.other W76 ne_b4_b69
          have A_b69 := A_b69.setJ W76
          refine r_dup 630 X at_629 rfl ?_
          refine r_bipush 632 X (7 : Int32) at_630 rfl ?_
          refine r_aload 634 X at_632 rfl rfl ?_
          refine r_bipush 636 X (7 : Int32) at_634 rfl ?_
          refine r_laload 637 X A_b4 (i := 7) (v := (.long (kf 7))) (by decide) (by decide) rfl at_636 ?_
          refine r_lastore 638 X A_b69 (i := 7) (v := (.long (kf 7))) (by decide) (by decide) rfl gn_b69 at_637 ?_
          intro T h77 W77 X
          have A_b4 := A_b4.other W77 ne_b4_b69
          have A_b69 := A_b69.setJ W77
          refine r_dup 639 X at_638 rfl ?_
          refine r_bipush 641 X (8 : Int32) at_639 rfl ?_
          refine r_aload 643 X at_641 rfl rfl ?_
          refine r_bipush 645 X (8 : Int32) at_643 rfl ?_
          refine r_laload 646 X A_b4 (i := 8) (v := (.long (kf 8))) (by decide) (by decide) rfl at_645 ?_
          refine r_lastore 647 X A_b69 (i := 8) (v := (.long (kf 8))) (by decide) (by decide) rfl gn_b69 at_646 ?_
          intro T h78 W78 X
          have A_b4 := A_b4.other W78 ne_b4_b69
          have A_b69 := A_b69.setJ W78
          refine r_astore 649 X #[.val (.long q1), .second, .val (.long p2), .second, .val (.long q2), .second, .val (.long p3), .second, .val (.int p5), .val (.int p6), .val (.int ((p6 &&& (2147483647 : Int32)) % (5 : Int32))), .val (.int ni), .val (.long q1), .second, .val (.long u1), .second, .val (.long u2), .second, .val (.int ca), .val (.int cb), .val (.ref b4), .val (.ref b69), .unset, .unset] at_647 rfl rfl ?_
          refine r_goto 656 X at_649 ?_
          obtain rfl : n = 9 := by have e0 := mt (eqI hni (b := 0) rfl).mpr h445_51; have e3 := mt (eqI hni (b := 3) rfl).mpr h459_53; have e8 := mt (eqI hni (b := 8) rfl).mpr h495_58; have e9 := (eqI hni (b := 9) rfl).mp h571_68; omega
          exact J656 _ _ b69 9 hni (by decide) A_b69.lt (by rw [← hkf]; exact A_b69.congr (fun j hj => match j, hj with | 0, _ => rfl | 1, _ => rfl | 2, _ => rfl | 3, _ => rfl | 4, _ => rfl | 5, _ => rfl | 6, _ => rfl | 7, _ => rfl | 8, _ => rfl | _ + 9, hj => absurd hj (by omega))) (by decide) hkb (X.more (by decide) (by decide))
        · refine r_icmpY 652 X at_571 (feq h571_68).2 ?_
          refine r_aload 654 X at_652 rfl rfl ?_
          refine r_astore 656 X #[.val (.long q1), .second, .val (.long p2), .second, .val (.long q2), .second, .val (.long p3), .second, .val (.int p5), .val (.int p6), .val (.int ((p6 &&& (2147483647 : Int32)) % (5 : Int32))), .val (.int ni), .val (.long q1), .second, .val (.long u1), .second, .val (.long u2), .second, .val (.int ca), .val (.int cb), .val (.ref b4), .val (.ref b4), .unset, .unset] at_654 rfl rfl ?_
          obtain rfl : n = 17 := by have e0 := mt (eqI hni (b := 0) rfl).mpr h445_51; have e3 := mt (eqI hni (b := 3) rfl).mpr h459_53; have e8 := mt (eqI hni (b := 8) rfl).mpr h495_58; have e9 := mt (eqI hni (b := 9) rfl).mpr h571_68; omega
          exact J656 _ _ b4 17 hni (by decide) A_b4.lt (by rw [← hkf]; exact A_b4.congr (fun j hj => match j, hj with | 0, _ => rfl | 1, _ => rfl | 2, _ => rfl | 3, _ => rfl | 4, _ => rfl | 5, _ => rfl | 6, _ => rfl | 7, _ => rfl | 8, _ => rfl | 9, _ => rfl | 10, _ => rfl | 11, _ => rfl | 12, _ => rfl | 13, _ => rfl | 14, _ => rfl | 15, _ => rfl | 16, _ => rfl | _ + 17, hj => absurd hj (by omega))) (by decide) hkb (X.more (by decide) (by decide))
theorem pn_0 : plainName "com/example/skiprail/skiprail/index/GroupedKeysBelowPinLaw" = true := by first | (simp [plainName, overriddenIn]; done) | decide +kernel
theorem ef_0 (m : MethodId) (x0 : Int64) (x1 : Int64) (x2 : Int64) (x3 : Int64) (x4 : Int32) (x5 : Int32) : entryFrame m #[(.long x0), (.long x1), (.long x2), (.long x3), (.int x4), (.int x5)] maxLocals = mkF m 0 #[.val (.long x0), .second, .val (.long x1), .second, .val (.long x2), .second, .val (.long x3), .second, .val (.int x4), .val (.int x5), .unset, .unset, .unset, .unset, .unset, .unset, .unset, .unset, .unset, .unset, .unset, .unset, .unset, .unset] [] := by first | (simp [entryFrame, mkF, argsToLocals, Value.category, maxLocals]; done) | rfl
set_option maxRecDepth 65536 in
set_option maxHeartbeats 40000000 in
theorem rm0 (l : Launch) (Z : State) (a0 : Array Value) (hw : ∀ d ∈ tables_1, d.before a0 Z = true) (n0 : Nat) (h : Heap) (Z0 : n0 ≤ h.size) (q1 : Int64) (p2 : Int64) (q2 : Int64) (p3 : Int64) (p5 : Int32) (p6 : Int32)  :
    Met1 l Z n0 tables_1 x code maxLocals ret room_1 #[(.long q1), (.long p2), (.long q2), (.long p3), (.int p5), (.int p6)] h (fun v h' => v = some (.int 1)) := by
  refine met_of (plainFor_of_name pn_0) Z0 (fun m => ef_0 m q1 p2 q2 p3 p5 p6) ?_
  intro p e s m below meth c T hs0 X
  refine r_iload 2 X at_0 rfl ?_
  refine r_ldcInt 4 X (hw _ (List.mem_of_getElem? (i := 0) rfl)) at_2 ?_
  refine r_iand 5 X at_4 ?_
  refine r_iconst 6 X (5 : Int32) at_5 rfl ?_
  refine r_irem 7 X at_6 (by decide) ?_
  refine r_istore 9 X #[.val (.long q1), .second, .val (.long p2), .second, .val (.long q2), .second, .val (.long p3), .second, .val (.int p5), .val (.int p6), .val (.int ((p6 &&& (2147483647 : Int32)) % (5 : Int32))), .unset, .unset, .unset, .unset, .unset, .unset, .unset, .unset, .unset, .unset, .unset, .unset, .unset] at_7 rfl ?_
  have J52 : ∀ (T : State) (ni : Int32) (n : Nat), ni.toInt = (n : Int) → (n = 0 ∨ n = 3 ∨ n = 8 ∨ n = 9 ∨ n = 17) → Cx p l e room_1 s m #[(.long q1), (.long p2), (.long q2), (.long p3), (.int p5), (.int p6)] below meth c Z code maxLocals x.cls ret x.name n0 T h 0 0 → Run p e below m (Fin1 below s n0 (fun v h' => v = some (.int 1)) room_1.cells room_1.slots) T 52 #[.val (.long q1), .second, .val (.long p2), .second, .val (.long q2), .second, .val (.long p3), .second, .val (.int p5), .val (.int p6), .val (.int ((p6 &&& (2147483647 : Int32)) % (5 : Int32))), .unset, .unset, .unset, .unset, .unset, .unset, .unset, .unset, .unset, .unset, .unset, .unset, .unset] [.int ni] := by
    intro T ni n hni hn X
    refine r_istore 54 X #[.val (.long q1), .second, .val (.long p2), .second, .val (.long q2), .second, .val (.long p3), .second, .val (.int p5), .val (.int p6), .val (.int ((p6 &&& (2147483647 : Int32)) % (5 : Int32))), .val (.int ni), .unset, .unset, .unset, .unset, .unset, .unset, .unset, .unset, .unset, .unset, .unset, .unset] at_52 rfl ?_
    refine r_lloadN 55 X at_54 rfl ?_
    refine r_lstore 57 X #[.val (.long q1), .second, .val (.long p2), .second, .val (.long q2), .second, .val (.long p3), .second, .val (.int p5), .val (.int p6), .val (.int ((p6 &&& (2147483647 : Int32)) % (5 : Int32))), .val (.int ni), .val (.long q1), .second, .unset, .unset, .unset, .unset, .unset, .unset, .unset, .unset, .unset, .unset] at_55 rfl ?_
    refine r_lload 59 X at_57 rfl ?_
    refine r_lloadN 60 X at_59 rfl ?_
    refine r_callS 63 X (st := []) (rmMU l Z a0 hw n0 _ X.sz q1 p2) (hw _ (List.mem_of_getElem? (i := 1) rfl)) (hw _ (List.mem_of_getElem? (i := 2) rfl)) (hw _ (List.mem_of_getElem? (i := 4) rfl)) (hw _ (List.mem_of_getElem? (i := 3) rfl)) (by decide) pd_4 [(.long q1), (.long p2)] rfl rfl 0 (Nat.le_of_eq rfl) rfl (by decide) (by decide) (by decide) (by decide) at_60 ?_
    rintro T h2 v2 ⟨rfl, rfl⟩ X
    change Run _ _ _ _ _ _ _ _ [(.long (mxU q1 p2))]
    have k1 := own_mxU q1 p2
    generalize (mxU q1 p2) = u1 at k1 ⊢
    refine r_lstore 65 X #[.val (.long q1), .second, .val (.long p2), .second, .val (.long q2), .second, .val (.long p3), .second, .val (.int p5), .val (.int p6), .val (.int ((p6 &&& (2147483647 : Int32)) % (5 : Int32))), .val (.int ni), .val (.long q1), .second, .val (.long u1), .second, .unset, .unset, .unset, .unset, .unset, .unset, .unset, .unset] at_63 rfl ?_
    refine r_lload 67 X at_65 rfl ?_
    refine r_lload 69 X at_67 rfl ?_
    refine r_callS 72 X (st := []) (rmMU l Z a0 hw n0 _ X.sz u1 q2) (hw _ (List.mem_of_getElem? (i := 1) rfl)) (hw _ (List.mem_of_getElem? (i := 2) rfl)) (hw _ (List.mem_of_getElem? (i := 4) rfl)) (hw _ (List.mem_of_getElem? (i := 3) rfl)) (by decide) pd_4 [(.long u1), (.long q2)] rfl rfl 0 (Nat.le_of_eq rfl) rfl (by decide) (by decide) (by decide) (by decide) at_69 ?_
    rintro T h3 v3 ⟨rfl, rfl⟩ X
    change Run _ _ _ _ _ _ _ _ [(.long (mxU u1 q2))]
    have k2 := own_mxU u1 q2
    generalize (mxU u1 q2) = u2 at k2 ⊢
    refine r_lstore 74 X #[.val (.long q1), .second, .val (.long p2), .second, .val (.long q2), .second, .val (.long p3), .second, .val (.int p5), .val (.int p6), .val (.int ((p6 &&& (2147483647 : Int32)) % (5 : Int32))), .val (.int ni), .val (.long q1), .second, .val (.long u1), .second, .val (.long u2), .second, .unset, .unset, .unset, .unset, .unset, .unset] at_72 rfl ?_
    have hn17 : n ≤ 17 := by omega
    refine r_iload 76 X at_74 rfl ?_
    refine r_sipush 79 X (255 : Int32) at_76 rfl ?_
    refine r_iand 80 X at_79 ?_
    refine r_iload 82 X at_80 rfl ?_
    refine r_iconst 83 X (1 : Int32) at_82 rfl ?_
    refine r_iadd 84 X at_83 ?_
    refine r_irem 85 X at_84 (own_c0 p5 ni hni hn17).1 ?_
    obtain ⟨-, ka, hca, hka⟩ := own_c0 p5 ni hni hn17
    generalize ((p5 &&& (255 : Int32)) % (ni + (1 : Int32))) = ca at hca ⊢
    refine r_istore 87 X #[.val (.long q1), .second, .val (.long p2), .second, .val (.long q2), .second, .val (.long p3), .second, .val (.int p5), .val (.int p6), .val (.int ((p6 &&& (2147483647 : Int32)) % (5 : Int32))), .val (.int ni), .val (.long q1), .second, .val (.long u1), .second, .val (.long u2), .second, .val (.int ca), .unset, .unset, .unset, .unset, .unset] at_85 rfl ?_
    refine r_iload 89 X at_87 rfl ?_
    refine r_iload 91 X at_89 rfl ?_
    refine r_bipush 93 X (8 : Int32) at_91 rfl ?_
    refine r_iushr 94 X at_93 ?_
    refine r_sipush 97 X (255 : Int32) at_94 rfl ?_
    refine r_iand 98 X at_97 ?_
    refine r_iload 100 X at_98 rfl ?_
    refine r_iconst 101 X (1 : Int32) at_100 rfl ?_
    refine r_iadd 102 X at_101 ?_
    refine r_iload 104 X at_102 rfl ?_
    refine r_isub 105 X at_104 ?_
    refine r_irem 106 X at_105 (own_c1 p5 ni ca hni hn17 hca hka).1 ?_
    refine r_iadd 107 X at_106 ?_
    obtain ⟨-, kb, hcb, hkab, hkb⟩ := own_c1 (p5.toUInt32 >>> ((8 : Int32) &&& 31).toUInt32).toInt32 ni ca hni hn17 hca hka
    generalize (ca + ((((p5.toUInt32 >>> ((8 : Int32) &&& 31).toUInt32).toInt32) &&& (255 : Int32)) % ((ni + (1 : Int32)) - ca))) = cb at hcb ⊢
    refine r_istore 109 X #[.val (.long q1), .second, .val (.long p2), .second, .val (.long q2), .second, .val (.long p3), .second, .val (.int p5), .val (.int p6), .val (.int ((p6 &&& (2147483647 : Int32)) % (5 : Int32))), .val (.int ni), .val (.long q1), .second, .val (.long u1), .second, .val (.long u2), .second, .val (.int ca), .val (.int cb), .unset, .unset, .unset, .unset] at_107 rfl ?_
    obtain ⟨kf, hkf⟩ : ∃ kf : Nat → Int64, kf = KF ca cb q1 u1 u2 := ⟨_, rfl⟩
    refine r_bipush 111 X (17 : Int32) at_109 rfl ?_
    refine r_newarray 113 X 17 17 (hw _ (List.mem_of_getElem? (i := 8) rfl)) at_111 (by decide) (by decide) (by decide) (by decide) (by decide) ?_
    intro T h4 b4 g4 gn_b4 E4 A_b4 X
    replace A_b4 : AF Z h4 b4 .long 17 (fun j => .long ((fun _ => (0 : Int64)) j)) := A_b4
    refine r_astore 115 X #[.val (.long q1), .second, .val (.long p2), .second, .val (.long q2), .second, .val (.long p3), .second, .val (.int p5), .val (.int p6), .val (.int ((p6 &&& (2147483647 : Int32)) % (5 : Int32))), .val (.int ni), .val (.long q1), .second, .val (.long u1), .second, .val (.long u2), .second, .val (.int ca), .val (.int cb), .val (.ref b4), .unset, .unset, .unset] at_113 rfl rfl ?_
    refine r_aload 117 X at_115 rfl rfl ?_
    refine r_iconst 118 X (0 : Int32) at_117 rfl ?_
    refine r_iconst 119 X (0 : Int32) at_118 rfl ?_
    refine r_iload 121 X at_119 rfl ?_
    refine r_iload 123 X at_121 rfl ?_
    refine r_lload 125 X at_123 rfl ?_
    refine r_lload 127 X at_125 rfl ?_
    refine r_lload 129 X at_127 rfl ?_
    refine r_callS 132 X (st := [(.int (0 : Int32)), (.ref b4)]) (rmPk l Z a0 hw n0 _ X.sz (0 : Int32) ca cb q1 u1 u2) (hw _ (List.mem_of_getElem? (i := 9) rfl)) (hw _ (List.mem_of_getElem? (i := 10) rfl)) (hw _ (List.mem_of_getElem? (i := 11) rfl)) (hw _ (List.mem_of_getElem? (i := 3) rfl)) (by decide) pd_5 [(.int (0 : Int32)), (.int ca), (.int cb), (.long q1), (.long u1), (.long u2)] rfl rfl 2 (Nat.le_of_eq rfl) rfl (by decide) (by decide) (by decide) (by decide) at_129 ?_
    rintro T h5 v5 ⟨rfl, rfl⟩ X
    change Run _ _ _ _ _ _ _ _ [(.long (pkV (0 : Int32) ca cb q1 u1 u2)), (.int (0 : Int32)), (.ref b4)]
    refine r_topJ (x' := (kf 0)) (by rw [hkf]; rfl) ?_
    refine r_lastore 133 X A_b4 (i := 0) (v := (.long (kf 0))) (by decide) (by decide) rfl gn_b4 at_132 ?_
    intro T h6 W6 X
    have A_b4 := A_b4.setJ W6
    refine r_aload 135 X at_133 rfl rfl ?_
    refine r_iconst 136 X (1 : Int32) at_135 rfl ?_
    refine r_iconst 137 X (1 : Int32) at_136 rfl ?_
    refine r_iload 139 X at_137 rfl ?_
    refine r_iload 141 X at_139 rfl ?_
    refine r_lload 143 X at_141 rfl ?_
    refine r_lload 145 X at_143 rfl ?_
    refine r_lload 147 X at_145 rfl ?_
    refine r_callS 150 X (st := [(.int (1 : Int32)), (.ref b4)]) (rmPk l Z a0 hw n0 _ X.sz (1 : Int32) ca cb q1 u1 u2) (hw _ (List.mem_of_getElem? (i := 9) rfl)) (hw _ (List.mem_of_getElem? (i := 10) rfl)) (hw _ (List.mem_of_getElem? (i := 11) rfl)) (hw _ (List.mem_of_getElem? (i := 3) rfl)) (by decide) pd_5 [(.int (1 : Int32)), (.int ca), (.int cb), (.long q1), (.long u1), (.long u2)] rfl rfl 2 (Nat.le_of_eq rfl) rfl (by decide) (by decide) (by decide) (by decide) at_147 ?_
    rintro T h7 v7 ⟨rfl, rfl⟩ X
    change Run _ _ _ _ _ _ _ _ [(.long (pkV (1 : Int32) ca cb q1 u1 u2)), (.int (1 : Int32)), (.ref b4)]
    refine r_topJ (x' := (kf 1)) (by rw [hkf]; rfl) ?_
    refine r_lastore 151 X A_b4 (i := 1) (v := (.long (kf 1))) (by decide) (by decide) rfl gn_b4 at_150 ?_
    intro T h8 W8 X
    have A_b4 := A_b4.setJ W8
    refine r_aload 153 X at_151 rfl rfl ?_
    refine r_iconst 154 X (2 : Int32) at_153 rfl ?_
    refine r_iconst 155 X (2 : Int32) at_154 rfl ?_
    refine r_iload 157 X at_155 rfl ?_
    refine r_iload 159 X at_157 rfl ?_
    refine r_lload 161 X at_159 rfl ?_
    refine r_lload 163 X at_161 rfl ?_
    refine r_lload 165 X at_163 rfl ?_
    refine r_callS 168 X (st := [(.int (2 : Int32)), (.ref b4)]) (rmPk l Z a0 hw n0 _ X.sz (2 : Int32) ca cb q1 u1 u2) (hw _ (List.mem_of_getElem? (i := 9) rfl)) (hw _ (List.mem_of_getElem? (i := 10) rfl)) (hw _ (List.mem_of_getElem? (i := 11) rfl)) (hw _ (List.mem_of_getElem? (i := 3) rfl)) (by decide) pd_5 [(.int (2 : Int32)), (.int ca), (.int cb), (.long q1), (.long u1), (.long u2)] rfl rfl 2 (Nat.le_of_eq rfl) rfl (by decide) (by decide) (by decide) (by decide) at_165 ?_
    rintro T h9 v9 ⟨rfl, rfl⟩ X
    change Run _ _ _ _ _ _ _ _ [(.long (pkV (2 : Int32) ca cb q1 u1 u2)), (.int (2 : Int32)), (.ref b4)]
    refine r_topJ (x' := (kf 2)) (by rw [hkf]; rfl) ?_
    refine r_lastore 169 X A_b4 (i := 2) (v := (.long (kf 2))) (by decide) (by decide) rfl gn_b4 at_168 ?_
    intro T h10 W10 X
    have A_b4 := A_b4.setJ W10
    refine r_aload 171 X at_169 rfl rfl ?_
    refine r_iconst 172 X (3 : Int32) at_171 rfl ?_
    refine r_iconst 173 X (3 : Int32) at_172 rfl ?_
    refine r_iload 175 X at_173 rfl ?_
    refine r_iload 177 X at_175 rfl ?_
    refine r_lload 179 X at_177 rfl ?_
    refine r_lload 181 X at_179 rfl ?_
    refine r_lload 183 X at_181 rfl ?_
    refine r_callS 186 X (st := [(.int (3 : Int32)), (.ref b4)]) (rmPk l Z a0 hw n0 _ X.sz (3 : Int32) ca cb q1 u1 u2) (hw _ (List.mem_of_getElem? (i := 9) rfl)) (hw _ (List.mem_of_getElem? (i := 10) rfl)) (hw _ (List.mem_of_getElem? (i := 11) rfl)) (hw _ (List.mem_of_getElem? (i := 3) rfl)) (by decide) pd_5 [(.int (3 : Int32)), (.int ca), (.int cb), (.long q1), (.long u1), (.long u2)] rfl rfl 2 (Nat.le_of_eq rfl) rfl (by decide) (by decide) (by decide) (by decide) at_183 ?_
    rintro T h11 v11 ⟨rfl, rfl⟩ X
    change Run _ _ _ _ _ _ _ _ [(.long (pkV (3 : Int32) ca cb q1 u1 u2)), (.int (3 : Int32)), (.ref b4)]
    refine r_topJ (x' := (kf 3)) (by rw [hkf]; rfl) ?_
    refine r_lastore 187 X A_b4 (i := 3) (v := (.long (kf 3))) (by decide) (by decide) rfl gn_b4 at_186 ?_
    intro T h12 W12 X
    have A_b4 := A_b4.setJ W12
    refine r_aload 189 X at_187 rfl rfl ?_
    refine r_iconst 190 X (4 : Int32) at_189 rfl ?_
    refine r_iconst 191 X (4 : Int32) at_190 rfl ?_
    refine r_iload 193 X at_191 rfl ?_
    refine r_iload 195 X at_193 rfl ?_
    refine r_lload 197 X at_195 rfl ?_
    refine r_lload 199 X at_197 rfl ?_
    refine r_lload 201 X at_199 rfl ?_
    refine r_callS 204 X (st := [(.int (4 : Int32)), (.ref b4)]) (rmPk l Z a0 hw n0 _ X.sz (4 : Int32) ca cb q1 u1 u2) (hw _ (List.mem_of_getElem? (i := 9) rfl)) (hw _ (List.mem_of_getElem? (i := 10) rfl)) (hw _ (List.mem_of_getElem? (i := 11) rfl)) (hw _ (List.mem_of_getElem? (i := 3) rfl)) (by decide) pd_5 [(.int (4 : Int32)), (.int ca), (.int cb), (.long q1), (.long u1), (.long u2)] rfl rfl 2 (Nat.le_of_eq rfl) rfl (by decide) (by decide) (by decide) (by decide) at_201 ?_
    rintro T h13 v13 ⟨rfl, rfl⟩ X
    change Run _ _ _ _ _ _ _ _ [(.long (pkV (4 : Int32) ca cb q1 u1 u2)), (.int (4 : Int32)), (.ref b4)]
    refine r_topJ (x' := (kf 4)) (by rw [hkf]; rfl) ?_
    refine r_lastore 205 X A_b4 (i := 4) (v := (.long (kf 4))) (by decide) (by decide) rfl gn_b4 at_204 ?_
    intro T h14 W14 X
    have A_b4 := A_b4.setJ W14
    refine r_aload 207 X at_205 rfl rfl ?_
    refine r_iconst 208 X (5 : Int32) at_207 rfl ?_
    refine r_iconst 209 X (5 : Int32) at_208 rfl ?_
    refine r_iload 211 X at_209 rfl ?_
    refine r_iload 213 X at_211 rfl ?_
    refine r_lload 215 X at_213 rfl ?_
    refine r_lload 217 X at_215 rfl ?_
    refine r_lload 219 X at_217 rfl ?_
    refine r_callS 222 X (st := [(.int (5 : Int32)), (.ref b4)]) (rmPk l Z a0 hw n0 _ X.sz (5 : Int32) ca cb q1 u1 u2) (hw _ (List.mem_of_getElem? (i := 9) rfl)) (hw _ (List.mem_of_getElem? (i := 10) rfl)) (hw _ (List.mem_of_getElem? (i := 11) rfl)) (hw _ (List.mem_of_getElem? (i := 3) rfl)) (by decide) pd_5 [(.int (5 : Int32)), (.int ca), (.int cb), (.long q1), (.long u1), (.long u2)] rfl rfl 2 (Nat.le_of_eq rfl) rfl (by decide) (by decide) (by decide) (by decide) at_219 ?_
    rintro T h15 v15 ⟨rfl, rfl⟩ X
    change Run _ _ _ _ _ _ _ _ [(.long (pkV (5 : Int32) ca cb q1 u1 u2)), (.int (5 : Int32)), (.ref b4)]
    refine r_topJ (x' := (kf 5)) (by rw [hkf]; rfl) ?_
    refine r_lastore 223 X A_b4 (i := 5) (v := (.long (kf 5))) (by decide) (by decide) rfl gn_b4 at_222 ?_
    intro T h16 W16 X
    have A_b4 := A_b4.setJ W16
    refine r_aload 225 X at_223 rfl rfl ?_
    refine r_bipush 227 X (6 : Int32) at_225 rfl ?_
    refine r_bipush 229 X (6 : Int32) at_227 rfl ?_
    refine r_iload 231 X at_229 rfl ?_
    refine r_iload 233 X at_231 rfl ?_
    refine r_lload 235 X at_233 rfl ?_
    refine r_lload 237 X at_235 rfl ?_
    refine r_lload 239 X at_237 rfl ?_
    refine r_callS 242 X (st := [(.int (6 : Int32)), (.ref b4)]) (rmPk l Z a0 hw n0 _ X.sz (6 : Int32) ca cb q1 u1 u2) (hw _ (List.mem_of_getElem? (i := 9) rfl)) (hw _ (List.mem_of_getElem? (i := 10) rfl)) (hw _ (List.mem_of_getElem? (i := 11) rfl)) (hw _ (List.mem_of_getElem? (i := 3) rfl)) (by decide) pd_5 [(.int (6 : Int32)), (.int ca), (.int cb), (.long q1), (.long u1), (.long u2)] rfl rfl 2 (Nat.le_of_eq rfl) rfl (by decide) (by decide) (by decide) (by decide) at_239 ?_
    rintro T h17 v17 ⟨rfl, rfl⟩ X
    change Run _ _ _ _ _ _ _ _ [(.long (pkV (6 : Int32) ca cb q1 u1 u2)), (.int (6 : Int32)), (.ref b4)]
    refine r_topJ (x' := (kf 6)) (by rw [hkf]; rfl) ?_
    refine r_lastore 243 X A_b4 (i := 6) (v := (.long (kf 6))) (by decide) (by decide) rfl gn_b4 at_242 ?_
    intro T h18 W18 X
    have A_b4 := A_b4.setJ W18
    refine r_aload 245 X at_243 rfl rfl ?_
    refine r_bipush 247 X (7 : Int32) at_245 rfl ?_
    refine r_bipush 249 X (7 : Int32) at_247 rfl ?_
    refine r_iload 251 X at_249 rfl ?_
    refine r_iload 253 X at_251 rfl ?_
    refine r_lload 255 X at_253 rfl ?_
    refine r_lload 257 X at_255 rfl ?_
    refine r_lload 259 X at_257 rfl ?_
    refine r_callS 262 X (st := [(.int (7 : Int32)), (.ref b4)]) (rmPk l Z a0 hw n0 _ X.sz (7 : Int32) ca cb q1 u1 u2) (hw _ (List.mem_of_getElem? (i := 9) rfl)) (hw _ (List.mem_of_getElem? (i := 10) rfl)) (hw _ (List.mem_of_getElem? (i := 11) rfl)) (hw _ (List.mem_of_getElem? (i := 3) rfl)) (by decide) pd_5 [(.int (7 : Int32)), (.int ca), (.int cb), (.long q1), (.long u1), (.long u2)] rfl rfl 2 (Nat.le_of_eq rfl) rfl (by decide) (by decide) (by decide) (by decide) at_259 ?_
    rintro T h19 v19 ⟨rfl, rfl⟩ X
    change Run _ _ _ _ _ _ _ _ [(.long (pkV (7 : Int32) ca cb q1 u1 u2)), (.int (7 : Int32)), (.ref b4)]
    refine r_topJ (x' := (kf 7)) (by rw [hkf]; rfl) ?_
    refine r_lastore 263 X A_b4 (i := 7) (v := (.long (kf 7))) (by decide) (by decide) rfl gn_b4 at_262 ?_
    intro T h20 W20 X
    have A_b4 := A_b4.setJ W20
    refine r_aload 265 X at_263 rfl rfl ?_
    refine r_bipush 267 X (8 : Int32) at_265 rfl ?_
    refine r_bipush 269 X (8 : Int32) at_267 rfl ?_
    refine r_iload 271 X at_269 rfl ?_
    refine r_iload 273 X at_271 rfl ?_
    refine r_lload 275 X at_273 rfl ?_
    refine r_lload 277 X at_275 rfl ?_
    refine r_lload 279 X at_277 rfl ?_
    refine r_callS 282 X (st := [(.int (8 : Int32)), (.ref b4)]) (rmPk l Z a0 hw n0 _ X.sz (8 : Int32) ca cb q1 u1 u2) (hw _ (List.mem_of_getElem? (i := 9) rfl)) (hw _ (List.mem_of_getElem? (i := 10) rfl)) (hw _ (List.mem_of_getElem? (i := 11) rfl)) (hw _ (List.mem_of_getElem? (i := 3) rfl)) (by decide) pd_5 [(.int (8 : Int32)), (.int ca), (.int cb), (.long q1), (.long u1), (.long u2)] rfl rfl 2 (Nat.le_of_eq rfl) rfl (by decide) (by decide) (by decide) (by decide) at_279 ?_
    rintro T h21 v21 ⟨rfl, rfl⟩ X
    change Run _ _ _ _ _ _ _ _ [(.long (pkV (8 : Int32) ca cb q1 u1 u2)), (.int (8 : Int32)), (.ref b4)]
    refine r_topJ (x' := (kf 8)) (by rw [hkf]; rfl) ?_
    refine r_lastore 283 X A_b4 (i := 8) (v := (.long (kf 8))) (by decide) (by decide) rfl gn_b4 at_282 ?_
    intro T h22 W22 X
    have A_b4 := A_b4.setJ W22
    refine r_aload 285 X at_283 rfl rfl ?_
    refine r_bipush 287 X (9 : Int32) at_285 rfl ?_
    refine r_bipush 289 X (9 : Int32) at_287 rfl ?_
    refine r_iload 291 X at_289 rfl ?_
    refine r_iload 293 X at_291 rfl ?_
    refine r_lload 295 X at_293 rfl ?_
    refine r_lload 297 X at_295 rfl ?_
    refine r_lload 299 X at_297 rfl ?_
    refine r_callS 302 X (st := [(.int (9 : Int32)), (.ref b4)]) (rmPk l Z a0 hw n0 _ X.sz (9 : Int32) ca cb q1 u1 u2) (hw _ (List.mem_of_getElem? (i := 9) rfl)) (hw _ (List.mem_of_getElem? (i := 10) rfl)) (hw _ (List.mem_of_getElem? (i := 11) rfl)) (hw _ (List.mem_of_getElem? (i := 3) rfl)) (by decide) pd_5 [(.int (9 : Int32)), (.int ca), (.int cb), (.long q1), (.long u1), (.long u2)] rfl rfl 2 (Nat.le_of_eq rfl) rfl (by decide) (by decide) (by decide) (by decide) at_299 ?_
    rintro T h23 v23 ⟨rfl, rfl⟩ X
    change Run _ _ _ _ _ _ _ _ [(.long (pkV (9 : Int32) ca cb q1 u1 u2)), (.int (9 : Int32)), (.ref b4)]
    refine r_topJ (x' := (kf 9)) (by rw [hkf]; rfl) ?_
    refine r_lastore 303 X A_b4 (i := 9) (v := (.long (kf 9))) (by decide) (by decide) rfl gn_b4 at_302 ?_
    intro T h24 W24 X
    have A_b4 := A_b4.setJ W24
    refine r_aload 305 X at_303 rfl rfl ?_
    refine r_bipush 307 X (10 : Int32) at_305 rfl ?_
    refine r_bipush 309 X (10 : Int32) at_307 rfl ?_
    refine r_iload 311 X at_309 rfl ?_
    refine r_iload 313 X at_311 rfl ?_
    refine r_lload 315 X at_313 rfl ?_
    refine r_lload 317 X at_315 rfl ?_
    refine r_lload 319 X at_317 rfl ?_
    refine r_callS 322 X (st := [(.int (10 : Int32)), (.ref b4)]) (rmPk l Z a0 hw n0 _ X.sz (10 : Int32) ca cb q1 u1 u2) (hw _ (List.mem_of_getElem? (i := 9) rfl)) (hw _ (List.mem_of_getElem? (i := 10) rfl)) (hw _ (List.mem_of_getElem? (i := 11) rfl)) (hw _ (List.mem_of_getElem? (i := 3) rfl)) (by decide) pd_5 [(.int (10 : Int32)), (.int ca), (.int cb), (.long q1), (.long u1), (.long u2)] rfl rfl 2 (Nat.le_of_eq rfl) rfl (by decide) (by decide) (by decide) (by decide) at_319 ?_
    rintro T h25 v25 ⟨rfl, rfl⟩ X
    change Run _ _ _ _ _ _ _ _ [(.long (pkV (10 : Int32) ca cb q1 u1 u2)), (.int (10 : Int32)), (.ref b4)]
    refine r_topJ (x' := (kf 10)) (by rw [hkf]; rfl) ?_
    refine r_lastore 323 X A_b4 (i := 10) (v := (.long (kf 10))) (by decide) (by decide) rfl gn_b4 at_322 ?_
    intro T h26 W26 X
    have A_b4 := A_b4.setJ W26
    refine r_aload 325 X at_323 rfl rfl ?_
    refine r_bipush 327 X (11 : Int32) at_325 rfl ?_
    refine r_bipush 329 X (11 : Int32) at_327 rfl ?_
    refine r_iload 331 X at_329 rfl ?_
    refine r_iload 333 X at_331 rfl ?_
    refine r_lload 335 X at_333 rfl ?_
    refine r_lload 337 X at_335 rfl ?_
    refine r_lload 339 X at_337 rfl ?_
    refine r_callS 342 X (st := [(.int (11 : Int32)), (.ref b4)]) (rmPk l Z a0 hw n0 _ X.sz (11 : Int32) ca cb q1 u1 u2) (hw _ (List.mem_of_getElem? (i := 9) rfl)) (hw _ (List.mem_of_getElem? (i := 10) rfl)) (hw _ (List.mem_of_getElem? (i := 11) rfl)) (hw _ (List.mem_of_getElem? (i := 3) rfl)) (by decide) pd_5 [(.int (11 : Int32)), (.int ca), (.int cb), (.long q1), (.long u1), (.long u2)] rfl rfl 2 (Nat.le_of_eq rfl) rfl (by decide) (by decide) (by decide) (by decide) at_339 ?_
    rintro T h27 v27 ⟨rfl, rfl⟩ X
    change Run _ _ _ _ _ _ _ _ [(.long (pkV (11 : Int32) ca cb q1 u1 u2)), (.int (11 : Int32)), (.ref b4)]
    refine r_topJ (x' := (kf 11)) (by rw [hkf]; rfl) ?_
    refine r_lastore 343 X A_b4 (i := 11) (v := (.long (kf 11))) (by decide) (by decide) rfl gn_b4 at_342 ?_
    intro T h28 W28 X
    have A_b4 := A_b4.setJ W28
    refine r_aload 345 X at_343 rfl rfl ?_
    refine r_bipush 347 X (12 : Int32) at_345 rfl ?_
    refine r_bipush 349 X (12 : Int32) at_347 rfl ?_
    refine r_iload 351 X at_349 rfl ?_
    refine r_iload 353 X at_351 rfl ?_
    refine r_lload 355 X at_353 rfl ?_
    refine r_lload 357 X at_355 rfl ?_
    refine r_lload 359 X at_357 rfl ?_
    refine r_callS 362 X (st := [(.int (12 : Int32)), (.ref b4)]) (rmPk l Z a0 hw n0 _ X.sz (12 : Int32) ca cb q1 u1 u2) (hw _ (List.mem_of_getElem? (i := 9) rfl)) (hw _ (List.mem_of_getElem? (i := 10) rfl)) (hw _ (List.mem_of_getElem? (i := 11) rfl)) (hw _ (List.mem_of_getElem? (i := 3) rfl)) (by decide) pd_5 [(.int (12 : Int32)), (.int ca), (.int cb), (.long q1), (.long u1), (.long u2)] rfl rfl 2 (Nat.le_of_eq rfl) rfl (by decide) (by decide) (by decide) (by decide) at_359 ?_
    rintro T h29 v29 ⟨rfl, rfl⟩ X
    change Run _ _ _ _ _ _ _ _ [(.long (pkV (12 : Int32) ca cb q1 u1 u2)), (.int (12 : Int32)), (.ref b4)]
    refine r_topJ (x' := (kf 12)) (by rw [hkf]; rfl) ?_
    refine r_lastore 363 X A_b4 (i := 12) (v := (.long (kf 12))) (by decide) (by decide) rfl gn_b4 at_362 ?_
    intro T h30 W30 X
    have A_b4 := A_b4.setJ W30
    refine r_aload 365 X at_363 rfl rfl ?_
    refine r_bipush 367 X (13 : Int32) at_365 rfl ?_
    refine r_bipush 369 X (13 : Int32) at_367 rfl ?_
    refine r_iload 371 X at_369 rfl ?_
    refine r_iload 373 X at_371 rfl ?_
    refine r_lload 375 X at_373 rfl ?_
    refine r_lload 377 X at_375 rfl ?_
    refine r_lload 379 X at_377 rfl ?_
    refine r_callS 382 X (st := [(.int (13 : Int32)), (.ref b4)]) (rmPk l Z a0 hw n0 _ X.sz (13 : Int32) ca cb q1 u1 u2) (hw _ (List.mem_of_getElem? (i := 9) rfl)) (hw _ (List.mem_of_getElem? (i := 10) rfl)) (hw _ (List.mem_of_getElem? (i := 11) rfl)) (hw _ (List.mem_of_getElem? (i := 3) rfl)) (by decide) pd_5 [(.int (13 : Int32)), (.int ca), (.int cb), (.long q1), (.long u1), (.long u2)] rfl rfl 2 (Nat.le_of_eq rfl) rfl (by decide) (by decide) (by decide) (by decide) at_379 ?_
    rintro T h31 v31 ⟨rfl, rfl⟩ X
    change Run _ _ _ _ _ _ _ _ [(.long (pkV (13 : Int32) ca cb q1 u1 u2)), (.int (13 : Int32)), (.ref b4)]
    refine r_topJ (x' := (kf 13)) (by rw [hkf]; rfl) ?_
    refine r_lastore 383 X A_b4 (i := 13) (v := (.long (kf 13))) (by decide) (by decide) rfl gn_b4 at_382 ?_
    intro T h32 W32 X
    have A_b4 := A_b4.setJ W32
    refine r_aload 385 X at_383 rfl rfl ?_
    refine r_bipush 387 X (14 : Int32) at_385 rfl ?_
    refine r_bipush 389 X (14 : Int32) at_387 rfl ?_
    refine r_iload 391 X at_389 rfl ?_
    refine r_iload 393 X at_391 rfl ?_
    refine r_lload 395 X at_393 rfl ?_
    refine r_lload 397 X at_395 rfl ?_
    refine r_lload 399 X at_397 rfl ?_
    refine r_callS 402 X (st := [(.int (14 : Int32)), (.ref b4)]) (rmPk l Z a0 hw n0 _ X.sz (14 : Int32) ca cb q1 u1 u2) (hw _ (List.mem_of_getElem? (i := 9) rfl)) (hw _ (List.mem_of_getElem? (i := 10) rfl)) (hw _ (List.mem_of_getElem? (i := 11) rfl)) (hw _ (List.mem_of_getElem? (i := 3) rfl)) (by decide) pd_5 [(.int (14 : Int32)), (.int ca), (.int cb), (.long q1), (.long u1), (.long u2)] rfl rfl 2 (Nat.le_of_eq rfl) rfl (by decide) (by decide) (by decide) (by decide) at_399 ?_
    rintro T h33 v33 ⟨rfl, rfl⟩ X
    change Run _ _ _ _ _ _ _ _ [(.long (pkV (14 : Int32) ca cb q1 u1 u2)), (.int (14 : Int32)), (.ref b4)]
    refine r_topJ (x' := (kf 14)) (by rw [hkf]; rfl) ?_
    refine r_lastore 403 X A_b4 (i := 14) (v := (.long (kf 14))) (by decide) (by decide) rfl gn_b4 at_402 ?_
    intro T h34 W34 X
    have A_b4 := A_b4.setJ W34
    refine r_aload 405 X at_403 rfl rfl ?_
    refine r_bipush 407 X (15 : Int32) at_405 rfl ?_
    refine r_bipush 409 X (15 : Int32) at_407 rfl ?_
    refine r_iload 411 X at_409 rfl ?_
    refine r_iload 413 X at_411 rfl ?_
    refine r_lload 415 X at_413 rfl ?_
    refine r_lload 417 X at_415 rfl ?_
    refine r_lload 419 X at_417 rfl ?_
    refine r_callS 422 X (st := [(.int (15 : Int32)), (.ref b4)]) (rmPk l Z a0 hw n0 _ X.sz (15 : Int32) ca cb q1 u1 u2) (hw _ (List.mem_of_getElem? (i := 9) rfl)) (hw _ (List.mem_of_getElem? (i := 10) rfl)) (hw _ (List.mem_of_getElem? (i := 11) rfl)) (hw _ (List.mem_of_getElem? (i := 3) rfl)) (by decide) pd_5 [(.int (15 : Int32)), (.int ca), (.int cb), (.long q1), (.long u1), (.long u2)] rfl rfl 2 (Nat.le_of_eq rfl) rfl (by decide) (by decide) (by decide) (by decide) at_419 ?_
    rintro T h35 v35 ⟨rfl, rfl⟩ X
    change Run _ _ _ _ _ _ _ _ [(.long (pkV (15 : Int32) ca cb q1 u1 u2)), (.int (15 : Int32)), (.ref b4)]
    refine r_topJ (x' := (kf 15)) (by rw [hkf]; rfl) ?_
    refine r_lastore 423 X A_b4 (i := 15) (v := (.long (kf 15))) (by decide) (by decide) rfl gn_b4 at_422 ?_
    intro T h36 W36 X
    have A_b4 := A_b4.setJ W36
    refine r_aload 425 X at_423 rfl rfl ?_
    refine r_bipush 427 X (16 : Int32) at_425 rfl ?_
    refine r_bipush 429 X (16 : Int32) at_427 rfl ?_
    refine r_iload 431 X at_429 rfl ?_
    refine r_iload 433 X at_431 rfl ?_
    refine r_lload 435 X at_433 rfl ?_
    refine r_lload 437 X at_435 rfl ?_
    refine r_lload 439 X at_437 rfl ?_
    refine r_callS 442 X (st := [(.int (16 : Int32)), (.ref b4)]) (rmPk l Z a0 hw n0 _ X.sz (16 : Int32) ca cb q1 u1 u2) (hw _ (List.mem_of_getElem? (i := 9) rfl)) (hw _ (List.mem_of_getElem? (i := 10) rfl)) (hw _ (List.mem_of_getElem? (i := 11) rfl)) (hw _ (List.mem_of_getElem? (i := 3) rfl)) (by decide) pd_5 [(.int (16 : Int32)), (.int ca), (.int cb), (.long q1), (.long u1), (.long u2)] rfl rfl 2 (Nat.le_of_eq rfl) rfl (by decide) (by decide) (by decide) (by decide) at_439 ?_
    rintro T h37 v37 ⟨rfl, rfl⟩ X
    change Run _ _ _ _ _ _ _ _ [(.long (pkV (16 : Int32) ca cb q1 u1 u2)), (.int (16 : Int32)), (.ref b4)]
    refine r_topJ (x' := (kf 16)) (by rw [hkf]; rfl) ?_
    refine r_lastore 443 X A_b4 (i := 16) (v := (.long (kf 16))) (by decide) (by decide) rfl gn_b4 at_442 ?_
    intro T h38 W38 X
    have A_b4 := A_b4.setJ W38
    exact rmMid l Z a0 hw n0 p e s m below meth c q1 p2 q2 p3 u1 u2 p5 p6 ni ca cb b4 ka kb n k1 k2 hca hcb hkab hkb hni hn kf hkf _ _ (A_b4.congr (fun j hj => match j, hj with | 0, _ => rfl | 1, _ => rfl | 2, _ => rfl | 3, _ => rfl | 4, _ => rfl | 5, _ => rfl | 6, _ => rfl | 7, _ => rfl | 8, _ => rfl | 9, _ => rfl | 10, _ => rfl | 11, _ => rfl | 12, _ => rfl | 13, _ => rfl | 14, _ => rfl | 15, _ => rfl | 16, _ => rfl | _ + 17, hj => absurd hj (by omega))) X
  refine r_iload 11 X at_9 rfl ?_
  by_cases h11_79 : ((p6 &&& (2147483647 : Int32)) % (5 : Int32)) = (0 : Int32)
  · refine r_ifN 14 X at_11 ((if0 _ _).trans (teq h11_79).2) ?_
    refine r_iconst 15 X (0 : Int32) at_14 rfl ?_
    refine r_goto 52 X at_15 ?_
    exact J52 _ _ 0 rfl (by decide) X
  · refine r_ifY 18 X at_11 ((if0 _ _).trans (feq h11_79).2) ?_
    refine r_iload 20 X at_18 rfl ?_
    refine r_iconst 21 X (1 : Int32) at_20 rfl ?_
    by_cases h21_80 : ((p6 &&& (2147483647 : Int32)) % (5 : Int32)) = (1 : Int32)
    · refine r_icmpN 24 X at_21 (teq h21_80).2 ?_
      refine r_iconst 25 X (3 : Int32) at_24 rfl ?_
      refine r_goto 52 X at_25 ?_
      exact J52 _ _ 3 rfl (by decide) X
    · refine r_icmpY 28 X at_21 (feq h21_80).2 ?_
      refine r_iload 30 X at_28 rfl ?_
      refine r_iconst 31 X (2 : Int32) at_30 rfl ?_
      by_cases h31_81 : ((p6 &&& (2147483647 : Int32)) % (5 : Int32)) = (2 : Int32)
      · refine r_icmpN 34 X at_31 (teq h31_81).2 ?_
        refine r_bipush 36 X (8 : Int32) at_34 rfl ?_
        refine r_goto 52 X at_36 ?_
        exact J52 _ _ 8 rfl (by decide) X
      · refine r_icmpY 39 X at_31 (feq h31_81).2 ?_
        refine r_iload 41 X at_39 rfl ?_
        refine r_iconst 42 X (3 : Int32) at_41 rfl ?_
        by_cases h42_82 : ((p6 &&& (2147483647 : Int32)) % (5 : Int32)) = (3 : Int32)
        · refine r_icmpN 45 X at_42 (teq h42_82).2 ?_
          refine r_bipush 47 X (9 : Int32) at_45 rfl ?_
          refine r_goto 52 X at_47 ?_
          exact J52 _ _ 9 rfl (by decide) X
        · refine r_icmpY 50 X at_42 (feq h42_82).2 ?_
          refine r_bipush 52 X (17 : Int32) at_50 rfl ?_
          exact J52 _ _ 17 rfl (by decide) X
set_option maxRecDepth 65536 in
set_option maxHeartbeats 40000000 in
theorem comes_1 {Post : Tables → Env → Array Value → State → Outcome → State → Prop} (hpost : ∀ tb e args s v u, (limb_1_1.after args s (.returned v) u = true ∧ limb_1_2.after args s (.returned v) u = true ∧ True) → FrameEnd s (.returned v) u (Jvm.fieldLocs frame_1_writes args s ++ Jvm.arrayLocs frame_1_arrays args s ++ Jvm.staticLocs frame_1_statics s) 24 192 → Post tb e args s (.returned v) u) :
    ArmFor flags0 classFile x code maxLocals ret World_1 tables_1 room_1 Calls_1 rest_1 Pre_1 Post := by
  intro l hfl _ _ p e ha hc hk s m args below hf hA hF happ hP
  obtain ⟨hcalls, hrest, hpre⟩ := hP
  obtain ⟨-, -, -, hnamed, -, -, -, hat⟩ := (Spec.applies_iff hf).mp happ
  obtain ⟨hg, hn⟩ := and_e (Cond.before_iff.mp (show (Jvm.Cond.and given_1 narrow_1).before args s = true from hpre))
  obtain ⟨g1, g2⟩ := and_e hg
  obtain ⟨g3, g4⟩ := and_e g2
  obtain ⟨g5, g6⟩ := and_e g4
  obtain ⟨g7, g8⟩ := and_e g6
  obtain ⟨g9, g10⟩ := and_e g8
  obtain ⟨g11, g12⟩ := and_e g10
  obtain ⟨w0, w1, w2, w3, w4, w5, rfl⟩ : ∃ w0 w1 w2 w3 w4 w5 : Value, args = #[w0, w1, w2, w3, w4, w5] := by
    have hs : args.size = 6 := by simpa [Cond.value, given_1] using g1
    obtain ⟨L⟩ := args
    match L, hs with
    | [w0, w1, w2, w3, w4, w5], _ => exact ⟨w0, w1, w2, w3, w4, w5, rfl⟩
  have hw := fun d (hd : d ∈ tables_1) => atoms_spec (ws := Jvm.Cond.code x code maxLocals ret :: tables_1) hat d (List.mem_cons_of_mem _ hd)
  have hfit : Fit s := fun {y c} hc i hi => by
    obtain ⟨ha, rfl⟩ := Array.getElem?_eq_some_iff.mp hc
    have q := List.all_eq_true.mp ((Array.all_eq_true_iff_forall_mem.mp hF) _ (Array.getElem_mem ha)) i (List.mem_range.mpr hi)
    simpa [Array.getElem?_eq_getElem hi] using q
  obtain ⟨i0, ei0⟩ := isL_v g3
  obtain rfl : w0 = (.long i0) := Option.some.inj ei0
  obtain ⟨i1, ei1⟩ := isL_v g5
  obtain rfl : w1 = (.long i1) := Option.some.inj ei1
  obtain ⟨i2, ei2⟩ := isL_v g7
  obtain rfl : w2 = (.long i2) := Option.some.inj ei2
  obtain ⟨i3, ei3⟩ := isL_v g9
  obtain rfl : w3 = (.long i3) := Option.some.inj ei3
  obtain ⟨i4, ei4⟩ := is_v g11
  obtain rfl : w4 = (.int i4) := Option.some.inj ei4
  obtain ⟨i5, ei5⟩ := is_v g12
  obtain rfl : w5 = (.int i5) := Option.some.inj ei5
  obtain ⟨n, o, h1, h2, h3, _, L, rfl, ⟨rfl, N, -⟩, hq⟩ := rm0 l s _ hw s.heap.size s.heap (Nat.le_refl _) i0 i1 i2 i3 i4 i5  p e ha hc hk s m _ below hf ((Spec.applies_iff_loose hf).mp happ).1 ⟨rfl, State.Warmed39.refl s, rfl⟩ trivial
  refine ⟨n, _, h1, h2, h3, hpost _ _ _ _ _ _ ⟨Cond.after_iff.mpr rfl, Cond.after_iff.mpr (eq_i res_at (Term.int_eval (1)) rfl), trivial⟩ ⟨hq.1, hq.2.1, (hq.2.2.sift fun y hy => Or.inr (N y hy)).mono (by decide) (by decide)⟩⟩
theorem main_1_1 : Claimed_1_1 := comes_1 fun _ _ _ _ _ _ h hF => ⟨h.1, hF⟩
theorem main_1_2 : Claimed_1_2 := comes_1 fun _ _ _ _ _ _ h hF => ⟨h.2.1, hF⟩
end Jvm.Pilot.@@N@@
namespace Jvm.Pilot.@@N@@
open Jvm Jvm.ClassFile Sem Op Lib Jvm.Free Jvm.Stand Jvm.Pilot.@@N@@.Jvm.D
/-! MADE BY PROGRAM (witnessworld.py) out of the Statement's table words and the real class files: 13 classes; the members and pool entries that the words name. The judged class is class 1, her method 4. -/
namespace start1
open Jvm.ClassFile
def u (s : String) : CpInfo := .utf8 (stringToUtf16 s)
/-- a pool by its gaps: so many unusable entries, then the entry; so many at the end -/
def gap : Nat → List CpInfo → List CpInfo
  | 0, r => r
  | n + 1, r => .unusable :: gap n r
def poolList (es : List (Nat × CpInfo)) (last : Nat) : List CpInfo := es.foldr (fun e r => gap e.1 (e.2 :: r)) (gap last [])
def pool (es : List (Nat × CpInfo)) (last : Nat) : Array CpInfo := ⟨poolList es last⟩
def fileOf (pool : Array CpInfo) (this : Nat) (attrs : Array Attribute := #[]) (ms : Array MethodInfo := #[]) (fl : Nat := 33) (sup : Nat := 0) (ifs : Array Nat := #[]) (fds : Array FieldInfo := #[]) : ClassFile where
  minorVersion := 0
  majorVersion := 65
  constantPool := pool
  accessFlags := fl
  thisClass := this
  superClass := sup
  interfaces := ifs
  fields := fds
  methods := ms
  attributes := attrs
def plain (name : String) (sup : Option ClassId) : Class where
  name := name
  kind := .ordinary
  loader := none
  accessFlags := 33
  super := sup
  interfaces := #[]
  cf := none
  fields := #[]
  methods := #[]
  instanceTypes := #[]
  staticTypes := #[]
  resolved := #[]
  callSites := []
  init := .initialized
  statics := none
  mirror := none

def pool0 : Array CpInfo := pool [(5, u "<init>"), (0, u "()V"), (1, .class_ 10), (1, u "java/lang/Object")] 113

def k0c0 : Code := { maxStack := 0, maxLocals := 1, code := object_method_1_code, exceptionTable := #[], attributes := #[] }
def k0m0 : Method := { name := "<init>", desc := "()V", sig := { parameters := [], returnType := none }, accessFlags := 1, code := some k0c0 }
/-- java/lang/Object -/
def k0 : Class := { plain "java/lang/Object" none with
  accessFlags := 33
  interfaces := #[]
  cf := some (fileOf pool0 8 #[] #[{ accessFlags := 1, nameIndex := 5, descriptorIndex := 6, attributes := #[] }] 33 0 #[] #[])
  fields := #[]
  methods := #[k0m0]
  instanceTypes := #[]
  staticTypes := #[]
  resolved := Array.replicate 124 none
  statics := none }

def pool1 : Array CpInfo := pool [(2, .class_ 4), (1, u "java/lang/Object"), (0, u "<init>"), (0, u "()V"), (0, .methodref 8 9), (0, .class_ 10), (0, .nameAndType 11 12), (0, u "com/example/skiprail/skiprail/index/GroupedKeysBelowPinLaw"), (0, u "ult"), (0, u "(JJ)Z"), (0, .integer 2147483647), (0, .methodref 8 15), (0, .nameAndType 16 17), (0, u "maxu"), (0, u "(JJ)J"), (0, .methodref 8 19), (0, .nameAndType 20 21), (0, u "pick"), (0, u "(IIIJJJ)J"), (0, .class_ 23), (0, u "com/example/skiprail/skiprail/index/GroupedKeys"), (0, .methodref 22 25), (0, .nameAndType 5 26), (0, u "([J)V"), (0, .methodref 22 28), (0, .nameAndType 29 30), (0, u "below"), (0, u "(J)I"), (3, u "law"), (0, u "(JJJJII)Z")] 4

def k1m0 : Method := { name := "<init>", desc := "()V", sig := { parameters := [], returnType := none }, accessFlags := 1, code := none }
def k1c1 : Code := { maxStack := 5, maxLocals := 4, code := method_2_code, exceptionTable := #[], attributes := #[] }
def k1m1 : Method := { name := "ult", desc := "(JJ)Z", sig := { parameters := [.long, .long], returnType := some .boolean }, accessFlags := 10, code := some k1c1 }
def k1c2 : Code := { maxStack := 4, maxLocals := 4, code := method_3_code, exceptionTable := #[], attributes := #[] }
def k1m2 : Method := { name := "maxu", desc := "(JJ)J", sig := { parameters := [.long, .long], returnType := some .long }, accessFlags := 10, code := some k1c2 }
def k1c3 : Code := { maxStack := 2, maxLocals := 9, code := method_4_code, exceptionTable := #[], attributes := #[] }
def k1m3 : Method := { name := "pick", desc := "(IIIJJJ)J", sig := { parameters := [.int, .int, .int, .long, .long, .long], returnType := some .long }, accessFlags := 10, code := some k1c3 }
def k1c4 : Code := { maxStack := 11, maxLocals := 24, code := code, exceptionTable := #[], attributes := #[] }
def k1m4 : Method := { name := "law", desc := "(JJJJII)Z", sig := { parameters := [.long, .long, .long, .long, .int, .int], returnType := some .boolean }, accessFlags := 9, code := some k1c4 }
/-- com/example/skiprail/skiprail/index/GroupedKeysBelowPinLaw -/
def k1 : Class := { plain "com/example/skiprail/skiprail/index/GroupedKeysBelowPinLaw" (some 0) with
  accessFlags := 49
  interfaces := #[]
  cf := some (fileOf pool1 8 #[] #[{ accessFlags := 1, nameIndex := 5, descriptorIndex := 6, attributes := #[] }, { accessFlags := 10, nameIndex := 11, descriptorIndex := 12, attributes := #[] }, { accessFlags := 10, nameIndex := 16, descriptorIndex := 17, attributes := #[] }, { accessFlags := 10, nameIndex := 20, descriptorIndex := 21, attributes := #[] }, { accessFlags := 9, nameIndex := 34, descriptorIndex := 35, attributes := #[] }] 49 2 #[] #[])
  fields := #[]
  methods := #[k1m0, k1m1, k1m2, k1m3, k1m4]
  instanceTypes := #[]
  staticTypes := #[]
  resolved := Array.replicate 40 none
  statics := none }

def pool2 : Array CpInfo := pool [(1, .methodref 2 3), (0, .class_ 4), (0, .nameAndType 5 6), (0, u "java/lang/Object"), (0, u "<init>"), (0, u "()V"), (0, .fieldref 8 9), (0, .class_ 10), (0, .nameAndType 11 12), (0, u "com/example/skiprail/skiprail/index/GroupedKeys"), (0, u "size"), (0, u "I"), (0, .long 8), (1, .class_ 16), (0, u "[J"), (0, .fieldref 8 18), (0, .nameAndType 19 20), (0, u "levels"), (0, u "[[J"), (0, .methodref 8 22), (0, .nameAndType 23 24), (0, u "groups"), (0, u "(I)I"), (2, .long 9223372036854775807), (1, .methodref 30 31), (0, .class_ 32), (0, .nameAndType 33 34), (0, u "java/util/Arrays"), (0, u "fill"), (0, u "([JJ)V"), (0, .long 9223372036854775808), (1, .methodref 38 39), (0, .class_ 40), (0, .nameAndType 41 42), (0, u "java/lang/Math"), (0, u "max"), (0, u "(II)I"), (0, u "GROUP"), (2, u "([J)V"), (6, u "below"), (0, u "(J)I")] 2

def k2c0 : Code := { maxStack := 6, maxLocals := 8, code := prog_24_method_1_code, exceptionTable := #[], attributes := #[] }
def k2m0 : Method := { name := "<init>", desc := "([J)V", sig := { parameters := [(.array .long)], returnType := none }, accessFlags := 0, code := some k2c0 }
def k2c1 : Code := { maxStack := 3, maxLocals := 1, code := prog_24_method_2_code, exceptionTable := #[], attributes := #[] }
def k2m1 : Method := { name := "groups", desc := "(I)I", sig := { parameters := [.int], returnType := some .int }, accessFlags := 10, code := some k2c1 }
def k2c2 : Code := { maxStack := 5, maxLocals := 11, code := prog_24_method_5_code, exceptionTable := #[], attributes := #[] }
def k2m2 : Method := { name := "below", desc := "(J)I", sig := { parameters := [.long], returnType := some .int }, accessFlags := 0, code := some k2c2 }
/-- com/example/skiprail/skiprail/index/GroupedKeys -/
def k2 : Class := { plain "com/example/skiprail/skiprail/index/GroupedKeys" (some 0) with
  accessFlags := 48
  interfaces := #[]
  cf := some (fileOf pool2 8 #[] #[{ accessFlags := 0, nameIndex := 5, descriptorIndex := 46, attributes := #[] }, { accessFlags := 10, nameIndex := 23, descriptorIndex := 24, attributes := #[] }, { accessFlags := 0, nameIndex := 53, descriptorIndex := 54, attributes := #[] }] 48 2 #[] #[{ accessFlags := 26, nameIndex := 43, descriptorIndex := 12, attributes := #[] }, { accessFlags := 18, nameIndex := 19, descriptorIndex := 20, attributes := #[] }, { accessFlags := 18, nameIndex := 11, descriptorIndex := 12, attributes := #[] }])
  fields := #[{ name := "GROUP", type := .int, accessFlags := 26, slot := 0, constantValue := 0 }, { name := "levels", type := (.array (.array .long)), accessFlags := 18, slot := 0, constantValue := 0 }, { name := "size", type := .int, accessFlags := 18, slot := 1, constantValue := 0 }]
  methods := #[k2m0, k2m1, k2m2]
  instanceTypes := #[(.array (.array .long)), .int]
  staticTypes := #[.int]
  resolved := Array.replicate 57 none
  statics := none }

def pool3 : Array CpInfo := pool [(1, .class_ 2), (0, u "java/lang/Math"), (1, .class_ 6), (1, u "java/lang/Object"), (0, u "<init>"), (0, u "()V"), (89, .class_ 100), (1, u "java/lang/Math$RandomNumberGeneratorHolder"), (71, u "negativeZeroFloatBits"), (0, u "J"), (2, u "negativeZeroDoubleBits"), (21, u "max"), (46, u "$assertionsDisabled"), (0, u "Z"), (88, u "(II)I"), (2, u "twoToTheDoubleScaleDown"), (0, u "D"), (4, u "twoToTheDoubleScaleUp"), (9, u "E"), (3, u "PI"), (2, u "TAU"), (2, u "DEGREES_TO_RADIANS"), (0, u "RADIANS_TO_DEGREES")] 94

def k3m0 : Method := { name := "<init>", desc := "()V", sig := { parameters := [], returnType := none }, accessFlags := 2, code := none }
def k3c1 : Code := { maxStack := 2, maxLocals := 2, code := jdk_29_method_65_code, exceptionTable := #[], attributes := #[] }
def k3m1 : Method := { name := "max", desc := "(II)I", sig := { parameters := [.int, .int], returnType := some .int }, accessFlags := 9, code := some k3c1 }
/-- java/lang/Math -/
def k3 : Class := { plain "java/lang/Math" (some 0) with
  accessFlags := 49
  interfaces := #[]
  cf := some (fileOf pool3 1 #[.nestMembers #[98]] #[{ accessFlags := 2, nameIndex := 7, descriptorIndex := 8, attributes := #[] }, { accessFlags := 9, nameIndex := 198, descriptorIndex := 335, attributes := #[] }] 49 4 #[] #[{ accessFlags := 25, nameIndex := 354, descriptorIndex := 339, attributes := #[] }, { accessFlags := 25, nameIndex := 358, descriptorIndex := 339, attributes := #[] }, { accessFlags := 25, nameIndex := 361, descriptorIndex := 339, attributes := #[] }, { accessFlags := 26, nameIndex := 364, descriptorIndex := 339, attributes := #[] }, { accessFlags := 26, nameIndex := 365, descriptorIndex := 339, attributes := #[] }, { accessFlags := 26, nameIndex := 172, descriptorIndex := 173, attributes := #[] }, { accessFlags := 26, nameIndex := 176, descriptorIndex := 173, attributes := #[] }, { accessFlags := 8, nameIndex := 344, descriptorIndex := 339, attributes := #[] }, { accessFlags := 8, nameIndex := 338, descriptorIndex := 339, attributes := #[] }, { accessFlags := 4120, nameIndex := 245, descriptorIndex := 246, attributes := #[] }])
  fields := #[{ name := "E", type := .double, accessFlags := 25, slot := 0, constantValue := 0 }, { name := "PI", type := .double, accessFlags := 25, slot := 1, constantValue := 0 }, { name := "TAU", type := .double, accessFlags := 25, slot := 2, constantValue := 0 }, { name := "DEGREES_TO_RADIANS", type := .double, accessFlags := 26, slot := 3, constantValue := 0 }, { name := "RADIANS_TO_DEGREES", type := .double, accessFlags := 26, slot := 4, constantValue := 0 }, { name := "negativeZeroFloatBits", type := .long, accessFlags := 26, slot := 5, constantValue := 0 }, { name := "negativeZeroDoubleBits", type := .long, accessFlags := 26, slot := 6, constantValue := 0 }, { name := "twoToTheDoubleScaleUp", type := .double, accessFlags := 8, slot := 7, constantValue := 0 }, { name := "twoToTheDoubleScaleDown", type := .double, accessFlags := 8, slot := 8, constantValue := 0 }, { name := "$assertionsDisabled", type := .boolean, accessFlags := 4120, slot := 9, constantValue := 0 }]
  methods := #[k3m0, k3m1]
  instanceTypes := #[]
  staticTypes := #[.double, .double, .double, .double, .double, .long, .long, .double, .double, .boolean]
  resolved := Array.replicate 460 none
  statics := none }

def pool4 : Array CpInfo := pool [(2, .class_ 4), (1, u "java/lang/Object"), (0, u "<init>"), (0, u "()V"), (7, .class_ 16), (1, u "java/util/Arrays"), (57, .class_ 76), (1, u "java/util/Arrays$NaturalOrder"), (36, .class_ 115), (1, u "java/util/Arrays$LegacyMergeSort"), (1, u "Z"), (257, .class_ 376), (0, u "java/util/Arrays$ArrayList"), (68, u "$assertionsDisabled"), (269, u "MIN_ARRAY_SORT_GRAN"), (0, u "I"), (2, u "INSERTIONSORT_THRESHOLD"), (120, u "fill"), (0, u "([JJ)V"), (133, .class_ 976), (0, u "java/util/Arrays$ArrayItr")] 52

def k4m0 : Method := { name := "<init>", desc := "()V", sig := { parameters := [], returnType := none }, accessFlags := 2, code := none }
def k4c1 : Code := { maxStack := 4, maxLocals := 5, code := jdk_65_method_101_code, exceptionTable := #[], attributes := #[] }
def k4m1 : Method := { name := "fill", desc := "([JJ)V", sig := { parameters := [(.array .long), .long], returnType := none }, accessFlags := 9, code := some k4c1 }
/-- java/util/Arrays -/
def k4 : Class := { plain "java/util/Arrays" (some 0) with
  accessFlags := 49
  interfaces := #[]
  cf := some (fileOf pool4 14 #[.nestMembers #[975, 375, 113, 74]] #[{ accessFlags := 2, nameIndex := 5, descriptorIndex := 6, attributes := #[] }, { accessFlags := 9, nameIndex := 840, descriptorIndex := 841, attributes := #[] }] 49 2 #[] #[{ accessFlags := 26, nameIndex := 715, descriptorIndex := 716, attributes := #[] }, { accessFlags := 26, nameIndex := 719, descriptorIndex := 716, attributes := #[] }, { accessFlags := 4120, nameIndex := 445, descriptorIndex := 117, attributes := #[] }])
  fields := #[{ name := "MIN_ARRAY_SORT_GRAN", type := .int, accessFlags := 26, slot := 0, constantValue := 0 }, { name := "INSERTIONSORT_THRESHOLD", type := .int, accessFlags := 26, slot := 1, constantValue := 0 }, { name := "$assertionsDisabled", type := .boolean, accessFlags := 4120, slot := 2, constantValue := 0 }]
  methods := #[k4m0, k4m1]
  instanceTypes := #[]
  staticTypes := #[.int, .int, .boolean]
  resolved := Array.replicate 1029 none
  statics := none }

def pool5 : Array CpInfo := pool [(1, u "java/lang/Cloneable"), (0, .class_ 1), (0, u "java/lang/Object"), (0, .class_ 3)] 3

/-- java/lang/Cloneable -/
def k5 : Class := { plain "java/lang/Cloneable" (some 0) with
  accessFlags := 1537
  interfaces := #[]
  cf := some (fileOf pool5 2 #[] #[] 1537 4 #[] #[])
  fields := #[]
  methods := #[]
  instanceTypes := #[]
  staticTypes := #[]
  resolved := Array.replicate 8 none
  statics := none }

def pool6 : Array CpInfo := pool [(1, u "java/io/Serializable"), (0, .class_ 1), (0, u "java/lang/Object"), (0, .class_ 3)] 3

/-- java/io/Serializable -/
def k6 : Class := { plain "java/io/Serializable" (some 0) with
  accessFlags := 1537
  interfaces := #[]
  cf := some (fileOf pool6 2 #[] #[] 1537 4 #[] #[])
  fields := #[]
  methods := #[]
  instanceTypes := #[]
  staticTypes := #[]
  resolved := Array.replicate 8 none
  statics := none }

/-- the primitive byte -/
def k7 : Class := { plain "byte" none with kind := .primitive 'B', accessFlags := 0x411 }
/-- [B -/
def k8 : Class := { plain "[B" (some 0) with kind := .array 7 .byte, interfaces := #[5, 6], accessFlags := 1041 }

/-- the primitive int -/
def k9 : Class := { plain "int" none with kind := .primitive 'I', accessFlags := 0x411 }
/-- [I -/
def k10 : Class := { plain "[I" (some 0) with kind := .array 9 .int, interfaces := #[5, 6], accessFlags := 1041 }

/-- the primitive long -/
def k11 : Class := { plain "long" none with kind := .primitive 'J', accessFlags := 0x411 }
/-- [J -/
def k12 : Class := { plain "[J" (some 0) with kind := .array 11 .long, interfaces := #[5, 6], accessFlags := 1041 }

/-- [[J -/
def k13 : Class := { plain "[[J" (some 0) with kind := .array 12 (.array .long), interfaces := #[5, 6], accessFlags := 1041 }

def heap : Heap := #[]
def classes : Array Class := #[k0, k1, k2, k3, k4, k5, k6, k7, k8, k9, k10, k11, k12, k13]
def interned : List (Array UInt16 × Addr) := []
def slotsUsed : Nat := 0
def theMethod : MethodId := ⟨1, 4⟩
def args0 : Array Value := #[.long 1, .long 2, .long 3, .long 4, .int 5, .int 6]
def aboutOver (below : List Frame) : State where
  vm := { classes := classes, interned := interned.toArray }
  heap := heap
  slotsUsed := slotsUsed
  threads := #[{ frames := .invoking theMethod args0 :: below }]
def below0 : List Frame := [.native { method := ⟨0, 0⟩, args := #[] }]
def about1 : State := aboutOver below0
def p0 : Program := .bare "" "" ""
def e0 : Env := launch0.env 0 0 0
theorem w_frames : about1.frames = Frame.invoking theMethod args0 :: below0 := rfl
set_option maxRecDepth 65536 in
theorem w_args : argsFit about1.vm theMethod args0 = true := by decide +kernel
set_option maxRecDepth 65536 in
theorem w_heap : heapFits about1 = true := by decide +kernel
set_option maxRecDepth 65536 in
theorem w_runnable : about1.curStatus? = some .runnable := by decide +kernel
set_option maxRecDepth 65536 in
theorem w_alone : about1.alone = true := by decide +kernel
set_option maxRecDepth 65536 in
theorem w_named : about1.methodNamed? x = some theMethod := by decide +kernel
set_option maxRecDepth 65536 in
theorem w_hears : about1.hears theMethod below0 = true := by decide +kernel
set_option maxRecDepth 65536 in
theorem w_ripe : about1.ripe theMethod args0 below0 = true := by decide +kernel
theorem w_running : about1.status = .running := rfl
set_option maxRecDepth 65536 in
theorem w_room : about1.hasRoom e0.platform room_1 = true :=
  launch0.hasRoom_least _ room_1 (by decide +kernel) (by decide +kernel) (by decide +kernel) (by decide +kernel) (by decide +kernel) (by decide +kernel)
theorem allAtoms_all (ts : List Jvm.Cond) (a : Array Jvm.Value) (st : Jvm.State) : (allAtoms ts).before a st = ts.all (fun c => c.before a st) := by
  induction ts with
  | nil => rfl
  | cons c t ih =>
    show (Jvm.Cond.and c (allAtoms t)).before a st = _
    rw [Jvm.Cond.before_and, ih, List.all_cons]
def words1 : List Jvm.Cond := Jvm.Cond.code x code maxLocals ret :: tables_1
/-- a 'code' word, met by the world's own term for the bytes: nothing is compared byte by byte -/
theorem code_word {y : MethodName} {bytes : ByteArray} {mx : Nat} {rt : Option FieldType} {a : Array Value} {s : State} {m : MethodId} {meth : Method} {c : Code} (h1 : s.methodNamed? y = some m) (h2 : s.vm.method? m = some meth) (h3 : meth.code = some c) (h4 : c.code = bytes)
    (h5 : (c.maxLocals == mx && c.exceptionTable.isEmpty && decide (c.maxStack ≤ mostOperands) && decide (meth.sig.returnType = rt) && !meth.locks && decide (parseMethodDescriptor y.desc = some meth.sig)) = true) : (Jvm.Cond.code y bytes mx rt).before a s = true := by
  simp only [Bool.and_eq_true, beq_iff_eq, Bool.not_eq_true', decide_eq_true_eq] at h5
  obtain ⟨⟨⟨⟨⟨g1, g2⟩, g3⟩, g4⟩, g5⟩, g6⟩ := h5
  simp [Cond.before, Cond.holds, Cond.value, h1, h2, h3, h4, g1, g2, g3, g4, g5, g6]
def isCode : Jvm.Cond → Bool
  | .code _ _ _ _ => true
  | _ => false
theorem all_split {L : List Jvm.Cond} {P : Jvm.Cond → Bool} (h1 : L.all (fun c => isCode c || P c) = true) (h2 : ∀ c ∈ L.filter isCode, P c = true) : L.all P = true := by
  refine List.all_eq_true.mpr fun c hc => ?_
  have h := List.all_eq_true.mp h1 c hc
  rcases Bool.eq_false_or_eq_true (isCode c) with hi | hi
  · exact h2 c (List.mem_filter.mpr ⟨hc, hi⟩)
  · simpa [hi] using h
set_option maxRecDepth 65536 in
theorem w_c0 : (Jvm.Cond.code x code maxLocals ret).before args0 about1 = true := code_word (m := ⟨1, 4⟩) (meth := k1m4) (c := k1c4) (by decide +kernel) rfl rfl rfl (by decide +kernel)
set_option maxRecDepth 65536 in
theorem w_c1 : (Jvm.Cond.code ({ cls := "com/example/skiprail/skiprail/index/GroupedKeysBelowPinLaw", name := "maxu", desc := "(JJ)J" } : Jvm.MethodName) method_3_code (4 : Nat) (Option.some Jvm.ClassFile.FieldType.long)).before args0 about1 = true := code_word (m := ⟨1, 2⟩) (meth := k1m2) (c := k1c2) (by decide +kernel) rfl rfl rfl (by decide +kernel)
set_option maxRecDepth 65536 in
theorem w_c2 : (Jvm.Cond.code ({ cls := "com/example/skiprail/skiprail/index/GroupedKeysBelowPinLaw", name := "ult", desc := "(JJ)Z" } : Jvm.MethodName) method_2_code (4 : Nat) (Option.some Jvm.ClassFile.FieldType.boolean)).before args0 about1 = true := code_word (m := ⟨1, 1⟩) (meth := k1m1) (c := k1c1) (by decide +kernel) rfl rfl rfl (by decide +kernel)
set_option maxRecDepth 65536 in
theorem w_c3 : (Jvm.Cond.code ({ cls := "com/example/skiprail/skiprail/index/GroupedKeysBelowPinLaw", name := "pick", desc := "(IIIJJJ)J" } : Jvm.MethodName) method_4_code (9 : Nat) (Option.some Jvm.ClassFile.FieldType.long)).before args0 about1 = true := code_word (m := ⟨1, 3⟩) (meth := k1m3) (c := k1c3) (by decide +kernel) rfl rfl rfl (by decide +kernel)
set_option maxRecDepth 65536 in
theorem w_c4 : (Jvm.Cond.code ({ cls := "com/example/skiprail/skiprail/index/GroupedKeys", name := "<init>", desc := "([J)V" } : Jvm.MethodName) prog_24_method_1_code (8 : Nat) (Option.none : Option Jvm.ClassFile.FieldType)).before args0 about1 = true := code_word (m := ⟨2, 0⟩) (meth := k2m0) (c := k2c0) (by decide +kernel) rfl rfl rfl (by decide +kernel)
set_option maxRecDepth 65536 in
theorem w_c5 : (Jvm.Cond.code ({ cls := "java/lang/Object", name := "<init>", desc := "()V" } : Jvm.MethodName) object_method_1_code (1 : Nat) (Option.none : Option Jvm.ClassFile.FieldType)).before args0 about1 = true := code_word (m := ⟨0, 0⟩) (meth := k0m0) (c := k0c0) (by decide +kernel) rfl rfl rfl (by decide +kernel)
set_option maxRecDepth 65536 in
theorem w_c6 : (Jvm.Cond.code ({ cls := "com/example/skiprail/skiprail/index/GroupedKeys", name := "groups", desc := "(I)I" } : Jvm.MethodName) prog_24_method_2_code (1 : Nat) (Option.some Jvm.ClassFile.FieldType.int)).before args0 about1 = true := code_word (m := ⟨2, 1⟩) (meth := k2m1) (c := k2c1) (by decide +kernel) rfl rfl rfl (by decide +kernel)
set_option maxRecDepth 65536 in
theorem w_c7 : (Jvm.Cond.code ({ cls := "java/lang/Math", name := "max", desc := "(II)I" } : Jvm.MethodName) jdk_29_method_65_code (2 : Nat) (Option.some Jvm.ClassFile.FieldType.int)).before args0 about1 = true := code_word (m := ⟨3, 1⟩) (meth := k3m1) (c := k3c1) (by decide +kernel) rfl rfl rfl (by decide +kernel)
set_option maxRecDepth 65536 in
theorem w_c8 : (Jvm.Cond.code ({ cls := "java/util/Arrays", name := "fill", desc := "([JJ)V" } : Jvm.MethodName) jdk_65_method_101_code (5 : Nat) (Option.none : Option Jvm.ClassFile.FieldType)).before args0 about1 = true := code_word (m := ⟨4, 1⟩) (meth := k4m1) (c := k4c1) (by decide +kernel) rfl rfl rfl (by decide +kernel)
set_option maxRecDepth 65536 in
theorem w_c9 : (Jvm.Cond.code ({ cls := "com/example/skiprail/skiprail/index/GroupedKeys", name := "below", desc := "(J)I" } : Jvm.MethodName) prog_24_method_5_code (11 : Nat) (Option.some Jvm.ClassFile.FieldType.int)).before args0 about1 = true := code_word (m := ⟨2, 2⟩) (meth := k2m2) (c := k2c2) (by decide +kernel) rfl rfl rfl (by decide +kernel)
def codes1 : List Jvm.Cond := [Jvm.Cond.code x code maxLocals ret, Jvm.Cond.code ({ cls := "com/example/skiprail/skiprail/index/GroupedKeysBelowPinLaw", name := "maxu", desc := "(JJ)J" } : Jvm.MethodName) method_3_code (4 : Nat) (Option.some Jvm.ClassFile.FieldType.long), Jvm.Cond.code ({ cls := "com/example/skiprail/skiprail/index/GroupedKeysBelowPinLaw", name := "ult", desc := "(JJ)Z" } : Jvm.MethodName) method_2_code (4 : Nat) (Option.some Jvm.ClassFile.FieldType.boolean), Jvm.Cond.code ({ cls := "com/example/skiprail/skiprail/index/GroupedKeysBelowPinLaw", name := "pick", desc := "(IIIJJJ)J" } : Jvm.MethodName) method_4_code (9 : Nat) (Option.some Jvm.ClassFile.FieldType.long), Jvm.Cond.code ({ cls := "com/example/skiprail/skiprail/index/GroupedKeys", name := "<init>", desc := "([J)V" } : Jvm.MethodName) prog_24_method_1_code (8 : Nat) (Option.none : Option Jvm.ClassFile.FieldType), Jvm.Cond.code ({ cls := "java/lang/Object", name := "<init>", desc := "()V" } : Jvm.MethodName) object_method_1_code (1 : Nat) (Option.none : Option Jvm.ClassFile.FieldType), Jvm.Cond.code ({ cls := "com/example/skiprail/skiprail/index/GroupedKeys", name := "groups", desc := "(I)I" } : Jvm.MethodName) prog_24_method_2_code (1 : Nat) (Option.some Jvm.ClassFile.FieldType.int), Jvm.Cond.code ({ cls := "java/lang/Math", name := "max", desc := "(II)I" } : Jvm.MethodName) jdk_29_method_65_code (2 : Nat) (Option.some Jvm.ClassFile.FieldType.int), Jvm.Cond.code ({ cls := "java/util/Arrays", name := "fill", desc := "([JJ)V" } : Jvm.MethodName) jdk_65_method_101_code (5 : Nat) (Option.none : Option Jvm.ClassFile.FieldType), Jvm.Cond.code ({ cls := "com/example/skiprail/skiprail/index/GroupedKeys", name := "below", desc := "(J)I" } : Jvm.MethodName) prog_24_method_5_code (11 : Nat) (Option.some Jvm.ClassFile.FieldType.int)]
set_option maxRecDepth 65536 in
theorem codes_eq : words1.filter isCode = codes1 := rfl
theorem w_codes : ∀ c ∈ words1.filter isCode, c.before args0 about1 = true := by
  rw [codes_eq]
  intro c hc
  simp only [codes1, List.mem_cons, List.not_mem_nil, or_false] at hc
  rcases hc with rfl | rfl | rfl | rfl | rfl | rfl | rfl | rfl | rfl | rfl
  · exact w_c0
  · exact w_c1
  · exact w_c2
  · exact w_c3
  · exact w_c4
  · exact w_c5
  · exact w_c6
  · exact w_c7
  · exact w_c8
  · exact w_c9
set_option maxRecDepth 65536 in
theorem w_t1 : (words1.take 24).all (fun c => isCode c || c.before args0 about1) = true := by decide +kernel
set_option maxRecDepth 65536 in
theorem w_t2 : (words1.drop 24).all (fun c => isCode c || c.before args0 about1) = true := by decide +kernel
theorem w_tables : (allAtoms (Jvm.Cond.code x code maxLocals ret :: tables_1)).before args0 about1 = true := by
  rw [allAtoms_all]
  show words1.all (fun c => c.before args0 about1) = true
  refine all_split ?_ w_codes
  rw [← List.take_append_drop 24 words1, List.all_append, w_t1, w_t2]
  rfl
set_option maxRecDepth 65536 in
theorem w_case : (Jvm.Cond.and given_1 narrow_1).before args0 about1 = true := by decide +kernel
theorem w_applies : (headSpec (Jvm.Cond.code x code maxLocals ret :: tables_1) room_1).applies x e0.platform about1 = true :=
  (Spec.applies_iff w_frames).mpr ⟨w_running, w_runnable, w_alone, w_named, w_hears, w_ripe, w_room, w_tables⟩
theorem atStart : AtStart classFile x code maxLocals ret World_1 tables_1 room_1 Calls_1 rest_1 Pre_1 launch0 p0 e0 about1 theMethod args0 below0 :=
  ⟨lists_1, trivial, launch0.admits_env _ _ _, launch0.least_env, fairChoices_fair.cas, fairChoices_fair.clock, w_frames, w_args, w_heap, w_applies, trivial, trivial, w_case⟩
end start1
theorem witness_1 : WitnessClaimed_1 := ⟨start1.p0, start1.e0, start1.about1, start1.theMethod, start1.args0, start1.below0, start1.atStart⟩
end Jvm.Pilot.@@N@@
