import JvmDerived
import JvmDerived.Pilot.@@N@@Statement
import JvmDerived.Pilot.@@N@@Code
set_option linter.unusedVariables false
set_option linter.unusedSimpArgs false
namespace Jvm.Pilot.@@N@@
open Jvm Jvm.ClassFile Sem Op Lib Jvm.Free Jvm.Stand Jvm.LawKit Jvm.RoadKit Bundle Jvm.Pilot.@@N@@.Jvm.D
/-! own kit (printed by wip/gen/kit.py) -/
/-- from here the walk comes to an end that K takes -/
def Run (p : Program) (e : Env) (below : List Frame) (m : MethodId) (K : State → Prop) (T : State) (pc : Nat) (L : Array Slot) (st : List Value) : Prop :=
  ∃ u, Steps p.tables e below (T.setTop (mkF m pc L st)) u ∧ K u
/-- what goes through a whole body -/
def Cx (p : Program) (l : Launch) (e : Env) (R : Room) (s : State) (m : MethodId) (args : Array Value) (below : List Frame) (meth : Method) (c : Code) (Z : State) (bytes : ByteArray) (ml : Nat) (own : String) (ret : Option FieldType) (mname : String) (n0 : Nat) (T : State) (h : Heap) (cells slots : Nat) : Prop :=
  (∃ locs, Stand p l e R s m args below meth c T locs cells slots ∧ Fr n0 locs) ∧ T.heap = h ∧ p.tables.exec = Jvm.exec ∧ c.code = bytes ∧ c.maxLocals = ml ∧ Z.Warmed39 s.vm ∧ s.vm.findClass own = some m.cls ∧ meth.sig.returnType = ret ∧ meth.name = mname ∧ meth.locks = false ∧ n0 ≤ h.size
/-- the end of a body: what it returns and leaves is Q's -/
def Fin1 (below : List Frame) (s : State) (n0 : Nat) (Q : Option Value → Heap → Prop) (cN sN : Nat) (u : State) : Prop :=
  u.status = .running ∧ ∃ o, Ended u below o ∧ ∃ v L, o = .returned v ∧ (Q v u.heap ∧ Fr n0 L ∧ n0 ≤ u.heap.size) ∧ FrameEnd s o u L cN sN
/-- a body's contract -/
def Met1 (l : Launch) (Z : State) (n0 : Nat) (ws : List Jvm.Cond) (y : MethodName) (bytes : ByteArray) (ml : Nat) (ret : Option FieldType) (rm : Room) (as : Array Value) (h0 : Heap) (Q : Option Value → Heap → Prop) : Prop :=
  MetFree l y (head1 (Jvm.Cond.code y bytes ml ret :: ws) rm) (fun a U => a = as ∧ Z.Warmed39 U.vm ∧ U.heap = h0) (fun _ _ _ _ _ => True) (fun _ U o U' => ∃ v L, o = .returned v ∧ (Q v U'.heap ∧ Fr n0 L ∧ n0 ≤ U'.heap.size) ∧ FrameEnd U o U' L rm.cells rm.slots)
/-- an array: its kind, its length, what each place holds -/
def AF (Z : State) (h : Heap) (a : Addr) (ty : FieldType) (n : Nat) (f : Nat → Value) : Prop := ∃ c : Cell, Arr Z h a c ty ∧ c.slots.size = n ∧ n < 2 ^ 31 ∧ ∀ j, j < n → c.slots[j]? = some (f j)
def upd (f : Nat → Value) (i : Nat) (v : Value) : Nat → Value := fun j => if j = i then v else f j
section Own
variable {p : Program} {l : Launch} {e : Env} {R : Room} {s : State} {m : MethodId} {args : Array Value} {below : List Frame} {meth : Method} {c : Code} {Z : State} {bytes : ByteArray} {ml : Nat} {own mname : String} {ret : Option FieldType} {n0 : Nat} {T : State} {h : Heap} {cells slots : Nat} {K : State → Prop} {pc : Nat} {L : Array Slot} {st : List Value}
theorem Cx.sz (X : Cx p l e R s m args below meth c Z bytes ml own ret mname n0 T h cells slots) : n0 ≤ h.size := X.2.2.2.2.2.2.2.2.2.2
theorem Run.of {T' : State} {pc' : Nat} {L' : Array Slot} {st' : List Value} (h : ∀ t, Steps p.tables e below (T'.setTop (mkF m pc' L' st')) t → Steps p.tables e below (T.setTop (mkF m pc L st)) t) (r : Run p e below m K T' pc' L' st') : Run p e below m K T pc L st :=
  r.imp fun u q => ⟨h u q.1, q.2⟩
theorem upd_hit {f : Nat → Value} {i : Nat} {v : Value} : upd f i v i = v := if_pos rfl
theorem upd_miss {f : Nat → Value} {i j : Nat} {v : Value} (q : j ≠ i) : upd f i v j = f j := if_neg q
theorem idx_of {j : Int32} {i n : Nat} (hj : j.toInt = (i : Int)) (hi : i < n) : ¬ (j < 0 ∨ n ≤ j.toNatClampNeg) ∧ j.toNatClampNeg = i := by
  have q : j.toNatClampNeg = i := by show j.toInt.toNat = i; omega
  refine ⟨?_, q⟩
  rw [q, Int32.lt_iff_toInt_lt]
  have : (0 : Int32).toInt = 0 := rfl
  omega
theorem AF.lt {a : Addr} {ty : FieldType} {n : Nat} {f : Nat → Value} (A : AF Z h a ty n f) : a < h.size := by obtain ⟨c, A, -⟩ := A; exact A.lt
theorem AF.small {a : Addr} {ty : FieldType} {n : Nat} {f : Nat → Value} (A : AF Z h a ty n f) : n < 2 ^ 31 := by obtain ⟨c, -, -, q, -⟩ := A; exact q
theorem AF.ext {a : Addr} {ty : FieldType} {n : Nat} {f : Nat → Value} {h' : Heap} (A : AF Z h a ty n f) (E : Ext h h') : AF Z h' a ty n f := by obtain ⟨c, A, r⟩ := A; exact ⟨c, A.ext E, r⟩
theorem AF.other {a b : Addr} {ty : FieldType} {n sl : Nat} {v : Value} {f : Nat → Value} {h' : Heap} (A : AF Z h b ty n f) (W : Wr h h' a sl v) (q : b ≠ a) : AF Z h' b ty n f := by obtain ⟨c, A, r⟩ := A; exact ⟨c, A.other W q, r⟩
theorem AF.keep {a : Addr} {ty : FieldType} {n : Nat} {f : Nat → Value} {h' : Heap} {ws : List Addr} (A : AF Z h a ty n f) (K : Keep h h' ws) (q : a ∉ ws) : AF Z h' a ty n f := by obtain ⟨c, A, r⟩ := A; exact ⟨c, ⟨K.2.1 a c A.1 q, A.2⟩, r⟩
theorem AF.set {a : Addr} {ty : FieldType} {n i : Nat} {v : Value} {f : Nat → Value} {h' : Heap} (A : AF Z h a ty n f) (W : Wr h h' a i v) : AF Z h' a ty n (upd f i v) := by
  obtain ⟨c, A, S, q, H⟩ := A
  refine ⟨_, A.same W, by rw [sz_set]; exact S, q, fun j hj => ?_⟩
  show (c.slots.setIfInBounds i v)[j]? = _
  rw [Array.getElem?_setIfInBounds, S]
  by_cases e : i = j
  · subst e; simp [hj, upd]
  · have e' : j ≠ i := fun q => e q.symm
    simp [e, upd, e', H j hj]
theorem AF.congr {a : Addr} {ty : FieldType} {n : Nat} {f g : Nat → Value} (A : AF Z h a ty n f) (q : ∀ j, j < n → f j = g j) : AF Z h a ty n g := by
  obtain ⟨c, A, S, r, H⟩ := A; exact ⟨c, A, S, r, fun j hj => by rw [H j hj, q j hj]⟩
theorem AF.ne_obj {a b : Addr} {ty : FieldType} {n k : Nat} {f : Nat → Value} {C : String} {a0 : Array Value} (A : AF Z h b ty n f) (E : Exa Z h a C) (wi : (Jvm.Cond.instantiable C k).before a0 Z = true) : a ≠ b := by obtain ⟨c, A, -⟩ := A; exact ne_arr E wi A
theorem r_topI {x x' : Int32} (q : x = x') (r : Run p e below m K T pc L (.int x' :: st)) : Run p e below m K T pc L (.int x :: st) := q ▸ r
theorem r_topJ {x x' : Int64} (q : x = x') (r : Run p e below m K T pc L (.long x' :: st)) : Run p e below m K T pc L (.long x :: st) := q ▸ r
theorem r_top {x x' : Value} (q : x = x') (r : Run p e below m K T pc L (x' :: st)) : Run p e below m K T pc L (x :: st) := q ▸ r
theorem r_loc {L' : Array Slot} (q : L = L') (r : Run p e below m K T pc L' st) : Run p e below m K T pc L st := q ▸ r
theorem r_iload (pc' : Nat) (X : Cx p l e R s m args below meth c Z bytes ml own ret mname n0 T h cells slots) {k : Nat} {v : Int32} (hd : decode bytes pc = .ok (.iload k, 2)) (hl : L[k]? = some (.val (.int v))) (r : Run p e below m K T pc' L (.int v :: st)) (q : pc + 2 = pc' := by rfl) : Run p e below m K T pc L st := by
  obtain ⟨⟨locs, X, -⟩, -, hx, hby, -⟩ := X
  subst q hby
  exact Run.of (fun t k => XS.iload X.here hx rfl hd hl k) r
theorem r_iloadN (pc' : Nat) (X : Cx p l e R s m args below meth c Z bytes ml own ret mname n0 T h cells slots) {k : Fin 4} {v : Int32} (hd : decode bytes pc = .ok (.iload_n k, 1)) (hl : L[k.val]? = some (.val (.int v))) (r : Run p e below m K T pc' L (.int v :: st)) (q : pc + 1 = pc' := by rfl) : Run p e below m K T pc L st := by
  obtain ⟨⟨locs, X, -⟩, -, hx, hby, -⟩ := X
  subst q hby
  exact Run.of (fun t k => XS.iloadN X.here hx rfl hd hl k) r
theorem r_istore (pc' : Nat) (X : Cx p l e R s m args below meth c Z bytes ml own ret mname n0 T h cells slots) {k : Nat} {v : Int32} (L' : Array Slot) (hd : decode bytes pc = .ok (.istore k, 2)) (hl : storeLocals L k (.int v) = some L') (r : Run p e below m K T pc' L' st) (q : pc + 2 = pc' := by rfl) : Run p e below m K T pc L (.int v :: st) := by
  obtain ⟨⟨locs, X, -⟩, -, hx, hby, -⟩ := X
  subst q hby
  exact Run.of (fun t k => XS.istore X.here hx rfl hd rfl hl k) r
theorem r_istoreN (pc' : Nat) (X : Cx p l e R s m args below meth c Z bytes ml own ret mname n0 T h cells slots) {k : Fin 4} {v : Int32} (L' : Array Slot) (hd : decode bytes pc = .ok (.istore_n k, 1)) (hl : storeLocals L k.val (.int v) = some L') (r : Run p e below m K T pc' L' st) (q : pc + 1 = pc' := by rfl) : Run p e below m K T pc L (.int v :: st) := by
  obtain ⟨⟨locs, X, -⟩, -, hx, hby, -⟩ := X
  subst q hby
  exact Run.of (fun t k => XS.istoreN X.here hx rfl hd rfl hl k) r
theorem r_lload (pc' : Nat) (X : Cx p l e R s m args below meth c Z bytes ml own ret mname n0 T h cells slots) {k : Nat} {v : Int64} (hd : decode bytes pc = .ok (.lload k, 2)) (hl : L[k]? = some (.val (.long v))) (r : Run p e below m K T pc' L (.long v :: st)) (q : pc + 2 = pc' := by rfl) : Run p e below m K T pc L st := by
  obtain ⟨⟨locs, X, -⟩, -, hx, hby, -⟩ := X
  subst q hby
  exact Run.of (fun t k => XS.lload X.here hx rfl hd hl k) r
theorem r_lloadN (pc' : Nat) (X : Cx p l e R s m args below meth c Z bytes ml own ret mname n0 T h cells slots) {k : Fin 4} {v : Int64} (hd : decode bytes pc = .ok (.lload_n k, 1)) (hl : L[k.val]? = some (.val (.long v))) (r : Run p e below m K T pc' L (.long v :: st)) (q : pc + 1 = pc' := by rfl) : Run p e below m K T pc L st := by
  obtain ⟨⟨locs, X, -⟩, -, hx, hby, -⟩ := X
  subst q hby
  exact Run.of (fun t k => XS.lloadN X.here hx rfl hd hl k) r
theorem r_lstore (pc' : Nat) (X : Cx p l e R s m args below meth c Z bytes ml own ret mname n0 T h cells slots) {k : Nat} {v : Int64} (L' : Array Slot) (hd : decode bytes pc = .ok (.lstore k, 2)) (hl : storeLocals L k (.long v) = some L') (r : Run p e below m K T pc' L' st) (q : pc + 2 = pc' := by rfl) : Run p e below m K T pc L (.long v :: st) := by
  obtain ⟨⟨locs, X, -⟩, -, hx, hby, -⟩ := X
  subst q hby
  exact Run.of (fun t k => XS.lstore X.here hx rfl hd rfl hl k) r
theorem r_lstoreN (pc' : Nat) (X : Cx p l e R s m args below meth c Z bytes ml own ret mname n0 T h cells slots) {k : Fin 4} {v : Int64} (L' : Array Slot) (hd : decode bytes pc = .ok (.lstore_n k, 1)) (hl : storeLocals L k.val (.long v) = some L') (r : Run p e below m K T pc' L' st) (q : pc + 1 = pc' := by rfl) : Run p e below m K T pc L (.long v :: st) := by
  obtain ⟨⟨locs, X, -⟩, -, hx, hby, -⟩ := X
  subst q hby
  exact Run.of (fun t k => XS.lstoreN X.here hx rfl hd rfl hl k) r
theorem r_dload (pc' : Nat) (X : Cx p l e R s m args below meth c Z bytes ml own ret mname n0 T h cells slots) {k : Nat} {v : UInt64} (hd : decode bytes pc = .ok (.dload k, 2)) (hl : L[k]? = some (.val (.double v))) (r : Run p e below m K T pc' L (.double v :: st)) (q : pc + 2 = pc' := by rfl) : Run p e below m K T pc L st := by
  obtain ⟨⟨locs, X, -⟩, -, hx, hby, -⟩ := X
  subst q hby
  exact Run.of (fun t k => XS.dload X.here hx rfl hd hl k) r
theorem r_dloadN (pc' : Nat) (X : Cx p l e R s m args below meth c Z bytes ml own ret mname n0 T h cells slots) {k : Fin 4} {v : UInt64} (hd : decode bytes pc = .ok (.dload_n k, 1)) (hl : L[k.val]? = some (.val (.double v))) (r : Run p e below m K T pc' L (.double v :: st)) (q : pc + 1 = pc' := by rfl) : Run p e below m K T pc L st := by
  obtain ⟨⟨locs, X, -⟩, -, hx, hby, -⟩ := X
  subst q hby
  exact Run.of (fun t k => XS.dloadN X.here hx rfl hd hl k) r
theorem r_dstore (pc' : Nat) (X : Cx p l e R s m args below meth c Z bytes ml own ret mname n0 T h cells slots) {k : Nat} {v : UInt64} (L' : Array Slot) (hd : decode bytes pc = .ok (.dstore k, 2)) (hl : storeLocals L k (.double v) = some L') (r : Run p e below m K T pc' L' st) (q : pc + 2 = pc' := by rfl) : Run p e below m K T pc L (.double v :: st) := by
  obtain ⟨⟨locs, X, -⟩, -, hx, hby, -⟩ := X
  subst q hby
  exact Run.of (fun t k => XS.dstore X.here hx rfl hd rfl hl k) r
theorem r_dstoreN (pc' : Nat) (X : Cx p l e R s m args below meth c Z bytes ml own ret mname n0 T h cells slots) {k : Fin 4} {v : UInt64} (L' : Array Slot) (hd : decode bytes pc = .ok (.dstore_n k, 1)) (hl : storeLocals L k.val (.double v) = some L') (r : Run p e below m K T pc' L' st) (q : pc + 1 = pc' := by rfl) : Run p e below m K T pc L (.double v :: st) := by
  obtain ⟨⟨locs, X, -⟩, -, hx, hby, -⟩ := X
  subst q hby
  exact Run.of (fun t k => XS.dstoreN X.here hx rfl hd rfl hl k) r
theorem r_aload (pc' : Nat) (X : Cx p l e R s m args below meth c Z bytes ml own ret mname n0 T h cells slots) {k : Nat} {v : Value} (hd : decode bytes pc = .ok (.aload k, 2)) (hl : L[k]? = some (.val v)) (hv : v.isRef = true) (r : Run p e below m K T pc' L (v :: st)) (q : pc + 2 = pc' := by rfl) : Run p e below m K T pc L st := by
  obtain ⟨⟨locs, X, -⟩, -, hx, hby, -⟩ := X
  subst q hby
  exact Run.of (fun t k => XS.aload X.here hx rfl hd hl hv k) r
theorem r_aloadN (pc' : Nat) (X : Cx p l e R s m args below meth c Z bytes ml own ret mname n0 T h cells slots) {k : Fin 4} {v : Value} (hd : decode bytes pc = .ok (.aload_n k, 1)) (hl : L[k.val]? = some (.val v)) (hv : v.isRef = true) (r : Run p e below m K T pc' L (v :: st)) (q : pc + 1 = pc' := by rfl) : Run p e below m K T pc L st := by
  obtain ⟨⟨locs, X, -⟩, -, hx, hby, -⟩ := X
  subst q hby
  exact Run.of (fun t k => XS.aloadN X.here hx rfl hd hl hv k) r
theorem r_astore (pc' : Nat) (X : Cx p l e R s m args below meth c Z bytes ml own ret mname n0 T h cells slots) {k : Nat} {v : Value} (L' : Array Slot) (hd : decode bytes pc = .ok (.astore k, 2)) (hv : v.isRef = true) (hl : storeLocals L k v = some L') (r : Run p e below m K T pc' L' st) (q : pc + 2 = pc' := by rfl) : Run p e below m K T pc L (v :: st) := by
  obtain ⟨⟨locs, X, -⟩, -, hx, hby, -⟩ := X
  subst q hby
  exact Run.of (fun t k => XS.astore X.here hx rfl hd rfl hv hl k) r
theorem r_astoreN (pc' : Nat) (X : Cx p l e R s m args below meth c Z bytes ml own ret mname n0 T h cells slots) {k : Fin 4} {v : Value} (L' : Array Slot) (hd : decode bytes pc = .ok (.astore_n k, 1)) (hv : v.isRef = true) (hl : storeLocals L k.val v = some L') (r : Run p e below m K T pc' L' st) (q : pc + 1 = pc' := by rfl) : Run p e below m K T pc L (v :: st) := by
  obtain ⟨⟨locs, X, -⟩, -, hx, hby, -⟩ := X
  subst q hby
  exact Run.of (fun t k => XS.astoreN X.here hx rfl hd rfl hv hl k) r
theorem r_iconst (pc' : Nat) (X : Cx p l e R s m args below meth c Z bytes ml own ret mname n0 T h cells slots) {i : Int} (z : Int32) (hd : decode bytes pc = .ok (.iconst i, 1)) (hz : Int32.ofInt i = z) (r : Run p e below m K T pc' L (.int z :: st)) (q : pc + 1 = pc' := by rfl) : Run p e below m K T pc L st := by
  obtain ⟨⟨locs, X, -⟩, -, hx, hby, -⟩ := X
  subst q hby hz
  exact Run.of (fun t k => XS.iconst X.here hx rfl hd  k) r
theorem r_bipush (pc' : Nat) (X : Cx p l e R s m args below meth c Z bytes ml own ret mname n0 T h cells slots) {i : Int} (z : Int32) (hd : decode bytes pc = .ok (.bipush i, 2)) (hz : (Int8.ofInt i).toInt32 = z) (r : Run p e below m K T pc' L (.int z :: st)) (q : pc + 2 = pc' := by rfl) : Run p e below m K T pc L st := by
  obtain ⟨⟨locs, X, -⟩, -, hx, hby, -⟩ := X
  subst q hby hz
  exact Run.of (fun t k => XS.bipush X.here hx rfl hd  k) r
theorem r_sipush (pc' : Nat) (X : Cx p l e R s m args below meth c Z bytes ml own ret mname n0 T h cells slots) {i : Int} (z : Int32) (hd : decode bytes pc = .ok (.sipush i, 3)) (hz : (Int16.ofInt i).toInt32 = z) (r : Run p e below m K T pc' L (.int z :: st)) (q : pc + 3 = pc' := by rfl) : Run p e below m K T pc L st := by
  obtain ⟨⟨locs, X, -⟩, -, hx, hby, -⟩ := X
  subst q hby hz
  exact Run.of (fun t k => XS.sipush X.here hx rfl hd  k) r
theorem r_lconst (pc' : Nat) (X : Cx p l e R s m args below meth c Z bytes ml own ret mname n0 T h cells slots) {i : Fin 2} (z : Int64) (hd : decode bytes pc = .ok (.lconst i, 1)) (hz : Int64.ofNat i = z) (r : Run p e below m K T pc' L (.long z :: st)) (q : pc + 1 = pc' := by rfl) : Run p e below m K T pc L st := by
  obtain ⟨⟨locs, X, -⟩, -, hx, hby, -⟩ := X
  subst q hby hz
  exact Run.of (fun t k => XS.lconst X.here hx rfl hd  k) r
theorem r_aconst_null (pc' : Nat) (X : Cx p l e R s m args below meth c Z bytes ml own ret mname n0 T h cells slots)  (hd : decode bytes pc = .ok (.aconst_null, 1))  (r : Run p e below m K T pc' L (.null :: st)) (q : pc + 1 = pc' := by rfl) : Run p e below m K T pc L st := by
  obtain ⟨⟨locs, X, -⟩, -, hx, hby, -⟩ := X
  subst q hby
  exact Run.of (fun t k => XS.aconstNull X.here hx rfl hd  k) r
theorem r_dconst0 (pc' : Nat) (X : Cx p l e R s m args below meth c Z bytes ml own ret mname n0 T h cells slots)  (hd : decode bytes pc = .ok (.dconst 0, 1))  (r : Run p e below m K T pc' L (.double FP.dconst0 :: st)) (q : pc + 1 = pc' := by rfl) : Run p e below m K T pc L st := by
  obtain ⟨⟨locs, X, -⟩, -, hx, hby, -⟩ := X
  subst q hby
  exact Run.of (fun t k => XS.dconst0 X.here hx rfl hd rfl k) r
theorem r_dconst1 (pc' : Nat) (X : Cx p l e R s m args below meth c Z bytes ml own ret mname n0 T h cells slots)  (hd : decode bytes pc = .ok (.dconst 1, 1))  (r : Run p e below m K T pc' L (.double FP.dconst1 :: st)) (q : pc + 1 = pc' := by rfl) : Run p e below m K T pc L st := by
  obtain ⟨⟨locs, X, -⟩, -, hx, hby, -⟩ := X
  subst q hby
  exact Run.of (fun t k => XS.dconst1 X.here hx rfl hd rfl k) r
theorem r_iadd (pc' : Nat) (X : Cx p l e R s m args below meth c Z bytes ml own ret mname n0 T h cells slots) {x y : Int32} (hd : decode bytes pc = .ok (.iadd, 1))  (r : Run p e below m K T pc' L (.int (x + y) :: st)) (q : pc + 1 = pc' := by rfl) : Run p e below m K T pc L (.int y :: .int x :: st) := by
  obtain ⟨⟨locs, X, -⟩, -, hx, hby, -⟩ := X
  subst q hby
  exact Run.of (fun t k => XS.iadd X.here hx rfl hd rfl k) r
theorem r_isub (pc' : Nat) (X : Cx p l e R s m args below meth c Z bytes ml own ret mname n0 T h cells slots) {x y : Int32} (hd : decode bytes pc = .ok (.isub, 1))  (r : Run p e below m K T pc' L (.int (x - y) :: st)) (q : pc + 1 = pc' := by rfl) : Run p e below m K T pc L (.int y :: .int x :: st) := by
  obtain ⟨⟨locs, X, -⟩, -, hx, hby, -⟩ := X
  subst q hby
  exact Run.of (fun t k => XS.isub X.here hx rfl hd rfl k) r
theorem r_imul (pc' : Nat) (X : Cx p l e R s m args below meth c Z bytes ml own ret mname n0 T h cells slots) {x y : Int32} (hd : decode bytes pc = .ok (.imul, 1))  (r : Run p e below m K T pc' L (.int (x * y) :: st)) (q : pc + 1 = pc' := by rfl) : Run p e below m K T pc L (.int y :: .int x :: st) := by
  obtain ⟨⟨locs, X, -⟩, -, hx, hby, -⟩ := X
  subst q hby
  exact Run.of (fun t k => XS.imul X.here hx rfl hd rfl k) r
theorem r_iand (pc' : Nat) (X : Cx p l e R s m args below meth c Z bytes ml own ret mname n0 T h cells slots) {x y : Int32} (hd : decode bytes pc = .ok (.iand, 1))  (r : Run p e below m K T pc' L (.int (x &&& y) :: st)) (q : pc + 1 = pc' := by rfl) : Run p e below m K T pc L (.int y :: .int x :: st) := by
  obtain ⟨⟨locs, X, -⟩, -, hx, hby, -⟩ := X
  subst q hby
  exact Run.of (fun t k => XS.iand X.here hx rfl hd rfl k) r
theorem r_ior (pc' : Nat) (X : Cx p l e R s m args below meth c Z bytes ml own ret mname n0 T h cells slots) {x y : Int32} (hd : decode bytes pc = .ok (.ior, 1))  (r : Run p e below m K T pc' L (.int (x ||| y) :: st)) (q : pc + 1 = pc' := by rfl) : Run p e below m K T pc L (.int y :: .int x :: st) := by
  obtain ⟨⟨locs, X, -⟩, -, hx, hby, -⟩ := X
  subst q hby
  exact Run.of (fun t k => XS.ior X.here hx rfl hd rfl k) r
theorem r_ixor (pc' : Nat) (X : Cx p l e R s m args below meth c Z bytes ml own ret mname n0 T h cells slots) {x y : Int32} (hd : decode bytes pc = .ok (.ixor, 1))  (r : Run p e below m K T pc' L (.int (x ^^^ y) :: st)) (q : pc + 1 = pc' := by rfl) : Run p e below m K T pc L (.int y :: .int x :: st) := by
  obtain ⟨⟨locs, X, -⟩, -, hx, hby, -⟩ := X
  subst q hby
  exact Run.of (fun t k => XS.ixor X.here hx rfl hd rfl k) r
theorem r_ishl (pc' : Nat) (X : Cx p l e R s m args below meth c Z bytes ml own ret mname n0 T h cells slots) {x y : Int32} (hd : decode bytes pc = .ok (.ishl, 1))  (r : Run p e below m K T pc' L (.int (x <<< (y &&& 31)) :: st)) (q : pc + 1 = pc' := by rfl) : Run p e below m K T pc L (.int y :: .int x :: st) := by
  obtain ⟨⟨locs, X, -⟩, -, hx, hby, -⟩ := X
  subst q hby
  exact Run.of (fun t k => XS.ishl X.here hx rfl hd rfl k) r
theorem r_ishr (pc' : Nat) (X : Cx p l e R s m args below meth c Z bytes ml own ret mname n0 T h cells slots) {x y : Int32} (hd : decode bytes pc = .ok (.ishr, 1))  (r : Run p e below m K T pc' L (.int (x >>> (y &&& 31)) :: st)) (q : pc + 1 = pc' := by rfl) : Run p e below m K T pc L (.int y :: .int x :: st) := by
  obtain ⟨⟨locs, X, -⟩, -, hx, hby, -⟩ := X
  subst q hby
  exact Run.of (fun t k => XS.ishr X.here hx rfl hd rfl k) r
theorem r_iushr (pc' : Nat) (X : Cx p l e R s m args below meth c Z bytes ml own ret mname n0 T h cells slots) {x y : Int32} (hd : decode bytes pc = .ok (.iushr, 1))  (r : Run p e below m K T pc' L (.int ((x.toUInt32 >>> (y &&& 31).toUInt32).toInt32) :: st)) (q : pc + 1 = pc' := by rfl) : Run p e below m K T pc L (.int y :: .int x :: st) := by
  obtain ⟨⟨locs, X, -⟩, -, hx, hby, -⟩ := X
  subst q hby
  exact Run.of (fun t k => XS.iushr X.here hx rfl hd rfl k) r
theorem r_ladd (pc' : Nat) (X : Cx p l e R s m args below meth c Z bytes ml own ret mname n0 T h cells slots) {x y : Int64} (hd : decode bytes pc = .ok (.ladd, 1))  (r : Run p e below m K T pc' L (.long (x + y) :: st)) (q : pc + 1 = pc' := by rfl) : Run p e below m K T pc L (.long y :: .long x :: st) := by
  obtain ⟨⟨locs, X, -⟩, -, hx, hby, -⟩ := X
  subst q hby
  exact Run.of (fun t k => XS.ladd X.here hx rfl hd rfl k) r
theorem r_lsub (pc' : Nat) (X : Cx p l e R s m args below meth c Z bytes ml own ret mname n0 T h cells slots) {x y : Int64} (hd : decode bytes pc = .ok (.lsub, 1))  (r : Run p e below m K T pc' L (.long (x - y) :: st)) (q : pc + 1 = pc' := by rfl) : Run p e below m K T pc L (.long y :: .long x :: st) := by
  obtain ⟨⟨locs, X, -⟩, -, hx, hby, -⟩ := X
  subst q hby
  exact Run.of (fun t k => XS.lsub X.here hx rfl hd rfl k) r
theorem r_lmul (pc' : Nat) (X : Cx p l e R s m args below meth c Z bytes ml own ret mname n0 T h cells slots) {x y : Int64} (hd : decode bytes pc = .ok (.lmul, 1))  (r : Run p e below m K T pc' L (.long (x * y) :: st)) (q : pc + 1 = pc' := by rfl) : Run p e below m K T pc L (.long y :: .long x :: st) := by
  obtain ⟨⟨locs, X, -⟩, -, hx, hby, -⟩ := X
  subst q hby
  exact Run.of (fun t k => XS.lmul X.here hx rfl hd rfl k) r
theorem r_land (pc' : Nat) (X : Cx p l e R s m args below meth c Z bytes ml own ret mname n0 T h cells slots) {x y : Int64} (hd : decode bytes pc = .ok (.land, 1))  (r : Run p e below m K T pc' L (.long (x &&& y) :: st)) (q : pc + 1 = pc' := by rfl) : Run p e below m K T pc L (.long y :: .long x :: st) := by
  obtain ⟨⟨locs, X, -⟩, -, hx, hby, -⟩ := X
  subst q hby
  exact Run.of (fun t k => XS.land X.here hx rfl hd rfl k) r
theorem r_lor (pc' : Nat) (X : Cx p l e R s m args below meth c Z bytes ml own ret mname n0 T h cells slots) {x y : Int64} (hd : decode bytes pc = .ok (.lor, 1))  (r : Run p e below m K T pc' L (.long (x ||| y) :: st)) (q : pc + 1 = pc' := by rfl) : Run p e below m K T pc L (.long y :: .long x :: st) := by
  obtain ⟨⟨locs, X, -⟩, -, hx, hby, -⟩ := X
  subst q hby
  exact Run.of (fun t k => XS.lor X.here hx rfl hd rfl k) r
theorem r_lxor (pc' : Nat) (X : Cx p l e R s m args below meth c Z bytes ml own ret mname n0 T h cells slots) {x y : Int64} (hd : decode bytes pc = .ok (.lxor, 1))  (r : Run p e below m K T pc' L (.long (x ^^^ y) :: st)) (q : pc + 1 = pc' := by rfl) : Run p e below m K T pc L (.long y :: .long x :: st) := by
  obtain ⟨⟨locs, X, -⟩, -, hx, hby, -⟩ := X
  subst q hby
  exact Run.of (fun t k => XS.lxor X.here hx rfl hd rfl k) r
theorem r_lshl (pc' : Nat) (X : Cx p l e R s m args below meth c Z bytes ml own ret mname n0 T h cells slots) {x : Int64} {y : Int32} (hd : decode bytes pc = .ok (.lshl, 1))  (r : Run p e below m K T pc' L (.long (x <<< (y &&& 0x3f).toInt64) :: st)) (q : pc + 1 = pc' := by rfl) : Run p e below m K T pc L (.int y :: .long x :: st) := by
  obtain ⟨⟨locs, X, -⟩, -, hx, hby, -⟩ := X
  subst q hby
  exact Run.of (fun t k => XS.lshl X.here hx rfl hd rfl k) r
theorem r_lshr (pc' : Nat) (X : Cx p l e R s m args below meth c Z bytes ml own ret mname n0 T h cells slots) {x : Int64} {y : Int32} (hd : decode bytes pc = .ok (.lshr, 1))  (r : Run p e below m K T pc' L (.long (x >>> (y &&& 0x3f).toInt64) :: st)) (q : pc + 1 = pc' := by rfl) : Run p e below m K T pc L (.int y :: .long x :: st) := by
  obtain ⟨⟨locs, X, -⟩, -, hx, hby, -⟩ := X
  subst q hby
  exact Run.of (fun t k => XS.lshr X.here hx rfl hd rfl k) r
theorem r_lushr (pc' : Nat) (X : Cx p l e R s m args below meth c Z bytes ml own ret mname n0 T h cells slots) {x : Int64} {y : Int32} (hd : decode bytes pc = .ok (.lushr, 1))  (r : Run p e below m K T pc' L (.long ((x.toUInt64 >>> (y &&& 0x3f).toInt64.toUInt64).toInt64) :: st)) (q : pc + 1 = pc' := by rfl) : Run p e below m K T pc L (.int y :: .long x :: st) := by
  obtain ⟨⟨locs, X, -⟩, -, hx, hby, -⟩ := X
  subst q hby
  exact Run.of (fun t k => XS.lushr X.here hx rfl hd rfl k) r
theorem r_lcmp (pc' : Nat) (X : Cx p l e R s m args below meth c Z bytes ml own ret mname n0 T h cells slots) {x y : Int64} (hd : decode bytes pc = .ok (.lcmp, 1))  (r : Run p e below m K T pc' L (.int (lcmpW x y) :: st)) (q : pc + 1 = pc' := by rfl) : Run p e below m K T pc L (.long y :: .long x :: st) := by
  obtain ⟨⟨locs, X, -⟩, -, hx, hby, -⟩ := X
  subst q hby
  exact Run.of (fun t k => XS.lcmp X.here hx rfl hd rfl k) r
theorem r_idiv (pc' : Nat) (X : Cx p l e R s m args below meth c Z bytes ml own ret mname n0 T h cells slots) {x y : Int32} (hd : decode bytes pc = .ok (.idiv, 1)) (hy : y ≠ 0) (r : Run p e below m K T pc' L (.int (x / y) :: st)) (q : pc + 1 = pc' := by rfl) : Run p e below m K T pc L (.int y :: .int x :: st) := by
  obtain ⟨⟨locs, X, -⟩, -, hx, hby, -⟩ := X
  subst q hby
  exact Run.of (fun t k => XS.idiv X.here hx rfl hd rfl hy k) r
theorem r_ldiv (pc' : Nat) (X : Cx p l e R s m args below meth c Z bytes ml own ret mname n0 T h cells slots) {x y : Int64} (hd : decode bytes pc = .ok (.ldiv, 1)) (hy : y ≠ 0) (r : Run p e below m K T pc' L (.long (x / y) :: st)) (q : pc + 1 = pc' := by rfl) : Run p e below m K T pc L (.long y :: .long x :: st) := by
  obtain ⟨⟨locs, X, -⟩, -, hx, hby, -⟩ := X
  subst q hby
  exact Run.of (fun t k => XS.ldiv X.here hx rfl hd rfl hy k) r
theorem r_irem (pc' : Nat) (X : Cx p l e R s m args below meth c Z bytes ml own ret mname n0 T h cells slots) {x y : Int32} (hd : decode bytes pc = .ok (.irem, 1)) (hy : y ≠ 0) (r : Run p e below m K T pc' L (.int (x % y) :: st)) (q : pc + 1 = pc' := by rfl) : Run p e below m K T pc L (.int y :: .int x :: st) := by
  obtain ⟨⟨locs, X, -⟩, -, hx, hby, -⟩ := X
  subst q hby
  exact Run.of (fun t k => iremM (g := mkF m pc L (.int y :: .int x :: st)) X hx rfl hd rfl hy k) r
theorem r_lrem (pc' : Nat) (X : Cx p l e R s m args below meth c Z bytes ml own ret mname n0 T h cells slots) {x y : Int64} (hd : decode bytes pc = .ok (.lrem, 1)) (hy : y ≠ 0) (r : Run p e below m K T pc' L (.long (x % y) :: st)) (q : pc + 1 = pc' := by rfl) : Run p e below m K T pc L (.long y :: .long x :: st) := by
  obtain ⟨⟨locs, X, -⟩, -, hx, hby, -⟩ := X
  subst q hby
  rw [← lrem_mod x y] at r
  exact Run.of (fun t k => XS.lrem X.here hx rfl hd rfl hy k) r
theorem r_ineg (pc' : Nat) (X : Cx p l e R s m args below meth c Z bytes ml own ret mname n0 T h cells slots) {x : Int32} (hd : decode bytes pc = .ok (.ineg, 1))  (r : Run p e below m K T pc' L (.int (-x) :: st)) (q : pc + 1 = pc' := by rfl) : Run p e below m K T pc L (.int x :: st) := by
  obtain ⟨⟨locs, X, -⟩, -, hx, hby, -⟩ := X
  subst q hby
  exact Run.of (fun t k => XS.ineg X.here hx rfl hd rfl k) r
theorem r_lneg (pc' : Nat) (X : Cx p l e R s m args below meth c Z bytes ml own ret mname n0 T h cells slots) {x : Int64} (hd : decode bytes pc = .ok (.lneg, 1))  (r : Run p e below m K T pc' L (.long (-x) :: st)) (q : pc + 1 = pc' := by rfl) : Run p e below m K T pc L (.long x :: st) := by
  obtain ⟨⟨locs, X, -⟩, -, hx, hby, -⟩ := X
  subst q hby
  exact Run.of (fun t k => XS.lneg X.here hx rfl hd rfl k) r
theorem r_i2l (pc' : Nat) (X : Cx p l e R s m args below meth c Z bytes ml own ret mname n0 T h cells slots) {x : Int32} (hd : decode bytes pc = .ok (.i2l, 1))  (r : Run p e below m K T pc' L (.long (x.toInt64) :: st)) (q : pc + 1 = pc' := by rfl) : Run p e below m K T pc L (.int x :: st) := by
  obtain ⟨⟨locs, X, -⟩, -, hx, hby, -⟩ := X
  subst q hby
  exact Run.of (fun t k => XS.i2l X.here hx rfl hd rfl k) r
theorem r_l2i (pc' : Nat) (X : Cx p l e R s m args below meth c Z bytes ml own ret mname n0 T h cells slots) {x : Int64} (hd : decode bytes pc = .ok (.l2i, 1))  (r : Run p e below m K T pc' L (.int (x.toInt32) :: st)) (q : pc + 1 = pc' := by rfl) : Run p e below m K T pc L (.long x :: st) := by
  obtain ⟨⟨locs, X, -⟩, -, hx, hby, -⟩ := X
  subst q hby
  exact Run.of (fun t k => XS.l2i X.here hx rfl hd rfl k) r
theorem r_i2b (pc' : Nat) (X : Cx p l e R s m args below meth c Z bytes ml own ret mname n0 T h cells slots) {x : Int32} (hd : decode bytes pc = .ok (.i2b, 1))  (r : Run p e below m K T pc' L (.int (x.toInt8.toInt32) :: st)) (q : pc + 1 = pc' := by rfl) : Run p e below m K T pc L (.int x :: st) := by
  obtain ⟨⟨locs, X, -⟩, -, hx, hby, -⟩ := X
  subst q hby
  exact Run.of (fun t k => XS.i2b X.here hx rfl hd rfl k) r
theorem r_i2s (pc' : Nat) (X : Cx p l e R s m args below meth c Z bytes ml own ret mname n0 T h cells slots) {x : Int32} (hd : decode bytes pc = .ok (.i2s, 1))  (r : Run p e below m K T pc' L (.int (x.toInt16.toInt32) :: st)) (q : pc + 1 = pc' := by rfl) : Run p e below m K T pc L (.int x :: st) := by
  obtain ⟨⟨locs, X, -⟩, -, hx, hby, -⟩ := X
  subst q hby
  exact Run.of (fun t k => XS.i2s X.here hx rfl hd rfl k) r
theorem r_i2c (pc' : Nat) (X : Cx p l e R s m args below meth c Z bytes ml own ret mname n0 T h cells slots) {x : Int32} (hd : decode bytes pc = .ok (.i2c, 1))  (r : Run p e below m K T pc' L (.int (x.toUInt32.toUInt16.toUInt32.toInt32) :: st)) (q : pc + 1 = pc' := by rfl) : Run p e below m K T pc L (.int x :: st) := by
  obtain ⟨⟨locs, X, -⟩, -, hx, hby, -⟩ := X
  subst q hby
  exact Run.of (fun t k => XS.i2c X.here hx rfl hd rfl k) r
theorem r_iinc (pc' : Nat) (X : Cx p l e R s m args below meth c Z bytes ml own ret mname n0 T h cells slots) {k : Nat} {cst : Int} {x : Int32} (z : Int32) (L' : Array Slot) (hd : decode bytes pc = .ok (.iinc k cst, 3)) (hl : L[k]? = some (.val (.int x))) (hz : Int32.ofInt cst = z) (hl' : storeLocals L k (.int (x + z)) = some L') (r : Run p e below m K T pc' L' st) (q : pc + 3 = pc' := by rfl) : Run p e below m K T pc L st := by
  obtain ⟨⟨locs, X, -⟩, -, hx, hby, -⟩ := X
  subst q hby
  exact Run.of (fun t k => XS.iinc X.here hx rfl hd hl (hz.symm ▸ hl') k) r
theorem r_dup (pc' : Nat) (X : Cx p l e R s m args below meth c Z bytes ml own ret mname n0 T h cells slots) {x : Value} (hd : decode bytes pc = .ok (.dup, 1)) (hc : x.category = 1) (r : Run p e below m K T pc' L (x :: x :: st)) (q : pc + 1 = pc' := by rfl) : Run p e below m K T pc L (x :: st) := by
  obtain ⟨⟨locs, X, -⟩, -, hx, hby, -⟩ := X
  subst q hby
  exact Run.of (fun t k => XS.dup X.here hx rfl hd rfl hc k) r
theorem r_pop (pc' : Nat) (X : Cx p l e R s m args below meth c Z bytes ml own ret mname n0 T h cells slots) {x : Value} (hd : decode bytes pc = .ok (.pop, 1)) (hc : x.category = 1) (r : Run p e below m K T pc' L st) (q : pc + 1 = pc' := by rfl) : Run p e below m K T pc L (x :: st) := by
  obtain ⟨⟨locs, X, -⟩, -, hx, hby, -⟩ := X
  subst q hby
  exact Run.of (fun t k => XS.pop X.here hx rfl hd rfl hc k) r
theorem r_swap (pc' : Nat) (X : Cx p l e R s m args below meth c Z bytes ml own ret mname n0 T h cells slots) {x y : Value} (hd : decode bytes pc = .ok (.swap, 1)) (hc : x.category = 1) (hc2 : y.category = 1) (r : Run p e below m K T pc' L (y :: x :: st)) (q : pc + 1 = pc' := by rfl) : Run p e below m K T pc L (x :: y :: st) := by
  obtain ⟨⟨locs, X, -⟩, -, hx, hby, -⟩ := X
  subst q hby
  exact Run.of (fun t k => XS.swap X.here hx rfl hd rfl hc hc2 k) r
theorem r_dup_x1 (pc' : Nat) (X : Cx p l e R s m args below meth c Z bytes ml own ret mname n0 T h cells slots) {x y : Value} (hd : decode bytes pc = .ok (.dup_x1, 1)) (hc : x.category = 1) (hc2 : y.category = 1) (r : Run p e below m K T pc' L (x :: y :: x :: st)) (q : pc + 1 = pc' := by rfl) : Run p e below m K T pc L (x :: y :: st) := by
  obtain ⟨⟨locs, X, -⟩, -, hx, hby, -⟩ := X
  subst q hby
  exact Run.of (fun t k => XS.dupX1 X.here hx rfl hd rfl hc hc2 k) r
theorem r_dup2_2 (pc' : Nat) (X : Cx p l e R s m args below meth c Z bytes ml own ret mname n0 T h cells slots) {x y : Value} (hd : decode bytes pc = .ok (.dup2, 1)) (hc : x.category = 1) (hc2 : y.category = 1) (r : Run p e below m K T pc' L (x :: y :: x :: y :: st)) (q : pc + 1 = pc' := by rfl) : Run p e below m K T pc L (x :: y :: st) := by
  obtain ⟨⟨locs, X, -⟩, -, hx, hby, -⟩ := X
  subst q hby
  refine Run.of (fun t k => ?_) r
  jvm_step X.here [X.here.top, hx, hd, hc, hc2]
  exact k
theorem r_dup2_1 (pc' : Nat) (X : Cx p l e R s m args below meth c Z bytes ml own ret mname n0 T h cells slots) {x : Value} (hd : decode bytes pc = .ok (.dup2, 1)) (hc : x.category = 2) (r : Run p e below m K T pc' L (x :: x :: st)) (q : pc + 1 = pc' := by rfl) : Run p e below m K T pc L (x :: st) := by
  obtain ⟨⟨locs, X, -⟩, -, hx, hby, -⟩ := X
  subst q hby
  refine Run.of (fun t k => ?_) r
  jvm_step X.here [X.here.top, hx, hd, hc]
  exact k
theorem r_dup_x2_111 (pc' : Nat) (X : Cx p l e R s m args below meth c Z bytes ml own ret mname n0 T h cells slots) {x y z : Value} (hd : decode bytes pc = .ok (.dup_x2, 1)) (hc : x.category = 1) (hc2 : y.category = 1) (hc3 : z.category = 1) (r : Run p e below m K T pc' L (x :: y :: z :: x :: st)) (q : pc + 1 = pc' := by rfl) : Run p e below m K T pc L (x :: y :: z :: st) := by
  obtain ⟨⟨locs, X, -⟩, -, hx, hby, -⟩ := X
  subst q hby
  refine Run.of (fun t k => ?_) r
  jvm_step X.here [X.here.top, hx, hd, hc, hc2, hc3]
  exact k
theorem r_dup2_x1_2 (pc' : Nat) (X : Cx p l e R s m args below meth c Z bytes ml own ret mname n0 T h cells slots) {x y : Value} (hd : decode bytes pc = .ok (.dup2_x1, 1)) (hc : x.category = 2) (hc2 : y.category = 1) (r : Run p e below m K T pc' L (x :: y :: x :: st)) (q : pc + 1 = pc' := by rfl) : Run p e below m K T pc L (x :: y :: st) := by
  obtain ⟨⟨locs, X, -⟩, -, hx, hby, -⟩ := X
  subst q hby
  refine Run.of (fun t k => ?_) r
  jvm_step X.here [X.here.top, hx, hd, hc, hc2]
  exact k
theorem r_dup2_x2_2 (pc' : Nat) (X : Cx p l e R s m args below meth c Z bytes ml own ret mname n0 T h cells slots) {x y z : Value} (hd : decode bytes pc = .ok (.dup2_x2, 1)) (hc : x.category = 2) (hc2 : y.category = 1) (hc3 : z.category = 1) (r : Run p e below m K T pc' L (x :: y :: z :: x :: st)) (q : pc + 1 = pc' := by rfl) : Run p e below m K T pc L (x :: y :: z :: st) := by
  obtain ⟨⟨locs, X, -⟩, -, hx, hby, -⟩ := X
  subst q hby
  refine Run.of (fun t k => ?_) r
  jvm_step X.here [X.here.top, hx, hd, hc, hc2, hc3]
  exact k
theorem r_pop2_1 (pc' : Nat) (X : Cx p l e R s m args below meth c Z bytes ml own ret mname n0 T h cells slots) {x : Value} (hd : decode bytes pc = .ok (.pop2, 1)) (hc : x.category = 2) (r : Run p e below m K T pc' L st) (q : pc + 1 = pc' := by rfl) : Run p e below m K T pc L (x :: st) := by
  obtain ⟨⟨locs, X, -⟩, -, hx, hby, -⟩ := X
  subst q hby
  refine Run.of (fun t k => ?_) r
  jvm_step X.here [X.here.top, hx, hd, hc]
  exact k
theorem r_goto (pc' : Nat) (X : Cx p l e R s m args below meth c Z bytes ml own ret mname n0 T h cells slots) {o : Int} (hd : decode bytes pc = .ok (.goto o, 3)) (r : Run p e below m K T pc' L st) (ho : 0 ≤ (pc : Int) + o := by decide) (hp : ((pc : Int) + o).toNat = pc' := by decide) : Run p e below m K T pc L st := by
  obtain ⟨⟨locs, X, -⟩, -, hx, hby, -⟩ := X
  subst hby
  exact Run.of (fun t k => XS.goto X.here hx rfl (pc0 := pc) (pc' := pc') rfl hd ho hp k) r
theorem r_ifY (pc' : Nat) (X : Cx p l e R s m args below meth c Z bytes ml own ret mname n0 T h cells slots) {cd : ClassFile.Cond} {o : Int} {x : Int32} (hd : decode bytes pc = .ok (.ifCond cd o, 3)) (hc : ifCond.holds cd x = true) (r : Run p e below m K T pc' L st) (ho : 0 ≤ (pc : Int) + o := by decide) (hp : ((pc : Int) + o).toNat = pc' := by decide) : Run p e below m K T pc L (.int x :: st) := by
  obtain ⟨⟨locs, X, -⟩, -, hx, hby, -⟩ := X
  subst hby
  exact Run.of (fun t k => XS.ifYes X.here hx rfl (pc0 := pc) (pc' := pc') rfl hd rfl hc ho hp k) r
theorem r_ifN (pc' : Nat) (X : Cx p l e R s m args below meth c Z bytes ml own ret mname n0 T h cells slots) {cd : ClassFile.Cond} {o : Int} {x : Int32} (hd : decode bytes pc = .ok (.ifCond cd o, 3)) (hc : ifCond.holds cd x = false) (r : Run p e below m K T pc' L st) (q : pc + 3 = pc' := by rfl) : Run p e below m K T pc L (.int x :: st) := by
  obtain ⟨⟨locs, X, -⟩, -, hx, hby, -⟩ := X
  subst q hby
  exact Run.of (fun t k => XS.ifNo X.here hx rfl hd rfl hc k) r
theorem r_icmpY (pc' : Nat) (X : Cx p l e R s m args below meth c Z bytes ml own ret mname n0 T h cells slots) {cd : ClassFile.Cond} {o : Int} {x y : Int32} (hd : decode bytes pc = .ok (.if_icmp cd o, 3)) (hc : if_icmp.holds cd x y = true) (r : Run p e below m K T pc' L st) (ho : 0 ≤ (pc : Int) + o := by decide) (hp : ((pc : Int) + o).toNat = pc' := by decide) : Run p e below m K T pc L (.int y :: .int x :: st) := by
  obtain ⟨⟨locs, X, -⟩, -, hx, hby, -⟩ := X
  subst hby
  exact Run.of (fun t k => XS.icmpYes X.here hx rfl (pc0 := pc) (pc' := pc') rfl hd rfl hc ho hp k) r
theorem r_icmpN (pc' : Nat) (X : Cx p l e R s m args below meth c Z bytes ml own ret mname n0 T h cells slots) {cd : ClassFile.Cond} {o : Int} {x y : Int32} (hd : decode bytes pc = .ok (.if_icmp cd o, 3)) (hc : if_icmp.holds cd x y = false) (r : Run p e below m K T pc' L st) (q : pc + 3 = pc' := by rfl) : Run p e below m K T pc L (.int y :: .int x :: st) := by
  obtain ⟨⟨locs, X, -⟩, -, hx, hby, -⟩ := X
  subst q hby
  exact Run.of (fun t k => XS.icmpNo X.here hx rfl hd rfl hc k) r
theorem r_ifnullY (pc' : Nat) (X : Cx p l e R s m args below meth c Z bytes ml own ret mname n0 T h cells slots) {o : Int}  (hd : decode bytes pc = .ok (.ifnull o, 3)) (r : Run p e below m K T pc' L st) (ho : 0 ≤ (pc : Int) + o := by decide) (hp : ((pc : Int) + o).toNat = pc' := by decide) : Run p e below m K T pc L (.null :: st) := by
  obtain ⟨⟨locs, X, -⟩, -, hx, hby, -⟩ := X
  subst hby
  exact Run.of (fun t k => XS.ifnullYes X.here hx rfl (pc0 := pc) (pc' := pc') rfl hd rfl ho hp k) r
theorem r_ifnullN (pc' : Nat) (X : Cx p l e R s m args below meth c Z bytes ml own ret mname n0 T h cells slots) {o : Int} {b : Addr} (hd : decode bytes pc = .ok (.ifnull o, 3)) (r : Run p e below m K T pc' L st) (q : pc + 3 = pc' := by rfl) : Run p e below m K T pc L (.ref b :: st) := by
  obtain ⟨⟨locs, X, -⟩, -, hx, hby, -⟩ := X
  subst q hby
  exact Run.of (fun t k => XS.ifnullNo X.here hx rfl hd rfl k) r
theorem r_ifnonnullY (pc' : Nat) (X : Cx p l e R s m args below meth c Z bytes ml own ret mname n0 T h cells slots) {o : Int} {b : Addr} (hd : decode bytes pc = .ok (.ifnonnull o, 3)) (r : Run p e below m K T pc' L st) (ho : 0 ≤ (pc : Int) + o := by decide) (hp : ((pc : Int) + o).toNat = pc' := by decide) : Run p e below m K T pc L (.ref b :: st) := by
  obtain ⟨⟨locs, X, -⟩, -, hx, hby, -⟩ := X
  subst hby
  exact Run.of (fun t k => XS.ifnonnullYes X.here hx rfl (pc0 := pc) (pc' := pc') rfl hd rfl ho hp k) r
theorem r_ifnonnullN (pc' : Nat) (X : Cx p l e R s m args below meth c Z bytes ml own ret mname n0 T h cells slots) {o : Int}  (hd : decode bytes pc = .ok (.ifnonnull o, 3)) (r : Run p e below m K T pc' L st) (q : pc + 3 = pc' := by rfl) : Run p e below m K T pc L (.null :: st) := by
  obtain ⟨⟨locs, X, -⟩, -, hx, hby, -⟩ := X
  subst q hby
  exact Run.of (fun t k => XS.ifnonnullNo X.here hx rfl hd rfl k) r
theorem r_acmpY (pc' : Nat) (X : Cx p l e R s m args below meth c Z bytes ml own ret mname n0 T h cells slots) {cd : ACond} {o : Int} {a b : Addr} (hd : decode bytes pc = .ok (.if_acmp cd o, 3)) (hc : if_acmp.holds cd (some a) (some b) = true) (r : Run p e below m K T pc' L st) (ho : 0 ≤ (pc : Int) + o := by decide) (hp : ((pc : Int) + o).toNat = pc' := by decide) : Run p e below m K T pc L (.ref b :: .ref a :: st) := by
  obtain ⟨⟨locs, X, -⟩, -, hx, hby, -⟩ := X
  subst hby
  exact Run.of (fun t k => XS.acmpYes X.here hx rfl (pc0 := pc) (pc' := pc') rfl hd rfl hc ho hp k) r
theorem r_acmpN (pc' : Nat) (X : Cx p l e R s m args below meth c Z bytes ml own ret mname n0 T h cells slots) {cd : ACond} {o : Int} {a b : Addr} (hd : decode bytes pc = .ok (.if_acmp cd o, 3)) (hc : if_acmp.holds cd (some a) (some b) = false) (r : Run p e below m K T pc' L st) (q : pc + 3 = pc' := by rfl) : Run p e below m K T pc L (.ref b :: .ref a :: st) := by
  obtain ⟨⟨locs, X, -⟩, -, hx, hby, -⟩ := X
  subst q hby
  exact Run.of (fun t k => XS.acmpNo X.here hx rfl hd rfl hc k) r
theorem r_ldcInt (pc' : Nat) (X : Cx p l e R s m args below meth c Z bytes ml own ret mname n0 T h cells slots) {a0 : Array Value} {i : Nat} {z : Int32} (w : (Jvm.Cond.constant own i z).before a0 Z = true) (hd : decode bytes pc = .ok (.ldc i, 2)) (r : Run p e below m K T pc' L (.int z :: st)) (q : pc + 2 = pc' := by rfl) : Run p e below m K T pc L st := by
  obtain ⟨⟨locs, X, -⟩, -, hx, hby, -, hZ, hown, -⟩ := X
  subst q hby
  exact Run.of (fun t k => X.ldcInt hx hown (mvT hZ w) (g := mkF m pc L st) rfl hd _ k) r
theorem r_ldcwInt (pc' : Nat) (X : Cx p l e R s m args below meth c Z bytes ml own ret mname n0 T h cells slots) {a0 : Array Value} {i : Nat} {z : Int32} (w : (Jvm.Cond.constant own i z).before a0 Z = true) (hd : decode bytes pc = .ok (.ldc_w i, 3)) (r : Run p e below m K T pc' L (.int z :: st)) (q : pc + 3 = pc' := by rfl) : Run p e below m K T pc L st := by
  obtain ⟨⟨locs, X, -⟩, -, hx, hby, -, hZ, hown, -⟩ := X
  subst q hby
  exact Run.of (fun t k => X.ldcwInt hx hown (mvT hZ w) (g := mkF m pc L st) rfl hd _ k) r
theorem r_ldc2Long (pc' : Nat) (X : Cx p l e R s m args below meth c Z bytes ml own ret mname n0 T h cells slots) {a0 : Array Value} {i : Nat} {z : Int64} (w : (Jvm.Cond.constantLong own i z).before a0 Z = true) (hd : decode bytes pc = .ok (.ldc2_w i, 3)) (r : Run p e below m K T pc' L (.long z :: st)) (q : pc + 3 = pc' := by rfl) : Run p e below m K T pc L st := by
  obtain ⟨⟨locs, X, -⟩, -, hx, hby, -, hZ, hown, -⟩ := X
  subst q hby
  exact Run.of (fun t k => X.ldc2Long hx hown (mvT hZ w) (g := mkF m pc L st) rfl hd _ k) r
theorem r_getfield (pc' : Nat) (X : Cx p l e R s m args below meth c Z bytes ml own ret mname n0 T h cells slots) {a0 : Array Value} {R0 O n d host : String} {index : Nat} (w : (Jvm.Cond.fieldLink own index R0 n d).before a0 Z = true ∨ (Jvm.Cond.fieldLinkNest own index R0 n d host).before a0 Z = true) (via : Via Z R0 O n d) {a : Addr} {v : Value} (F : Fld Z h a O n d v) (hd : decode bytes pc = .ok (.getfield index, 3)) (r : ∀ T', Cx p l e R s m args below meth c Z bytes ml own ret mname n0 T' h cells slots → Run p e below m K T' pc' L (v :: st)) (q : pc + 3 = pc' := by rfl) : Run p e below m K T pc L (.ref a :: st) := by
  obtain ⟨⟨locs, X, N⟩, e0, hx, hby, hml, hZ, hown, r1⟩ := X
  subst q
  obtain ⟨T', X', e', stp⟩ := getF X hx hZ hown w via e0 F (g := mkF m pc L (.ref a :: st)) rfl rfl (hb hby hd)
  exact Run.of stp (r T' ⟨⟨locs, X', N⟩, e', hx, hby, hml, hZ, hown, r1⟩)
theorem r_getstatic (pc' : Nat) (X : Cx p l e R s m args below meth c Z bytes ml own ret mname n0 T h cells slots) {a0 : Array Value} {R0 O n d host : String} {index : Nat} (w : (Jvm.Cond.fieldLink own index R0 n d).before a0 Z = true ∨ (Jvm.Cond.fieldLinkNest own index R0 n d host).before a0 Z = true) (via : Via Z R0 O n d) {v : Value} (F : Sta Z h O n d v) (hd : decode bytes pc = .ok (.getstatic index, 3)) (r : ∀ T', Cx p l e R s m args below meth c Z bytes ml own ret mname n0 T' h cells slots → Run p e below m K T' pc' L (v :: st)) (q : pc + 3 = pc' := by rfl) : Run p e below m K T pc L st := by
  obtain ⟨⟨locs, X, N⟩, e0, hx, hby, hml, hZ, hown, r1⟩ := X
  subst q
  obtain ⟨T', X', e', stp⟩ := getS2 X hx hZ hown w via e0 F (g := mkF m pc L st) rfl (hb hby hd)
  exact Run.of stp (r T' ⟨⟨locs, X', N⟩, e', hx, hby, hml, hZ, hown, r1⟩)
theorem r_putfield (pc' : Nat) (X : Cx p l e R s m args below meth c Z bytes ml own ret mname n0 T h cells slots) {a0 : Array Value} {R0 O n d host C : String} {index kk : Nat} {ty : FieldType} (w : (Jvm.Cond.fieldLink own index R0 n d).before a0 Z = true ∨ (Jvm.Cond.fieldLinkNest own index R0 n d host).before a0 Z = true) (via : Via Z R0 O n d) {a : Addr} {v old : Value} (F : Fld Z h a O n d old) (E : Exa Z h a C) (Lw : (Jvm.Cond.lays C O n d).before a0 Z = true ∨ ((Jvm.Cond.laysFinal C O n d).before a0 Z = true ∧ own = O ∧ mname = "<init>")) (wi : (Jvm.Cond.instantiable C kk).before a0 Z = true) (hty : parseFieldDescriptor d = some ty) (hn : narrow ty v = v) (hf : fits ty v = true) (ga : n0 ≤ a) (hd : decode bytes pc = .ok (.putfield index, 3)) (r : ∀ T' h', Wr h h' a (Jvm.RoadKit.slotOf Z O n d) v → Cx p l e R s m args below meth c Z bytes ml own ret mname n0 T' h' cells slots → Run p e below m K T' pc' L st) (q : pc + 3 = pc' := by rfl) : Run p e below m K T pc L (v :: .ref a :: st) := by
  obtain ⟨⟨locs, X, N⟩, e0, hx, hby, hml, hZ, hown, hret, hnm, hlk, hsz⟩ := X
  subst q
  obtain ⟨T', h', X', e', W', stp⟩ := putF X hx hZ hown w via e0 F E (Lw.imp id fun q => ⟨q.1, q.2.1, hnm.trans q.2.2⟩) wi hty hn hf (g := mkF m pc L (v :: .ref a :: st)) rfl rfl (hb hby hd)
  exact Run.of stp (r T' h' W' ⟨⟨_, X', Fr.snoc X' N ga⟩, e', hx, hby, hml, hZ, hown, hret, hnm, hlk, by rw [W'.size]; exact hsz⟩)
theorem r_putfieldN (pc' : Nat) (X : Cx p l e R s m args below meth c Z bytes ml own ret mname n0 T h cells slots) {a0 : Array Value} {R0 O n d C : String} {index kk : Nat} {ty : FieldType} (w : (Jvm.Cond.fieldLink own index R0 n d).before a0 Z = true) (via : Via Z R0 O n d) {a : Addr} {v v' old : Value} (F : Fld Z h a O n d old) (E : Exa Z h a C) (Lw : (Jvm.Cond.lays C O n d).before a0 Z = true ∨ ((Jvm.Cond.laysFinal C O n d).before a0 Z = true ∧ own = O ∧ mname = "<init>")) (wi : (Jvm.Cond.instantiable C kk).before a0 Z = true) (hty : parseFieldDescriptor d = some ty) (hn : narrow ty v = v') (hf : fits ty v' = true) (ga : n0 ≤ a) (hd : decode bytes pc = .ok (.putfield index, 3)) (r : ∀ T' h', Wr h h' a (Jvm.RoadKit.slotOf Z O n d) v' → Cx p l e R s m args below meth c Z bytes ml own ret mname n0 T' h' cells slots → Run p e below m K T' pc' L st) (q : pc + 3 = pc' := by rfl) : Run p e below m K T pc L (v :: .ref a :: st) := by
  obtain ⟨⟨locs, X, N⟩, e0, hx, hby, hml, hZ, hown, hret, hnm, hlk, hsz⟩ := X
  subst q
  obtain ⟨T', h', X', e', W', stp⟩ := putFN X hx hZ hown w via e0 F E (Lw.imp id fun q => ⟨q.1, q.2.1, hnm.trans q.2.2⟩) wi hty hn hf (g := mkF m pc L (v :: .ref a :: st)) rfl rfl (hb hby hd)
  exact Run.of stp (r T' h' W' ⟨⟨_, X', Fr.snoc X' N ga⟩, e', hx, hby, hml, hZ, hown, hret, hnm, hlk, by rw [W'.size]; exact hsz⟩)
theorem r_new (pc' : Nat) (X : Cx p l e R s m args below meth c Z bytes ml own ret mname n0 T h cells slots) {a0 : Array Value} {C : String} {index n : Nat} (w : (Jvm.Cond.classLink own index C).before a0 Z = true) (wi : (Jvm.Cond.instantiable C n).before a0 Z = true) (wz : (Jvm.Cond.initialized C).before a0 Z = true) (hd : decode bytes pc = .ok (.new index, 3)) (hc : cells + 1 ≤ R.cells) (hl : slots + n ≤ R.slots) (r : ∀ T' h' b, b = h.size → n0 ≤ b → Ext h h' → Exa Z h' b C → (∀ {O nm d : String} {ty : FieldType}, Laid Z a0 C O nm d → parseFieldDescriptor d = some ty → Fld Z h' b O nm d (defaultValue ty)) → Cx p l e R s m args below meth c Z bytes ml own ret mname n0 T' h' (cells + 1) (slots + n) → Run p e below m K T' pc' L (.ref b :: st)) (q : pc + 3 = pc' := by rfl) : Run p e below m K T pc L st := by
  obtain ⟨⟨locs, X, N⟩, e0, hx, hby, hml, hZ, hown, hret, hnm, hlk, hsz⟩ := X
  subst q
  obtain ⟨T', h', X', e', E', A', D', -, stp⟩ := newO X hx hZ hown w wi wz e0 (g := mkF m pc L st) rfl (hb hby hd) hc hl
  exact Run.of stp (r T' h' h.size rfl hsz E' A' D' ⟨⟨_, X', N⟩, e', hx, hby, hml, hZ, hown, hret, hnm, hlk, Nat.le_trans hsz E'.1⟩)
theorem r_newarray (pc' : Nat) (X : Cx p l e R s m args below meth c Z bytes ml own ret mname n0 T h cells slots) {a0 : Array Value} {aty : ArrayType} {z : Int32} (n cap : Nat) (w : (Jvm.Cond.arrayClass (newarray.typeOf aty)).before a0 Z = true) (hd : decode bytes pc = .ok (.newarray aty, 2)) (hz : z.toInt = (n : Int)) (hcap : n ≤ cap) (hb8 : cap * 8 ≤ 536870912) (hc : cells + 1 ≤ R.cells) (hl : slots + cap ≤ R.slots) (r : ∀ T' h' b, b = h.size → n0 ≤ b → Ext h h' → AF Z h' b (newarray.typeOf aty) n (fun _ => defaultValue (newarray.typeOf aty)) → Cx p l e R s m args below meth c Z bytes ml own ret mname n0 T' h' (cells + 1) (slots + cap) → Run p e below m K T' pc' L (.ref b :: st)) (q : pc + 2 = pc' := by rfl) : Run p e below m K T pc L (.int z :: st) := by
  obtain ⟨⟨locs, X, N⟩, e0, hx, hby, hml, hZ, hown, hret, hnm, hlk, hsz⟩ := X
  subst q
  have hz0 : ¬ z < 0 := by rw [Int32.lt_iff_toInt_lt]; have : (0 : Int32).toInt = 0 := rfl; omega
  have hzn : z.toNatClampNeg = n := by show z.toInt.toNat = n; omega
  have hzl := z.toInt_lt
  obtain ⟨T', h', cA, X', e', E', A', stp⟩ := newP X hx hZ w e0 (g := mkF m pc L (.int z :: st)) rfl (hb hby hd) rfl hz0 (cap := cap) (by rw [hzn]; exact hcap) hb8 hc hl
  refine Run.of stp (r T' h' h.size rfl hsz E' ⟨_, A', by rw [sz_new, hzn], by omega, fun j hj => ?_⟩ ⟨⟨_, X', N⟩, e', hx, hby, hml, hZ, hown, hret, hnm, hlk, Nat.le_trans hsz E'.1⟩)
  simp [newA, hzn, hj]
theorem r_arraylength (pc' : Nat) (X : Cx p l e R s m args below meth c Z bytes ml own ret mname n0 T h cells slots) {a : Addr} {ty : FieldType} {n : Nat} {f : Nat → Value} (A : AF Z h a ty n f) (z : Int32) (hz : z.toInt = (n : Int)) (hd : decode bytes pc = .ok (.arraylength, 1)) (r : Run p e below m K T pc' L (.int z :: st)) (q : pc + 1 = pc' := by rfl) : Run p e below m K T pc L (.ref a :: st) := by
  obtain ⟨⟨locs, X, N⟩, e0, hx, hby, hml, hZ, hown, r1⟩ := X
  subst q hby
  obtain ⟨cl, A, S, q, -⟩ := A
  have ez : cl.slots.size.toInt32 = z := by rw [S]; apply Int32.toInt_inj.mp; rw [hz]; exact len_toInt q
  rw [← ez] at r
  exact Run.of (fun t k => X.arraylength hx (by rw [e0]; exact A.1) (State.isArrayOf_alike hZ.alike A.2.1) (g := mkF m pc L (.ref a :: st)) rfl rfl hd _ k) r
theorem r_iaload (pc' : Nat) (X : Cx p l e R s m args below meth c Z bytes ml own ret mname n0 T h cells slots) {a : Addr} {n : Nat} {f : Nat → Value} (A : AF Z h a .int n f) {j : Int32} {i : Nat} {v : Value} (hj : j.toInt = (i : Int)) (hi : i < n) (hv : f i = v) (hd : decode bytes pc = .ok (.iaload, 1)) (r : Run p e below m K T pc' L (v :: st)) (q : pc + 1 = pc' := by rfl) : Run p e below m K T pc L (.int j :: .ref a :: st) := by
  obtain ⟨⟨locs, X, N⟩, e0, hx, hby, hml, hZ, hown, r1⟩ := X
  subst q hby
  obtain ⟨cl, A, S, -, H⟩ := A
  obtain ⟨h1, h2⟩ := idx_of hj (S ▸ hi)
  exact Run.of (fun t k => X.iaload hx (j := j) (v := v) (by rw [e0]; exact A.1) (State.isArrayOf_alike hZ.alike A.2.1) A.2.2 h1 (by rw [h2, H i hi, hv]) (g := mkF m pc L (.int j :: .ref a :: st)) rfl rfl hd _ k) r
theorem r_laload (pc' : Nat) (X : Cx p l e R s m args below meth c Z bytes ml own ret mname n0 T h cells slots) {a : Addr} {n : Nat} {f : Nat → Value} (A : AF Z h a .long n f) {j : Int32} {i : Nat} {v : Value} (hj : j.toInt = (i : Int)) (hi : i < n) (hv : f i = v) (hd : decode bytes pc = .ok (.laload, 1)) (r : Run p e below m K T pc' L (v :: st)) (q : pc + 1 = pc' := by rfl) : Run p e below m K T pc L (.int j :: .ref a :: st) := by
  obtain ⟨⟨locs, X, N⟩, e0, hx, hby, hml, hZ, hown, r1⟩ := X
  subst q hby
  obtain ⟨cl, A, S, -, H⟩ := A
  obtain ⟨h1, h2⟩ := idx_of hj (S ▸ hi)
  exact Run.of (fun t k => X.laload hx (j := j) (v := v) (by rw [e0]; exact A.1) (State.isArrayOf_alike hZ.alike A.2.1) A.2.2 h1 (by rw [h2, H i hi, hv]) (g := mkF m pc L (.int j :: .ref a :: st)) rfl rfl hd _ k) r
theorem r_caload (pc' : Nat) (X : Cx p l e R s m args below meth c Z bytes ml own ret mname n0 T h cells slots) {a : Addr} {n : Nat} {f : Nat → Value} (A : AF Z h a .char n f) {j : Int32} {i : Nat} {v : Value} (hj : j.toInt = (i : Int)) (hi : i < n) (hv : f i = v) (hd : decode bytes pc = .ok (.caload, 1)) (r : Run p e below m K T pc' L (v :: st)) (q : pc + 1 = pc' := by rfl) : Run p e below m K T pc L (.int j :: .ref a :: st) := by
  obtain ⟨⟨locs, X, N⟩, e0, hx, hby, hml, hZ, hown, r1⟩ := X
  subst q hby
  obtain ⟨cl, A, S, -, H⟩ := A
  obtain ⟨h1, h2⟩ := idx_of hj (S ▸ hi)
  exact Run.of (fun t k => X.caload hx (j := j) (v := v) (by rw [e0]; exact A.1) (State.isArrayOf_alike hZ.alike A.2.1) A.2.2 h1 (by rw [h2, H i hi, hv]) (g := mkF m pc L (.int j :: .ref a :: st)) rfl rfl hd _ k) r
theorem r_baloadB (pc' : Nat) (X : Cx p l e R s m args below meth c Z bytes ml own ret mname n0 T h cells slots) {a : Addr} {n : Nat} {f : Nat → Value} (A : AF Z h a .byte n f) {j : Int32} {i : Nat} {v : Value} (hj : j.toInt = (i : Int)) (hi : i < n) (hv : f i = v) (hd : decode bytes pc = .ok (.baload, 1)) (r : Run p e below m K T pc' L (v :: st)) (q : pc + 1 = pc' := by rfl) : Run p e below m K T pc L (.int j :: .ref a :: st) := by
  obtain ⟨⟨locs, X, N⟩, e0, hx, hby, hml, hZ, hown, r1⟩ := X
  subst q hby
  obtain ⟨cl, A, S, -, H⟩ := A
  obtain ⟨h1, h2⟩ := idx_of hj (S ▸ hi)
  exact Run.of (fun t k => X.baloadBytes hx (j := j) (v := v) (by rw [e0]; exact A.1) (State.isArrayOf_alike hZ.alike A.2.1) A.2.2 h1 (by rw [h2, H i hi, hv]) (g := mkF m pc L (.int j :: .ref a :: st)) rfl rfl hd _ k) r
theorem r_baloadZ (pc' : Nat) (X : Cx p l e R s m args below meth c Z bytes ml own ret mname n0 T h cells slots) {a : Addr} {n : Nat} {f : Nat → Value} (A : AF Z h a .boolean n f) {j : Int32} {i : Nat} {v : Value} (hj : j.toInt = (i : Int)) (hi : i < n) (hv : f i = v) (hd : decode bytes pc = .ok (.baload, 1)) (r : Run p e below m K T pc' L (v :: st)) (q : pc + 1 = pc' := by rfl) : Run p e below m K T pc L (.int j :: .ref a :: st) := by
  obtain ⟨⟨locs, X, N⟩, e0, hx, hby, hml, hZ, hown, r1⟩ := X
  subst q hby
  obtain ⟨cl, A, S, -, H⟩ := A
  obtain ⟨h1, h2⟩ := idx_of hj (S ▸ hi)
  exact Run.of (fun t k => X.baloadBooleans hx (j := j) (v := v) (by rw [e0]; exact A.1) (State.isArrayOf_alike hZ.alike A.2.1) A.2.2 h1 (by rw [h2, H i hi, hv]) (g := mkF m pc L (.int j :: .ref a :: st)) rfl rfl hd _ k) r
theorem r_daload (pc' : Nat) (X : Cx p l e R s m args below meth c Z bytes ml own ret mname n0 T h cells slots) {a : Addr} {n : Nat} {f : Nat → Value} (A : AF Z h a .double n f) {j : Int32} {i : Nat} {v : Value} (hj : j.toInt = (i : Int)) (hi : i < n) (hv : f i = v) (hd : decode bytes pc = .ok (.daload, 1)) (r : Run p e below m K T pc' L (v :: st)) (q : pc + 1 = pc' := by rfl) : Run p e below m K T pc L (.int j :: .ref a :: st) := by
  obtain ⟨⟨locs, X, N⟩, e0, hx, hby, hml, hZ, hown, r1⟩ := X
  subst q hby
  obtain ⟨cl, A, S, -, H⟩ := A
  obtain ⟨h1, h2⟩ := idx_of hj (S ▸ hi)
  exact Run.of (fun t k => X.daload hx (j := j) (v := v) (by rw [e0]; exact A.1) (State.isArrayOf_alike hZ.alike A.2.1) A.2.2 h1 (by rw [h2, H i hi, hv]) (g := mkF m pc L (.int j :: .ref a :: st)) rfl rfl hd _ k) r
theorem r_iastore (pc' : Nat) (X : Cx p l e R s m args below meth c Z bytes ml own ret mname n0 T h cells slots) {a : Addr} {n : Nat} {f : Nat → Value} (A : AF Z h a .int n f) {j : Int32} {i : Nat} {x : Int32} {v : Value} (hj : j.toInt = (i : Int)) (hi : i < n) (hv : (.int x) = v) (ga : n0 ≤ a) (hd : decode bytes pc = .ok (.iastore, 1)) (r : ∀ T' h', Wr h h' a i v → Cx p l e R s m args below meth c Z bytes ml own ret mname n0 T' h' cells slots → Run p e below m K T' pc' L st) (q : pc + 1 = pc' := by rfl) : Run p e below m K T pc L ((.int x) :: .int j :: .ref a :: st) := by
  obtain ⟨⟨locs, X, N⟩, e0, hx, hby, hml, hZ, hown, hret, hnm, hlk, hsz⟩ := X
  subst q hv
  obtain ⟨cl, A, S, -, H⟩ := A
  obtain ⟨h1, h2⟩ := idx_of hj (S ▸ hi)
  obtain ⟨T', h', X', e', W', stp⟩ := stI X hx hZ e0 A (j := j) h1 (g := mkF m pc L ((.int x) :: .int j :: .ref a :: st)) rfl rfl (hb hby hd)
  exact Run.of stp (r T' h' (h2 ▸ W') ⟨⟨_, X', Fr.snoc X' N ga⟩, e', hx, hby, hml, hZ, hown, hret, hnm, hlk, by rw [W'.size]; exact hsz⟩)
theorem r_lastore (pc' : Nat) (X : Cx p l e R s m args below meth c Z bytes ml own ret mname n0 T h cells slots) {a : Addr} {n : Nat} {f : Nat → Value} (A : AF Z h a .long n f) {j : Int32} {i : Nat} {x : Int64} {v : Value} (hj : j.toInt = (i : Int)) (hi : i < n) (hv : (.long x) = v) (ga : n0 ≤ a) (hd : decode bytes pc = .ok (.lastore, 1)) (r : ∀ T' h', Wr h h' a i v → Cx p l e R s m args below meth c Z bytes ml own ret mname n0 T' h' cells slots → Run p e below m K T' pc' L st) (q : pc + 1 = pc' := by rfl) : Run p e below m K T pc L ((.long x) :: .int j :: .ref a :: st) := by
  obtain ⟨⟨locs, X, N⟩, e0, hx, hby, hml, hZ, hown, hret, hnm, hlk, hsz⟩ := X
  subst q hv
  obtain ⟨cl, A, S, -, H⟩ := A
  obtain ⟨h1, h2⟩ := idx_of hj (S ▸ hi)
  obtain ⟨T', h', X', e', W', stp⟩ := stJ X hx hZ e0 A (j := j) h1 (g := mkF m pc L ((.long x) :: .int j :: .ref a :: st)) rfl rfl (hb hby hd)
  exact Run.of stp (r T' h' (h2 ▸ W') ⟨⟨_, X', Fr.snoc X' N ga⟩, e', hx, hby, hml, hZ, hown, hret, hnm, hlk, by rw [W'.size]; exact hsz⟩)
theorem r_castore (pc' : Nat) (X : Cx p l e R s m args below meth c Z bytes ml own ret mname n0 T h cells slots) {a : Addr} {n : Nat} {f : Nat → Value} (A : AF Z h a .char n f) {j : Int32} {i : Nat} {x : Int32} {v : Value} (hj : j.toInt = (i : Int)) (hi : i < n) (hv : (.int (nar .char x)) = v) (ga : n0 ≤ a) (hd : decode bytes pc = .ok (.castore, 1)) (r : ∀ T' h', Wr h h' a i v → Cx p l e R s m args below meth c Z bytes ml own ret mname n0 T' h' cells slots → Run p e below m K T' pc' L st) (q : pc + 1 = pc' := by rfl) : Run p e below m K T pc L ((.int x) :: .int j :: .ref a :: st) := by
  obtain ⟨⟨locs, X, N⟩, e0, hx, hby, hml, hZ, hown, hret, hnm, hlk, hsz⟩ := X
  subst q hv
  obtain ⟨cl, A, S, -, H⟩ := A
  obtain ⟨h1, h2⟩ := idx_of hj (S ▸ hi)
  obtain ⟨T', h', X', e', W', stp⟩ := stC X hx hZ e0 A (j := j) h1 (g := mkF m pc L ((.int x) :: .int j :: .ref a :: st)) rfl rfl (hb hby hd)
  exact Run.of stp (r T' h' (h2 ▸ W') ⟨⟨_, X', Fr.snoc X' N ga⟩, e', hx, hby, hml, hZ, hown, hret, hnm, hlk, by rw [W'.size]; exact hsz⟩)
theorem r_bastoreB (pc' : Nat) (X : Cx p l e R s m args below meth c Z bytes ml own ret mname n0 T h cells slots) {a : Addr} {n : Nat} {f : Nat → Value} (A : AF Z h a .byte n f) {j : Int32} {i : Nat} {x : Int32} {v : Value} (hj : j.toInt = (i : Int)) (hi : i < n) (hv : (.int (nar .byte x)) = v) (ga : n0 ≤ a) (hd : decode bytes pc = .ok (.bastore, 1)) (r : ∀ T' h', Wr h h' a i v → Cx p l e R s m args below meth c Z bytes ml own ret mname n0 T' h' cells slots → Run p e below m K T' pc' L st) (q : pc + 1 = pc' := by rfl) : Run p e below m K T pc L ((.int x) :: .int j :: .ref a :: st) := by
  obtain ⟨⟨locs, X, N⟩, e0, hx, hby, hml, hZ, hown, hret, hnm, hlk, hsz⟩ := X
  subst q hv
  obtain ⟨cl, A, S, -, H⟩ := A
  obtain ⟨h1, h2⟩ := idx_of hj (S ▸ hi)
  obtain ⟨T', h', X', e', W', stp⟩ := stB X hx hZ e0 A (j := j) h1 (g := mkF m pc L ((.int x) :: .int j :: .ref a :: st)) rfl rfl (hb hby hd)
  exact Run.of stp (r T' h' (h2 ▸ W') ⟨⟨_, X', Fr.snoc X' N ga⟩, e', hx, hby, hml, hZ, hown, hret, hnm, hlk, by rw [W'.size]; exact hsz⟩)
theorem r_bastoreZ (pc' : Nat) (X : Cx p l e R s m args below meth c Z bytes ml own ret mname n0 T h cells slots) {a : Addr} {n : Nat} {f : Nat → Value} (A : AF Z h a .boolean n f) {j : Int32} {i : Nat} {x : Int32} {v : Value} (hj : j.toInt = (i : Int)) (hi : i < n) (hv : (.int (nar .boolean x)) = v) (ga : n0 ≤ a) (hd : decode bytes pc = .ok (.bastore, 1)) (r : ∀ T' h', Wr h h' a i v → Cx p l e R s m args below meth c Z bytes ml own ret mname n0 T' h' cells slots → Run p e below m K T' pc' L st) (q : pc + 1 = pc' := by rfl) : Run p e below m K T pc L ((.int x) :: .int j :: .ref a :: st) := by
  obtain ⟨⟨locs, X, N⟩, e0, hx, hby, hml, hZ, hown, hret, hnm, hlk, hsz⟩ := X
  subst q hv
  obtain ⟨cl, A, S, -, H⟩ := A
  obtain ⟨h1, h2⟩ := idx_of hj (S ▸ hi)
  obtain ⟨T', h', X', e', W', stp⟩ := stZ X hx hZ e0 A (j := j) h1 (g := mkF m pc L ((.int x) :: .int j :: .ref a :: st)) rfl rfl (hb hby hd)
  exact Run.of stp (r T' h' (h2 ▸ W') ⟨⟨_, X', Fr.snoc X' N ga⟩, e', hx, hby, hml, hZ, hown, hret, hnm, hlk, by rw [W'.size]; exact hsz⟩)
theorem r_dastore (pc' : Nat) (X : Cx p l e R s m args below meth c Z bytes ml own ret mname n0 T h cells slots) {a : Addr} {n : Nat} {f : Nat → Value} (A : AF Z h a .double n f) {j : Int32} {i : Nat} {x : UInt64} {v : Value} (hj : j.toInt = (i : Int)) (hi : i < n) (hv : (.double x) = v) (ga : n0 ≤ a) (hd : decode bytes pc = .ok (.dastore, 1)) (r : ∀ T' h', Wr h h' a i v → Cx p l e R s m args below meth c Z bytes ml own ret mname n0 T' h' cells slots → Run p e below m K T' pc' L st) (q : pc + 1 = pc' := by rfl) : Run p e below m K T pc L ((.double x) :: .int j :: .ref a :: st) := by
  obtain ⟨⟨locs, X, N⟩, e0, hx, hby, hml, hZ, hown, hret, hnm, hlk, hsz⟩ := X
  subst q hv
  obtain ⟨cl, A, S, -, H⟩ := A
  obtain ⟨h1, h2⟩ := idx_of hj (S ▸ hi)
  obtain ⟨T', h', X', e', W', stp⟩ := stD X hx hZ e0 A (j := j) h1 (g := mkF m pc L ((.double x) :: .int j :: .ref a :: st)) rfl rfl (hb hby hd)
  exact Run.of stp (r T' h' (h2 ▸ W') ⟨⟨_, X', Fr.snoc X' N ga⟩, e', hx, hby, hml, hZ, hown, hret, hnm, hlk, by rw [W'.size]; exact hsz⟩)
theorem r_initO (pc' : Nat) (X : Cx p l e R s m args below meth c Z bytes ml own ret mname n0 T h cells slots) {a0 : Array Value} {idx : Nat} (w1 : (Jvm.Cond.methodLink own idx Lib.objectInit).before a0 Z = true) (w2 : (Jvm.Cond.instanceMethod Lib.objectInit).before a0 Z = true) (w3 : (Jvm.Cond.code Lib.objectInit ⟨#[0xb1]⟩ 1 none).before a0 Z = true) {a : Addr} (hd : decode bytes pc = .ok (.invokespecial idx, 3)) (hsize : L.size = ml) (hf : 1 ≤ R.frames) (W : Nat) (hW : (st.map fun v => v.category).sum ≤ W) (hl : W + 12 ≤ R.locals) (r : ∀ T', Cx p l e R s m args below meth c Z bytes ml own ret mname n0 T' h cells slots → Run p e below m K T' pc' L st) (q : pc + 3 = pc' := by rfl) : Run p e below m K T pc L (.ref a :: st) := by
  obtain ⟨⟨locs, X, N⟩, e0, hx, hby, hml, hZ, hown, r1⟩ := X
  subst q
  obtain ⟨T', X', e', stp⟩ := initO X hx hZ hown w1 w2 w3 e0 (g := mkF m pc L (.ref a :: st)) rfl (by rw [hml]; exact hsize) rfl (hb hby hd) hf (W := W) (by show 2 * 0 + _ ≤ _; omega) hl
  exact Run.of stp (r T' ⟨⟨_, X', N⟩, e', hx, hby, hml, hZ, hown, r1⟩)
theorem met_of {l : Launch} {Z : State} {n0 : Nat} {ws : List Jvm.Cond} {y : MethodName} {bytes : ByteArray} {ml : Nat} {ret : Option FieldType} {rm : Room} {as : Array Value} {h0 : Heap} {Q : Option Value → Heap → Prop} {L0 : Array Slot} (hpl : plainFor y = true) (hn0 : n0 ≤ h0.size) (ef : ∀ m, entryFrame m as ml = mkF m 0 L0 [])
    (body : ∀ p e s m below meth c T, s.heap = h0 → Cx p l e rm s m as below meth c Z bytes ml y.cls ret y.name n0 T h0 0 0 → Run p e below m (Fin1 below s n0 Q rm.cells rm.slots) T 0 L0 []) : Met1 l Z n0 ws y bytes ml ret rm as h0 Q := by
  refine MetFree.of_bodySF hpl hisR ?_
  intro p e s m args below meth c s₁ Bd hml0 hP hK
  obtain ⟨rfl, hZ, hh⟩ := hP
  have hlk : meth.locks = false := BodyLoose.notSynchronized Bd
  obtain ⟨u, h1, h2, o, h3, h4⟩ := body p e s m below meth c s₁ hh ⟨⟨[], Stand.of_body Bd, Fr.nil n0⟩, by rw [← hh, Bd.state]; rfl, Bd.exec, Bd.bytes, hml0, hZ, findClass_of_methodNamed Bd.named, Bd.returns, (name_of_methodNamed Bd.named Bd.method).1, hlk, hn0⟩
  exact ⟨u, o, castTop (ef m) h1, h2, h3, h4⟩
theorem fin_of {Q : Option Value → Heap → Prop} {cN sN : Nat} {v : Option Value} (X : Cx p l e R s m args below meth c Z bytes ml own ret mname n0 T h cells slots) (hc : cells ≤ cN) (hs : slots ≤ sN) (hQ : Q v h) (hv : ret = none → v = none) (stp : ∀ {T : State} {locs : List Loc} (X : Stand p l e R s m args below meth c T locs cells slots) (hx : p.tables.exec = Jvm.exec) (hret : meth.sig.returnType = ret) {fs : List Frame}, (∀ (f : JFrame) (acts : List Action), f.method = m → f.locked = none → f.entered = [] → (doReturn e (T.setTop f) acts v).1 = T.setFrames fs) → Steps p.tables e below (T.setTop (mkF m pc L st)) (T.setFrames fs)) : Run p e below m (Fin1 below s n0 Q cN sN) T pc L st := by
  obtain ⟨⟨locs, X, N⟩, e0, hx, hby, hml, hZ, hown, hret, hnm, hlk, hsz⟩ := X
  obtain ⟨fs, hr, hrun, hended, hW, hsame⟩ := X.leave (v := v) (fun q => hv (hret.symm.trans q)) hlk
  refine ⟨_, stp X hx hret hr, hrun, _, hended, v, locs, rfl, ⟨?_, N, ?_⟩, ⟨_, rfl⟩, hW, hsame.mono hc hs⟩
  · show Q v T.heap; rw [e0]; exact hQ
  · show n0 ≤ T.heap.size; rw [e0]; exact hsz
theorem r_retZ {Q : Option Value → Heap → Prop} {cN sN : Nat} (X : Cx p l e R s m args below meth c Z bytes ml own (some .boolean) mname n0 T h cells slots) {x z : Int32} (hd : decode bytes pc = .ok (.ireturn, 1)) (hz : nar .boolean x = z) (hc : cells ≤ cN) (hs : slots ≤ sN) (hQ : Q (some (.int z)) h) : Run p e below m (Fin1 below s n0 Q cN sN) T pc L (.int x :: st) := by
  have hby := X.2.2.2.1
  subst hz
  exact fin_of X hc hs hQ (fun q => by cases q) (fun X hx hret fs hr => retN X hx (t := .boolean) hret (by simp) (hb hby hd) hr)
theorem r_retB {Q : Option Value → Heap → Prop} {cN sN : Nat} (X : Cx p l e R s m args below meth c Z bytes ml own (some .byte) mname n0 T h cells slots) {x z : Int32} (hd : decode bytes pc = .ok (.ireturn, 1)) (hz : nar .byte x = z) (hc : cells ≤ cN) (hs : slots ≤ sN) (hQ : Q (some (.int z)) h) : Run p e below m (Fin1 below s n0 Q cN sN) T pc L (.int x :: st) := by
  have hby := X.2.2.2.1
  subst hz
  exact fin_of X hc hs hQ (fun q => by cases q) (fun X hx hret fs hr => retN X hx (t := .byte) hret (by simp) (hb hby hd) hr)
theorem r_retC {Q : Option Value → Heap → Prop} {cN sN : Nat} (X : Cx p l e R s m args below meth c Z bytes ml own (some .char) mname n0 T h cells slots) {x z : Int32} (hd : decode bytes pc = .ok (.ireturn, 1)) (hz : nar .char x = z) (hc : cells ≤ cN) (hs : slots ≤ sN) (hQ : Q (some (.int z)) h) : Run p e below m (Fin1 below s n0 Q cN sN) T pc L (.int x :: st) := by
  have hby := X.2.2.2.1
  subst hz
  exact fin_of X hc hs hQ (fun q => by cases q) (fun X hx hret fs hr => retN X hx (t := .char) hret (by simp) (hb hby hd) hr)
theorem r_retS {Q : Option Value → Heap → Prop} {cN sN : Nat} (X : Cx p l e R s m args below meth c Z bytes ml own (some .short) mname n0 T h cells slots) {x z : Int32} (hd : decode bytes pc = .ok (.ireturn, 1)) (hz : nar .short x = z) (hc : cells ≤ cN) (hs : slots ≤ sN) (hQ : Q (some (.int z)) h) : Run p e below m (Fin1 below s n0 Q cN sN) T pc L (.int x :: st) := by
  have hby := X.2.2.2.1
  subst hz
  exact fin_of X hc hs hQ (fun q => by cases q) (fun X hx hret fs hr => retN X hx (t := .short) hret (by simp) (hb hby hd) hr)
theorem r_retI {Q : Option Value → Heap → Prop} {cN sN : Nat} (X : Cx p l e R s m args below meth c Z bytes ml own (some .int) mname n0 T h cells slots) {x : Int32} (hd : decode bytes pc = .ok (.ireturn, 1)) (hc : cells ≤ cN) (hs : slots ≤ sN) (hQ : Q (some (.int x)) h) : Run p e below m (Fin1 below s n0 Q cN sN) T pc L (.int x :: st) := by
  have hby := X.2.2.2.1
  exact fin_of X hc hs hQ (fun q => by cases q) (fun X hx hret fs hr => retOut X hx (t := .int) hret rfl (Or.inl ⟨rfl, Or.inl rfl, _, rfl⟩) (hb hby hd) hr)
theorem r_retJ {Q : Option Value → Heap → Prop} {cN sN : Nat} (X : Cx p l e R s m args below meth c Z bytes ml own (some .long) mname n0 T h cells slots) {x : Int64} (hd : decode bytes pc = .ok (.lreturn, 1)) (hc : cells ≤ cN) (hs : slots ≤ sN) (hQ : Q (some (.long x)) h) : Run p e below m (Fin1 below s n0 Q cN sN) T pc L (.long x :: st) := by
  have hby := X.2.2.2.1
  exact fin_of X hc hs hQ (fun q => by cases q) (fun X hx hret fs hr => retOut X hx (t := .long) hret rfl (Or.inr (Or.inl ⟨rfl, rfl, _, rfl⟩)) (hb hby hd) hr)
theorem r_retA {Q : Option Value → Heap → Prop} {cN sN : Nat} {t : FieldType} (X : Cx p l e R s m args below meth c Z bytes ml own (some t) mname n0 T h cells slots) {x : Value} (hd : decode bytes pc = .ok (.areturn, 1)) (ht : t.isReference = true) (hn : narrow t x = x) (hx : x.isRef = true) (hc : cells ≤ cN) (hs : slots ≤ sN) (hQ : Q (some x) h) : Run p e below m (Fin1 below s n0 Q cN sN) T pc L (x :: st) := by
  have hby := X.2.2.2.1
  exact fin_of X hc hs hQ (fun q => by cases q) (fun X hx' hret fs hr => retOut X hx' (t := t) hret hn (Or.inr (Or.inr (Or.inr (Or.inr ⟨rfl, ht, hx⟩)))) (hb hby hd) hr)
theorem r_retV {Q : Option Value → Heap → Prop} {cN sN : Nat} (X : Cx p l e R s m args below meth c Z bytes ml own none mname n0 T h cells slots) (hd : decode bytes pc = .ok (.return_, 1)) (hc : cells ≤ cN) (hs : slots ≤ sN) (hQ : Q none h) : Run p e below m (Fin1 below s n0 Q cN sN) T pc L [] := by
  have hby := X.2.2.2.1
  exact fin_of X hc hs hQ (fun _ => rfl) (fun X hx hret fs hr => X.returnOut hx hret (hb hby hd) hr)
theorem r_callS (pc' : Nat) (X : Cx p l e R s m args below meth c Z bytes ml own ret mname n0 T h cells slots) {a0 : Array Value} {y : MethodName} {by' : ByteArray} {ml' : Nat} {ret' : Option FieldType} {rm : Room} {as : Array Value} {Q : Option Value → Heap → Prop} {index : Nat}  (hM : Met1 l Z n0 [] y by' ml' ret' rm as h Q) (w1 : (Jvm.Cond.methodLink own index y).before a0 Z = true) (w2 : (Jvm.Cond.static y).before a0 Z = true) (wc : (Jvm.Cond.code y by' ml' ret').before a0 Z = true) (wz : (Jvm.Cond.initialized y.cls).before a0 Z = true) (hy : y.cls ≠ "java/lang/invoke/MethodHandle" ∧ y.cls ≠ "java/lang/invoke/VarHandle") {ps : List FieldType} {rt : Option FieldType} (pd : parseMethodDescriptor y.desc = some ⟨ps, rt⟩) (argsL : List Value) (has : argsL.toArray = as) (hln : argsL.length = ps.length) (W : Nat) (hW : (st.map fun v => v.category).sum ≤ W) (hsize : L.size = ml) (hf : rm.frames + 1 ≤ R.frames) (hl : W + (ml' + 11) + rm.locals ≤ R.locals) (hc : cells + rm.cells ≤ R.cells) (hs : slots + rm.slots ≤ R.slots) (hd : decode bytes pc = .ok (.invokestatic index, 3)) (r : ∀ T' h' v, Q v h' → Cx p l e R s m args below meth c Z bytes ml own ret mname n0 T' h' (cells + rm.cells) (slots + rm.slots) → Run p e below m K T' pc' L (v.toList ++ st)) (q : pc + 3 = pc' := by rfl) {S : List Value} (hS : S = argsL.reverse ++ st := by rfl) : Run p e below m K T pc L S := by
  obtain ⟨⟨locs, X, N⟩, e0, hx, hby, hml, hZ, hown, hret, hnm, hlk, hsz⟩ := X
  subst q has hS
  obtain ⟨v, _, ⟨T', L', k', n'⟩, -, X', ⟨Lc, hQ', l', y', z'⟩, stp⟩ := Jvm.LawKit.callS X hx (y := y) hown (mvT hZ w1) (mvT hZ w2) (mvT hZ wz) (mvT hZ wc) hy (backOf (W := W) (Q := fun v h' L => Q v h' ∧ Fr n0 L ∧ n0 ≤ h'.size) hM hZ wc wz hf hl) (g := mkF m pc L (argsL.reverse ++ st)) rfl (by rw [hml]; exact hsize) (argsL := argsL) (rest := st) (lenOf pd hln) rfl (by show 2 * 0 + _ ≤ _; omega) (hb hby hd) (fun _ _ => ⟨rfl, e0, hc, hs⟩)
  dsimp only [Pt.U, Pt.locs, Pt.cells, Pt.slots] at X' l' y' z' stp hQ'
  subst l' y' z'
  obtain ⟨hQ1, N1, hs1⟩ := hQ'
  exact Run.of stp (r T' _ v hQ1 ⟨⟨_, X', Fr.app N N1⟩, rfl, hx, hby, hml, hZ, hown, hret, hnm, hlk, hs1⟩)
theorem r_special (pc' : Nat) (X : Cx p l e R s m args below meth c Z bytes ml own ret mname n0 T h cells slots) {a0 : Array Value} {y : MethodName} {by' : ByteArray} {ml' : Nat} {ret' : Option FieldType} {rm : Room} {as : Array Value} {Q : Option Value → Heap → Prop} {index : Nat} {a : Addr} (hM : Met1 l Z n0 [] y by' ml' ret' rm as h Q) (hyn : y.name = "<init>") (hr0 : ret' = none) (w1 : (Jvm.Cond.methodLink own index y).before a0 Z = true) (w2 : (Jvm.Cond.instanceMethod y).before a0 Z = true) (wc : (Jvm.Cond.code y by' ml' ret').before a0 Z = true) (wz : (Jvm.Cond.initialized y.cls).before a0 Z = true) (hy : y.cls ≠ "java/lang/invoke/MethodHandle" ∧ y.cls ≠ "java/lang/invoke/VarHandle") {ps : List FieldType} {rt : Option FieldType} (pd : parseMethodDescriptor y.desc = some ⟨ps, rt⟩) (argsL : List Value) (has : (Value.ref a :: argsL).toArray = as) (hln : argsL.length = ps.length) (W : Nat) (hW : (st.map fun v => v.category).sum ≤ W) (hsize : L.size = ml) (hf : rm.frames + 1 ≤ R.frames) (hl : W + (ml' + 11) + rm.locals ≤ R.locals) (hc : cells + rm.cells ≤ R.cells) (hs : slots + rm.slots ≤ R.slots) (hd : decode bytes pc = .ok (.invokespecial index, 3)) (r : ∀ T' h' v, Q v h' → Cx p l e R s m args below meth c Z bytes ml own ret mname n0 T' h' (cells + rm.cells) (slots + rm.slots) → Run p e below m K T' pc' L (v.toList ++ st)) (q : pc + 3 = pc' := by rfl) {S : List Value} (hS : S = argsL.reverse ++ Value.ref a :: st := by rfl) : Run p e below m K T pc L S := by
  obtain ⟨⟨locs, X, N⟩, e0, hx, hby, hml, hZ, hown, hret, hnm, hlk, hsz⟩ := X
  subst q has hS
  subst hr0
  obtain ⟨v, _, ⟨T', L', k', n'⟩, -, X', ⟨Lc, hQ', l', y', z'⟩, stp⟩ := X.specialBack hx (y := y) hyn hown (mvT hZ w1) (mvT hZ w2) (mvT hZ wc) hy (backOf (W := W) (Q := fun v h' L => Q v h' ∧ Fr n0 L ∧ n0 ≤ h'.size) hM hZ wc wz hf hl) (g := mkF m pc L (argsL.reverse ++ .ref a :: st)) rfl (by rw [hml]; exact hsize) (Steps.refl _) (a := a) (argsL := argsL) (rest := st) (lenOf pd hln) rfl (by show 2 * 0 + _ ≤ _; omega) (hb hby hd) (fun _ _ => ⟨rfl, e0, hc, hs⟩)
  dsimp only [Pt.U, Pt.locs, Pt.cells, Pt.slots] at X' l' y' z' stp hQ'
  subst l' y' z'
  obtain ⟨hQ1, N1, hs1⟩ := hQ'
  exact Run.of (fun t k => stp.trans k) (r T' _ v hQ1 ⟨⟨_, X', Fr.app N N1⟩, rfl, hx, hby, hml, hZ, hown, hret, hnm, hlk, hs1⟩)
theorem r_virtual (pc' : Nat) (X : Cx p l e R s m args below meth c Z bytes ml own ret mname n0 T h cells slots) {a0 : Array Value} {y : MethodName} {by' : ByteArray} {ml' : Nat} {ret' : Option FieldType} {rm : Room} {as : Array Value} {Q : Option Value → Heap → Prop} {index : Nat} {a : Addr} {C : String} (hM : Met1 l Z n0 [] y by' ml' ret' rm as h Q) (E : Exa Z h a C) (w1 : (Jvm.Cond.methodLink own index y).before a0 Z = true) (w3 : (Jvm.Cond.declares y).before a0 Z = true) (wf : (Jvm.Cond.selects y.cls y y).before a0 Z = true) (w4 : (Jvm.Cond.selects C y y).before a0 Z = true) (w2 : (Jvm.Cond.instanceMethod y).before a0 Z = true) (wc : (Jvm.Cond.code y by' ml' ret').before a0 Z = true) (wz : (Jvm.Cond.initialized y.cls).before a0 Z = true) (hy : y.cls ≠ "java/lang/invoke/MethodHandle" ∧ y.cls ≠ "java/lang/invoke/VarHandle") {ps : List FieldType} {rt : Option FieldType} (pd : parseMethodDescriptor y.desc = some ⟨ps, rt⟩) (argsL : List Value) (has : (Value.ref a :: argsL).toArray = as) (hln : argsL.length = ps.length) (W : Nat) (hW : (st.map fun v => v.category).sum ≤ W) (hsize : L.size = ml) (hf : rm.frames + 1 ≤ R.frames) (hl : W + (ml' + 11) + rm.locals ≤ R.locals) (hc : cells + rm.cells ≤ R.cells) (hs : slots + rm.slots ≤ R.slots) (hd : decode bytes pc = .ok (.invokevirtual index, 3)) (r : ∀ T' h' v, Q v h' → Cx p l e R s m args below meth c Z bytes ml own ret mname n0 T' h' (cells + rm.cells) (slots + rm.slots) → Run p e below m K T' pc' L (v.toList ++ st)) (q : pc + 3 = pc' := by rfl) {S : List Value} (hS : S = argsL.reverse ++ Value.ref a :: st := by rfl) : Run p e below m K T pc L S := by
  obtain ⟨⟨locs, X, N⟩, e0, hx, hby, hml, hZ, hown, hret, hnm, hlk, hsz⟩ := X
  subst q has hS
  obtain ⟨cq, kq, qa, qb, qc⟩ := isOf hZ e0 E
  obtain ⟨v, _, ⟨T', L', k', n'⟩, -, X', ⟨Lc, hQ', l', y', z'⟩, stp⟩ := X.virtualBack hx (C := C) (y := y) (z := y) hown (mvT hZ w1) (mvT hZ w3) (notFace_of_selects (args := #[]) (mvT hZ wf)) (mvT hZ w4) (mvT hZ w2) hy (backOf (W := W) (Q := fun v h' L => Q v h' ∧ Fr n0 L ∧ n0 ≤ h'.size) hM hZ wc wz hf hl) qa qc (g := mkF m pc L (argsL.reverse ++ .ref a :: st)) rfl (by rw [hml]; exact hsize) (Steps.refl _) (argsL := argsL) (rest := st) (lenOf pd hln) rfl (by show 2 * 0 + _ ≤ _; omega) (hb hby hd) (fun _ _ => ⟨rfl, e0, hc, hs⟩)
  dsimp only [Pt.U, Pt.locs, Pt.cells, Pt.slots] at X' l' y' z' stp hQ'
  subst l' y' z'
  obtain ⟨hQ1, N1, hs1⟩ := hQ'
  exact Run.of (fun t k => stp.trans k) (r T' _ v hQ1 ⟨⟨_, X', Fr.app N N1⟩, rfl, hx, hby, hml, hZ, hown, hret, hnm, hlk, hs1⟩)
theorem r_private (pc' : Nat) (X : Cx p l e R s m args below meth c Z bytes ml own ret mname n0 T h cells slots) {a0 : Array Value} {y : MethodName} {by' : ByteArray} {ml' : Nat} {ret' : Option FieldType} {rm : Room} {as : Array Value} {Q : Option Value → Heap → Prop} {index : Nat} {a : Addr} {C : String} (hM : Met1 l Z n0 [] y by' ml' ret' rm as h Q) (E : Exa Z h a C) (w1 : (Jvm.Cond.methodLink own index y).before a0 Z = true) (w2 : (Jvm.Cond.instanceMethod y).before a0 Z = true) {kk : Nat} (wi : (Jvm.Cond.instantiable y.cls kk).before a0 Z = true) (w4 : (Jvm.Cond.privateMethod y).before a0 Z = true) (wc : (Jvm.Cond.code y by' ml' ret').before a0 Z = true) (wz : (Jvm.Cond.initialized y.cls).before a0 Z = true) (hy : y.cls ≠ "java/lang/invoke/MethodHandle" ∧ y.cls ≠ "java/lang/invoke/VarHandle") {ps : List FieldType} {rt : Option FieldType} (pd : parseMethodDescriptor y.desc = some ⟨ps, rt⟩) (argsL : List Value) (has : (Value.ref a :: argsL).toArray = as) (hln : argsL.length = ps.length) (W : Nat) (hW : (st.map fun v => v.category).sum ≤ W) (hsize : L.size = ml) (hf : rm.frames + 1 ≤ R.frames) (hl : W + (ml' + 11) + rm.locals ≤ R.locals) (hc : cells + rm.cells ≤ R.cells) (hs : slots + rm.slots ≤ R.slots) (hd : decode bytes pc = .ok (.invokevirtual index, 3)) (r : ∀ T' h' v, Q v h' → Cx p l e R s m args below meth c Z bytes ml own ret mname n0 T' h' (cells + rm.cells) (slots + rm.slots) → Run p e below m K T' pc' L (v.toList ++ st)) (q : pc + 3 = pc' := by rfl) {S : List Value} (hS : S = argsL.reverse ++ Value.ref a :: st := by rfl) : Run p e below m K T pc L S := by
  obtain ⟨⟨locs, X, N⟩, e0, hx, hby, hml, hZ, hown, hret, hnm, hlk, hsz⟩ := X
  subst q has hS
  obtain ⟨cq, qq, qq'⟩ := E.cell
  obtain ⟨ci, ki, hi1, hi2, -, hi3, -⟩ := Cond.instantiable_spec (mvT hZ wi (args := #[]) : (Jvm.Cond.instantiable y.cls kk).before #[] s = true)
  have hpv := Cond.privateMethod_at (mvP hZ w4 (args := #[]))
  obtain ⟨v, _, ⟨T', L', k', n'⟩, -, X', ⟨Lc, hQ', l', y', z'⟩, stp⟩ := X.privateBack hx (y := y) hown (mvT hZ w1) (mvT hZ w2) (selects_self_of_private hi1 hi2 (Bool.or_eq_false_iff.mp hi3).1 hpv (mvT hZ w2) hy) hpv (mvT hZ wc) hy (backOf (W := W) (Q := fun v h' L => Q v h' ∧ Fr n0 L ∧ n0 ≤ h'.size) hM hZ wc wz hf hl) (g := mkF m pc L (argsL.reverse ++ .ref a :: st)) rfl (by rw [hml]; exact hsize) (Steps.refl _) (a := a) (by rw [e0]; exact qq) qq' (argsL := argsL) (rest := st) (lenOf pd hln) rfl (by show 2 * 0 + _ ≤ _; omega) (hb hby hd) (fun _ _ => ⟨rfl, e0, hc, hs⟩)
  dsimp only [Pt.U, Pt.locs, Pt.cells, Pt.slots] at X' l' y' z' stp hQ'
  subst l' y' z'
  obtain ⟨hQ1, N1, hs1⟩ := hQ'
  exact Run.of (fun t k => stp.trans k) (r T' _ v hQ1 ⟨⟨_, X', Fr.app N N1⟩, rfl, hx, hby, hml, hZ, hown, hret, hnm, hlk, hs1⟩)
theorem r_newarrayE (pc' : Nat) (X : Cx p l e R s m args below meth c Z bytes ml own ret mname n0 T h cells slots) {a0 : Array Value} {aty : ArrayType} {z : Int32} (n cap : Nat) (ad : String) (had : "[" ++ (newarray.typeOf aty).toString = ad) (w : (Jvm.Cond.arrayClass (newarray.typeOf aty)).before a0 Z = true) (hd : decode bytes pc = .ok (.newarray aty, 2)) (hz : z.toInt = (n : Int)) (hcap : n ≤ cap) (hb8 : cap * 8 ≤ 536870912) (hc : cells + 1 ≤ R.cells) (hl : slots + cap ≤ R.slots) (r : ∀ T' h' b, b = h.size → n0 ≤ b → Ext h h' → Exa Z h' b ad → AF Z h' b (newarray.typeOf aty) n (fun _ => defaultValue (newarray.typeOf aty)) → Cx p l e R s m args below meth c Z bytes ml own ret mname n0 T' h' (cells + 1) (slots + cap) → Run p e below m K T' pc' L (.ref b :: st)) (q : pc + 2 = pc' := by rfl) : Run p e below m K T pc L (.int z :: st) := by
  obtain ⟨⟨locs, X, N⟩, e0, hx, hby, hml, hZ, hown, hret, hnm, hlk, hsz⟩ := X
  subst q
  have hz0 : ¬ z < 0 := by rw [Int32.lt_iff_toInt_lt]; have : (0 : Int32).toInt = 0 := rfl; omega
  have hzn : z.toNatClampNeg = n := by show z.toInt.toNat = n; omega
  have hzl := z.toInt_lt
  obtain ⟨T', h', cA, X', e', E', A', Ex', stp⟩ := newPE X hx hZ w e0 (g := mkF m pc L (.int z :: st)) rfl (hb hby hd) rfl hz0 (cap := cap) (by rw [hzn]; exact hcap) hb8 hc hl had
  refine Run.of stp (r T' h' h.size rfl hsz E' Ex' ⟨_, A', by rw [sz_new, hzn], by omega, fun j hj => ?_⟩ ⟨⟨_, X', N⟩, e', hx, hby, hml, hZ, hown, hret, hnm, hlk, Nat.le_trans hsz E'.1⟩)
  simp [newA, hzn, hj]
theorem r_clone (pc' : Nat) (X : Cx p l e R s m args below meth c Z bytes ml own ret mname n0 T h cells slots) {a0 : Array Value} {ad : String} {index : Nat} (w1 : (Jvm.Cond.methodLink own index ⟨ad, "clone", "()Ljava/lang/Object;"⟩).before a0 Z = true) (w2 : (Jvm.Cond.sameMethod ad "java/lang/Object" "clone" "()Ljava/lang/Object;").before a0 Z = true) (w3 : (Jvm.Cond.native ⟨"java/lang/Object", "clone", "()Ljava/lang/Object;"⟩).before a0 Z = true) (w4 : (Jvm.Cond.instanceMethod ⟨"java/lang/Object", "clone", "()Ljava/lang/Object;"⟩).before a0 Z = true) (w5 : (Jvm.Cond.selects ad ⟨ad, "clone", "()Ljava/lang/Object;"⟩ ⟨"java/lang/Object", "clone", "()Ljava/lang/Object;"⟩).before a0 Z = true) (w6 : (Jvm.Cond.castable ad "java/lang/Cloneable").before a0 Z = true) {a : Addr} {ty : FieldType} {n : Nat} {f : Nat → Value} (A : AF Z h a ty n f) (E : Exa Z h a ad) (hfit : ∀ j, j < n → fits ty (f j) = true) (cap : Nat) (hcap : n ≤ cap) (W : Nat) (hW : (st.map fun v => v.category).sum ≤ W) (hsize : L.size = ml) (hf : 1 ≤ R.frames) (hl : W + 14 ≤ R.locals) (hc : cells + 1 ≤ R.cells) (hs : slots + cap ≤ R.slots) (hd : decode bytes pc = .ok (.invokevirtual index, 3)) (r : ∀ T' h' b, b = h.size → n0 ≤ b → Ext h h' → Exa Z h' b ad → AF Z h' b ty n f → Cx p l e R s m args below meth c Z bytes ml own ret mname n0 T' h' (cells + 1) (slots + cap) → Run p e below m K T' pc' L (.ref b :: st)) (q : pc + 3 = pc' := by rfl) : Run p e below m K T pc L (.ref a :: st) := by
  obtain ⟨⟨locs, X, N⟩, e0, hx, hby, hml, hZ, hown, hret, hnm, hlk, hsz⟩ := X
  subst q
  obtain ⟨cl, A, S, q, H⟩ := A
  have FC : FitC Z cl := fitC_of A fun i hi v hv => by rw [S] at hi; rw [H i hi] at hv; cases hv; exact hfit i hi
  obtain ⟨T', h', X', e', E', A', Ex', stp⟩ := cloneA X hx hZ hown w1 w2 w3 w4 w5 w6 e0 A E FC (g := mkF m pc L (.ref a :: st)) rfl (by rw [hml]; exact hsize) rfl (hb hby hd) hf (W := W) (cap := cap) (by show 2 * 0 + _ ≤ _; omega) hl (by rw [S]; exact hcap) hc hs
  exact Run.of stp (r T' h' h.size rfl hsz E' Ex' ⟨_, A', S, q, H⟩ ⟨⟨_, X', N⟩, e', hx, hby, hml, hZ, hown, hret, hnm, hlk, Nat.le_trans hsz E'.1⟩)
theorem r_castY (pc' : Nat) (X : Cx p l e R s m args below meth c Z bytes ml own ret mname n0 T h cells slots) {a0 : Array Value} {K0 : String} {index : Nat} (w : (Jvm.Cond.classLink own index K0).before a0 Z = true) {a : Addr} (F : Ins Z h a K0 true) (hd : decode bytes pc = .ok (.checkcast index, 3)) (r : ∀ T', Cx p l e R s m args below meth c Z bytes ml own ret mname n0 T' h cells slots → Run p e below m K T' pc' L (.ref a :: st)) (q : pc + 3 = pc' := by rfl) : Run p e below m K T pc L (.ref a :: st) := by
  obtain ⟨⟨locs, X, N⟩, e0, hx, hby, hml, hZ, hown, r1⟩ := X
  subst q
  obtain ⟨T', X', e', stp⟩ := castY X hx hZ hown w e0 F (g := mkF m pc L (.ref a :: st)) rfl rfl (hb hby hd)
  exact Run.of stp (r T' ⟨⟨locs, X', N⟩, e', hx, hby, hml, hZ, hown, r1⟩)
theorem r_instY (pc' : Nat) (X : Cx p l e R s m args below meth c Z bytes ml own ret mname n0 T h cells slots) {a0 : Array Value} {K0 : String} {index : Nat} (w : (Jvm.Cond.classLink own index K0).before a0 Z = true) {a : Addr} (F : Ins Z h a K0 true) (hd : decode bytes pc = .ok (.instanceof index, 3)) (r : ∀ T', Cx p l e R s m args below meth c Z bytes ml own ret mname n0 T' h cells slots → Run p e below m K T' pc' L (.int 1 :: st)) (q : pc + 3 = pc' := by rfl) : Run p e below m K T pc L (.ref a :: st) := by
  obtain ⟨⟨locs, X, N⟩, e0, hx, hby, hml, hZ, hown, r1⟩ := X
  subst q
  obtain ⟨T', X', e', stp⟩ := instY X hx hZ hown w e0 F (g := mkF m pc L (.ref a :: st)) rfl rfl (hb hby hd)
  exact Run.of stp (r T' ⟨⟨locs, X', N⟩, e', hx, hby, hml, hZ, hown, r1⟩)
theorem r_instN (pc' : Nat) (X : Cx p l e R s m args below meth c Z bytes ml own ret mname n0 T h cells slots) {a0 : Array Value} {K0 C : String} {index : Nat} (w : (Jvm.Cond.classLink own index K0).before a0 Z = true) {a : Addr} (F : Ins Z s.heap a K0 false) (E : Exa Z s.heap a C) (hd : decode bytes pc = .ok (.instanceof index, 3)) (r : ∀ T', Cx p l e R s m args below meth c Z bytes ml own ret mname n0 T' h cells slots → Run p e below m K T' pc' L (.int 0 :: st)) (q : pc + 3 = pc' := by rfl) : Run p e below m K T pc L (.ref a :: st) := by
  obtain ⟨⟨locs, X, N⟩, e0, hx, hby, hml, hZ, hown, r1⟩ := X
  subst q
  obtain ⟨T', X', e', stp⟩ := instN X hx hZ hown w e0 F E (g := mkF m pc L (.ref a :: st)) rfl rfl (hb hby hd)
  exact Run.of stp (r T' ⟨⟨locs, X', N⟩, e', hx, hby, hml, hZ, hown, r1⟩)
theorem r_instNull (pc' : Nat) (X : Cx p l e R s m args below meth c Z bytes ml own ret mname n0 T h cells slots) {index : Nat} (hd : decode bytes pc = .ok (.instanceof index, 3)) (r : Run p e below m K T pc' L (.int 0 :: st)) (q : pc + 3 = pc' := by rfl) : Run p e below m K T pc L (.null :: st) := by
  obtain ⟨⟨locs, X, -⟩, -, hx, hby, -⟩ := X
  subst q hby
  exact Run.of (fun t k => X.instanceofNull hx (g := mkF m pc L (.null :: st)) rfl rfl hd _ k) r
def b2i (P : Prop) [Decidable P] : Int32 := if P then 1 else 0
theorem b2i_t {P : Prop} [Decidable P] (h : P) : b2i P = 1 := if_pos h
theorem b2i_f {P : Prop} [Decidable P] (h : ¬ P) : b2i P = 0 := if_neg h
theorem b2i_eq0 {P : Prop} [Decidable P] (h : ¬ P) : b2i P = 0 := if_neg h
theorem b2i_ne0 {P : Prop} [Decidable P] (h : P) : ¬ b2i P = 0 := by rw [b2i_t h]; decide
theorem b2i_01 {P : Prop} [Decidable P] : b2i P = 0 ∨ b2i P = 1 := by by_cases h : P; exact Or.inr (b2i_t h); exact Or.inl (b2i_f h)
theorem b2i_nar {P : Prop} [Decidable P] : nar .boolean (b2i P) = b2i P := by by_cases h : P; (rw [b2i_t h]; rfl); (rw [b2i_f h]; rfl)
theorem b2i_congr {P Q : Prop} [Decidable P] [Decidable Q] (h : P ↔ Q) : b2i P = b2i Q := by by_cases q : P; (rw [b2i_t q, b2i_t (h.mp q)]); (rw [b2i_f q, b2i_f (fun z => q (h.mpr z))])
theorem ltI {x y : Int32} {a b : Int} (hx : x.toInt = a) (hy : y.toInt = b) : x < y ↔ a < b := by rw [Int32.lt_iff_toInt_lt, hx, hy]
theorem eqI {x y : Int32} {a b : Int} (hx : x.toInt = a) (hy : y.toInt = b) : x = y ↔ a = b := by rw [← Int32.toInt_inj, hx, hy]
theorem ltJ {x y : Int64} {a b : Int} (hx : x.toInt = a) (hy : y.toInt = b) : x < y ↔ a < b := by rw [Int64.lt_iff_toInt_lt, hx, hy]
theorem eqJ {x y : Int64} {a b : Int} (hx : x.toInt = a) (hy : y.toInt = b) : x = y ↔ a = b := by rw [← Int64.toInt_inj, hx, hy]
theorem addI {x y : Int32} {a b : Int} (hx : x.toInt = a) (hy : y.toInt = b) (h1 : -2147483648 ≤ a + b) (h2 : a + b < 2147483648) : (x + y).toInt = a + b := by have h := c_iadd x y; have r := rng32 (x + y); rw [hx, hy] at h; omega
theorem subI {x y : Int32} {a b : Int} (hx : x.toInt = a) (hy : y.toInt = b) (h1 : -2147483648 ≤ a - b) (h2 : a - b < 2147483648) : (x - y).toInt = a - b := by have h := c_isub x y; have r := rng32 (x - y); rw [hx, hy] at h; omega
theorem addJ {x y : Int64} {a b : Int} (hx : x.toInt = a) (hy : y.toInt = b) (h1 : -9223372036854775808 ≤ a + b) (h2 : a + b < 9223372036854775808) : (x + y).toInt = a + b := by have h := c_ladd x y; have r := rng64 (x + y); rw [hx, hy] at h; omega
theorem subJ {x y : Int64} {a b : Int} (hx : x.toInt = a) (hy : y.toInt = b) (h1 : -9223372036854775808 ≤ a - b) (h2 : a - b < 9223372036854775808) : (x - y).toInt = a - b := by have h := c_lsub x y; have r := rng64 (x - y); rw [hx, hy] at h; omega
theorem natI (n : Nat) (h : n < 2147483648) : (Int32.ofNat n).toInt = n := Int32.toInt_ofNat_small h
def updI (g : Nat → Int32) (i : Nat) (x : Int32) : Nat → Int32 := fun j => if j = i then x else g j
theorem updI_hit {g : Nat → Int32} {i : Nat} {x : Int32} : updI g i x i = x := if_pos rfl
theorem updI_miss {g : Nat → Int32} {i j : Nat} {x : Int32} (q : j ≠ i) : updI g i x j = g j := if_neg q
theorem AF.setI {a : Addr} {ty : FieldType} {n i : Nat} {x : Int32} {g : Nat → Int32} {h' : Heap} (A : AF Z h a ty n (fun j => .int (g j))) (W : Wr h h' a i (.int x)) : AF Z h' a ty n (fun j => .int (updI g i x j)) := (A.set W).congr fun j _ => by by_cases q : j = i <;> simp [upd, updI, q]
def updJ (g : Nat → Int64) (i : Nat) (x : Int64) : Nat → Int64 := fun j => if j = i then x else g j
theorem updJ_hit {g : Nat → Int64} {i : Nat} {x : Int64} : updJ g i x i = x := if_pos rfl
theorem updJ_miss {g : Nat → Int64} {i j : Nat} {x : Int64} (q : j ≠ i) : updJ g i x j = g j := if_neg q
theorem AF.setJ {a : Addr} {ty : FieldType} {n i : Nat} {x : Int64} {g : Nat → Int64} {h' : Heap} (A : AF Z h a ty n (fun j => .long (g j))) (W : Wr h h' a i (.long x)) : AF Z h' a ty n (fun j => .long (updJ g i x j)) := (A.set W).congr fun j _ => by by_cases q : j = i <;> simp [upd, updJ, q]
end Own
theorem pd_0 : parseMethodDescriptor "(I)I" = some ⟨[.int], some .int⟩ := by decide +kernel
theorem pd_1 : parseMethodDescriptor "(J)I" = some ⟨[.long], some .int⟩ := by decide +kernel
theorem pd_2 : parseMethodDescriptor "()Z" = some ⟨[], some .boolean⟩ := by decide +kernel
theorem pd_3 : parseMethodDescriptor "(I)V" = some ⟨[.int], none⟩ := by decide +kernel
theorem pd_4 : parseMethodDescriptor "(J)V" = some ⟨[.long], none⟩ := by decide +kernel
theorem pd_5 : parseMethodDescriptor "(JJ)J" = some ⟨[.long, .long], some .long⟩ := by decide +kernel
theorem pd_6 : parseMethodDescriptor "()J" = some ⟨[], some .long⟩ := by decide +kernel
theorem own_shr (x : Int32) (s : Int32) (k : Nat) (hk : s.toBitVec.toNat % 32 = k) (h0 : 0 < k) (h : 0 ≤ x.toInt) : ∃ y : Int32, (x.toUInt32 >>> (s &&& 31).toUInt32).toInt32 = y ∧ y.toInt = x.toInt / (2 ^ k : Nat) := by
  refine ⟨_, rfl, ?_⟩
  rw [c_iushr x s k hk h0]
  have := rng32 x
  rw [Int.emod_eq_of_lt h (by omega)]
/-- the unsigned number in w bits: none of its bits, or its highest bit is at e -/
def Nlz (w N R : Nat) : Prop := (N = 0 ∧ R = w) ∨ ∃ e, R + e + 1 = w ∧ 2 ^ e ≤ N ∧ N < 2 ^ (e + 1)
theorem own_u32 (x : Int32) : (0 ≤ x.toInt → (x.toBitVec.toNat : Int) = x.toInt) ∧ (x.toInt < 0 → (x.toBitVec.toNat : Int) = x.toInt + 4294967296) ∧ x.toBitVec.toNat < 4294967296 := by
  have h : x.toInt = if 2 * x.toBitVec.toNat < 2 ^ 32 then (x.toBitVec.toNat : Int) else (x.toBitVec.toNat : Int) - (2 ^ 32 : Nat) := BitVec.toInt_eq_toNat_cond x.toBitVec
  have h2 := x.toBitVec.isLt
  split at h <;> refine ⟨fun q => ?_, fun q => ?_, ?_⟩ <;> omega
theorem own_u64 (x : Int64) : (0 ≤ x.toInt → (x.toBitVec.toNat : Int) = x.toInt) ∧ (x.toInt < 0 → (x.toBitVec.toNat : Int) = x.toInt + 18446744073709551616) ∧ x.toBitVec.toNat < 18446744073709551616 := by
  have h : x.toInt = if 2 * x.toBitVec.toNat < 2 ^ 64 then (x.toBitVec.toNat : Int) else (x.toBitVec.toNat : Int) - (2 ^ 64 : Nat) := BitVec.toInt_eq_toNat_cond x.toBitVec
  have h2 := x.toBitVec.isLt
  split at h <;> refine ⟨fun q => ?_, fun q => ?_, ?_⟩ <;> omega
theorem own_l2i (x : Int64) : x.toInt32.toBitVec.toNat = x.toBitVec.toNat % 4294967296 := by
  show (x.toBitVec.signExtend 32).toNat = _
  rw [BitVec.signExtend_eq_setWidth_of_le _ (by decide), BitVec.toNat_setWidth]
theorem own_ushr (x : Int64) (s : Int32) (k : Nat) (hk : (s &&& 0x3f).toInt64.toBitVec.toNat % 64 = k) : ((x.toUInt64 >>> (s &&& 0x3f).toInt64.toUInt64).toInt64).toBitVec = x.toBitVec >>> k := by
  subst hk
  rfl
theorem own_hi (x : Int64) : (((x.toUInt64 >>> ((32 : Int32) &&& 0x3f).toInt64.toUInt64).toInt64).toInt32).toBitVec.toNat = x.toBitVec.toNat / 4294967296 := by
  rw [own_l2i, own_ushr x 32 32 (by decide), BitVec.toNat_ushiftRight, Nat.shiftRight_eq_div_pow]
  have := x.toBitVec.isLt
  omega
theorem nlz_hi {x : Int64} {R : Nat} (h : Nlz 32 (x.toBitVec.toNat / 4294967296) R) (h0 : ¬ x.toBitVec.toNat / 4294967296 = 0) : Nlz 64 x.toBitVec.toNat R := by
  rcases h with ⟨q, -⟩ | ⟨e, h1, h2, h3⟩
  · exact absurd q h0
  · refine Or.inr ⟨e + 32, by omega, ?_, ?_⟩
    · rw [Nat.pow_add]; simp only [Nat.reducePow]; omega
    · rw [show e + 32 + 1 = (e + 1) + 32 by omega, Nat.pow_add]; simp only [Nat.reducePow]; omega
theorem nlz_lo {x : Int64} {R : Nat} (h : Nlz 32 (x.toBitVec.toNat % 4294967296) R) (h0 : x.toBitVec.toNat / 4294967296 = 0) : Nlz 64 x.toBitVec.toNat (32 + R) := by
  have e : x.toBitVec.toNat % 4294967296 = x.toBitVec.toNat := by omega
  rw [e] at h
  rcases h with ⟨q, q2⟩ | ⟨e, h1, h2, h3⟩
  · exact Or.inl ⟨q, by omega⟩
  · exact Or.inr ⟨e, by omega, h2, h3⟩
theorem own_zero32 (x : Int32) : x = 0 ↔ x.toBitVec.toNat = 0 := by
  rw [← Int32.toBitVec_inj, ← BitVec.toNat_inj]; rfl
theorem nlz_le {w N R : Nat} (h : Nlz w N R) : R ≤ w := by
  rcases h with ⟨-, q⟩ | ⟨e, h1, -⟩ <;> omega
/-- bit j of a long, from the most significant -/
def bt (x : Int64) (j : Nat) : Bool := x.toBitVec.getLsbD (63 - j)
theorem bt_or (x y : Int64) (j : Nat) : bt (x ||| y) j = (bt x j || bt y j) := by
  unfold bt; rw [Int64.toBitVec_or, BitVec.getLsbD_or]
theorem bt_zero (j : Nat) : bt 0 j = false := by
  unfold bt; show (0#64).getLsbD _ = false; simp
theorem bt_clear (x m : Int64) (j : Nat) : bt (x &&& (m ^^^ -1)) j = (bt x j && !bt m j) := by
  unfold bt
  rw [Int64.toBitVec_and, Int64.toBitVec_xor, BitVec.getLsbD_and, BitVec.getLsbD_xor]
  have : (-1 : Int64).toBitVec = BitVec.allOnes 64 := by decide
  rw [this, BitVec.getLsbD_allOnes, decide_eq_true (show 63 - j < 64 by omega), Bool.xor_true]
theorem bt_min (s : Int32) (k : Nat) (hk : (s &&& 0x3f).toInt64.toBitVec.toNat % 64 = k) (j : Nat) (hj : j < 64) : bt (((-9223372036854775808 : Int64).toUInt64 >>> (s &&& 0x3f).toInt64.toUInt64).toInt64) j = decide (j = k) := by
  unfold bt
  rw [own_ushr _ s k hk, BitVec.getLsbD_ushiftRight]
  have e : (-9223372036854775808 : Int64).toBitVec = BitVec.twoPow 64 63 := by decide
  have hk2 : k < 64 := by omega
  rw [e, BitVec.getLsbD_twoPow]
  by_cases q : j = k
  · subst q; simp [show j + (63 - j) = 63 by omega]
  · have : ¬ (63 = k + (63 - j)) := by omega
    simp [this, q]
theorem bt_ext {x : Int64} (h : ∀ j, j < 64 → bt x j = false) : x = 0 := by
  apply Int64.toBitVec_inj.mp
  apply BitVec.eq_of_getLsbD_eq
  intro i hi
  have := h (63 - i) (by omega)
  unfold bt at this
  rw [show 63 - (63 - i) = i by omega] at this
  rw [this]; simp
theorem bt_nat (x : Int64) (j : Nat) (hj : j < 64) : bt x j = decide (x.toBitVec.toNat / 2 ^ (63 - j) % 2 = 1) := by
  unfold bt
  rw [← BitVec.testBit_toNat, Nat.testBit_eq_decide_div_mod_eq]
theorem bt_nlz {x : Int64} {R : Nat} (h : Nlz 64 x.toBitVec.toNat R) (h0 : ¬ x = 0) : R < 64 ∧ bt x R = true ∧ ∀ i, i < R → bt x i = false := by
  rcases h with ⟨q, -⟩ | ⟨e, h1, h2, h3⟩
  · exact absurd (Int64.toBitVec_inj.mp (BitVec.toNat_inj.mp q)) h0
  · refine ⟨by omega, ?_, fun i hi => ?_⟩
    · rw [bt_nat x R (by omega), show 63 - R = e by omega]
      have : x.toBitVec.toNat / 2 ^ e = 1 := by
        rw [Nat.pow_succ] at h3
        exact Nat.div_eq_of_lt_le (by omega) (by omega)
      simp [this]
    · rw [bt_nat x i (by omega)]
      have : x.toBitVec.toNat / 2 ^ (63 - i) = 0 := Nat.div_eq_of_lt (Nat.lt_of_lt_of_le h3 (Nat.pow_le_pow_right (by decide) (by omega)))
      simp [this]
/-- the shift's distance is what the int holds modulo 64 -/
theorem own_s6 {s : Int32} {k : Nat} (h : s.toInt = (k : Int)) : (s &&& 0x3f).toInt64.toBitVec.toNat % 64 = k % 64 := by
  have h1 := c_mask s 0x3f 6 (by decide) (by decide)
  have h2 := c_i2l (s &&& 0x3f)
  have h3 := (own_u64 (s &&& 0x3f).toInt64).1
  omega
/-- the numbers (from the stretch's first on) that are still to be taken back -/
def remP (g1 G : Nat) (gl : Int64) (mf wf : Nat → Int64) (ω : Nat) (wl : Int64) (k : Nat) : Prop :=
  (k / 64 = ω ∧ bt wl (k % 64) = true) ∨ (k / 4096 + 1 = g1 ∧ bt gl (k / 64 % 64) = true ∧ bt (wf (k / 64)) (k % 64) = true) ∨ (g1 ≤ k / 4096 ∧ k / 4096 < G ∧ bt (mf (k / 4096)) (k / 64 % 64) = true ∧ bt (wf (k / 64)) (k % 64) = true)
/-- g1: the groups begun; ω: the word, b: no word ahead of it is still to come -/
def WInv (n G g1 : Nat) (gl : Int64) (mf : Nat → Int64) (ω b : Nat) (wl : Int64) : Prop :=
  g1 ≤ G ∧ b ≤ 64 * g1 ∧ b ≤ n ∧ (∀ w, w < 64 → bt gl w = true → b + 64 ≤ 64 * g1 + w ∧ 64 * g1 + w < n + 64) ∧ (∀ g w, g1 ≤ g → g < G → w < 64 → bt (mf g) w = true → 64 * g + w < n) ∧ (¬ wl = 0 → ω < b)
theorem win_group {n G g1 ω b : Nat} {mf wf : Nat → Int64} (I : WInv n G g1 0 mf ω b 0) (hg : g1 < G) : WInv n G (g1 + 1) (mf g1) (updJ mf g1 0) ω b 0 ∧ ∀ k, remP g1 G 0 mf wf ω 0 k ↔ remP (g1 + 1) G (mf g1) (updJ mf g1 0) wf ω 0 k := by
  obtain ⟨i1, i2, i3, i4, i5, i6⟩ := I
  refine ⟨⟨by omega, by omega, i3, fun w hw hb => ⟨by omega, by have := i5 g1 w (Nat.le_refl _) hg hw hb; omega⟩, fun g w h1 h2 h3 h4 => ?_, fun q => absurd rfl q⟩, fun k => ?_⟩
  · rw [updJ_miss (by omega)] at h4
    exact i5 g w (by omega) h2 h3 h4
  · unfold remP
    simp only [bt_zero, Bool.false_eq_true, and_false, false_and, false_or]
    constructor
    · rintro ⟨h1, h2, h3, h4⟩
      by_cases e : k / 4096 = g1
      · exact Or.inl ⟨by omega, e ▸ h3, h4⟩
      · exact Or.inr ⟨by omega, h2, by rw [updJ_miss e]; exact h3, h4⟩
    · rintro (⟨h1, h2, h3⟩ | ⟨h1, h2, h3, h4⟩)
      · have e : k / 4096 = g1 := by omega
        exact ⟨by omega, by omega, by rw [e]; exact h2, h3⟩
      · rw [updJ_miss (by omega)] at h3
        exact ⟨by omega, h2, h3, h4⟩
theorem win_none {n G g1 ω b : Nat} {mf wf : Nat → Int64} (I : WInv n G g1 0 mf ω b 0) (hg : ¬ g1 < G) : ∀ k, ¬ remP g1 G 0 mf wf ω 0 k := by
  intro k
  unfold remP
  simp only [bt_zero, Bool.false_eq_true, and_false, false_and, false_or]
  rintro ⟨h1, h2, -⟩
  omega
theorem win_word {n G g1 ω b R : Nat} {gl m : Int64} {mf wf : Nat → Int64} (I : WInv n G g1 gl mf ω b 0) (h0 : ¬ gl = 0) (hR : Nlz 64 gl.toBitVec.toNat R) (hm : ∀ j, j < 64 → bt m j = decide (j = R)) :
    1 ≤ g1 ∧ R < 64 ∧ 64 * g1 + R < n + 64 ∧ b + 64 ≤ 64 * g1 + R ∧ WInv n G g1 (gl &&& (m ^^^ -1)) mf (64 * (g1 - 1) + R) (64 * (g1 - 1) + R + 1) (wf (64 * (g1 - 1) + R)) ∧
      ∀ k, remP g1 G gl mf wf ω 0 k ↔ remP g1 G (gl &&& (m ^^^ -1)) mf (updJ wf (64 * (g1 - 1) + R) 0) (64 * (g1 - 1) + R) (wf (64 * (g1 - 1) + R)) k := by
  obtain ⟨i1, i2, i3, i4, i5, i6⟩ := I
  obtain ⟨r1, r2, r3⟩ := bt_nlz hR h0
  have q := i4 R r1 r2
  have hg1 : 1 ≤ g1 := by omega
  have hc : ∀ j, j < 64 → bt (gl &&& (m ^^^ -1)) j = (bt gl j && !decide (j = R)) := fun j hj => by rw [bt_clear, hm j hj]
  refine ⟨hg1, r1, q.2, q.1, ⟨i1, by omega, by omega, fun w hw hb => ?_, i5, fun _ => by omega⟩, fun k => ?_⟩
  · rw [hc w hw] at hb
    simp only [Bool.and_eq_true, Bool.not_eq_true', decide_eq_false_iff_not] at hb
    have h2 := i4 w hw hb.1
    have h3 : R < w := by
      rcases Nat.lt_trichotomy w R with h | h | h
      · rw [r3 w h] at hb; exact absurd hb.1 (by decide)
      · exact absurd h hb.2
      · exact h
    omega
  · have hk : k / 64 % 64 < 64 := Nat.mod_lt _ (by decide)
    unfold remP
    simp only [bt_zero, Bool.false_eq_true, and_false, false_or]
    rw [hc _ hk]
    simp only [Bool.and_eq_true, Bool.not_eq_true', decide_eq_false_iff_not]
    constructor
    · rintro (⟨h1, h2, h3⟩ | ⟨h1, h2, h3, h4⟩)
      · by_cases e : k / 64 % 64 = R
        · have e2 : k / 64 = 64 * (g1 - 1) + R := by omega
          exact Or.inl ⟨e2, by rw [← e2]; exact h3⟩
        · have e2 : k / 64 ≠ 64 * (g1 - 1) + R := by omega
          exact Or.inr (Or.inl ⟨h1, ⟨h2, e⟩, by rw [updJ_miss e2]; exact h3⟩)
      · have e2 : k / 64 ≠ 64 * (g1 - 1) + R := by omega
        exact Or.inr (Or.inr ⟨h1, h2, h3, by rw [updJ_miss e2]; exact h4⟩)
    · rintro (⟨h1, h2⟩ | ⟨h1, ⟨h2, e⟩, h3⟩ | ⟨h1, h2, h3, h4⟩)
      · exact Or.inl ⟨by omega, by rw [show k / 64 % 64 = R by omega]; exact r2, by rw [h1]; exact h2⟩
      · have e2 : k / 64 ≠ 64 * (g1 - 1) + R := by omega
        rw [updJ_miss e2] at h3
        exact Or.inl ⟨h1, h2, h3⟩
      · have e2 : k / 64 ≠ 64 * (g1 - 1) + R := by omega
        rw [updJ_miss e2] at h4
        exact Or.inr ⟨h1, h2, h3, h4⟩
theorem win_take {n G g1 ω b R : Nat} {gl wl m : Int64} {mf wf : Nat → Int64} (I : WInv n G g1 gl mf ω b wl) (h0 : ¬ wl = 0) (hR : Nlz 64 wl.toBitVec.toNat R) (hm : ∀ j, j < 64 → bt m j = decide (j = R)) :
    R < 64 ∧ remP g1 G gl mf wf ω wl (64 * ω + R) ∧ (∀ j, j < 64 * ω + R → ¬ remP g1 G gl mf wf ω wl j) ∧ WInv n G g1 gl mf ω b (wl &&& (m ^^^ -1)) ∧
      ∀ k, remP g1 G gl mf wf ω (wl &&& (m ^^^ -1)) k ↔ (remP g1 G gl mf wf ω wl k ∧ k ≠ 64 * ω + R) := by
  obtain ⟨i1, i2, i3, i4, i5, i6⟩ := I
  obtain ⟨r1, r2, r3⟩ := bt_nlz hR h0
  have hb := i6 h0
  have hc : ∀ j, j < 64 → bt (wl &&& (m ^^^ -1)) j = (bt wl j && !decide (j = R)) := fun j hj => by rw [bt_clear, hm j hj]
  have far : ∀ k, (k / 4096 + 1 = g1 ∧ bt gl (k / 64 % 64) = true ∧ bt (wf (k / 64)) (k % 64) = true) ∨ (g1 ≤ k / 4096 ∧ k / 4096 < G ∧ bt (mf (k / 4096)) (k / 64 % 64) = true ∧ bt (wf (k / 64)) (k % 64) = true) → ω < k / 64 := by
    rintro k (⟨h1, h2, -⟩ | ⟨h1, -⟩)
    · have := i4 (k / 64 % 64) (Nat.mod_lt _ (by decide)) h2
      omega
    · omega
  refine ⟨r1, Or.inl ⟨by omega, by rw [show (64 * ω + R) % 64 = R by omega]; exact r2⟩, fun j hj hr => ?_, ⟨i1, i2, i3, i4, i5, fun _ => hb⟩, fun k => ?_⟩
  · rcases hr with ⟨h1, h2⟩ | h
    · rw [r3 (j % 64) (by omega)] at h2; exact absurd h2 (by decide)
    · have := far j h; omega
  · constructor
    · rintro (⟨h1, h2⟩ | h)
      · rw [hc _ (Nat.mod_lt _ (by decide))] at h2
        simp only [Bool.and_eq_true, Bool.not_eq_true', decide_eq_false_iff_not] at h2
        exact ⟨Or.inl ⟨h1, h2.1⟩, by omega⟩
      · exact ⟨Or.inr h, by have := far k h; omega⟩
    · rintro ⟨⟨h1, h2⟩ | h, e⟩
      · refine Or.inl ⟨h1, ?_⟩
        rw [hc _ (Nat.mod_lt _ (by decide)), h2]
        simp only [Bool.true_and, Bool.not_eq_true', decide_eq_false_iff_not]
        omega
      · exact Or.inr h
/-- no bit stands that isn't still to come -/
def Str (n G g1 : Nat) (gl : Int64) (mf wf : Nat → Int64) : Prop := (∀ g, g < G → g < g1 → mf g = 0) ∧ (∀ i j, i < n → j < 64 → bt (wf i) j = true → (i / 64 + 1 = g1 ∧ bt gl (i % 64) = true) ∨ (g1 ≤ i / 64 ∧ bt (mf (i / 64)) (i % 64) = true))
theorem str_group {n G g1 : Nat} {mf wf : Nat → Int64} (S : Str n G g1 0 mf wf) : Str n G (g1 + 1) (mf g1) (updJ mf g1 0) wf := by
  refine ⟨fun g h1 h2 => ?_, fun i j hi hj hb => ?_⟩
  · by_cases e : g = g1
    · subst e; exact updJ_hit
    · rw [updJ_miss e]; exact S.1 g h1 (by omega)
  · rcases S.2 i j hi hj hb with ⟨-, q⟩ | ⟨q1, q2⟩
    · rw [bt_zero] at q; exact absurd q (by decide)
    · by_cases e : i / 64 = g1
      · exact Or.inl ⟨by omega, by rw [← e]; exact q2⟩
      · exact Or.inr ⟨by omega, by rw [updJ_miss e]; exact q2⟩
theorem str_word {n G g1 R : Nat} {gl m : Int64} {mf wf : Nat → Int64} (S : Str n G g1 gl mf wf) (h1 : 1 ≤ g1) (hR : R < 64) (hm : ∀ j, j < 64 → bt m j = decide (j = R)) : Str n G g1 (gl &&& (m ^^^ -1)) mf (updJ wf (64 * (g1 - 1) + R) 0) := by
  refine ⟨S.1, fun i j hi hj hb => ?_⟩
  by_cases e : i = 64 * (g1 - 1) + R
  · subst e; rw [updJ_hit, bt_zero] at hb; exact absurd hb (by decide)
  · rw [updJ_miss e] at hb
    rcases S.2 i j hi hj hb with ⟨q1, q2⟩ | q
    · refine Or.inl ⟨q1, ?_⟩
      rw [bt_clear, hm _ (Nat.mod_lt _ (by decide)), q2]
      simp only [Bool.true_and, Bool.not_eq_true', decide_eq_false_iff_not]
      omega
    · exact Or.inr q
theorem str_clean {n G g1 : Nat} {mf wf : Nat → Int64} (S : Str n G g1 0 mf wf) (hG : G = (n + 63) / 64) (hg : g1 = G) : (∀ i, i < n → wf i = 0) ∧ ∀ g, g < G → mf g = 0 := by
  refine ⟨fun i hi => bt_ext fun j hj => ?_, fun g h => S.1 g h (by omega)⟩
  rcases Bool.eq_false_or_eq_true (bt (wf i) j) with q | q
  · rcases S.2 i j hi hj q with ⟨-, z⟩ | ⟨z, -⟩
    · rw [bt_zero] at z; exact absurd z (by decide)
    · omega
  · exact q
theorem win_drop {n G g1 ω b : Nat} {gl wl : Int64} {mf wf : Nat → Int64} (I : WInv n G g1 gl mf ω b wl) (h0 : wl = 0 ∨ ω < b) : WInv n G g1 gl mf ω b 0 ∧ ∀ k, remP g1 G gl mf wf ω 0 k ↔ (remP g1 G gl mf wf ω wl k ∧ ¬ (k / 64 = ω ∧ bt wl (k % 64) = true)) := by
  obtain ⟨i1, i2, i3, i4, i5, i6⟩ := I
  refine ⟨⟨i1, i2, i3, i4, i5, fun q => absurd rfl q⟩, fun k => ?_⟩
  have far : (k / 4096 + 1 = g1 ∧ bt gl (k / 64 % 64) = true ∧ bt (wf (k / 64)) (k % 64) = true) ∨ (g1 ≤ k / 4096 ∧ k / 4096 < G ∧ bt (mf (k / 4096)) (k / 64 % 64) = true ∧ bt (wf (k / 64)) (k % 64) = true) → b ≤ k / 64 := by
    rintro (⟨h1, h2, -⟩ | ⟨h1, -⟩)
    · have := i4 (k / 64 % 64) (Nat.mod_lt _ (by decide)) h2
      omega
    · omega
  constructor
  · rintro (⟨-, h2⟩ | h)
    · rw [bt_zero] at h2; exact absurd h2 (by decide)
    · refine ⟨Or.inr h, fun q => ?_⟩
      rcases h0 with rfl | h0
      · rw [bt_zero] at q; exact absurd q.2 (by decide)
      · have := far h; omega
  · rintro ⟨h | h, q⟩
    · exact absurd h q
    · exact Or.inr h
def Win (Z : State) (h : Heap) (n0 : Nat) (a wa ma : Addr) (n G : Nat) (wf mf : Nat → Int64) (first last : Int64) (grp : Int32) (gl : Int64) (wd : Int32) (wl : Int64) : Prop :=
  Exa Z h a "com/example/skiprail/skiprail/lists/Window" ∧ Fld Z h a "com/example/skiprail/skiprail/lists/Window" "words" "[J" (.ref wa) ∧ Fld Z h a "com/example/skiprail/skiprail/lists/Window" "marked" "[J" (.ref ma) ∧ Fld Z h a "com/example/skiprail/skiprail/lists/Window" "first" "J" (.long first) ∧ Fld Z h a "com/example/skiprail/skiprail/lists/Window" "last" "J" (.long last) ∧ Fld Z h a "com/example/skiprail/skiprail/lists/Window" "group" "I" (.int grp) ∧ Fld Z h a "com/example/skiprail/skiprail/lists/Window" "groupLeft" "J" (.long gl) ∧ Fld Z h a "com/example/skiprail/skiprail/lists/Window" "word" "I" (.int wd) ∧ Fld Z h a "com/example/skiprail/skiprail/lists/Window" "wordLeft" "J" (.long wl) ∧ AF Z h wa .long n (fun j => .long (wf j)) ∧ AF Z h ma .long G (fun j => .long (mf j)) ∧ n0 ≤ a ∧ n0 ≤ wa ∧ n0 ≤ ma ∧ wa ≠ a ∧ ma ≠ a ∧ wa ≠ ma
def WS1 (Z : State) (h : Heap) (n0 : Nat) (a wa ma : Addr) (n G : Nat) (first last : Int64) (rem : Nat → Prop) (wl : Int64) (b : Nat) : Prop :=
  ∃ (wf mf : Nat → Int64) (grp : Int32) (gl : Int64) (wd : Int32) (g1 ω : Nat), Win Z h n0 a wa ma n G wf mf first last grp gl wd wl ∧ grp.toInt + 1 = (g1 : Int) ∧ wd.toInt = (ω : Int) ∧ WInv n G g1 gl mf ω b wl ∧ (∀ k, rem k ↔ remP g1 G gl mf wf ω wl k) ∧ Str n G g1 gl mf wf
def WS (Z : State) (h : Heap) (n0 : Nat) (a wa ma : Addr) (n G : Nat) (first last : Int64) (rem : Nat → Prop) : Prop := ∃ wl b, WS1 Z h n0 a wa ma n G first last rem wl b
theorem WS1.exa {Z : State} {h : Heap} {n0 : Nat} {a wa ma : Addr} {n G : Nat} {first last : Int64} {rem : Nat → Prop} {wl : Int64} {b : Nat} (W : WS1 Z h n0 a wa ma n G first last rem wl b) : Exa Z h a "com/example/skiprail/skiprail/lists/Window" := by obtain ⟨_, _, _, _, _, _, _, w, -⟩ := W; exact w.1
theorem WS.exa {Z : State} {h : Heap} {n0 : Nat} {a wa ma : Addr} {n G : Nat} {first last : Int64} {rem : Nat → Prop} (W : WS Z h n0 a wa ma n G first last rem) : Exa Z h a "com/example/skiprail/skiprail/lists/Window" := by obtain ⟨_, _, w⟩ := W; exact w.exa
theorem own_sub1 {a b : Int64} {k : Nat} (h : a.toInt - b.toInt = (k : Int)) (hk : k < 16384) : (a - b).toInt = (k : Int) := by
  have h1 := c_lsub a b
  have h2 := rng64 (a - b)
  omega
theorem own_at {x : Int64} {k : Nat} (h : x.toInt = (k : Int)) (hk : k < 16384) : ∃ y : Int32, (((x.toUInt64 >>> ((6 : Int32) &&& 0x3f).toInt64.toUInt64).toInt64).toInt32) = y ∧ y.toInt = ((k / 64 : Nat) : Int) := by
  refine ⟨_, rfl, ?_⟩
  have e := c_lushr x 6 6 (by decide) (by decide)
  have c := c_l2i ((x.toUInt64 >>> ((6 : Int32) &&& 0x3f).toInt64.toUInt64).toInt64)
  have r := rng32 (((x.toUInt64 >>> ((6 : Int32) &&& 0x3f).toInt64.toUInt64).toInt64).toInt32)
  rw [e] at c
  simp only [Nat.reducePow] at c
  omega
theorem own_at2 {x : Int32} {k : Nat} (h : x.toInt = (k : Int)) (hk : k < 16384) : ∃ y : Int32, ((x.toUInt32 >>> ((6 : Int32) &&& 31).toUInt32).toInt32) = y ∧ y.toInt = ((k / 64 : Nat) : Int) := by
  refine ⟨_, rfl, ?_⟩
  rw [c_iushr x 6 6 (by decide) (by decide)]
  simp only [Nat.reducePow]
  omega
theorem own_int {x : Int64} {k : Nat} (h : x.toInt = (k : Int)) (hk : k < 16384) : x.toInt32.toInt = (k : Int) := by
  have c := c_l2i x
  have r := rng32 x.toInt32
  omega
theorem own_res {fi : Int64} {wd r : Int32} {ω R : Nat} (h1 : wd.toInt = (ω : Int)) (h2 : r.toInt = (R : Int)) (hω : ω < 256) (hR : R < 64) : fi + (wd.toInt64 <<< ((6 : Int32) &&& 0x3f).toInt64) + r.toInt64 = fi + Int64.ofNat (64 * ω + R) := by
  apply Int64.toInt_inj.mp
  have a1 := c_lshl wd.toInt64 6 6 (by decide)
  have a2 := c_i2l wd
  have a3 := c_i2l r
  have a4 := c_ladd (fi + (wd.toInt64 <<< ((6 : Int32) &&& 0x3f).toInt64)) r.toInt64
  have a5 := c_ladd fi (wd.toInt64 <<< ((6 : Int32) &&& 0x3f).toInt64)
  have a6 := c_ladd fi (Int64.ofNat (64 * ω + R))
  have a7 : (Int64.ofNat (64 * ω + R)).toInt = ((64 * ω + R : Nat) : Int) := Int64.toInt_ofNat_of_lt (by omega)
  have r1 := rng64 (fi + (wd.toInt64 <<< ((6 : Int32) &&& 0x3f).toInt64) + r.toInt64)
  have r2 := rng64 (fi + Int64.ofNat (64 * ω + R))
  simp only [Nat.reducePow] at a1
  omega
theorem own_word {grp r : Int32} {g1 R : Nat} (h1 : grp.toInt + 1 = (g1 : Int)) (hg : 1 ≤ g1) (hg4 : g1 ≤ 4) (h2 : r.toInt = (R : Int)) (hR : R < 64) : ∃ y : Int32, ((grp <<< ((6 : Int32) &&& 31)) ||| r) = y ∧ y.toInt = ((64 * (g1 - 1) + R : Nat) : Int) := by
  refine ⟨_, rfl, ?_⟩
  have a1 := c_ishl grp 6 6 (by decide)
  simp only [Nat.reducePow] at a1
  have r1 := rng32 (grp <<< ((6 : Int32) &&& 31))
  have a2 := c_or (grp <<< ((6 : Int32) &&& 31)) r 6 (by decide) 64 rfl (by omega) (by omega) (by omega)
  have r2 := rng32 ((grp <<< ((6 : Int32) &&& 31)) ||| r)
  omega
def bc1 (x : Int64) : Int64 := x - ((x.toUInt64 >>> ((1 : Int32) &&& 0x3f).toInt64.toUInt64).toInt64 &&& 6148914691236517205)
def bc2 (x : Int64) : Int64 := (x &&& 3689348814741910323) + ((x.toUInt64 >>> ((2 : Int32) &&& 0x3f).toInt64.toUInt64).toInt64 &&& 3689348814741910323)
def bc3 (x : Int64) : Int64 := (x + (x.toUInt64 >>> ((4 : Int32) &&& 0x3f).toInt64.toUInt64).toInt64) &&& 1085102592571150095
def bc4 (x : Int64) : Int64 := x + (x.toUInt64 >>> ((8 : Int32) &&& 0x3f).toInt64.toUInt64).toInt64
def bc5 (x : Int64) : Int64 := x + (x.toUInt64 >>> ((16 : Int32) &&& 0x3f).toInt64.toUInt64).toInt64
def bc6 (x : Int64) : Int64 := x + (x.toUInt64 >>> ((32 : Int32) &&& 0x3f).toInt64.toUInt64).toInt64
def bcV (x : Int64) : Int32 := (bc6 (bc5 (bc4 (bc3 (bc2 (bc1 x)))))).toInt32 &&& 127
theorem bcV_zero : bcV 0 = 0 := by decide +kernel
def oneB (j : Nat) : Int64 := ((-9223372036854775808 : Int64).toUInt64 >>> (Int32.ofNat j &&& 0x3f).toInt64.toUInt64).toInt64
theorem bcV_one : ∀ j : Fin 64, bcV (oneB j.1) = 1 := by decide +kernel
theorem own_oneB {x : Int64} {j : Nat} (hj : j < 64) (h : ∀ i, i < 64 → bt x i = decide (i = j)) : x = oneB j := by
  apply Int64.toBitVec_inj.mp
  apply BitVec.eq_of_getLsbD_eq
  intro i hi
  have e : (Int32.ofNat j).toInt = (j : Int) := natI j (by omega)
  have h1 := h (63 - i) (by omega)
  have h2 := bt_min (Int32.ofNat j) j ((own_s6 e).trans (Nat.mod_eq_of_lt hj)) (63 - i) (by omega)
  rw [← h2] at h1
  unfold bt at h1
  rw [show 63 - (63 - i) = i by omega] at h1
  exact h1
theorem d10_0 : decode jdk_33_method_47_code 0 = .ok (.iload_n 0, 1) := by decide +kernel
theorem d10_1 : decode jdk_33_method_47_code 1 = .ok (.ifCond .gt 14, 3) := by decide +kernel
theorem d10_4 : decode jdk_33_method_47_code 4 = .ok (.iload_n 0, 1) := by decide +kernel
theorem d10_5 : decode jdk_33_method_47_code 5 = .ok (.ifCond .ne 8, 3) := by decide +kernel
theorem d10_8 : decode jdk_33_method_47_code 8 = .ok (.bipush 32, 2) := by decide +kernel
theorem d10_10 : decode jdk_33_method_47_code 10 = .ok (.goto 4, 3) := by decide +kernel
theorem d10_13 : decode jdk_33_method_47_code 13 = .ok (.iconst 0, 1) := by decide +kernel
theorem d10_14 : decode jdk_33_method_47_code 14 = .ok (.ireturn, 1) := by decide +kernel
theorem d10_15 : decode jdk_33_method_47_code 15 = .ok (.bipush 31, 2) := by decide +kernel
theorem d10_17 : decode jdk_33_method_47_code 17 = .ok (.istore_n 1, 1) := by decide +kernel
theorem d10_18 : decode jdk_33_method_47_code 18 = .ok (.iload_n 0, 1) := by decide +kernel
theorem d10_19 : decode jdk_33_method_47_code 19 = .ok (.ldc_w 264, 3) := by decide +kernel
theorem d10_22 : decode jdk_33_method_47_code 22 = .ok (.if_icmp .lt 11, 3) := by decide +kernel
theorem d10_25 : decode jdk_33_method_47_code 25 = .ok (.iinc 1 (-16), 3) := by decide +kernel
theorem d10_28 : decode jdk_33_method_47_code 28 = .ok (.iload_n 0, 1) := by decide +kernel
theorem d10_29 : decode jdk_33_method_47_code 29 = .ok (.bipush 16, 2) := by decide +kernel
theorem d10_31 : decode jdk_33_method_47_code 31 = .ok (.iushr, 1) := by decide +kernel
theorem d10_32 : decode jdk_33_method_47_code 32 = .ok (.istore_n 0, 1) := by decide +kernel
theorem d10_33 : decode jdk_33_method_47_code 33 = .ok (.iload_n 0, 1) := by decide +kernel
theorem d10_34 : decode jdk_33_method_47_code 34 = .ok (.sipush 256, 3) := by decide +kernel
theorem d10_37 : decode jdk_33_method_47_code 37 = .ok (.if_icmp .lt 11, 3) := by decide +kernel
theorem d10_40 : decode jdk_33_method_47_code 40 = .ok (.iinc 1 (-8), 3) := by decide +kernel
theorem d10_43 : decode jdk_33_method_47_code 43 = .ok (.iload_n 0, 1) := by decide +kernel
theorem d10_44 : decode jdk_33_method_47_code 44 = .ok (.bipush 8, 2) := by decide +kernel
theorem d10_46 : decode jdk_33_method_47_code 46 = .ok (.iushr, 1) := by decide +kernel
theorem d10_47 : decode jdk_33_method_47_code 47 = .ok (.istore_n 0, 1) := by decide +kernel
theorem d10_48 : decode jdk_33_method_47_code 48 = .ok (.iload_n 0, 1) := by decide +kernel
theorem d10_49 : decode jdk_33_method_47_code 49 = .ok (.bipush 16, 2) := by decide +kernel
theorem d10_51 : decode jdk_33_method_47_code 51 = .ok (.if_icmp .lt 10, 3) := by decide +kernel
theorem d10_54 : decode jdk_33_method_47_code 54 = .ok (.iinc 1 (-4), 3) := by decide +kernel
theorem d10_57 : decode jdk_33_method_47_code 57 = .ok (.iload_n 0, 1) := by decide +kernel
theorem d10_58 : decode jdk_33_method_47_code 58 = .ok (.iconst 4, 1) := by decide +kernel
theorem d10_59 : decode jdk_33_method_47_code 59 = .ok (.iushr, 1) := by decide +kernel
theorem d10_60 : decode jdk_33_method_47_code 60 = .ok (.istore_n 0, 1) := by decide +kernel
theorem d10_61 : decode jdk_33_method_47_code 61 = .ok (.iload_n 0, 1) := by decide +kernel
theorem d10_62 : decode jdk_33_method_47_code 62 = .ok (.iconst 4, 1) := by decide +kernel
theorem d10_63 : decode jdk_33_method_47_code 63 = .ok (.if_icmp .lt 10, 3) := by decide +kernel
theorem d10_66 : decode jdk_33_method_47_code 66 = .ok (.iinc 1 (-2), 3) := by decide +kernel
theorem d10_69 : decode jdk_33_method_47_code 69 = .ok (.iload_n 0, 1) := by decide +kernel
theorem d10_70 : decode jdk_33_method_47_code 70 = .ok (.iconst 2, 1) := by decide +kernel
theorem d10_71 : decode jdk_33_method_47_code 71 = .ok (.iushr, 1) := by decide +kernel
theorem d10_72 : decode jdk_33_method_47_code 72 = .ok (.istore_n 0, 1) := by decide +kernel
theorem d10_73 : decode jdk_33_method_47_code 73 = .ok (.iload_n 1, 1) := by decide +kernel
theorem d10_74 : decode jdk_33_method_47_code 74 = .ok (.iload_n 0, 1) := by decide +kernel
theorem d10_75 : decode jdk_33_method_47_code 75 = .ok (.iconst 1, 1) := by decide +kernel
theorem d10_76 : decode jdk_33_method_47_code 76 = .ok (.iushr, 1) := by decide +kernel
theorem d10_77 : decode jdk_33_method_47_code 77 = .ok (.isub, 1) := by decide +kernel
theorem d10_78 : decode jdk_33_method_47_code 78 = .ok (.ireturn, 1) := by decide +kernel
theorem pn_10 : plainName "java/lang/Integer" = true := by first | (simp [plainName, overriddenIn]; done) | decide +kernel
theorem ef_10 (m : MethodId) (x0 : Int32) : entryFrame m #[(.int x0)] 2 = mkF m 0 #[.val (.int x0), .unset] [] := by first | (simp [entryFrame, mkF, argsToLocals, Value.category]; done) | rfl
set_option maxRecDepth 65536 in
set_option maxHeartbeats 40000000 in
theorem rmNlzI (l : Launch) (Z : State) (a0 : Array Value) (hw : ∀ d ∈ tables_1, d.before a0 Z = true) (n0 : Nat) (h : Heap) (Z0 : n0 ≤ h.size) (p1 : Int32)  :
    Met1 l Z n0 [] (⟨"java/lang/Integer", "numberOfLeadingZeros", "(I)I"⟩ : MethodName) jdk_33_method_47_code 2 (some .int) ({ frames := 0, cells := 0, slots := 0, locals := 0 } : Room) #[(.int p1)] h (fun v h' => ∃ (r : Int32) (R : Nat), v = some (.int r) ∧ r.toInt = (R : Int) ∧ Nlz 32 p1.toBitVec.toNat R ∧ h = h') := by
  refine met_of (plainFor_of_name pn_10) Z0 (fun m => ef_10 m p1) ?_
  intro p e s m below meth c T hs0 X
  refine r_iloadN 1 X d10_0 rfl ?_
  by_cases h1_1 : (0 : Int32) < p1
  · refine r_ifY 15 X d10_1 ((if0 _ _).trans (tlt h1_1).2.2.1) ?_
    have hpos : 0 < p1.toInt := (ltI (a := 0) rfl rfl).mp h1_1
    have hu := own_u32 p1
    have hr1 := rng32 p1
    refine r_bipush 17 X (31 : Int32) d10_15 rfl ?_
    refine r_istoreN 18 X #[.val (.int p1), .val (.int (31 : Int32))] d10_17 rfl ?_
    refine r_iloadN 19 X d10_18 rfl ?_
    refine r_ldcwInt 22 X (hw _ (List.mem_of_getElem? (i := 85) rfl)) d10_19 ?_
    by_cases h22_2 : p1 < (65536 : Int32)
    · refine r_icmpY 33 X d10_22 (tlt h22_2).1 ?_
      have ih22_2 : p1.toInt < 65536 := (ltI rfl (b := 65536) rfl).mp h22_2
      refine r_iloadN 34 X d10_33 rfl ?_
      refine r_sipush 37 X (256 : Int32) d10_34 rfl ?_
      by_cases h37_3 : p1 < (256 : Int32)
      · refine r_icmpY 48 X d10_37 (tlt h37_3).1 ?_
        have ih37_3 : p1.toInt < 256 := (ltI rfl (b := 256) rfl).mp h37_3
        refine r_iloadN 49 X d10_48 rfl ?_
        refine r_bipush 51 X (16 : Int32) d10_49 rfl ?_
        by_cases h51_4 : p1 < (16 : Int32)
        · refine r_icmpY 61 X d10_51 (tlt h51_4).1 ?_
          have ih51_4 : p1.toInt < 16 := (ltI rfl (b := 16) rfl).mp h51_4
          refine r_iloadN 62 X d10_61 rfl ?_
          refine r_iconst 63 X (4 : Int32) d10_62 rfl ?_
          by_cases h63_5 : p1 < (4 : Int32)
          · refine r_icmpY 73 X d10_63 (tlt h63_5).1 ?_
            have ih63_5 : p1.toInt < 4 := (ltI rfl (b := 4) rfl).mp h63_5
            refine r_iloadN 74 X d10_73 rfl ?_
            refine r_iloadN 75 X d10_74 rfl ?_
            refine r_iconst 76 X (1 : Int32) d10_75 rfl ?_
            refine r_iushr 77 X d10_76 ?_
            obtain ⟨y1, ey1, hy1⟩ := own_shr p1 1 1 (by decide) (by decide) (by omega)
            refine r_topI ey1 ?_
            simp only [Nat.reducePow] at hy1
            refine r_isub 78 X d10_77 ?_
            refine r_retI X d10_78 (by decide) (by decide) ?_
            rcases (show y1.toInt = 0 ∨ y1.toInt = 1 by omega) with hz | hz
            · exact ⟨_, 31, rfl, (subI (a := 31) rfl hz (by omega) (by omega)).trans (by omega), Or.inr ⟨0, rfl, by simp only [Nat.reducePow]; omega, by simp only [Nat.reducePow, Nat.reduceAdd]; omega⟩, rfl⟩
            · exact ⟨_, 30, rfl, (subI (a := 31) rfl hz (by omega) (by omega)).trans (by omega), Or.inr ⟨1, rfl, by simp only [Nat.reducePow]; omega, by simp only [Nat.reducePow, Nat.reduceAdd]; omega⟩, rfl⟩
          · refine r_icmpN 66 X d10_63 (flt h63_5).1 ?_
            have ih63_5 : ¬ p1.toInt < 4 := mt (ltI rfl (b := 4) rfl).mpr h63_5
            refine r_iinc 69 X (-2 : Int32) #[.val (.int p1), .val (.int (29 : Int32))] d10_66 rfl rfl rfl ?_
            refine r_iloadN 70 X d10_69 rfl ?_
            refine r_iconst 71 X (2 : Int32) d10_70 rfl ?_
            refine r_iushr 72 X d10_71 ?_
            obtain ⟨y2, ey2, hy2⟩ := own_shr p1 2 2 (by decide) (by decide) (by omega)
            refine r_topI ey2 ?_
            simp only [Nat.reducePow] at hy2
            refine r_istoreN 73 X #[.val (.int y2), .val (.int (29 : Int32))] d10_72 rfl ?_
            refine r_iloadN 74 X d10_73 rfl ?_
            refine r_iloadN 75 X d10_74 rfl ?_
            refine r_iconst 76 X (1 : Int32) d10_75 rfl ?_
            refine r_iushr 77 X d10_76 ?_
            obtain ⟨y3, ey3, hy3⟩ := own_shr y2 1 1 (by decide) (by decide) (by omega)
            refine r_topI ey3 ?_
            simp only [Nat.reducePow] at hy3
            refine r_isub 78 X d10_77 ?_
            refine r_retI X d10_78 (by decide) (by decide) ?_
            rcases (show y3.toInt = 0 ∨ y3.toInt = 1 by omega) with hz | hz
            · exact ⟨_, 29, rfl, (subI (a := 29) rfl hz (by omega) (by omega)).trans (by omega), Or.inr ⟨2, rfl, by simp only [Nat.reducePow]; omega, by simp only [Nat.reducePow, Nat.reduceAdd]; omega⟩, rfl⟩
            · exact ⟨_, 28, rfl, (subI (a := 29) rfl hz (by omega) (by omega)).trans (by omega), Or.inr ⟨3, rfl, by simp only [Nat.reducePow]; omega, by simp only [Nat.reducePow, Nat.reduceAdd]; omega⟩, rfl⟩
        · refine r_icmpN 54 X d10_51 (flt h51_4).1 ?_
          have ih51_4 : ¬ p1.toInt < 16 := mt (ltI rfl (b := 16) rfl).mpr h51_4
          refine r_iinc 57 X (-4 : Int32) #[.val (.int p1), .val (.int (27 : Int32))] d10_54 rfl rfl rfl ?_
          refine r_iloadN 58 X d10_57 rfl ?_
          refine r_iconst 59 X (4 : Int32) d10_58 rfl ?_
          refine r_iushr 60 X d10_59 ?_
          obtain ⟨y4, ey4, hy4⟩ := own_shr p1 4 4 (by decide) (by decide) (by omega)
          refine r_topI ey4 ?_
          simp only [Nat.reducePow] at hy4
          refine r_istoreN 61 X #[.val (.int y4), .val (.int (27 : Int32))] d10_60 rfl ?_
          refine r_iloadN 62 X d10_61 rfl ?_
          refine r_iconst 63 X (4 : Int32) d10_62 rfl ?_
          by_cases h63_6 : y4 < (4 : Int32)
          · refine r_icmpY 73 X d10_63 (tlt h63_6).1 ?_
            have ih63_6 : y4.toInt < 4 := (ltI rfl (b := 4) rfl).mp h63_6
            refine r_iloadN 74 X d10_73 rfl ?_
            refine r_iloadN 75 X d10_74 rfl ?_
            refine r_iconst 76 X (1 : Int32) d10_75 rfl ?_
            refine r_iushr 77 X d10_76 ?_
            obtain ⟨y5, ey5, hy5⟩ := own_shr y4 1 1 (by decide) (by decide) (by omega)
            refine r_topI ey5 ?_
            simp only [Nat.reducePow] at hy5
            refine r_isub 78 X d10_77 ?_
            refine r_retI X d10_78 (by decide) (by decide) ?_
            rcases (show y5.toInt = 0 ∨ y5.toInt = 1 by omega) with hz | hz
            · exact ⟨_, 27, rfl, (subI (a := 27) rfl hz (by omega) (by omega)).trans (by omega), Or.inr ⟨4, rfl, by simp only [Nat.reducePow]; omega, by simp only [Nat.reducePow, Nat.reduceAdd]; omega⟩, rfl⟩
            · exact ⟨_, 26, rfl, (subI (a := 27) rfl hz (by omega) (by omega)).trans (by omega), Or.inr ⟨5, rfl, by simp only [Nat.reducePow]; omega, by simp only [Nat.reducePow, Nat.reduceAdd]; omega⟩, rfl⟩
          · refine r_icmpN 66 X d10_63 (flt h63_6).1 ?_
            have ih63_6 : ¬ y4.toInt < 4 := mt (ltI rfl (b := 4) rfl).mpr h63_6
            refine r_iinc 69 X (-2 : Int32) #[.val (.int y4), .val (.int (25 : Int32))] d10_66 rfl rfl rfl ?_
            refine r_iloadN 70 X d10_69 rfl ?_
            refine r_iconst 71 X (2 : Int32) d10_70 rfl ?_
            refine r_iushr 72 X d10_71 ?_
            obtain ⟨y6, ey6, hy6⟩ := own_shr y4 2 2 (by decide) (by decide) (by omega)
            refine r_topI ey6 ?_
            simp only [Nat.reducePow] at hy6
            refine r_istoreN 73 X #[.val (.int y6), .val (.int (25 : Int32))] d10_72 rfl ?_
            refine r_iloadN 74 X d10_73 rfl ?_
            refine r_iloadN 75 X d10_74 rfl ?_
            refine r_iconst 76 X (1 : Int32) d10_75 rfl ?_
            refine r_iushr 77 X d10_76 ?_
            obtain ⟨y7, ey7, hy7⟩ := own_shr y6 1 1 (by decide) (by decide) (by omega)
            refine r_topI ey7 ?_
            simp only [Nat.reducePow] at hy7
            refine r_isub 78 X d10_77 ?_
            refine r_retI X d10_78 (by decide) (by decide) ?_
            rcases (show y7.toInt = 0 ∨ y7.toInt = 1 by omega) with hz | hz
            · exact ⟨_, 25, rfl, (subI (a := 25) rfl hz (by omega) (by omega)).trans (by omega), Or.inr ⟨6, rfl, by simp only [Nat.reducePow]; omega, by simp only [Nat.reducePow, Nat.reduceAdd]; omega⟩, rfl⟩
            · exact ⟨_, 24, rfl, (subI (a := 25) rfl hz (by omega) (by omega)).trans (by omega), Or.inr ⟨7, rfl, by simp only [Nat.reducePow]; omega, by simp only [Nat.reducePow, Nat.reduceAdd]; omega⟩, rfl⟩
      · refine r_icmpN 40 X d10_37 (flt h37_3).1 ?_
        have ih37_3 : ¬ p1.toInt < 256 := mt (ltI rfl (b := 256) rfl).mpr h37_3
        refine r_iinc 43 X (-8 : Int32) #[.val (.int p1), .val (.int (23 : Int32))] d10_40 rfl rfl rfl ?_
        refine r_iloadN 44 X d10_43 rfl ?_
        refine r_bipush 46 X (8 : Int32) d10_44 rfl ?_
        refine r_iushr 47 X d10_46 ?_
        obtain ⟨y8, ey8, hy8⟩ := own_shr p1 8 8 (by decide) (by decide) (by omega)
        refine r_topI ey8 ?_
        simp only [Nat.reducePow] at hy8
        refine r_istoreN 48 X #[.val (.int y8), .val (.int (23 : Int32))] d10_47 rfl ?_
        refine r_iloadN 49 X d10_48 rfl ?_
        refine r_bipush 51 X (16 : Int32) d10_49 rfl ?_
        by_cases h51_7 : y8 < (16 : Int32)
        · refine r_icmpY 61 X d10_51 (tlt h51_7).1 ?_
          have ih51_7 : y8.toInt < 16 := (ltI rfl (b := 16) rfl).mp h51_7
          refine r_iloadN 62 X d10_61 rfl ?_
          refine r_iconst 63 X (4 : Int32) d10_62 rfl ?_
          by_cases h63_8 : y8 < (4 : Int32)
          · refine r_icmpY 73 X d10_63 (tlt h63_8).1 ?_
            have ih63_8 : y8.toInt < 4 := (ltI rfl (b := 4) rfl).mp h63_8
            refine r_iloadN 74 X d10_73 rfl ?_
            refine r_iloadN 75 X d10_74 rfl ?_
            refine r_iconst 76 X (1 : Int32) d10_75 rfl ?_
            refine r_iushr 77 X d10_76 ?_
            obtain ⟨y9, ey9, hy9⟩ := own_shr y8 1 1 (by decide) (by decide) (by omega)
            refine r_topI ey9 ?_
            simp only [Nat.reducePow] at hy9
            refine r_isub 78 X d10_77 ?_
            refine r_retI X d10_78 (by decide) (by decide) ?_
            rcases (show y9.toInt = 0 ∨ y9.toInt = 1 by omega) with hz | hz
            · exact ⟨_, 23, rfl, (subI (a := 23) rfl hz (by omega) (by omega)).trans (by omega), Or.inr ⟨8, rfl, by simp only [Nat.reducePow]; omega, by simp only [Nat.reducePow, Nat.reduceAdd]; omega⟩, rfl⟩
            · exact ⟨_, 22, rfl, (subI (a := 23) rfl hz (by omega) (by omega)).trans (by omega), Or.inr ⟨9, rfl, by simp only [Nat.reducePow]; omega, by simp only [Nat.reducePow, Nat.reduceAdd]; omega⟩, rfl⟩
          · refine r_icmpN 66 X d10_63 (flt h63_8).1 ?_
            have ih63_8 : ¬ y8.toInt < 4 := mt (ltI rfl (b := 4) rfl).mpr h63_8
            refine r_iinc 69 X (-2 : Int32) #[.val (.int y8), .val (.int (21 : Int32))] d10_66 rfl rfl rfl ?_
            refine r_iloadN 70 X d10_69 rfl ?_
            refine r_iconst 71 X (2 : Int32) d10_70 rfl ?_
            refine r_iushr 72 X d10_71 ?_
            obtain ⟨y10, ey10, hy10⟩ := own_shr y8 2 2 (by decide) (by decide) (by omega)
            refine r_topI ey10 ?_
            simp only [Nat.reducePow] at hy10
            refine r_istoreN 73 X #[.val (.int y10), .val (.int (21 : Int32))] d10_72 rfl ?_
            refine r_iloadN 74 X d10_73 rfl ?_
            refine r_iloadN 75 X d10_74 rfl ?_
            refine r_iconst 76 X (1 : Int32) d10_75 rfl ?_
            refine r_iushr 77 X d10_76 ?_
            obtain ⟨y11, ey11, hy11⟩ := own_shr y10 1 1 (by decide) (by decide) (by omega)
            refine r_topI ey11 ?_
            simp only [Nat.reducePow] at hy11
            refine r_isub 78 X d10_77 ?_
            refine r_retI X d10_78 (by decide) (by decide) ?_
            rcases (show y11.toInt = 0 ∨ y11.toInt = 1 by omega) with hz | hz
            · exact ⟨_, 21, rfl, (subI (a := 21) rfl hz (by omega) (by omega)).trans (by omega), Or.inr ⟨10, rfl, by simp only [Nat.reducePow]; omega, by simp only [Nat.reducePow, Nat.reduceAdd]; omega⟩, rfl⟩
            · exact ⟨_, 20, rfl, (subI (a := 21) rfl hz (by omega) (by omega)).trans (by omega), Or.inr ⟨11, rfl, by simp only [Nat.reducePow]; omega, by simp only [Nat.reducePow, Nat.reduceAdd]; omega⟩, rfl⟩
        · refine r_icmpN 54 X d10_51 (flt h51_7).1 ?_
          have ih51_7 : ¬ y8.toInt < 16 := mt (ltI rfl (b := 16) rfl).mpr h51_7
          refine r_iinc 57 X (-4 : Int32) #[.val (.int y8), .val (.int (19 : Int32))] d10_54 rfl rfl rfl ?_
          refine r_iloadN 58 X d10_57 rfl ?_
          refine r_iconst 59 X (4 : Int32) d10_58 rfl ?_
          refine r_iushr 60 X d10_59 ?_
          obtain ⟨y12, ey12, hy12⟩ := own_shr y8 4 4 (by decide) (by decide) (by omega)
          refine r_topI ey12 ?_
          simp only [Nat.reducePow] at hy12
          refine r_istoreN 61 X #[.val (.int y12), .val (.int (19 : Int32))] d10_60 rfl ?_
          refine r_iloadN 62 X d10_61 rfl ?_
          refine r_iconst 63 X (4 : Int32) d10_62 rfl ?_
          by_cases h63_9 : y12 < (4 : Int32)
          · refine r_icmpY 73 X d10_63 (tlt h63_9).1 ?_
            have ih63_9 : y12.toInt < 4 := (ltI rfl (b := 4) rfl).mp h63_9
            refine r_iloadN 74 X d10_73 rfl ?_
            refine r_iloadN 75 X d10_74 rfl ?_
            refine r_iconst 76 X (1 : Int32) d10_75 rfl ?_
            refine r_iushr 77 X d10_76 ?_
            obtain ⟨y13, ey13, hy13⟩ := own_shr y12 1 1 (by decide) (by decide) (by omega)
            refine r_topI ey13 ?_
            simp only [Nat.reducePow] at hy13
            refine r_isub 78 X d10_77 ?_
            refine r_retI X d10_78 (by decide) (by decide) ?_
            rcases (show y13.toInt = 0 ∨ y13.toInt = 1 by omega) with hz | hz
            · exact ⟨_, 19, rfl, (subI (a := 19) rfl hz (by omega) (by omega)).trans (by omega), Or.inr ⟨12, rfl, by simp only [Nat.reducePow]; omega, by simp only [Nat.reducePow, Nat.reduceAdd]; omega⟩, rfl⟩
            · exact ⟨_, 18, rfl, (subI (a := 19) rfl hz (by omega) (by omega)).trans (by omega), Or.inr ⟨13, rfl, by simp only [Nat.reducePow]; omega, by simp only [Nat.reducePow, Nat.reduceAdd]; omega⟩, rfl⟩
          · refine r_icmpN 66 X d10_63 (flt h63_9).1 ?_
            have ih63_9 : ¬ y12.toInt < 4 := mt (ltI rfl (b := 4) rfl).mpr h63_9
            refine r_iinc 69 X (-2 : Int32) #[.val (.int y12), .val (.int (17 : Int32))] d10_66 rfl rfl rfl ?_
            refine r_iloadN 70 X d10_69 rfl ?_
            refine r_iconst 71 X (2 : Int32) d10_70 rfl ?_
            refine r_iushr 72 X d10_71 ?_
            obtain ⟨y14, ey14, hy14⟩ := own_shr y12 2 2 (by decide) (by decide) (by omega)
            refine r_topI ey14 ?_
            simp only [Nat.reducePow] at hy14
            refine r_istoreN 73 X #[.val (.int y14), .val (.int (17 : Int32))] d10_72 rfl ?_
            refine r_iloadN 74 X d10_73 rfl ?_
            refine r_iloadN 75 X d10_74 rfl ?_
            refine r_iconst 76 X (1 : Int32) d10_75 rfl ?_
            refine r_iushr 77 X d10_76 ?_
            obtain ⟨y15, ey15, hy15⟩ := own_shr y14 1 1 (by decide) (by decide) (by omega)
            refine r_topI ey15 ?_
            simp only [Nat.reducePow] at hy15
            refine r_isub 78 X d10_77 ?_
            refine r_retI X d10_78 (by decide) (by decide) ?_
            rcases (show y15.toInt = 0 ∨ y15.toInt = 1 by omega) with hz | hz
            · exact ⟨_, 17, rfl, (subI (a := 17) rfl hz (by omega) (by omega)).trans (by omega), Or.inr ⟨14, rfl, by simp only [Nat.reducePow]; omega, by simp only [Nat.reducePow, Nat.reduceAdd]; omega⟩, rfl⟩
            · exact ⟨_, 16, rfl, (subI (a := 17) rfl hz (by omega) (by omega)).trans (by omega), Or.inr ⟨15, rfl, by simp only [Nat.reducePow]; omega, by simp only [Nat.reducePow, Nat.reduceAdd]; omega⟩, rfl⟩
    · refine r_icmpN 25 X d10_22 (flt h22_2).1 ?_
      have ih22_2 : ¬ p1.toInt < 65536 := mt (ltI rfl (b := 65536) rfl).mpr h22_2
      refine r_iinc 28 X (-16 : Int32) #[.val (.int p1), .val (.int (15 : Int32))] d10_25 rfl rfl rfl ?_
      refine r_iloadN 29 X d10_28 rfl ?_
      refine r_bipush 31 X (16 : Int32) d10_29 rfl ?_
      refine r_iushr 32 X d10_31 ?_
      obtain ⟨y16, ey16, hy16⟩ := own_shr p1 16 16 (by decide) (by decide) (by omega)
      refine r_topI ey16 ?_
      simp only [Nat.reducePow] at hy16
      refine r_istoreN 33 X #[.val (.int y16), .val (.int (15 : Int32))] d10_32 rfl ?_
      refine r_iloadN 34 X d10_33 rfl ?_
      refine r_sipush 37 X (256 : Int32) d10_34 rfl ?_
      by_cases h37_10 : y16 < (256 : Int32)
      · refine r_icmpY 48 X d10_37 (tlt h37_10).1 ?_
        have ih37_10 : y16.toInt < 256 := (ltI rfl (b := 256) rfl).mp h37_10
        refine r_iloadN 49 X d10_48 rfl ?_
        refine r_bipush 51 X (16 : Int32) d10_49 rfl ?_
        by_cases h51_11 : y16 < (16 : Int32)
        · refine r_icmpY 61 X d10_51 (tlt h51_11).1 ?_
          have ih51_11 : y16.toInt < 16 := (ltI rfl (b := 16) rfl).mp h51_11
          refine r_iloadN 62 X d10_61 rfl ?_
          refine r_iconst 63 X (4 : Int32) d10_62 rfl ?_
          by_cases h63_12 : y16 < (4 : Int32)
          · refine r_icmpY 73 X d10_63 (tlt h63_12).1 ?_
            have ih63_12 : y16.toInt < 4 := (ltI rfl (b := 4) rfl).mp h63_12
            refine r_iloadN 74 X d10_73 rfl ?_
            refine r_iloadN 75 X d10_74 rfl ?_
            refine r_iconst 76 X (1 : Int32) d10_75 rfl ?_
            refine r_iushr 77 X d10_76 ?_
            obtain ⟨y17, ey17, hy17⟩ := own_shr y16 1 1 (by decide) (by decide) (by omega)
            refine r_topI ey17 ?_
            simp only [Nat.reducePow] at hy17
            refine r_isub 78 X d10_77 ?_
            refine r_retI X d10_78 (by decide) (by decide) ?_
            rcases (show y17.toInt = 0 ∨ y17.toInt = 1 by omega) with hz | hz
            · exact ⟨_, 15, rfl, (subI (a := 15) rfl hz (by omega) (by omega)).trans (by omega), Or.inr ⟨16, rfl, by simp only [Nat.reducePow]; omega, by simp only [Nat.reducePow, Nat.reduceAdd]; omega⟩, rfl⟩
            · exact ⟨_, 14, rfl, (subI (a := 15) rfl hz (by omega) (by omega)).trans (by omega), Or.inr ⟨17, rfl, by simp only [Nat.reducePow]; omega, by simp only [Nat.reducePow, Nat.reduceAdd]; omega⟩, rfl⟩
          · refine r_icmpN 66 X d10_63 (flt h63_12).1 ?_
            have ih63_12 : ¬ y16.toInt < 4 := mt (ltI rfl (b := 4) rfl).mpr h63_12
            refine r_iinc 69 X (-2 : Int32) #[.val (.int y16), .val (.int (13 : Int32))] d10_66 rfl rfl rfl ?_
            refine r_iloadN 70 X d10_69 rfl ?_
            refine r_iconst 71 X (2 : Int32) d10_70 rfl ?_
            refine r_iushr 72 X d10_71 ?_
            obtain ⟨y18, ey18, hy18⟩ := own_shr y16 2 2 (by decide) (by decide) (by omega)
            refine r_topI ey18 ?_
            simp only [Nat.reducePow] at hy18
            refine r_istoreN 73 X #[.val (.int y18), .val (.int (13 : Int32))] d10_72 rfl ?_
            refine r_iloadN 74 X d10_73 rfl ?_
            refine r_iloadN 75 X d10_74 rfl ?_
            refine r_iconst 76 X (1 : Int32) d10_75 rfl ?_
            refine r_iushr 77 X d10_76 ?_
            obtain ⟨y19, ey19, hy19⟩ := own_shr y18 1 1 (by decide) (by decide) (by omega)
            refine r_topI ey19 ?_
            simp only [Nat.reducePow] at hy19
            refine r_isub 78 X d10_77 ?_
            refine r_retI X d10_78 (by decide) (by decide) ?_
            rcases (show y19.toInt = 0 ∨ y19.toInt = 1 by omega) with hz | hz
            · exact ⟨_, 13, rfl, (subI (a := 13) rfl hz (by omega) (by omega)).trans (by omega), Or.inr ⟨18, rfl, by simp only [Nat.reducePow]; omega, by simp only [Nat.reducePow, Nat.reduceAdd]; omega⟩, rfl⟩
            · exact ⟨_, 12, rfl, (subI (a := 13) rfl hz (by omega) (by omega)).trans (by omega), Or.inr ⟨19, rfl, by simp only [Nat.reducePow]; omega, by simp only [Nat.reducePow, Nat.reduceAdd]; omega⟩, rfl⟩
        · refine r_icmpN 54 X d10_51 (flt h51_11).1 ?_
          have ih51_11 : ¬ y16.toInt < 16 := mt (ltI rfl (b := 16) rfl).mpr h51_11
          refine r_iinc 57 X (-4 : Int32) #[.val (.int y16), .val (.int (11 : Int32))] d10_54 rfl rfl rfl ?_
          refine r_iloadN 58 X d10_57 rfl ?_
          refine r_iconst 59 X (4 : Int32) d10_58 rfl ?_
          refine r_iushr 60 X d10_59 ?_
          obtain ⟨y20, ey20, hy20⟩ := own_shr y16 4 4 (by decide) (by decide) (by omega)
          refine r_topI ey20 ?_
          simp only [Nat.reducePow] at hy20
          refine r_istoreN 61 X #[.val (.int y20), .val (.int (11 : Int32))] d10_60 rfl ?_
          refine r_iloadN 62 X d10_61 rfl ?_
          refine r_iconst 63 X (4 : Int32) d10_62 rfl ?_
          by_cases h63_13 : y20 < (4 : Int32)
          · refine r_icmpY 73 X d10_63 (tlt h63_13).1 ?_
            have ih63_13 : y20.toInt < 4 := (ltI rfl (b := 4) rfl).mp h63_13
            refine r_iloadN 74 X d10_73 rfl ?_
            refine r_iloadN 75 X d10_74 rfl ?_
            refine r_iconst 76 X (1 : Int32) d10_75 rfl ?_
            refine r_iushr 77 X d10_76 ?_
            obtain ⟨y21, ey21, hy21⟩ := own_shr y20 1 1 (by decide) (by decide) (by omega)
            refine r_topI ey21 ?_
            simp only [Nat.reducePow] at hy21
            refine r_isub 78 X d10_77 ?_
            refine r_retI X d10_78 (by decide) (by decide) ?_
            rcases (show y21.toInt = 0 ∨ y21.toInt = 1 by omega) with hz | hz
            · exact ⟨_, 11, rfl, (subI (a := 11) rfl hz (by omega) (by omega)).trans (by omega), Or.inr ⟨20, rfl, by simp only [Nat.reducePow]; omega, by simp only [Nat.reducePow, Nat.reduceAdd]; omega⟩, rfl⟩
            · exact ⟨_, 10, rfl, (subI (a := 11) rfl hz (by omega) (by omega)).trans (by omega), Or.inr ⟨21, rfl, by simp only [Nat.reducePow]; omega, by simp only [Nat.reducePow, Nat.reduceAdd]; omega⟩, rfl⟩
          · refine r_icmpN 66 X d10_63 (flt h63_13).1 ?_
            have ih63_13 : ¬ y20.toInt < 4 := mt (ltI rfl (b := 4) rfl).mpr h63_13
            refine r_iinc 69 X (-2 : Int32) #[.val (.int y20), .val (.int (9 : Int32))] d10_66 rfl rfl rfl ?_
            refine r_iloadN 70 X d10_69 rfl ?_
            refine r_iconst 71 X (2 : Int32) d10_70 rfl ?_
            refine r_iushr 72 X d10_71 ?_
            obtain ⟨y22, ey22, hy22⟩ := own_shr y20 2 2 (by decide) (by decide) (by omega)
            refine r_topI ey22 ?_
            simp only [Nat.reducePow] at hy22
            refine r_istoreN 73 X #[.val (.int y22), .val (.int (9 : Int32))] d10_72 rfl ?_
            refine r_iloadN 74 X d10_73 rfl ?_
            refine r_iloadN 75 X d10_74 rfl ?_
            refine r_iconst 76 X (1 : Int32) d10_75 rfl ?_
            refine r_iushr 77 X d10_76 ?_
            obtain ⟨y23, ey23, hy23⟩ := own_shr y22 1 1 (by decide) (by decide) (by omega)
            refine r_topI ey23 ?_
            simp only [Nat.reducePow] at hy23
            refine r_isub 78 X d10_77 ?_
            refine r_retI X d10_78 (by decide) (by decide) ?_
            rcases (show y23.toInt = 0 ∨ y23.toInt = 1 by omega) with hz | hz
            · exact ⟨_, 9, rfl, (subI (a := 9) rfl hz (by omega) (by omega)).trans (by omega), Or.inr ⟨22, rfl, by simp only [Nat.reducePow]; omega, by simp only [Nat.reducePow, Nat.reduceAdd]; omega⟩, rfl⟩
            · exact ⟨_, 8, rfl, (subI (a := 9) rfl hz (by omega) (by omega)).trans (by omega), Or.inr ⟨23, rfl, by simp only [Nat.reducePow]; omega, by simp only [Nat.reducePow, Nat.reduceAdd]; omega⟩, rfl⟩
      · refine r_icmpN 40 X d10_37 (flt h37_10).1 ?_
        have ih37_10 : ¬ y16.toInt < 256 := mt (ltI rfl (b := 256) rfl).mpr h37_10
        refine r_iinc 43 X (-8 : Int32) #[.val (.int y16), .val (.int (7 : Int32))] d10_40 rfl rfl rfl ?_
        refine r_iloadN 44 X d10_43 rfl ?_
        refine r_bipush 46 X (8 : Int32) d10_44 rfl ?_
        refine r_iushr 47 X d10_46 ?_
        obtain ⟨y24, ey24, hy24⟩ := own_shr y16 8 8 (by decide) (by decide) (by omega)
        refine r_topI ey24 ?_
        simp only [Nat.reducePow] at hy24
        refine r_istoreN 48 X #[.val (.int y24), .val (.int (7 : Int32))] d10_47 rfl ?_
        refine r_iloadN 49 X d10_48 rfl ?_
        refine r_bipush 51 X (16 : Int32) d10_49 rfl ?_
        by_cases h51_14 : y24 < (16 : Int32)
        · refine r_icmpY 61 X d10_51 (tlt h51_14).1 ?_
          have ih51_14 : y24.toInt < 16 := (ltI rfl (b := 16) rfl).mp h51_14
          refine r_iloadN 62 X d10_61 rfl ?_
          refine r_iconst 63 X (4 : Int32) d10_62 rfl ?_
          by_cases h63_15 : y24 < (4 : Int32)
          · refine r_icmpY 73 X d10_63 (tlt h63_15).1 ?_
            have ih63_15 : y24.toInt < 4 := (ltI rfl (b := 4) rfl).mp h63_15
            refine r_iloadN 74 X d10_73 rfl ?_
            refine r_iloadN 75 X d10_74 rfl ?_
            refine r_iconst 76 X (1 : Int32) d10_75 rfl ?_
            refine r_iushr 77 X d10_76 ?_
            obtain ⟨y25, ey25, hy25⟩ := own_shr y24 1 1 (by decide) (by decide) (by omega)
            refine r_topI ey25 ?_
            simp only [Nat.reducePow] at hy25
            refine r_isub 78 X d10_77 ?_
            refine r_retI X d10_78 (by decide) (by decide) ?_
            rcases (show y25.toInt = 0 ∨ y25.toInt = 1 by omega) with hz | hz
            · exact ⟨_, 7, rfl, (subI (a := 7) rfl hz (by omega) (by omega)).trans (by omega), Or.inr ⟨24, rfl, by simp only [Nat.reducePow]; omega, by simp only [Nat.reducePow, Nat.reduceAdd]; omega⟩, rfl⟩
            · exact ⟨_, 6, rfl, (subI (a := 7) rfl hz (by omega) (by omega)).trans (by omega), Or.inr ⟨25, rfl, by simp only [Nat.reducePow]; omega, by simp only [Nat.reducePow, Nat.reduceAdd]; omega⟩, rfl⟩
          · refine r_icmpN 66 X d10_63 (flt h63_15).1 ?_
            have ih63_15 : ¬ y24.toInt < 4 := mt (ltI rfl (b := 4) rfl).mpr h63_15
            refine r_iinc 69 X (-2 : Int32) #[.val (.int y24), .val (.int (5 : Int32))] d10_66 rfl rfl rfl ?_
            refine r_iloadN 70 X d10_69 rfl ?_
            refine r_iconst 71 X (2 : Int32) d10_70 rfl ?_
            refine r_iushr 72 X d10_71 ?_
            obtain ⟨y26, ey26, hy26⟩ := own_shr y24 2 2 (by decide) (by decide) (by omega)
            refine r_topI ey26 ?_
            simp only [Nat.reducePow] at hy26
            refine r_istoreN 73 X #[.val (.int y26), .val (.int (5 : Int32))] d10_72 rfl ?_
            refine r_iloadN 74 X d10_73 rfl ?_
            refine r_iloadN 75 X d10_74 rfl ?_
            refine r_iconst 76 X (1 : Int32) d10_75 rfl ?_
            refine r_iushr 77 X d10_76 ?_
            obtain ⟨y27, ey27, hy27⟩ := own_shr y26 1 1 (by decide) (by decide) (by omega)
            refine r_topI ey27 ?_
            simp only [Nat.reducePow] at hy27
            refine r_isub 78 X d10_77 ?_
            refine r_retI X d10_78 (by decide) (by decide) ?_
            rcases (show y27.toInt = 0 ∨ y27.toInt = 1 by omega) with hz | hz
            · exact ⟨_, 5, rfl, (subI (a := 5) rfl hz (by omega) (by omega)).trans (by omega), Or.inr ⟨26, rfl, by simp only [Nat.reducePow]; omega, by simp only [Nat.reducePow, Nat.reduceAdd]; omega⟩, rfl⟩
            · exact ⟨_, 4, rfl, (subI (a := 5) rfl hz (by omega) (by omega)).trans (by omega), Or.inr ⟨27, rfl, by simp only [Nat.reducePow]; omega, by simp only [Nat.reducePow, Nat.reduceAdd]; omega⟩, rfl⟩
        · refine r_icmpN 54 X d10_51 (flt h51_14).1 ?_
          have ih51_14 : ¬ y24.toInt < 16 := mt (ltI rfl (b := 16) rfl).mpr h51_14
          refine r_iinc 57 X (-4 : Int32) #[.val (.int y24), .val (.int (3 : Int32))] d10_54 rfl rfl rfl ?_
          refine r_iloadN 58 X d10_57 rfl ?_
          refine r_iconst 59 X (4 : Int32) d10_58 rfl ?_
          refine r_iushr 60 X d10_59 ?_
          obtain ⟨y28, ey28, hy28⟩ := own_shr y24 4 4 (by decide) (by decide) (by omega)
          refine r_topI ey28 ?_
          simp only [Nat.reducePow] at hy28
          refine r_istoreN 61 X #[.val (.int y28), .val (.int (3 : Int32))] d10_60 rfl ?_
          refine r_iloadN 62 X d10_61 rfl ?_
          refine r_iconst 63 X (4 : Int32) d10_62 rfl ?_
          by_cases h63_16 : y28 < (4 : Int32)
          · refine r_icmpY 73 X d10_63 (tlt h63_16).1 ?_
            have ih63_16 : y28.toInt < 4 := (ltI rfl (b := 4) rfl).mp h63_16
            refine r_iloadN 74 X d10_73 rfl ?_
            refine r_iloadN 75 X d10_74 rfl ?_
            refine r_iconst 76 X (1 : Int32) d10_75 rfl ?_
            refine r_iushr 77 X d10_76 ?_
            obtain ⟨y29, ey29, hy29⟩ := own_shr y28 1 1 (by decide) (by decide) (by omega)
            refine r_topI ey29 ?_
            simp only [Nat.reducePow] at hy29
            refine r_isub 78 X d10_77 ?_
            refine r_retI X d10_78 (by decide) (by decide) ?_
            rcases (show y29.toInt = 0 ∨ y29.toInt = 1 by omega) with hz | hz
            · exact ⟨_, 3, rfl, (subI (a := 3) rfl hz (by omega) (by omega)).trans (by omega), Or.inr ⟨28, rfl, by simp only [Nat.reducePow]; omega, by simp only [Nat.reducePow, Nat.reduceAdd]; omega⟩, rfl⟩
            · exact ⟨_, 2, rfl, (subI (a := 3) rfl hz (by omega) (by omega)).trans (by omega), Or.inr ⟨29, rfl, by simp only [Nat.reducePow]; omega, by simp only [Nat.reducePow, Nat.reduceAdd]; omega⟩, rfl⟩
          · refine r_icmpN 66 X d10_63 (flt h63_16).1 ?_
            have ih63_16 : ¬ y28.toInt < 4 := mt (ltI rfl (b := 4) rfl).mpr h63_16
            refine r_iinc 69 X (-2 : Int32) #[.val (.int y28), .val (.int (1 : Int32))] d10_66 rfl rfl rfl ?_
            refine r_iloadN 70 X d10_69 rfl ?_
            refine r_iconst 71 X (2 : Int32) d10_70 rfl ?_
            refine r_iushr 72 X d10_71 ?_
            obtain ⟨y30, ey30, hy30⟩ := own_shr y28 2 2 (by decide) (by decide) (by omega)
            refine r_topI ey30 ?_
            simp only [Nat.reducePow] at hy30
            refine r_istoreN 73 X #[.val (.int y30), .val (.int (1 : Int32))] d10_72 rfl ?_
            refine r_iloadN 74 X d10_73 rfl ?_
            refine r_iloadN 75 X d10_74 rfl ?_
            refine r_iconst 76 X (1 : Int32) d10_75 rfl ?_
            refine r_iushr 77 X d10_76 ?_
            obtain ⟨y31, ey31, hy31⟩ := own_shr y30 1 1 (by decide) (by decide) (by omega)
            refine r_topI ey31 ?_
            simp only [Nat.reducePow] at hy31
            refine r_isub 78 X d10_77 ?_
            refine r_retI X d10_78 (by decide) (by decide) ?_
            rcases (show y31.toInt = 0 ∨ y31.toInt = 1 by omega) with hz | hz
            · exact ⟨_, 1, rfl, (subI (a := 1) rfl hz (by omega) (by omega)).trans (by omega), Or.inr ⟨30, rfl, by simp only [Nat.reducePow]; omega, by simp only [Nat.reducePow, Nat.reduceAdd]; omega⟩, rfl⟩
            · exact ⟨_, 0, rfl, (subI (a := 1) rfl hz (by omega) (by omega)).trans (by omega), Or.inr ⟨31, rfl, by simp only [Nat.reducePow]; omega, by simp only [Nat.reducePow, Nat.reduceAdd]; omega⟩, rfl⟩
  · refine r_ifN 4 X d10_1 ((if0 _ _).trans (flt h1_1).2.2.1) ?_
    refine r_iloadN 5 X d10_4 rfl ?_
    by_cases h5_17 : p1 = (0 : Int32)
    · refine r_ifN 8 X d10_5 ((if0 _ _).trans (teq h5_17).2) ?_
      refine r_bipush 10 X (32 : Int32) d10_8 rfl ?_
      refine r_goto 14 X d10_10 ?_
      refine r_retI X d10_14 (by decide) (by decide) ?_
      exact ⟨32, 32, rfl, rfl, Or.inl ⟨(own_zero32 p1).mp h5_17, rfl⟩, rfl⟩
    · refine r_ifY 13 X d10_5 ((if0 _ _).trans (feq h5_17).2) ?_
      refine r_iconst 14 X (0 : Int32) d10_13 rfl ?_
      refine r_retI X d10_14 (by decide) (by decide) ?_
      exact ⟨0, 0, rfl, rfl, Or.inr ⟨31, rfl, by have h1 := mt (ltI (x := 0) (y := p1) rfl rfl).mpr h1_1; have h2 := mt (eqI (x := p1) (y := 0) rfl rfl).mpr h5_17; have h3 := own_u32 p1; have h4 := rng32 p1; have e0 : (0 : Int32).toInt = 0 := rfl; simp only [Nat.reducePow]; omega, (own_u32 p1).2.2⟩, rfl⟩
theorem d9_0 : decode jdk_35_method_48_code 0 = .ok (.lload_n 0, 1) := by decide +kernel
theorem d9_1 : decode jdk_35_method_48_code 1 = .ok (.bipush 32, 2) := by decide +kernel
theorem d9_3 : decode jdk_35_method_48_code 3 = .ok (.lushr, 1) := by decide +kernel
theorem d9_4 : decode jdk_35_method_48_code 4 = .ok (.l2i, 1) := by decide +kernel
theorem d9_5 : decode jdk_35_method_48_code 5 = .ok (.istore_n 2, 1) := by decide +kernel
theorem d9_6 : decode jdk_35_method_48_code 6 = .ok (.iload_n 2, 1) := by decide +kernel
theorem d9_7 : decode jdk_35_method_48_code 7 = .ok (.ifCond .ne 14, 3) := by decide +kernel
theorem d9_10 : decode jdk_35_method_48_code 10 = .ok (.bipush 32, 2) := by decide +kernel
theorem d9_12 : decode jdk_35_method_48_code 12 = .ok (.lload_n 0, 1) := by decide +kernel
theorem d9_13 : decode jdk_35_method_48_code 13 = .ok (.l2i, 1) := by decide +kernel
theorem d9_14 : decode jdk_35_method_48_code 14 = .ok (.invokestatic 308, 3) := by decide +kernel
theorem d9_17 : decode jdk_35_method_48_code 17 = .ok (.iadd, 1) := by decide +kernel
theorem d9_18 : decode jdk_35_method_48_code 18 = .ok (.goto 7, 3) := by decide +kernel
theorem d9_21 : decode jdk_35_method_48_code 21 = .ok (.iload_n 2, 1) := by decide +kernel
theorem d9_22 : decode jdk_35_method_48_code 22 = .ok (.invokestatic 308, 3) := by decide +kernel
theorem d9_25 : decode jdk_35_method_48_code 25 = .ok (.ireturn, 1) := by decide +kernel
theorem pn_9 : plainName "java/lang/Long" = true := by first | (simp [plainName, overriddenIn]; done) | decide +kernel
theorem ef_9 (m : MethodId) (x0 : Int64) : entryFrame m #[(.long x0)] 3 = mkF m 0 #[.val (.long x0), .second, .unset] [] := by first | (simp [entryFrame, mkF, argsToLocals, Value.category]; done) | rfl
set_option maxRecDepth 65536 in
set_option maxHeartbeats 40000000 in
theorem rmNlz (l : Launch) (Z : State) (a0 : Array Value) (hw : ∀ d ∈ tables_1, d.before a0 Z = true) (n0 : Nat) (h : Heap) (Z0 : n0 ≤ h.size) (q1 : Int64)  :
    Met1 l Z n0 [] (⟨"java/lang/Long", "numberOfLeadingZeros", "(J)I"⟩ : MethodName) jdk_35_method_48_code 3 (some .int) ({ frames := 1, cells := 0, slots := 0, locals := 14 } : Room) #[(.long q1)] h (fun v h' => ∃ (r : Int32) (R : Nat), v = some (.int r) ∧ r.toInt = (R : Int) ∧ Nlz 64 q1.toBitVec.toNat R ∧ h = h') := by
  refine met_of (plainFor_of_name pn_9) Z0 (fun m => ef_9 m q1) ?_
  intro p e s m below meth c T hs0 X
  refine r_lloadN 1 X d9_0 rfl ?_
  refine r_bipush 3 X (32 : Int32) d9_1 rfl ?_
  refine r_lushr 4 X d9_3 ?_
  refine r_l2i 5 X d9_4 ?_
  refine r_istoreN 6 X #[.val (.long q1), .second, .val (.int (((q1.toUInt64 >>> ((32 : Int32) &&& 0x3f).toInt64.toUInt64).toInt64).toInt32))] d9_5 rfl ?_
  refine r_iloadN 7 X d9_6 rfl ?_
  by_cases h7_1 : (((q1.toUInt64 >>> ((32 : Int32) &&& 0x3f).toInt64.toUInt64).toInt64).toInt32) = (0 : Int32)
  · refine r_ifN 10 X d9_7 ((if0 _ _).trans (teq h7_1).2) ?_
    refine r_bipush 12 X (32 : Int32) d9_10 rfl ?_
    refine r_lloadN 13 X d9_12 rfl ?_
    refine r_l2i 14 X d9_13 ?_
    refine r_callS 17 X (st := [(.int (32 : Int32))]) (rmNlzI l Z a0 hw n0 _ X.sz (q1.toInt32)) (hw _ (List.mem_of_getElem? (i := 63) rfl)) (hw _ (List.mem_of_getElem? (i := 64) rfl)) (hw _ (List.mem_of_getElem? (i := 66) rfl)) (hw _ (List.mem_of_getElem? (i := 65) rfl)) (by decide) pd_0 [(.int (q1.toInt32))] rfl rfl 1 (Nat.le_of_eq rfl) rfl (by decide) (by decide) (by decide) (by decide) d9_14 ?_
    rintro T h2 v2 ⟨r2, R2, rfl, hr2, hR2, rfl⟩ X
    change Run _ _ _ _ _ _ _ _ [(.int r2), (.int (32 : Int32))]
    refine r_iadd 18 X d9_17 ?_
    refine r_goto 25 X d9_18 ?_
    refine r_retI X d9_25 (by decide) (by decide) ?_
    exact ⟨_, 32 + R2, rfl, (addI (a := 32) rfl hr2 (by omega) (by have := nlz_le hR2; omega)).trans (by omega), nlz_lo (own_l2i q1 ▸ hR2) ((own_hi q1).symm.trans ((own_zero32 _).mp h7_1)), rfl⟩
  · refine r_ifY 21 X d9_7 ((if0 _ _).trans (feq h7_1).2) ?_
    refine r_iloadN 22 X d9_21 rfl ?_
    refine r_callS 25 X (st := []) (rmNlzI l Z a0 hw n0 _ X.sz (((q1.toUInt64 >>> ((32 : Int32) &&& 0x3f).toInt64.toUInt64).toInt64).toInt32)) (hw _ (List.mem_of_getElem? (i := 63) rfl)) (hw _ (List.mem_of_getElem? (i := 64) rfl)) (hw _ (List.mem_of_getElem? (i := 66) rfl)) (hw _ (List.mem_of_getElem? (i := 65) rfl)) (by decide) pd_0 [(.int (((q1.toUInt64 >>> ((32 : Int32) &&& 0x3f).toInt64.toUInt64).toInt64).toInt32))] rfl rfl 0 (Nat.le_of_eq rfl) rfl (by decide) (by decide) (by decide) (by decide) d9_22 ?_
    rintro T h3 v3 ⟨r3, R3, rfl, hr3, hR3, rfl⟩ X
    change Run _ _ _ _ _ _ _ _ [(.int r3)]
    refine r_retI X d9_25 (by decide) (by decide) ?_
    exact ⟨_, R3, rfl, hr3, nlz_hi (own_hi q1 ▸ hR3) (fun q => h7_1 ((own_zero32 _).mpr ((own_hi q1).trans q))), rfl⟩
theorem own_groups {x : Int32} {n : Nat} (h : x.toInt = (n : Int)) (hn : n ≤ 256) : ∃ y : Int32, (x + 64 - 1) / 64 = y ∧ y.toInt = (((n + 63) / 64 : Nat) : Int) := by
  refine ⟨_, rfl, ?_⟩
  have e : (x + 64 - 1).toInt = (n : Int) + 64 - 1 := subI (addI h (b := 64) rfl (by omega) (by omega)) (b := 1) rfl (by omega) (by omega)
  rw [(c_idiv (x + 64 - 1) 64 64 (by decide) (by decide)).1 (by omega), e]
  omega
theorem d1_0 : decode prog_145_method_1_code 0 = .ok (.aload_n 0, 1) := by decide +kernel
theorem d1_1 : decode prog_145_method_1_code 1 = .ok (.invokespecial 1, 3) := by decide +kernel
theorem d1_4 : decode prog_145_method_1_code 4 = .ok (.aload_n 0, 1) := by decide +kernel
theorem d1_5 : decode prog_145_method_1_code 5 = .ok (.iconst (-1), 1) := by decide +kernel
theorem d1_6 : decode prog_145_method_1_code 6 = .ok (.putfield 7, 3) := by decide +kernel
theorem d1_9 : decode prog_145_method_1_code 9 = .ok (.aload_n 0, 1) := by decide +kernel
theorem d1_10 : decode prog_145_method_1_code 10 = .ok (.iload_n 1, 1) := by decide +kernel
theorem d1_11 : decode prog_145_method_1_code 11 = .ok (.newarray .long, 2) := by decide +kernel
theorem d1_13 : decode prog_145_method_1_code 13 = .ok (.putfield 13, 3) := by decide +kernel
theorem d1_16 : decode prog_145_method_1_code 16 = .ok (.aload_n 0, 1) := by decide +kernel
theorem d1_17 : decode prog_145_method_1_code 17 = .ok (.iload_n 1, 1) := by decide +kernel
theorem d1_18 : decode prog_145_method_1_code 18 = .ok (.bipush 64, 2) := by decide +kernel
theorem d1_20 : decode prog_145_method_1_code 20 = .ok (.iadd, 1) := by decide +kernel
theorem d1_21 : decode prog_145_method_1_code 21 = .ok (.iconst 1, 1) := by decide +kernel
theorem d1_22 : decode prog_145_method_1_code 22 = .ok (.isub, 1) := by decide +kernel
theorem d1_23 : decode prog_145_method_1_code 23 = .ok (.bipush 64, 2) := by decide +kernel
theorem d1_25 : decode prog_145_method_1_code 25 = .ok (.idiv, 1) := by decide +kernel
theorem d1_26 : decode prog_145_method_1_code 26 = .ok (.newarray .long, 2) := by decide +kernel
theorem d1_28 : decode prog_145_method_1_code 28 = .ok (.putfield 19, 3) := by decide +kernel
theorem d1_31 : decode prog_145_method_1_code 31 = .ok (.return_, 1) := by decide +kernel
theorem pn_1 : plainName "com/example/skiprail/skiprail/lists/Window" = true := by first | (simp [plainName, overriddenIn]; done) | decide +kernel
theorem ef_1 (m : MethodId) (x0 : Addr) (x1 : Int32) : entryFrame m #[(.ref x0), (.int x1)] 2 = mkF m 0 #[.val (.ref x0), .val (.int x1)] [] := by first | (simp [entryFrame, mkF, argsToLocals, Value.category]; done) | rfl
set_option maxRecDepth 65536 in
set_option maxHeartbeats 40000000 in
theorem rmIni (l : Launch) (Z : State) (a0 : Array Value) (hw : ∀ d ∈ tables_1, d.before a0 Z = true) (n0 : Nat) (h : Heap) (Z0 : n0 ≤ h.size) (a1 : Addr) (p1 : Int32) (n : Nat) (hn : p1.toInt = (n : Int)) (hcap : n ≤ 256) (E_a1 : Exa Z h a1 "com/example/skiprail/skiprail/lists/Window") (F_a1_words : Fld Z h a1 "com/example/skiprail/skiprail/lists/Window" "words" "[J" .null) (F_a1_marked : Fld Z h a1 "com/example/skiprail/skiprail/lists/Window" "marked" "[J" .null) (F_a1_first : Fld Z h a1 "com/example/skiprail/skiprail/lists/Window" "first" "J" (.long (0 : Int64))) (F_a1_last : Fld Z h a1 "com/example/skiprail/skiprail/lists/Window" "last" "J" (.long (0 : Int64))) (F_a1_group : Fld Z h a1 "com/example/skiprail/skiprail/lists/Window" "group" "I" (.int (0 : Int32))) (F_a1_groupLeft : Fld Z h a1 "com/example/skiprail/skiprail/lists/Window" "groupLeft" "J" (.long (0 : Int64))) (F_a1_word : Fld Z h a1 "com/example/skiprail/skiprail/lists/Window" "word" "I" (.int (0 : Int32))) (F_a1_wordLeft : Fld Z h a1 "com/example/skiprail/skiprail/lists/Window" "wordLeft" "J" (.long (0 : Int64))) (ga : n0 ≤ a1) :
    Met1 l Z n0 [] (⟨"com/example/skiprail/skiprail/lists/Window", "<init>", "(I)V"⟩ : MethodName) prog_145_method_1_code 2 none ({ frames := 1, cells := 2, slots := 260, locals := 12 } : Room) #[(.ref a1), (.int p1)] h (fun v h' => v = none ∧ ∃ wa ma, Win Z h' n0 a1 wa ma n ((n + 63) / 64) (fun _ => 0) (fun _ => 0) 0 0 (-1) 0 0 0) := by
  refine met_of (plainFor_of_name pn_1) Z0 (fun m => ef_1 m a1 p1) ?_
  intro p e s m below meth c T hs0 X
  refine r_aloadN 1 X d1_0 rfl rfl ?_
  refine r_initO 4 X (hw _ (List.mem_of_getElem? (i := 8) rfl)) (hw _ (List.mem_of_getElem? (i := 9) rfl)) (hw _ (List.mem_of_getElem? (i := 10) rfl)) d1_1 rfl (by decide) 0 (Nat.le_of_eq rfl) (by decide) ?_
  intro T X
  refine r_aloadN 5 X d1_4 rfl rfl ?_
  refine r_iconst 6 X (-1 : Int32) d1_5 rfl ?_
  refine r_putfield 9 X (host := "") (Or.inl (hw _ (List.mem_of_getElem? (i := 11) rfl))) Via.refl F_a1_group E_a1 (Or.inl (hw _ (List.mem_of_getElem? (i := 12) rfl))) (hw _ (List.mem_of_getElem? (i := 3) rfl)) (ty := .int) (by decide) rfl rfl ga d1_6 ?_
  intro T h1 W1 X
  have E_a1 := E_a1.wr W1
  have F_a1_words := F_a1_words.other W1 (Or.inr (slot_ne (Or.inr (hw _ (List.mem_of_getElem? (i := 15) rfl))) (Or.inl (hw _ (List.mem_of_getElem? (i := 12) rfl))) (by decide) (t := (.array .long)) (t' := .int) (by decide) (by decide)))
  have F_a1_marked := F_a1_marked.other W1 (Or.inr (slot_ne (Or.inr (hw _ (List.mem_of_getElem? (i := 17) rfl))) (Or.inl (hw _ (List.mem_of_getElem? (i := 12) rfl))) (by decide) (t := (.array .long)) (t' := .int) (by decide) (by decide)))
  have F_a1_first := F_a1_first.other W1 (Or.inr (slot_ne (Or.inl (hw _ (List.mem_of_getElem? (i := 25) rfl))) (Or.inl (hw _ (List.mem_of_getElem? (i := 12) rfl))) (by decide) (t := .long) (t' := .int) (by decide) (by decide)))
  have F_a1_last := F_a1_last.other W1 (Or.inr (slot_ne (Or.inl (hw _ (List.mem_of_getElem? (i := 28) rfl))) (Or.inl (hw _ (List.mem_of_getElem? (i := 12) rfl))) (by decide) (t := .long) (t' := .int) (by decide) (by decide)))
  have F_a1_group := F_a1_group.same W1
  have F_a1_groupLeft := F_a1_groupLeft.other W1 (Or.inr (slot_ne (Or.inl (hw _ (List.mem_of_getElem? (i := 30) rfl))) (Or.inl (hw _ (List.mem_of_getElem? (i := 12) rfl))) (by decide) (t := .long) (t' := .int) (by decide) (by decide)))
  have F_a1_word := F_a1_word.other W1 (Or.inr (slot_ne (Or.inl (hw _ (List.mem_of_getElem? (i := 69) rfl))) (Or.inl (hw _ (List.mem_of_getElem? (i := 12) rfl))) (by decide) (t := .int) (t' := .int) (by decide) (by decide)))
  have F_a1_wordLeft := F_a1_wordLeft.other W1 (Or.inr (slot_ne (Or.inl (hw _ (List.mem_of_getElem? (i := 32) rfl))) (Or.inl (hw _ (List.mem_of_getElem? (i := 12) rfl))) (by decide) (t := .long) (t' := .int) (by decide) (by decide)))
  refine r_aloadN 10 X d1_9 rfl rfl ?_
  refine r_iloadN 11 X d1_10 rfl ?_
  refine r_newarray 13 X n 256 (hw _ (List.mem_of_getElem? (i := 13) rfl)) d1_11 hn (by omega) (by decide) (by decide) (by decide) ?_
  intro T h2 b2 g2 gn_b2 E2 A_b2 X
  have ne_a1_b2 : a1 ≠ b2 := Nat.ne_of_lt (Nat.lt_of_lt_of_eq E_a1.lt g2.symm)
  have E_a1 := E_a1.ext E2
  have F_a1_words := F_a1_words.ext E2
  have F_a1_marked := F_a1_marked.ext E2
  have F_a1_first := F_a1_first.ext E2
  have F_a1_last := F_a1_last.ext E2
  have F_a1_group := F_a1_group.ext E2
  have F_a1_groupLeft := F_a1_groupLeft.ext E2
  have F_a1_word := F_a1_word.ext E2
  have F_a1_wordLeft := F_a1_wordLeft.ext E2
  replace A_b2 : AF Z h2 b2 .long n (fun j => .long ((fun _ => (0 : Int64)) j)) := A_b2
  refine r_putfield 16 X (host := "") (Or.inl (hw _ (List.mem_of_getElem? (i := 14) rfl))) Via.refl F_a1_words E_a1 (Or.inr ⟨(hw _ (List.mem_of_getElem? (i := 15) rfl)), rfl, rfl⟩) (hw _ (List.mem_of_getElem? (i := 3) rfl)) (ty := (.array .long)) (by decide) rfl rfl ga d1_13 ?_
  intro T h3 W3 X
  have E_a1 := E_a1.wr W3
  have F_a1_words := F_a1_words.same W3
  have F_a1_marked := F_a1_marked.other W3 (Or.inr (slot_ne (Or.inr (hw _ (List.mem_of_getElem? (i := 17) rfl))) (Or.inr (hw _ (List.mem_of_getElem? (i := 15) rfl))) (by decide) (t := (.array .long)) (t' := (.array .long)) (by decide) (by decide)))
  have F_a1_first := F_a1_first.other W3 (Or.inr (slot_ne (Or.inl (hw _ (List.mem_of_getElem? (i := 25) rfl))) (Or.inr (hw _ (List.mem_of_getElem? (i := 15) rfl))) (by decide) (t := .long) (t' := (.array .long)) (by decide) (by decide)))
  have F_a1_last := F_a1_last.other W3 (Or.inr (slot_ne (Or.inl (hw _ (List.mem_of_getElem? (i := 28) rfl))) (Or.inr (hw _ (List.mem_of_getElem? (i := 15) rfl))) (by decide) (t := .long) (t' := (.array .long)) (by decide) (by decide)))
  have F_a1_group := F_a1_group.other W3 (Or.inr (slot_ne (Or.inl (hw _ (List.mem_of_getElem? (i := 12) rfl))) (Or.inr (hw _ (List.mem_of_getElem? (i := 15) rfl))) (by decide) (t := .int) (t' := (.array .long)) (by decide) (by decide)))
  have F_a1_groupLeft := F_a1_groupLeft.other W3 (Or.inr (slot_ne (Or.inl (hw _ (List.mem_of_getElem? (i := 30) rfl))) (Or.inr (hw _ (List.mem_of_getElem? (i := 15) rfl))) (by decide) (t := .long) (t' := (.array .long)) (by decide) (by decide)))
  have F_a1_word := F_a1_word.other W3 (Or.inr (slot_ne (Or.inl (hw _ (List.mem_of_getElem? (i := 69) rfl))) (Or.inr (hw _ (List.mem_of_getElem? (i := 15) rfl))) (by decide) (t := .int) (t' := (.array .long)) (by decide) (by decide)))
  have F_a1_wordLeft := F_a1_wordLeft.other W3 (Or.inr (slot_ne (Or.inl (hw _ (List.mem_of_getElem? (i := 32) rfl))) (Or.inr (hw _ (List.mem_of_getElem? (i := 15) rfl))) (by decide) (t := .long) (t' := (.array .long)) (by decide) (by decide)))
  have A_b2 := A_b2.other W3 (Ne.symm ne_a1_b2)
  refine r_aloadN 17 X d1_16 rfl rfl ?_
  refine r_iloadN 18 X d1_17 rfl ?_
  refine r_bipush 20 X (64 : Int32) d1_18 rfl ?_
  refine r_iadd 21 X d1_20 ?_
  refine r_iconst 22 X (1 : Int32) d1_21 rfl ?_
  refine r_isub 23 X d1_22 ?_
  refine r_bipush 25 X (64 : Int32) d1_23 rfl ?_
  refine r_idiv 26 X d1_25 (by decide) ?_
  obtain ⟨zg, ezg, hzg⟩ := own_groups hn (by omega)
  refine r_topI ezg ?_
  refine r_newarray 28 X ((n + 63) / 64) 4 (hw _ (List.mem_of_getElem? (i := 13) rfl)) d1_26 hzg (by omega) (by decide) (by decide) (by decide) ?_
  intro T h4 b4 g4 gn_b4 E4 A_b4 X
  have ne_a1_b4 : a1 ≠ b4 := Nat.ne_of_lt (Nat.lt_of_lt_of_eq E_a1.lt g4.symm)
  have ne_b2_b4 : b2 ≠ b4 := Nat.ne_of_lt (Nat.lt_of_lt_of_eq A_b2.lt g4.symm)
  have E_a1 := E_a1.ext E4
  have F_a1_words := F_a1_words.ext E4
  have F_a1_marked := F_a1_marked.ext E4
  have F_a1_first := F_a1_first.ext E4
  have F_a1_last := F_a1_last.ext E4
  have F_a1_group := F_a1_group.ext E4
  have F_a1_groupLeft := F_a1_groupLeft.ext E4
  have F_a1_word := F_a1_word.ext E4
  have F_a1_wordLeft := F_a1_wordLeft.ext E4
  have A_b2 := A_b2.ext E4
  replace A_b4 : AF Z h4 b4 .long ((n + 63) / 64) (fun j => .long ((fun _ => (0 : Int64)) j)) := A_b4
  refine r_putfield 31 X (host := "") (Or.inl (hw _ (List.mem_of_getElem? (i := 16) rfl))) Via.refl F_a1_marked E_a1 (Or.inr ⟨(hw _ (List.mem_of_getElem? (i := 17) rfl)), rfl, rfl⟩) (hw _ (List.mem_of_getElem? (i := 3) rfl)) (ty := (.array .long)) (by decide) rfl rfl ga d1_28 ?_
  intro T h5 W5 X
  have E_a1 := E_a1.wr W5
  have F_a1_words := F_a1_words.other W5 (Or.inr (slot_ne (Or.inr (hw _ (List.mem_of_getElem? (i := 15) rfl))) (Or.inr (hw _ (List.mem_of_getElem? (i := 17) rfl))) (by decide) (t := (.array .long)) (t' := (.array .long)) (by decide) (by decide)))
  have F_a1_marked := F_a1_marked.same W5
  have F_a1_first := F_a1_first.other W5 (Or.inr (slot_ne (Or.inl (hw _ (List.mem_of_getElem? (i := 25) rfl))) (Or.inr (hw _ (List.mem_of_getElem? (i := 17) rfl))) (by decide) (t := .long) (t' := (.array .long)) (by decide) (by decide)))
  have F_a1_last := F_a1_last.other W5 (Or.inr (slot_ne (Or.inl (hw _ (List.mem_of_getElem? (i := 28) rfl))) (Or.inr (hw _ (List.mem_of_getElem? (i := 17) rfl))) (by decide) (t := .long) (t' := (.array .long)) (by decide) (by decide)))
  have F_a1_group := F_a1_group.other W5 (Or.inr (slot_ne (Or.inl (hw _ (List.mem_of_getElem? (i := 12) rfl))) (Or.inr (hw _ (List.mem_of_getElem? (i := 17) rfl))) (by decide) (t := .int) (t' := (.array .long)) (by decide) (by decide)))
  have F_a1_groupLeft := F_a1_groupLeft.other W5 (Or.inr (slot_ne (Or.inl (hw _ (List.mem_of_getElem? (i := 30) rfl))) (Or.inr (hw _ (List.mem_of_getElem? (i := 17) rfl))) (by decide) (t := .long) (t' := (.array .long)) (by decide) (by decide)))
  have F_a1_word := F_a1_word.other W5 (Or.inr (slot_ne (Or.inl (hw _ (List.mem_of_getElem? (i := 69) rfl))) (Or.inr (hw _ (List.mem_of_getElem? (i := 17) rfl))) (by decide) (t := .int) (t' := (.array .long)) (by decide) (by decide)))
  have F_a1_wordLeft := F_a1_wordLeft.other W5 (Or.inr (slot_ne (Or.inl (hw _ (List.mem_of_getElem? (i := 32) rfl))) (Or.inr (hw _ (List.mem_of_getElem? (i := 17) rfl))) (by decide) (t := .long) (t' := (.array .long)) (by decide) (by decide)))
  have A_b2 := A_b2.other W5 (Ne.symm ne_a1_b2)
  have A_b4 := A_b4.other W5 (Ne.symm ne_a1_b4)
  refine r_retV X d1_31 (by decide) (by decide) ?_
  exact ⟨rfl, b2, b4, E_a1, F_a1_words, F_a1_marked, F_a1_first, F_a1_last, F_a1_group, F_a1_groupLeft, F_a1_word, F_a1_wordLeft, A_b2, A_b4, ga, gn_b2, gn_b4, (Ne.symm ne_a1_b2), (Ne.symm ne_a1_b4), ne_b2_b4⟩
def lastV (n : Nat) (from_ sp : Int64) : Int64 := if (9223372036854775807 : Int64) - sp < from_ then 9223372036854775807 else from_ + sp
theorem d3_0 : decode prog_145_method_3_code 0 = .ok (.aload_n 0, 1) := by decide +kernel
theorem d3_1 : decode prog_145_method_3_code 1 = .ok (.getfield 13, 3) := by decide +kernel
theorem d3_4 : decode prog_145_method_3_code 4 = .ok (.arraylength, 1) := by decide +kernel
theorem d3_5 : decode prog_145_method_3_code 5 = .ok (.i2l, 1) := by decide +kernel
theorem d3_6 : decode prog_145_method_3_code 6 = .ok (.ldc2_w 22, 3) := by decide +kernel
theorem d3_9 : decode prog_145_method_3_code 9 = .ok (.lmul, 1) := by decide +kernel
theorem d3_10 : decode prog_145_method_3_code 10 = .ok (.lconst 1, 1) := by decide +kernel
theorem d3_11 : decode prog_145_method_3_code 11 = .ok (.lsub, 1) := by decide +kernel
theorem d3_12 : decode prog_145_method_3_code 12 = .ok (.lstore_n 3, 1) := by decide +kernel
theorem d3_13 : decode prog_145_method_3_code 13 = .ok (.aload_n 0, 1) := by decide +kernel
theorem d3_14 : decode prog_145_method_3_code 14 = .ok (.lload_n 1, 1) := by decide +kernel
theorem d3_15 : decode prog_145_method_3_code 15 = .ok (.putfield 30, 3) := by decide +kernel
theorem d3_18 : decode prog_145_method_3_code 18 = .ok (.aload_n 0, 1) := by decide +kernel
theorem d3_19 : decode prog_145_method_3_code 19 = .ok (.lload_n 1, 1) := by decide +kernel
theorem d3_20 : decode prog_145_method_3_code 20 = .ok (.ldc2_w 34, 3) := by decide +kernel
theorem d3_23 : decode prog_145_method_3_code 23 = .ok (.lload_n 3, 1) := by decide +kernel
theorem d3_24 : decode prog_145_method_3_code 24 = .ok (.lsub, 1) := by decide +kernel
theorem d3_25 : decode prog_145_method_3_code 25 = .ok (.lcmp, 1) := by decide +kernel
theorem d3_26 : decode prog_145_method_3_code 26 = .ok (.ifCond .le 9, 3) := by decide +kernel
theorem d3_29 : decode prog_145_method_3_code 29 = .ok (.ldc2_w 34, 3) := by decide +kernel
theorem d3_32 : decode prog_145_method_3_code 32 = .ok (.goto 6, 3) := by decide +kernel
theorem d3_35 : decode prog_145_method_3_code 35 = .ok (.lload_n 1, 1) := by decide +kernel
theorem d3_36 : decode prog_145_method_3_code 36 = .ok (.lload_n 3, 1) := by decide +kernel
theorem d3_37 : decode prog_145_method_3_code 37 = .ok (.ladd, 1) := by decide +kernel
theorem d3_38 : decode prog_145_method_3_code 38 = .ok (.putfield 36, 3) := by decide +kernel
theorem d3_41 : decode prog_145_method_3_code 41 = .ok (.aload_n 0, 1) := by decide +kernel
theorem d3_42 : decode prog_145_method_3_code 42 = .ok (.iconst (-1), 1) := by decide +kernel
theorem d3_43 : decode prog_145_method_3_code 43 = .ok (.putfield 7, 3) := by decide +kernel
theorem d3_46 : decode prog_145_method_3_code 46 = .ok (.aload_n 0, 1) := by decide +kernel
theorem d3_47 : decode prog_145_method_3_code 47 = .ok (.lconst 0, 1) := by decide +kernel
theorem d3_48 : decode prog_145_method_3_code 48 = .ok (.putfield 39, 3) := by decide +kernel
theorem d3_51 : decode prog_145_method_3_code 51 = .ok (.aload_n 0, 1) := by decide +kernel
theorem d3_52 : decode prog_145_method_3_code 52 = .ok (.lconst 0, 1) := by decide +kernel
theorem d3_53 : decode prog_145_method_3_code 53 = .ok (.putfield 42, 3) := by decide +kernel
theorem d3_56 : decode prog_145_method_3_code 56 = .ok (.return_, 1) := by decide +kernel
theorem pn_3 : plainName "com/example/skiprail/skiprail/lists/Window" = true := by first | (simp [plainName, overriddenIn]; done) | decide +kernel
theorem ef_3 (m : MethodId) (x0 : Addr) (x1 : Int64) : entryFrame m #[(.ref x0), (.long x1)] 5 = mkF m 0 #[.val (.ref x0), .val (.long x1), .second, .unset, .unset] [] := by first | (simp [entryFrame, mkF, argsToLocals, Value.category]; done) | rfl
set_option maxRecDepth 65536 in
set_option maxHeartbeats 40000000 in
theorem rmOpen (l : Launch) (Z : State) (a0 : Array Value) (hw : ∀ d ∈ tables_1, d.before a0 Z = true) (n0 : Nat) (h : Heap) (Z0 : n0 ≤ h.size) (a1 wa ma : Addr) (n G : Nat) (fi la : Int64) (q1 : Int64) (wf mf : Nat → Int64) (grp : Int32) (gl : Int64) (wd : Int32) (wl : Int64) (zn : Int32) (hzn : zn.toInt = (n : Int)) (Wn : Win Z h n0 a1 wa ma n G wf mf fi la grp gl wd wl) :
    Met1 l Z n0 [] (⟨"com/example/skiprail/skiprail/lists/Window", "open", "(J)V"⟩ : MethodName) prog_145_method_3_code 5 none ({ frames := 0, cells := 0, slots := 0, locals := 0 } : Room) #[(.ref a1), (.long q1)] h (fun v h' => v = none ∧ Win Z h' n0 a1 wa ma n G wf mf q1 (lastV n q1 ((zn.toInt64 * 64) - 1)) (-1) 0 wd 0) := by
  refine met_of (plainFor_of_name pn_3) Z0 (fun m => ef_3 m a1 q1) ?_
  intro p e s m below meth c T hs0 X
  obtain ⟨E_a1, F_a1_words, F_a1_marked, F_a1_first, F_a1_last, F_a1_group, F_a1_groupLeft, F_a1_word, F_a1_wordLeft, A_wa, A_ma, ga, gwa, gma, ne_wa_a1, ne_ma_a1, ne_wa_ma⟩ := Wn
  refine r_aloadN 1 X d3_0 rfl rfl ?_
  refine r_getfield 4 X (host := "") (Or.inl (hw _ (List.mem_of_getElem? (i := 14) rfl))) Via.refl F_a1_words d3_1 ?_
  intro T X
  refine r_arraylength 5 X A_wa zn hzn d3_4 ?_
  refine r_i2l 6 X d3_5 ?_
  refine r_ldc2Long 9 X (hw _ (List.mem_of_getElem? (i := 23) rfl)) d3_6 ?_
  refine r_lmul 10 X d3_9 ?_
  refine r_lconst 11 X (1 : Int64) d3_10 rfl ?_
  refine r_lsub 12 X d3_11 ?_
  refine r_lstoreN 13 X #[.val (.ref a1), .val (.long q1), .second, .val (.long (((zn.toInt64) * (64 : Int64)) - (1 : Int64))), .second] d3_12 rfl ?_
  refine r_aloadN 14 X d3_13 rfl rfl ?_
  refine r_lloadN 15 X d3_14 rfl ?_
  refine r_putfield 18 X (host := "") (Or.inl (hw _ (List.mem_of_getElem? (i := 24) rfl))) Via.refl F_a1_first E_a1 (Or.inl (hw _ (List.mem_of_getElem? (i := 25) rfl))) (hw _ (List.mem_of_getElem? (i := 3) rfl)) (ty := .long) (by decide) rfl rfl ga d3_15 ?_
  intro T h1 W1 X
  have E_a1 := E_a1.wr W1
  have F_a1_words := F_a1_words.other W1 (Or.inr (slot_ne (Or.inr (hw _ (List.mem_of_getElem? (i := 15) rfl))) (Or.inl (hw _ (List.mem_of_getElem? (i := 25) rfl))) (by decide) (t := (.array .long)) (t' := .long) (by decide) (by decide)))
  have F_a1_marked := F_a1_marked.other W1 (Or.inr (slot_ne (Or.inr (hw _ (List.mem_of_getElem? (i := 17) rfl))) (Or.inl (hw _ (List.mem_of_getElem? (i := 25) rfl))) (by decide) (t := (.array .long)) (t' := .long) (by decide) (by decide)))
  have F_a1_first := F_a1_first.same W1
  have F_a1_last := F_a1_last.other W1 (Or.inr (slot_ne (Or.inl (hw _ (List.mem_of_getElem? (i := 28) rfl))) (Or.inl (hw _ (List.mem_of_getElem? (i := 25) rfl))) (by decide) (t := .long) (t' := .long) (by decide) (by decide)))
  have F_a1_group := F_a1_group.other W1 (Or.inr (slot_ne (Or.inl (hw _ (List.mem_of_getElem? (i := 12) rfl))) (Or.inl (hw _ (List.mem_of_getElem? (i := 25) rfl))) (by decide) (t := .int) (t' := .long) (by decide) (by decide)))
  have F_a1_groupLeft := F_a1_groupLeft.other W1 (Or.inr (slot_ne (Or.inl (hw _ (List.mem_of_getElem? (i := 30) rfl))) (Or.inl (hw _ (List.mem_of_getElem? (i := 25) rfl))) (by decide) (t := .long) (t' := .long) (by decide) (by decide)))
  have F_a1_word := F_a1_word.other W1 (Or.inr (slot_ne (Or.inl (hw _ (List.mem_of_getElem? (i := 69) rfl))) (Or.inl (hw _ (List.mem_of_getElem? (i := 25) rfl))) (by decide) (t := .int) (t' := .long) (by decide) (by decide)))
  have F_a1_wordLeft := F_a1_wordLeft.other W1 (Or.inr (slot_ne (Or.inl (hw _ (List.mem_of_getElem? (i := 32) rfl))) (Or.inl (hw _ (List.mem_of_getElem? (i := 25) rfl))) (by decide) (t := .long) (t' := .long) (by decide) (by decide)))
  have A_wa := A_wa.other W1 ne_wa_a1
  have A_ma := A_ma.other W1 ne_ma_a1
  refine r_aloadN 19 X d3_18 rfl rfl ?_
  refine r_lloadN 20 X d3_19 rfl ?_
  refine r_ldc2Long 23 X (hw _ (List.mem_of_getElem? (i := 26) rfl)) d3_20 ?_
  refine r_lloadN 24 X d3_23 rfl ?_
  refine r_lsub 25 X d3_24 ?_
  refine r_lcmp 26 X d3_25 ?_
  by_cases h26_2 : ((9223372036854775807 : Int64) - (((zn.toInt64) * (64 : Int64)) - (1 : Int64))) < q1
  · refine r_ifN 29 X d3_26 ((if0 _ _).trans (tlt ((lw_gt _ _).mpr h26_2)).2.2.2) ?_
    refine r_ldc2Long 32 X (hw _ (List.mem_of_getElem? (i := 26) rfl)) d3_29 ?_
    refine r_goto 38 X d3_32 ?_
    refine r_topJ (x' := (lastV n q1 ((zn.toInt64 * 64) - 1))) (by simp [lastV, h26_2]) ?_
    refine r_putfield 41 X (host := "") (Or.inl (hw _ (List.mem_of_getElem? (i := 27) rfl))) Via.refl F_a1_last E_a1 (Or.inl (hw _ (List.mem_of_getElem? (i := 28) rfl))) (hw _ (List.mem_of_getElem? (i := 3) rfl)) (ty := .long) (by decide) rfl rfl ga d3_38 ?_
    intro T h3 W3 X
    have E_a1 := E_a1.wr W3
    have F_a1_words := F_a1_words.other W3 (Or.inr (slot_ne (Or.inr (hw _ (List.mem_of_getElem? (i := 15) rfl))) (Or.inl (hw _ (List.mem_of_getElem? (i := 28) rfl))) (by decide) (t := (.array .long)) (t' := .long) (by decide) (by decide)))
    have F_a1_marked := F_a1_marked.other W3 (Or.inr (slot_ne (Or.inr (hw _ (List.mem_of_getElem? (i := 17) rfl))) (Or.inl (hw _ (List.mem_of_getElem? (i := 28) rfl))) (by decide) (t := (.array .long)) (t' := .long) (by decide) (by decide)))
    have F_a1_first := F_a1_first.other W3 (Or.inr (slot_ne (Or.inl (hw _ (List.mem_of_getElem? (i := 25) rfl))) (Or.inl (hw _ (List.mem_of_getElem? (i := 28) rfl))) (by decide) (t := .long) (t' := .long) (by decide) (by decide)))
    have F_a1_last := F_a1_last.same W3
    have F_a1_group := F_a1_group.other W3 (Or.inr (slot_ne (Or.inl (hw _ (List.mem_of_getElem? (i := 12) rfl))) (Or.inl (hw _ (List.mem_of_getElem? (i := 28) rfl))) (by decide) (t := .int) (t' := .long) (by decide) (by decide)))
    have F_a1_groupLeft := F_a1_groupLeft.other W3 (Or.inr (slot_ne (Or.inl (hw _ (List.mem_of_getElem? (i := 30) rfl))) (Or.inl (hw _ (List.mem_of_getElem? (i := 28) rfl))) (by decide) (t := .long) (t' := .long) (by decide) (by decide)))
    have F_a1_word := F_a1_word.other W3 (Or.inr (slot_ne (Or.inl (hw _ (List.mem_of_getElem? (i := 69) rfl))) (Or.inl (hw _ (List.mem_of_getElem? (i := 28) rfl))) (by decide) (t := .int) (t' := .long) (by decide) (by decide)))
    have F_a1_wordLeft := F_a1_wordLeft.other W3 (Or.inr (slot_ne (Or.inl (hw _ (List.mem_of_getElem? (i := 32) rfl))) (Or.inl (hw _ (List.mem_of_getElem? (i := 28) rfl))) (by decide) (t := .long) (t' := .long) (by decide) (by decide)))
    have A_wa := A_wa.other W3 ne_wa_a1
    have A_ma := A_ma.other W3 ne_ma_a1
    refine r_aloadN 42 X d3_41 rfl rfl ?_
    refine r_iconst 43 X (-1 : Int32) d3_42 rfl ?_
    refine r_putfield 46 X (host := "") (Or.inl (hw _ (List.mem_of_getElem? (i := 11) rfl))) Via.refl F_a1_group E_a1 (Or.inl (hw _ (List.mem_of_getElem? (i := 12) rfl))) (hw _ (List.mem_of_getElem? (i := 3) rfl)) (ty := .int) (by decide) rfl rfl ga d3_43 ?_
    intro T h4 W4 X
    have E_a1 := E_a1.wr W4
    have F_a1_words := F_a1_words.other W4 (Or.inr (slot_ne (Or.inr (hw _ (List.mem_of_getElem? (i := 15) rfl))) (Or.inl (hw _ (List.mem_of_getElem? (i := 12) rfl))) (by decide) (t := (.array .long)) (t' := .int) (by decide) (by decide)))
    have F_a1_marked := F_a1_marked.other W4 (Or.inr (slot_ne (Or.inr (hw _ (List.mem_of_getElem? (i := 17) rfl))) (Or.inl (hw _ (List.mem_of_getElem? (i := 12) rfl))) (by decide) (t := (.array .long)) (t' := .int) (by decide) (by decide)))
    have F_a1_first := F_a1_first.other W4 (Or.inr (slot_ne (Or.inl (hw _ (List.mem_of_getElem? (i := 25) rfl))) (Or.inl (hw _ (List.mem_of_getElem? (i := 12) rfl))) (by decide) (t := .long) (t' := .int) (by decide) (by decide)))
    have F_a1_last := F_a1_last.other W4 (Or.inr (slot_ne (Or.inl (hw _ (List.mem_of_getElem? (i := 28) rfl))) (Or.inl (hw _ (List.mem_of_getElem? (i := 12) rfl))) (by decide) (t := .long) (t' := .int) (by decide) (by decide)))
    have F_a1_group := F_a1_group.same W4
    have F_a1_groupLeft := F_a1_groupLeft.other W4 (Or.inr (slot_ne (Or.inl (hw _ (List.mem_of_getElem? (i := 30) rfl))) (Or.inl (hw _ (List.mem_of_getElem? (i := 12) rfl))) (by decide) (t := .long) (t' := .int) (by decide) (by decide)))
    have F_a1_word := F_a1_word.other W4 (Or.inr (slot_ne (Or.inl (hw _ (List.mem_of_getElem? (i := 69) rfl))) (Or.inl (hw _ (List.mem_of_getElem? (i := 12) rfl))) (by decide) (t := .int) (t' := .int) (by decide) (by decide)))
    have F_a1_wordLeft := F_a1_wordLeft.other W4 (Or.inr (slot_ne (Or.inl (hw _ (List.mem_of_getElem? (i := 32) rfl))) (Or.inl (hw _ (List.mem_of_getElem? (i := 12) rfl))) (by decide) (t := .long) (t' := .int) (by decide) (by decide)))
    have A_wa := A_wa.other W4 ne_wa_a1
    have A_ma := A_ma.other W4 ne_ma_a1
    refine r_aloadN 47 X d3_46 rfl rfl ?_
    refine r_lconst 48 X (0 : Int64) d3_47 rfl ?_
    refine r_putfield 51 X (host := "") (Or.inl (hw _ (List.mem_of_getElem? (i := 29) rfl))) Via.refl F_a1_groupLeft E_a1 (Or.inl (hw _ (List.mem_of_getElem? (i := 30) rfl))) (hw _ (List.mem_of_getElem? (i := 3) rfl)) (ty := .long) (by decide) rfl rfl ga d3_48 ?_
    intro T h5 W5 X
    have E_a1 := E_a1.wr W5
    have F_a1_words := F_a1_words.other W5 (Or.inr (slot_ne (Or.inr (hw _ (List.mem_of_getElem? (i := 15) rfl))) (Or.inl (hw _ (List.mem_of_getElem? (i := 30) rfl))) (by decide) (t := (.array .long)) (t' := .long) (by decide) (by decide)))
    have F_a1_marked := F_a1_marked.other W5 (Or.inr (slot_ne (Or.inr (hw _ (List.mem_of_getElem? (i := 17) rfl))) (Or.inl (hw _ (List.mem_of_getElem? (i := 30) rfl))) (by decide) (t := (.array .long)) (t' := .long) (by decide) (by decide)))
    have F_a1_first := F_a1_first.other W5 (Or.inr (slot_ne (Or.inl (hw _ (List.mem_of_getElem? (i := 25) rfl))) (Or.inl (hw _ (List.mem_of_getElem? (i := 30) rfl))) (by decide) (t := .long) (t' := .long) (by decide) (by decide)))
    have F_a1_last := F_a1_last.other W5 (Or.inr (slot_ne (Or.inl (hw _ (List.mem_of_getElem? (i := 28) rfl))) (Or.inl (hw _ (List.mem_of_getElem? (i := 30) rfl))) (by decide) (t := .long) (t' := .long) (by decide) (by decide)))
    have F_a1_group := F_a1_group.other W5 (Or.inr (slot_ne (Or.inl (hw _ (List.mem_of_getElem? (i := 12) rfl))) (Or.inl (hw _ (List.mem_of_getElem? (i := 30) rfl))) (by decide) (t := .int) (t' := .long) (by decide) (by decide)))
    have F_a1_groupLeft := F_a1_groupLeft.same W5
    have F_a1_word := F_a1_word.other W5 (Or.inr (slot_ne (Or.inl (hw _ (List.mem_of_getElem? (i := 69) rfl))) (Or.inl (hw _ (List.mem_of_getElem? (i := 30) rfl))) (by decide) (t := .int) (t' := .long) (by decide) (by decide)))
    have F_a1_wordLeft := F_a1_wordLeft.other W5 (Or.inr (slot_ne (Or.inl (hw _ (List.mem_of_getElem? (i := 32) rfl))) (Or.inl (hw _ (List.mem_of_getElem? (i := 30) rfl))) (by decide) (t := .long) (t' := .long) (by decide) (by decide)))
    have A_wa := A_wa.other W5 ne_wa_a1
    have A_ma := A_ma.other W5 ne_ma_a1
    refine r_aloadN 52 X d3_51 rfl rfl ?_
    refine r_lconst 53 X (0 : Int64) d3_52 rfl ?_
    refine r_putfield 56 X (host := "") (Or.inl (hw _ (List.mem_of_getElem? (i := 31) rfl))) Via.refl F_a1_wordLeft E_a1 (Or.inl (hw _ (List.mem_of_getElem? (i := 32) rfl))) (hw _ (List.mem_of_getElem? (i := 3) rfl)) (ty := .long) (by decide) rfl rfl ga d3_53 ?_
    intro T h6 W6 X
    have E_a1 := E_a1.wr W6
    have F_a1_words := F_a1_words.other W6 (Or.inr (slot_ne (Or.inr (hw _ (List.mem_of_getElem? (i := 15) rfl))) (Or.inl (hw _ (List.mem_of_getElem? (i := 32) rfl))) (by decide) (t := (.array .long)) (t' := .long) (by decide) (by decide)))
    have F_a1_marked := F_a1_marked.other W6 (Or.inr (slot_ne (Or.inr (hw _ (List.mem_of_getElem? (i := 17) rfl))) (Or.inl (hw _ (List.mem_of_getElem? (i := 32) rfl))) (by decide) (t := (.array .long)) (t' := .long) (by decide) (by decide)))
    have F_a1_first := F_a1_first.other W6 (Or.inr (slot_ne (Or.inl (hw _ (List.mem_of_getElem? (i := 25) rfl))) (Or.inl (hw _ (List.mem_of_getElem? (i := 32) rfl))) (by decide) (t := .long) (t' := .long) (by decide) (by decide)))
    have F_a1_last := F_a1_last.other W6 (Or.inr (slot_ne (Or.inl (hw _ (List.mem_of_getElem? (i := 28) rfl))) (Or.inl (hw _ (List.mem_of_getElem? (i := 32) rfl))) (by decide) (t := .long) (t' := .long) (by decide) (by decide)))
    have F_a1_group := F_a1_group.other W6 (Or.inr (slot_ne (Or.inl (hw _ (List.mem_of_getElem? (i := 12) rfl))) (Or.inl (hw _ (List.mem_of_getElem? (i := 32) rfl))) (by decide) (t := .int) (t' := .long) (by decide) (by decide)))
    have F_a1_groupLeft := F_a1_groupLeft.other W6 (Or.inr (slot_ne (Or.inl (hw _ (List.mem_of_getElem? (i := 30) rfl))) (Or.inl (hw _ (List.mem_of_getElem? (i := 32) rfl))) (by decide) (t := .long) (t' := .long) (by decide) (by decide)))
    have F_a1_word := F_a1_word.other W6 (Or.inr (slot_ne (Or.inl (hw _ (List.mem_of_getElem? (i := 69) rfl))) (Or.inl (hw _ (List.mem_of_getElem? (i := 32) rfl))) (by decide) (t := .int) (t' := .long) (by decide) (by decide)))
    have F_a1_wordLeft := F_a1_wordLeft.same W6
    have A_wa := A_wa.other W6 ne_wa_a1
    have A_ma := A_ma.other W6 ne_ma_a1
    refine r_retV X d3_56 (by decide) (by decide) ?_
    exact ⟨rfl, E_a1, F_a1_words, F_a1_marked, F_a1_first, F_a1_last, F_a1_group, F_a1_groupLeft, F_a1_word, F_a1_wordLeft, A_wa, A_ma, ga, gwa, gma, ne_wa_a1, ne_ma_a1, ne_wa_ma⟩
  · refine r_ifY 35 X d3_26 ((if0 _ _).trans (flt (fun q => h26_2 ((lw_gt _ _).mp q))).2.2.2) ?_
    refine r_lloadN 36 X d3_35 rfl ?_
    refine r_lloadN 37 X d3_36 rfl ?_
    refine r_ladd 38 X d3_37 ?_
    refine r_topJ (x' := (lastV n q1 ((zn.toInt64 * 64) - 1))) (by simp [lastV, h26_2]) ?_
    refine r_putfield 41 X (host := "") (Or.inl (hw _ (List.mem_of_getElem? (i := 27) rfl))) Via.refl F_a1_last E_a1 (Or.inl (hw _ (List.mem_of_getElem? (i := 28) rfl))) (hw _ (List.mem_of_getElem? (i := 3) rfl)) (ty := .long) (by decide) rfl rfl ga d3_38 ?_
    intro T h7 W7 X
    have E_a1 := E_a1.wr W7
    have F_a1_words := F_a1_words.other W7 (Or.inr (slot_ne (Or.inr (hw _ (List.mem_of_getElem? (i := 15) rfl))) (Or.inl (hw _ (List.mem_of_getElem? (i := 28) rfl))) (by decide) (t := (.array .long)) (t' := .long) (by decide) (by decide)))
    have F_a1_marked := F_a1_marked.other W7 (Or.inr (slot_ne (Or.inr (hw _ (List.mem_of_getElem? (i := 17) rfl))) (Or.inl (hw _ (List.mem_of_getElem? (i := 28) rfl))) (by decide) (t := (.array .long)) (t' := .long) (by decide) (by decide)))
    have F_a1_first := F_a1_first.other W7 (Or.inr (slot_ne (Or.inl (hw _ (List.mem_of_getElem? (i := 25) rfl))) (Or.inl (hw _ (List.mem_of_getElem? (i := 28) rfl))) (by decide) (t := .long) (t' := .long) (by decide) (by decide)))
    have F_a1_last := F_a1_last.same W7
    have F_a1_group := F_a1_group.other W7 (Or.inr (slot_ne (Or.inl (hw _ (List.mem_of_getElem? (i := 12) rfl))) (Or.inl (hw _ (List.mem_of_getElem? (i := 28) rfl))) (by decide) (t := .int) (t' := .long) (by decide) (by decide)))
    have F_a1_groupLeft := F_a1_groupLeft.other W7 (Or.inr (slot_ne (Or.inl (hw _ (List.mem_of_getElem? (i := 30) rfl))) (Or.inl (hw _ (List.mem_of_getElem? (i := 28) rfl))) (by decide) (t := .long) (t' := .long) (by decide) (by decide)))
    have F_a1_word := F_a1_word.other W7 (Or.inr (slot_ne (Or.inl (hw _ (List.mem_of_getElem? (i := 69) rfl))) (Or.inl (hw _ (List.mem_of_getElem? (i := 28) rfl))) (by decide) (t := .int) (t' := .long) (by decide) (by decide)))
    have F_a1_wordLeft := F_a1_wordLeft.other W7 (Or.inr (slot_ne (Or.inl (hw _ (List.mem_of_getElem? (i := 32) rfl))) (Or.inl (hw _ (List.mem_of_getElem? (i := 28) rfl))) (by decide) (t := .long) (t' := .long) (by decide) (by decide)))
    have A_wa := A_wa.other W7 ne_wa_a1
    have A_ma := A_ma.other W7 ne_ma_a1
    refine r_aloadN 42 X d3_41 rfl rfl ?_
    refine r_iconst 43 X (-1 : Int32) d3_42 rfl ?_
    refine r_putfield 46 X (host := "") (Or.inl (hw _ (List.mem_of_getElem? (i := 11) rfl))) Via.refl F_a1_group E_a1 (Or.inl (hw _ (List.mem_of_getElem? (i := 12) rfl))) (hw _ (List.mem_of_getElem? (i := 3) rfl)) (ty := .int) (by decide) rfl rfl ga d3_43 ?_
    intro T h8 W8 X
    have E_a1 := E_a1.wr W8
    have F_a1_words := F_a1_words.other W8 (Or.inr (slot_ne (Or.inr (hw _ (List.mem_of_getElem? (i := 15) rfl))) (Or.inl (hw _ (List.mem_of_getElem? (i := 12) rfl))) (by decide) (t := (.array .long)) (t' := .int) (by decide) (by decide)))
    have F_a1_marked := F_a1_marked.other W8 (Or.inr (slot_ne (Or.inr (hw _ (List.mem_of_getElem? (i := 17) rfl))) (Or.inl (hw _ (List.mem_of_getElem? (i := 12) rfl))) (by decide) (t := (.array .long)) (t' := .int) (by decide) (by decide)))
    have F_a1_first := F_a1_first.other W8 (Or.inr (slot_ne (Or.inl (hw _ (List.mem_of_getElem? (i := 25) rfl))) (Or.inl (hw _ (List.mem_of_getElem? (i := 12) rfl))) (by decide) (t := .long) (t' := .int) (by decide) (by decide)))
    have F_a1_last := F_a1_last.other W8 (Or.inr (slot_ne (Or.inl (hw _ (List.mem_of_getElem? (i := 28) rfl))) (Or.inl (hw _ (List.mem_of_getElem? (i := 12) rfl))) (by decide) (t := .long) (t' := .int) (by decide) (by decide)))
    have F_a1_group := F_a1_group.same W8
    have F_a1_groupLeft := F_a1_groupLeft.other W8 (Or.inr (slot_ne (Or.inl (hw _ (List.mem_of_getElem? (i := 30) rfl))) (Or.inl (hw _ (List.mem_of_getElem? (i := 12) rfl))) (by decide) (t := .long) (t' := .int) (by decide) (by decide)))
    have F_a1_word := F_a1_word.other W8 (Or.inr (slot_ne (Or.inl (hw _ (List.mem_of_getElem? (i := 69) rfl))) (Or.inl (hw _ (List.mem_of_getElem? (i := 12) rfl))) (by decide) (t := .int) (t' := .int) (by decide) (by decide)))
    have F_a1_wordLeft := F_a1_wordLeft.other W8 (Or.inr (slot_ne (Or.inl (hw _ (List.mem_of_getElem? (i := 32) rfl))) (Or.inl (hw _ (List.mem_of_getElem? (i := 12) rfl))) (by decide) (t := .long) (t' := .int) (by decide) (by decide)))
    have A_wa := A_wa.other W8 ne_wa_a1
    have A_ma := A_ma.other W8 ne_ma_a1
    refine r_aloadN 47 X d3_46 rfl rfl ?_
    refine r_lconst 48 X (0 : Int64) d3_47 rfl ?_
    refine r_putfield 51 X (host := "") (Or.inl (hw _ (List.mem_of_getElem? (i := 29) rfl))) Via.refl F_a1_groupLeft E_a1 (Or.inl (hw _ (List.mem_of_getElem? (i := 30) rfl))) (hw _ (List.mem_of_getElem? (i := 3) rfl)) (ty := .long) (by decide) rfl rfl ga d3_48 ?_
    intro T h9 W9 X
    have E_a1 := E_a1.wr W9
    have F_a1_words := F_a1_words.other W9 (Or.inr (slot_ne (Or.inr (hw _ (List.mem_of_getElem? (i := 15) rfl))) (Or.inl (hw _ (List.mem_of_getElem? (i := 30) rfl))) (by decide) (t := (.array .long)) (t' := .long) (by decide) (by decide)))
    have F_a1_marked := F_a1_marked.other W9 (Or.inr (slot_ne (Or.inr (hw _ (List.mem_of_getElem? (i := 17) rfl))) (Or.inl (hw _ (List.mem_of_getElem? (i := 30) rfl))) (by decide) (t := (.array .long)) (t' := .long) (by decide) (by decide)))
    have F_a1_first := F_a1_first.other W9 (Or.inr (slot_ne (Or.inl (hw _ (List.mem_of_getElem? (i := 25) rfl))) (Or.inl (hw _ (List.mem_of_getElem? (i := 30) rfl))) (by decide) (t := .long) (t' := .long) (by decide) (by decide)))
    have F_a1_last := F_a1_last.other W9 (Or.inr (slot_ne (Or.inl (hw _ (List.mem_of_getElem? (i := 28) rfl))) (Or.inl (hw _ (List.mem_of_getElem? (i := 30) rfl))) (by decide) (t := .long) (t' := .long) (by decide) (by decide)))
    have F_a1_group := F_a1_group.other W9 (Or.inr (slot_ne (Or.inl (hw _ (List.mem_of_getElem? (i := 12) rfl))) (Or.inl (hw _ (List.mem_of_getElem? (i := 30) rfl))) (by decide) (t := .int) (t' := .long) (by decide) (by decide)))
    have F_a1_groupLeft := F_a1_groupLeft.same W9
    have F_a1_word := F_a1_word.other W9 (Or.inr (slot_ne (Or.inl (hw _ (List.mem_of_getElem? (i := 69) rfl))) (Or.inl (hw _ (List.mem_of_getElem? (i := 30) rfl))) (by decide) (t := .int) (t' := .long) (by decide) (by decide)))
    have F_a1_wordLeft := F_a1_wordLeft.other W9 (Or.inr (slot_ne (Or.inl (hw _ (List.mem_of_getElem? (i := 32) rfl))) (Or.inl (hw _ (List.mem_of_getElem? (i := 30) rfl))) (by decide) (t := .long) (t' := .long) (by decide) (by decide)))
    have A_wa := A_wa.other W9 ne_wa_a1
    have A_ma := A_ma.other W9 ne_ma_a1
    refine r_aloadN 52 X d3_51 rfl rfl ?_
    refine r_lconst 53 X (0 : Int64) d3_52 rfl ?_
    refine r_putfield 56 X (host := "") (Or.inl (hw _ (List.mem_of_getElem? (i := 31) rfl))) Via.refl F_a1_wordLeft E_a1 (Or.inl (hw _ (List.mem_of_getElem? (i := 32) rfl))) (hw _ (List.mem_of_getElem? (i := 3) rfl)) (ty := .long) (by decide) rfl rfl ga d3_53 ?_
    intro T h10 W10 X
    have E_a1 := E_a1.wr W10
    have F_a1_words := F_a1_words.other W10 (Or.inr (slot_ne (Or.inr (hw _ (List.mem_of_getElem? (i := 15) rfl))) (Or.inl (hw _ (List.mem_of_getElem? (i := 32) rfl))) (by decide) (t := (.array .long)) (t' := .long) (by decide) (by decide)))
    have F_a1_marked := F_a1_marked.other W10 (Or.inr (slot_ne (Or.inr (hw _ (List.mem_of_getElem? (i := 17) rfl))) (Or.inl (hw _ (List.mem_of_getElem? (i := 32) rfl))) (by decide) (t := (.array .long)) (t' := .long) (by decide) (by decide)))
    have F_a1_first := F_a1_first.other W10 (Or.inr (slot_ne (Or.inl (hw _ (List.mem_of_getElem? (i := 25) rfl))) (Or.inl (hw _ (List.mem_of_getElem? (i := 32) rfl))) (by decide) (t := .long) (t' := .long) (by decide) (by decide)))
    have F_a1_last := F_a1_last.other W10 (Or.inr (slot_ne (Or.inl (hw _ (List.mem_of_getElem? (i := 28) rfl))) (Or.inl (hw _ (List.mem_of_getElem? (i := 32) rfl))) (by decide) (t := .long) (t' := .long) (by decide) (by decide)))
    have F_a1_group := F_a1_group.other W10 (Or.inr (slot_ne (Or.inl (hw _ (List.mem_of_getElem? (i := 12) rfl))) (Or.inl (hw _ (List.mem_of_getElem? (i := 32) rfl))) (by decide) (t := .int) (t' := .long) (by decide) (by decide)))
    have F_a1_groupLeft := F_a1_groupLeft.other W10 (Or.inr (slot_ne (Or.inl (hw _ (List.mem_of_getElem? (i := 30) rfl))) (Or.inl (hw _ (List.mem_of_getElem? (i := 32) rfl))) (by decide) (t := .long) (t' := .long) (by decide) (by decide)))
    have F_a1_word := F_a1_word.other W10 (Or.inr (slot_ne (Or.inl (hw _ (List.mem_of_getElem? (i := 69) rfl))) (Or.inl (hw _ (List.mem_of_getElem? (i := 32) rfl))) (by decide) (t := .int) (t' := .long) (by decide) (by decide)))
    have F_a1_wordLeft := F_a1_wordLeft.same W10
    have A_wa := A_wa.other W10 ne_wa_a1
    have A_ma := A_ma.other W10 ne_ma_a1
    refine r_retV X d3_56 (by decide) (by decide) ?_
    exact ⟨rfl, E_a1, F_a1_words, F_a1_marked, F_a1_first, F_a1_last, F_a1_group, F_a1_groupLeft, F_a1_word, F_a1_wordLeft, A_wa, A_ma, ga, gwa, gma, ne_wa_a1, ne_ma_a1, ne_wa_ma⟩
theorem d5_0 : decode prog_145_method_7_code 0 = .ok (.lload_n 1, 1) := by decide +kernel
theorem d5_1 : decode prog_145_method_7_code 1 = .ok (.aload_n 0, 1) := by decide +kernel
theorem d5_2 : decode prog_145_method_7_code 2 = .ok (.getfield 30, 3) := by decide +kernel
theorem d5_5 : decode prog_145_method_7_code 5 = .ok (.lsub, 1) := by decide +kernel
theorem d5_6 : decode prog_145_method_7_code 6 = .ok (.lstore_n 3, 1) := by decide +kernel
theorem d5_7 : decode prog_145_method_7_code 7 = .ok (.lload_n 3, 1) := by decide +kernel
theorem d5_8 : decode prog_145_method_7_code 8 = .ok (.bipush 6, 2) := by decide +kernel
theorem d5_10 : decode prog_145_method_7_code 10 = .ok (.lushr, 1) := by decide +kernel
theorem d5_11 : decode prog_145_method_7_code 11 = .ok (.l2i, 1) := by decide +kernel
theorem d5_12 : decode prog_145_method_7_code 12 = .ok (.istore 5, 2) := by decide +kernel
theorem d5_14 : decode prog_145_method_7_code 14 = .ok (.aload_n 0, 1) := by decide +kernel
theorem d5_15 : decode prog_145_method_7_code 15 = .ok (.getfield 13, 3) := by decide +kernel
theorem d5_18 : decode prog_145_method_7_code 18 = .ok (.iload 5, 2) := by decide +kernel
theorem d5_20 : decode prog_145_method_7_code 20 = .ok (.dup2, 1) := by decide +kernel
theorem d5_21 : decode prog_145_method_7_code 21 = .ok (.laload, 1) := by decide +kernel
theorem d5_22 : decode prog_145_method_7_code 22 = .ok (.ldc2_w 49, 3) := by decide +kernel
theorem d5_25 : decode prog_145_method_7_code 25 = .ok (.lload_n 3, 1) := by decide +kernel
theorem d5_26 : decode prog_145_method_7_code 26 = .ok (.l2i, 1) := by decide +kernel
theorem d5_27 : decode prog_145_method_7_code 27 = .ok (.lushr, 1) := by decide +kernel
theorem d5_28 : decode prog_145_method_7_code 28 = .ok (.lor, 1) := by decide +kernel
theorem d5_29 : decode prog_145_method_7_code 29 = .ok (.lastore, 1) := by decide +kernel
theorem d5_30 : decode prog_145_method_7_code 30 = .ok (.aload_n 0, 1) := by decide +kernel
theorem d5_31 : decode prog_145_method_7_code 31 = .ok (.getfield 19, 3) := by decide +kernel
theorem d5_34 : decode prog_145_method_7_code 34 = .ok (.iload 5, 2) := by decide +kernel
theorem d5_36 : decode prog_145_method_7_code 36 = .ok (.bipush 6, 2) := by decide +kernel
theorem d5_38 : decode prog_145_method_7_code 38 = .ok (.iushr, 1) := by decide +kernel
theorem d5_39 : decode prog_145_method_7_code 39 = .ok (.dup2, 1) := by decide +kernel
theorem d5_40 : decode prog_145_method_7_code 40 = .ok (.laload, 1) := by decide +kernel
theorem d5_41 : decode prog_145_method_7_code 41 = .ok (.ldc2_w 49, 3) := by decide +kernel
theorem d5_44 : decode prog_145_method_7_code 44 = .ok (.iload 5, 2) := by decide +kernel
theorem d5_46 : decode prog_145_method_7_code 46 = .ok (.lushr, 1) := by decide +kernel
theorem d5_47 : decode prog_145_method_7_code 47 = .ok (.lor, 1) := by decide +kernel
theorem d5_48 : decode prog_145_method_7_code 48 = .ok (.lastore, 1) := by decide +kernel
theorem d5_49 : decode prog_145_method_7_code 49 = .ok (.return_, 1) := by decide +kernel
theorem pn_5 : plainName "com/example/skiprail/skiprail/lists/Window" = true := by first | (simp [plainName, overriddenIn]; done) | decide +kernel
theorem ef_5 (m : MethodId) (x0 : Addr) (x1 : Int64) : entryFrame m #[(.ref x0), (.long x1)] 6 = mkF m 0 #[.val (.ref x0), .val (.long x1), .second, .unset, .unset, .unset] [] := by first | (simp [entryFrame, mkF, argsToLocals, Value.category]; done) | rfl
set_option maxRecDepth 65536 in
set_option maxHeartbeats 40000000 in
theorem rmMark (l : Launch) (Z : State) (a0 : Array Value) (hw : ∀ d ∈ tables_1, d.before a0 Z = true) (n0 : Nat) (h : Heap) (Z0 : n0 ≤ h.size) (a1 wa ma : Addr) (n G : Nat) (fi la : Int64) (q1 : Int64) (wf mf : Nat → Int64) (grp : Int32) (gl : Int64) (wd : Int32) (wl : Int64) (α : Nat) (hα : q1.toInt - fi.toInt = (α : Int)) (hα2 : α < 64 * n) (hα3 : α < 16384) (hG : G = (n + 63) / 64) (Wn : Win Z h n0 a1 wa ma n G wf mf fi la grp gl wd wl) :
    Met1 l Z n0 [] (⟨"com/example/skiprail/skiprail/lists/Window", "mark", "(J)V"⟩ : MethodName) prog_145_method_7_code 6 none ({ frames := 0, cells := 0, slots := 0, locals := 0 } : Room) #[(.ref a1), (.long q1)] h (fun v h' => v = none ∧ ∃ wf' mf' : Nat → Int64, Win Z h' n0 a1 wa ma n G wf' mf' fi la grp gl wd wl ∧ (∀ i j, j < 64 → bt (wf' i) j = (bt (wf i) j || decide (i = α / 64 ∧ j = α % 64))) ∧ (∀ i j, j < 64 → bt (mf' i) j = (bt (mf i) j || decide (i = α / 4096 ∧ j = α / 64 % 64)))) := by
  refine met_of (plainFor_of_name pn_5) Z0 (fun m => ef_5 m a1 q1) ?_
  intro p e s m below meth c T hs0 X
  obtain ⟨E_a1, F_a1_words, F_a1_marked, F_a1_first, F_a1_last, F_a1_group, F_a1_groupLeft, F_a1_word, F_a1_wordLeft, A_wa, A_ma, ga, gwa, gma, ne_wa_a1, ne_ma_a1, ne_wa_ma⟩ := Wn
  refine r_lloadN 1 X d5_0 rfl ?_
  refine r_aloadN 2 X d5_1 rfl rfl ?_
  refine r_getfield 5 X (host := "") (Or.inl (hw _ (List.mem_of_getElem? (i := 24) rfl))) Via.refl F_a1_first d5_2 ?_
  intro T X
  refine r_lsub 6 X d5_5 ?_
  have hδ := own_sub1 hα hα3
  obtain ⟨δ, eδ⟩ : ∃ d, (q1 - fi) = d := ⟨_, rfl⟩
  rw [eδ] at hδ
  refine r_topJ eδ ?_
  refine r_lstoreN 7 X #[.val (.ref a1), .val (.long q1), .second, .val (.long δ), .second, .unset] d5_6 rfl ?_
  refine r_lloadN 8 X d5_7 rfl ?_
  refine r_bipush 10 X (6 : Int32) d5_8 rfl ?_
  refine r_lushr 11 X d5_10 ?_
  refine r_l2i 12 X d5_11 ?_
  obtain ⟨y, ey, hy⟩ := own_at hδ hα3
  refine r_topI ey ?_
  refine r_istore 14 X #[.val (.ref a1), .val (.long q1), .second, .val (.long δ), .second, .val (.int y)] d5_12 rfl ?_
  refine r_aloadN 15 X d5_14 rfl rfl ?_
  refine r_getfield 18 X (host := "") (Or.inl (hw _ (List.mem_of_getElem? (i := 14) rfl))) Via.refl F_a1_words d5_15 ?_
  intro T X
  refine r_iload 20 X d5_18 rfl ?_
  refine r_dup2_2 21 X d5_20 rfl rfl ?_
  refine r_laload 22 X A_wa (i := (α / 64)) (v := (.long (wf (α / 64)))) hy (by omega) rfl d5_21 ?_
  refine r_ldc2Long 25 X (hw _ (List.mem_of_getElem? (i := 43) rfl)) d5_22 ?_
  refine r_lloadN 26 X d5_25 rfl ?_
  refine r_l2i 27 X d5_26 ?_
  refine r_lushr 28 X d5_27 ?_
  refine r_lor 29 X d5_28 ?_
  refine r_lastore 30 X A_wa (i := (α / 64)) (v := (.long ((wf (α / 64)) ||| (((-9223372036854775808 : Int64).toUInt64 >>> ((δ.toInt32) &&& 0x3f).toInt64.toUInt64).toInt64)))) hy (by omega) rfl gwa d5_29 ?_
  intro T h1 W1 X
  have E_a1 := E_a1.wr W1
  have F_a1_words := F_a1_words.other W1 (Or.inl (Ne.symm ne_wa_a1))
  have F_a1_marked := F_a1_marked.other W1 (Or.inl (Ne.symm ne_wa_a1))
  have F_a1_first := F_a1_first.other W1 (Or.inl (Ne.symm ne_wa_a1))
  have F_a1_last := F_a1_last.other W1 (Or.inl (Ne.symm ne_wa_a1))
  have F_a1_group := F_a1_group.other W1 (Or.inl (Ne.symm ne_wa_a1))
  have F_a1_groupLeft := F_a1_groupLeft.other W1 (Or.inl (Ne.symm ne_wa_a1))
  have F_a1_word := F_a1_word.other W1 (Or.inl (Ne.symm ne_wa_a1))
  have F_a1_wordLeft := F_a1_wordLeft.other W1 (Or.inl (Ne.symm ne_wa_a1))
  have A_wa := A_wa.setJ W1
  have A_ma := A_ma.other W1 (Ne.symm ne_wa_ma)
  refine r_aloadN 31 X d5_30 rfl rfl ?_
  refine r_getfield 34 X (host := "") (Or.inl (hw _ (List.mem_of_getElem? (i := 16) rfl))) Via.refl F_a1_marked d5_31 ?_
  intro T X
  refine r_iload 36 X d5_34 rfl ?_
  refine r_bipush 38 X (6 : Int32) d5_36 rfl ?_
  refine r_iushr 39 X d5_38 ?_
  obtain ⟨y2, ey2, hy2⟩ := own_at2 hy (by omega)
  refine r_topI ey2 ?_
  refine r_dup2_2 40 X d5_39 rfl rfl ?_
  refine r_laload 41 X A_ma (i := (α / 64 / 64)) (v := (.long (mf (α / 64 / 64)))) hy2 (by omega) rfl d5_40 ?_
  refine r_ldc2Long 44 X (hw _ (List.mem_of_getElem? (i := 43) rfl)) d5_41 ?_
  refine r_iload 46 X d5_44 rfl ?_
  refine r_lushr 47 X d5_46 ?_
  refine r_lor 48 X d5_47 ?_
  refine r_lastore 49 X A_ma (i := (α / 64 / 64)) (v := (.long ((mf (α / 64 / 64)) ||| (((-9223372036854775808 : Int64).toUInt64 >>> (y &&& 0x3f).toInt64.toUInt64).toInt64)))) hy2 (by omega) rfl gma d5_48 ?_
  intro T h2 W2 X
  have E_a1 := E_a1.wr W2
  have F_a1_words := F_a1_words.other W2 (Or.inl (Ne.symm ne_ma_a1))
  have F_a1_marked := F_a1_marked.other W2 (Or.inl (Ne.symm ne_ma_a1))
  have F_a1_first := F_a1_first.other W2 (Or.inl (Ne.symm ne_ma_a1))
  have F_a1_last := F_a1_last.other W2 (Or.inl (Ne.symm ne_ma_a1))
  have F_a1_group := F_a1_group.other W2 (Or.inl (Ne.symm ne_ma_a1))
  have F_a1_groupLeft := F_a1_groupLeft.other W2 (Or.inl (Ne.symm ne_ma_a1))
  have F_a1_word := F_a1_word.other W2 (Or.inl (Ne.symm ne_ma_a1))
  have F_a1_wordLeft := F_a1_wordLeft.other W2 (Or.inl (Ne.symm ne_ma_a1))
  have A_wa := A_wa.other W2 ne_wa_ma
  have A_ma := A_ma.setJ W2
  have hs1 := own_s6 (own_int hδ hα3)
  have hs2 := own_s6 hy
  refine r_retV X d5_49 (by decide) (by decide) ?_
  refine ⟨rfl, _, _, ⟨E_a1, F_a1_words, F_a1_marked, F_a1_first, F_a1_last, F_a1_group, F_a1_groupLeft, F_a1_word, F_a1_wordLeft, A_wa, A_ma, ga, gwa, gma, ne_wa_a1, ne_ma_a1, ne_wa_ma⟩, fun i j hj => ?_, fun i j hj => ?_⟩
  · by_cases e : i = α / 64
    · subst e; rw [updJ_hit, bt_or, bt_min _ _ hs1 _ hj]; simp
    · rw [updJ_miss e]; simp [e]
  · by_cases e : i = α / 64 / 64
    · subst e; rw [updJ_hit, bt_or, bt_min _ _ hs2 _ hj]; simp [Nat.div_div_eq_div_mul]
    · rw [updJ_miss e]; simp [show ¬ i = α / 4096 by omega]
theorem d8_0 : decode prog_145_method_13_code 0 = .ok (.aload_n 0, 1) := by decide +kernel
theorem d8_1 : decode prog_145_method_13_code 1 = .ok (.getfield 39, 3) := by decide +kernel
theorem d8_4 : decode prog_145_method_13_code 4 = .ok (.lconst 0, 1) := by decide +kernel
theorem d8_5 : decode prog_145_method_13_code 5 = .ok (.lcmp, 1) := by decide +kernel
theorem d8_6 : decode prog_145_method_13_code 6 = .ok (.ifCond .ne 55, 3) := by decide +kernel
theorem d8_9 : decode prog_145_method_13_code 9 = .ok (.aload_n 0, 1) := by decide +kernel
theorem d8_10 : decode prog_145_method_13_code 10 = .ok (.getfield 7, 3) := by decide +kernel
theorem d8_13 : decode prog_145_method_13_code 13 = .ok (.iconst 1, 1) := by decide +kernel
theorem d8_14 : decode prog_145_method_13_code 14 = .ok (.iadd, 1) := by decide +kernel
theorem d8_15 : decode prog_145_method_13_code 15 = .ok (.aload_n 0, 1) := by decide +kernel
theorem d8_16 : decode prog_145_method_13_code 16 = .ok (.getfield 19, 3) := by decide +kernel
theorem d8_19 : decode prog_145_method_13_code 19 = .ok (.arraylength, 1) := by decide +kernel
theorem d8_20 : decode prog_145_method_13_code 20 = .ok (.if_icmp .ne 5, 3) := by decide +kernel
theorem d8_23 : decode prog_145_method_13_code 23 = .ok (.iconst 0, 1) := by decide +kernel
theorem d8_24 : decode prog_145_method_13_code 24 = .ok (.ireturn, 1) := by decide +kernel
theorem d8_25 : decode prog_145_method_13_code 25 = .ok (.aload_n 0, 1) := by decide +kernel
theorem d8_26 : decode prog_145_method_13_code 26 = .ok (.dup, 1) := by decide +kernel
theorem d8_27 : decode prog_145_method_13_code 27 = .ok (.getfield 7, 3) := by decide +kernel
theorem d8_30 : decode prog_145_method_13_code 30 = .ok (.iconst 1, 1) := by decide +kernel
theorem d8_31 : decode prog_145_method_13_code 31 = .ok (.iadd, 1) := by decide +kernel
theorem d8_32 : decode prog_145_method_13_code 32 = .ok (.putfield 7, 3) := by decide +kernel
theorem d8_35 : decode prog_145_method_13_code 35 = .ok (.aload_n 0, 1) := by decide +kernel
theorem d8_36 : decode prog_145_method_13_code 36 = .ok (.aload_n 0, 1) := by decide +kernel
theorem d8_37 : decode prog_145_method_13_code 37 = .ok (.getfield 19, 3) := by decide +kernel
theorem d8_40 : decode prog_145_method_13_code 40 = .ok (.aload_n 0, 1) := by decide +kernel
theorem d8_41 : decode prog_145_method_13_code 41 = .ok (.getfield 7, 3) := by decide +kernel
theorem d8_44 : decode prog_145_method_13_code 44 = .ok (.laload, 1) := by decide +kernel
theorem d8_45 : decode prog_145_method_13_code 45 = .ok (.putfield 39, 3) := by decide +kernel
theorem d8_48 : decode prog_145_method_13_code 48 = .ok (.aload_n 0, 1) := by decide +kernel
theorem d8_49 : decode prog_145_method_13_code 49 = .ok (.getfield 19, 3) := by decide +kernel
theorem d8_52 : decode prog_145_method_13_code 52 = .ok (.aload_n 0, 1) := by decide +kernel
theorem d8_53 : decode prog_145_method_13_code 53 = .ok (.getfield 7, 3) := by decide +kernel
theorem d8_56 : decode prog_145_method_13_code 56 = .ok (.lconst 0, 1) := by decide +kernel
theorem d8_57 : decode prog_145_method_13_code 57 = .ok (.lastore, 1) := by decide +kernel
theorem d8_58 : decode prog_145_method_13_code 58 = .ok (.goto (-58), 3) := by decide +kernel
theorem d8_61 : decode prog_145_method_13_code 61 = .ok (.aload_n 0, 1) := by decide +kernel
theorem d8_62 : decode prog_145_method_13_code 62 = .ok (.getfield 39, 3) := by decide +kernel
theorem d8_65 : decode prog_145_method_13_code 65 = .ok (.invokestatic 51, 3) := by decide +kernel
theorem d8_68 : decode prog_145_method_13_code 68 = .ok (.istore_n 1, 1) := by decide +kernel
theorem d8_69 : decode prog_145_method_13_code 69 = .ok (.aload_n 0, 1) := by decide +kernel
theorem d8_70 : decode prog_145_method_13_code 70 = .ok (.dup, 1) := by decide +kernel
theorem d8_71 : decode prog_145_method_13_code 71 = .ok (.getfield 39, 3) := by decide +kernel
theorem d8_74 : decode prog_145_method_13_code 74 = .ok (.ldc2_w 49, 3) := by decide +kernel
theorem d8_77 : decode prog_145_method_13_code 77 = .ok (.iload_n 1, 1) := by decide +kernel
theorem d8_78 : decode prog_145_method_13_code 78 = .ok (.lushr, 1) := by decide +kernel
theorem d8_79 : decode prog_145_method_13_code 79 = .ok (.ldc2_w 55, 3) := by decide +kernel
theorem d8_82 : decode prog_145_method_13_code 82 = .ok (.lxor, 1) := by decide +kernel
theorem d8_83 : decode prog_145_method_13_code 83 = .ok (.land, 1) := by decide +kernel
theorem d8_84 : decode prog_145_method_13_code 84 = .ok (.putfield 39, 3) := by decide +kernel
theorem d8_87 : decode prog_145_method_13_code 87 = .ok (.aload_n 0, 1) := by decide +kernel
theorem d8_88 : decode prog_145_method_13_code 88 = .ok (.aload_n 0, 1) := by decide +kernel
theorem d8_89 : decode prog_145_method_13_code 89 = .ok (.getfield 7, 3) := by decide +kernel
theorem d8_92 : decode prog_145_method_13_code 92 = .ok (.bipush 6, 2) := by decide +kernel
theorem d8_94 : decode prog_145_method_13_code 94 = .ok (.ishl, 1) := by decide +kernel
theorem d8_95 : decode prog_145_method_13_code 95 = .ok (.iload_n 1, 1) := by decide +kernel
theorem d8_96 : decode prog_145_method_13_code 96 = .ok (.ior, 1) := by decide +kernel
theorem d8_97 : decode prog_145_method_13_code 97 = .ok (.putfield 73, 3) := by decide +kernel
theorem d8_100 : decode prog_145_method_13_code 100 = .ok (.aload_n 0, 1) := by decide +kernel
theorem d8_101 : decode prog_145_method_13_code 101 = .ok (.aload_n 0, 1) := by decide +kernel
theorem d8_102 : decode prog_145_method_13_code 102 = .ok (.getfield 13, 3) := by decide +kernel
theorem d8_105 : decode prog_145_method_13_code 105 = .ok (.aload_n 0, 1) := by decide +kernel
theorem d8_106 : decode prog_145_method_13_code 106 = .ok (.getfield 73, 3) := by decide +kernel
theorem d8_109 : decode prog_145_method_13_code 109 = .ok (.laload, 1) := by decide +kernel
theorem d8_110 : decode prog_145_method_13_code 110 = .ok (.putfield 42, 3) := by decide +kernel
theorem d8_113 : decode prog_145_method_13_code 113 = .ok (.aload_n 0, 1) := by decide +kernel
theorem d8_114 : decode prog_145_method_13_code 114 = .ok (.getfield 13, 3) := by decide +kernel
theorem d8_117 : decode prog_145_method_13_code 117 = .ok (.aload_n 0, 1) := by decide +kernel
theorem d8_118 : decode prog_145_method_13_code 118 = .ok (.getfield 73, 3) := by decide +kernel
theorem d8_121 : decode prog_145_method_13_code 121 = .ok (.lconst 0, 1) := by decide +kernel
theorem d8_122 : decode prog_145_method_13_code 122 = .ok (.lastore, 1) := by decide +kernel
theorem d8_123 : decode prog_145_method_13_code 123 = .ok (.iconst 1, 1) := by decide +kernel
theorem d8_124 : decode prog_145_method_13_code 124 = .ok (.ireturn, 1) := by decide +kernel
theorem pn_8 : plainName "com/example/skiprail/skiprail/lists/Window" = true := by first | (simp [plainName, overriddenIn]; done) | decide +kernel
theorem ef_8 (m : MethodId) (x0 : Addr) : entryFrame m #[(.ref x0)] 2 = mkF m 0 #[.val (.ref x0), .unset] [] := by first | (simp [entryFrame, mkF, argsToLocals, Value.category]; done) | rfl
set_option maxRecDepth 65536 in
set_option maxHeartbeats 40000000 in
theorem rmWord (l : Launch) (Z : State) (a0 : Array Value) (hw : ∀ d ∈ tables_1, d.before a0 Z = true) (n0 : Nat) (h : Heap) (Z0 : n0 ≤ h.size) (a1 wa ma : Addr) (n G : Nat) (fi la : Int64) (rem : Nat → Prop) (b : Nat) (zG : Int32) (hzG : zG.toInt = (G : Int)) (hG4 : G ≤ 4) (hGn : G = (n + 63) / 64) (Ws : WS1 Z h n0 a1 wa ma n G fi la rem 0 b) :
    Met1 l Z n0 [] (⟨"com/example/skiprail/skiprail/lists/Window", "nextWord", "()Z"⟩ : MethodName) prog_145_method_13_code 2 (some .boolean) ({ frames := 2, cells := 0, slots := 0, locals := 28 } : Room) #[(.ref a1)] h (fun v h' => ∃ r : Int32, v = some (.int r) ∧ ((r = 1 ∧ ∃ (wl' : Int64) (b' : Nat), b < b' ∧ WS1 Z h' n0 a1 wa ma n G fi la rem wl' b') ∨ (r = 0 ∧ (∀ k, ¬ rem k) ∧ WS1 Z h' n0 a1 wa ma n G fi la rem 0 b ∧ ∃ (grp : Int32) (gl : Int64) (wd : Int32) (ω : Nat), Win Z h' n0 a1 wa ma n G (fun _ => 0) (fun _ => 0) fi la grp gl wd 0 ∧ wd.toInt = (ω : Int)))) := by
  refine met_of (plainFor_of_name pn_8) Z0 (fun m => ef_8 m a1) ?_
  intro p e s m below meth c T hs0 X
  obtain ⟨wf, mf, grp, gl, wd, g1, ω, Wn, hg1, hω, I, hrem, hS⟩ := Ws
  have loop : ∀ (f : Nat) (T : State) (h : Heap) (mf : Nat → Int64) (grp : Int32) (gl : Int64) (g1 : Nat), G ≤ g1 + f → Win Z h n0 a1 wa ma n G wf mf fi la grp gl wd 0 → grp.toInt + 1 = (g1 : Int) → WInv n G g1 gl mf ω b 0 → (∀ k, rem k ↔ remP g1 G gl mf wf ω 0 k) → Str n G g1 gl mf wf → Cx p l e ({ frames := 2, cells := 0, slots := 0, locals := 28 } : Room) s m #[(.ref a1)] below meth c Z prog_145_method_13_code 2 "com/example/skiprail/skiprail/lists/Window" (some .boolean) "nextWord" n0 T h 0 0 → Run p e below m (Fin1 below s n0 (fun v h' => ∃ r : Int32, v = some (.int r) ∧ ((r = 1 ∧ ∃ (wl' : Int64) (b' : Nat), b < b' ∧ WS1 Z h' n0 a1 wa ma n G fi la rem wl' b') ∨ (r = 0 ∧ (∀ k, ¬ rem k) ∧ WS1 Z h' n0 a1 wa ma n G fi la rem 0 b ∧ ∃ (grp : Int32) (gl : Int64) (wd : Int32) (ω : Nat), Win Z h' n0 a1 wa ma n G (fun _ => 0) (fun _ => 0) fi la grp gl wd 0 ∧ wd.toInt = (ω : Int)))) ({ frames := 2, cells := 0, slots := 0, locals := 28 } : Room).cells ({ frames := 2, cells := 0, slots := 0, locals := 28 } : Room).slots) T 0 #[.val (.ref a1), .unset] [] := by
    intro f
    induction f with
    | zero =>
      intro T h mf grp gl g1 hf Wn hg1 I hrem hS X
      obtain ⟨E_a1, F_a1_words, F_a1_marked, F_a1_first, F_a1_last, F_a1_group, F_a1_groupLeft, F_a1_word, F_a1_wordLeft, A_wa, A_ma, ga, gwa, gma, ne_wa_a1, ne_ma_a1, ne_wa_ma⟩ := Wn
      refine r_aloadN 1 X d8_0 rfl rfl ?_
      refine r_getfield 4 X (host := "") (Or.inl (hw _ (List.mem_of_getElem? (i := 29) rfl))) Via.refl F_a1_groupLeft d8_1 ?_
      intro T X
      refine r_lconst 5 X (0 : Int64) d8_4 rfl ?_
      refine r_lcmp 6 X d8_5 ?_
      by_cases h6_1 : gl = (0 : Int64)
      · refine r_ifN 9 X d8_6 ((if0 _ _).trans (teq ((lw_eq _ _).mpr h6_1)).2) ?_
        refine r_aloadN 10 X d8_9 rfl rfl ?_
        refine r_getfield 13 X (host := "") (Or.inl (hw _ (List.mem_of_getElem? (i := 11) rfl))) Via.refl F_a1_group d8_10 ?_
        intro T X
        refine r_iconst 14 X (1 : Int32) d8_13 rfl ?_
        refine r_iadd 15 X d8_14 ?_
        refine r_aloadN 16 X d8_15 rfl rfl ?_
        refine r_getfield 19 X (host := "") (Or.inl (hw _ (List.mem_of_getElem? (i := 16) rfl))) Via.refl F_a1_marked d8_16 ?_
        intro T X
        refine r_arraylength 20 X A_ma zG hzG d8_19 ?_
        obtain rfl : gl = 0 := h6_1
        have hz1 : (grp + 1).toInt = (g1 : Int) := (addI (a := grp.toInt) rfl (b := 1) rfl (by have := I.1; omega) (by have := I.1; omega)).trans (by omega)
        refine r_icmpN 23 X d8_20 (teq ((eqI hz1 hzG).mpr (by have := I.1; omega))).2 ?_
        refine r_iconst 24 X (0 : Int32) d8_23 rfl ?_
        refine r_retZ (z := (0 : Int32)) X d8_24 rfl (by decide) (by decide) ?_
        exact ⟨0, rfl, Or.inr ⟨rfl, fun k q => win_none (wf := wf) I (by have h1 := I.1; have h2 := (eqI hz1 hzG).mp ((eqI hz1 hzG).mpr (by have := I.1; omega)); omega) k ((hrem k).mp q), ⟨_, _, _, _, _, _, _, ⟨E_a1, F_a1_words, F_a1_marked, F_a1_first, F_a1_last, F_a1_group, F_a1_groupLeft, F_a1_word, F_a1_wordLeft, A_wa, A_ma, ga, gwa, gma, ne_wa_a1, ne_ma_a1, ne_wa_ma⟩, hg1, hω, I, hrem, hS⟩, _, _, _, ω, ⟨E_a1, F_a1_words, F_a1_marked, F_a1_first, F_a1_last, F_a1_group, F_a1_groupLeft, F_a1_word, F_a1_wordLeft, A_wa.congr (fun j hj => congrArg Value.long ((str_clean hS hGn (by have h1 := I.1; have h2 := (eqI hz1 hzG).mp ((eqI hz1 hzG).mpr (by have := I.1; omega)); omega)).1 j hj)), A_ma.congr (fun j hj => congrArg Value.long ((str_clean hS hGn (by have h1 := I.1; have h2 := (eqI hz1 hzG).mp ((eqI hz1 hzG).mpr (by have := I.1; omega)); omega)).2 j hj)), ga, gwa, gma, ne_wa_a1, ne_ma_a1, ne_wa_ma⟩, hω⟩⟩
      · refine r_ifY 61 X d8_6 ((if0 _ _).trans (feq (fun q => h6_1 ((lw_eq _ _).mp q))).2) ?_
        refine r_aloadN 62 X d8_61 rfl rfl ?_
        refine r_getfield 65 X (host := "") (Or.inl (hw _ (List.mem_of_getElem? (i := 29) rfl))) Via.refl F_a1_groupLeft d8_62 ?_
        intro T X
        refine r_callS 68 X (st := []) (rmNlz l Z a0 hw n0 _ X.sz gl) (hw _ (List.mem_of_getElem? (i := 60) rfl)) (hw _ (List.mem_of_getElem? (i := 61) rfl)) (hw _ (List.mem_of_getElem? (i := 62) rfl)) (hw _ (List.mem_of_getElem? (i := 51) rfl)) (by decide) pd_1 [(.long gl)] rfl rfl 0 (Nat.le_of_eq rfl) rfl (by decide) (by decide) (by decide) (by decide) d8_65 ?_
        rintro T h2 v2 ⟨r2, R2, rfl, hr2, hR2, rfl⟩ X
        change Run _ _ _ _ _ _ _ _ [(.int r2)]
        have hgl0 : ¬ gl = 0 := h6_1
        have hs := own_s6 hr2
        obtain ⟨j1, j2, j3, j4, I2, RR⟩ := win_word (wf := wf) I hgl0 hR2 (fun j hj => (bt_min _ _ hs _ hj).trans (by rw [Nat.mod_eq_of_lt (bt_nlz hR2 hgl0).1]))
        have hS2 := str_word hS j1 j2 (fun j hj => (bt_min _ _ hs _ hj).trans (by rw [Nat.mod_eq_of_lt (bt_nlz hR2 hgl0).1]))
        refine r_istoreN 69 X #[.val (.ref a1), .val (.int r2)] d8_68 rfl ?_
        refine r_aloadN 70 X d8_69 rfl rfl ?_
        refine r_dup 71 X d8_70 rfl ?_
        refine r_getfield 74 X (host := "") (Or.inl (hw _ (List.mem_of_getElem? (i := 29) rfl))) Via.refl F_a1_groupLeft d8_71 ?_
        intro T X
        refine r_ldc2Long 77 X (hw _ (List.mem_of_getElem? (i := 43) rfl)) d8_74 ?_
        refine r_iloadN 78 X d8_77 rfl ?_
        refine r_lushr 79 X d8_78 ?_
        refine r_ldc2Long 82 X (hw _ (List.mem_of_getElem? (i := 67) rfl)) d8_79 ?_
        refine r_lxor 83 X d8_82 ?_
        refine r_land 84 X d8_83 ?_
        refine r_putfield 87 X (host := "") (Or.inl (hw _ (List.mem_of_getElem? (i := 29) rfl))) Via.refl F_a1_groupLeft E_a1 (Or.inl (hw _ (List.mem_of_getElem? (i := 30) rfl))) (hw _ (List.mem_of_getElem? (i := 3) rfl)) (ty := .long) (by decide) rfl rfl ga d8_84 ?_
        intro T h3 W3 X
        have E_a1 := E_a1.wr W3
        have F_a1_words := F_a1_words.other W3 (Or.inr (slot_ne (Or.inr (hw _ (List.mem_of_getElem? (i := 15) rfl))) (Or.inl (hw _ (List.mem_of_getElem? (i := 30) rfl))) (by decide) (t := (.array .long)) (t' := .long) (by decide) (by decide)))
        have F_a1_marked := F_a1_marked.other W3 (Or.inr (slot_ne (Or.inr (hw _ (List.mem_of_getElem? (i := 17) rfl))) (Or.inl (hw _ (List.mem_of_getElem? (i := 30) rfl))) (by decide) (t := (.array .long)) (t' := .long) (by decide) (by decide)))
        have F_a1_first := F_a1_first.other W3 (Or.inr (slot_ne (Or.inl (hw _ (List.mem_of_getElem? (i := 25) rfl))) (Or.inl (hw _ (List.mem_of_getElem? (i := 30) rfl))) (by decide) (t := .long) (t' := .long) (by decide) (by decide)))
        have F_a1_last := F_a1_last.other W3 (Or.inr (slot_ne (Or.inl (hw _ (List.mem_of_getElem? (i := 28) rfl))) (Or.inl (hw _ (List.mem_of_getElem? (i := 30) rfl))) (by decide) (t := .long) (t' := .long) (by decide) (by decide)))
        have F_a1_group := F_a1_group.other W3 (Or.inr (slot_ne (Or.inl (hw _ (List.mem_of_getElem? (i := 12) rfl))) (Or.inl (hw _ (List.mem_of_getElem? (i := 30) rfl))) (by decide) (t := .int) (t' := .long) (by decide) (by decide)))
        have F_a1_groupLeft := F_a1_groupLeft.same W3
        have F_a1_word := F_a1_word.other W3 (Or.inr (slot_ne (Or.inl (hw _ (List.mem_of_getElem? (i := 69) rfl))) (Or.inl (hw _ (List.mem_of_getElem? (i := 30) rfl))) (by decide) (t := .int) (t' := .long) (by decide) (by decide)))
        have F_a1_wordLeft := F_a1_wordLeft.other W3 (Or.inr (slot_ne (Or.inl (hw _ (List.mem_of_getElem? (i := 32) rfl))) (Or.inl (hw _ (List.mem_of_getElem? (i := 30) rfl))) (by decide) (t := .long) (t' := .long) (by decide) (by decide)))
        have A_wa := A_wa.other W3 ne_wa_a1
        have A_ma := A_ma.other W3 ne_ma_a1
        refine r_aloadN 88 X d8_87 rfl rfl ?_
        refine r_aloadN 89 X d8_88 rfl rfl ?_
        refine r_getfield 92 X (host := "") (Or.inl (hw _ (List.mem_of_getElem? (i := 11) rfl))) Via.refl F_a1_group d8_89 ?_
        intro T X
        refine r_bipush 94 X (6 : Int32) d8_92 rfl ?_
        refine r_ishl 95 X d8_94 ?_
        refine r_iloadN 96 X d8_95 rfl ?_
        refine r_ior 97 X d8_96 ?_
        obtain ⟨wd', ewd, hwd⟩ := own_word hg1 j1 (by have := I.1; omega) hr2 j2
        refine r_topI ewd ?_
        refine r_putfield 100 X (host := "") (Or.inl (hw _ (List.mem_of_getElem? (i := 68) rfl))) Via.refl F_a1_word E_a1 (Or.inl (hw _ (List.mem_of_getElem? (i := 69) rfl))) (hw _ (List.mem_of_getElem? (i := 3) rfl)) (ty := .int) (by decide) rfl rfl ga d8_97 ?_
        intro T h4 W4 X
        have E_a1 := E_a1.wr W4
        have F_a1_words := F_a1_words.other W4 (Or.inr (slot_ne (Or.inr (hw _ (List.mem_of_getElem? (i := 15) rfl))) (Or.inl (hw _ (List.mem_of_getElem? (i := 69) rfl))) (by decide) (t := (.array .long)) (t' := .int) (by decide) (by decide)))
        have F_a1_marked := F_a1_marked.other W4 (Or.inr (slot_ne (Or.inr (hw _ (List.mem_of_getElem? (i := 17) rfl))) (Or.inl (hw _ (List.mem_of_getElem? (i := 69) rfl))) (by decide) (t := (.array .long)) (t' := .int) (by decide) (by decide)))
        have F_a1_first := F_a1_first.other W4 (Or.inr (slot_ne (Or.inl (hw _ (List.mem_of_getElem? (i := 25) rfl))) (Or.inl (hw _ (List.mem_of_getElem? (i := 69) rfl))) (by decide) (t := .long) (t' := .int) (by decide) (by decide)))
        have F_a1_last := F_a1_last.other W4 (Or.inr (slot_ne (Or.inl (hw _ (List.mem_of_getElem? (i := 28) rfl))) (Or.inl (hw _ (List.mem_of_getElem? (i := 69) rfl))) (by decide) (t := .long) (t' := .int) (by decide) (by decide)))
        have F_a1_group := F_a1_group.other W4 (Or.inr (slot_ne (Or.inl (hw _ (List.mem_of_getElem? (i := 12) rfl))) (Or.inl (hw _ (List.mem_of_getElem? (i := 69) rfl))) (by decide) (t := .int) (t' := .int) (by decide) (by decide)))
        have F_a1_groupLeft := F_a1_groupLeft.other W4 (Or.inr (slot_ne (Or.inl (hw _ (List.mem_of_getElem? (i := 30) rfl))) (Or.inl (hw _ (List.mem_of_getElem? (i := 69) rfl))) (by decide) (t := .long) (t' := .int) (by decide) (by decide)))
        have F_a1_word := F_a1_word.same W4
        have F_a1_wordLeft := F_a1_wordLeft.other W4 (Or.inr (slot_ne (Or.inl (hw _ (List.mem_of_getElem? (i := 32) rfl))) (Or.inl (hw _ (List.mem_of_getElem? (i := 69) rfl))) (by decide) (t := .long) (t' := .int) (by decide) (by decide)))
        have A_wa := A_wa.other W4 ne_wa_a1
        have A_ma := A_ma.other W4 ne_ma_a1
        refine r_aloadN 101 X d8_100 rfl rfl ?_
        refine r_aloadN 102 X d8_101 rfl rfl ?_
        refine r_getfield 105 X (host := "") (Or.inl (hw _ (List.mem_of_getElem? (i := 14) rfl))) Via.refl F_a1_words d8_102 ?_
        intro T X
        refine r_aloadN 106 X d8_105 rfl rfl ?_
        refine r_getfield 109 X (host := "") (Or.inl (hw _ (List.mem_of_getElem? (i := 68) rfl))) Via.refl F_a1_word d8_106 ?_
        intro T X
        refine r_laload 110 X A_wa (i := (64 * (g1 - 1) + R2)) (v := (.long (wf (64 * (g1 - 1) + R2)))) hwd (by omega) rfl d8_109 ?_
        refine r_putfield 113 X (host := "") (Or.inl (hw _ (List.mem_of_getElem? (i := 31) rfl))) Via.refl F_a1_wordLeft E_a1 (Or.inl (hw _ (List.mem_of_getElem? (i := 32) rfl))) (hw _ (List.mem_of_getElem? (i := 3) rfl)) (ty := .long) (by decide) rfl rfl ga d8_110 ?_
        intro T h5 W5 X
        have E_a1 := E_a1.wr W5
        have F_a1_words := F_a1_words.other W5 (Or.inr (slot_ne (Or.inr (hw _ (List.mem_of_getElem? (i := 15) rfl))) (Or.inl (hw _ (List.mem_of_getElem? (i := 32) rfl))) (by decide) (t := (.array .long)) (t' := .long) (by decide) (by decide)))
        have F_a1_marked := F_a1_marked.other W5 (Or.inr (slot_ne (Or.inr (hw _ (List.mem_of_getElem? (i := 17) rfl))) (Or.inl (hw _ (List.mem_of_getElem? (i := 32) rfl))) (by decide) (t := (.array .long)) (t' := .long) (by decide) (by decide)))
        have F_a1_first := F_a1_first.other W5 (Or.inr (slot_ne (Or.inl (hw _ (List.mem_of_getElem? (i := 25) rfl))) (Or.inl (hw _ (List.mem_of_getElem? (i := 32) rfl))) (by decide) (t := .long) (t' := .long) (by decide) (by decide)))
        have F_a1_last := F_a1_last.other W5 (Or.inr (slot_ne (Or.inl (hw _ (List.mem_of_getElem? (i := 28) rfl))) (Or.inl (hw _ (List.mem_of_getElem? (i := 32) rfl))) (by decide) (t := .long) (t' := .long) (by decide) (by decide)))
        have F_a1_group := F_a1_group.other W5 (Or.inr (slot_ne (Or.inl (hw _ (List.mem_of_getElem? (i := 12) rfl))) (Or.inl (hw _ (List.mem_of_getElem? (i := 32) rfl))) (by decide) (t := .int) (t' := .long) (by decide) (by decide)))
        have F_a1_groupLeft := F_a1_groupLeft.other W5 (Or.inr (slot_ne (Or.inl (hw _ (List.mem_of_getElem? (i := 30) rfl))) (Or.inl (hw _ (List.mem_of_getElem? (i := 32) rfl))) (by decide) (t := .long) (t' := .long) (by decide) (by decide)))
        have F_a1_word := F_a1_word.other W5 (Or.inr (slot_ne (Or.inl (hw _ (List.mem_of_getElem? (i := 69) rfl))) (Or.inl (hw _ (List.mem_of_getElem? (i := 32) rfl))) (by decide) (t := .int) (t' := .long) (by decide) (by decide)))
        have F_a1_wordLeft := F_a1_wordLeft.same W5
        have A_wa := A_wa.other W5 ne_wa_a1
        have A_ma := A_ma.other W5 ne_ma_a1
        refine r_aloadN 114 X d8_113 rfl rfl ?_
        refine r_getfield 117 X (host := "") (Or.inl (hw _ (List.mem_of_getElem? (i := 14) rfl))) Via.refl F_a1_words d8_114 ?_
        intro T X
        refine r_aloadN 118 X d8_117 rfl rfl ?_
        refine r_getfield 121 X (host := "") (Or.inl (hw _ (List.mem_of_getElem? (i := 68) rfl))) Via.refl F_a1_word d8_118 ?_
        intro T X
        refine r_lconst 122 X (0 : Int64) d8_121 rfl ?_
        refine r_lastore 123 X A_wa (i := (64 * (g1 - 1) + R2)) (v := (.long (0 : Int64))) hwd (by omega) rfl gwa d8_122 ?_
        intro T h6 W6 X
        have E_a1 := E_a1.wr W6
        have F_a1_words := F_a1_words.other W6 (Or.inl (Ne.symm ne_wa_a1))
        have F_a1_marked := F_a1_marked.other W6 (Or.inl (Ne.symm ne_wa_a1))
        have F_a1_first := F_a1_first.other W6 (Or.inl (Ne.symm ne_wa_a1))
        have F_a1_last := F_a1_last.other W6 (Or.inl (Ne.symm ne_wa_a1))
        have F_a1_group := F_a1_group.other W6 (Or.inl (Ne.symm ne_wa_a1))
        have F_a1_groupLeft := F_a1_groupLeft.other W6 (Or.inl (Ne.symm ne_wa_a1))
        have F_a1_word := F_a1_word.other W6 (Or.inl (Ne.symm ne_wa_a1))
        have F_a1_wordLeft := F_a1_wordLeft.other W6 (Or.inl (Ne.symm ne_wa_a1))
        have A_wa := A_wa.setJ W6
        have A_ma := A_ma.other W6 (Ne.symm ne_wa_ma)
        refine r_iconst 124 X (1 : Int32) d8_123 rfl ?_
        refine r_retZ (z := (1 : Int32)) X d8_124 rfl (by decide) (by decide) ?_
        exact ⟨1, rfl, Or.inl ⟨rfl, _, _, by omega, _, _, _, _, _, _, _, ⟨E_a1, F_a1_words, F_a1_marked, F_a1_first, F_a1_last, F_a1_group, F_a1_groupLeft, F_a1_word, F_a1_wordLeft, A_wa, A_ma, ga, gwa, gma, ne_wa_a1, ne_ma_a1, ne_wa_ma⟩, hg1, hwd, I2, fun k => (hrem k).trans (RR k), hS2⟩⟩
    | succ f ih =>
      intro T h mf grp gl g1 hf Wn hg1 I hrem hS X
      obtain ⟨E_a1, F_a1_words, F_a1_marked, F_a1_first, F_a1_last, F_a1_group, F_a1_groupLeft, F_a1_word, F_a1_wordLeft, A_wa, A_ma, ga, gwa, gma, ne_wa_a1, ne_ma_a1, ne_wa_ma⟩ := Wn
      refine r_aloadN 1 X d8_0 rfl rfl ?_
      refine r_getfield 4 X (host := "") (Or.inl (hw _ (List.mem_of_getElem? (i := 29) rfl))) Via.refl F_a1_groupLeft d8_1 ?_
      intro T X
      refine r_lconst 5 X (0 : Int64) d8_4 rfl ?_
      refine r_lcmp 6 X d8_5 ?_
      by_cases h6_7 : gl = (0 : Int64)
      · refine r_ifN 9 X d8_6 ((if0 _ _).trans (teq ((lw_eq _ _).mpr h6_7)).2) ?_
        refine r_aloadN 10 X d8_9 rfl rfl ?_
        refine r_getfield 13 X (host := "") (Or.inl (hw _ (List.mem_of_getElem? (i := 11) rfl))) Via.refl F_a1_group d8_10 ?_
        intro T X
        refine r_iconst 14 X (1 : Int32) d8_13 rfl ?_
        refine r_iadd 15 X d8_14 ?_
        refine r_aloadN 16 X d8_15 rfl rfl ?_
        refine r_getfield 19 X (host := "") (Or.inl (hw _ (List.mem_of_getElem? (i := 16) rfl))) Via.refl F_a1_marked d8_16 ?_
        intro T X
        refine r_arraylength 20 X A_ma zG hzG d8_19 ?_
        obtain rfl : gl = 0 := h6_7
        have hz1 : (grp + 1).toInt = (g1 : Int) := (addI (a := grp.toInt) rfl (b := 1) rfl (by have := I.1; omega) (by have := I.1; omega)).trans (by omega)
        by_cases h20_8 : (grp + (1 : Int32)) = zG
        · refine r_icmpN 23 X d8_20 (teq h20_8).2 ?_
          refine r_iconst 24 X (0 : Int32) d8_23 rfl ?_
          refine r_retZ (z := (0 : Int32)) X d8_24 rfl (by decide) (by decide) ?_
          exact ⟨0, rfl, Or.inr ⟨rfl, fun k q => win_none (wf := wf) I (by have h1 := I.1; have h2 := (eqI hz1 hzG).mp h20_8; omega) k ((hrem k).mp q), ⟨_, _, _, _, _, _, _, ⟨E_a1, F_a1_words, F_a1_marked, F_a1_first, F_a1_last, F_a1_group, F_a1_groupLeft, F_a1_word, F_a1_wordLeft, A_wa, A_ma, ga, gwa, gma, ne_wa_a1, ne_ma_a1, ne_wa_ma⟩, hg1, hω, I, hrem, hS⟩, _, _, _, ω, ⟨E_a1, F_a1_words, F_a1_marked, F_a1_first, F_a1_last, F_a1_group, F_a1_groupLeft, F_a1_word, F_a1_wordLeft, A_wa.congr (fun j hj => congrArg Value.long ((str_clean hS hGn (by have h1 := I.1; have h2 := (eqI hz1 hzG).mp h20_8; omega)).1 j hj)), A_ma.congr (fun j hj => congrArg Value.long ((str_clean hS hGn (by have h1 := I.1; have h2 := (eqI hz1 hzG).mp h20_8; omega)).2 j hj)), ga, gwa, gma, ne_wa_a1, ne_ma_a1, ne_wa_ma⟩, hω⟩⟩
        · refine r_icmpY 25 X d8_20 (feq h20_8).2 ?_
          have hlt : g1 < G := by have h1 := I.1; have h2 := mt (eqI hz1 hzG).mpr h20_8; omega
          obtain ⟨I2, RR⟩ := win_group (wf := wf) I hlt
          refine r_aloadN 26 X d8_25 rfl rfl ?_
          refine r_dup 27 X d8_26 rfl ?_
          refine r_getfield 30 X (host := "") (Or.inl (hw _ (List.mem_of_getElem? (i := 11) rfl))) Via.refl F_a1_group d8_27 ?_
          intro T X
          refine r_iconst 31 X (1 : Int32) d8_30 rfl ?_
          refine r_iadd 32 X d8_31 ?_
          refine r_putfield 35 X (host := "") (Or.inl (hw _ (List.mem_of_getElem? (i := 11) rfl))) Via.refl F_a1_group E_a1 (Or.inl (hw _ (List.mem_of_getElem? (i := 12) rfl))) (hw _ (List.mem_of_getElem? (i := 3) rfl)) (ty := .int) (by decide) rfl rfl ga d8_32 ?_
          intro T h9 W9 X
          have E_a1 := E_a1.wr W9
          have F_a1_words := F_a1_words.other W9 (Or.inr (slot_ne (Or.inr (hw _ (List.mem_of_getElem? (i := 15) rfl))) (Or.inl (hw _ (List.mem_of_getElem? (i := 12) rfl))) (by decide) (t := (.array .long)) (t' := .int) (by decide) (by decide)))
          have F_a1_marked := F_a1_marked.other W9 (Or.inr (slot_ne (Or.inr (hw _ (List.mem_of_getElem? (i := 17) rfl))) (Or.inl (hw _ (List.mem_of_getElem? (i := 12) rfl))) (by decide) (t := (.array .long)) (t' := .int) (by decide) (by decide)))
          have F_a1_first := F_a1_first.other W9 (Or.inr (slot_ne (Or.inl (hw _ (List.mem_of_getElem? (i := 25) rfl))) (Or.inl (hw _ (List.mem_of_getElem? (i := 12) rfl))) (by decide) (t := .long) (t' := .int) (by decide) (by decide)))
          have F_a1_last := F_a1_last.other W9 (Or.inr (slot_ne (Or.inl (hw _ (List.mem_of_getElem? (i := 28) rfl))) (Or.inl (hw _ (List.mem_of_getElem? (i := 12) rfl))) (by decide) (t := .long) (t' := .int) (by decide) (by decide)))
          have F_a1_group := F_a1_group.same W9
          have F_a1_groupLeft := F_a1_groupLeft.other W9 (Or.inr (slot_ne (Or.inl (hw _ (List.mem_of_getElem? (i := 30) rfl))) (Or.inl (hw _ (List.mem_of_getElem? (i := 12) rfl))) (by decide) (t := .long) (t' := .int) (by decide) (by decide)))
          have F_a1_word := F_a1_word.other W9 (Or.inr (slot_ne (Or.inl (hw _ (List.mem_of_getElem? (i := 69) rfl))) (Or.inl (hw _ (List.mem_of_getElem? (i := 12) rfl))) (by decide) (t := .int) (t' := .int) (by decide) (by decide)))
          have F_a1_wordLeft := F_a1_wordLeft.other W9 (Or.inr (slot_ne (Or.inl (hw _ (List.mem_of_getElem? (i := 32) rfl))) (Or.inl (hw _ (List.mem_of_getElem? (i := 12) rfl))) (by decide) (t := .long) (t' := .int) (by decide) (by decide)))
          have A_wa := A_wa.other W9 ne_wa_a1
          have A_ma := A_ma.other W9 ne_ma_a1
          refine r_aloadN 36 X d8_35 rfl rfl ?_
          refine r_aloadN 37 X d8_36 rfl rfl ?_
          refine r_getfield 40 X (host := "") (Or.inl (hw _ (List.mem_of_getElem? (i := 16) rfl))) Via.refl F_a1_marked d8_37 ?_
          intro T X
          refine r_aloadN 41 X d8_40 rfl rfl ?_
          refine r_getfield 44 X (host := "") (Or.inl (hw _ (List.mem_of_getElem? (i := 11) rfl))) Via.refl F_a1_group d8_41 ?_
          intro T X
          refine r_laload 45 X A_ma (i := g1) (v := (.long (mf g1))) hz1 hlt rfl d8_44 ?_
          refine r_putfield 48 X (host := "") (Or.inl (hw _ (List.mem_of_getElem? (i := 29) rfl))) Via.refl F_a1_groupLeft E_a1 (Or.inl (hw _ (List.mem_of_getElem? (i := 30) rfl))) (hw _ (List.mem_of_getElem? (i := 3) rfl)) (ty := .long) (by decide) rfl rfl ga d8_45 ?_
          intro T h10 W10 X
          have E_a1 := E_a1.wr W10
          have F_a1_words := F_a1_words.other W10 (Or.inr (slot_ne (Or.inr (hw _ (List.mem_of_getElem? (i := 15) rfl))) (Or.inl (hw _ (List.mem_of_getElem? (i := 30) rfl))) (by decide) (t := (.array .long)) (t' := .long) (by decide) (by decide)))
          have F_a1_marked := F_a1_marked.other W10 (Or.inr (slot_ne (Or.inr (hw _ (List.mem_of_getElem? (i := 17) rfl))) (Or.inl (hw _ (List.mem_of_getElem? (i := 30) rfl))) (by decide) (t := (.array .long)) (t' := .long) (by decide) (by decide)))
          have F_a1_first := F_a1_first.other W10 (Or.inr (slot_ne (Or.inl (hw _ (List.mem_of_getElem? (i := 25) rfl))) (Or.inl (hw _ (List.mem_of_getElem? (i := 30) rfl))) (by decide) (t := .long) (t' := .long) (by decide) (by decide)))
          have F_a1_last := F_a1_last.other W10 (Or.inr (slot_ne (Or.inl (hw _ (List.mem_of_getElem? (i := 28) rfl))) (Or.inl (hw _ (List.mem_of_getElem? (i := 30) rfl))) (by decide) (t := .long) (t' := .long) (by decide) (by decide)))
          have F_a1_group := F_a1_group.other W10 (Or.inr (slot_ne (Or.inl (hw _ (List.mem_of_getElem? (i := 12) rfl))) (Or.inl (hw _ (List.mem_of_getElem? (i := 30) rfl))) (by decide) (t := .int) (t' := .long) (by decide) (by decide)))
          have F_a1_groupLeft := F_a1_groupLeft.same W10
          have F_a1_word := F_a1_word.other W10 (Or.inr (slot_ne (Or.inl (hw _ (List.mem_of_getElem? (i := 69) rfl))) (Or.inl (hw _ (List.mem_of_getElem? (i := 30) rfl))) (by decide) (t := .int) (t' := .long) (by decide) (by decide)))
          have F_a1_wordLeft := F_a1_wordLeft.other W10 (Or.inr (slot_ne (Or.inl (hw _ (List.mem_of_getElem? (i := 32) rfl))) (Or.inl (hw _ (List.mem_of_getElem? (i := 30) rfl))) (by decide) (t := .long) (t' := .long) (by decide) (by decide)))
          have A_wa := A_wa.other W10 ne_wa_a1
          have A_ma := A_ma.other W10 ne_ma_a1
          refine r_aloadN 49 X d8_48 rfl rfl ?_
          refine r_getfield 52 X (host := "") (Or.inl (hw _ (List.mem_of_getElem? (i := 16) rfl))) Via.refl F_a1_marked d8_49 ?_
          intro T X
          refine r_aloadN 53 X d8_52 rfl rfl ?_
          refine r_getfield 56 X (host := "") (Or.inl (hw _ (List.mem_of_getElem? (i := 11) rfl))) Via.refl F_a1_group d8_53 ?_
          intro T X
          refine r_lconst 57 X (0 : Int64) d8_56 rfl ?_
          refine r_lastore 58 X A_ma (i := g1) (v := (.long (0 : Int64))) hz1 hlt rfl gma d8_57 ?_
          intro T h11 W11 X
          have E_a1 := E_a1.wr W11
          have F_a1_words := F_a1_words.other W11 (Or.inl (Ne.symm ne_ma_a1))
          have F_a1_marked := F_a1_marked.other W11 (Or.inl (Ne.symm ne_ma_a1))
          have F_a1_first := F_a1_first.other W11 (Or.inl (Ne.symm ne_ma_a1))
          have F_a1_last := F_a1_last.other W11 (Or.inl (Ne.symm ne_ma_a1))
          have F_a1_group := F_a1_group.other W11 (Or.inl (Ne.symm ne_ma_a1))
          have F_a1_groupLeft := F_a1_groupLeft.other W11 (Or.inl (Ne.symm ne_ma_a1))
          have F_a1_word := F_a1_word.other W11 (Or.inl (Ne.symm ne_ma_a1))
          have F_a1_wordLeft := F_a1_wordLeft.other W11 (Or.inl (Ne.symm ne_ma_a1))
          have A_wa := A_wa.other W11 ne_wa_ma
          have A_ma := A_ma.setJ W11
          refine r_goto 0 X d8_58 ?_
          exact ih _ _ _ _ _ (g1 + 1) (by omega) ⟨E_a1, F_a1_words, F_a1_marked, F_a1_first, F_a1_last, F_a1_group, F_a1_groupLeft, F_a1_word, F_a1_wordLeft, A_wa, A_ma, ga, gwa, gma, ne_wa_a1, ne_ma_a1, ne_wa_ma⟩ ((congrArg (· + 1) hz1).trans (by omega)) I2 (fun k => (hrem k).trans (RR k)) (str_group hS) X
      · refine r_ifY 61 X d8_6 ((if0 _ _).trans (feq (fun q => h6_7 ((lw_eq _ _).mp q))).2) ?_
        refine r_aloadN 62 X d8_61 rfl rfl ?_
        refine r_getfield 65 X (host := "") (Or.inl (hw _ (List.mem_of_getElem? (i := 29) rfl))) Via.refl F_a1_groupLeft d8_62 ?_
        intro T X
        refine r_callS 68 X (st := []) (rmNlz l Z a0 hw n0 _ X.sz gl) (hw _ (List.mem_of_getElem? (i := 60) rfl)) (hw _ (List.mem_of_getElem? (i := 61) rfl)) (hw _ (List.mem_of_getElem? (i := 62) rfl)) (hw _ (List.mem_of_getElem? (i := 51) rfl)) (by decide) pd_1 [(.long gl)] rfl rfl 0 (Nat.le_of_eq rfl) rfl (by decide) (by decide) (by decide) (by decide) d8_65 ?_
        rintro T h12 v12 ⟨r12, R12, rfl, hr12, hR12, rfl⟩ X
        change Run _ _ _ _ _ _ _ _ [(.int r12)]
        have hgl0 : ¬ gl = 0 := h6_7
        have hs := own_s6 hr12
        obtain ⟨j1, j2, j3, j4, I2, RR⟩ := win_word (wf := wf) I hgl0 hR12 (fun j hj => (bt_min _ _ hs _ hj).trans (by rw [Nat.mod_eq_of_lt (bt_nlz hR12 hgl0).1]))
        have hS2 := str_word hS j1 j2 (fun j hj => (bt_min _ _ hs _ hj).trans (by rw [Nat.mod_eq_of_lt (bt_nlz hR12 hgl0).1]))
        refine r_istoreN 69 X #[.val (.ref a1), .val (.int r12)] d8_68 rfl ?_
        refine r_aloadN 70 X d8_69 rfl rfl ?_
        refine r_dup 71 X d8_70 rfl ?_
        refine r_getfield 74 X (host := "") (Or.inl (hw _ (List.mem_of_getElem? (i := 29) rfl))) Via.refl F_a1_groupLeft d8_71 ?_
        intro T X
        refine r_ldc2Long 77 X (hw _ (List.mem_of_getElem? (i := 43) rfl)) d8_74 ?_
        refine r_iloadN 78 X d8_77 rfl ?_
        refine r_lushr 79 X d8_78 ?_
        refine r_ldc2Long 82 X (hw _ (List.mem_of_getElem? (i := 67) rfl)) d8_79 ?_
        refine r_lxor 83 X d8_82 ?_
        refine r_land 84 X d8_83 ?_
        refine r_putfield 87 X (host := "") (Or.inl (hw _ (List.mem_of_getElem? (i := 29) rfl))) Via.refl F_a1_groupLeft E_a1 (Or.inl (hw _ (List.mem_of_getElem? (i := 30) rfl))) (hw _ (List.mem_of_getElem? (i := 3) rfl)) (ty := .long) (by decide) rfl rfl ga d8_84 ?_
        intro T h13 W13 X
        have E_a1 := E_a1.wr W13
        have F_a1_words := F_a1_words.other W13 (Or.inr (slot_ne (Or.inr (hw _ (List.mem_of_getElem? (i := 15) rfl))) (Or.inl (hw _ (List.mem_of_getElem? (i := 30) rfl))) (by decide) (t := (.array .long)) (t' := .long) (by decide) (by decide)))
        have F_a1_marked := F_a1_marked.other W13 (Or.inr (slot_ne (Or.inr (hw _ (List.mem_of_getElem? (i := 17) rfl))) (Or.inl (hw _ (List.mem_of_getElem? (i := 30) rfl))) (by decide) (t := (.array .long)) (t' := .long) (by decide) (by decide)))
        have F_a1_first := F_a1_first.other W13 (Or.inr (slot_ne (Or.inl (hw _ (List.mem_of_getElem? (i := 25) rfl))) (Or.inl (hw _ (List.mem_of_getElem? (i := 30) rfl))) (by decide) (t := .long) (t' := .long) (by decide) (by decide)))
        have F_a1_last := F_a1_last.other W13 (Or.inr (slot_ne (Or.inl (hw _ (List.mem_of_getElem? (i := 28) rfl))) (Or.inl (hw _ (List.mem_of_getElem? (i := 30) rfl))) (by decide) (t := .long) (t' := .long) (by decide) (by decide)))
        have F_a1_group := F_a1_group.other W13 (Or.inr (slot_ne (Or.inl (hw _ (List.mem_of_getElem? (i := 12) rfl))) (Or.inl (hw _ (List.mem_of_getElem? (i := 30) rfl))) (by decide) (t := .int) (t' := .long) (by decide) (by decide)))
        have F_a1_groupLeft := F_a1_groupLeft.same W13
        have F_a1_word := F_a1_word.other W13 (Or.inr (slot_ne (Or.inl (hw _ (List.mem_of_getElem? (i := 69) rfl))) (Or.inl (hw _ (List.mem_of_getElem? (i := 30) rfl))) (by decide) (t := .int) (t' := .long) (by decide) (by decide)))
        have F_a1_wordLeft := F_a1_wordLeft.other W13 (Or.inr (slot_ne (Or.inl (hw _ (List.mem_of_getElem? (i := 32) rfl))) (Or.inl (hw _ (List.mem_of_getElem? (i := 30) rfl))) (by decide) (t := .long) (t' := .long) (by decide) (by decide)))
        have A_wa := A_wa.other W13 ne_wa_a1
        have A_ma := A_ma.other W13 ne_ma_a1
        refine r_aloadN 88 X d8_87 rfl rfl ?_
        refine r_aloadN 89 X d8_88 rfl rfl ?_
        refine r_getfield 92 X (host := "") (Or.inl (hw _ (List.mem_of_getElem? (i := 11) rfl))) Via.refl F_a1_group d8_89 ?_
        intro T X
        refine r_bipush 94 X (6 : Int32) d8_92 rfl ?_
        refine r_ishl 95 X d8_94 ?_
        refine r_iloadN 96 X d8_95 rfl ?_
        refine r_ior 97 X d8_96 ?_
        obtain ⟨wd', ewd, hwd⟩ := own_word hg1 j1 (by have := I.1; omega) hr12 j2
        refine r_topI ewd ?_
        refine r_putfield 100 X (host := "") (Or.inl (hw _ (List.mem_of_getElem? (i := 68) rfl))) Via.refl F_a1_word E_a1 (Or.inl (hw _ (List.mem_of_getElem? (i := 69) rfl))) (hw _ (List.mem_of_getElem? (i := 3) rfl)) (ty := .int) (by decide) rfl rfl ga d8_97 ?_
        intro T h14 W14 X
        have E_a1 := E_a1.wr W14
        have F_a1_words := F_a1_words.other W14 (Or.inr (slot_ne (Or.inr (hw _ (List.mem_of_getElem? (i := 15) rfl))) (Or.inl (hw _ (List.mem_of_getElem? (i := 69) rfl))) (by decide) (t := (.array .long)) (t' := .int) (by decide) (by decide)))
        have F_a1_marked := F_a1_marked.other W14 (Or.inr (slot_ne (Or.inr (hw _ (List.mem_of_getElem? (i := 17) rfl))) (Or.inl (hw _ (List.mem_of_getElem? (i := 69) rfl))) (by decide) (t := (.array .long)) (t' := .int) (by decide) (by decide)))
        have F_a1_first := F_a1_first.other W14 (Or.inr (slot_ne (Or.inl (hw _ (List.mem_of_getElem? (i := 25) rfl))) (Or.inl (hw _ (List.mem_of_getElem? (i := 69) rfl))) (by decide) (t := .long) (t' := .int) (by decide) (by decide)))
        have F_a1_last := F_a1_last.other W14 (Or.inr (slot_ne (Or.inl (hw _ (List.mem_of_getElem? (i := 28) rfl))) (Or.inl (hw _ (List.mem_of_getElem? (i := 69) rfl))) (by decide) (t := .long) (t' := .int) (by decide) (by decide)))
        have F_a1_group := F_a1_group.other W14 (Or.inr (slot_ne (Or.inl (hw _ (List.mem_of_getElem? (i := 12) rfl))) (Or.inl (hw _ (List.mem_of_getElem? (i := 69) rfl))) (by decide) (t := .int) (t' := .int) (by decide) (by decide)))
        have F_a1_groupLeft := F_a1_groupLeft.other W14 (Or.inr (slot_ne (Or.inl (hw _ (List.mem_of_getElem? (i := 30) rfl))) (Or.inl (hw _ (List.mem_of_getElem? (i := 69) rfl))) (by decide) (t := .long) (t' := .int) (by decide) (by decide)))
        have F_a1_word := F_a1_word.same W14
        have F_a1_wordLeft := F_a1_wordLeft.other W14 (Or.inr (slot_ne (Or.inl (hw _ (List.mem_of_getElem? (i := 32) rfl))) (Or.inl (hw _ (List.mem_of_getElem? (i := 69) rfl))) (by decide) (t := .long) (t' := .int) (by decide) (by decide)))
        have A_wa := A_wa.other W14 ne_wa_a1
        have A_ma := A_ma.other W14 ne_ma_a1
        refine r_aloadN 101 X d8_100 rfl rfl ?_
        refine r_aloadN 102 X d8_101 rfl rfl ?_
        refine r_getfield 105 X (host := "") (Or.inl (hw _ (List.mem_of_getElem? (i := 14) rfl))) Via.refl F_a1_words d8_102 ?_
        intro T X
        refine r_aloadN 106 X d8_105 rfl rfl ?_
        refine r_getfield 109 X (host := "") (Or.inl (hw _ (List.mem_of_getElem? (i := 68) rfl))) Via.refl F_a1_word d8_106 ?_
        intro T X
        refine r_laload 110 X A_wa (i := (64 * (g1 - 1) + R12)) (v := (.long (wf (64 * (g1 - 1) + R12)))) hwd (by omega) rfl d8_109 ?_
        refine r_putfield 113 X (host := "") (Or.inl (hw _ (List.mem_of_getElem? (i := 31) rfl))) Via.refl F_a1_wordLeft E_a1 (Or.inl (hw _ (List.mem_of_getElem? (i := 32) rfl))) (hw _ (List.mem_of_getElem? (i := 3) rfl)) (ty := .long) (by decide) rfl rfl ga d8_110 ?_
        intro T h15 W15 X
        have E_a1 := E_a1.wr W15
        have F_a1_words := F_a1_words.other W15 (Or.inr (slot_ne (Or.inr (hw _ (List.mem_of_getElem? (i := 15) rfl))) (Or.inl (hw _ (List.mem_of_getElem? (i := 32) rfl))) (by decide) (t := (.array .long)) (t' := .long) (by decide) (by decide)))
        have F_a1_marked := F_a1_marked.other W15 (Or.inr (slot_ne (Or.inr (hw _ (List.mem_of_getElem? (i := 17) rfl))) (Or.inl (hw _ (List.mem_of_getElem? (i := 32) rfl))) (by decide) (t := (.array .long)) (t' := .long) (by decide) (by decide)))
        have F_a1_first := F_a1_first.other W15 (Or.inr (slot_ne (Or.inl (hw _ (List.mem_of_getElem? (i := 25) rfl))) (Or.inl (hw _ (List.mem_of_getElem? (i := 32) rfl))) (by decide) (t := .long) (t' := .long) (by decide) (by decide)))
        have F_a1_last := F_a1_last.other W15 (Or.inr (slot_ne (Or.inl (hw _ (List.mem_of_getElem? (i := 28) rfl))) (Or.inl (hw _ (List.mem_of_getElem? (i := 32) rfl))) (by decide) (t := .long) (t' := .long) (by decide) (by decide)))
        have F_a1_group := F_a1_group.other W15 (Or.inr (slot_ne (Or.inl (hw _ (List.mem_of_getElem? (i := 12) rfl))) (Or.inl (hw _ (List.mem_of_getElem? (i := 32) rfl))) (by decide) (t := .int) (t' := .long) (by decide) (by decide)))
        have F_a1_groupLeft := F_a1_groupLeft.other W15 (Or.inr (slot_ne (Or.inl (hw _ (List.mem_of_getElem? (i := 30) rfl))) (Or.inl (hw _ (List.mem_of_getElem? (i := 32) rfl))) (by decide) (t := .long) (t' := .long) (by decide) (by decide)))
        have F_a1_word := F_a1_word.other W15 (Or.inr (slot_ne (Or.inl (hw _ (List.mem_of_getElem? (i := 69) rfl))) (Or.inl (hw _ (List.mem_of_getElem? (i := 32) rfl))) (by decide) (t := .int) (t' := .long) (by decide) (by decide)))
        have F_a1_wordLeft := F_a1_wordLeft.same W15
        have A_wa := A_wa.other W15 ne_wa_a1
        have A_ma := A_ma.other W15 ne_ma_a1
        refine r_aloadN 114 X d8_113 rfl rfl ?_
        refine r_getfield 117 X (host := "") (Or.inl (hw _ (List.mem_of_getElem? (i := 14) rfl))) Via.refl F_a1_words d8_114 ?_
        intro T X
        refine r_aloadN 118 X d8_117 rfl rfl ?_
        refine r_getfield 121 X (host := "") (Or.inl (hw _ (List.mem_of_getElem? (i := 68) rfl))) Via.refl F_a1_word d8_118 ?_
        intro T X
        refine r_lconst 122 X (0 : Int64) d8_121 rfl ?_
        refine r_lastore 123 X A_wa (i := (64 * (g1 - 1) + R12)) (v := (.long (0 : Int64))) hwd (by omega) rfl gwa d8_122 ?_
        intro T h16 W16 X
        have E_a1 := E_a1.wr W16
        have F_a1_words := F_a1_words.other W16 (Or.inl (Ne.symm ne_wa_a1))
        have F_a1_marked := F_a1_marked.other W16 (Or.inl (Ne.symm ne_wa_a1))
        have F_a1_first := F_a1_first.other W16 (Or.inl (Ne.symm ne_wa_a1))
        have F_a1_last := F_a1_last.other W16 (Or.inl (Ne.symm ne_wa_a1))
        have F_a1_group := F_a1_group.other W16 (Or.inl (Ne.symm ne_wa_a1))
        have F_a1_groupLeft := F_a1_groupLeft.other W16 (Or.inl (Ne.symm ne_wa_a1))
        have F_a1_word := F_a1_word.other W16 (Or.inl (Ne.symm ne_wa_a1))
        have F_a1_wordLeft := F_a1_wordLeft.other W16 (Or.inl (Ne.symm ne_wa_a1))
        have A_wa := A_wa.setJ W16
        have A_ma := A_ma.other W16 (Ne.symm ne_wa_ma)
        refine r_iconst 124 X (1 : Int32) d8_123 rfl ?_
        refine r_retZ (z := (1 : Int32)) X d8_124 rfl (by decide) (by decide) ?_
        exact ⟨1, rfl, Or.inl ⟨rfl, _, _, by omega, _, _, _, _, _, _, _, ⟨E_a1, F_a1_words, F_a1_marked, F_a1_first, F_a1_last, F_a1_group, F_a1_groupLeft, F_a1_word, F_a1_wordLeft, A_wa, A_ma, ga, gwa, gma, ne_wa_a1, ne_ma_a1, ne_wa_ma⟩, hg1, hwd, I2, fun k => (hrem k).trans (RR k), hS2⟩⟩
  exact loop G _ _ _ _ _ g1 (by omega) Wn hg1 I hrem hS X
theorem d13_0 : decode prog_145_method_10_code 0 = .ok (.aload_n 0, 1) := by decide +kernel
theorem d13_1 : decode prog_145_method_10_code 1 = .ok (.getfield 42, 3) := by decide +kernel
theorem d13_4 : decode prog_145_method_10_code 4 = .ok (.lconst 0, 1) := by decide +kernel
theorem d13_5 : decode prog_145_method_10_code 5 = .ok (.lcmp, 1) := by decide +kernel
theorem d13_6 : decode prog_145_method_10_code 6 = .ok (.ifCond .ne 14, 3) := by decide +kernel
theorem d13_9 : decode prog_145_method_10_code 9 = .ok (.aload_n 0, 1) := by decide +kernel
theorem d13_10 : decode prog_145_method_10_code 10 = .ok (.invokevirtual 69, 3) := by decide +kernel
theorem d13_13 : decode prog_145_method_10_code 13 = .ok (.ifCond .ne (-13), 3) := by decide +kernel
theorem d13_16 : decode prog_145_method_10_code 16 = .ok (.ldc2_w 55, 3) := by decide +kernel
theorem d13_19 : decode prog_145_method_10_code 19 = .ok (.lreturn, 1) := by decide +kernel
theorem d13_20 : decode prog_145_method_10_code 20 = .ok (.aload_n 0, 1) := by decide +kernel
theorem d13_21 : decode prog_145_method_10_code 21 = .ok (.getfield 42, 3) := by decide +kernel
theorem d13_24 : decode prog_145_method_10_code 24 = .ok (.invokestatic 51, 3) := by decide +kernel
theorem d13_27 : decode prog_145_method_10_code 27 = .ok (.istore_n 1, 1) := by decide +kernel
theorem d13_28 : decode prog_145_method_10_code 28 = .ok (.aload_n 0, 1) := by decide +kernel
theorem d13_29 : decode prog_145_method_10_code 29 = .ok (.dup, 1) := by decide +kernel
theorem d13_30 : decode prog_145_method_10_code 30 = .ok (.getfield 42, 3) := by decide +kernel
theorem d13_33 : decode prog_145_method_10_code 33 = .ok (.ldc2_w 49, 3) := by decide +kernel
theorem d13_36 : decode prog_145_method_10_code 36 = .ok (.iload_n 1, 1) := by decide +kernel
theorem d13_37 : decode prog_145_method_10_code 37 = .ok (.lushr, 1) := by decide +kernel
theorem d13_38 : decode prog_145_method_10_code 38 = .ok (.ldc2_w 55, 3) := by decide +kernel
theorem d13_41 : decode prog_145_method_10_code 41 = .ok (.lxor, 1) := by decide +kernel
theorem d13_42 : decode prog_145_method_10_code 42 = .ok (.land, 1) := by decide +kernel
theorem d13_43 : decode prog_145_method_10_code 43 = .ok (.putfield 42, 3) := by decide +kernel
theorem d13_46 : decode prog_145_method_10_code 46 = .ok (.aload_n 0, 1) := by decide +kernel
theorem d13_47 : decode prog_145_method_10_code 47 = .ok (.getfield 30, 3) := by decide +kernel
theorem d13_50 : decode prog_145_method_10_code 50 = .ok (.aload_n 0, 1) := by decide +kernel
theorem d13_51 : decode prog_145_method_10_code 51 = .ok (.getfield 73, 3) := by decide +kernel
theorem d13_54 : decode prog_145_method_10_code 54 = .ok (.i2l, 1) := by decide +kernel
theorem d13_55 : decode prog_145_method_10_code 55 = .ok (.bipush 6, 2) := by decide +kernel
theorem d13_57 : decode prog_145_method_10_code 57 = .ok (.lshl, 1) := by decide +kernel
theorem d13_58 : decode prog_145_method_10_code 58 = .ok (.ladd, 1) := by decide +kernel
theorem d13_59 : decode prog_145_method_10_code 59 = .ok (.iload_n 1, 1) := by decide +kernel
theorem d13_60 : decode prog_145_method_10_code 60 = .ok (.i2l, 1) := by decide +kernel
theorem d13_61 : decode prog_145_method_10_code 61 = .ok (.ladd, 1) := by decide +kernel
theorem d13_62 : decode prog_145_method_10_code 62 = .ok (.lreturn, 1) := by decide +kernel
theorem pn_13 : plainName "com/example/skiprail/skiprail/lists/Window" = true := by first | (simp [plainName, overriddenIn]; done) | decide +kernel
theorem ef_13 (m : MethodId) (x0 : Addr) : entryFrame m #[(.ref x0)] 2 = mkF m 0 #[.val (.ref x0), .unset] [] := by first | (simp [entryFrame, mkF, argsToLocals, Value.category]; done) | rfl
set_option maxRecDepth 65536 in
set_option maxHeartbeats 40000000 in
theorem rmNext (l : Launch) (Z : State) (a0 : Array Value) (hw : ∀ d ∈ tables_1, d.before a0 Z = true) (n0 : Nat) (h : Heap) (Z0 : n0 ≤ h.size) (a1 wa ma : Addr) (n G : Nat) (fi la : Int64) (rem : Nat → Prop) (zG : Int32) (hn : n ≤ 256) (hzG : zG.toInt = (G : Int)) (hG4 : G ≤ 4) (hGn : G = (n + 63) / 64) (Ws : WS Z h n0 a1 wa ma n G fi la rem) :
    Met1 l Z n0 [] (⟨"com/example/skiprail/skiprail/lists/Window", "next", "()J"⟩ : MethodName) prog_145_method_10_code 2 (some .long) ({ frames := 3, cells := 0, slots := 0, locals := 41 } : Room) #[(.ref a1)] h (fun v h' => ∃ r : Int64, v = some (.long r) ∧ ((∃ k, rem k ∧ (∀ j, j < k → ¬ rem j) ∧ r = fi + Int64.ofNat k ∧ WS Z h' n0 a1 wa ma n G fi la (fun j => rem j ∧ j ≠ k)) ∨ ((∀ k, ¬ rem k) ∧ r = -1 ∧ WS Z h' n0 a1 wa ma n G fi la rem))) := by
  refine met_of (plainFor_of_name pn_13) Z0 (fun m => ef_13 m a1) ?_
  intro p e s m below meth c T hs0 X
  obtain ⟨wl, b, Ws⟩ := Ws
  have loop : ∀ (f : Nat) (T : State) (h : Heap) (wl : Int64) (b : Nat), n ≤ b + f → WS1 Z h n0 a1 wa ma n G fi la rem wl b → Cx p l e ({ frames := 3, cells := 0, slots := 0, locals := 41 } : Room) s m #[(.ref a1)] below meth c Z prog_145_method_10_code 2 "com/example/skiprail/skiprail/lists/Window" (some .long) "next" n0 T h 0 0 → Run p e below m (Fin1 below s n0 (fun v h' => ∃ r : Int64, v = some (.long r) ∧ ((∃ k, rem k ∧ (∀ j, j < k → ¬ rem j) ∧ r = fi + Int64.ofNat k ∧ WS Z h' n0 a1 wa ma n G fi la (fun j => rem j ∧ j ≠ k)) ∨ ((∀ k, ¬ rem k) ∧ r = -1 ∧ WS Z h' n0 a1 wa ma n G fi la rem))) ({ frames := 3, cells := 0, slots := 0, locals := 41 } : Room).cells ({ frames := 3, cells := 0, slots := 0, locals := 41 } : Room).slots) T 0 #[.val (.ref a1), .unset] [] := by
    intro f
    induction f with
    | zero =>
      intro T h wl b hf Ws X
      obtain ⟨wf, mf, grp, gl, wd, g1, ω, Wn, hg1, hω, I, hrem, hS⟩ := Ws
      obtain ⟨E_a1, F_a1_words, F_a1_marked, F_a1_first, F_a1_last, F_a1_group, F_a1_groupLeft, F_a1_word, F_a1_wordLeft, A_wa, A_ma, ga, gwa, gma, ne_wa_a1, ne_ma_a1, ne_wa_ma⟩ := Wn
      refine r_aloadN 1 X d13_0 rfl rfl ?_
      refine r_getfield 4 X (host := "") (Or.inl (hw _ (List.mem_of_getElem? (i := 31) rfl))) Via.refl F_a1_wordLeft d13_1 ?_
      intro T X
      refine r_lconst 5 X (0 : Int64) d13_4 rfl ?_
      refine r_lcmp 6 X d13_5 ?_
      by_cases h6_1 : wl = (0 : Int64)
      · refine r_ifN 9 X d13_6 ((if0 _ _).trans (teq ((lw_eq _ _).mpr h6_1)).2) ?_
        obtain rfl : wl = 0 := h6_1
        refine r_aloadN 10 X d13_9 rfl rfl ?_
        refine r_private 13 X (st := []) (a := a1) (rmWord l Z a0 hw n0 _ X.sz a1 wa ma n G fi la rem b zG hzG hG4 hGn ⟨_, _, _, _, _, _, _, ⟨E_a1, F_a1_words, F_a1_marked, F_a1_first, F_a1_last, F_a1_group, F_a1_groupLeft, F_a1_word, F_a1_wordLeft, A_wa, A_ma, ga, gwa, gma, ne_wa_a1, ne_ma_a1, ne_wa_ma⟩, hg1, hω, I, hrem, hS⟩) E_a1 (hw _ (List.mem_of_getElem? (i := 56) rfl)) (hw _ (List.mem_of_getElem? (i := 57) rfl)) (hw _ (List.mem_of_getElem? (i := 3) rfl)) (hw _ (List.mem_of_getElem? (i := 58) rfl)) (hw _ (List.mem_of_getElem? (i := 59) rfl)) (hw _ (List.mem_of_getElem? (i := 4) rfl)) (by decide) pd_2 [] rfl rfl 0 (Nat.le_of_eq rfl) rfl (by decide) (by decide) (by decide) (by decide) d13_10 ?_
        rintro T h2 v2 ⟨r2, rfl, hr2⟩ X
        change Run _ _ _ _ _ _ _ _ [(.int r2)]
        rcases hr2 with ⟨rfl, wl', b', hb, Ws'⟩ | ⟨rfl, hno, Ws', -⟩
        · refine r_ifY 0 X d13_13 (by decide) ?_
          exfalso
          obtain ⟨_, _, _, _, _, _, _, _, _, _, I', _, _⟩ := Ws'
          have := I'.2.2.1
          omega
        · refine r_ifN 16 X d13_13 (by decide) ?_
          refine r_ldc2Long 19 X (hw _ (List.mem_of_getElem? (i := 67) rfl)) d13_16 ?_
          refine r_retJ X d13_19 (by decide) (by decide) ?_
          exact ⟨-1, rfl, Or.inr ⟨hno, rfl, _, _, Ws'⟩⟩
      · refine r_ifY 20 X d13_6 ((if0 _ _).trans (feq (fun q => h6_1 ((lw_eq _ _).mp q))).2) ?_
        refine r_aloadN 21 X d13_20 rfl rfl ?_
        refine r_getfield 24 X (host := "") (Or.inl (hw _ (List.mem_of_getElem? (i := 31) rfl))) Via.refl F_a1_wordLeft d13_21 ?_
        intro T X
        refine r_callS 27 X (st := []) (rmNlz l Z a0 hw n0 _ X.sz wl) (hw _ (List.mem_of_getElem? (i := 60) rfl)) (hw _ (List.mem_of_getElem? (i := 61) rfl)) (hw _ (List.mem_of_getElem? (i := 62) rfl)) (hw _ (List.mem_of_getElem? (i := 51) rfl)) (by decide) pd_1 [(.long wl)] rfl rfl 0 (Nat.le_of_eq rfl) rfl (by decide) (by decide) (by decide) (by decide) d13_24 ?_
        rintro T h3 v3 ⟨r3, R3, rfl, hr3, hR3, rfl⟩ X
        change Run _ _ _ _ _ _ _ _ [(.int r3)]
        have hwl0 : ¬ wl = 0 := h6_1
        have hs := own_s6 hr3
        obtain ⟨j1, j2, j3, I2, RR⟩ := win_take (wf := wf) I hwl0 hR3 (fun j hj => (bt_min _ _ hs _ hj).trans (by rw [Nat.mod_eq_of_lt (bt_nlz hR3 hwl0).1]))
        have hω2 : ω < 256 := by have h1 := I.2.2.2.2.2 hwl0; have h2 := I.2.2.1; omega
        refine r_istoreN 28 X #[.val (.ref a1), .val (.int r3)] d13_27 rfl ?_
        refine r_aloadN 29 X d13_28 rfl rfl ?_
        refine r_dup 30 X d13_29 rfl ?_
        refine r_getfield 33 X (host := "") (Or.inl (hw _ (List.mem_of_getElem? (i := 31) rfl))) Via.refl F_a1_wordLeft d13_30 ?_
        intro T X
        refine r_ldc2Long 36 X (hw _ (List.mem_of_getElem? (i := 43) rfl)) d13_33 ?_
        refine r_iloadN 37 X d13_36 rfl ?_
        refine r_lushr 38 X d13_37 ?_
        refine r_ldc2Long 41 X (hw _ (List.mem_of_getElem? (i := 67) rfl)) d13_38 ?_
        refine r_lxor 42 X d13_41 ?_
        refine r_land 43 X d13_42 ?_
        refine r_putfield 46 X (host := "") (Or.inl (hw _ (List.mem_of_getElem? (i := 31) rfl))) Via.refl F_a1_wordLeft E_a1 (Or.inl (hw _ (List.mem_of_getElem? (i := 32) rfl))) (hw _ (List.mem_of_getElem? (i := 3) rfl)) (ty := .long) (by decide) rfl rfl ga d13_43 ?_
        intro T h4 W4 X
        have E_a1 := E_a1.wr W4
        have F_a1_words := F_a1_words.other W4 (Or.inr (slot_ne (Or.inr (hw _ (List.mem_of_getElem? (i := 15) rfl))) (Or.inl (hw _ (List.mem_of_getElem? (i := 32) rfl))) (by decide) (t := (.array .long)) (t' := .long) (by decide) (by decide)))
        have F_a1_marked := F_a1_marked.other W4 (Or.inr (slot_ne (Or.inr (hw _ (List.mem_of_getElem? (i := 17) rfl))) (Or.inl (hw _ (List.mem_of_getElem? (i := 32) rfl))) (by decide) (t := (.array .long)) (t' := .long) (by decide) (by decide)))
        have F_a1_first := F_a1_first.other W4 (Or.inr (slot_ne (Or.inl (hw _ (List.mem_of_getElem? (i := 25) rfl))) (Or.inl (hw _ (List.mem_of_getElem? (i := 32) rfl))) (by decide) (t := .long) (t' := .long) (by decide) (by decide)))
        have F_a1_last := F_a1_last.other W4 (Or.inr (slot_ne (Or.inl (hw _ (List.mem_of_getElem? (i := 28) rfl))) (Or.inl (hw _ (List.mem_of_getElem? (i := 32) rfl))) (by decide) (t := .long) (t' := .long) (by decide) (by decide)))
        have F_a1_group := F_a1_group.other W4 (Or.inr (slot_ne (Or.inl (hw _ (List.mem_of_getElem? (i := 12) rfl))) (Or.inl (hw _ (List.mem_of_getElem? (i := 32) rfl))) (by decide) (t := .int) (t' := .long) (by decide) (by decide)))
        have F_a1_groupLeft := F_a1_groupLeft.other W4 (Or.inr (slot_ne (Or.inl (hw _ (List.mem_of_getElem? (i := 30) rfl))) (Or.inl (hw _ (List.mem_of_getElem? (i := 32) rfl))) (by decide) (t := .long) (t' := .long) (by decide) (by decide)))
        have F_a1_word := F_a1_word.other W4 (Or.inr (slot_ne (Or.inl (hw _ (List.mem_of_getElem? (i := 69) rfl))) (Or.inl (hw _ (List.mem_of_getElem? (i := 32) rfl))) (by decide) (t := .int) (t' := .long) (by decide) (by decide)))
        have F_a1_wordLeft := F_a1_wordLeft.same W4
        have A_wa := A_wa.other W4 ne_wa_a1
        have A_ma := A_ma.other W4 ne_ma_a1
        refine r_aloadN 47 X d13_46 rfl rfl ?_
        refine r_getfield 50 X (host := "") (Or.inl (hw _ (List.mem_of_getElem? (i := 24) rfl))) Via.refl F_a1_first d13_47 ?_
        intro T X
        refine r_aloadN 51 X d13_50 rfl rfl ?_
        refine r_getfield 54 X (host := "") (Or.inl (hw _ (List.mem_of_getElem? (i := 68) rfl))) Via.refl F_a1_word d13_51 ?_
        intro T X
        refine r_i2l 55 X d13_54 ?_
        refine r_bipush 57 X (6 : Int32) d13_55 rfl ?_
        refine r_lshl 58 X d13_57 ?_
        refine r_ladd 59 X d13_58 ?_
        refine r_iloadN 60 X d13_59 rfl ?_
        refine r_i2l 61 X d13_60 ?_
        refine r_ladd 62 X d13_61 ?_
        refine r_topJ (own_res hω hr3 hω2 j1) ?_
        refine r_retJ X d13_62 (by decide) (by decide) ?_
        exact ⟨_, rfl, Or.inl ⟨64 * ω + R3, (hrem _).mpr j2, fun j hj q => j3 j hj ((hrem j).mp q), rfl, _, _, _, _, _, _, _, _, _, ⟨E_a1, F_a1_words, F_a1_marked, F_a1_first, F_a1_last, F_a1_group, F_a1_groupLeft, F_a1_word, F_a1_wordLeft, A_wa, A_ma, ga, gwa, gma, ne_wa_a1, ne_ma_a1, ne_wa_ma⟩, hg1, hω, I2, fun k => by show (rem k ∧ _) ↔ _; rw [RR k, hrem k], hS⟩⟩
    | succ f ih =>
      intro T h wl b hf Ws X
      obtain ⟨wf, mf, grp, gl, wd, g1, ω, Wn, hg1, hω, I, hrem, hS⟩ := Ws
      obtain ⟨E_a1, F_a1_words, F_a1_marked, F_a1_first, F_a1_last, F_a1_group, F_a1_groupLeft, F_a1_word, F_a1_wordLeft, A_wa, A_ma, ga, gwa, gma, ne_wa_a1, ne_ma_a1, ne_wa_ma⟩ := Wn
      refine r_aloadN 1 X d13_0 rfl rfl ?_
      refine r_getfield 4 X (host := "") (Or.inl (hw _ (List.mem_of_getElem? (i := 31) rfl))) Via.refl F_a1_wordLeft d13_1 ?_
      intro T X
      refine r_lconst 5 X (0 : Int64) d13_4 rfl ?_
      refine r_lcmp 6 X d13_5 ?_
      by_cases h6_5 : wl = (0 : Int64)
      · refine r_ifN 9 X d13_6 ((if0 _ _).trans (teq ((lw_eq _ _).mpr h6_5)).2) ?_
        obtain rfl : wl = 0 := h6_5
        refine r_aloadN 10 X d13_9 rfl rfl ?_
        refine r_private 13 X (st := []) (a := a1) (rmWord l Z a0 hw n0 _ X.sz a1 wa ma n G fi la rem b zG hzG hG4 hGn ⟨_, _, _, _, _, _, _, ⟨E_a1, F_a1_words, F_a1_marked, F_a1_first, F_a1_last, F_a1_group, F_a1_groupLeft, F_a1_word, F_a1_wordLeft, A_wa, A_ma, ga, gwa, gma, ne_wa_a1, ne_ma_a1, ne_wa_ma⟩, hg1, hω, I, hrem, hS⟩) E_a1 (hw _ (List.mem_of_getElem? (i := 56) rfl)) (hw _ (List.mem_of_getElem? (i := 57) rfl)) (hw _ (List.mem_of_getElem? (i := 3) rfl)) (hw _ (List.mem_of_getElem? (i := 58) rfl)) (hw _ (List.mem_of_getElem? (i := 59) rfl)) (hw _ (List.mem_of_getElem? (i := 4) rfl)) (by decide) pd_2 [] rfl rfl 0 (Nat.le_of_eq rfl) rfl (by decide) (by decide) (by decide) (by decide) d13_10 ?_
        rintro T h6 v6 ⟨r6, rfl, hr6⟩ X
        change Run _ _ _ _ _ _ _ _ [(.int r6)]
        rcases hr6 with ⟨rfl, wl', b', hb, Ws'⟩ | ⟨rfl, hno, Ws', -⟩
        · refine r_ifY 0 X d13_13 (by decide) ?_
          exact ih _ _ _ _ (by omega) Ws' X
        · refine r_ifN 16 X d13_13 (by decide) ?_
          refine r_ldc2Long 19 X (hw _ (List.mem_of_getElem? (i := 67) rfl)) d13_16 ?_
          refine r_retJ X d13_19 (by decide) (by decide) ?_
          exact ⟨-1, rfl, Or.inr ⟨hno, rfl, _, _, Ws'⟩⟩
      · refine r_ifY 20 X d13_6 ((if0 _ _).trans (feq (fun q => h6_5 ((lw_eq _ _).mp q))).2) ?_
        refine r_aloadN 21 X d13_20 rfl rfl ?_
        refine r_getfield 24 X (host := "") (Or.inl (hw _ (List.mem_of_getElem? (i := 31) rfl))) Via.refl F_a1_wordLeft d13_21 ?_
        intro T X
        refine r_callS 27 X (st := []) (rmNlz l Z a0 hw n0 _ X.sz wl) (hw _ (List.mem_of_getElem? (i := 60) rfl)) (hw _ (List.mem_of_getElem? (i := 61) rfl)) (hw _ (List.mem_of_getElem? (i := 62) rfl)) (hw _ (List.mem_of_getElem? (i := 51) rfl)) (by decide) pd_1 [(.long wl)] rfl rfl 0 (Nat.le_of_eq rfl) rfl (by decide) (by decide) (by decide) (by decide) d13_24 ?_
        rintro T h7 v7 ⟨r7, R7, rfl, hr7, hR7, rfl⟩ X
        change Run _ _ _ _ _ _ _ _ [(.int r7)]
        have hwl0 : ¬ wl = 0 := h6_5
        have hs := own_s6 hr7
        obtain ⟨j1, j2, j3, I2, RR⟩ := win_take (wf := wf) I hwl0 hR7 (fun j hj => (bt_min _ _ hs _ hj).trans (by rw [Nat.mod_eq_of_lt (bt_nlz hR7 hwl0).1]))
        have hω2 : ω < 256 := by have h1 := I.2.2.2.2.2 hwl0; have h2 := I.2.2.1; omega
        refine r_istoreN 28 X #[.val (.ref a1), .val (.int r7)] d13_27 rfl ?_
        refine r_aloadN 29 X d13_28 rfl rfl ?_
        refine r_dup 30 X d13_29 rfl ?_
        refine r_getfield 33 X (host := "") (Or.inl (hw _ (List.mem_of_getElem? (i := 31) rfl))) Via.refl F_a1_wordLeft d13_30 ?_
        intro T X
        refine r_ldc2Long 36 X (hw _ (List.mem_of_getElem? (i := 43) rfl)) d13_33 ?_
        refine r_iloadN 37 X d13_36 rfl ?_
        refine r_lushr 38 X d13_37 ?_
        refine r_ldc2Long 41 X (hw _ (List.mem_of_getElem? (i := 67) rfl)) d13_38 ?_
        refine r_lxor 42 X d13_41 ?_
        refine r_land 43 X d13_42 ?_
        refine r_putfield 46 X (host := "") (Or.inl (hw _ (List.mem_of_getElem? (i := 31) rfl))) Via.refl F_a1_wordLeft E_a1 (Or.inl (hw _ (List.mem_of_getElem? (i := 32) rfl))) (hw _ (List.mem_of_getElem? (i := 3) rfl)) (ty := .long) (by decide) rfl rfl ga d13_43 ?_
        intro T h8 W8 X
        have E_a1 := E_a1.wr W8
        have F_a1_words := F_a1_words.other W8 (Or.inr (slot_ne (Or.inr (hw _ (List.mem_of_getElem? (i := 15) rfl))) (Or.inl (hw _ (List.mem_of_getElem? (i := 32) rfl))) (by decide) (t := (.array .long)) (t' := .long) (by decide) (by decide)))
        have F_a1_marked := F_a1_marked.other W8 (Or.inr (slot_ne (Or.inr (hw _ (List.mem_of_getElem? (i := 17) rfl))) (Or.inl (hw _ (List.mem_of_getElem? (i := 32) rfl))) (by decide) (t := (.array .long)) (t' := .long) (by decide) (by decide)))
        have F_a1_first := F_a1_first.other W8 (Or.inr (slot_ne (Or.inl (hw _ (List.mem_of_getElem? (i := 25) rfl))) (Or.inl (hw _ (List.mem_of_getElem? (i := 32) rfl))) (by decide) (t := .long) (t' := .long) (by decide) (by decide)))
        have F_a1_last := F_a1_last.other W8 (Or.inr (slot_ne (Or.inl (hw _ (List.mem_of_getElem? (i := 28) rfl))) (Or.inl (hw _ (List.mem_of_getElem? (i := 32) rfl))) (by decide) (t := .long) (t' := .long) (by decide) (by decide)))
        have F_a1_group := F_a1_group.other W8 (Or.inr (slot_ne (Or.inl (hw _ (List.mem_of_getElem? (i := 12) rfl))) (Or.inl (hw _ (List.mem_of_getElem? (i := 32) rfl))) (by decide) (t := .int) (t' := .long) (by decide) (by decide)))
        have F_a1_groupLeft := F_a1_groupLeft.other W8 (Or.inr (slot_ne (Or.inl (hw _ (List.mem_of_getElem? (i := 30) rfl))) (Or.inl (hw _ (List.mem_of_getElem? (i := 32) rfl))) (by decide) (t := .long) (t' := .long) (by decide) (by decide)))
        have F_a1_word := F_a1_word.other W8 (Or.inr (slot_ne (Or.inl (hw _ (List.mem_of_getElem? (i := 69) rfl))) (Or.inl (hw _ (List.mem_of_getElem? (i := 32) rfl))) (by decide) (t := .int) (t' := .long) (by decide) (by decide)))
        have F_a1_wordLeft := F_a1_wordLeft.same W8
        have A_wa := A_wa.other W8 ne_wa_a1
        have A_ma := A_ma.other W8 ne_ma_a1
        refine r_aloadN 47 X d13_46 rfl rfl ?_
        refine r_getfield 50 X (host := "") (Or.inl (hw _ (List.mem_of_getElem? (i := 24) rfl))) Via.refl F_a1_first d13_47 ?_
        intro T X
        refine r_aloadN 51 X d13_50 rfl rfl ?_
        refine r_getfield 54 X (host := "") (Or.inl (hw _ (List.mem_of_getElem? (i := 68) rfl))) Via.refl F_a1_word d13_51 ?_
        intro T X
        refine r_i2l 55 X d13_54 ?_
        refine r_bipush 57 X (6 : Int32) d13_55 rfl ?_
        refine r_lshl 58 X d13_57 ?_
        refine r_ladd 59 X d13_58 ?_
        refine r_iloadN 60 X d13_59 rfl ?_
        refine r_i2l 61 X d13_60 ?_
        refine r_ladd 62 X d13_61 ?_
        refine r_topJ (own_res hω hr7 hω2 j1) ?_
        refine r_retJ X d13_62 (by decide) (by decide) ?_
        exact ⟨_, rfl, Or.inl ⟨64 * ω + R7, (hrem _).mpr j2, fun j hj q => j3 j hj ((hrem j).mp q), rfl, _, _, _, _, _, _, _, _, _, ⟨E_a1, F_a1_words, F_a1_marked, F_a1_first, F_a1_last, F_a1_group, F_a1_groupLeft, F_a1_word, F_a1_wordLeft, A_wa, A_ma, ga, gwa, gma, ne_wa_a1, ne_ma_a1, ne_wa_ma⟩, hg1, hω, I2, fun k => by show (rem k ∧ _) ↔ _; rw [RR k, hrem k], hS⟩⟩
  exact loop n _ _ _ b (by omega) Ws X
def elV (a s : Int64) : Int64 := if a + s < 0 then 9223372036854775807 else a + s
theorem d4_0 : decode method_2_code 0 = .ok (.lload_n 0, 1) := by decide +kernel
theorem d4_1 : decode method_2_code 1 = .ok (.lload_n 2, 1) := by decide +kernel
theorem d4_2 : decode method_2_code 2 = .ok (.ladd, 1) := by decide +kernel
theorem d4_3 : decode method_2_code 3 = .ok (.lstore 4, 2) := by decide +kernel
theorem d4_5 : decode method_2_code 5 = .ok (.lload 4, 2) := by decide +kernel
theorem d4_7 : decode method_2_code 7 = .ok (.lconst 0, 1) := by decide +kernel
theorem d4_8 : decode method_2_code 8 = .ok (.lcmp, 1) := by decide +kernel
theorem d4_9 : decode method_2_code 9 = .ok (.ifCond .ge 9, 3) := by decide +kernel
theorem d4_12 : decode method_2_code 12 = .ok (.ldc2_w 9, 3) := by decide +kernel
theorem d4_15 : decode method_2_code 15 = .ok (.goto 5, 3) := by decide +kernel
theorem d4_18 : decode method_2_code 18 = .ok (.lload 4, 2) := by decide +kernel
theorem d4_20 : decode method_2_code 20 = .ok (.lreturn, 1) := by decide +kernel
theorem pn_4 : plainName "com/example/skiprail/skiprail/lists/WindowOpenPinLaw" = true := by first | (simp [plainName, overriddenIn]; done) | decide +kernel
theorem ef_4 (m : MethodId) (x0 : Int64) (x1 : Int64) : entryFrame m #[(.long x0), (.long x1)] 6 = mkF m 0 #[.val (.long x0), .second, .val (.long x1), .second, .unset, .unset] [] := by first | (simp [entryFrame, mkF, argsToLocals, Value.category]; done) | rfl
set_option maxRecDepth 65536 in
set_option maxHeartbeats 40000000 in
theorem rmEl (l : Launch) (Z : State) (a0 : Array Value) (hw : ∀ d ∈ tables_1, d.before a0 Z = true) (n0 : Nat) (h : Heap) (Z0 : n0 ≤ h.size) (q1 : Int64) (q2 : Int64)  :
    Met1 l Z n0 [] (⟨"com/example/skiprail/skiprail/lists/WindowOpenPinLaw", "expectedLast", "(JJ)J"⟩ : MethodName) method_2_code 6 (some .long) ({ frames := 0, cells := 0, slots := 0, locals := 0 } : Room) #[(.long q1), (.long q2)] h (fun v h' => v = some (.long (elV q1 q2)) ∧ h = h') := by
  refine met_of (plainFor_of_name pn_4) Z0 (fun m => ef_4 m q1 q2) ?_
  intro p e s m below meth c T hs0 X
  refine r_lloadN 1 X d4_0 rfl ?_
  refine r_lloadN 2 X d4_1 rfl ?_
  refine r_ladd 3 X d4_2 ?_
  refine r_lstore 5 X #[.val (.long q1), .second, .val (.long q2), .second, .val (.long (q1 + q2)), .second] d4_3 rfl ?_
  refine r_lload 7 X d4_5 rfl ?_
  refine r_lconst 8 X (0 : Int64) d4_7 rfl ?_
  refine r_lcmp 9 X d4_8 ?_
  by_cases h9_1 : (q1 + q2) < (0 : Int64)
  · refine r_ifN 12 X d4_9 ((if0 _ _).trans (tlt ((lw_lt _ _).mpr h9_1)).2.1) ?_
    refine r_ldc2Long 15 X (hw _ (List.mem_of_getElem? (i := 87) rfl)) d4_12 ?_
    refine r_goto 20 X d4_15 ?_
    refine r_retJ X d4_20 (by decide) (by decide) ?_
    exact ⟨by simp [elV, h9_1], rfl⟩
  · refine r_ifY 18 X d4_9 ((if0 _ _).trans (flt (fun q => h9_1 ((lw_lt _ _).mp q))).2.1) ?_
    refine r_lload 20 X d4_18 rfl ?_
    refine r_retJ X d4_20 (by decide) (by decide) ?_
    exact ⟨by simp [elV, h9_1], rfl⟩
theorem d7_0 : decode jdk_35_method_50_code 0 = .ok (.lload_n 0, 1) := by decide +kernel
theorem d7_1 : decode jdk_35_method_50_code 1 = .ok (.lload_n 0, 1) := by decide +kernel
theorem d7_2 : decode jdk_35_method_50_code 2 = .ok (.iconst 1, 1) := by decide +kernel
theorem d7_3 : decode jdk_35_method_50_code 3 = .ok (.lushr, 1) := by decide +kernel
theorem d7_4 : decode jdk_35_method_50_code 4 = .ok (.ldc2_w 314, 3) := by decide +kernel
theorem d7_7 : decode jdk_35_method_50_code 7 = .ok (.land, 1) := by decide +kernel
theorem d7_8 : decode jdk_35_method_50_code 8 = .ok (.lsub, 1) := by decide +kernel
theorem d7_9 : decode jdk_35_method_50_code 9 = .ok (.lstore_n 0, 1) := by decide +kernel
theorem d7_10 : decode jdk_35_method_50_code 10 = .ok (.lload_n 0, 1) := by decide +kernel
theorem d7_11 : decode jdk_35_method_50_code 11 = .ok (.ldc2_w 316, 3) := by decide +kernel
theorem d7_14 : decode jdk_35_method_50_code 14 = .ok (.land, 1) := by decide +kernel
theorem d7_15 : decode jdk_35_method_50_code 15 = .ok (.lload_n 0, 1) := by decide +kernel
theorem d7_16 : decode jdk_35_method_50_code 16 = .ok (.iconst 2, 1) := by decide +kernel
theorem d7_17 : decode jdk_35_method_50_code 17 = .ok (.lushr, 1) := by decide +kernel
theorem d7_18 : decode jdk_35_method_50_code 18 = .ok (.ldc2_w 316, 3) := by decide +kernel
theorem d7_21 : decode jdk_35_method_50_code 21 = .ok (.land, 1) := by decide +kernel
theorem d7_22 : decode jdk_35_method_50_code 22 = .ok (.ladd, 1) := by decide +kernel
theorem d7_23 : decode jdk_35_method_50_code 23 = .ok (.lstore_n 0, 1) := by decide +kernel
theorem d7_24 : decode jdk_35_method_50_code 24 = .ok (.lload_n 0, 1) := by decide +kernel
theorem d7_25 : decode jdk_35_method_50_code 25 = .ok (.lload_n 0, 1) := by decide +kernel
theorem d7_26 : decode jdk_35_method_50_code 26 = .ok (.iconst 4, 1) := by decide +kernel
theorem d7_27 : decode jdk_35_method_50_code 27 = .ok (.lushr, 1) := by decide +kernel
theorem d7_28 : decode jdk_35_method_50_code 28 = .ok (.ladd, 1) := by decide +kernel
theorem d7_29 : decode jdk_35_method_50_code 29 = .ok (.ldc2_w 318, 3) := by decide +kernel
theorem d7_32 : decode jdk_35_method_50_code 32 = .ok (.land, 1) := by decide +kernel
theorem d7_33 : decode jdk_35_method_50_code 33 = .ok (.lstore_n 0, 1) := by decide +kernel
theorem d7_34 : decode jdk_35_method_50_code 34 = .ok (.lload_n 0, 1) := by decide +kernel
theorem d7_35 : decode jdk_35_method_50_code 35 = .ok (.lload_n 0, 1) := by decide +kernel
theorem d7_36 : decode jdk_35_method_50_code 36 = .ok (.bipush 8, 2) := by decide +kernel
theorem d7_38 : decode jdk_35_method_50_code 38 = .ok (.lushr, 1) := by decide +kernel
theorem d7_39 : decode jdk_35_method_50_code 39 = .ok (.ladd, 1) := by decide +kernel
theorem d7_40 : decode jdk_35_method_50_code 40 = .ok (.lstore_n 0, 1) := by decide +kernel
theorem d7_41 : decode jdk_35_method_50_code 41 = .ok (.lload_n 0, 1) := by decide +kernel
theorem d7_42 : decode jdk_35_method_50_code 42 = .ok (.lload_n 0, 1) := by decide +kernel
theorem d7_43 : decode jdk_35_method_50_code 43 = .ok (.bipush 16, 2) := by decide +kernel
theorem d7_45 : decode jdk_35_method_50_code 45 = .ok (.lushr, 1) := by decide +kernel
theorem d7_46 : decode jdk_35_method_50_code 46 = .ok (.ladd, 1) := by decide +kernel
theorem d7_47 : decode jdk_35_method_50_code 47 = .ok (.lstore_n 0, 1) := by decide +kernel
theorem d7_48 : decode jdk_35_method_50_code 48 = .ok (.lload_n 0, 1) := by decide +kernel
theorem d7_49 : decode jdk_35_method_50_code 49 = .ok (.lload_n 0, 1) := by decide +kernel
theorem d7_50 : decode jdk_35_method_50_code 50 = .ok (.bipush 32, 2) := by decide +kernel
theorem d7_52 : decode jdk_35_method_50_code 52 = .ok (.lushr, 1) := by decide +kernel
theorem d7_53 : decode jdk_35_method_50_code 53 = .ok (.ladd, 1) := by decide +kernel
theorem d7_54 : decode jdk_35_method_50_code 54 = .ok (.lstore_n 0, 1) := by decide +kernel
theorem d7_55 : decode jdk_35_method_50_code 55 = .ok (.lload_n 0, 1) := by decide +kernel
theorem d7_56 : decode jdk_35_method_50_code 56 = .ok (.l2i, 1) := by decide +kernel
theorem d7_57 : decode jdk_35_method_50_code 57 = .ok (.bipush 127, 2) := by decide +kernel
theorem d7_59 : decode jdk_35_method_50_code 59 = .ok (.iand, 1) := by decide +kernel
theorem d7_60 : decode jdk_35_method_50_code 60 = .ok (.ireturn, 1) := by decide +kernel
theorem pn_7 : plainName "java/lang/Long" = true := by first | (simp [plainName, overriddenIn]; done) | decide +kernel
theorem ef_7 (m : MethodId) (x0 : Int64) : entryFrame m #[(.long x0)] 2 = mkF m 0 #[.val (.long x0), .second] [] := by first | (simp [entryFrame, mkF, argsToLocals, Value.category]; done) | rfl
set_option maxRecDepth 65536 in
set_option maxHeartbeats 40000000 in
theorem rmBc (l : Launch) (Z : State) (a0 : Array Value) (hw : ∀ d ∈ tables_1, d.before a0 Z = true) (n0 : Nat) (h : Heap) (Z0 : n0 ≤ h.size) (q1 : Int64)  :
    Met1 l Z n0 [] (⟨"java/lang/Long", "bitCount", "(J)I"⟩ : MethodName) jdk_35_method_50_code 2 (some .int) ({ frames := 0, cells := 0, slots := 0, locals := 0 } : Room) #[(.long q1)] h (fun v h' => v = some (.int (bcV q1)) ∧ h = h') := by
  refine met_of (plainFor_of_name pn_7) Z0 (fun m => ef_7 m q1) ?_
  intro p e s m below meth c T hs0 X
  refine r_lloadN 1 X d7_0 rfl ?_
  refine r_lloadN 2 X d7_1 rfl ?_
  refine r_iconst 3 X (1 : Int32) d7_2 rfl ?_
  refine r_lushr 4 X d7_3 ?_
  refine r_ldc2Long 7 X (hw _ (List.mem_of_getElem? (i := 53) rfl)) d7_4 ?_
  refine r_land 8 X d7_7 ?_
  refine r_lsub 9 X d7_8 ?_
  refine r_topJ (x' := (bc1 q1)) rfl ?_
  refine r_lstoreN 10 X #[.val (.long (bc1 q1)), .second] d7_9 rfl ?_
  refine r_lloadN 11 X d7_10 rfl ?_
  refine r_ldc2Long 14 X (hw _ (List.mem_of_getElem? (i := 54) rfl)) d7_11 ?_
  refine r_land 15 X d7_14 ?_
  refine r_lloadN 16 X d7_15 rfl ?_
  refine r_iconst 17 X (2 : Int32) d7_16 rfl ?_
  refine r_lushr 18 X d7_17 ?_
  refine r_ldc2Long 21 X (hw _ (List.mem_of_getElem? (i := 54) rfl)) d7_18 ?_
  refine r_land 22 X d7_21 ?_
  refine r_ladd 23 X d7_22 ?_
  refine r_topJ (x' := (bc2 (bc1 q1))) rfl ?_
  refine r_lstoreN 24 X #[.val (.long (bc2 (bc1 q1))), .second] d7_23 rfl ?_
  refine r_lloadN 25 X d7_24 rfl ?_
  refine r_lloadN 26 X d7_25 rfl ?_
  refine r_iconst 27 X (4 : Int32) d7_26 rfl ?_
  refine r_lushr 28 X d7_27 ?_
  refine r_ladd 29 X d7_28 ?_
  refine r_ldc2Long 32 X (hw _ (List.mem_of_getElem? (i := 55) rfl)) d7_29 ?_
  refine r_land 33 X d7_32 ?_
  refine r_topJ (x' := (bc3 (bc2 (bc1 q1)))) rfl ?_
  refine r_lstoreN 34 X #[.val (.long (bc3 (bc2 (bc1 q1)))), .second] d7_33 rfl ?_
  refine r_lloadN 35 X d7_34 rfl ?_
  refine r_lloadN 36 X d7_35 rfl ?_
  refine r_bipush 38 X (8 : Int32) d7_36 rfl ?_
  refine r_lushr 39 X d7_38 ?_
  refine r_ladd 40 X d7_39 ?_
  refine r_topJ (x' := (bc4 (bc3 (bc2 (bc1 q1))))) rfl ?_
  refine r_lstoreN 41 X #[.val (.long (bc4 (bc3 (bc2 (bc1 q1))))), .second] d7_40 rfl ?_
  refine r_lloadN 42 X d7_41 rfl ?_
  refine r_lloadN 43 X d7_42 rfl ?_
  refine r_bipush 45 X (16 : Int32) d7_43 rfl ?_
  refine r_lushr 46 X d7_45 ?_
  refine r_ladd 47 X d7_46 ?_
  refine r_topJ (x' := (bc5 (bc4 (bc3 (bc2 (bc1 q1)))))) rfl ?_
  refine r_lstoreN 48 X #[.val (.long (bc5 (bc4 (bc3 (bc2 (bc1 q1)))))), .second] d7_47 rfl ?_
  refine r_lloadN 49 X d7_48 rfl ?_
  refine r_lloadN 50 X d7_49 rfl ?_
  refine r_bipush 52 X (32 : Int32) d7_50 rfl ?_
  refine r_lushr 53 X d7_52 ?_
  refine r_ladd 54 X d7_53 ?_
  refine r_topJ (x' := (bc6 (bc5 (bc4 (bc3 (bc2 (bc1 q1))))))) rfl ?_
  refine r_lstoreN 55 X #[.val (.long (bc6 (bc5 (bc4 (bc3 (bc2 (bc1 q1))))))), .second] d7_54 rfl ?_
  refine r_lloadN 56 X d7_55 rfl ?_
  refine r_l2i 57 X d7_56 ?_
  refine r_bipush 59 X (127 : Int32) d7_57 rfl ?_
  refine r_iand 60 X d7_59 ?_
  refine r_retI X d7_60 (by decide) (by decide) ?_
  exact ⟨rfl, rfl⟩
theorem d11_0 : decode prog_145_method_4_code 0 = .ok (.aload_n 0, 1) := by decide +kernel
theorem d11_1 : decode prog_145_method_4_code 1 = .ok (.getfield 30, 3) := by decide +kernel
theorem d11_4 : decode prog_145_method_4_code 4 = .ok (.lreturn, 1) := by decide +kernel
theorem pn_11 : plainName "com/example/skiprail/skiprail/lists/Window" = true := by first | (simp [plainName, overriddenIn]; done) | decide +kernel
theorem ef_11 (m : MethodId) (x0 : Addr) : entryFrame m #[(.ref x0)] 1 = mkF m 0 #[.val (.ref x0)] [] := by first | (simp [entryFrame, mkF, argsToLocals, Value.category]; done) | rfl
set_option maxRecDepth 65536 in
set_option maxHeartbeats 40000000 in
theorem rmFirst (l : Launch) (Z : State) (a0 : Array Value) (hw : ∀ d ∈ tables_1, d.before a0 Z = true) (n0 : Nat) (h : Heap) (Z0 : n0 ≤ h.size) (a1 : Addr) (fi : Int64) (F_a1_first : Fld Z h a1 "com/example/skiprail/skiprail/lists/Window" "first" "J" (.long fi)) :
    Met1 l Z n0 [] (⟨"com/example/skiprail/skiprail/lists/Window", "first", "()J"⟩ : MethodName) prog_145_method_4_code 1 (some .long) ({ frames := 0, cells := 0, slots := 0, locals := 0 } : Room) #[(.ref a1)] h (fun v h' => v = some (.long fi) ∧ h = h') := by
  refine met_of (plainFor_of_name pn_11) Z0 (fun m => ef_11 m a1) ?_
  intro p e s m below meth c T hs0 X
  refine r_aloadN 1 X d11_0 rfl rfl ?_
  refine r_getfield 4 X (host := "") (Or.inl (hw _ (List.mem_of_getElem? (i := 24) rfl))) Via.refl F_a1_first d11_1 ?_
  intro T X
  refine r_retJ X d11_4 (by decide) (by decide) ?_
  exact ⟨rfl, rfl⟩
theorem d12_0 : decode prog_145_method_5_code 0 = .ok (.aload_n 0, 1) := by decide +kernel
theorem d12_1 : decode prog_145_method_5_code 1 = .ok (.getfield 36, 3) := by decide +kernel
theorem d12_4 : decode prog_145_method_5_code 4 = .ok (.lreturn, 1) := by decide +kernel
theorem pn_12 : plainName "com/example/skiprail/skiprail/lists/Window" = true := by first | (simp [plainName, overriddenIn]; done) | decide +kernel
theorem ef_12 (m : MethodId) (x0 : Addr) : entryFrame m #[(.ref x0)] 1 = mkF m 0 #[.val (.ref x0)] [] := by first | (simp [entryFrame, mkF, argsToLocals, Value.category]; done) | rfl
set_option maxRecDepth 65536 in
set_option maxHeartbeats 40000000 in
theorem rmLast (l : Launch) (Z : State) (a0 : Array Value) (hw : ∀ d ∈ tables_1, d.before a0 Z = true) (n0 : Nat) (h : Heap) (Z0 : n0 ≤ h.size) (a1 : Addr) (la : Int64) (F_a1_last : Fld Z h a1 "com/example/skiprail/skiprail/lists/Window" "last" "J" (.long la)) :
    Met1 l Z n0 [] (⟨"com/example/skiprail/skiprail/lists/Window", "last", "()J"⟩ : MethodName) prog_145_method_5_code 1 (some .long) ({ frames := 0, cells := 0, slots := 0, locals := 0 } : Room) #[(.ref a1)] h (fun v h' => v = some (.long la) ∧ h = h') := by
  refine met_of (plainFor_of_name pn_12) Z0 (fun m => ef_12 m a1) ?_
  intro p e s m below meth c T hs0 X
  refine r_aloadN 1 X d12_0 rfl rfl ?_
  refine r_getfield 4 X (host := "") (Or.inl (hw _ (List.mem_of_getElem? (i := 27) rfl))) Via.refl F_a1_last d12_1 ?_
  intro T X
  refine r_retJ X d12_4 (by decide) (by decide) ?_
  exact ⟨rfl, rfl⟩
theorem own_cnt {n G g1 ω b α : Nat} {gl wl cnt : Int64} {mf wf : Nat → Int64} {rem : Nat → Prop} (I : WInv n G g1 gl mf ω b wl) (hrem : ∀ k, rem k ↔ remP g1 G gl mf wf ω wl k) (hc : (cnt = 0 ∧ ∀ k, rem k ↔ k = α) ∨ (cnt = 1 ∧ ∀ k, ¬ rem k)) :
    ((cnt + (bcV wl).toInt64 = 0 ∧ ∀ k, (rem k ∧ ¬ (k / 64 = ω ∧ bt wl (k % 64) = true)) ↔ k = α) ∨ (cnt + (bcV wl).toInt64 = 1 ∧ ∀ k, ¬ (rem k ∧ ¬ (k / 64 = ω ∧ bt wl (k % 64) = true)))) := by
  have part : ∀ j, j < 64 → bt wl j = true → rem (64 * ω + j) := fun j hj hb => (hrem _).mpr (Or.inl ⟨by omega, by rw [show (64 * ω + j) % 64 = j by omega]; exact hb⟩)
  by_cases q : α / 64 = ω ∧ bt wl (α % 64) = true
  · have hα : rem α := (hrem _).mpr (Or.inl q)
    rcases hc with ⟨rfl, h⟩ | ⟨-, h⟩
    · right
      have e : wl = oneB (α % 64) := own_oneB (Nat.mod_lt _ (by decide)) fun i hi => by
        rcases Bool.eq_false_or_eq_true (bt wl i) with z | z
        · have := (h _).mp (part i hi z)
          rw [z]; simp; omega
        · rw [z]; symm; simp
          intro y; rw [y, q.2] at z; cases z
      refine ⟨by rw [e, bcV_one ⟨α % 64, Nat.mod_lt _ (by decide)⟩]; rfl, fun k z => ?_⟩
      have := (h k).mp z.1
      subst this
      exact z.2 q
    · exact absurd hα (h α)
  · have e : wl = 0 := bt_ext fun j hj => by
      rcases Bool.eq_false_or_eq_true (bt wl j) with z | z
      · rcases hc with ⟨-, h⟩ | ⟨-, h⟩
        · have := (h _).mp (part j hj z)
          exact absurd ⟨by omega, by rw [show α % 64 = j by omega]; exact z⟩ q
        · exact absurd (part j hj z) (h _)
      · exact z
    subst e
    rw [bcV_zero]
    have z0 : ∀ k, ¬ (k / 64 = ω ∧ bt 0 (k % 64) = true) := fun k y => by rw [bt_zero] at y; exact absurd y.2 (by decide)
    rcases hc with ⟨rfl, h⟩ | ⟨rfl, h⟩
    · exact Or.inl ⟨rfl, fun k => ⟨fun y => (h k).mp y.1, fun y => ⟨(h k).mpr y, z0 k⟩⟩⟩
    · exact Or.inr ⟨rfl, fun k y => h k y.1⟩
theorem d6_0 : decode prog_145_method_12_code 0 = .ok (.aload_n 0, 1) := by decide +kernel
theorem d6_1 : decode prog_145_method_12_code 1 = .ok (.getfield 42, 3) := by decide +kernel
theorem d6_4 : decode prog_145_method_12_code 4 = .ok (.invokestatic 76, 3) := by decide +kernel
theorem d6_7 : decode prog_145_method_12_code 7 = .ok (.i2l, 1) := by decide +kernel
theorem d6_8 : decode prog_145_method_12_code 8 = .ok (.lstore_n 1, 1) := by decide +kernel
theorem d6_9 : decode prog_145_method_12_code 9 = .ok (.aload_n 0, 1) := by decide +kernel
theorem d6_10 : decode prog_145_method_12_code 10 = .ok (.lconst 0, 1) := by decide +kernel
theorem d6_11 : decode prog_145_method_12_code 11 = .ok (.putfield 42, 3) := by decide +kernel
theorem d6_14 : decode prog_145_method_12_code 14 = .ok (.aload_n 0, 1) := by decide +kernel
theorem d6_15 : decode prog_145_method_12_code 15 = .ok (.invokevirtual 69, 3) := by decide +kernel
theorem d6_18 : decode prog_145_method_12_code 18 = .ok (.ifCond .eq 22, 3) := by decide +kernel
theorem d6_21 : decode prog_145_method_12_code 21 = .ok (.lload_n 1, 1) := by decide +kernel
theorem d6_22 : decode prog_145_method_12_code 22 = .ok (.aload_n 0, 1) := by decide +kernel
theorem d6_23 : decode prog_145_method_12_code 23 = .ok (.getfield 42, 3) := by decide +kernel
theorem d6_26 : decode prog_145_method_12_code 26 = .ok (.invokestatic 76, 3) := by decide +kernel
theorem d6_29 : decode prog_145_method_12_code 29 = .ok (.i2l, 1) := by decide +kernel
theorem d6_30 : decode prog_145_method_12_code 30 = .ok (.ladd, 1) := by decide +kernel
theorem d6_31 : decode prog_145_method_12_code 31 = .ok (.lstore_n 1, 1) := by decide +kernel
theorem d6_32 : decode prog_145_method_12_code 32 = .ok (.aload_n 0, 1) := by decide +kernel
theorem d6_33 : decode prog_145_method_12_code 33 = .ok (.lconst 0, 1) := by decide +kernel
theorem d6_34 : decode prog_145_method_12_code 34 = .ok (.putfield 42, 3) := by decide +kernel
theorem d6_37 : decode prog_145_method_12_code 37 = .ok (.goto (-23), 3) := by decide +kernel
theorem d6_40 : decode prog_145_method_12_code 40 = .ok (.lload_n 1, 1) := by decide +kernel
theorem d6_41 : decode prog_145_method_12_code 41 = .ok (.lreturn, 1) := by decide +kernel
theorem pn_6 : plainName "com/example/skiprail/skiprail/lists/Window" = true := by first | (simp [plainName, overriddenIn]; done) | decide +kernel
theorem ef_6 (m : MethodId) (x0 : Addr) : entryFrame m #[(.ref x0)] 3 = mkF m 0 #[.val (.ref x0), .unset, .unset] [] := by first | (simp [entryFrame, mkF, argsToLocals, Value.category]; done) | rfl
set_option maxRecDepth 65536 in
set_option maxHeartbeats 40000000 in
theorem rmCount (l : Launch) (Z : State) (a0 : Array Value) (hw : ∀ d ∈ tables_1, d.before a0 Z = true) (n0 : Nat) (h : Heap) (Z0 : n0 ≤ h.size) (a1 wa ma : Addr) (n G : Nat) (fi la : Int64) (rem : Nat → Prop) (b α : Nat) (zG : Int32) (hα : ∀ k, rem k ↔ k = α) (hzG : zG.toInt = (G : Int)) (hG4 : G ≤ 4) (hGn : G = (n + 63) / 64) (Ws : WS1 Z h n0 a1 wa ma n G fi la rem 0 b) :
    Met1 l Z n0 [] (⟨"com/example/skiprail/skiprail/lists/Window", "count", "()J"⟩ : MethodName) prog_145_method_12_code 3 (some .long) ({ frames := 3, cells := 0, slots := 0, locals := 41 } : Room) #[(.ref a1)] h (fun v h' => v = some (.long 1) ∧ ∃ (grp : Int32) (gl : Int64) (wd : Int32) (ω : Nat), Win Z h' n0 a1 wa ma n G (fun _ => 0) (fun _ => 0) fi la grp gl wd 0 ∧ wd.toInt = (ω : Int)) := by
  refine met_of (plainFor_of_name pn_6) Z0 (fun m => ef_6 m a1) ?_
  intro p e s m below meth c T hs0 X
  obtain ⟨wf, mf, grp, gl, wd, g1, ω, Wn, hg1, hω, I, hrem, hS⟩ := Ws
  obtain ⟨E_a1, F_a1_words, F_a1_marked, F_a1_first, F_a1_last, F_a1_group, F_a1_groupLeft, F_a1_word, F_a1_wordLeft, A_wa, A_ma, ga, gwa, gma, ne_wa_a1, ne_ma_a1, ne_wa_ma⟩ := Wn
  refine r_aloadN 1 X d6_0 rfl rfl ?_
  refine r_getfield 4 X (host := "") (Or.inl (hw _ (List.mem_of_getElem? (i := 31) rfl))) Via.refl F_a1_wordLeft d6_1 ?_
  intro T X
  refine r_callS 7 X (st := []) (rmBc l Z a0 hw n0 _ X.sz (0 : Int64)) (hw _ (List.mem_of_getElem? (i := 49) rfl)) (hw _ (List.mem_of_getElem? (i := 50) rfl)) (hw _ (List.mem_of_getElem? (i := 52) rfl)) (hw _ (List.mem_of_getElem? (i := 51) rfl)) (by decide) pd_1 [(.long (0 : Int64))] rfl rfl 0 (Nat.le_of_eq rfl) rfl (by decide) (by decide) (by decide) (by decide) d6_4 ?_
  rintro T h1 v1 ⟨rfl, rfl⟩ X
  change Run _ _ _ _ _ _ _ _ [(.int (bcV (0 : Int64)))]
  refine r_i2l 8 X d6_7 ?_
  refine r_lstoreN 9 X #[.val (.ref a1), .val (.long ((bcV (0 : Int64)).toInt64)), .second] d6_8 rfl ?_
  refine r_aloadN 10 X d6_9 rfl rfl ?_
  refine r_lconst 11 X (0 : Int64) d6_10 rfl ?_
  refine r_putfield 14 X (host := "") (Or.inl (hw _ (List.mem_of_getElem? (i := 31) rfl))) Via.refl F_a1_wordLeft E_a1 (Or.inl (hw _ (List.mem_of_getElem? (i := 32) rfl))) (hw _ (List.mem_of_getElem? (i := 3) rfl)) (ty := .long) (by decide) rfl rfl ga d6_11 ?_
  intro T h2 W2 X
  have E_a1 := E_a1.wr W2
  have F_a1_words := F_a1_words.other W2 (Or.inr (slot_ne (Or.inr (hw _ (List.mem_of_getElem? (i := 15) rfl))) (Or.inl (hw _ (List.mem_of_getElem? (i := 32) rfl))) (by decide) (t := (.array .long)) (t' := .long) (by decide) (by decide)))
  have F_a1_marked := F_a1_marked.other W2 (Or.inr (slot_ne (Or.inr (hw _ (List.mem_of_getElem? (i := 17) rfl))) (Or.inl (hw _ (List.mem_of_getElem? (i := 32) rfl))) (by decide) (t := (.array .long)) (t' := .long) (by decide) (by decide)))
  have F_a1_first := F_a1_first.other W2 (Or.inr (slot_ne (Or.inl (hw _ (List.mem_of_getElem? (i := 25) rfl))) (Or.inl (hw _ (List.mem_of_getElem? (i := 32) rfl))) (by decide) (t := .long) (t' := .long) (by decide) (by decide)))
  have F_a1_last := F_a1_last.other W2 (Or.inr (slot_ne (Or.inl (hw _ (List.mem_of_getElem? (i := 28) rfl))) (Or.inl (hw _ (List.mem_of_getElem? (i := 32) rfl))) (by decide) (t := .long) (t' := .long) (by decide) (by decide)))
  have F_a1_group := F_a1_group.other W2 (Or.inr (slot_ne (Or.inl (hw _ (List.mem_of_getElem? (i := 12) rfl))) (Or.inl (hw _ (List.mem_of_getElem? (i := 32) rfl))) (by decide) (t := .int) (t' := .long) (by decide) (by decide)))
  have F_a1_groupLeft := F_a1_groupLeft.other W2 (Or.inr (slot_ne (Or.inl (hw _ (List.mem_of_getElem? (i := 30) rfl))) (Or.inl (hw _ (List.mem_of_getElem? (i := 32) rfl))) (by decide) (t := .long) (t' := .long) (by decide) (by decide)))
  have F_a1_word := F_a1_word.other W2 (Or.inr (slot_ne (Or.inl (hw _ (List.mem_of_getElem? (i := 69) rfl))) (Or.inl (hw _ (List.mem_of_getElem? (i := 32) rfl))) (by decide) (t := .int) (t' := .long) (by decide) (by decide)))
  have F_a1_wordLeft := F_a1_wordLeft.same W2
  have A_wa := A_wa.other W2 ne_wa_a1
  have A_ma := A_ma.other W2 ne_ma_a1
  have loop : ∀ (f : Nat) (T : State) (h : Heap) (cnt : Int64) (rem : Nat → Prop) (b : Nat), n ≤ b + f → ((cnt = 0 ∧ ∀ k, rem k ↔ k = α) ∨ (cnt = 1 ∧ ∀ k, ¬ rem k)) → WS1 Z h n0 a1 wa ma n G fi la rem 0 b → Cx p l e ({ frames := 3, cells := 0, slots := 0, locals := 41 } : Room) s m #[(.ref a1)] below meth c Z prog_145_method_12_code 3 "com/example/skiprail/skiprail/lists/Window" (some .long) "count" n0 T h 0 0 → Run p e below m (Fin1 below s n0 (fun v h' => v = some (.long 1) ∧ ∃ (grp : Int32) (gl : Int64) (wd : Int32) (ω : Nat), Win Z h' n0 a1 wa ma n G (fun _ => 0) (fun _ => 0) fi la grp gl wd 0 ∧ wd.toInt = (ω : Int)) ({ frames := 3, cells := 0, slots := 0, locals := 41 } : Room).cells ({ frames := 3, cells := 0, slots := 0, locals := 41 } : Room).slots) T 14 #[.val (.ref a1), .val (.long cnt), .second] [] := by
    intro f
    induction f with
    | zero =>
      intro T h cnt rem b hf hc Ws X
      obtain ⟨wf, mf, grp, gl, wd, g1, ω, Wn, hg1, hω, I, hrem, hS⟩ := Ws
      obtain ⟨E_a1, F_a1_words, F_a1_marked, F_a1_first, F_a1_last, F_a1_group, F_a1_groupLeft, F_a1_word, F_a1_wordLeft, A_wa, A_ma, ga, gwa, gma, ne_wa_a1, ne_ma_a1, ne_wa_ma⟩ := Wn
      refine r_aloadN 15 X d6_14 rfl rfl ?_
      refine r_private 18 X (st := []) (a := a1) (rmWord l Z a0 hw n0 _ X.sz a1 wa ma n G fi la rem b zG hzG hG4 hGn ⟨_, _, _, _, _, _, _, ⟨E_a1, F_a1_words, F_a1_marked, F_a1_first, F_a1_last, F_a1_group, F_a1_groupLeft, F_a1_word, F_a1_wordLeft, A_wa, A_ma, ga, gwa, gma, ne_wa_a1, ne_ma_a1, ne_wa_ma⟩, hg1, hω, I, hrem, hS⟩) E_a1 (hw _ (List.mem_of_getElem? (i := 56) rfl)) (hw _ (List.mem_of_getElem? (i := 57) rfl)) (hw _ (List.mem_of_getElem? (i := 3) rfl)) (hw _ (List.mem_of_getElem? (i := 58) rfl)) (hw _ (List.mem_of_getElem? (i := 59) rfl)) (hw _ (List.mem_of_getElem? (i := 4) rfl)) (by decide) pd_2 [] rfl rfl 0 (Nat.le_of_eq rfl) rfl (by decide) (by decide) (by decide) (by decide) d6_15 ?_
      rintro T h3 v3 ⟨r3, rfl, hr3⟩ X
      change Run _ _ _ _ _ _ _ _ [(.int r3)]
      rcases hr3 with ⟨rfl, wl', b', hb, Ws'⟩ | ⟨rfl, hno, -, Cl⟩
      · refine r_ifN 21 X d6_18 (by decide) ?_
        exfalso
        obtain ⟨_, _, _, _, _, _, _, _, _, _, I', _, _⟩ := Ws'
        have := I'.2.2.1
        omega
      · refine r_ifY 40 X d6_18 (by decide) ?_
        obtain rfl : cnt = 1 := by
          rcases hc with ⟨-, q⟩ | ⟨q, -⟩
          · exact absurd ((q α).mpr rfl) (hno α)
          · exact q
        refine r_lloadN 41 X d6_40 rfl ?_
        refine r_retJ X d6_41 (by decide) (by decide) ?_
        exact ⟨rfl, Cl⟩
    | succ f ih =>
      intro T h cnt rem b hf hc Ws X
      obtain ⟨wf, mf, grp, gl, wd, g1, ω, Wn, hg1, hω, I, hrem, hS⟩ := Ws
      obtain ⟨E_a1, F_a1_words, F_a1_marked, F_a1_first, F_a1_last, F_a1_group, F_a1_groupLeft, F_a1_word, F_a1_wordLeft, A_wa, A_ma, ga, gwa, gma, ne_wa_a1, ne_ma_a1, ne_wa_ma⟩ := Wn
      refine r_aloadN 15 X d6_14 rfl rfl ?_
      refine r_private 18 X (st := []) (a := a1) (rmWord l Z a0 hw n0 _ X.sz a1 wa ma n G fi la rem b zG hzG hG4 hGn ⟨_, _, _, _, _, _, _, ⟨E_a1, F_a1_words, F_a1_marked, F_a1_first, F_a1_last, F_a1_group, F_a1_groupLeft, F_a1_word, F_a1_wordLeft, A_wa, A_ma, ga, gwa, gma, ne_wa_a1, ne_ma_a1, ne_wa_ma⟩, hg1, hω, I, hrem, hS⟩) E_a1 (hw _ (List.mem_of_getElem? (i := 56) rfl)) (hw _ (List.mem_of_getElem? (i := 57) rfl)) (hw _ (List.mem_of_getElem? (i := 3) rfl)) (hw _ (List.mem_of_getElem? (i := 58) rfl)) (hw _ (List.mem_of_getElem? (i := 59) rfl)) (hw _ (List.mem_of_getElem? (i := 4) rfl)) (by decide) pd_2 [] rfl rfl 0 (Nat.le_of_eq rfl) rfl (by decide) (by decide) (by decide) (by decide) d6_15 ?_
      rintro T h4 v4 ⟨r4, rfl, hr4⟩ X
      change Run _ _ _ _ _ _ _ _ [(.int r4)]
      rcases hr4 with ⟨rfl, wl', b', hb, Ws'⟩ | ⟨rfl, hno, -, Cl⟩
      · refine r_ifN 21 X d6_18 (by decide) ?_
        obtain ⟨wf, mf, grp, gl, wd, g1, ω, Wn, hg1, hω, I, hrem, hS⟩ := Ws'
        obtain ⟨E_a1, F_a1_words, F_a1_marked, F_a1_first, F_a1_last, F_a1_group, F_a1_groupLeft, F_a1_word, F_a1_wordLeft, A_wa, A_ma, ga, gwa, gma, ne_wa_a1, ne_ma_a1, ne_wa_ma⟩ := Wn
        refine r_lloadN 22 X d6_21 rfl ?_
        refine r_aloadN 23 X d6_22 rfl rfl ?_
        refine r_getfield 26 X (host := "") (Or.inl (hw _ (List.mem_of_getElem? (i := 31) rfl))) Via.refl F_a1_wordLeft d6_23 ?_
        intro T X
        refine r_callS 29 X (st := [(.long cnt)]) (rmBc l Z a0 hw n0 _ X.sz wl') (hw _ (List.mem_of_getElem? (i := 49) rfl)) (hw _ (List.mem_of_getElem? (i := 50) rfl)) (hw _ (List.mem_of_getElem? (i := 52) rfl)) (hw _ (List.mem_of_getElem? (i := 51) rfl)) (by decide) pd_1 [(.long wl')] rfl rfl 2 (Nat.le_of_eq rfl) rfl (by decide) (by decide) (by decide) (by decide) d6_26 ?_
        rintro T h5 v5 ⟨rfl, rfl⟩ X
        change Run _ _ _ _ _ _ _ _ [(.int (bcV wl')), (.long cnt)]
        refine r_i2l 30 X d6_29 ?_
        refine r_ladd 31 X d6_30 ?_
        refine r_lstoreN 32 X #[.val (.ref a1), .val (.long (cnt + ((bcV wl').toInt64))), .second] d6_31 rfl ?_
        refine r_aloadN 33 X d6_32 rfl rfl ?_
        refine r_lconst 34 X (0 : Int64) d6_33 rfl ?_
        refine r_putfield 37 X (host := "") (Or.inl (hw _ (List.mem_of_getElem? (i := 31) rfl))) Via.refl F_a1_wordLeft E_a1 (Or.inl (hw _ (List.mem_of_getElem? (i := 32) rfl))) (hw _ (List.mem_of_getElem? (i := 3) rfl)) (ty := .long) (by decide) rfl rfl ga d6_34 ?_
        intro T h6 W6 X
        have E_a1 := E_a1.wr W6
        have F_a1_words := F_a1_words.other W6 (Or.inr (slot_ne (Or.inr (hw _ (List.mem_of_getElem? (i := 15) rfl))) (Or.inl (hw _ (List.mem_of_getElem? (i := 32) rfl))) (by decide) (t := (.array .long)) (t' := .long) (by decide) (by decide)))
        have F_a1_marked := F_a1_marked.other W6 (Or.inr (slot_ne (Or.inr (hw _ (List.mem_of_getElem? (i := 17) rfl))) (Or.inl (hw _ (List.mem_of_getElem? (i := 32) rfl))) (by decide) (t := (.array .long)) (t' := .long) (by decide) (by decide)))
        have F_a1_first := F_a1_first.other W6 (Or.inr (slot_ne (Or.inl (hw _ (List.mem_of_getElem? (i := 25) rfl))) (Or.inl (hw _ (List.mem_of_getElem? (i := 32) rfl))) (by decide) (t := .long) (t' := .long) (by decide) (by decide)))
        have F_a1_last := F_a1_last.other W6 (Or.inr (slot_ne (Or.inl (hw _ (List.mem_of_getElem? (i := 28) rfl))) (Or.inl (hw _ (List.mem_of_getElem? (i := 32) rfl))) (by decide) (t := .long) (t' := .long) (by decide) (by decide)))
        have F_a1_group := F_a1_group.other W6 (Or.inr (slot_ne (Or.inl (hw _ (List.mem_of_getElem? (i := 12) rfl))) (Or.inl (hw _ (List.mem_of_getElem? (i := 32) rfl))) (by decide) (t := .int) (t' := .long) (by decide) (by decide)))
        have F_a1_groupLeft := F_a1_groupLeft.other W6 (Or.inr (slot_ne (Or.inl (hw _ (List.mem_of_getElem? (i := 30) rfl))) (Or.inl (hw _ (List.mem_of_getElem? (i := 32) rfl))) (by decide) (t := .long) (t' := .long) (by decide) (by decide)))
        have F_a1_word := F_a1_word.other W6 (Or.inr (slot_ne (Or.inl (hw _ (List.mem_of_getElem? (i := 69) rfl))) (Or.inl (hw _ (List.mem_of_getElem? (i := 32) rfl))) (by decide) (t := .int) (t' := .long) (by decide) (by decide)))
        have F_a1_wordLeft := F_a1_wordLeft.same W6
        have A_wa := A_wa.other W6 ne_wa_a1
        have A_ma := A_ma.other W6 ne_ma_a1
        refine r_goto 14 X d6_37 ?_
        have hD := win_drop (wf := wf) I (Classical.or_iff_not_imp_left.mpr fun q => I.2.2.2.2.2 q)
        exact ih _ _ _ _ b' (by omega) (own_cnt I hrem hc) ⟨_, _, _, _, _, _, _, ⟨E_a1, F_a1_words, F_a1_marked, F_a1_first, F_a1_last, F_a1_group, F_a1_groupLeft, F_a1_word, F_a1_wordLeft, A_wa, A_ma, ga, gwa, gma, ne_wa_a1, ne_ma_a1, ne_wa_ma⟩, hg1, hω, hD.1, fun k => by show (rem k ∧ _) ↔ _; rw [hD.2 k, hrem k], hS⟩ X
      · refine r_ifY 40 X d6_18 (by decide) ?_
        obtain rfl : cnt = 1 := by
          rcases hc with ⟨-, q⟩ | ⟨q, -⟩
          · exact absurd ((q α).mpr rfl) (hno α)
          · exact q
        refine r_lloadN 41 X d6_40 rfl ?_
        refine r_retJ X d6_41 (by decide) (by decide) ?_
        exact ⟨rfl, Cl⟩
  exact loop n _ _ _ rem b (by omega) (Or.inl ⟨by rw [bcV_zero]; rfl, hα⟩) ⟨_, _, _, _, _, _, _, ⟨E_a1, F_a1_words, F_a1_marked, F_a1_first, F_a1_last, F_a1_group, F_a1_groupLeft, F_a1_word, F_a1_wordLeft, A_wa, A_ma, ga, gwa, gma, ne_wa_a1, ne_ma_a1, ne_wa_ma⟩, hg1, hω, I, hrem, hS⟩ X
theorem own_size (x : Int32) : ∃ (z : Int32) (n : Nat), 1 + (x &&& 255) = z ∧ z.toInt = (n : Int) ∧ 1 ≤ n ∧ n ≤ 256 := by
  have h1 := c_mask x 255 8 (by decide) (by decide)
  have h3 := c_iadd 1 (x &&& 255)
  have h4 := rng32 (1 + (x &&& 255))
  have h5 : (1 : Int32).toInt = 1 := rfl
  exact ⟨_, (1 + (x &&& 255)).toInt.toNat, rfl, by omega, by omega, by omega⟩
theorem own_from (x : Int64) : ∃ f : Int64, (x &&& 9223372036854775744) = f ∧ 0 ≤ f.toInt := ⟨_, rfl, (c_andSL x 9223372036854775744).2.2 (by decide)⟩
theorem own_span {z : Int32} {n : Nat} (h : z.toInt = (n : Int)) (hn : n ≤ 256) : ∃ s : Int64, z.toInt64 * 64 - 1 = s ∧ s.toInt = 64 * (n : Int) - 1 := by
  have a1 := c_i2l z
  have a2 := c_lmul z.toInt64 64
  have e64 : (64 : Int64).toInt = 64 := rfl
  have r1 := rng64 (z.toInt64 * 64)
  have a3 := c_lsub (z.toInt64 * 64) 1
  have e1 : (1 : Int64).toInt = 1 := rfl
  have r2 := rng64 (z.toInt64 * 64 - 1)
  rw [e64, a1, h] at a2
  exact ⟨_, rfl, by omega⟩
theorem own_el {f s : Int64} {n : Nat} (hf : 0 ≤ f.toInt) (hs : s.toInt = 64 * (n : Int) - 1) (h1 : 1 ≤ n) (hn : n ≤ 256) : ∃ g : Int64, elV f s - f + 1 = g ∧ 1 ≤ g.toInt ∧ g.toInt ≤ 64 * (n : Int) ∧ f.toInt + g.toInt ≤ 9223372036854775808 := by
  have a1 := c_ladd f s
  have r0 := rng64 f
  have r1 := rng64 (f + s)
  have e0 : (0 : Int64).toInt = 0 := rfl
  have e1 : (1 : Int64).toInt = 1 := rfl
  have e2 : (9223372036854775807 : Int64).toInt = 9223372036854775807 := rfl
  have a2 := c_lsub (elV f s) f
  have r2 := rng64 (elV f s - f)
  have a3 := c_ladd (elV f s - f) 1
  have r3 := rng64 (elV f s - f + 1)
  refine ⟨_, rfl, ?_⟩
  have key : (elV f s).toInt = if f.toInt + s.toInt < 9223372036854775808 then f.toInt + s.toInt else 9223372036854775807 := by
    unfold elV
    split
    · rename_i q; rw [Int64.lt_iff_toInt_lt] at q; rw [if_neg (by omega)]; rfl
    · rename_i q; rw [Int64.lt_iff_toInt_lt] at q; rw [if_pos (by omega)]; omega
  split at key <;> omega
theorem own_last {f s : Int64} {n : Nat} (m : Nat) (hf : 0 ≤ f.toInt) (hs : s.toInt = 64 * (n : Int) - 1) (h1 : 1 ≤ n) (hn : n ≤ 256) : lastV m f s = elV f s := by
  have a1 := c_ladd f s
  have r0 := rng64 f
  have r1 := rng64 (f + s)
  have a2 := c_lsub 9223372036854775807 s
  have r2 := rng64 (9223372036854775807 - s)
  have e0 : (0 : Int64).toInt = 0 := rfl
  have e2 : (9223372036854775807 : Int64).toInt = 9223372036854775807 := rfl
  unfold lastV elV
  by_cases q : (9223372036854775807 : Int64) - s < f
  · rw [if_pos q, if_pos]
    rw [Int64.lt_iff_toInt_lt] at q ⊢
    omega
  · rw [if_neg q, if_neg]
    rw [Int64.lt_iff_toInt_lt] at q ⊢
    omega
theorem own_off (x : Int64) {g : Int64} (h : 1 ≤ g.toInt) : ∃ (d : Int64) (α : Nat), (x &&& 2147483647) % g = d ∧ d.toInt = (α : Int) ∧ (α : Int) < g.toInt := by
  have h1 := c_maskL x 2147483647 31 (by decide) (by decide)
  have h2 := (c_lrem (x &&& 2147483647) g g.toInt rfl).1 (by omega)
  rw [lrem_mod] at h2
  have h3 := Int.emod_nonneg (x &&& 2147483647).toInt (show g.toInt ≠ 0 by omega)
  have h4 := Int.emod_lt_of_pos (x &&& 2147483647).toInt (show 0 < g.toInt by omega)
  exact ⟨_, ((x &&& 2147483647) % g).toInt.toNat, rfl, by omega, by omega⟩
theorem own_sum {f d g : Int64} {α : Nat} (hd : d.toInt = (α : Int)) (hα : (α : Int) < g.toInt) (hf : 0 ≤ f.toInt) (hg : f.toInt + g.toInt ≤ 9223372036854775808) : ∃ a : Int64, f + d = a ∧ a.toInt = f.toInt + α ∧ a = f + Int64.ofNat α := by
  have a1 := c_ladd f d
  have r1 := rng64 (f + d)
  have e : d = Int64.ofNat α := Int64.toInt_inj.mp (by rw [hd]; exact (Int64.toInt_ofNat_of_lt (by have := rng64 d; omega)).symm)
  exact ⟨_, rfl, by omega, by rw [e]⟩
theorem own_start {n G α ω : Nat} {wf1 mf1 : Nat → Int64} (hG : G = (n + 63) / 64) (hα : α < 64 * n)
    (w1 : ∀ i j, j < 64 → bt (wf1 i) j = (bt ((fun _ => (0 : Int64)) i) j || decide (i = α / 64 ∧ j = α % 64))) (m1 : ∀ i j, j < 64 → bt (mf1 i) j = (bt ((fun _ => (0 : Int64)) i) j || decide (i = α / 4096 ∧ j = α / 64 % 64))) :
    WInv n G 0 0 mf1 ω 0 0 ∧ (∀ k, k = α ↔ remP 0 G 0 mf1 wf1 ω 0 k) ∧ Str n G 0 0 mf1 wf1 := by
  have w3 : ∀ i j, j < 64 → (bt (wf1 i) j = true ↔ (i = α / 64 ∧ j = α % 64)) := fun i j hj => by rw [w1 i j hj]; simp [bt_zero]
  have m3 : ∀ i j, j < 64 → (bt (mf1 i) j = true ↔ (i = α / 4096 ∧ j = α / 64 % 64)) := fun i j hj => by rw [m1 i j hj]; simp [bt_zero]
  refine ⟨⟨by omega, by omega, by omega, (fun w hw h => by rw [bt_zero] at h; cases h), fun g w h1 h2 h3 h4 => ?_, fun q => absurd rfl q⟩, fun k => ?_, fun g _ h => absurd h (by omega), fun i j hi hj hb => ?_⟩
  · obtain ⟨q1, q2⟩ := (m3 g w h3).mp h4; omega
  · unfold remP
    have k1 : k % 64 < 64 := Nat.mod_lt _ (by decide)
    have k2 : k / 64 % 64 < 64 := Nat.mod_lt _ (by decide)
    simp only [bt_zero, Bool.false_eq_true, and_false, false_and, false_or, w3 _ _ k1, m3 _ _ k2]
    constructor
    · rintro rfl; exact ⟨by omega, by omega, ⟨rfl, rfl⟩, rfl, rfl⟩
    · rintro ⟨-, -, -, q1, q2⟩; omega
  · obtain ⟨q1, q2⟩ := (w3 i j hj).mp hb
    exact Or.inr ⟨by omega, (m3 _ _ (Nat.mod_lt _ (by decide))).mpr ⟨by omega, by omega⟩⟩
theorem WS.congr {Z : State} {h : Heap} {n0 : Nat} {a wa ma : Addr} {n G : Nat} {first last : Int64} {rem rem' : Nat → Prop} (W : WS Z h n0 a wa ma n G first last rem) (q : ∀ k, rem' k ↔ rem k) : WS Z h n0 a wa ma n G first last rem' := by
  obtain ⟨wl, b, wf, mf, grp, gl, wd, g1, ω, w, h1, h2, h3, h4, h5⟩ := W
  exact ⟨wl, b, wf, mf, grp, gl, wd, g1, ω, w, h1, h2, h3, fun k => (q k).trans (h4 k), h5⟩
theorem own_n1 {Z : State} {h : Heap} {n0 : Nat} {a wa ma : Addr} {n G β : Nat} {fi la r : Int64}
    (hr : (∃ k, (k = β) ∧ (∀ j, j < k → ¬ (j = β)) ∧ r = fi + Int64.ofNat k ∧ WS Z h n0 a wa ma n G fi la (fun j => (j = β) ∧ j ≠ k)) ∨ ((∀ k, ¬ (k = β)) ∧ r = -1 ∧ WS Z h n0 a wa ma n G fi la (fun j => j = β))) :
    r = fi + Int64.ofNat β ∧ WS Z h n0 a wa ma n G fi la (fun _ => False) := by
  rcases hr with ⟨k, rfl, h2, h3, h4⟩ | ⟨h1, -⟩
  · exact ⟨h3, h4.congr fun j => by simp⟩
  · exact absurd rfl (h1 β)
theorem own_n3 {Z : State} {h : Heap} {n0 : Nat} {a wa ma : Addr} {n G : Nat} {fi la r : Int64}
    (hr : (∃ k, False ∧ (∀ j, j < k → ¬ False) ∧ r = fi + Int64.ofNat k ∧ WS Z h n0 a wa ma n G fi la (fun j => False ∧ j ≠ k)) ∨ ((∀ k : Nat, ¬ False) ∧ r = -1 ∧ WS Z h n0 a wa ma n G fi la (fun _ => False))) : r = -1 := by
  rcases hr with ⟨k, h1, -⟩ | ⟨-, h2, -⟩
  · exact h1.elim
  · exact h2
theorem pn_0 : plainName "com/example/skiprail/skiprail/lists/WindowOpenPinLaw" = true := by first | (simp [plainName, overriddenIn]; done) | decide +kernel
theorem ef_0 (m : MethodId) (x0 : Int32) (x1 : Int64) (x2 : Int64) (x3 : Int64) (x4 : Int64) : entryFrame m #[(.int x0), (.long x1), (.long x2), (.long x3), (.long x4)] maxLocals = mkF m 0 #[.val (.int x0), .val (.long x1), .second, .val (.long x2), .second, .val (.long x3), .second, .val (.long x4), .second, .unset, .unset, .unset, .unset, .unset, .unset, .unset, .unset, .unset, .unset, .unset, .unset, .unset, .unset, .unset, .unset, .unset, .unset, .unset, .unset] [] := by first | (simp [entryFrame, mkF, argsToLocals, Value.category, maxLocals]; done) | rfl
set_option maxRecDepth 65536 in
set_option maxHeartbeats 40000000 in
theorem rm0 (l : Launch) (Z : State) (a0 : Array Value) (hw : ∀ d ∈ tables_1, d.before a0 Z = true) (n0 : Nat) (h : Heap) (Z0 : n0 ≤ h.size) (p0 : Int32) (q1 : Int64) (q2 : Int64) (q3 : Int64) (q4 : Int64)  :
    Met1 l Z n0 tables_1 x code maxLocals ret room_1 #[(.int p0), (.long q1), (.long q2), (.long q3), (.long q4)] h (fun v h' => v = some (.int 1)) := by
  refine met_of (plainFor_of_name pn_0) Z0 (fun m => ef_0 m p0 q1 q2 q3 q4) ?_
  intro p e s m below meth c T hs0 X
  refine r_iconst 1 X (1 : Int32) at_0 rfl ?_
  refine r_iloadN 2 X at_1 rfl ?_
  refine r_sipush 5 X (255 : Int32) at_2 rfl ?_
  refine r_iand 6 X at_5 ?_
  refine r_iadd 7 X at_6 ?_
  obtain ⟨z, n, ez, hz, hn1, hn⟩ := own_size p0
  refine r_topI ez ?_
  refine r_istore 9 X #[.val (.int p0), .val (.long q1), .second, .val (.long q2), .second, .val (.long q3), .second, .val (.long q4), .second, .val (.int z), .unset, .unset, .unset, .unset, .unset, .unset, .unset, .unset, .unset, .unset, .unset, .unset, .unset, .unset, .unset, .unset, .unset, .unset, .unset] at_7 rfl ?_
  refine r_iload 11 X at_9 rfl ?_
  refine r_i2l 12 X at_11 ?_
  refine r_ldc2Long 15 X (hw _ (List.mem_of_getElem? (i := 0) rfl)) at_12 ?_
  refine r_lmul 16 X at_15 ?_
  refine r_lconst 17 X (1 : Int64) at_16 rfl ?_
  refine r_lsub 18 X at_17 ?_
  obtain ⟨sp, esp, hsp⟩ := own_span hz hn
  refine r_topJ esp ?_
  refine r_lstore 20 X #[.val (.int p0), .val (.long q1), .second, .val (.long q2), .second, .val (.long q3), .second, .val (.long q4), .second, .val (.int z), .val (.long sp), .second, .unset, .unset, .unset, .unset, .unset, .unset, .unset, .unset, .unset, .unset, .unset, .unset, .unset, .unset, .unset, .unset, .unset] at_18 rfl ?_
  refine r_lloadN 21 X at_20 rfl ?_
  refine r_ldc2Long 24 X (hw _ (List.mem_of_getElem? (i := 1) rfl)) at_21 ?_
  refine r_land 25 X at_24 ?_
  obtain ⟨fa, efa, hfa⟩ := own_from q1
  refine r_topJ efa ?_
  refine r_lstore 27 X #[.val (.int p0), .val (.long q1), .second, .val (.long q2), .second, .val (.long q3), .second, .val (.long q4), .second, .val (.int z), .val (.long sp), .second, .val (.long fa), .second, .unset, .unset, .unset, .unset, .unset, .unset, .unset, .unset, .unset, .unset, .unset, .unset, .unset, .unset, .unset] at_25 rfl ?_
  refine r_lloadN 28 X at_27 rfl ?_
  refine r_ldc2Long 31 X (hw _ (List.mem_of_getElem? (i := 1) rfl)) at_28 ?_
  refine r_land 32 X at_31 ?_
  obtain ⟨fr, efr, hfr⟩ := own_from q2
  refine r_topJ efr ?_
  refine r_lstore 34 X #[.val (.int p0), .val (.long q1), .second, .val (.long q2), .second, .val (.long q3), .second, .val (.long q4), .second, .val (.int z), .val (.long sp), .second, .val (.long fa), .second, .val (.long fr), .second, .unset, .unset, .unset, .unset, .unset, .unset, .unset, .unset, .unset, .unset, .unset, .unset, .unset] at_32 rfl ?_
  refine r_new 37 X (hw _ (List.mem_of_getElem? (i := 2) rfl)) (hw _ (List.mem_of_getElem? (i := 3) rfl)) (hw _ (List.mem_of_getElem? (i := 4) rfl)) at_34 (by decide) (by decide) ?_
  intro T h1 b1 g1 gn_b1 E1 A1 D1 X
  have E_b1 := A1
  have F_b1_group : Fld Z h1 b1 "com/example/skiprail/skiprail/lists/Window" "group" "I" (.int (0 : Int32)) := D1 (Or.inl (hw _ (List.mem_of_getElem? (i := 12) rfl))) (ty := .int) (by decide)
  have F_b1_words : Fld Z h1 b1 "com/example/skiprail/skiprail/lists/Window" "words" "[J" .null := D1 (Or.inr (hw _ (List.mem_of_getElem? (i := 15) rfl))) (ty := (.array .long)) (by decide)
  have F_b1_marked : Fld Z h1 b1 "com/example/skiprail/skiprail/lists/Window" "marked" "[J" .null := D1 (Or.inr (hw _ (List.mem_of_getElem? (i := 17) rfl))) (ty := (.array .long)) (by decide)
  have F_b1_first : Fld Z h1 b1 "com/example/skiprail/skiprail/lists/Window" "first" "J" (.long (0 : Int64)) := D1 (Or.inl (hw _ (List.mem_of_getElem? (i := 25) rfl))) (ty := .long) (by decide)
  have F_b1_last : Fld Z h1 b1 "com/example/skiprail/skiprail/lists/Window" "last" "J" (.long (0 : Int64)) := D1 (Or.inl (hw _ (List.mem_of_getElem? (i := 28) rfl))) (ty := .long) (by decide)
  have F_b1_groupLeft : Fld Z h1 b1 "com/example/skiprail/skiprail/lists/Window" "groupLeft" "J" (.long (0 : Int64)) := D1 (Or.inl (hw _ (List.mem_of_getElem? (i := 30) rfl))) (ty := .long) (by decide)
  have F_b1_wordLeft : Fld Z h1 b1 "com/example/skiprail/skiprail/lists/Window" "wordLeft" "J" (.long (0 : Int64)) := D1 (Or.inl (hw _ (List.mem_of_getElem? (i := 32) rfl))) (ty := .long) (by decide)
  have F_b1_word : Fld Z h1 b1 "com/example/skiprail/skiprail/lists/Window" "word" "I" (.int (0 : Int32)) := D1 (Or.inl (hw _ (List.mem_of_getElem? (i := 69) rfl))) (ty := .int) (by decide)
  refine r_dup 38 X at_37 rfl ?_
  refine r_iload 40 X at_38 rfl ?_
  refine r_special 43 X (st := [(.ref b1)]) (a := b1) (rmIni l Z a0 hw n0 _ X.sz b1 z n hz hn E_b1 F_b1_words F_b1_marked F_b1_first F_b1_last F_b1_group F_b1_groupLeft F_b1_word F_b1_wordLeft gn_b1) rfl rfl (hw _ (List.mem_of_getElem? (i := 5) rfl)) (hw _ (List.mem_of_getElem? (i := 6) rfl)) (hw _ (List.mem_of_getElem? (i := 7) rfl)) (hw _ (List.mem_of_getElem? (i := 4) rfl)) (by decide) pd_3 [(.int z)] rfl rfl 1 (Nat.le_of_eq rfl) rfl (by decide) (by decide) (by decide) (by decide) at_40 ?_
  rintro T h2 v2 ⟨rfl, wa, ma, Wn⟩ X
  have E_b1 := Wn.1
  change Run _ _ _ _ _ _ _ _ [(.ref b1)]
  refine r_astore 45 X #[.val (.int p0), .val (.long q1), .second, .val (.long q2), .second, .val (.long q3), .second, .val (.long q4), .second, .val (.int z), .val (.long sp), .second, .val (.long fa), .second, .val (.long fr), .second, .val (.ref b1), .unset, .unset, .unset, .unset, .unset, .unset, .unset, .unset, .unset, .unset, .unset, .unset] at_43 rfl rfl ?_
  refine r_aload 47 X at_45 rfl rfl ?_
  refine r_lload 49 X at_47 rfl ?_
  refine r_virtual 52 X (st := []) (a := b1) (rmOpen l Z a0 hw n0 _ X.sz b1 wa ma n ((n + 63) / 64) _ _ fa _ _ _ _ _ _ z hz Wn) E_b1 (hw _ (List.mem_of_getElem? (i := 18) rfl)) (hw _ (List.mem_of_getElem? (i := 19) rfl)) (hw _ (List.mem_of_getElem? (i := 21) rfl)) (hw _ (List.mem_of_getElem? (i := 21) rfl)) (hw _ (List.mem_of_getElem? (i := 20) rfl)) (hw _ (List.mem_of_getElem? (i := 22) rfl)) (hw _ (List.mem_of_getElem? (i := 4) rfl)) (by decide) pd_4 [(.long fa)] rfl rfl 0 (Nat.le_of_eq rfl) rfl (by decide) (by decide) (by decide) (by decide) at_49 ?_
  rintro T h3 v3 ⟨rfl, Wn⟩ X
  rw [esp, own_last n hfa hsp hn1 hn] at Wn
  have E_b1 := Wn.1
  change Run _ _ _ _ _ _ _ _ []
  refine r_lload 54 X at_52 rfl ?_
  refine r_lload 56 X at_54 rfl ?_
  refine r_callS 59 X (st := []) (rmEl l Z a0 hw n0 _ X.sz fa sp) (hw _ (List.mem_of_getElem? (i := 33) rfl)) (hw _ (List.mem_of_getElem? (i := 34) rfl)) (hw _ (List.mem_of_getElem? (i := 36) rfl)) (hw _ (List.mem_of_getElem? (i := 35) rfl)) (by decide) pd_5 [(.long fa), (.long sp)] rfl rfl 0 (Nat.le_of_eq rfl) rfl (by decide) (by decide) (by decide) (by decide) at_56 ?_
  rintro T h4 v4 ⟨rfl, rfl⟩ X
  change Run _ _ _ _ _ _ _ _ [(.long (elV fa sp))]
  refine r_lstore 61 X #[.val (.int p0), .val (.long q1), .second, .val (.long q2), .second, .val (.long q3), .second, .val (.long q4), .second, .val (.int z), .val (.long sp), .second, .val (.long fa), .second, .val (.long fr), .second, .val (.ref b1), .val (.long (elV fa sp)), .second, .unset, .unset, .unset, .unset, .unset, .unset, .unset, .unset, .unset, .unset] at_59 rfl ?_
  refine r_lload 63 X at_61 rfl ?_
  refine r_ldc2Long 66 X (hw _ (List.mem_of_getElem? (i := 37) rfl)) at_63 ?_
  refine r_land 67 X at_66 ?_
  refine r_lload 69 X at_67 rfl ?_
  refine r_lload 71 X at_69 rfl ?_
  refine r_lsub 72 X at_71 ?_
  refine r_lconst 73 X (1 : Int64) at_72 rfl ?_
  refine r_ladd 74 X at_73 ?_
  obtain ⟨ga, ega, hga1, hga2, hga3⟩ := own_el hfa hsp hn1 hn
  refine r_topJ ega ?_
  refine r_lrem 75 X at_74 (fun y => by subst y; exact absurd hga1 (by decide)) ?_
  obtain ⟨dA, α, edA, hdA, hα⟩ := own_off q3 hga1
  refine r_topJ edA ?_
  refine r_lstore 77 X #[.val (.int p0), .val (.long q1), .second, .val (.long q2), .second, .val (.long q3), .second, .val (.long q4), .second, .val (.int z), .val (.long sp), .second, .val (.long fa), .second, .val (.long fr), .second, .val (.ref b1), .val (.long (elV fa sp)), .second, .val (.long dA), .second, .unset, .unset, .unset, .unset, .unset, .unset, .unset, .unset] at_75 rfl ?_
  refine r_aload 79 X at_77 rfl rfl ?_
  refine r_lload 81 X at_79 rfl ?_
  refine r_lload 83 X at_81 rfl ?_
  refine r_ladd 84 X at_83 ?_
  obtain ⟨A, eA, hA, hA'⟩ := own_sum hdA hα hfa hga3
  refine r_topJ eA ?_
  refine r_virtual 87 X (st := []) (a := b1) (rmMark l Z a0 hw n0 _ X.sz b1 wa ma n ((n + 63) / 64) fa (elV fa sp) A _ _ _ _ _ _ α (by rw [hA]; omega) (by omega) (by omega) rfl Wn) E_b1 (hw _ (List.mem_of_getElem? (i := 38) rfl)) (hw _ (List.mem_of_getElem? (i := 39) rfl)) (hw _ (List.mem_of_getElem? (i := 41) rfl)) (hw _ (List.mem_of_getElem? (i := 41) rfl)) (hw _ (List.mem_of_getElem? (i := 40) rfl)) (hw _ (List.mem_of_getElem? (i := 42) rfl)) (hw _ (List.mem_of_getElem? (i := 4) rfl)) (by decide) pd_4 [(.long A)] rfl rfl 0 (Nat.le_of_eq rfl) rfl (by decide) (by decide) (by decide) (by decide) at_84 ?_
  rintro T h5 v5 ⟨rfl, wf1, mf1, Wn, hw1, hm1⟩ X
  have E_b1 := Wn.1
  change Run _ _ _ _ _ _ _ _ []
  refine r_aload 89 X at_87 rfl rfl ?_
  refine r_virtual 92 X (st := []) (a := b1) (rmCount l Z a0 hw n0 _ X.sz b1 wa ma n ((n + 63) / 64) fa (elV fa sp) (fun k => k = α) 0 α (Int32.ofNat ((n + 63) / 64))  (fun _ => Iff.rfl) (natI _ (by omega)) (by omega) rfl ⟨wf1, mf1, -1, 0, 0, 0, 0, Wn, rfl, rfl, own_start rfl (by omega) hw1 hm1⟩) E_b1 (hw _ (List.mem_of_getElem? (i := 44) rfl)) (hw _ (List.mem_of_getElem? (i := 45) rfl)) (hw _ (List.mem_of_getElem? (i := 47) rfl)) (hw _ (List.mem_of_getElem? (i := 47) rfl)) (hw _ (List.mem_of_getElem? (i := 46) rfl)) (hw _ (List.mem_of_getElem? (i := 48) rfl)) (hw _ (List.mem_of_getElem? (i := 4) rfl)) (by decide) pd_6 [] rfl rfl 0 (Nat.le_of_eq rfl) rfl (by decide) (by decide) (by decide) (by decide) at_89 ?_
  rintro T h6 v6 ⟨rfl, grp, gl, wd, ω, Wn, hω⟩ X
  have E_b1 := Wn.1
  change Run _ _ _ _ _ _ _ _ [(.long (1 : Int64))]
  refine r_lconst 93 X (1 : Int64) at_92 rfl ?_
  refine r_lcmp 94 X at_93 ?_
  refine r_ifY 99 X at_94 ((if0 _ _).trans (teq ((lw_eq _ _).mpr rfl)).1) ?_
  refine r_aload 101 X at_99 rfl rfl ?_
  refine r_lload 103 X at_101 rfl ?_
  refine r_virtual 106 X (st := []) (a := b1) (rmOpen l Z a0 hw n0 _ X.sz b1 wa ma n ((n + 63) / 64) _ _ fr _ _ _ _ _ _ z hz Wn) E_b1 (hw _ (List.mem_of_getElem? (i := 18) rfl)) (hw _ (List.mem_of_getElem? (i := 19) rfl)) (hw _ (List.mem_of_getElem? (i := 21) rfl)) (hw _ (List.mem_of_getElem? (i := 21) rfl)) (hw _ (List.mem_of_getElem? (i := 20) rfl)) (hw _ (List.mem_of_getElem? (i := 22) rfl)) (hw _ (List.mem_of_getElem? (i := 4) rfl)) (by decide) pd_4 [(.long fr)] rfl rfl 0 (Nat.le_of_eq rfl) rfl (by decide) (by decide) (by decide) (by decide) at_103 ?_
  rintro T h7 v7 ⟨rfl, Wn⟩ X
  rw [esp, own_last n hfr hsp hn1 hn] at Wn
  have E_b1 := Wn.1
  change Run _ _ _ _ _ _ _ _ []
  refine r_lload 108 X at_106 rfl ?_
  refine r_lload 110 X at_108 rfl ?_
  refine r_callS 113 X (st := []) (rmEl l Z a0 hw n0 _ X.sz fr sp) (hw _ (List.mem_of_getElem? (i := 33) rfl)) (hw _ (List.mem_of_getElem? (i := 34) rfl)) (hw _ (List.mem_of_getElem? (i := 36) rfl)) (hw _ (List.mem_of_getElem? (i := 35) rfl)) (by decide) pd_5 [(.long fr), (.long sp)] rfl rfl 0 (Nat.le_of_eq rfl) rfl (by decide) (by decide) (by decide) (by decide) at_110 ?_
  rintro T h8 v8 ⟨rfl, rfl⟩ X
  change Run _ _ _ _ _ _ _ _ [(.long (elV fr sp))]
  refine r_lstore 115 X #[.val (.int p0), .val (.long q1), .second, .val (.long q2), .second, .val (.long q3), .second, .val (.long q4), .second, .val (.int z), .val (.long sp), .second, .val (.long fa), .second, .val (.long fr), .second, .val (.ref b1), .val (.long (elV fa sp)), .second, .val (.long dA), .second, .val (.long (elV fr sp)), .second, .unset, .unset, .unset, .unset, .unset, .unset] at_113 rfl ?_
  refine r_aload 117 X at_115 rfl rfl ?_
  refine r_virtual 120 X (st := []) (a := b1) (rmFirst l Z a0 hw n0 _ X.sz b1 _ Wn.2.2.2.1) E_b1 (hw _ (List.mem_of_getElem? (i := 70) rfl)) (hw _ (List.mem_of_getElem? (i := 71) rfl)) (hw _ (List.mem_of_getElem? (i := 73) rfl)) (hw _ (List.mem_of_getElem? (i := 73) rfl)) (hw _ (List.mem_of_getElem? (i := 72) rfl)) (hw _ (List.mem_of_getElem? (i := 74) rfl)) (hw _ (List.mem_of_getElem? (i := 4) rfl)) (by decide) pd_6 [] rfl rfl 0 (Nat.le_of_eq rfl) rfl (by decide) (by decide) (by decide) (by decide) at_117 ?_
  rintro T h9 v9 ⟨rfl, rfl⟩ X
  change Run _ _ _ _ _ _ _ _ [(.long fr)]
  refine r_lload 122 X at_120 rfl ?_
  refine r_lcmp 123 X at_122 ?_
  refine r_ifN 126 X at_123 ((if0 _ _).trans (teq ((lw_eq _ _).mpr rfl)).2) ?_
  refine r_aload 128 X at_126 rfl rfl ?_
  refine r_virtual 131 X (st := []) (a := b1) (rmLast l Z a0 hw n0 _ X.sz b1 _ Wn.2.2.2.2.1) E_b1 (hw _ (List.mem_of_getElem? (i := 75) rfl)) (hw _ (List.mem_of_getElem? (i := 76) rfl)) (hw _ (List.mem_of_getElem? (i := 78) rfl)) (hw _ (List.mem_of_getElem? (i := 78) rfl)) (hw _ (List.mem_of_getElem? (i := 77) rfl)) (hw _ (List.mem_of_getElem? (i := 79) rfl)) (hw _ (List.mem_of_getElem? (i := 4) rfl)) (by decide) pd_6 [] rfl rfl 0 (Nat.le_of_eq rfl) rfl (by decide) (by decide) (by decide) (by decide) at_128 ?_
  rintro T h10 v10 ⟨rfl, rfl⟩ X
  change Run _ _ _ _ _ _ _ _ [(.long (elV fr sp))]
  refine r_lload 133 X at_131 rfl ?_
  refine r_lcmp 134 X at_133 ?_
  refine r_ifY 139 X at_134 ((if0 _ _).trans (teq ((lw_eq _ _).mpr rfl)).1) ?_
  refine r_lload 141 X at_139 rfl ?_
  refine r_ldc2Long 144 X (hw _ (List.mem_of_getElem? (i := 37) rfl)) at_141 ?_
  refine r_land 145 X at_144 ?_
  refine r_lload 147 X at_145 rfl ?_
  refine r_lload 149 X at_147 rfl ?_
  refine r_lsub 150 X at_149 ?_
  refine r_lconst 151 X (1 : Int64) at_150 rfl ?_
  refine r_ladd 152 X at_151 ?_
  obtain ⟨gb, egb, hgb1, hgb2, hgb3⟩ := own_el hfr hsp hn1 hn
  refine r_topJ egb ?_
  refine r_lrem 153 X at_152 (fun y => by subst y; exact absurd hgb1 (by decide)) ?_
  obtain ⟨dB, β, edB, hdB, hβ⟩ := own_off q4 hgb1
  refine r_topJ edB ?_
  refine r_lstore 155 X #[.val (.int p0), .val (.long q1), .second, .val (.long q2), .second, .val (.long q3), .second, .val (.long q4), .second, .val (.int z), .val (.long sp), .second, .val (.long fa), .second, .val (.long fr), .second, .val (.ref b1), .val (.long (elV fa sp)), .second, .val (.long dA), .second, .val (.long (elV fr sp)), .second, .val (.long dB), .second, .unset, .unset, .unset, .unset] at_153 rfl ?_
  refine r_aload 157 X at_155 rfl rfl ?_
  refine r_lload 159 X at_157 rfl ?_
  refine r_lload 161 X at_159 rfl ?_
  refine r_ladd 162 X at_161 ?_
  obtain ⟨B, eB, hB, hB'⟩ := own_sum hdB hβ hfr hgb3
  refine r_topJ eB ?_
  refine r_virtual 165 X (st := []) (a := b1) (rmMark l Z a0 hw n0 _ X.sz b1 wa ma n ((n + 63) / 64) fr (elV fr sp) B _ _ _ _ _ _ β (by rw [hB]; omega) (by omega) (by omega) rfl Wn) E_b1 (hw _ (List.mem_of_getElem? (i := 38) rfl)) (hw _ (List.mem_of_getElem? (i := 39) rfl)) (hw _ (List.mem_of_getElem? (i := 41) rfl)) (hw _ (List.mem_of_getElem? (i := 41) rfl)) (hw _ (List.mem_of_getElem? (i := 40) rfl)) (hw _ (List.mem_of_getElem? (i := 42) rfl)) (hw _ (List.mem_of_getElem? (i := 4) rfl)) (by decide) pd_4 [(.long B)] rfl rfl 0 (Nat.le_of_eq rfl) rfl (by decide) (by decide) (by decide) (by decide) at_162 ?_
  rintro T h11 v11 ⟨rfl, wf2, mf2, Wn, hw2, hm2⟩ X
  have E_b1 := Wn.1
  change Run _ _ _ _ _ _ _ _ []
  refine r_aload 167 X at_165 rfl rfl ?_
  have Ws : WS Z h11 n0 b1 wa ma n ((n + 63) / 64) fr (elV fr sp) (fun j => j = β) := ⟨0, 0, wf2, mf2, -1, 0, wd, 0, ω, Wn, rfl, hω, own_start rfl (by omega) hw2 hm2⟩
  refine r_virtual 170 X (st := []) (a := b1) (rmNext l Z a0 hw n0 _ X.sz b1 wa ma n ((n + 63) / 64) fr (elV fr sp) (fun j => j = β) (Int32.ofNat ((n + 63) / 64))  (by omega) (natI _ (by omega)) (by omega) rfl Ws) E_b1 (hw _ (List.mem_of_getElem? (i := 80) rfl)) (hw _ (List.mem_of_getElem? (i := 81) rfl)) (hw _ (List.mem_of_getElem? (i := 83) rfl)) (hw _ (List.mem_of_getElem? (i := 83) rfl)) (hw _ (List.mem_of_getElem? (i := 82) rfl)) (hw _ (List.mem_of_getElem? (i := 84) rfl)) (hw _ (List.mem_of_getElem? (i := 4) rfl)) (by decide) pd_6 [] rfl rfl 0 (Nat.le_of_eq rfl) rfl (by decide) (by decide) (by decide) (by decide) at_167 ?_
  rintro T h12 v12 ⟨r12, rfl, hr12⟩ X
  obtain ⟨e1, Ws⟩ := own_n1 hr12
  have E_b1 := Ws.exa
  change Run _ _ _ _ _ _ _ _ [(.long r12)]
  refine r_lstore 172 X #[.val (.int p0), .val (.long q1), .second, .val (.long q2), .second, .val (.long q3), .second, .val (.long q4), .second, .val (.int z), .val (.long sp), .second, .val (.long fa), .second, .val (.long fr), .second, .val (.ref b1), .val (.long (elV fa sp)), .second, .val (.long dA), .second, .val (.long (elV fr sp)), .second, .val (.long dB), .second, .val (.long r12), .second, .unset, .unset] at_170 rfl ?_
  refine r_aload 174 X at_172 rfl rfl ?_
  refine r_virtual 177 X (st := []) (a := b1) (rmNext l Z a0 hw n0 _ X.sz b1 wa ma n ((n + 63) / 64) fr (elV fr sp) (fun _ => False) (Int32.ofNat ((n + 63) / 64))  (by omega) (natI _ (by omega)) (by omega) rfl Ws) E_b1 (hw _ (List.mem_of_getElem? (i := 80) rfl)) (hw _ (List.mem_of_getElem? (i := 81) rfl)) (hw _ (List.mem_of_getElem? (i := 83) rfl)) (hw _ (List.mem_of_getElem? (i := 83) rfl)) (hw _ (List.mem_of_getElem? (i := 82) rfl)) (hw _ (List.mem_of_getElem? (i := 84) rfl)) (hw _ (List.mem_of_getElem? (i := 4) rfl)) (by decide) pd_6 [] rfl rfl 0 (Nat.le_of_eq rfl) rfl (by decide) (by decide) (by decide) (by decide) at_174 ?_
  rintro T h13 v13 ⟨r13, rfl, hr13⟩ X
  have e3 := own_n3 hr13
  change Run _ _ _ _ _ _ _ _ [(.long r13)]
  refine r_lstore 179 X #[.val (.int p0), .val (.long q1), .second, .val (.long q2), .second, .val (.long q3), .second, .val (.long q4), .second, .val (.int z), .val (.long sp), .second, .val (.long fa), .second, .val (.long fr), .second, .val (.ref b1), .val (.long (elV fa sp)), .second, .val (.long dA), .second, .val (.long (elV fr sp)), .second, .val (.long dB), .second, .val (.long r12), .second, .val (.long r13), .second] at_177 rfl ?_
  refine r_lload 181 X at_179 rfl ?_
  refine r_lload 183 X at_181 rfl ?_
  refine r_lload 185 X at_183 rfl ?_
  refine r_ladd 186 X at_185 ?_
  refine r_topJ eB ?_
  refine r_lcmp 187 X at_186 ?_
  refine r_ifN 190 X at_187 ((if0 _ _).trans (teq ((lw_eq _ _).mpr (e1.trans hB'.symm))).2) ?_
  refine r_lload 192 X at_190 rfl ?_
  refine r_ldc2Long 195 X (hw _ (List.mem_of_getElem? (i := 86) rfl)) at_192 ?_
  refine r_lcmp 196 X at_195 ?_
  refine r_ifN 199 X at_196 ((if0 _ _).trans (teq ((lw_eq _ _).mpr e3)).2) ?_
  refine r_iconst 200 X (1 : Int32) at_199 rfl ?_
  refine r_goto 204 X at_200 ?_
  refine r_retZ (z := (1 : Int32)) X at_204 rfl (by decide) (by decide) ?_
  exact rfl
set_option maxRecDepth 65536 in
set_option maxHeartbeats 40000000 in
theorem comes_1 {Post : Tables → Env → Array Value → State → Outcome → State → Prop} (hpost : ∀ tb e args s v u, (limb_1_1.after args s (.returned v) u = true ∧ limb_1_2.after args s (.returned v) u = true ∧ True) → FrameEnd s (.returned v) u (Jvm.fieldLocs frame_1_writes args s ++ Jvm.arrayLocs frame_1_arrays args s ++ Jvm.staticLocs frame_1_statics s) 16 640 → Post tb e args s (.returned v) u) :
    ArmFor flags0 classFile x code maxLocals ret World_1 tables_1 room_1 Calls_1 rest_1 Pre_1 Post := by
  intro l hfl _ _ p e ha hc hk s m args below hf hA hF happ hP
  obtain ⟨hcalls, hrest, hpre⟩ := hP
  obtain ⟨-, -, -, hnamed, -, -, -, hat⟩ := (Spec.applies_iff hf).mp happ
  obtain ⟨hg, hn⟩ := and_e (Cond.before_iff.mp (show (Jvm.Cond.and given_1 narrow_1).before args s = true from hpre))
  obtain ⟨g1, g2⟩ := and_e hg
  obtain ⟨g3, g4⟩ := and_e g2
  obtain ⟨g5, g6⟩ := and_e g4
  obtain ⟨g7, g8⟩ := and_e g6
  obtain ⟨g9, g10⟩ := and_e g8
  obtain ⟨w0, w1, w2, w3, w4, rfl⟩ : ∃ w0 w1 w2 w3 w4 : Value, args = #[w0, w1, w2, w3, w4] := by
    have hs : args.size = 5 := by simpa [Cond.value, given_1] using g1
    obtain ⟨L⟩ := args
    match L, hs with
    | [w0, w1, w2, w3, w4], _ => exact ⟨w0, w1, w2, w3, w4, rfl⟩
  have hw := fun d (hd : d ∈ tables_1) => atoms_spec (ws := Jvm.Cond.code x code maxLocals ret :: tables_1) hat d (List.mem_cons_of_mem _ hd)
  have hfit : Fit s := fun {y c} hc i hi => by
    obtain ⟨ha, rfl⟩ := Array.getElem?_eq_some_iff.mp hc
    have q := List.all_eq_true.mp ((Array.all_eq_true_iff_forall_mem.mp hF) _ (Array.getElem_mem ha)) i (List.mem_range.mpr hi)
    simpa [Array.getElem?_eq_getElem hi] using q
  obtain ⟨i0, ei0⟩ := is_v g3
  obtain rfl : w0 = (.int i0) := Option.some.inj ei0
  obtain ⟨i1, ei1⟩ := isL_v g5
  obtain rfl : w1 = (.long i1) := Option.some.inj ei1
  obtain ⟨i2, ei2⟩ := isL_v g7
  obtain rfl : w2 = (.long i2) := Option.some.inj ei2
  obtain ⟨i3, ei3⟩ := isL_v g9
  obtain rfl : w3 = (.long i3) := Option.some.inj ei3
  obtain ⟨i4, ei4⟩ := isL_v g10
  obtain rfl : w4 = (.long i4) := Option.some.inj ei4
  obtain ⟨n, o, h1, h2, h3, _, L, rfl, ⟨rfl, N, -⟩, hq⟩ := rm0 l s _ hw s.heap.size s.heap (Nat.le_refl _) i0 i1 i2 i3 i4  p e ha hc hk s m _ below hf ((Spec.applies_iff_loose hf).mp happ).1 ⟨rfl, State.Warmed39.refl s, rfl⟩ trivial
  refine ⟨n, _, h1, h2, h3, hpost _ _ _ _ _ _ ⟨Cond.after_iff.mpr rfl, Cond.after_iff.mpr (eq_i res_at (Term.int_eval (1)) rfl), trivial⟩ ⟨hq.1, hq.2.1, (hq.2.2.sift fun y hy => Or.inr (N y hy)).mono (by decide) (by decide)⟩⟩
theorem main_1_1 : Claimed_1_1 := comes_1 fun _ _ _ _ _ _ h hF => ⟨h.1, hF⟩
theorem main_1_2 : Claimed_1_2 := comes_1 fun _ _ _ _ _ _ h hF => ⟨h.2.1, hF⟩
end Jvm.Pilot.@@N@@
namespace Jvm.Pilot.@@N@@
open Jvm Jvm.ClassFile Sem Op Lib Jvm.Free Jvm.Stand Jvm.Pilot.@@N@@.Jvm.D
/-! MADE BY PROGRAM (witnessworld.py) out of the Statement's table words and the real class files: 17 classes; the members and pool entries that the words name. The judged class is class 1, her method 2. -/
namespace start1
open Jvm.ClassFile
def u (s : String) : CpInfo := .utf8 (stringToUtf16 s)
/-- a pool by its gaps: so many unusable entries, then the entry; so many at the end -/
def gap : Nat → List CpInfo → List CpInfo
  | 0, r => r
  | n + 1, r => .unusable :: gap n r
def poolList (es : List (Nat × CpInfo)) (last : Nat) : List CpInfo := es.foldr (fun e r => gap e.1 (e.2 :: r)) (gap last [])
def pool (es : List (Nat × CpInfo)) (last : Nat) : Array CpInfo := ⟨poolList es last⟩
def fileOf (pool : Array CpInfo) (this : Nat) (attrs : Array Attribute := #[]) (ms : Array MethodInfo := #[]) (fl : Nat := 33) (sup : Nat := 0) (ifs : Array Nat := #[]) (fds : Array FieldInfo := #[]) : ClassFile where
  minorVersion := 0
  majorVersion := 65
  constantPool := pool
  accessFlags := fl
  thisClass := this
  superClass := sup
  interfaces := ifs
  fields := fds
  methods := ms
  attributes := attrs
def plain (name : String) (sup : Option ClassId) : Class where
  name := name
  kind := .ordinary
  loader := none
  accessFlags := 33
  super := sup
  interfaces := #[]
  cf := none
  fields := #[]
  methods := #[]
  instanceTypes := #[]
  staticTypes := #[]
  resolved := #[]
  callSites := []
  init := .initialized
  statics := none
  mirror := none

def pool0 : Array CpInfo := pool [(5, u "<init>"), (0, u "()V"), (1, .class_ 10), (1, u "java/lang/Object")] 113

def k0c0 : Code := { maxStack := 0, maxLocals := 1, code := object_method_1_code, exceptionTable := #[], attributes := #[] }
def k0m0 : Method := { name := "<init>", desc := "()V", sig := { parameters := [], returnType := none }, accessFlags := 1, code := some k0c0 }
/-- java/lang/Object -/
def k0 : Class := { plain "java/lang/Object" none with
  accessFlags := 33
  interfaces := #[]
  cf := some (fileOf pool0 8 #[] #[{ accessFlags := 1, nameIndex := 5, descriptorIndex := 6, attributes := #[] }] 33 0 #[] #[])
  fields := #[]
  methods := #[k0m0]
  instanceTypes := #[]
  staticTypes := #[]
  resolved := Array.replicate 124 none
  statics := none }

def pool1 : Array CpInfo := pool [(2, .class_ 4), (1, u "java/lang/Object"), (0, u "<init>"), (0, u "()V"), (2, .long 9223372036854775807), (1, .long 64), (1, .long 9223372036854775744), (1, .class_ 16), (0, u "com/example/skiprail/skiprail/lists/Window"), (0, .methodref 15 18), (0, .nameAndType 5 19), (0, u "(I)V"), (0, .methodref 15 21), (0, .nameAndType 22 23), (0, u "open"), (0, u "(J)V"), (0, .methodref 25 26), (0, .class_ 27), (0, .nameAndType 28 29), (0, u "com/example/skiprail/skiprail/lists/WindowOpenPinLaw"), (0, u "expectedLast"), (0, u "(JJ)J"), (0, .long 2147483647), (1, .methodref 15 33), (0, .nameAndType 34 23), (0, u "mark"), (0, .methodref 15 36), (0, .nameAndType 37 38), (0, u "count"), (0, u "()J"), (0, .methodref 15 40), (0, .nameAndType 41 38), (0, u "first"), (0, .methodref 15 43), (0, .nameAndType 44 38), (0, u "last"), (0, .methodref 15 46), (0, .nameAndType 47 38), (0, u "next"), (0, .long 18446744073709551615), (4, u "law"), (0, u "(IJJJJ)Z")] 2

def k1m0 : Method := { name := "<init>", desc := "()V", sig := { parameters := [], returnType := none }, accessFlags := 2, code := none }
def k1c1 : Code := { maxStack := 4, maxLocals := 6, code := method_2_code, exceptionTable := #[], attributes := #[] }
def k1m1 : Method := { name := "expectedLast", desc := "(JJ)J", sig := { parameters := [.long, .long], returnType := some .long }, accessFlags := 10, code := some k1c1 }
def k1c2 : Code := { maxStack := 6, maxLocals := 29, code := code, exceptionTable := #[], attributes := #[] }
def k1m2 : Method := { name := "law", desc := "(IJJJJ)Z", sig := { parameters := [.int, .long, .long, .long, .long], returnType := some .boolean }, accessFlags := 9, code := some k1c2 }
/-- com/example/skiprail/skiprail/lists/WindowOpenPinLaw -/
def k1 : Class := { plain "com/example/skiprail/skiprail/lists/WindowOpenPinLaw" (some 0) with
  accessFlags := 49
  interfaces := #[]
  cf := some (fileOf pool1 25 #[] #[{ accessFlags := 2, nameIndex := 5, descriptorIndex := 6, attributes := #[] }, { accessFlags := 10, nameIndex := 28, descriptorIndex := 29, attributes := #[] }, { accessFlags := 9, nameIndex := 53, descriptorIndex := 54, attributes := #[] }] 49 2 #[] #[])
  fields := #[]
  methods := #[k1m0, k1m1, k1m2]
  instanceTypes := #[]
  staticTypes := #[]
  resolved := Array.replicate 57 none
  statics := none }

def pool2 : Array CpInfo := pool [(1, .methodref 2 3), (0, .class_ 4), (0, .nameAndType 5 6), (0, u "java/lang/Object"), (0, u "<init>"), (0, u "()V"), (0, .fieldref 8 9), (0, .class_ 10), (0, .nameAndType 11 12), (0, u "com/example/skiprail/skiprail/lists/Window"), (0, u "group"), (0, u "I"), (0, .fieldref 8 14), (0, .nameAndType 15 16), (0, u "words"), (0, u "[J"), (0, .class_ 18), (0, u "java/lang/Long"), (0, .fieldref 8 20), (0, .nameAndType 21 16), (0, u "marked"), (0, .long 64), (7, .fieldref 8 31), (0, .nameAndType 32 33), (0, u "first"), (0, u "J"), (0, .long 9223372036854775807), (1, .fieldref 8 37), (0, .nameAndType 38 33), (0, u "last"), (0, .fieldref 8 40), (0, .nameAndType 41 33), (0, u "groupLeft"), (0, .fieldref 8 43), (0, .nameAndType 44 33), (0, u "wordLeft"), (4, .long 9223372036854775808), (1, .methodref 17 52), (0, .nameAndType 53 54), (0, u "numberOfLeadingZeros"), (0, u "(J)I"), (0, .long 18446744073709551615), (11, u "next"), (0, u "()J"), (0, .methodref 8 70), (0, .nameAndType 71 72), (0, u "nextWord"), (0, u "()Z"), (0, .fieldref 8 74), (0, .nameAndType 75 12), (0, u "word"), (0, .methodref 17 77), (0, .nameAndType 78 54), (0, u "bitCount"), (0, u "(I)V"), (3, u "open"), (0, u "(J)V"), (3, u "mark"), (5, u "count")] 4

def k2c0 : Code := { maxStack := 3, maxLocals := 2, code := prog_145_method_1_code, exceptionTable := #[], attributes := #[] }
def k2m0 : Method := { name := "<init>", desc := "(I)V", sig := { parameters := [.int], returnType := none }, accessFlags := 0, code := some k2c0 }
def k2c1 : Code := { maxStack := 7, maxLocals := 5, code := prog_145_method_3_code, exceptionTable := #[], attributes := #[] }
def k2m1 : Method := { name := "open", desc := "(J)V", sig := { parameters := [.long], returnType := none }, accessFlags := 0, code := some k2c1 }
def k2c2 : Code := { maxStack := 2, maxLocals := 1, code := prog_145_method_4_code, exceptionTable := #[], attributes := #[] }
def k2m2 : Method := { name := "first", desc := "()J", sig := { parameters := [], returnType := some .long }, accessFlags := 0, code := some k2c2 }
def k2c3 : Code := { maxStack := 2, maxLocals := 1, code := prog_145_method_5_code, exceptionTable := #[], attributes := #[] }
def k2m3 : Method := { name := "last", desc := "()J", sig := { parameters := [], returnType := some .long }, accessFlags := 0, code := some k2c3 }
def k2c4 : Code := { maxStack := 8, maxLocals := 6, code := prog_145_method_7_code, exceptionTable := #[], attributes := #[] }
def k2m4 : Method := { name := "mark", desc := "(J)V", sig := { parameters := [.long], returnType := none }, accessFlags := 0, code := some k2c4 }
def k2c5 : Code := { maxStack := 7, maxLocals := 2, code := prog_145_method_10_code, exceptionTable := #[], attributes := #[] }
def k2m5 : Method := { name := "next", desc := "()J", sig := { parameters := [], returnType := some .long }, accessFlags := 0, code := some k2c5 }
def k2c6 : Code := { maxStack := 4, maxLocals := 3, code := prog_145_method_12_code, exceptionTable := #[], attributes := #[] }
def k2m6 : Method := { name := "count", desc := "()J", sig := { parameters := [], returnType := some .long }, accessFlags := 0, code := some k2c6 }
def k2c7 : Code := { maxStack := 7, maxLocals := 2, code := prog_145_method_13_code, exceptionTable := #[], attributes := #[] }
def k2m7 : Method := { name := "nextWord", desc := "()Z", sig := { parameters := [], returnType := some .boolean }, accessFlags := 2, code := some k2c7 }
/-- com/example/skiprail/skiprail/lists/Window -/
def k2 : Class := { plain "com/example/skiprail/skiprail/lists/Window" (some 0) with
  accessFlags := 48
  interfaces := #[]
  cf := some (fileOf pool2 8 #[] #[{ accessFlags := 0, nameIndex := 5, descriptorIndex := 79, attributes := #[] }, { accessFlags := 0, nameIndex := 83, descriptorIndex := 84, attributes := #[] }, { accessFlags := 0, nameIndex := 32, descriptorIndex := 68, attributes := #[] }, { accessFlags := 0, nameIndex := 38, descriptorIndex := 68, attributes := #[] }, { accessFlags := 0, nameIndex := 88, descriptorIndex := 84, attributes := #[] }, { accessFlags := 0, nameIndex := 67, descriptorIndex := 68, attributes := #[] }, { accessFlags := 0, nameIndex := 94, descriptorIndex := 68, attributes := #[] }, { accessFlags := 2, nameIndex := 71, descriptorIndex := 72, attributes := #[] }] 48 2 #[] #[{ accessFlags := 18, nameIndex := 15, descriptorIndex := 16, attributes := #[] }, { accessFlags := 18, nameIndex := 21, descriptorIndex := 16, attributes := #[] }, { accessFlags := 2, nameIndex := 32, descriptorIndex := 33, attributes := #[] }, { accessFlags := 2, nameIndex := 38, descriptorIndex := 33, attributes := #[] }, { accessFlags := 2, nameIndex := 11, descriptorIndex := 12, attributes := #[] }, { accessFlags := 2, nameIndex := 41, descriptorIndex := 33, attributes := #[] }, { accessFlags := 2, nameIndex := 75, descriptorIndex := 12, attributes := #[] }, { accessFlags := 2, nameIndex := 44, descriptorIndex := 33, attributes := #[] }])
  fields := #[{ name := "words", type := (.array .long), accessFlags := 18, slot := 0, constantValue := 0 }, { name := "marked", type := (.array .long), accessFlags := 18, slot := 1, constantValue := 0 }, { name := "first", type := .long, accessFlags := 2, slot := 2, constantValue := 0 }, { name := "last", type := .long, accessFlags := 2, slot := 3, constantValue := 0 }, { name := "group", type := .int, accessFlags := 2, slot := 4, constantValue := 0 }, { name := "groupLeft", type := .long, accessFlags := 2, slot := 5, constantValue := 0 }, { name := "word", type := .int, accessFlags := 2, slot := 6, constantValue := 0 }, { name := "wordLeft", type := .long, accessFlags := 2, slot := 7, constantValue := 0 }]
  methods := #[k2m0, k2m1, k2m2, k2m3, k2m4, k2m5, k2m6, k2m7]
  instanceTypes := #[(.array .long), (.array .long), .long, .long, .int, .long, .int, .long]
  staticTypes := #[]
  resolved := Array.replicate 99 none
  statics := none }

def pool3 : Array CpInfo := pool [(1, .class_ 2), (0, u "java/io/Serializable"), (0, .class_ 4), (0, u "java/lang/Object")] 2

/-- java/io/Serializable -/
def k3 : Class := { plain "java/io/Serializable" (some 0) with
  accessFlags := 1537
  interfaces := #[]
  cf := some (fileOf pool3 1 #[] #[] 1537 3 #[] #[])
  fields := #[]
  methods := #[]
  instanceTypes := #[]
  staticTypes := #[]
  resolved := Array.replicate 7 none
  statics := none }

def pool4 : Array CpInfo := pool [(2, .class_ 4), (1, u "java/lang/Object"), (0, u "<init>"), (0, u "()V"), (1, .class_ 10), (1, u "java/lang/Number"), (2, .class_ 14), (0, u "java/io/Serializable"), (0, u "serialVersionUID"), (0, u "J")] 20

def k4m0 : Method := { name := "<init>", desc := "()V", sig := { parameters := [], returnType := none }, accessFlags := 1, code := none }
/-- java/lang/Number -/
def k4 : Class := { plain "java/lang/Number" (some 0) with
  accessFlags := 1057
  interfaces := #[3]
  cf := some (fileOf pool4 8 #[] #[{ accessFlags := 1, nameIndex := 5, descriptorIndex := 6, attributes := #[] }] 1057 2 #[13] #[{ accessFlags := 26, nameIndex := 15, descriptorIndex := 16, attributes := #[] }])
  fields := #[{ name := "serialVersionUID", type := .long, accessFlags := 26, slot := 0, constantValue := 0 }]
  methods := #[k4m0]
  instanceTypes := #[]
  staticTypes := #[.long]
  resolved := Array.replicate 37 none
  statics := none }

def pool5 : Array CpInfo := pool [(1, .class_ 2), (0, u "java/lang/Comparable"), (0, .class_ 4), (0, u "java/lang/Object")] 7

/-- java/lang/Comparable -/
def k5 : Class := { plain "java/lang/Comparable" (some 0) with
  accessFlags := 1537
  interfaces := #[]
  cf := some (fileOf pool5 1 #[] #[] 1537 3 #[] #[])
  fields := #[]
  methods := #[]
  instanceTypes := #[]
  staticTypes := #[]
  resolved := Array.replicate 12 none
  statics := none }

def pool6 : Array CpInfo := pool [(1, .class_ 2), (0, u "java/lang/constant/Constable"), (0, .class_ 4), (0, u "java/lang/Object")] 6

/-- java/lang/constant/Constable -/
def k6 : Class := { plain "java/lang/constant/Constable" (some 0) with
  accessFlags := 1537
  interfaces := #[]
  cf := some (fileOf pool6 1 #[] #[] 1537 3 #[] #[])
  fields := #[]
  methods := #[]
  instanceTypes := #[]
  staticTypes := #[]
  resolved := Array.replicate 11 none
  statics := none }

def pool7 : Array CpInfo := pool [(1, .class_ 2), (0, u "java/lang/constant/ConstantDesc"), (0, .class_ 4), (0, u "java/lang/Object")] 32

/-- java/lang/constant/ConstantDesc -/
def k7 : Class := { plain "java/lang/constant/ConstantDesc" (some 0) with
  accessFlags := 1537
  interfaces := #[]
  cf := some (fileOf pool7 1 #[] #[] 1537 3 #[] #[])
  fields := #[]
  methods := #[]
  instanceTypes := #[]
  staticTypes := #[]
  resolved := Array.replicate 37 none
  statics := none }

def pool8 : Array CpInfo := pool [(1, .class_ 2), (0, u "java/lang/Long"), (15, .class_ 20), (1, u "java/lang/Integer"), (79, u "numberOfLeadingZeros"), (0, u "(J)I"), (133, .class_ 237), (1, u "java/lang/Long$LongCache"), (33, .class_ 272), (0, u "java/lang/Number"), (2, u "value"), (0, u "J"), (31, .methodref 18 309), (0, .nameAndType 100 310), (0, u "(I)I"), (3, .long 6148914691236517205), (1, .long 3689348814741910323), (1, .long 1085102592571150095), (42, u "TYPE"), (0, u "Ljava/lang/Class;"), (0, .class_ 364), (0, u "java/lang/Comparable"), (0, .class_ 366), (0, u "java/lang/constant/Constable"), (0, .class_ 368), (0, u "java/lang/constant/ConstantDesc"), (0, u "MIN_VALUE"), (1, u "MAX_VALUE"), (4, u "SIZE"), (0, u "I"), (1, u "BYTES"), (1, u "serialVersionUID"), (94, u "bitCount")] 47

def k8c0 : Code := { maxStack := 3, maxLocals := 3, code := jdk_35_method_48_code, exceptionTable := #[], attributes := #[] }
def k8m0 : Method := { name := "numberOfLeadingZeros", desc := "(J)I", sig := { parameters := [.long], returnType := some .int }, accessFlags := 9, code := some k8c0 }
def k8c1 : Code := { maxStack := 6, maxLocals := 2, code := jdk_35_method_50_code, exceptionTable := #[], attributes := #[] }
def k8m1 : Method := { name := "bitCount", desc := "(J)I", sig := { parameters := [.long], returnType := some .int }, accessFlags := 9, code := some k8c1 }
/-- java/lang/Long -/
def k8 : Class := { plain "java/lang/Long" (some 4) with
  accessFlags := 49
  interfaces := #[5, 6, 7]
  cf := some (fileOf pool8 1 #[.nestMembers #[235]] #[{ accessFlags := 9, nameIndex := 100, descriptorIndex := 101, attributes := #[] }, { accessFlags := 9, nameIndex := 476, descriptorIndex := 101, attributes := #[] }] 49 271 #[363, 365, 367] #[{ accessFlags := 25, nameIndex := 369, descriptorIndex := 276, attributes := #[] }, { accessFlags := 25, nameIndex := 371, descriptorIndex := 276, attributes := #[] }, { accessFlags := 25, nameIndex := 361, descriptorIndex := 362, attributes := #[] }, { accessFlags := 18, nameIndex := 275, descriptorIndex := 276, attributes := #[] }, { accessFlags := 25, nameIndex := 376, descriptorIndex := 377, attributes := #[] }, { accessFlags := 25, nameIndex := 379, descriptorIndex := 377, attributes := #[] }, { accessFlags := 26, nameIndex := 381, descriptorIndex := 276, attributes := #[] }])
  fields := #[{ name := "MIN_VALUE", type := .long, accessFlags := 25, slot := 0, constantValue := 0 }, { name := "MAX_VALUE", type := .long, accessFlags := 25, slot := 1, constantValue := 0 }, { name := "TYPE", type := (.object "java/lang/Class"), accessFlags := 25, slot := 2, constantValue := 0 }, { name := "value", type := .long, accessFlags := 18, slot := 0, constantValue := 0 }, { name := "SIZE", type := .int, accessFlags := 25, slot := 3, constantValue := 0 }, { name := "BYTES", type := .int, accessFlags := 25, slot := 4, constantValue := 0 }, { name := "serialVersionUID", type := .long, accessFlags := 26, slot := 5, constantValue := 0 }]
  methods := #[k8m0, k8m1]
  instanceTypes := #[.long]
  staticTypes := #[.long, .long, (.object "java/lang/Class"), .int, .int, .long]
  resolved := Array.replicate 524 none
  statics := none }

def pool9 : Array CpInfo := pool [(1, .class_ 2), (0, u "java/lang/Integer"), (16, u "digits"), (0, u "[C"), (32, u "numberOfLeadingZeros"), (0, u "(I)I"), (30, u "DigitOnes"), (0, u "[B"), (2, u "DigitTens"), (99, .class_ 190), (0, u "java/lang/Integer$IntegerCache"), (3, u "I"), (8, .class_ 204), (0, u "java/lang/Number"), (2, u "value"), (56, .integer 65536), (37, u "TYPE"), (0, u "Ljava/lang/Class;"), (0, .class_ 305), (0, u "java/lang/Comparable"), (0, .class_ 307), (0, u "java/lang/constant/Constable"), (0, .class_ 309), (0, u "java/lang/constant/ConstantDesc"), (0, u "MIN_VALUE"), (1, u "MAX_VALUE"), (3, u "SIZE"), (1, u "BYTES"), (1, u "serialVersionUID"), (0, u "J")] 131

def k9c0 : Code := { maxStack := 3, maxLocals := 2, code := jdk_33_method_47_code, exceptionTable := #[], attributes := #[] }
def k9m0 : Method := { name := "numberOfLeadingZeros", desc := "(I)I", sig := { parameters := [.int], returnType := some .int }, accessFlags := 9, code := some k9c0 }
/-- java/lang/Integer -/
def k9 : Class := { plain "java/lang/Integer" (some 4) with
  accessFlags := 49
  interfaces := #[5, 6, 7]
  cf := some (fileOf pool9 1 #[.nestMembers #[189]] #[{ accessFlags := 9, nameIndex := 53, descriptorIndex := 54, attributes := #[] }] 49 203 #[304, 306, 308] #[{ accessFlags := 25, nameIndex := 310, descriptorIndex := 194, attributes := #[] }, { accessFlags := 25, nameIndex := 312, descriptorIndex := 194, attributes := #[] }, { accessFlags := 25, nameIndex := 302, descriptorIndex := 303, attributes := #[] }, { accessFlags := 24, nameIndex := 19, descriptorIndex := 20, attributes := #[] }, { accessFlags := 24, nameIndex := 89, descriptorIndex := 86, attributes := #[] }, { accessFlags := 24, nameIndex := 85, descriptorIndex := 86, attributes := #[] }, { accessFlags := 18, nameIndex := 207, descriptorIndex := 194, attributes := #[] }, { accessFlags := 25, nameIndex := 316, descriptorIndex := 194, attributes := #[] }, { accessFlags := 25, nameIndex := 318, descriptorIndex := 194, attributes := #[] }, { accessFlags := 26, nameIndex := 320, descriptorIndex := 321, attributes := #[] }])
  fields := #[{ name := "MIN_VALUE", type := .int, accessFlags := 25, slot := 0, constantValue := 0 }, { name := "MAX_VALUE", type := .int, accessFlags := 25, slot := 1, constantValue := 0 }, { name := "TYPE", type := (.object "java/lang/Class"), accessFlags := 25, slot := 2, constantValue := 0 }, { name := "digits", type := (.array .char), accessFlags := 24, slot := 3, constantValue := 0 }, { name := "DigitTens", type := (.array .byte), accessFlags := 24, slot := 4, constantValue := 0 }, { name := "DigitOnes", type := (.array .byte), accessFlags := 24, slot := 5, constantValue := 0 }, { name := "value", type := .int, accessFlags := 18, slot := 0, constantValue := 0 }, { name := "SIZE", type := .int, accessFlags := 25, slot := 6, constantValue := 0 }, { name := "BYTES", type := .int, accessFlags := 25, slot := 7, constantValue := 0 }, { name := "serialVersionUID", type := .long, accessFlags := 26, slot := 8, constantValue := 0 }]
  methods := #[k9m0]
  instanceTypes := #[.int]
  staticTypes := #[.int, .int, (.object "java/lang/Class"), (.array .char), (.array .byte), (.array .byte), .int, .int, .long]
  resolved := Array.replicate 453 none
  statics := none }

def pool10 : Array CpInfo := pool [(1, u "java/lang/Cloneable"), (0, .class_ 1), (0, u "java/lang/Object"), (0, .class_ 3)] 3

/-- java/lang/Cloneable -/
def k10 : Class := { plain "java/lang/Cloneable" (some 0) with
  accessFlags := 1537
  interfaces := #[]
  cf := some (fileOf pool10 2 #[] #[] 1537 4 #[] #[])
  fields := #[]
  methods := #[]
  instanceTypes := #[]
  staticTypes := #[]
  resolved := Array.replicate 8 none
  statics := none }

/-- the primitive byte -/
def k11 : Class := { plain "byte" none with kind := .primitive 'B', accessFlags := 0x411 }
/-- [B -/
def k12 : Class := { plain "[B" (some 0) with kind := .array 11 .byte, interfaces := #[10, 3], accessFlags := 1041 }

/-- the primitive int -/
def k13 : Class := { plain "int" none with kind := .primitive 'I', accessFlags := 0x411 }
/-- [I -/
def k14 : Class := { plain "[I" (some 0) with kind := .array 13 .int, interfaces := #[10, 3], accessFlags := 1041 }

/-- the primitive long -/
def k15 : Class := { plain "long" none with kind := .primitive 'J', accessFlags := 0x411 }
/-- [J -/
def k16 : Class := { plain "[J" (some 0) with kind := .array 15 .long, interfaces := #[10, 3], accessFlags := 1041 }

def heap : Heap := #[]
def classes : Array Class := #[k0, k1, k2, k3, k4, k5, k6, k7, k8, k9, k10, k11, k12, k13, k14, k15, k16]
def interned : List (Array UInt16 × Addr) := []
def slotsUsed : Nat := 0
def theMethod : MethodId := ⟨1, 2⟩
def args0 : Array Value := #[.int 5, .long 7, .long 3, .long 9, .long 11]
def aboutOver (below : List Frame) : State where
  vm := { classes := classes, interned := interned.toArray }
  heap := heap
  slotsUsed := slotsUsed
  threads := #[{ frames := .invoking theMethod args0 :: below }]
def below0 : List Frame := [.native { method := ⟨0, 0⟩, args := #[] }]
def about1 : State := aboutOver below0
def p0 : Program := .bare "" "" ""
def e0 : Env := launch0.env 0 0 0
theorem w_frames : about1.frames = Frame.invoking theMethod args0 :: below0 := rfl
set_option maxRecDepth 65536 in
theorem w_args : argsFit about1.vm theMethod args0 = true := by decide +kernel
set_option maxRecDepth 65536 in
theorem w_heap : heapFits about1 = true := by decide +kernel
set_option maxRecDepth 65536 in
theorem w_runnable : about1.curStatus? = some .runnable := by decide +kernel
set_option maxRecDepth 65536 in
theorem w_alone : about1.alone = true := by decide +kernel
set_option maxRecDepth 65536 in
theorem w_named : about1.methodNamed? x = some theMethod := by decide +kernel
set_option maxRecDepth 65536 in
theorem w_hears : about1.hears theMethod below0 = true := by decide +kernel
set_option maxRecDepth 65536 in
theorem w_ripe : about1.ripe theMethod args0 below0 = true := by decide +kernel
theorem w_running : about1.status = .running := rfl
set_option maxRecDepth 65536 in
theorem w_room : about1.hasRoom e0.platform room_1 = true :=
  launch0.hasRoom_least _ room_1 (by decide +kernel) (by decide +kernel) (by decide +kernel) (by decide +kernel) (by decide +kernel) (by decide +kernel)
theorem allAtoms_all (ts : List Jvm.Cond) (a : Array Jvm.Value) (st : Jvm.State) : (allAtoms ts).before a st = ts.all (fun c => c.before a st) := by
  induction ts with
  | nil => rfl
  | cons c t ih =>
    show (Jvm.Cond.and c (allAtoms t)).before a st = _
    rw [Jvm.Cond.before_and, ih, List.all_cons]
def words1 : List Jvm.Cond := Jvm.Cond.code x code maxLocals ret :: tables_1
/-- a 'code' word, met by the world's own term for the bytes: nothing is compared byte by byte -/
theorem code_word {y : MethodName} {bytes : ByteArray} {mx : Nat} {rt : Option FieldType} {a : Array Value} {s : State} {m : MethodId} {meth : Method} {c : Code} (h1 : s.methodNamed? y = some m) (h2 : s.vm.method? m = some meth) (h3 : meth.code = some c) (h4 : c.code = bytes)
    (h5 : (c.maxLocals == mx && c.exceptionTable.isEmpty && decide (c.maxStack ≤ mostOperands) && decide (meth.sig.returnType = rt) && !meth.locks && decide (parseMethodDescriptor y.desc = some meth.sig)) = true) : (Jvm.Cond.code y bytes mx rt).before a s = true := by
  simp only [Bool.and_eq_true, beq_iff_eq, Bool.not_eq_true', decide_eq_true_eq] at h5
  obtain ⟨⟨⟨⟨⟨g1, g2⟩, g3⟩, g4⟩, g5⟩, g6⟩ := h5
  simp [Cond.before, Cond.holds, Cond.value, h1, h2, h3, h4, g1, g2, g3, g4, g5, g6]
def isCode : Jvm.Cond → Bool
  | .code _ _ _ _ => true
  | _ => false
theorem all_split {L : List Jvm.Cond} {P : Jvm.Cond → Bool} (h1 : L.all (fun c => isCode c || P c) = true) (h2 : ∀ c ∈ L.filter isCode, P c = true) : L.all P = true := by
  refine List.all_eq_true.mpr fun c hc => ?_
  have h := List.all_eq_true.mp h1 c hc
  rcases Bool.eq_false_or_eq_true (isCode c) with hi | hi
  · exact h2 c (List.mem_filter.mpr ⟨hc, hi⟩)
  · simpa [hi] using h
set_option maxRecDepth 65536 in
theorem w_c0 : (Jvm.Cond.code x code maxLocals ret).before args0 about1 = true := code_word (m := ⟨1, 2⟩) (meth := k1m2) (c := k1c2) (by decide +kernel) rfl rfl rfl (by decide +kernel)
set_option maxRecDepth 65536 in
theorem w_c1 : (Jvm.Cond.code ({ cls := "com/example/skiprail/skiprail/lists/Window", name := "<init>", desc := "(I)V" } : Jvm.MethodName) prog_145_method_1_code (2 : Nat) (Option.none : Option Jvm.ClassFile.FieldType)).before args0 about1 = true := code_word (m := ⟨2, 0⟩) (meth := k2m0) (c := k2c0) (by decide +kernel) rfl rfl rfl (by decide +kernel)
set_option maxRecDepth 65536 in
theorem w_c2 : (Jvm.Cond.code ({ cls := "java/lang/Object", name := "<init>", desc := "()V" } : Jvm.MethodName) object_method_1_code (1 : Nat) (Option.none : Option Jvm.ClassFile.FieldType)).before args0 about1 = true := code_word (m := ⟨0, 0⟩) (meth := k0m0) (c := k0c0) (by decide +kernel) rfl rfl rfl (by decide +kernel)
set_option maxRecDepth 65536 in
theorem w_c3 : (Jvm.Cond.code ({ cls := "com/example/skiprail/skiprail/lists/Window", name := "open", desc := "(J)V" } : Jvm.MethodName) prog_145_method_3_code (5 : Nat) (Option.none : Option Jvm.ClassFile.FieldType)).before args0 about1 = true := code_word (m := ⟨2, 1⟩) (meth := k2m1) (c := k2c1) (by decide +kernel) rfl rfl rfl (by decide +kernel)
set_option maxRecDepth 65536 in
theorem w_c4 : (Jvm.Cond.code ({ cls := "com/example/skiprail/skiprail/lists/WindowOpenPinLaw", name := "expectedLast", desc := "(JJ)J" } : Jvm.MethodName) method_2_code (6 : Nat) (Option.some Jvm.ClassFile.FieldType.long)).before args0 about1 = true := code_word (m := ⟨1, 1⟩) (meth := k1m1) (c := k1c1) (by decide +kernel) rfl rfl rfl (by decide +kernel)
set_option maxRecDepth 65536 in
theorem w_c5 : (Jvm.Cond.code ({ cls := "com/example/skiprail/skiprail/lists/Window", name := "mark", desc := "(J)V" } : Jvm.MethodName) prog_145_method_7_code (6 : Nat) (Option.none : Option Jvm.ClassFile.FieldType)).before args0 about1 = true := code_word (m := ⟨2, 4⟩) (meth := k2m4) (c := k2c4) (by decide +kernel) rfl rfl rfl (by decide +kernel)
set_option maxRecDepth 65536 in
theorem w_c6 : (Jvm.Cond.code ({ cls := "com/example/skiprail/skiprail/lists/Window", name := "count", desc := "()J" } : Jvm.MethodName) prog_145_method_12_code (3 : Nat) (Option.some Jvm.ClassFile.FieldType.long)).before args0 about1 = true := code_word (m := ⟨2, 6⟩) (meth := k2m6) (c := k2c6) (by decide +kernel) rfl rfl rfl (by decide +kernel)
set_option maxRecDepth 65536 in
theorem w_c7 : (Jvm.Cond.code ({ cls := "java/lang/Long", name := "bitCount", desc := "(J)I" } : Jvm.MethodName) jdk_35_method_50_code (2 : Nat) (Option.some Jvm.ClassFile.FieldType.int)).before args0 about1 = true := code_word (m := ⟨8, 1⟩) (meth := k8m1) (c := k8c1) (by decide +kernel) rfl rfl rfl (by decide +kernel)
set_option maxRecDepth 65536 in
theorem w_c8 : (Jvm.Cond.code ({ cls := "com/example/skiprail/skiprail/lists/Window", name := "nextWord", desc := "()Z" } : Jvm.MethodName) prog_145_method_13_code (2 : Nat) (Option.some Jvm.ClassFile.FieldType.boolean)).before args0 about1 = true := code_word (m := ⟨2, 7⟩) (meth := k2m7) (c := k2c7) (by decide +kernel) rfl rfl rfl (by decide +kernel)
set_option maxRecDepth 65536 in
theorem w_c9 : (Jvm.Cond.code ({ cls := "java/lang/Long", name := "numberOfLeadingZeros", desc := "(J)I" } : Jvm.MethodName) jdk_35_method_48_code (3 : Nat) (Option.some Jvm.ClassFile.FieldType.int)).before args0 about1 = true := code_word (m := ⟨8, 0⟩) (meth := k8m0) (c := k8c0) (by decide +kernel) rfl rfl rfl (by decide +kernel)
set_option maxRecDepth 65536 in
theorem w_c10 : (Jvm.Cond.code ({ cls := "java/lang/Integer", name := "numberOfLeadingZeros", desc := "(I)I" } : Jvm.MethodName) jdk_33_method_47_code (2 : Nat) (Option.some Jvm.ClassFile.FieldType.int)).before args0 about1 = true := code_word (m := ⟨9, 0⟩) (meth := k9m0) (c := k9c0) (by decide +kernel) rfl rfl rfl (by decide +kernel)
set_option maxRecDepth 65536 in
theorem w_c11 : (Jvm.Cond.code ({ cls := "com/example/skiprail/skiprail/lists/Window", name := "first", desc := "()J" } : Jvm.MethodName) prog_145_method_4_code (1 : Nat) (Option.some Jvm.ClassFile.FieldType.long)).before args0 about1 = true := code_word (m := ⟨2, 2⟩) (meth := k2m2) (c := k2c2) (by decide +kernel) rfl rfl rfl (by decide +kernel)
set_option maxRecDepth 65536 in
theorem w_c12 : (Jvm.Cond.code ({ cls := "com/example/skiprail/skiprail/lists/Window", name := "last", desc := "()J" } : Jvm.MethodName) prog_145_method_5_code (1 : Nat) (Option.some Jvm.ClassFile.FieldType.long)).before args0 about1 = true := code_word (m := ⟨2, 3⟩) (meth := k2m3) (c := k2c3) (by decide +kernel) rfl rfl rfl (by decide +kernel)
set_option maxRecDepth 65536 in
theorem w_c13 : (Jvm.Cond.code ({ cls := "com/example/skiprail/skiprail/lists/Window", name := "next", desc := "()J" } : Jvm.MethodName) prog_145_method_10_code (2 : Nat) (Option.some Jvm.ClassFile.FieldType.long)).before args0 about1 = true := code_word (m := ⟨2, 5⟩) (meth := k2m5) (c := k2c5) (by decide +kernel) rfl rfl rfl (by decide +kernel)
def codes1 : List Jvm.Cond := [Jvm.Cond.code x code maxLocals ret, Jvm.Cond.code ({ cls := "com/example/skiprail/skiprail/lists/Window", name := "<init>", desc := "(I)V" } : Jvm.MethodName) prog_145_method_1_code (2 : Nat) (Option.none : Option Jvm.ClassFile.FieldType), Jvm.Cond.code ({ cls := "java/lang/Object", name := "<init>", desc := "()V" } : Jvm.MethodName) object_method_1_code (1 : Nat) (Option.none : Option Jvm.ClassFile.FieldType), Jvm.Cond.code ({ cls := "com/example/skiprail/skiprail/lists/Window", name := "open", desc := "(J)V" } : Jvm.MethodName) prog_145_method_3_code (5 : Nat) (Option.none : Option Jvm.ClassFile.FieldType), Jvm.Cond.code ({ cls := "com/example/skiprail/skiprail/lists/WindowOpenPinLaw", name := "expectedLast", desc := "(JJ)J" } : Jvm.MethodName) method_2_code (6 : Nat) (Option.some Jvm.ClassFile.FieldType.long), Jvm.Cond.code ({ cls := "com/example/skiprail/skiprail/lists/Window", name := "mark", desc := "(J)V" } : Jvm.MethodName) prog_145_method_7_code (6 : Nat) (Option.none : Option Jvm.ClassFile.FieldType), Jvm.Cond.code ({ cls := "com/example/skiprail/skiprail/lists/Window", name := "count", desc := "()J" } : Jvm.MethodName) prog_145_method_12_code (3 : Nat) (Option.some Jvm.ClassFile.FieldType.long), Jvm.Cond.code ({ cls := "java/lang/Long", name := "bitCount", desc := "(J)I" } : Jvm.MethodName) jdk_35_method_50_code (2 : Nat) (Option.some Jvm.ClassFile.FieldType.int), Jvm.Cond.code ({ cls := "com/example/skiprail/skiprail/lists/Window", name := "nextWord", desc := "()Z" } : Jvm.MethodName) prog_145_method_13_code (2 : Nat) (Option.some Jvm.ClassFile.FieldType.boolean), Jvm.Cond.code ({ cls := "java/lang/Long", name := "numberOfLeadingZeros", desc := "(J)I" } : Jvm.MethodName) jdk_35_method_48_code (3 : Nat) (Option.some Jvm.ClassFile.FieldType.int), Jvm.Cond.code ({ cls := "java/lang/Integer", name := "numberOfLeadingZeros", desc := "(I)I" } : Jvm.MethodName) jdk_33_method_47_code (2 : Nat) (Option.some Jvm.ClassFile.FieldType.int), Jvm.Cond.code ({ cls := "com/example/skiprail/skiprail/lists/Window", name := "first", desc := "()J" } : Jvm.MethodName) prog_145_method_4_code (1 : Nat) (Option.some Jvm.ClassFile.FieldType.long), Jvm.Cond.code ({ cls := "com/example/skiprail/skiprail/lists/Window", name := "last", desc := "()J" } : Jvm.MethodName) prog_145_method_5_code (1 : Nat) (Option.some Jvm.ClassFile.FieldType.long), Jvm.Cond.code ({ cls := "com/example/skiprail/skiprail/lists/Window", name := "next", desc := "()J" } : Jvm.MethodName) prog_145_method_10_code (2 : Nat) (Option.some Jvm.ClassFile.FieldType.long)]
set_option maxRecDepth 65536 in
theorem codes_eq : words1.filter isCode = codes1 := rfl
theorem w_codes : ∀ c ∈ words1.filter isCode, c.before args0 about1 = true := by
  rw [codes_eq]
  intro c hc
  simp only [codes1, List.mem_cons, List.not_mem_nil, or_false] at hc
  rcases hc with rfl | rfl | rfl | rfl | rfl | rfl | rfl | rfl | rfl | rfl | rfl | rfl | rfl | rfl
  · exact w_c0
  · exact w_c1
  · exact w_c2
  · exact w_c3
  · exact w_c4
  · exact w_c5
  · exact w_c6
  · exact w_c7
  · exact w_c8
  · exact w_c9
  · exact w_c10
  · exact w_c11
  · exact w_c12
  · exact w_c13
set_option maxRecDepth 65536 in
theorem w_t1 : (words1.take 24).all (fun c => isCode c || c.before args0 about1) = true := by decide +kernel
set_option maxRecDepth 65536 in
theorem w_t2 : ((words1.drop 24).take 24).all (fun c => isCode c || c.before args0 about1) = true := by decide +kernel
set_option maxRecDepth 65536 in
theorem w_t3 : (((words1.drop 24).drop 24).take 24).all (fun c => isCode c || c.before args0 about1) = true := by decide +kernel
set_option maxRecDepth 65536 in
theorem w_t4 : (((words1.drop 24).drop 24).drop 24).all (fun c => isCode c || c.before args0 about1) = true := by decide +kernel
theorem w_tables : (allAtoms (Jvm.Cond.code x code maxLocals ret :: tables_1)).before args0 about1 = true := by
  rw [allAtoms_all]
  show words1.all (fun c => c.before args0 about1) = true
  refine all_split ?_ w_codes
  rw [← List.take_append_drop 24 words1, List.all_append, w_t1, ← List.take_append_drop 24 (words1.drop 24), List.all_append, w_t2, ← List.take_append_drop 24 ((words1.drop 24).drop 24), List.all_append, w_t3, w_t4]
  rfl
set_option maxRecDepth 65536 in
theorem w_case : (Jvm.Cond.and given_1 narrow_1).before args0 about1 = true := by decide +kernel
theorem w_applies : (headSpec (Jvm.Cond.code x code maxLocals ret :: tables_1) room_1).applies x e0.platform about1 = true :=
  (Spec.applies_iff w_frames).mpr ⟨w_running, w_runnable, w_alone, w_named, w_hears, w_ripe, w_room, w_tables⟩
theorem atStart : AtStart classFile x code maxLocals ret World_1 tables_1 room_1 Calls_1 rest_1 Pre_1 launch0 p0 e0 about1 theMethod args0 below0 :=
  ⟨lists_1, trivial, launch0.admits_env _ _ _, launch0.least_env, fairChoices_fair.cas, fairChoices_fair.clock, w_frames, w_args, w_heap, w_applies, trivial, trivial, w_case⟩
end start1
theorem witness_1 : WitnessClaimed_1 := ⟨start1.p0, start1.e0, start1.about1, start1.theMethod, start1.args0, start1.below0, start1.atStart⟩
end Jvm.Pilot.@@N@@
