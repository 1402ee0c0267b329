import JvmDerived
import JvmDerived.Pilot.@@N@@Statement
import JvmDerived.Pilot.@@N@@Code
set_option linter.unusedVariables false
set_option linter.unusedSimpArgs false
namespace Jvm.Pilot.@@N@@
open Jvm Jvm.ClassFile Sem Op Lib Jvm.Free Jvm.Stand Jvm.LawKit Jvm.RoadKit Bundle Jvm.Pilot.@@N@@.Jvm.D
/-! own kit (printed by wip/gen/kit.py) -/
/-- from here the walk comes to an end that K takes -/
def Run (p : Program) (e : Env) (below : List Frame) (m : MethodId) (K : State → Prop) (T : State) (pc : Nat) (L : Array Slot) (st : List Value) : Prop :=
  ∃ u, Steps p.tables e below (T.setTop (mkF m pc L st)) u ∧ K u
/-- what goes through a whole body -/
def Cx (p : Program) (l : Launch) (e : Env) (R : Room) (s : State) (m : MethodId) (args : Array Value) (below : List Frame) (meth : Method) (c : Code) (Z : State) (bytes : ByteArray) (ml : Nat) (own : String) (ret : Option FieldType) (mname : String) (n0 : Nat) (T : State) (h : Heap) (cells slots : Nat) : Prop :=
  (∃ locs, Stand p l e R s m args below meth c T locs cells slots ∧ Fr n0 locs) ∧ T.heap = h ∧ p.tables.exec = Jvm.exec ∧ c.code = bytes ∧ c.maxLocals = ml ∧ Z.Warmed39 s.vm ∧ s.vm.findClass own = some m.cls ∧ meth.sig.returnType = ret ∧ meth.name = mname ∧ meth.locks = false ∧ n0 ≤ h.size
/-- the end of a body: what it returns and leaves is Q's -/
def Fin1 (below : List Frame) (s : State) (n0 : Nat) (Q : Option Value → Heap → Prop) (cN sN : Nat) (u : State) : Prop :=
  u.status = .running ∧ ∃ o, Ended u below o ∧ ∃ v L, o = .returned v ∧ (Q v u.heap ∧ Fr n0 L ∧ n0 ≤ u.heap.size) ∧ FrameEnd s o u L cN sN
/-- a body's contract -/
def Met1 (l : Launch) (Z : State) (n0 : Nat) (ws : List Jvm.Cond) (y : MethodName) (bytes : ByteArray) (ml : Nat) (ret : Option FieldType) (rm : Room) (as : Array Value) (h0 : Heap) (Q : Option Value → Heap → Prop) : Prop :=
  MetFree l y (head1 (Jvm.Cond.code y bytes ml ret :: ws) rm) (fun a U => a = as ∧ Z.Warmed39 U.vm ∧ U.heap = h0) (fun _ _ _ _ _ => True) (fun _ U o U' => ∃ v L, o = .returned v ∧ (Q v U'.heap ∧ Fr n0 L ∧ n0 ≤ U'.heap.size) ∧ FrameEnd U o U' L rm.cells rm.slots)
/-- an array: its kind, its length, what each place holds -/
def AF (Z : State) (h : Heap) (a : Addr) (ty : FieldType) (n : Nat) (f : Nat → Value) : Prop := ∃ c : Cell, Arr Z h a c ty ∧ c.slots.size = n ∧ n < 2 ^ 31 ∧ ∀ j, j < n → c.slots[j]? = some (f j)
def upd (f : Nat → Value) (i : Nat) (v : Value) : Nat → Value := fun j => if j = i then v else f j
section Own
variable {p : Program} {l : Launch} {e : Env} {R : Room} {s : State} {m : MethodId} {args : Array Value} {below : List Frame} {meth : Method} {c : Code} {Z : State} {bytes : ByteArray} {ml : Nat} {own mname : String} {ret : Option FieldType} {n0 : Nat} {T : State} {h : Heap} {cells slots : Nat} {K : State → Prop} {pc : Nat} {L : Array Slot} {st : List Value}
theorem Cx.sz (X : Cx p l e R s m args below meth c Z bytes ml own ret mname n0 T h cells slots) : n0 ≤ h.size := X.2.2.2.2.2.2.2.2.2.2
theorem Run.of {T' : State} {pc' : Nat} {L' : Array Slot} {st' : List Value} (h : ∀ t, Steps p.tables e below (T'.setTop (mkF m pc' L' st')) t → Steps p.tables e below (T.setTop (mkF m pc L st)) t) (r : Run p e below m K T' pc' L' st') : Run p e below m K T pc L st :=
  r.imp fun u q => ⟨h u q.1, q.2⟩
theorem upd_hit {f : Nat → Value} {i : Nat} {v : Value} : upd f i v i = v := if_pos rfl
theorem upd_miss {f : Nat → Value} {i j : Nat} {v : Value} (q : j ≠ i) : upd f i v j = f j := if_neg q
theorem idx_of {j : Int32} {i n : Nat} (hj : j.toInt = (i : Int)) (hi : i < n) : ¬ (j < 0 ∨ n ≤ j.toNatClampNeg) ∧ j.toNatClampNeg = i := by
  have q : j.toNatClampNeg = i := by show j.toInt.toNat = i; omega
  refine ⟨?_, q⟩
  rw [q, Int32.lt_iff_toInt_lt]
  have : (0 : Int32).toInt = 0 := rfl
  omega
theorem AF.lt {a : Addr} {ty : FieldType} {n : Nat} {f : Nat → Value} (A : AF Z h a ty n f) : a < h.size := by obtain ⟨c, A, -⟩ := A; exact A.lt
theorem AF.small {a : Addr} {ty : FieldType} {n : Nat} {f : Nat → Value} (A : AF Z h a ty n f) : n < 2 ^ 31 := by obtain ⟨c, -, -, q, -⟩ := A; exact q
theorem AF.ext {a : Addr} {ty : FieldType} {n : Nat} {f : Nat → Value} {h' : Heap} (A : AF Z h a ty n f) (E : Ext h h') : AF Z h' a ty n f := by obtain ⟨c, A, r⟩ := A; exact ⟨c, A.ext E, r⟩
theorem AF.other {a b : Addr} {ty : FieldType} {n sl : Nat} {v : Value} {f : Nat → Value} {h' : Heap} (A : AF Z h b ty n f) (W : Wr h h' a sl v) (q : b ≠ a) : AF Z h' b ty n f := by obtain ⟨c, A, r⟩ := A; exact ⟨c, A.other W q, r⟩
theorem AF.keep {a : Addr} {ty : FieldType} {n : Nat} {f : Nat → Value} {h' : Heap} {ws : List Addr} (A : AF Z h a ty n f) (K : Keep h h' ws) (q : a ∉ ws) : AF Z h' a ty n f := by obtain ⟨c, A, r⟩ := A; exact ⟨c, ⟨K.2.1 a c A.1 q, A.2⟩, r⟩
theorem AF.set {a : Addr} {ty : FieldType} {n i : Nat} {v : Value} {f : Nat → Value} {h' : Heap} (A : AF Z h a ty n f) (W : Wr h h' a i v) : AF Z h' a ty n (upd f i v) := by
  obtain ⟨c, A, S, q, H⟩ := A
  refine ⟨_, A.same W, by rw [sz_set]; exact S, q, fun j hj => ?_⟩
  show (c.slots.setIfInBounds i v)[j]? = _
  rw [Array.getElem?_setIfInBounds, S]
  by_cases e : i = j
  · subst e; simp [hj, upd]
  · have e' : j ≠ i := fun q => e q.symm
    simp [e, upd, e', H j hj]
theorem AF.congr {a : Addr} {ty : FieldType} {n : Nat} {f g : Nat → Value} (A : AF Z h a ty n f) (q : ∀ j, j < n → f j = g j) : AF Z h a ty n g := by
  obtain ⟨c, A, S, r, H⟩ := A; exact ⟨c, A, S, r, fun j hj => by rw [H j hj, q j hj]⟩
theorem AF.ne_obj {a b : Addr} {ty : FieldType} {n k : Nat} {f : Nat → Value} {C : String} {a0 : Array Value} (A : AF Z h b ty n f) (E : Exa Z h a C) (wi : (Jvm.Cond.instantiable C k).before a0 Z = true) : a ≠ b := by obtain ⟨c, A, -⟩ := A; exact ne_arr E wi A
theorem r_topI {x x' : Int32} (q : x = x') (r : Run p e below m K T pc L (.int x' :: st)) : Run p e below m K T pc L (.int x :: st) := q ▸ r
theorem r_topJ {x x' : Int64} (q : x = x') (r : Run p e below m K T pc L (.long x' :: st)) : Run p e below m K T pc L (.long x :: st) := q ▸ r
theorem r_top {x x' : Value} (q : x = x') (r : Run p e below m K T pc L (x' :: st)) : Run p e below m K T pc L (x :: st) := q ▸ r
theorem r_loc {L' : Array Slot} (q : L = L') (r : Run p e below m K T pc L' st) : Run p e below m K T pc L st := q ▸ r
theorem r_iload (pc' : Nat) (X : Cx p l e R s m args below meth c Z bytes ml own ret mname n0 T h cells slots) {k : Nat} {v : Int32} (hd : decode bytes pc = .ok (.iload k, 2)) (hl : L[k]? = some (.val (.int v))) (r : Run p e below m K T pc' L (.int v :: st)) (q : pc + 2 = pc' := by rfl) : Run p e below m K T pc L st := by
  obtain ⟨⟨locs, X, -⟩, -, hx, hby, -⟩ := X
  subst q hby
  exact Run.of (fun t k => XS.iload X.here hx rfl hd hl k) r
theorem r_iloadN (pc' : Nat) (X : Cx p l e R s m args below meth c Z bytes ml own ret mname n0 T h cells slots) {k : Fin 4} {v : Int32} (hd : decode bytes pc = .ok (.iload_n k, 1)) (hl : L[k.val]? = some (.val (.int v))) (r : Run p e below m K T pc' L (.int v :: st)) (q : pc + 1 = pc' := by rfl) : Run p e below m K T pc L st := by
  obtain ⟨⟨locs, X, -⟩, -, hx, hby, -⟩ := X
  subst q hby
  exact Run.of (fun t k => XS.iloadN X.here hx rfl hd hl k) r
theorem r_istore (pc' : Nat) (X : Cx p l e R s m args below meth c Z bytes ml own ret mname n0 T h cells slots) {k : Nat} {v : Int32} (L' : Array Slot) (hd : decode bytes pc = .ok (.istore k, 2)) (hl : storeLocals L k (.int v) = some L') (r : Run p e below m K T pc' L' st) (q : pc + 2 = pc' := by rfl) : Run p e below m K T pc L (.int v :: st) := by
  obtain ⟨⟨locs, X, -⟩, -, hx, hby, -⟩ := X
  subst q hby
  exact Run.of (fun t k => XS.istore X.here hx rfl hd rfl hl k) r
theorem r_istoreN (pc' : Nat) (X : Cx p l e R s m args below meth c Z bytes ml own ret mname n0 T h cells slots) {k : Fin 4} {v : Int32} (L' : Array Slot) (hd : decode bytes pc = .ok (.istore_n k, 1)) (hl : storeLocals L k.val (.int v) = some L') (r : Run p e below m K T pc' L' st) (q : pc + 1 = pc' := by rfl) : Run p e below m K T pc L (.int v :: st) := by
  obtain ⟨⟨locs, X, -⟩, -, hx, hby, -⟩ := X
  subst q hby
  exact Run.of (fun t k => XS.istoreN X.here hx rfl hd rfl hl k) r
theorem r_lload (pc' : Nat) (X : Cx p l e R s m args below meth c Z bytes ml own ret mname n0 T h cells slots) {k : Nat} {v : Int64} (hd : decode bytes pc = .ok (.lload k, 2)) (hl : L[k]? = some (.val (.long v))) (r : Run p e below m K T pc' L (.long v :: st)) (q : pc + 2 = pc' := by rfl) : Run p e below m K T pc L st := by
  obtain ⟨⟨locs, X, -⟩, -, hx, hby, -⟩ := X
  subst q hby
  exact Run.of (fun t k => XS.lload X.here hx rfl hd hl k) r
theorem r_lloadN (pc' : Nat) (X : Cx p l e R s m args below meth c Z bytes ml own ret mname n0 T h cells slots) {k : Fin 4} {v : Int64} (hd : decode bytes pc = .ok (.lload_n k, 1)) (hl : L[k.val]? = some (.val (.long v))) (r : Run p e below m K T pc' L (.long v :: st)) (q : pc + 1 = pc' := by rfl) : Run p e below m K T pc L st := by
  obtain ⟨⟨locs, X, -⟩, -, hx, hby, -⟩ := X
  subst q hby
  exact Run.of (fun t k => XS.lloadN X.here hx rfl hd hl k) r
theorem r_lstore (pc' : Nat) (X : Cx p l e R s m args below meth c Z bytes ml own ret mname n0 T h cells slots) {k : Nat} {v : Int64} (L' : Array Slot) (hd : decode bytes pc = .ok (.lstore k, 2)) (hl : storeLocals L k (.long v) = some L') (r : Run p e below m K T pc' L' st) (q : pc + 2 = pc' := by rfl) : Run p e below m K T pc L (.long v :: st) := by
  obtain ⟨⟨locs, X, -⟩, -, hx, hby, -⟩ := X
  subst q hby
  exact Run.of (fun t k => XS.lstore X.here hx rfl hd rfl hl k) r
theorem r_lstoreN (pc' : Nat) (X : Cx p l e R s m args below meth c Z bytes ml own ret mname n0 T h cells slots) {k : Fin 4} {v : Int64} (L' : Array Slot) (hd : decode bytes pc = .ok (.lstore_n k, 1)) (hl : storeLocals L k.val (.long v) = some L') (r : Run p e below m K T pc' L' st) (q : pc + 1 = pc' := by rfl) : Run p e below m K T pc L (.long v :: st) := by
  obtain ⟨⟨locs, X, -⟩, -, hx, hby, -⟩ := X
  subst q hby
  exact Run.of (fun t k => XS.lstoreN X.here hx rfl hd rfl hl k) r
theorem r_dload (pc' : Nat) (X : Cx p l e R s m args below meth c Z bytes ml own ret mname n0 T h cells slots) {k : Nat} {v : UInt64} (hd : decode bytes pc = .ok (.dload k, 2)) (hl : L[k]? = some (.val (.double v))) (r : Run p e below m K T pc' L (.double v :: st)) (q : pc + 2 = pc' := by rfl) : Run p e below m K T pc L st := by
  obtain ⟨⟨locs, X, -⟩, -, hx, hby, -⟩ := X
  subst q hby
  exact Run.of (fun t k => XS.dload X.here hx rfl hd hl k) r
theorem r_dloadN (pc' : Nat) (X : Cx p l e R s m args below meth c Z bytes ml own ret mname n0 T h cells slots) {k : Fin 4} {v : UInt64} (hd : decode bytes pc = .ok (.dload_n k, 1)) (hl : L[k.val]? = some (.val (.double v))) (r : Run p e below m K T pc' L (.double v :: st)) (q : pc + 1 = pc' := by rfl) : Run p e below m K T pc L st := by
  obtain ⟨⟨locs, X, -⟩, -, hx, hby, -⟩ := X
  subst q hby
  exact Run.of (fun t k => XS.dloadN X.here hx rfl hd hl k) r
theorem r_dstore (pc' : Nat) (X : Cx p l e R s m args below meth c Z bytes ml own ret mname n0 T h cells slots) {k : Nat} {v : UInt64} (L' : Array Slot) (hd : decode bytes pc = .ok (.dstore k, 2)) (hl : storeLocals L k (.double v) = some L') (r : Run p e below m K T pc' L' st) (q : pc + 2 = pc' := by rfl) : Run p e below m K T pc L (.double v :: st) := by
  obtain ⟨⟨locs, X, -⟩, -, hx, hby, -⟩ := X
  subst q hby
  exact Run.of (fun t k => XS.dstore X.here hx rfl hd rfl hl k) r
theorem r_dstoreN (pc' : Nat) (X : Cx p l e R s m args below meth c Z bytes ml own ret mname n0 T h cells slots) {k : Fin 4} {v : UInt64} (L' : Array Slot) (hd : decode bytes pc = .ok (.dstore_n k, 1)) (hl : storeLocals L k.val (.double v) = some L') (r : Run p e below m K T pc' L' st) (q : pc + 1 = pc' := by rfl) : Run p e below m K T pc L (.double v :: st) := by
  obtain ⟨⟨locs, X, -⟩, -, hx, hby, -⟩ := X
  subst q hby
  exact Run.of (fun t k => XS.dstoreN X.here hx rfl hd rfl hl k) r
theorem r_aload (pc' : Nat) (X : Cx p l e R s m args below meth c Z bytes ml own ret mname n0 T h cells slots) {k : Nat} {v : Value} (hd : decode bytes pc = .ok (.aload k, 2)) (hl : L[k]? = some (.val v)) (hv : v.isRef = true) (r : Run p e below m K T pc' L (v :: st)) (q : pc + 2 = pc' := by rfl) : Run p e below m K T pc L st := by
  obtain ⟨⟨locs, X, -⟩, -, hx, hby, -⟩ := X
  subst q hby
  exact Run.of (fun t k => XS.aload X.here hx rfl hd hl hv k) r
theorem r_aloadN (pc' : Nat) (X : Cx p l e R s m args below meth c Z bytes ml own ret mname n0 T h cells slots) {k : Fin 4} {v : Value} (hd : decode bytes pc = .ok (.aload_n k, 1)) (hl : L[k.val]? = some (.val v)) (hv : v.isRef = true) (r : Run p e below m K T pc' L (v :: st)) (q : pc + 1 = pc' := by rfl) : Run p e below m K T pc L st := by
  obtain ⟨⟨locs, X, -⟩, -, hx, hby, -⟩ := X
  subst q hby
  exact Run.of (fun t k => XS.aloadN X.here hx rfl hd hl hv k) r
theorem r_astore (pc' : Nat) (X : Cx p l e R s m args below meth c Z bytes ml own ret mname n0 T h cells slots) {k : Nat} {v : Value} (L' : Array Slot) (hd : decode bytes pc = .ok (.astore k, 2)) (hv : v.isRef = true) (hl : storeLocals L k v = some L') (r : Run p e below m K T pc' L' st) (q : pc + 2 = pc' := by rfl) : Run p e below m K T pc L (v :: st) := by
  obtain ⟨⟨locs, X, -⟩, -, hx, hby, -⟩ := X
  subst q hby
  exact Run.of (fun t k => XS.astore X.here hx rfl hd rfl hv hl k) r
theorem r_astoreN (pc' : Nat) (X : Cx p l e R s m args below meth c Z bytes ml own ret mname n0 T h cells slots) {k : Fin 4} {v : Value} (L' : Array Slot) (hd : decode bytes pc = .ok (.astore_n k, 1)) (hv : v.isRef = true) (hl : storeLocals L k.val v = some L') (r : Run p e below m K T pc' L' st) (q : pc + 1 = pc' := by rfl) : Run p e below m K T pc L (v :: st) := by
  obtain ⟨⟨locs, X, -⟩, -, hx, hby, -⟩ := X
  subst q hby
  exact Run.of (fun t k => XS.astoreN X.here hx rfl hd rfl hv hl k) r
theorem r_iconst (pc' : Nat) (X : Cx p l e R s m args below meth c Z bytes ml own ret mname n0 T h cells slots) {i : Int} (z : Int32) (hd : decode bytes pc = .ok (.iconst i, 1)) (hz : Int32.ofInt i = z) (r : Run p e below m K T pc' L (.int z :: st)) (q : pc + 1 = pc' := by rfl) : Run p e below m K T pc L st := by
  obtain ⟨⟨locs, X, -⟩, -, hx, hby, -⟩ := X
  subst q hby hz
  exact Run.of (fun t k => XS.iconst X.here hx rfl hd  k) r
theorem r_bipush (pc' : Nat) (X : Cx p l e R s m args below meth c Z bytes ml own ret mname n0 T h cells slots) {i : Int} (z : Int32) (hd : decode bytes pc = .ok (.bipush i, 2)) (hz : (Int8.ofInt i).toInt32 = z) (r : Run p e below m K T pc' L (.int z :: st)) (q : pc + 2 = pc' := by rfl) : Run p e below m K T pc L st := by
  obtain ⟨⟨locs, X, -⟩, -, hx, hby, -⟩ := X
  subst q hby hz
  exact Run.of (fun t k => XS.bipush X.here hx rfl hd  k) r
theorem r_sipush (pc' : Nat) (X : Cx p l e R s m args below meth c Z bytes ml own ret mname n0 T h cells slots) {i : Int} (z : Int32) (hd : decode bytes pc = .ok (.sipush i, 3)) (hz : (Int16.ofInt i).toInt32 = z) (r : Run p e below m K T pc' L (.int z :: st)) (q : pc + 3 = pc' := by rfl) : Run p e below m K T pc L st := by
  obtain ⟨⟨locs, X, -⟩, -, hx, hby, -⟩ := X
  subst q hby hz
  exact Run.of (fun t k => XS.sipush X.here hx rfl hd  k) r
theorem r_lconst (pc' : Nat) (X : Cx p l e R s m args below meth c Z bytes ml own ret mname n0 T h cells slots) {i : Fin 2} (z : Int64) (hd : decode bytes pc = .ok (.lconst i, 1)) (hz : Int64.ofNat i = z) (r : Run p e below m K T pc' L (.long z :: st)) (q : pc + 1 = pc' := by rfl) : Run p e below m K T pc L st := by
  obtain ⟨⟨locs, X, -⟩, -, hx, hby, -⟩ := X
  subst q hby hz
  exact Run.of (fun t k => XS.lconst X.here hx rfl hd  k) r
theorem r_aconst_null (pc' : Nat) (X : Cx p l e R s m args below meth c Z bytes ml own ret mname n0 T h cells slots)  (hd : decode bytes pc = .ok (.aconst_null, 1))  (r : Run p e below m K T pc' L (.null :: st)) (q : pc + 1 = pc' := by rfl) : Run p e below m K T pc L st := by
  obtain ⟨⟨locs, X, -⟩, -, hx, hby, -⟩ := X
  subst q hby
  exact Run.of (fun t k => XS.aconstNull X.here hx rfl hd  k) r
theorem r_dconst0 (pc' : Nat) (X : Cx p l e R s m args below meth c Z bytes ml own ret mname n0 T h cells slots)  (hd : decode bytes pc = .ok (.dconst 0, 1))  (r : Run p e below m K T pc' L (.double FP.dconst0 :: st)) (q : pc + 1 = pc' := by rfl) : Run p e below m K T pc L st := by
  obtain ⟨⟨locs, X, -⟩, -, hx, hby, -⟩ := X
  subst q hby
  exact Run.of (fun t k => XS.dconst0 X.here hx rfl hd rfl k) r
theorem r_dconst1 (pc' : Nat) (X : Cx p l e R s m args below meth c Z bytes ml own ret mname n0 T h cells slots)  (hd : decode bytes pc = .ok (.dconst 1, 1))  (r : Run p e below m K T pc' L (.double FP.dconst1 :: st)) (q : pc + 1 = pc' := by rfl) : Run p e below m K T pc L st := by
  obtain ⟨⟨locs, X, -⟩, -, hx, hby, -⟩ := X
  subst q hby
  exact Run.of (fun t k => XS.dconst1 X.here hx rfl hd rfl k) r
theorem r_iadd (pc' : Nat) (X : Cx p l e R s m args below meth c Z bytes ml own ret mname n0 T h cells slots) {x y : Int32} (hd : decode bytes pc = .ok (.iadd, 1))  (r : Run p e below m K T pc' L (.int (x + y) :: st)) (q : pc + 1 = pc' := by rfl) : Run p e below m K T pc L (.int y :: .int x :: st) := by
  obtain ⟨⟨locs, X, -⟩, -, hx, hby, -⟩ := X
  subst q hby
  exact Run.of (fun t k => XS.iadd X.here hx rfl hd rfl k) r
theorem r_isub (pc' : Nat) (X : Cx p l e R s m args below meth c Z bytes ml own ret mname n0 T h cells slots) {x y : Int32} (hd : decode bytes pc = .ok (.isub, 1))  (r : Run p e below m K T pc' L (.int (x - y) :: st)) (q : pc + 1 = pc' := by rfl) : Run p e below m K T pc L (.int y :: .int x :: st) := by
  obtain ⟨⟨locs, X, -⟩, -, hx, hby, -⟩ := X
  subst q hby
  exact Run.of (fun t k => XS.isub X.here hx rfl hd rfl k) r
theorem r_imul (pc' : Nat) (X : Cx p l e R s m args below meth c Z bytes ml own ret mname n0 T h cells slots) {x y : Int32} (hd : decode bytes pc = .ok (.imul, 1))  (r : Run p e below m K T pc' L (.int (x * y) :: st)) (q : pc + 1 = pc' := by rfl) : Run p e below m K T pc L (.int y :: .int x :: st) := by
  obtain ⟨⟨locs, X, -⟩, -, hx, hby, -⟩ := X
  subst q hby
  exact Run.of (fun t k => XS.imul X.here hx rfl hd rfl k) r
theorem r_iand (pc' : Nat) (X : Cx p l e R s m args below meth c Z bytes ml own ret mname n0 T h cells slots) {x y : Int32} (hd : decode bytes pc = .ok (.iand, 1))  (r : Run p e below m K T pc' L (.int (x &&& y) :: st)) (q : pc + 1 = pc' := by rfl) : Run p e below m K T pc L (.int y :: .int x :: st) := by
  obtain ⟨⟨locs, X, -⟩, -, hx, hby, -⟩ := X
  subst q hby
  exact Run.of (fun t k => XS.iand X.here hx rfl hd rfl k) r
theorem r_ior (pc' : Nat) (X : Cx p l e R s m args below meth c Z bytes ml own ret mname n0 T h cells slots) {x y : Int32} (hd : decode bytes pc = .ok (.ior, 1))  (r : Run p e below m K T pc' L (.int (x ||| y) :: st)) (q : pc + 1 = pc' := by rfl) : Run p e below m K T pc L (.int y :: .int x :: st) := by
  obtain ⟨⟨locs, X, -⟩, -, hx, hby, -⟩ := X
  subst q hby
  exact Run.of (fun t k => XS.ior X.here hx rfl hd rfl k) r
theorem r_ixor (pc' : Nat) (X : Cx p l e R s m args below meth c Z bytes ml own ret mname n0 T h cells slots) {x y : Int32} (hd : decode bytes pc = .ok (.ixor, 1))  (r : Run p e below m K T pc' L (.int (x ^^^ y) :: st)) (q : pc + 1 = pc' := by rfl) : Run p e below m K T pc L (.int y :: .int x :: st) := by
  obtain ⟨⟨locs, X, -⟩, -, hx, hby, -⟩ := X
  subst q hby
  exact Run.of (fun t k => XS.ixor X.here hx rfl hd rfl k) r
theorem r_ishl (pc' : Nat) (X : Cx p l e R s m args below meth c Z bytes ml own ret mname n0 T h cells slots) {x y : Int32} (hd : decode bytes pc = .ok (.ishl, 1))  (r : Run p e below m K T pc' L (.int (x <<< (y &&& 31)) :: st)) (q : pc + 1 = pc' := by rfl) : Run p e below m K T pc L (.int y :: .int x :: st) := by
  obtain ⟨⟨locs, X, -⟩, -, hx, hby, -⟩ := X
  subst q hby
  exact Run.of (fun t k => XS.ishl X.here hx rfl hd rfl k) r
theorem r_ishr (pc' : Nat) (X : Cx p l e R s m args below meth c Z bytes ml own ret mname n0 T h cells slots) {x y : Int32} (hd : decode bytes pc = .ok (.ishr, 1))  (r : Run p e below m K T pc' L (.int (x >>> (y &&& 31)) :: st)) (q : pc + 1 = pc' := by rfl) : Run p e below m K T pc L (.int y :: .int x :: st) := by
  obtain ⟨⟨locs, X, -⟩, -, hx, hby, -⟩ := X
  subst q hby
  exact Run.of (fun t k => XS.ishr X.here hx rfl hd rfl k) r
theorem r_iushr (pc' : Nat) (X : Cx p l e R s m args below meth c Z bytes ml own ret mname n0 T h cells slots) {x y : Int32} (hd : decode bytes pc = .ok (.iushr, 1))  (r : Run p e below m K T pc' L (.int ((x.toUInt32 >>> (y &&& 31).toUInt32).toInt32) :: st)) (q : pc + 1 = pc' := by rfl) : Run p e below m K T pc L (.int y :: .int x :: st) := by
  obtain ⟨⟨locs, X, -⟩, -, hx, hby, -⟩ := X
  subst q hby
  exact Run.of (fun t k => XS.iushr X.here hx rfl hd rfl k) r
theorem r_ladd (pc' : Nat) (X : Cx p l e R s m args below meth c Z bytes ml own ret mname n0 T h cells slots) {x y : Int64} (hd : decode bytes pc = .ok (.ladd, 1))  (r : Run p e below m K T pc' L (.long (x + y) :: st)) (q : pc + 1 = pc' := by rfl) : Run p e below m K T pc L (.long y :: .long x :: st) := by
  obtain ⟨⟨locs, X, -⟩, -, hx, hby, -⟩ := X
  subst q hby
  exact Run.of (fun t k => XS.ladd X.here hx rfl hd rfl k) r
theorem r_lsub (pc' : Nat) (X : Cx p l e R s m args below meth c Z bytes ml own ret mname n0 T h cells slots) {x y : Int64} (hd : decode bytes pc = .ok (.lsub, 1))  (r : Run p e below m K T pc' L (.long (x - y) :: st)) (q : pc + 1 = pc' := by rfl) : Run p e below m K T pc L (.long y :: .long x :: st) := by
  obtain ⟨⟨locs, X, -⟩, -, hx, hby, -⟩ := X
  subst q hby
  exact Run.of (fun t k => XS.lsub X.here hx rfl hd rfl k) r
theorem r_lmul (pc' : Nat) (X : Cx p l e R s m args below meth c Z bytes ml own ret mname n0 T h cells slots) {x y : Int64} (hd : decode bytes pc = .ok (.lmul, 1))  (r : Run p e below m K T pc' L (.long (x * y) :: st)) (q : pc + 1 = pc' := by rfl) : Run p e below m K T pc L (.long y :: .long x :: st) := by
  obtain ⟨⟨locs, X, -⟩, -, hx, hby, -⟩ := X
  subst q hby
  exact Run.of (fun t k => XS.lmul X.here hx rfl hd rfl k) r
theorem r_land (pc' : Nat) (X : Cx p l e R s m args below meth c Z bytes ml own ret mname n0 T h cells slots) {x y : Int64} (hd : decode bytes pc = .ok (.land, 1))  (r : Run p e below m K T pc' L (.long (x &&& y) :: st)) (q : pc + 1 = pc' := by rfl) : Run p e below m K T pc L (.long y :: .long x :: st) := by
  obtain ⟨⟨locs, X, -⟩, -, hx, hby, -⟩ := X
  subst q hby
  exact Run.of (fun t k => XS.land X.here hx rfl hd rfl k) r
theorem r_lor (pc' : Nat) (X : Cx p l e R s m args below meth c Z bytes ml own ret mname n0 T h cells slots) {x y : Int64} (hd : decode bytes pc = .ok (.lor, 1))  (r : Run p e below m K T pc' L (.long (x ||| y) :: st)) (q : pc + 1 = pc' := by rfl) : Run p e below m K T pc L (.long y :: .long x :: st) := by
  obtain ⟨⟨locs, X, -⟩, -, hx, hby, -⟩ := X
  subst q hby
  exact Run.of (fun t k => XS.lor X.here hx rfl hd rfl k) r
theorem r_lxor (pc' : Nat) (X : Cx p l e R s m args below meth c Z bytes ml own ret mname n0 T h cells slots) {x y : Int64} (hd : decode bytes pc = .ok (.lxor, 1))  (r : Run p e below m K T pc' L (.long (x ^^^ y) :: st)) (q : pc + 1 = pc' := by rfl) : Run p e below m K T pc L (.long y :: .long x :: st) := by
  obtain ⟨⟨locs, X, -⟩, -, hx, hby, -⟩ := X
  subst q hby
  exact Run.of (fun t k => XS.lxor X.here hx rfl hd rfl k) r
theorem r_lshl (pc' : Nat) (X : Cx p l e R s m args below meth c Z bytes ml own ret mname n0 T h cells slots) {x : Int64} {y : Int32} (hd : decode bytes pc = .ok (.lshl, 1))  (r : Run p e below m K T pc' L (.long (x <<< (y &&& 0x3f).toInt64) :: st)) (q : pc + 1 = pc' := by rfl) : Run p e below m K T pc L (.int y :: .long x :: st) := by
  obtain ⟨⟨locs, X, -⟩, -, hx, hby, -⟩ := X
  subst q hby
  exact Run.of (fun t k => XS.lshl X.here hx rfl hd rfl k) r
theorem r_lshr (pc' : Nat) (X : Cx p l e R s m args below meth c Z bytes ml own ret mname n0 T h cells slots) {x : Int64} {y : Int32} (hd : decode bytes pc = .ok (.lshr, 1))  (r : Run p e below m K T pc' L (.long (x >>> (y &&& 0x3f).toInt64) :: st)) (q : pc + 1 = pc' := by rfl) : Run p e below m K T pc L (.int y :: .long x :: st) := by
  obtain ⟨⟨locs, X, -⟩, -, hx, hby, -⟩ := X
  subst q hby
  exact Run.of (fun t k => XS.lshr X.here hx rfl hd rfl k) r
theorem r_lushr (pc' : Nat) (X : Cx p l e R s m args below meth c Z bytes ml own ret mname n0 T h cells slots) {x : Int64} {y : Int32} (hd : decode bytes pc = .ok (.lushr, 1))  (r : Run p e below m K T pc' L (.long ((x.toUInt64 >>> (y &&& 0x3f).toInt64.toUInt64).toInt64) :: st)) (q : pc + 1 = pc' := by rfl) : Run p e below m K T pc L (.int y :: .long x :: st) := by
  obtain ⟨⟨locs, X, -⟩, -, hx, hby, -⟩ := X
  subst q hby
  exact Run.of (fun t k => XS.lushr X.here hx rfl hd rfl k) r
theorem r_lcmp (pc' : Nat) (X : Cx p l e R s m args below meth c Z bytes ml own ret mname n0 T h cells slots) {x y : Int64} (hd : decode bytes pc = .ok (.lcmp, 1))  (r : Run p e below m K T pc' L (.int (lcmpW x y) :: st)) (q : pc + 1 = pc' := by rfl) : Run p e below m K T pc L (.long y :: .long x :: st) := by
  obtain ⟨⟨locs, X, -⟩, -, hx, hby, -⟩ := X
  subst q hby
  exact Run.of (fun t k => XS.lcmp X.here hx rfl hd rfl k) r
theorem r_idiv (pc' : Nat) (X : Cx p l e R s m args below meth c Z bytes ml own ret mname n0 T h cells slots) {x y : Int32} (hd : decode bytes pc = .ok (.idiv, 1)) (hy : y ≠ 0) (r : Run p e below m K T pc' L (.int (x / y) :: st)) (q : pc + 1 = pc' := by rfl) : Run p e below m K T pc L (.int y :: .int x :: st) := by
  obtain ⟨⟨locs, X, -⟩, -, hx, hby, -⟩ := X
  subst q hby
  exact Run.of (fun t k => XS.idiv X.here hx rfl hd rfl hy k) r
theorem r_ldiv (pc' : Nat) (X : Cx p l e R s m args below meth c Z bytes ml own ret mname n0 T h cells slots) {x y : Int64} (hd : decode bytes pc = .ok (.ldiv, 1)) (hy : y ≠ 0) (r : Run p e below m K T pc' L (.long (x / y) :: st)) (q : pc + 1 = pc' := by rfl) : Run p e below m K T pc L (.long y :: .long x :: st) := by
  obtain ⟨⟨locs, X, -⟩, -, hx, hby, -⟩ := X
  subst q hby
  exact Run.of (fun t k => XS.ldiv X.here hx rfl hd rfl hy k) r
theorem r_irem (pc' : Nat) (X : Cx p l e R s m args below meth c Z bytes ml own ret mname n0 T h cells slots) {x y : Int32} (hd : decode bytes pc = .ok (.irem, 1)) (hy : y ≠ 0) (r : Run p e below m K T pc' L (.int (x % y) :: st)) (q : pc + 1 = pc' := by rfl) : Run p e below m K T pc L (.int y :: .int x :: st) := by
  obtain ⟨⟨locs, X, -⟩, -, hx, hby, -⟩ := X
  subst q hby
  exact Run.of (fun t k => iremM (g := mkF m pc L (.int y :: .int x :: st)) X hx rfl hd rfl hy k) r
theorem r_lrem (pc' : Nat) (X : Cx p l e R s m args below meth c Z bytes ml own ret mname n0 T h cells slots) {x y : Int64} (hd : decode bytes pc = .ok (.lrem, 1)) (hy : y ≠ 0) (r : Run p e below m K T pc' L (.long (x % y) :: st)) (q : pc + 1 = pc' := by rfl) : Run p e below m K T pc L (.long y :: .long x :: st) := by
  obtain ⟨⟨locs, X, -⟩, -, hx, hby, -⟩ := X
  subst q hby
  rw [← lrem_mod x y] at r
  exact Run.of (fun t k => XS.lrem X.here hx rfl hd rfl hy k) r
theorem r_ineg (pc' : Nat) (X : Cx p l e R s m args below meth c Z bytes ml own ret mname n0 T h cells slots) {x : Int32} (hd : decode bytes pc = .ok (.ineg, 1))  (r : Run p e below m K T pc' L (.int (-x) :: st)) (q : pc + 1 = pc' := by rfl) : Run p e below m K T pc L (.int x :: st) := by
  obtain ⟨⟨locs, X, -⟩, -, hx, hby, -⟩ := X
  subst q hby
  exact Run.of (fun t k => XS.ineg X.here hx rfl hd rfl k) r
theorem r_lneg (pc' : Nat) (X : Cx p l e R s m args below meth c Z bytes ml own ret mname n0 T h cells slots) {x : Int64} (hd : decode bytes pc = .ok (.lneg, 1))  (r : Run p e below m K T pc' L (.long (-x) :: st)) (q : pc + 1 = pc' := by rfl) : Run p e below m K T pc L (.long x :: st) := by
  obtain ⟨⟨locs, X, -⟩, -, hx, hby, -⟩ := X
  subst q hby
  exact Run.of (fun t k => XS.lneg X.here hx rfl hd rfl k) r
theorem r_i2l (pc' : Nat) (X : Cx p l e R s m args below meth c Z bytes ml own ret mname n0 T h cells slots) {x : Int32} (hd : decode bytes pc = .ok (.i2l, 1))  (r : Run p e below m K T pc' L (.long (x.toInt64) :: st)) (q : pc + 1 = pc' := by rfl) : Run p e below m K T pc L (.int x :: st) := by
  obtain ⟨⟨locs, X, -⟩, -, hx, hby, -⟩ := X
  subst q hby
  exact Run.of (fun t k => XS.i2l X.here hx rfl hd rfl k) r
theorem r_l2i (pc' : Nat) (X : Cx p l e R s m args below meth c Z bytes ml own ret mname n0 T h cells slots) {x : Int64} (hd : decode bytes pc = .ok (.l2i, 1))  (r : Run p e below m K T pc' L (.int (x.toInt32) :: st)) (q : pc + 1 = pc' := by rfl) : Run p e below m K T pc L (.long x :: st) := by
  obtain ⟨⟨locs, X, -⟩, -, hx, hby, -⟩ := X
  subst q hby
  exact Run.of (fun t k => XS.l2i X.here hx rfl hd rfl k) r
theorem r_i2b (pc' : Nat) (X : Cx p l e R s m args below meth c Z bytes ml own ret mname n0 T h cells slots) {x : Int32} (hd : decode bytes pc = .ok (.i2b, 1))  (r : Run p e below m K T pc' L (.int (x.toInt8.toInt32) :: st)) (q : pc + 1 = pc' := by rfl) : Run p e below m K T pc L (.int x :: st) := by
  obtain ⟨⟨locs, X, -⟩, -, hx, hby, -⟩ := X
  subst q hby
  exact Run.of (fun t k => XS.i2b X.here hx rfl hd rfl k) r
theorem r_i2s (pc' : Nat) (X : Cx p l e R s m args below meth c Z bytes ml own ret mname n0 T h cells slots) {x : Int32} (hd : decode bytes pc = .ok (.i2s, 1))  (r : Run p e below m K T pc' L (.int (x.toInt16.toInt32) :: st)) (q : pc + 1 = pc' := by rfl) : Run p e below m K T pc L (.int x :: st) := by
  obtain ⟨⟨locs, X, -⟩, -, hx, hby, -⟩ := X
  subst q hby
  exact Run.of (fun t k => XS.i2s X.here hx rfl hd rfl k) r
theorem r_i2c (pc' : Nat) (X : Cx p l e R s m args below meth c Z bytes ml own ret mname n0 T h cells slots) {x : Int32} (hd : decode bytes pc = .ok (.i2c, 1))  (r : Run p e below m K T pc' L (.int (x.toUInt32.toUInt16.toUInt32.toInt32) :: st)) (q : pc + 1 = pc' := by rfl) : Run p e below m K T pc L (.int x :: st) := by
  obtain ⟨⟨locs, X, -⟩, -, hx, hby, -⟩ := X
  subst q hby
  exact Run.of (fun t k => XS.i2c X.here hx rfl hd rfl k) r
theorem r_iinc (pc' : Nat) (X : Cx p l e R s m args below meth c Z bytes ml own ret mname n0 T h cells slots) {k : Nat} {cst : Int} {x : Int32} (z : Int32) (L' : Array Slot) (hd : decode bytes pc = .ok (.iinc k cst, 3)) (hl : L[k]? = some (.val (.int x))) (hz : Int32.ofInt cst = z) (hl' : storeLocals L k (.int (x + z)) = some L') (r : Run p e below m K T pc' L' st) (q : pc + 3 = pc' := by rfl) : Run p e below m K T pc L st := by
  obtain ⟨⟨locs, X, -⟩, -, hx, hby, -⟩ := X
  subst q hby
  exact Run.of (fun t k => XS.iinc X.here hx rfl hd hl (hz.symm ▸ hl') k) r
theorem r_dup (pc' : Nat) (X : Cx p l e R s m args below meth c Z bytes ml own ret mname n0 T h cells slots) {x : Value} (hd : decode bytes pc = .ok (.dup, 1)) (hc : x.category = 1) (r : Run p e below m K T pc' L (x :: x :: st)) (q : pc + 1 = pc' := by rfl) : Run p e below m K T pc L (x :: st) := by
  obtain ⟨⟨locs, X, -⟩, -, hx, hby, -⟩ := X
  subst q hby
  exact Run.of (fun t k => XS.dup X.here hx rfl hd rfl hc k) r
theorem r_pop (pc' : Nat) (X : Cx p l e R s m args below meth c Z bytes ml own ret mname n0 T h cells slots) {x : Value} (hd : decode bytes pc = .ok (.pop, 1)) (hc : x.category = 1) (r : Run p e below m K T pc' L st) (q : pc + 1 = pc' := by rfl) : Run p e below m K T pc L (x :: st) := by
  obtain ⟨⟨locs, X, -⟩, -, hx, hby, -⟩ := X
  subst q hby
  exact Run.of (fun t k => XS.pop X.here hx rfl hd rfl hc k) r
theorem r_swap (pc' : Nat) (X : Cx p l e R s m args below meth c Z bytes ml own ret mname n0 T h cells slots) {x y : Value} (hd : decode bytes pc = .ok (.swap, 1)) (hc : x.category = 1) (hc2 : y.category = 1) (r : Run p e below m K T pc' L (y :: x :: st)) (q : pc + 1 = pc' := by rfl) : Run p e below m K T pc L (x :: y :: st) := by
  obtain ⟨⟨locs, X, -⟩, -, hx, hby, -⟩ := X
  subst q hby
  exact Run.of (fun t k => XS.swap X.here hx rfl hd rfl hc hc2 k) r
theorem r_dup_x1 (pc' : Nat) (X : Cx p l e R s m args below meth c Z bytes ml own ret mname n0 T h cells slots) {x y : Value} (hd : decode bytes pc = .ok (.dup_x1, 1)) (hc : x.category = 1) (hc2 : y.category = 1) (r : Run p e below m K T pc' L (x :: y :: x :: st)) (q : pc + 1 = pc' := by rfl) : Run p e below m K T pc L (x :: y :: st) := by
  obtain ⟨⟨locs, X, -⟩, -, hx, hby, -⟩ := X
  subst q hby
  exact Run.of (fun t k => XS.dupX1 X.here hx rfl hd rfl hc hc2 k) r
theorem r_i2d (pc' : Nat) (X : Cx p l e R s m args below meth c Z bytes ml own ret mname n0 T h cells slots) {x : Int32} (hd : decode bytes pc = .ok (.i2d, 1))  (r : Run p e below m K T pc' L (.double (FP.i2d x) :: st)) (q : pc + 1 = pc' := by rfl) : Run p e below m K T pc L (.int x :: st) := by
  obtain ⟨⟨locs, X, -⟩, -, hx, hby, -⟩ := X
  subst q hby
  exact Run.of (fun t k => XS.i2dS X.here hx rfl hd rfl rfl k) r
theorem r_dneg (pc' : Nat) (X : Cx p l e R s m args below meth c Z bytes ml own ret mname n0 T h cells slots) {x : UInt64} (hd : decode bytes pc = .ok (.dneg, 1))  (r : Run p e below m K T pc' L (.double (FP.dneg x) :: st)) (q : pc + 1 = pc' := by rfl) : Run p e below m K T pc L (.double x :: st) := by
  obtain ⟨⟨locs, X, -⟩, -, hx, hby, -⟩ := X
  subst q hby
  exact Run.of (fun t k => XS.dnegS X.here hx rfl hd rfl rfl k) r
theorem r_dadd (pc' : Nat) (X : Cx p l e R s m args below meth c Z bytes ml own ret mname n0 T h cells slots) {x y : UInt64} (hd : decode bytes pc = .ok (.dadd, 1)) (hn : Jvm.Free.Fl.NoNaN64 (FP.dadd x y)) (r : Run p e below m K T pc' L (.double (FP.dadd x y) :: st)) (q : pc + 1 = pc' := by rfl) : Run p e below m K T pc L (.double y :: .double x :: st) := by
  obtain ⟨⟨locs, X, -⟩, -, hx, hby, -⟩ := X
  subst q hby
  exact Run.of (fun t k => XS.daddS X.here hx rfl hd rfl hn rfl k) r
theorem r_dsub (pc' : Nat) (X : Cx p l e R s m args below meth c Z bytes ml own ret mname n0 T h cells slots) {x y : UInt64} (hd : decode bytes pc = .ok (.dsub, 1)) (hn : Jvm.Free.Fl.NoNaN64 (FP.dsub x y)) (r : Run p e below m K T pc' L (.double (FP.dsub x y) :: st)) (q : pc + 1 = pc' := by rfl) : Run p e below m K T pc L (.double y :: .double x :: st) := by
  obtain ⟨⟨locs, X, -⟩, -, hx, hby, -⟩ := X
  subst q hby
  exact Run.of (fun t k => XS.dsubS X.here hx rfl hd rfl hn rfl k) r
theorem r_dcmpSelf (pc' : Nat) (X : Cx p l e R s m args below meth c Z bytes ml own ret mname n0 T h cells slots) {o : CmpOp} {x : UInt64} (hd : decode bytes pc = .ok (.dcmp o, 1)) (hn : Jvm.Free.Fl.NoNaN64 x) (r : Run p e below m K T pc' L (.int 0 :: st)) (q : pc + 1 = pc' := by rfl) : Run p e below m K T pc L (.double x :: .double x :: st) := by
  obtain ⟨⟨locs, X, -⟩, -, hx, hby, -⟩ := X
  subst q hby
  exact Run.of (fun t k => XS.dcmpS X.here hx rfl hd rfl (dcmpV_self hn o) k) r
theorem r_dup2_2 (pc' : Nat) (X : Cx p l e R s m args below meth c Z bytes ml own ret mname n0 T h cells slots) {x y : Value} (hd : decode bytes pc = .ok (.dup2, 1)) (hc : x.category = 1) (hc2 : y.category = 1) (r : Run p e below m K T pc' L (x :: y :: x :: y :: st)) (q : pc + 1 = pc' := by rfl) : Run p e below m K T pc L (x :: y :: st) := by
  obtain ⟨⟨locs, X, -⟩, -, hx, hby, -⟩ := X
  subst q hby
  refine Run.of (fun t k => ?_) r
  jvm_step X.here [X.here.top, hx, hd, hc, hc2]
  exact k
theorem r_dup2_1 (pc' : Nat) (X : Cx p l e R s m args below meth c Z bytes ml own ret mname n0 T h cells slots) {x : Value} (hd : decode bytes pc = .ok (.dup2, 1)) (hc : x.category = 2) (r : Run p e below m K T pc' L (x :: x :: st)) (q : pc + 1 = pc' := by rfl) : Run p e below m K T pc L (x :: st) := by
  obtain ⟨⟨locs, X, -⟩, -, hx, hby, -⟩ := X
  subst q hby
  refine Run.of (fun t k => ?_) r
  jvm_step X.here [X.here.top, hx, hd, hc]
  exact k
theorem r_dup_x2_111 (pc' : Nat) (X : Cx p l e R s m args below meth c Z bytes ml own ret mname n0 T h cells slots) {x y z : Value} (hd : decode bytes pc = .ok (.dup_x2, 1)) (hc : x.category = 1) (hc2 : y.category = 1) (hc3 : z.category = 1) (r : Run p e below m K T pc' L (x :: y :: z :: x :: st)) (q : pc + 1 = pc' := by rfl) : Run p e below m K T pc L (x :: y :: z :: st) := by
  obtain ⟨⟨locs, X, -⟩, -, hx, hby, -⟩ := X
  subst q hby
  refine Run.of (fun t k => ?_) r
  jvm_step X.here [X.here.top, hx, hd, hc, hc2, hc3]
  exact k
theorem r_dup2_x1_2 (pc' : Nat) (X : Cx p l e R s m args below meth c Z bytes ml own ret mname n0 T h cells slots) {x y : Value} (hd : decode bytes pc = .ok (.dup2_x1, 1)) (hc : x.category = 2) (hc2 : y.category = 1) (r : Run p e below m K T pc' L (x :: y :: x :: st)) (q : pc + 1 = pc' := by rfl) : Run p e below m K T pc L (x :: y :: st) := by
  obtain ⟨⟨locs, X, -⟩, -, hx, hby, -⟩ := X
  subst q hby
  refine Run.of (fun t k => ?_) r
  jvm_step X.here [X.here.top, hx, hd, hc, hc2]
  exact k
theorem r_dup2_x2_2 (pc' : Nat) (X : Cx p l e R s m args below meth c Z bytes ml own ret mname n0 T h cells slots) {x y z : Value} (hd : decode bytes pc = .ok (.dup2_x2, 1)) (hc : x.category = 2) (hc2 : y.category = 1) (hc3 : z.category = 1) (r : Run p e below m K T pc' L (x :: y :: z :: x :: st)) (q : pc + 1 = pc' := by rfl) : Run p e below m K T pc L (x :: y :: z :: st) := by
  obtain ⟨⟨locs, X, -⟩, -, hx, hby, -⟩ := X
  subst q hby
  refine Run.of (fun t k => ?_) r
  jvm_step X.here [X.here.top, hx, hd, hc, hc2, hc3]
  exact k
theorem r_pop2_1 (pc' : Nat) (X : Cx p l e R s m args below meth c Z bytes ml own ret mname n0 T h cells slots) {x : Value} (hd : decode bytes pc = .ok (.pop2, 1)) (hc : x.category = 2) (r : Run p e below m K T pc' L st) (q : pc + 1 = pc' := by rfl) : Run p e below m K T pc L (x :: st) := by
  obtain ⟨⟨locs, X, -⟩, -, hx, hby, -⟩ := X
  subst q hby
  refine Run.of (fun t k => ?_) r
  jvm_step X.here [X.here.top, hx, hd, hc]
  exact k
theorem r_goto (pc' : Nat) (X : Cx p l e R s m args below meth c Z bytes ml own ret mname n0 T h cells slots) {o : Int} (hd : decode bytes pc = .ok (.goto o, 3)) (r : Run p e below m K T pc' L st) (ho : 0 ≤ (pc : Int) + o := by decide) (hp : ((pc : Int) + o).toNat = pc' := by decide) : Run p e below m K T pc L st := by
  obtain ⟨⟨locs, X, -⟩, -, hx, hby, -⟩ := X
  subst hby
  exact Run.of (fun t k => XS.goto X.here hx rfl (pc0 := pc) (pc' := pc') rfl hd ho hp k) r
theorem r_ifY (pc' : Nat) (X : Cx p l e R s m args below meth c Z bytes ml own ret mname n0 T h cells slots) {cd : ClassFile.Cond} {o : Int} {x : Int32} (hd : decode bytes pc = .ok (.ifCond cd o, 3)) (hc : ifCond.holds cd x = true) (r : Run p e below m K T pc' L st) (ho : 0 ≤ (pc : Int) + o := by decide) (hp : ((pc : Int) + o).toNat = pc' := by decide) : Run p e below m K T pc L (.int x :: st) := by
  obtain ⟨⟨locs, X, -⟩, -, hx, hby, -⟩ := X
  subst hby
  exact Run.of (fun t k => XS.ifYes X.here hx rfl (pc0 := pc) (pc' := pc') rfl hd rfl hc ho hp k) r
theorem r_ifN (pc' : Nat) (X : Cx p l e R s m args below meth c Z bytes ml own ret mname n0 T h cells slots) {cd : ClassFile.Cond} {o : Int} {x : Int32} (hd : decode bytes pc = .ok (.ifCond cd o, 3)) (hc : ifCond.holds cd x = false) (r : Run p e below m K T pc' L st) (q : pc + 3 = pc' := by rfl) : Run p e below m K T pc L (.int x :: st) := by
  obtain ⟨⟨locs, X, -⟩, -, hx, hby, -⟩ := X
  subst q hby
  exact Run.of (fun t k => XS.ifNo X.here hx rfl hd rfl hc k) r
theorem r_icmpY (pc' : Nat) (X : Cx p l e R s m args below meth c Z bytes ml own ret mname n0 T h cells slots) {cd : ClassFile.Cond} {o : Int} {x y : Int32} (hd : decode bytes pc = .ok (.if_icmp cd o, 3)) (hc : if_icmp.holds cd x y = true) (r : Run p e below m K T pc' L st) (ho : 0 ≤ (pc : Int) + o := by decide) (hp : ((pc : Int) + o).toNat = pc' := by decide) : Run p e below m K T pc L (.int y :: .int x :: st) := by
  obtain ⟨⟨locs, X, -⟩, -, hx, hby, -⟩ := X
  subst hby
  exact Run.of (fun t k => XS.icmpYes X.here hx rfl (pc0 := pc) (pc' := pc') rfl hd rfl hc ho hp k) r
theorem r_icmpN (pc' : Nat) (X : Cx p l e R s m args below meth c Z bytes ml own ret mname n0 T h cells slots) {cd : ClassFile.Cond} {o : Int} {x y : Int32} (hd : decode bytes pc = .ok (.if_icmp cd o, 3)) (hc : if_icmp.holds cd x y = false) (r : Run p e below m K T pc' L st) (q : pc + 3 = pc' := by rfl) : Run p e below m K T pc L (.int y :: .int x :: st) := by
  obtain ⟨⟨locs, X, -⟩, -, hx, hby, -⟩ := X
  subst q hby
  exact Run.of (fun t k => XS.icmpNo X.here hx rfl hd rfl hc k) r
theorem r_ifnullY (pc' : Nat) (X : Cx p l e R s m args below meth c Z bytes ml own ret mname n0 T h cells slots) {o : Int}  (hd : decode bytes pc = .ok (.ifnull o, 3)) (r : Run p e below m K T pc' L st) (ho : 0 ≤ (pc : Int) + o := by decide) (hp : ((pc : Int) + o).toNat = pc' := by decide) : Run p e below m K T pc L (.null :: st) := by
  obtain ⟨⟨locs, X, -⟩, -, hx, hby, -⟩ := X
  subst hby
  exact Run.of (fun t k => XS.ifnullYes X.here hx rfl (pc0 := pc) (pc' := pc') rfl hd rfl ho hp k) r
theorem r_ifnullN (pc' : Nat) (X : Cx p l e R s m args below meth c Z bytes ml own ret mname n0 T h cells slots) {o : Int} {b : Addr} (hd : decode bytes pc = .ok (.ifnull o, 3)) (r : Run p e below m K T pc' L st) (q : pc + 3 = pc' := by rfl) : Run p e below m K T pc L (.ref b :: st) := by
  obtain ⟨⟨locs, X, -⟩, -, hx, hby, -⟩ := X
  subst q hby
  exact Run.of (fun t k => XS.ifnullNo X.here hx rfl hd rfl k) r
theorem r_ifnonnullY (pc' : Nat) (X : Cx p l e R s m args below meth c Z bytes ml own ret mname n0 T h cells slots) {o : Int} {b : Addr} (hd : decode bytes pc = .ok (.ifnonnull o, 3)) (r : Run p e below m K T pc' L st) (ho : 0 ≤ (pc : Int) + o := by decide) (hp : ((pc : Int) + o).toNat = pc' := by decide) : Run p e below m K T pc L (.ref b :: st) := by
  obtain ⟨⟨locs, X, -⟩, -, hx, hby, -⟩ := X
  subst hby
  exact Run.of (fun t k => XS.ifnonnullYes X.here hx rfl (pc0 := pc) (pc' := pc') rfl hd rfl ho hp k) r
theorem r_ifnonnullN (pc' : Nat) (X : Cx p l e R s m args below meth c Z bytes ml own ret mname n0 T h cells slots) {o : Int}  (hd : decode bytes pc = .ok (.ifnonnull o, 3)) (r : Run p e below m K T pc' L st) (q : pc + 3 = pc' := by rfl) : Run p e below m K T pc L (.null :: st) := by
  obtain ⟨⟨locs, X, -⟩, -, hx, hby, -⟩ := X
  subst q hby
  exact Run.of (fun t k => XS.ifnonnullNo X.here hx rfl hd rfl k) r
theorem r_acmpY (pc' : Nat) (X : Cx p l e R s m args below meth c Z bytes ml own ret mname n0 T h cells slots) {cd : ACond} {o : Int} {a b : Addr} (hd : decode bytes pc = .ok (.if_acmp cd o, 3)) (hc : if_acmp.holds cd (some a) (some b) = true) (r : Run p e below m K T pc' L st) (ho : 0 ≤ (pc : Int) + o := by decide) (hp : ((pc : Int) + o).toNat = pc' := by decide) : Run p e below m K T pc L (.ref b :: .ref a :: st) := by
  obtain ⟨⟨locs, X, -⟩, -, hx, hby, -⟩ := X
  subst hby
  exact Run.of (fun t k => XS.acmpYes X.here hx rfl (pc0 := pc) (pc' := pc') rfl hd rfl hc ho hp k) r
theorem r_acmpN (pc' : Nat) (X : Cx p l e R s m args below meth c Z bytes ml own ret mname n0 T h cells slots) {cd : ACond} {o : Int} {a b : Addr} (hd : decode bytes pc = .ok (.if_acmp cd o, 3)) (hc : if_acmp.holds cd (some a) (some b) = false) (r : Run p e below m K T pc' L st) (q : pc + 3 = pc' := by rfl) : Run p e below m K T pc L (.ref b :: .ref a :: st) := by
  obtain ⟨⟨locs, X, -⟩, -, hx, hby, -⟩ := X
  subst q hby
  exact Run.of (fun t k => XS.acmpNo X.here hx rfl hd rfl hc k) r
theorem r_ldcInt (pc' : Nat) (X : Cx p l e R s m args below meth c Z bytes ml own ret mname n0 T h cells slots) {a0 : Array Value} {i : Nat} {z : Int32} (w : (Jvm.Cond.constant own i z).before a0 Z = true) (hd : decode bytes pc = .ok (.ldc i, 2)) (r : Run p e below m K T pc' L (.int z :: st)) (q : pc + 2 = pc' := by rfl) : Run p e below m K T pc L st := by
  obtain ⟨⟨locs, X, -⟩, -, hx, hby, -, hZ, hown, -⟩ := X
  subst q hby
  exact Run.of (fun t k => X.ldcInt hx hown (mvT hZ w) (g := mkF m pc L st) rfl hd _ k) r
theorem r_ldcwInt (pc' : Nat) (X : Cx p l e R s m args below meth c Z bytes ml own ret mname n0 T h cells slots) {a0 : Array Value} {i : Nat} {z : Int32} (w : (Jvm.Cond.constant own i z).before a0 Z = true) (hd : decode bytes pc = .ok (.ldc_w i, 3)) (r : Run p e below m K T pc' L (.int z :: st)) (q : pc + 3 = pc' := by rfl) : Run p e below m K T pc L st := by
  obtain ⟨⟨locs, X, -⟩, -, hx, hby, -, hZ, hown, -⟩ := X
  subst q hby
  exact Run.of (fun t k => X.ldcwInt hx hown (mvT hZ w) (g := mkF m pc L st) rfl hd _ k) r
theorem r_ldc2Long (pc' : Nat) (X : Cx p l e R s m args below meth c Z bytes ml own ret mname n0 T h cells slots) {a0 : Array Value} {i : Nat} {z : Int64} (w : (Jvm.Cond.constantLong own i z).before a0 Z = true) (hd : decode bytes pc = .ok (.ldc2_w i, 3)) (r : Run p e below m K T pc' L (.long z :: st)) (q : pc + 3 = pc' := by rfl) : Run p e below m K T pc L st := by
  obtain ⟨⟨locs, X, -⟩, -, hx, hby, -, hZ, hown, -⟩ := X
  subst q hby
  exact Run.of (fun t k => X.ldc2Long hx hown (mvT hZ w) (g := mkF m pc L st) rfl hd _ k) r
theorem r_ldc2Double (pc' : Nat) (X : Cx p l e R s m args below meth c Z bytes ml own ret mname n0 T h cells slots) {a0 : Array Value} {i : Nat} {z : UInt64} (w : (Jvm.Cond.constantDouble own i z).before a0 Z = true) (hd : decode bytes pc = .ok (.ldc2_w i, 3)) (r : Run p e below m K T pc' L (.double z :: st)) (q : pc + 3 = pc' := by rfl) : Run p e below m K T pc L st := by
  obtain ⟨⟨locs, X, -⟩, -, hx, hby, -, hZ, hown, -⟩ := X
  subst q hby
  exact Run.of (fun t k => X.ldc2DoubleC hx hown (mvT hZ w) (g := mkF m pc L st) rfl hd _ k) r
theorem r_getfield (pc' : Nat) (X : Cx p l e R s m args below meth c Z bytes ml own ret mname n0 T h cells slots) {a0 : Array Value} {R0 O n d host : String} {index : Nat} (w : (Jvm.Cond.fieldLink own index R0 n d).before a0 Z = true ∨ (Jvm.Cond.fieldLinkNest own index R0 n d host).before a0 Z = true) (via : Via Z R0 O n d) {a : Addr} {v : Value} (F : Fld Z h a O n d v) (hd : decode bytes pc = .ok (.getfield index, 3)) (r : ∀ T', Cx p l e R s m args below meth c Z bytes ml own ret mname n0 T' h cells slots → Run p e below m K T' pc' L (v :: st)) (q : pc + 3 = pc' := by rfl) : Run p e below m K T pc L (.ref a :: st) := by
  obtain ⟨⟨locs, X, N⟩, e0, hx, hby, hml, hZ, hown, r1⟩ := X
  subst q
  obtain ⟨T', X', e', stp⟩ := getF X hx hZ hown w via e0 F (g := mkF m pc L (.ref a :: st)) rfl rfl (hb hby hd)
  exact Run.of stp (r T' ⟨⟨locs, X', N⟩, e', hx, hby, hml, hZ, hown, r1⟩)
theorem r_getstatic (pc' : Nat) (X : Cx p l e R s m args below meth c Z bytes ml own ret mname n0 T h cells slots) {a0 : Array Value} {R0 O n d host : String} {index : Nat} (w : (Jvm.Cond.fieldLink own index R0 n d).before a0 Z = true ∨ (Jvm.Cond.fieldLinkNest own index R0 n d host).before a0 Z = true) (via : Via Z R0 O n d) {v : Value} (F : Sta Z h O n d v) (hd : decode bytes pc = .ok (.getstatic index, 3)) (r : ∀ T', Cx p l e R s m args below meth c Z bytes ml own ret mname n0 T' h cells slots → Run p e below m K T' pc' L (v :: st)) (q : pc + 3 = pc' := by rfl) : Run p e below m K T pc L st := by
  obtain ⟨⟨locs, X, N⟩, e0, hx, hby, hml, hZ, hown, r1⟩ := X
  subst q
  obtain ⟨T', X', e', stp⟩ := getS2 X hx hZ hown w via e0 F (g := mkF m pc L st) rfl (hb hby hd)
  exact Run.of stp (r T' ⟨⟨locs, X', N⟩, e', hx, hby, hml, hZ, hown, r1⟩)
theorem r_putfield (pc' : Nat) (X : Cx p l e R s m args below meth c Z bytes ml own ret mname n0 T h cells slots) {a0 : Array Value} {R0 O n d host C : String} {index kk : Nat} {ty : FieldType} (w : (Jvm.Cond.fieldLink own index R0 n d).before a0 Z = true ∨ (Jvm.Cond.fieldLinkNest own index R0 n d host).before a0 Z = true) (via : Via Z R0 O n d) {a : Addr} {v old : Value} (F : Fld Z h a O n d old) (E : Exa Z h a C) (Lw : (Jvm.Cond.lays C O n d).before a0 Z = true ∨ ((Jvm.Cond.laysFinal C O n d).before a0 Z = true ∧ own = O ∧ mname = "<init>")) (wi : (Jvm.Cond.instantiable C kk).before a0 Z = true) (hty : parseFieldDescriptor d = some ty) (hn : narrow ty v = v) (hf : fits ty v = true) (ga : n0 ≤ a) (hd : decode bytes pc = .ok (.putfield index, 3)) (r : ∀ T' h', Wr h h' a (Jvm.RoadKit.slotOf Z O n d) v → Cx p l e R s m args below meth c Z bytes ml own ret mname n0 T' h' cells slots → Run p e below m K T' pc' L st) (q : pc + 3 = pc' := by rfl) : Run p e below m K T pc L (v :: .ref a :: st) := by
  obtain ⟨⟨locs, X, N⟩, e0, hx, hby, hml, hZ, hown, hret, hnm, hlk, hsz⟩ := X
  subst q
  obtain ⟨T', h', X', e', W', stp⟩ := putF X hx hZ hown w via e0 F E (Lw.imp id fun q => ⟨q.1, q.2.1, hnm.trans q.2.2⟩) wi hty hn hf (g := mkF m pc L (v :: .ref a :: st)) rfl rfl (hb hby hd)
  exact Run.of stp (r T' h' W' ⟨⟨_, X', Fr.snoc X' N ga⟩, e', hx, hby, hml, hZ, hown, hret, hnm, hlk, by rw [W'.size]; exact hsz⟩)
theorem r_putfieldN (pc' : Nat) (X : Cx p l e R s m args below meth c Z bytes ml own ret mname n0 T h cells slots) {a0 : Array Value} {R0 O n d C : String} {index kk : Nat} {ty : FieldType} (w : (Jvm.Cond.fieldLink own index R0 n d).before a0 Z = true) (via : Via Z R0 O n d) {a : Addr} {v v' old : Value} (F : Fld Z h a O n d old) (E : Exa Z h a C) (Lw : (Jvm.Cond.lays C O n d).before a0 Z = true ∨ ((Jvm.Cond.laysFinal C O n d).before a0 Z = true ∧ own = O ∧ mname = "<init>")) (wi : (Jvm.Cond.instantiable C kk).before a0 Z = true) (hty : parseFieldDescriptor d = some ty) (hn : narrow ty v = v') (hf : fits ty v' = true) (ga : n0 ≤ a) (hd : decode bytes pc = .ok (.putfield index, 3)) (r : ∀ T' h', Wr h h' a (Jvm.RoadKit.slotOf Z O n d) v' → Cx p l e R s m args below meth c Z bytes ml own ret mname n0 T' h' cells slots → Run p e below m K T' pc' L st) (q : pc + 3 = pc' := by rfl) : Run p e below m K T pc L (v :: .ref a :: st) := by
  obtain ⟨⟨locs, X, N⟩, e0, hx, hby, hml, hZ, hown, hret, hnm, hlk, hsz⟩ := X
  subst q
  obtain ⟨T', h', X', e', W', stp⟩ := putFN X hx hZ hown w via e0 F E (Lw.imp id fun q => ⟨q.1, q.2.1, hnm.trans q.2.2⟩) wi hty hn hf (g := mkF m pc L (v :: .ref a :: st)) rfl rfl (hb hby hd)
  exact Run.of stp (r T' h' W' ⟨⟨_, X', Fr.snoc X' N ga⟩, e', hx, hby, hml, hZ, hown, hret, hnm, hlk, by rw [W'.size]; exact hsz⟩)
theorem r_new (pc' : Nat) (X : Cx p l e R s m args below meth c Z bytes ml own ret mname n0 T h cells slots) {a0 : Array Value} {C : String} {index n : Nat} (w : (Jvm.Cond.classLink own index C).before a0 Z = true) (wi : (Jvm.Cond.instantiable C n).before a0 Z = true) (wz : (Jvm.Cond.initialized C).before a0 Z = true) (hd : decode bytes pc = .ok (.new index, 3)) (hc : cells + 1 ≤ R.cells) (hl : slots + n ≤ R.slots) (r : ∀ T' h' b, b = h.size → n0 ≤ b → Ext h h' → Exa Z h' b C → (∀ {O nm d : String} {ty : FieldType}, Laid Z a0 C O nm d → parseFieldDescriptor d = some ty → Fld Z h' b O nm d (defaultValue ty)) → Cx p l e R s m args below meth c Z bytes ml own ret mname n0 T' h' (cells + 1) (slots + n) → Run p e below m K T' pc' L (.ref b :: st)) (q : pc + 3 = pc' := by rfl) : Run p e below m K T pc L st := by
  obtain ⟨⟨locs, X, N⟩, e0, hx, hby, hml, hZ, hown, hret, hnm, hlk, hsz⟩ := X
  subst q
  obtain ⟨T', h', X', e', E', A', D', -, stp⟩ := newO X hx hZ hown w wi wz e0 (g := mkF m pc L st) rfl (hb hby hd) hc hl
  exact Run.of stp (r T' h' h.size rfl hsz E' A' D' ⟨⟨_, X', N⟩, e', hx, hby, hml, hZ, hown, hret, hnm, hlk, Nat.le_trans hsz E'.1⟩)
theorem r_newarray (pc' : Nat) (X : Cx p l e R s m args below meth c Z bytes ml own ret mname n0 T h cells slots) {a0 : Array Value} {aty : ArrayType} {z : Int32} (n cap : Nat) (w : (Jvm.Cond.arrayClass (newarray.typeOf aty)).before a0 Z = true) (hd : decode bytes pc = .ok (.newarray aty, 2)) (hz : z.toInt = (n : Int)) (hcap : n ≤ cap) (hb8 : cap * 8 ≤ 536870912) (hc : cells + 1 ≤ R.cells) (hl : slots + cap ≤ R.slots) (r : ∀ T' h' b, b = h.size → n0 ≤ b → Ext h h' → AF Z h' b (newarray.typeOf aty) n (fun _ => defaultValue (newarray.typeOf aty)) → Cx p l e R s m args below meth c Z bytes ml own ret mname n0 T' h' (cells + 1) (slots + cap) → Run p e below m K T' pc' L (.ref b :: st)) (q : pc + 2 = pc' := by rfl) : Run p e below m K T pc L (.int z :: st) := by
  obtain ⟨⟨locs, X, N⟩, e0, hx, hby, hml, hZ, hown, hret, hnm, hlk, hsz⟩ := X
  subst q
  have hz0 : ¬ z < 0 := by rw [Int32.lt_iff_toInt_lt]; have : (0 : Int32).toInt = 0 := rfl; omega
  have hzn : z.toNatClampNeg = n := by show z.toInt.toNat = n; omega
  have hzl := z.toInt_lt
  obtain ⟨T', h', cA, X', e', E', A', stp⟩ := newP X hx hZ w e0 (g := mkF m pc L (.int z :: st)) rfl (hb hby hd) rfl hz0 (cap := cap) (by rw [hzn]; exact hcap) hb8 hc hl
  refine Run.of stp (r T' h' h.size rfl hsz E' ⟨_, A', by rw [sz_new, hzn], by omega, fun j hj => ?_⟩ ⟨⟨_, X', N⟩, e', hx, hby, hml, hZ, hown, hret, hnm, hlk, Nat.le_trans hsz E'.1⟩)
  simp [newA, hzn, hj]
theorem r_arraylength (pc' : Nat) (X : Cx p l e R s m args below meth c Z bytes ml own ret mname n0 T h cells slots) {a : Addr} {ty : FieldType} {n : Nat} {f : Nat → Value} (A : AF Z h a ty n f) (z : Int32) (hz : z.toInt = (n : Int)) (hd : decode bytes pc = .ok (.arraylength, 1)) (r : Run p e below m K T pc' L (.int z :: st)) (q : pc + 1 = pc' := by rfl) : Run p e below m K T pc L (.ref a :: st) := by
  obtain ⟨⟨locs, X, N⟩, e0, hx, hby, hml, hZ, hown, r1⟩ := X
  subst q hby
  obtain ⟨cl, A, S, q, -⟩ := A
  have ez : cl.slots.size.toInt32 = z := by rw [S]; apply Int32.toInt_inj.mp; rw [hz]; exact len_toInt q
  rw [← ez] at r
  exact Run.of (fun t k => X.arraylength hx (by rw [e0]; exact A.1) (State.isArrayOf_alike hZ.alike A.2.1) (g := mkF m pc L (.ref a :: st)) rfl rfl hd _ k) r
theorem r_iaload (pc' : Nat) (X : Cx p l e R s m args below meth c Z bytes ml own ret mname n0 T h cells slots) {a : Addr} {n : Nat} {f : Nat → Value} (A : AF Z h a .int n f) {j : Int32} {i : Nat} {v : Value} (hj : j.toInt = (i : Int)) (hi : i < n) (hv : f i = v) (hd : decode bytes pc = .ok (.iaload, 1)) (r : Run p e below m K T pc' L (v :: st)) (q : pc + 1 = pc' := by rfl) : Run p e below m K T pc L (.int j :: .ref a :: st) := by
  obtain ⟨⟨locs, X, N⟩, e0, hx, hby, hml, hZ, hown, r1⟩ := X
  subst q hby
  obtain ⟨cl, A, S, -, H⟩ := A
  obtain ⟨h1, h2⟩ := idx_of hj (S ▸ hi)
  exact Run.of (fun t k => X.iaload hx (j := j) (v := v) (by rw [e0]; exact A.1) (State.isArrayOf_alike hZ.alike A.2.1) A.2.2 h1 (by rw [h2, H i hi, hv]) (g := mkF m pc L (.int j :: .ref a :: st)) rfl rfl hd _ k) r
theorem r_laload (pc' : Nat) (X : Cx p l e R s m args below meth c Z bytes ml own ret mname n0 T h cells slots) {a : Addr} {n : Nat} {f : Nat → Value} (A : AF Z h a .long n f) {j : Int32} {i : Nat} {v : Value} (hj : j.toInt = (i : Int)) (hi : i < n) (hv : f i = v) (hd : decode bytes pc = .ok (.laload, 1)) (r : Run p e below m K T pc' L (v :: st)) (q : pc + 1 = pc' := by rfl) : Run p e below m K T pc L (.int j :: .ref a :: st) := by
  obtain ⟨⟨locs, X, N⟩, e0, hx, hby, hml, hZ, hown, r1⟩ := X
  subst q hby
  obtain ⟨cl, A, S, -, H⟩ := A
  obtain ⟨h1, h2⟩ := idx_of hj (S ▸ hi)
  exact Run.of (fun t k => X.laload hx (j := j) (v := v) (by rw [e0]; exact A.1) (State.isArrayOf_alike hZ.alike A.2.1) A.2.2 h1 (by rw [h2, H i hi, hv]) (g := mkF m pc L (.int j :: .ref a :: st)) rfl rfl hd _ k) r
theorem r_caload (pc' : Nat) (X : Cx p l e R s m args below meth c Z bytes ml own ret mname n0 T h cells slots) {a : Addr} {n : Nat} {f : Nat → Value} (A : AF Z h a .char n f) {j : Int32} {i : Nat} {v : Value} (hj : j.toInt = (i : Int)) (hi : i < n) (hv : f i = v) (hd : decode bytes pc = .ok (.caload, 1)) (r : Run p e below m K T pc' L (v :: st)) (q : pc + 1 = pc' := by rfl) : Run p e below m K T pc L (.int j :: .ref a :: st) := by
  obtain ⟨⟨locs, X, N⟩, e0, hx, hby, hml, hZ, hown, r1⟩ := X
  subst q hby
  obtain ⟨cl, A, S, -, H⟩ := A
  obtain ⟨h1, h2⟩ := idx_of hj (S ▸ hi)
  exact Run.of (fun t k => X.caload hx (j := j) (v := v) (by rw [e0]; exact A.1) (State.isArrayOf_alike hZ.alike A.2.1) A.2.2 h1 (by rw [h2, H i hi, hv]) (g := mkF m pc L (.int j :: .ref a :: st)) rfl rfl hd _ k) r
theorem r_baloadB (pc' : Nat) (X : Cx p l e R s m args below meth c Z bytes ml own ret mname n0 T h cells slots) {a : Addr} {n : Nat} {f : Nat → Value} (A : AF Z h a .byte n f) {j : Int32} {i : Nat} {v : Value} (hj : j.toInt = (i : Int)) (hi : i < n) (hv : f i = v) (hd : decode bytes pc = .ok (.baload, 1)) (r : Run p e below m K T pc' L (v :: st)) (q : pc + 1 = pc' := by rfl) : Run p e below m K T pc L (.int j :: .ref a :: st) := by
  obtain ⟨⟨locs, X, N⟩, e0, hx, hby, hml, hZ, hown, r1⟩ := X
  subst q hby
  obtain ⟨cl, A, S, -, H⟩ := A
  obtain ⟨h1, h2⟩ := idx_of hj (S ▸ hi)
  exact Run.of (fun t k => X.baloadBytes hx (j := j) (v := v) (by rw [e0]; exact A.1) (State.isArrayOf_alike hZ.alike A.2.1) A.2.2 h1 (by rw [h2, H i hi, hv]) (g := mkF m pc L (.int j :: .ref a :: st)) rfl rfl hd _ k) r
theorem r_baloadZ (pc' : Nat) (X : Cx p l e R s m args below meth c Z bytes ml own ret mname n0 T h cells slots) {a : Addr} {n : Nat} {f : Nat → Value} (A : AF Z h a .boolean n f) {j : Int32} {i : Nat} {v : Value} (hj : j.toInt = (i : Int)) (hi : i < n) (hv : f i = v) (hd : decode bytes pc = .ok (.baload, 1)) (r : Run p e below m K T pc' L (v :: st)) (q : pc + 1 = pc' := by rfl) : Run p e below m K T pc L (.int j :: .ref a :: st) := by
  obtain ⟨⟨locs, X, N⟩, e0, hx, hby, hml, hZ, hown, r1⟩ := X
  subst q hby
  obtain ⟨cl, A, S, -, H⟩ := A
  obtain ⟨h1, h2⟩ := idx_of hj (S ▸ hi)
  exact Run.of (fun t k => X.baloadBooleans hx (j := j) (v := v) (by rw [e0]; exact A.1) (State.isArrayOf_alike hZ.alike A.2.1) A.2.2 h1 (by rw [h2, H i hi, hv]) (g := mkF m pc L (.int j :: .ref a :: st)) rfl rfl hd _ k) r
theorem r_daload (pc' : Nat) (X : Cx p l e R s m args below meth c Z bytes ml own ret mname n0 T h cells slots) {a : Addr} {n : Nat} {f : Nat → Value} (A : AF Z h a .double n f) {j : Int32} {i : Nat} {v : Value} (hj : j.toInt = (i : Int)) (hi : i < n) (hv : f i = v) (hd : decode bytes pc = .ok (.daload, 1)) (r : Run p e below m K T pc' L (v :: st)) (q : pc + 1 = pc' := by rfl) : Run p e below m K T pc L (.int j :: .ref a :: st) := by
  obtain ⟨⟨locs, X, N⟩, e0, hx, hby, hml, hZ, hown, r1⟩ := X
  subst q hby
  obtain ⟨cl, A, S, -, H⟩ := A
  obtain ⟨h1, h2⟩ := idx_of hj (S ▸ hi)
  exact Run.of (fun t k => X.daload hx (j := j) (v := v) (by rw [e0]; exact A.1) (State.isArrayOf_alike hZ.alike A.2.1) A.2.2 h1 (by rw [h2, H i hi, hv]) (g := mkF m pc L (.int j :: .ref a :: st)) rfl rfl hd _ k) r
theorem r_iastore (pc' : Nat) (X : Cx p l e R s m args below meth c Z bytes ml own ret mname n0 T h cells slots) {a : Addr} {n : Nat} {f : Nat → Value} (A : AF Z h a .int n f) {j : Int32} {i : Nat} {x : Int32} {v : Value} (hj : j.toInt = (i : Int)) (hi : i < n) (hv : (.int x) = v) (ga : n0 ≤ a) (hd : decode bytes pc = .ok (.iastore, 1)) (r : ∀ T' h', Wr h h' a i v → Cx p l e R s m args below meth c Z bytes ml own ret mname n0 T' h' cells slots → Run p e below m K T' pc' L st) (q : pc + 1 = pc' := by rfl) : Run p e below m K T pc L ((.int x) :: .int j :: .ref a :: st) := by
  obtain ⟨⟨locs, X, N⟩, e0, hx, hby, hml, hZ, hown, hret, hnm, hlk, hsz⟩ := X
  subst q hv
  obtain ⟨cl, A, S, -, H⟩ := A
  obtain ⟨h1, h2⟩ := idx_of hj (S ▸ hi)
  obtain ⟨T', h', X', e', W', stp⟩ := stI X hx hZ e0 A (j := j) h1 (g := mkF m pc L ((.int x) :: .int j :: .ref a :: st)) rfl rfl (hb hby hd)
  exact Run.of stp (r T' h' (h2 ▸ W') ⟨⟨_, X', Fr.snoc X' N ga⟩, e', hx, hby, hml, hZ, hown, hret, hnm, hlk, by rw [W'.size]; exact hsz⟩)
theorem r_lastore (pc' : Nat) (X : Cx p l e R s m args below meth c Z bytes ml own ret mname n0 T h cells slots) {a : Addr} {n : Nat} {f : Nat → Value} (A : AF Z h a .long n f) {j : Int32} {i : Nat} {x : Int64} {v : Value} (hj : j.toInt = (i : Int)) (hi : i < n) (hv : (.long x) = v) (ga : n0 ≤ a) (hd : decode bytes pc = .ok (.lastore, 1)) (r : ∀ T' h', Wr h h' a i v → Cx p l e R s m args below meth c Z bytes ml own ret mname n0 T' h' cells slots → Run p e below m K T' pc' L st) (q : pc + 1 = pc' := by rfl) : Run p e below m K T pc L ((.long x) :: .int j :: .ref a :: st) := by
  obtain ⟨⟨locs, X, N⟩, e0, hx, hby, hml, hZ, hown, hret, hnm, hlk, hsz⟩ := X
  subst q hv
  obtain ⟨cl, A, S, -, H⟩ := A
  obtain ⟨h1, h2⟩ := idx_of hj (S ▸ hi)
  obtain ⟨T', h', X', e', W', stp⟩ := stJ X hx hZ e0 A (j := j) h1 (g := mkF m pc L ((.long x) :: .int j :: .ref a :: st)) rfl rfl (hb hby hd)
  exact Run.of stp (r T' h' (h2 ▸ W') ⟨⟨_, X', Fr.snoc X' N ga⟩, e', hx, hby, hml, hZ, hown, hret, hnm, hlk, by rw [W'.size]; exact hsz⟩)
theorem r_castore (pc' : Nat) (X : Cx p l e R s m args below meth c Z bytes ml own ret mname n0 T h cells slots) {a : Addr} {n : Nat} {f : Nat → Value} (A : AF Z h a .char n f) {j : Int32} {i : Nat} {x : Int32} {v : Value} (hj : j.toInt = (i : Int)) (hi : i < n) (hv : (.int (nar .char x)) = v) (ga : n0 ≤ a) (hd : decode bytes pc = .ok (.castore, 1)) (r : ∀ T' h', Wr h h' a i v → Cx p l e R s m args below meth c Z bytes ml own ret mname n0 T' h' cells slots → Run p e below m K T' pc' L st) (q : pc + 1 = pc' := by rfl) : Run p e below m K T pc L ((.int x) :: .int j :: .ref a :: st) := by
  obtain ⟨⟨locs, X, N⟩, e0, hx, hby, hml, hZ, hown, hret, hnm, hlk, hsz⟩ := X
  subst q hv
  obtain ⟨cl, A, S, -, H⟩ := A
  obtain ⟨h1, h2⟩ := idx_of hj (S ▸ hi)
  obtain ⟨T', h', X', e', W', stp⟩ := stC X hx hZ e0 A (j := j) h1 (g := mkF m pc L ((.int x) :: .int j :: .ref a :: st)) rfl rfl (hb hby hd)
  exact Run.of stp (r T' h' (h2 ▸ W') ⟨⟨_, X', Fr.snoc X' N ga⟩, e', hx, hby, hml, hZ, hown, hret, hnm, hlk, by rw [W'.size]; exact hsz⟩)
theorem r_bastoreB (pc' : Nat) (X : Cx p l e R s m args below meth c Z bytes ml own ret mname n0 T h cells slots) {a : Addr} {n : Nat} {f : Nat → Value} (A : AF Z h a .byte n f) {j : Int32} {i : Nat} {x : Int32} {v : Value} (hj : j.toInt = (i : Int)) (hi : i < n) (hv : (.int (nar .byte x)) = v) (ga : n0 ≤ a) (hd : decode bytes pc = .ok (.bastore, 1)) (r : ∀ T' h', Wr h h' a i v → Cx p l e R s m args below meth c Z bytes ml own ret mname n0 T' h' cells slots → Run p e below m K T' pc' L st) (q : pc + 1 = pc' := by rfl) : Run p e below m K T pc L ((.int x) :: .int j :: .ref a :: st) := by
  obtain ⟨⟨locs, X, N⟩, e0, hx, hby, hml, hZ, hown, hret, hnm, hlk, hsz⟩ := X
  subst q hv
  obtain ⟨cl, A, S, -, H⟩ := A
  obtain ⟨h1, h2⟩ := idx_of hj (S ▸ hi)
  obtain ⟨T', h', X', e', W', stp⟩ := stB X hx hZ e0 A (j := j) h1 (g := mkF m pc L ((.int x) :: .int j :: .ref a :: st)) rfl rfl (hb hby hd)
  exact Run.of stp (r T' h' (h2 ▸ W') ⟨⟨_, X', Fr.snoc X' N ga⟩, e', hx, hby, hml, hZ, hown, hret, hnm, hlk, by rw [W'.size]; exact hsz⟩)
theorem r_bastoreZ (pc' : Nat) (X : Cx p l e R s m args below meth c Z bytes ml own ret mname n0 T h cells slots) {a : Addr} {n : Nat} {f : Nat → Value} (A : AF Z h a .boolean n f) {j : Int32} {i : Nat} {x : Int32} {v : Value} (hj : j.toInt = (i : Int)) (hi : i < n) (hv : (.int (nar .boolean x)) = v) (ga : n0 ≤ a) (hd : decode bytes pc = .ok (.bastore, 1)) (r : ∀ T' h', Wr h h' a i v → Cx p l e R s m args below meth c Z bytes ml own ret mname n0 T' h' cells slots → Run p e below m K T' pc' L st) (q : pc + 1 = pc' := by rfl) : Run p e below m K T pc L ((.int x) :: .int j :: .ref a :: st) := by
  obtain ⟨⟨locs, X, N⟩, e0, hx, hby, hml, hZ, hown, hret, hnm, hlk, hsz⟩ := X
  subst q hv
  obtain ⟨cl, A, S, -, H⟩ := A
  obtain ⟨h1, h2⟩ := idx_of hj (S ▸ hi)
  obtain ⟨T', h', X', e', W', stp⟩ := stZ X hx hZ e0 A (j := j) h1 (g := mkF m pc L ((.int x) :: .int j :: .ref a :: st)) rfl rfl (hb hby hd)
  exact Run.of stp (r T' h' (h2 ▸ W') ⟨⟨_, X', Fr.snoc X' N ga⟩, e', hx, hby, hml, hZ, hown, hret, hnm, hlk, by rw [W'.size]; exact hsz⟩)
theorem r_dastore (pc' : Nat) (X : Cx p l e R s m args below meth c Z bytes ml own ret mname n0 T h cells slots) {a : Addr} {n : Nat} {f : Nat → Value} (A : AF Z h a .double n f) {j : Int32} {i : Nat} {x : UInt64} {v : Value} (hj : j.toInt = (i : Int)) (hi : i < n) (hv : (.double x) = v) (ga : n0 ≤ a) (hd : decode bytes pc = .ok (.dastore, 1)) (r : ∀ T' h', Wr h h' a i v → Cx p l e R s m args below meth c Z bytes ml own ret mname n0 T' h' cells slots → Run p e below m K T' pc' L st) (q : pc + 1 = pc' := by rfl) : Run p e below m K T pc L ((.double x) :: .int j :: .ref a :: st) := by
  obtain ⟨⟨locs, X, N⟩, e0, hx, hby, hml, hZ, hown, hret, hnm, hlk, hsz⟩ := X
  subst q hv
  obtain ⟨cl, A, S, -, H⟩ := A
  obtain ⟨h1, h2⟩ := idx_of hj (S ▸ hi)
  obtain ⟨T', h', X', e', W', stp⟩ := stD X hx hZ e0 A (j := j) h1 (g := mkF m pc L ((.double x) :: .int j :: .ref a :: st)) rfl rfl (hb hby hd)
  exact Run.of stp (r T' h' (h2 ▸ W') ⟨⟨_, X', Fr.snoc X' N ga⟩, e', hx, hby, hml, hZ, hown, hret, hnm, hlk, by rw [W'.size]; exact hsz⟩)
theorem r_initO (pc' : Nat) (X : Cx p l e R s m args below meth c Z bytes ml own ret mname n0 T h cells slots) {a0 : Array Value} {idx : Nat} (w1 : (Jvm.Cond.methodLink own idx Lib.objectInit).before a0 Z = true) (w2 : (Jvm.Cond.instanceMethod Lib.objectInit).before a0 Z = true) (w3 : (Jvm.Cond.code Lib.objectInit ⟨#[0xb1]⟩ 1 none).before a0 Z = true) {a : Addr} (hd : decode bytes pc = .ok (.invokespecial idx, 3)) (hsize : L.size = ml) (hf : 1 ≤ R.frames) (W : Nat) (hW : (st.map fun v => v.category).sum ≤ W) (hl : W + 12 ≤ R.locals) (r : ∀ T', Cx p l e R s m args below meth c Z bytes ml own ret mname n0 T' h cells slots → Run p e below m K T' pc' L st) (q : pc + 3 = pc' := by rfl) : Run p e below m K T pc L (.ref a :: st) := by
  obtain ⟨⟨locs, X, N⟩, e0, hx, hby, hml, hZ, hown, r1⟩ := X
  subst q
  obtain ⟨T', X', e', stp⟩ := initO X hx hZ hown w1 w2 w3 e0 (g := mkF m pc L (.ref a :: st)) rfl (by rw [hml]; exact hsize) rfl (hb hby hd) hf (W := W) (by show 2 * 0 + _ ≤ _; omega) hl
  exact Run.of stp (r T' ⟨⟨_, X', N⟩, e', hx, hby, hml, hZ, hown, r1⟩)
theorem met_of {l : Launch} {Z : State} {n0 : Nat} {ws : List Jvm.Cond} {y : MethodName} {bytes : ByteArray} {ml : Nat} {ret : Option FieldType} {rm : Room} {as : Array Value} {h0 : Heap} {Q : Option Value → Heap → Prop} {L0 : Array Slot} (hpl : plainFor y = true) (hn0 : n0 ≤ h0.size) (ef : ∀ m, entryFrame m as ml = mkF m 0 L0 [])
    (body : ∀ p e s m below meth c T, s.heap = h0 → Cx p l e rm s m as below meth c Z bytes ml y.cls ret y.name n0 T h0 0 0 → Run p e below m (Fin1 below s n0 Q rm.cells rm.slots) T 0 L0 []) : Met1 l Z n0 ws y bytes ml ret rm as h0 Q := by
  refine MetFree.of_bodySF hpl hisR ?_
  intro p e s m args below meth c s₁ Bd hml0 hP hK
  obtain ⟨rfl, hZ, hh⟩ := hP
  have hlk : meth.locks = false := BodyLoose.notSynchronized Bd
  obtain ⟨u, h1, h2, o, h3, h4⟩ := body p e s m below meth c s₁ hh ⟨⟨[], Stand.of_body Bd, Fr.nil n0⟩, by rw [← hh, Bd.state]; rfl, Bd.exec, Bd.bytes, hml0, hZ, findClass_of_methodNamed Bd.named, Bd.returns, (name_of_methodNamed Bd.named Bd.method).1, hlk, hn0⟩
  exact ⟨u, o, castTop (ef m) h1, h2, h3, h4⟩
theorem fin_of {Q : Option Value → Heap → Prop} {cN sN : Nat} {v : Option Value} (X : Cx p l e R s m args below meth c Z bytes ml own ret mname n0 T h cells slots) (hc : cells ≤ cN) (hs : slots ≤ sN) (hQ : Q v h) (hv : ret = none → v = none) (stp : ∀ {T : State} {locs : List Loc} (X : Stand p l e R s m args below meth c T locs cells slots) (hx : p.tables.exec = Jvm.exec) (hret : meth.sig.returnType = ret) {fs : List Frame}, (∀ (f : JFrame) (acts : List Action), f.method = m → f.locked = none → f.entered = [] → (doReturn e (T.setTop f) acts v).1 = T.setFrames fs) → Steps p.tables e below (T.setTop (mkF m pc L st)) (T.setFrames fs)) : Run p e below m (Fin1 below s n0 Q cN sN) T pc L st := by
  obtain ⟨⟨locs, X, N⟩, e0, hx, hby, hml, hZ, hown, hret, hnm, hlk, hsz⟩ := X
  obtain ⟨fs, hr, hrun, hended, hW, hsame⟩ := X.leave (v := v) (fun q => hv (hret.symm.trans q)) hlk
  refine ⟨_, stp X hx hret hr, hrun, _, hended, v, locs, rfl, ⟨?_, N, ?_⟩, ⟨_, rfl⟩, hW, hsame.mono hc hs⟩
  · show Q v T.heap; rw [e0]; exact hQ
  · show n0 ≤ T.heap.size; rw [e0]; exact hsz
theorem r_retZ {Q : Option Value → Heap → Prop} {cN sN : Nat} (X : Cx p l e R s m args below meth c Z bytes ml own (some .boolean) mname n0 T h cells slots) {x z : Int32} (hd : decode bytes pc = .ok (.ireturn, 1)) (hz : nar .boolean x = z) (hc : cells ≤ cN) (hs : slots ≤ sN) (hQ : Q (some (.int z)) h) : Run p e below m (Fin1 below s n0 Q cN sN) T pc L (.int x :: st) := by
  have hby := X.2.2.2.1
  subst hz
  exact fin_of X hc hs hQ (fun q => by cases q) (fun X hx hret fs hr => retN X hx (t := .boolean) hret (by simp) (hb hby hd) hr)
theorem r_retB {Q : Option Value → Heap → Prop} {cN sN : Nat} (X : Cx p l e R s m args below meth c Z bytes ml own (some .byte) mname n0 T h cells slots) {x z : Int32} (hd : decode bytes pc = .ok (.ireturn, 1)) (hz : nar .byte x = z) (hc : cells ≤ cN) (hs : slots ≤ sN) (hQ : Q (some (.int z)) h) : Run p e below m (Fin1 below s n0 Q cN sN) T pc L (.int x :: st) := by
  have hby := X.2.2.2.1
  subst hz
  exact fin_of X hc hs hQ (fun q => by cases q) (fun X hx hret fs hr => retN X hx (t := .byte) hret (by simp) (hb hby hd) hr)
theorem r_retC {Q : Option Value → Heap → Prop} {cN sN : Nat} (X : Cx p l e R s m args below meth c Z bytes ml own (some .char) mname n0 T h cells slots) {x z : Int32} (hd : decode bytes pc = .ok (.ireturn, 1)) (hz : nar .char x = z) (hc : cells ≤ cN) (hs : slots ≤ sN) (hQ : Q (some (.int z)) h) : Run p e below m (Fin1 below s n0 Q cN sN) T pc L (.int x :: st) := by
  have hby := X.2.2.2.1
  subst hz
  exact fin_of X hc hs hQ (fun q => by cases q) (fun X hx hret fs hr => retN X hx (t := .char) hret (by simp) (hb hby hd) hr)
theorem r_retS {Q : Option Value → Heap → Prop} {cN sN : Nat} (X : Cx p l e R s m args below meth c Z bytes ml own (some .short) mname n0 T h cells slots) {x z : Int32} (hd : decode bytes pc = .ok (.ireturn, 1)) (hz : nar .short x = z) (hc : cells ≤ cN) (hs : slots ≤ sN) (hQ : Q (some (.int z)) h) : Run p e below m (Fin1 below s n0 Q cN sN) T pc L (.int x :: st) := by
  have hby := X.2.2.2.1
  subst hz
  exact fin_of X hc hs hQ (fun q => by cases q) (fun X hx hret fs hr => retN X hx (t := .short) hret (by simp) (hb hby hd) hr)
theorem r_retI {Q : Option Value → Heap → Prop} {cN sN : Nat} (X : Cx p l e R s m args below meth c Z bytes ml own (some .int) mname n0 T h cells slots) {x : Int32} (hd : decode bytes pc = .ok (.ireturn, 1)) (hc : cells ≤ cN) (hs : slots ≤ sN) (hQ : Q (some (.int x)) h) : Run p e below m (Fin1 below s n0 Q cN sN) T pc L (.int x :: st) := by
  have hby := X.2.2.2.1
  exact fin_of X hc hs hQ (fun q => by cases q) (fun X hx hret fs hr => retOut X hx (t := .int) hret rfl (Or.inl ⟨rfl, Or.inl rfl, _, rfl⟩) (hb hby hd) hr)
theorem r_retJ {Q : Option Value → Heap → Prop} {cN sN : Nat} (X : Cx p l e R s m args below meth c Z bytes ml own (some .long) mname n0 T h cells slots) {x : Int64} (hd : decode bytes pc = .ok (.lreturn, 1)) (hc : cells ≤ cN) (hs : slots ≤ sN) (hQ : Q (some (.long x)) h) : Run p e below m (Fin1 below s n0 Q cN sN) T pc L (.long x :: st) := by
  have hby := X.2.2.2.1
  exact fin_of X hc hs hQ (fun q => by cases q) (fun X hx hret fs hr => retOut X hx (t := .long) hret rfl (Or.inr (Or.inl ⟨rfl, rfl, _, rfl⟩)) (hb hby hd) hr)
theorem r_retA {Q : Option Value → Heap → Prop} {cN sN : Nat} {t : FieldType} (X : Cx p l e R s m args below meth c Z bytes ml own (some t) mname n0 T h cells slots) {x : Value} (hd : decode bytes pc = .ok (.areturn, 1)) (ht : t.isReference = true) (hn : narrow t x = x) (hx : x.isRef = true) (hc : cells ≤ cN) (hs : slots ≤ sN) (hQ : Q (some x) h) : Run p e below m (Fin1 below s n0 Q cN sN) T pc L (x :: st) := by
  have hby := X.2.2.2.1
  exact fin_of X hc hs hQ (fun q => by cases q) (fun X hx' hret fs hr => retOut X hx' (t := t) hret hn (Or.inr (Or.inr (Or.inr (Or.inr ⟨rfl, ht, hx⟩)))) (hb hby hd) hr)
theorem r_retV {Q : Option Value → Heap → Prop} {cN sN : Nat} (X : Cx p l e R s m args below meth c Z bytes ml own none mname n0 T h cells slots) (hd : decode bytes pc = .ok (.return_, 1)) (hc : cells ≤ cN) (hs : slots ≤ sN) (hQ : Q none h) : Run p e below m (Fin1 below s n0 Q cN sN) T pc L [] := by
  have hby := X.2.2.2.1
  exact fin_of X hc hs hQ (fun _ => rfl) (fun X hx hret fs hr => X.returnOut hx hret (hb hby hd) hr)
theorem r_callS (pc' : Nat) (X : Cx p l e R s m args below meth c Z bytes ml own ret mname n0 T h cells slots) {a0 : Array Value} {y : MethodName} {by' : ByteArray} {ml' : Nat} {ret' : Option FieldType} {rm : Room} {as : Array Value} {Q : Option Value → Heap → Prop} {index : Nat}  (hM : Met1 l Z n0 [] y by' ml' ret' rm as h Q) (w1 : (Jvm.Cond.methodLink own index y).before a0 Z = true) (w2 : (Jvm.Cond.static y).before a0 Z = true) (wc : (Jvm.Cond.code y by' ml' ret').before a0 Z = true) (wz : (Jvm.Cond.initialized y.cls).before a0 Z = true) (hy : y.cls ≠ "java/lang/invoke/MethodHandle" ∧ y.cls ≠ "java/lang/invoke/VarHandle") {ps : List FieldType} {rt : Option FieldType} (pd : parseMethodDescriptor y.desc = some ⟨ps, rt⟩) (argsL : List Value) (has : argsL.toArray = as) (hln : argsL.length = ps.length) (W : Nat) (hW : (st.map fun v => v.category).sum ≤ W) (hsize : L.size = ml) (hf : rm.frames + 1 ≤ R.frames) (hl : W + (ml' + 11) + rm.locals ≤ R.locals) (hc : cells + rm.cells ≤ R.cells) (hs : slots + rm.slots ≤ R.slots) (hd : decode bytes pc = .ok (.invokestatic index, 3)) (r : ∀ T' h' v, Q v h' → Cx p l e R s m args below meth c Z bytes ml own ret mname n0 T' h' (cells + rm.cells) (slots + rm.slots) → Run p e below m K T' pc' L (v.toList ++ st)) (q : pc + 3 = pc' := by rfl) {S : List Value} (hS : S = argsL.reverse ++ st := by rfl) : Run p e below m K T pc L S := by
  obtain ⟨⟨locs, X, N⟩, e0, hx, hby, hml, hZ, hown, hret, hnm, hlk, hsz⟩ := X
  subst q has hS
  obtain ⟨v, _, ⟨T', L', k', n'⟩, -, X', ⟨Lc, hQ', l', y', z'⟩, stp⟩ := Jvm.LawKit.callS X hx (y := y) hown (mvT hZ w1) (mvT hZ w2) (mvT hZ wz) (mvT hZ wc) hy (backOf (W := W) (Q := fun v h' L => Q v h' ∧ Fr n0 L ∧ n0 ≤ h'.size) hM hZ wc wz hf hl) (g := mkF m pc L (argsL.reverse ++ st)) rfl (by rw [hml]; exact hsize) (argsL := argsL) (rest := st) (lenOf pd hln) rfl (by show 2 * 0 + _ ≤ _; omega) (hb hby hd) (fun _ _ => ⟨rfl, e0, hc, hs⟩)
  dsimp only [Pt.U, Pt.locs, Pt.cells, Pt.slots] at X' l' y' z' stp hQ'
  subst l' y' z'
  obtain ⟨hQ1, N1, hs1⟩ := hQ'
  exact Run.of stp (r T' _ v hQ1 ⟨⟨_, X', Fr.app N N1⟩, rfl, hx, hby, hml, hZ, hown, hret, hnm, hlk, hs1⟩)
theorem r_special (pc' : Nat) (X : Cx p l e R s m args below meth c Z bytes ml own ret mname n0 T h cells slots) {a0 : Array Value} {y : MethodName} {by' : ByteArray} {ml' : Nat} {ret' : Option FieldType} {rm : Room} {as : Array Value} {Q : Option Value → Heap → Prop} {index : Nat} {a : Addr} (hM : Met1 l Z n0 [] y by' ml' ret' rm as h Q) (hyn : y.name = "<init>") (hr0 : ret' = none) (w1 : (Jvm.Cond.methodLink own index y).before a0 Z = true) (w2 : (Jvm.Cond.instanceMethod y).before a0 Z = true) (wc : (Jvm.Cond.code y by' ml' ret').before a0 Z = true) (wz : (Jvm.Cond.initialized y.cls).before a0 Z = true) (hy : y.cls ≠ "java/lang/invoke/MethodHandle" ∧ y.cls ≠ "java/lang/invoke/VarHandle") {ps : List FieldType} {rt : Option FieldType} (pd : parseMethodDescriptor y.desc = some ⟨ps, rt⟩) (argsL : List Value) (has : (Value.ref a :: argsL).toArray = as) (hln : argsL.length = ps.length) (W : Nat) (hW : (st.map fun v => v.category).sum ≤ W) (hsize : L.size = ml) (hf : rm.frames + 1 ≤ R.frames) (hl : W + (ml' + 11) + rm.locals ≤ R.locals) (hc : cells + rm.cells ≤ R.cells) (hs : slots + rm.slots ≤ R.slots) (hd : decode bytes pc = .ok (.invokespecial index, 3)) (r : ∀ T' h' v, Q v h' → Cx p l e R s m args below meth c Z bytes ml own ret mname n0 T' h' (cells + rm.cells) (slots + rm.slots) → Run p e below m K T' pc' L (v.toList ++ st)) (q : pc + 3 = pc' := by rfl) {S : List Value} (hS : S = argsL.reverse ++ Value.ref a :: st := by rfl) : Run p e below m K T pc L S := by
  obtain ⟨⟨locs, X, N⟩, e0, hx, hby, hml, hZ, hown, hret, hnm, hlk, hsz⟩ := X
  subst q has hS
  subst hr0
  obtain ⟨v, _, ⟨T', L', k', n'⟩, -, X', ⟨Lc, hQ', l', y', z'⟩, stp⟩ := X.specialBack hx (y := y) hyn hown (mvT hZ w1) (mvT hZ w2) (mvT hZ wc) hy (backOf (W := W) (Q := fun v h' L => Q v h' ∧ Fr n0 L ∧ n0 ≤ h'.size) hM hZ wc wz hf hl) (g := mkF m pc L (argsL.reverse ++ .ref a :: st)) rfl (by rw [hml]; exact hsize) (Steps.refl _) (a := a) (argsL := argsL) (rest := st) (lenOf pd hln) rfl (by show 2 * 0 + _ ≤ _; omega) (hb hby hd) (fun _ _ => ⟨rfl, e0, hc, hs⟩)
  dsimp only [Pt.U, Pt.locs, Pt.cells, Pt.slots] at X' l' y' z' stp hQ'
  subst l' y' z'
  obtain ⟨hQ1, N1, hs1⟩ := hQ'
  exact Run.of (fun t k => stp.trans k) (r T' _ v hQ1 ⟨⟨_, X', Fr.app N N1⟩, rfl, hx, hby, hml, hZ, hown, hret, hnm, hlk, hs1⟩)
theorem r_virtual (pc' : Nat) (X : Cx p l e R s m args below meth c Z bytes ml own ret mname n0 T h cells slots) {a0 : Array Value} {y : MethodName} {by' : ByteArray} {ml' : Nat} {ret' : Option FieldType} {rm : Room} {as : Array Value} {Q : Option Value → Heap → Prop} {index : Nat} {a : Addr} {C : String} (hM : Met1 l Z n0 [] y by' ml' ret' rm as h Q) (E : Exa Z h a C) (w1 : (Jvm.Cond.methodLink own index y).before a0 Z = true) (w3 : (Jvm.Cond.declares y).before a0 Z = true) (wf : (Jvm.Cond.selects y.cls y y).before a0 Z = true) (w4 : (Jvm.Cond.selects C y y).before a0 Z = true) (w2 : (Jvm.Cond.instanceMethod y).before a0 Z = true) (wc : (Jvm.Cond.code y by' ml' ret').before a0 Z = true) (wz : (Jvm.Cond.initialized y.cls).before a0 Z = true) (hy : y.cls ≠ "java/lang/invoke/MethodHandle" ∧ y.cls ≠ "java/lang/invoke/VarHandle") {ps : List FieldType} {rt : Option FieldType} (pd : parseMethodDescriptor y.desc = some ⟨ps, rt⟩) (argsL : List Value) (has : (Value.ref a :: argsL).toArray = as) (hln : argsL.length = ps.length) (W : Nat) (hW : (st.map fun v => v.category).sum ≤ W) (hsize : L.size = ml) (hf : rm.frames + 1 ≤ R.frames) (hl : W + (ml' + 11) + rm.locals ≤ R.locals) (hc : cells + rm.cells ≤ R.cells) (hs : slots + rm.slots ≤ R.slots) (hd : decode bytes pc = .ok (.invokevirtual index, 3)) (r : ∀ T' h' v, Q v h' → Cx p l e R s m args below meth c Z bytes ml own ret mname n0 T' h' (cells + rm.cells) (slots + rm.slots) → Run p e below m K T' pc' L (v.toList ++ st)) (q : pc + 3 = pc' := by rfl) {S : List Value} (hS : S = argsL.reverse ++ Value.ref a :: st := by rfl) : Run p e below m K T pc L S := by
  obtain ⟨⟨locs, X, N⟩, e0, hx, hby, hml, hZ, hown, hret, hnm, hlk, hsz⟩ := X
  subst q has hS
  obtain ⟨cq, kq, qa, qb, qc⟩ := isOf hZ e0 E
  obtain ⟨v, _, ⟨T', L', k', n'⟩, -, X', ⟨Lc, hQ', l', y', z'⟩, stp⟩ := X.virtualBack hx (C := C) (y := y) (z := y) hown (mvT hZ w1) (mvT hZ w3) (notFace_of_selects (args := #[]) (mvT hZ wf)) (mvT hZ w4) (mvT hZ w2) hy (backOf (W := W) (Q := fun v h' L => Q v h' ∧ Fr n0 L ∧ n0 ≤ h'.size) hM hZ wc wz hf hl) qa qc (g := mkF m pc L (argsL.reverse ++ .ref a :: st)) rfl (by rw [hml]; exact hsize) (Steps.refl _) (argsL := argsL) (rest := st) (lenOf pd hln) rfl (by show 2 * 0 + _ ≤ _; omega) (hb hby hd) (fun _ _ => ⟨rfl, e0, hc, hs⟩)
  dsimp only [Pt.U, Pt.locs, Pt.cells, Pt.slots] at X' l' y' z' stp hQ'
  subst l' y' z'
  obtain ⟨hQ1, N1, hs1⟩ := hQ'
  exact Run.of (fun t k => stp.trans k) (r T' _ v hQ1 ⟨⟨_, X', Fr.app N N1⟩, rfl, hx, hby, hml, hZ, hown, hret, hnm, hlk, hs1⟩)
theorem r_private (pc' : Nat) (X : Cx p l e R s m args below meth c Z bytes ml own ret mname n0 T h cells slots) {a0 : Array Value} {y : MethodName} {by' : ByteArray} {ml' : Nat} {ret' : Option FieldType} {rm : Room} {as : Array Value} {Q : Option Value → Heap → Prop} {index : Nat} {a : Addr} {C : String} (hM : Met1 l Z n0 [] y by' ml' ret' rm as h Q) (E : Exa Z h a C) (w1 : (Jvm.Cond.methodLink own index y).before a0 Z = true) (w2 : (Jvm.Cond.instanceMethod y).before a0 Z = true) {kk : Nat} (wi : (Jvm.Cond.instantiable y.cls kk).before a0 Z = true) (w4 : (Jvm.Cond.privateMethod y).before a0 Z = true) (wc : (Jvm.Cond.code y by' ml' ret').before a0 Z = true) (wz : (Jvm.Cond.initialized y.cls).before a0 Z = true) (hy : y.cls ≠ "java/lang/invoke/MethodHandle" ∧ y.cls ≠ "java/lang/invoke/VarHandle") {ps : List FieldType} {rt : Option FieldType} (pd : parseMethodDescriptor y.desc = some ⟨ps, rt⟩) (argsL : List Value) (has : (Value.ref a :: argsL).toArray = as) (hln : argsL.length = ps.length) (W : Nat) (hW : (st.map fun v => v.category).sum ≤ W) (hsize : L.size = ml) (hf : rm.frames + 1 ≤ R.frames) (hl : W + (ml' + 11) + rm.locals ≤ R.locals) (hc : cells + rm.cells ≤ R.cells) (hs : slots + rm.slots ≤ R.slots) (hd : decode bytes pc = .ok (.invokevirtual index, 3)) (r : ∀ T' h' v, Q v h' → Cx p l e R s m args below meth c Z bytes ml own ret mname n0 T' h' (cells + rm.cells) (slots + rm.slots) → Run p e below m K T' pc' L (v.toList ++ st)) (q : pc + 3 = pc' := by rfl) {S : List Value} (hS : S = argsL.reverse ++ Value.ref a :: st := by rfl) : Run p e below m K T pc L S := by
  obtain ⟨⟨locs, X, N⟩, e0, hx, hby, hml, hZ, hown, hret, hnm, hlk, hsz⟩ := X
  subst q has hS
  obtain ⟨cq, qq, qq'⟩ := E.cell
  obtain ⟨ci, ki, hi1, hi2, -, hi3, -⟩ := Cond.instantiable_spec (mvT hZ wi (args := #[]) : (Jvm.Cond.instantiable y.cls kk).before #[] s = true)
  have hpv := Cond.privateMethod_at (mvP hZ w4 (args := #[]))
  obtain ⟨v, _, ⟨T', L', k', n'⟩, -, X', ⟨Lc, hQ', l', y', z'⟩, stp⟩ := X.privateBack hx (y := y) hown (mvT hZ w1) (mvT hZ w2) (selects_self_of_private hi1 hi2 (Bool.or_eq_false_iff.mp hi3).1 hpv (mvT hZ w2) hy) hpv (mvT hZ wc) hy (backOf (W := W) (Q := fun v h' L => Q v h' ∧ Fr n0 L ∧ n0 ≤ h'.size) hM hZ wc wz hf hl) (g := mkF m pc L (argsL.reverse ++ .ref a :: st)) rfl (by rw [hml]; exact hsize) (Steps.refl _) (a := a) (by rw [e0]; exact qq) qq' (argsL := argsL) (rest := st) (lenOf pd hln) rfl (by show 2 * 0 + _ ≤ _; omega) (hb hby hd) (fun _ _ => ⟨rfl, e0, hc, hs⟩)
  dsimp only [Pt.U, Pt.locs, Pt.cells, Pt.slots] at X' l' y' z' stp hQ'
  subst l' y' z'
  obtain ⟨hQ1, N1, hs1⟩ := hQ'
  exact Run.of (fun t k => stp.trans k) (r T' _ v hQ1 ⟨⟨_, X', Fr.app N N1⟩, rfl, hx, hby, hml, hZ, hown, hret, hnm, hlk, hs1⟩)
theorem r_newarrayE (pc' : Nat) (X : Cx p l e R s m args below meth c Z bytes ml own ret mname n0 T h cells slots) {a0 : Array Value} {aty : ArrayType} {z : Int32} (n cap : Nat) (ad : String) (had : "[" ++ (newarray.typeOf aty).toString = ad) (w : (Jvm.Cond.arrayClass (newarray.typeOf aty)).before a0 Z = true) (hd : decode bytes pc = .ok (.newarray aty, 2)) (hz : z.toInt = (n : Int)) (hcap : n ≤ cap) (hb8 : cap * 8 ≤ 536870912) (hc : cells + 1 ≤ R.cells) (hl : slots + cap ≤ R.slots) (r : ∀ T' h' b, b = h.size → n0 ≤ b → Ext h h' → Exa Z h' b ad → AF Z h' b (newarray.typeOf aty) n (fun _ => defaultValue (newarray.typeOf aty)) → Cx p l e R s m args below meth c Z bytes ml own ret mname n0 T' h' (cells + 1) (slots + cap) → Run p e below m K T' pc' L (.ref b :: st)) (q : pc + 2 = pc' := by rfl) : Run p e below m K T pc L (.int z :: st) := by
  obtain ⟨⟨locs, X, N⟩, e0, hx, hby, hml, hZ, hown, hret, hnm, hlk, hsz⟩ := X
  subst q
  have hz0 : ¬ z < 0 := by rw [Int32.lt_iff_toInt_lt]; have : (0 : Int32).toInt = 0 := rfl; omega
  have hzn : z.toNatClampNeg = n := by show z.toInt.toNat = n; omega
  have hzl := z.toInt_lt
  obtain ⟨T', h', cA, X', e', E', A', Ex', stp⟩ := newPE X hx hZ w e0 (g := mkF m pc L (.int z :: st)) rfl (hb hby hd) rfl hz0 (cap := cap) (by rw [hzn]; exact hcap) hb8 hc hl had
  refine Run.of stp (r T' h' h.size rfl hsz E' Ex' ⟨_, A', by rw [sz_new, hzn], by omega, fun j hj => ?_⟩ ⟨⟨_, X', N⟩, e', hx, hby, hml, hZ, hown, hret, hnm, hlk, Nat.le_trans hsz E'.1⟩)
  simp [newA, hzn, hj]
theorem r_clone (pc' : Nat) (X : Cx p l e R s m args below meth c Z bytes ml own ret mname n0 T h cells slots) {a0 : Array Value} {ad : String} {index : Nat} (w1 : (Jvm.Cond.methodLink own index ⟨ad, "clone", "()Ljava/lang/Object;"⟩).before a0 Z = true) (w2 : (Jvm.Cond.sameMethod ad "java/lang/Object" "clone" "()Ljava/lang/Object;").before a0 Z = true) (w3 : (Jvm.Cond.native ⟨"java/lang/Object", "clone", "()Ljava/lang/Object;"⟩).before a0 Z = true) (w4 : (Jvm.Cond.instanceMethod ⟨"java/lang/Object", "clone", "()Ljava/lang/Object;"⟩).before a0 Z = true) (w5 : (Jvm.Cond.selects ad ⟨ad, "clone", "()Ljava/lang/Object;"⟩ ⟨"java/lang/Object", "clone", "()Ljava/lang/Object;"⟩).before a0 Z = true) (w6 : (Jvm.Cond.castable ad "java/lang/Cloneable").before a0 Z = true) {a : Addr} {ty : FieldType} {n : Nat} {f : Nat → Value} (A : AF Z h a ty n f) (E : Exa Z h a ad) (hfit : ∀ j, j < n → fits ty (f j) = true) (cap : Nat) (hcap : n ≤ cap) (W : Nat) (hW : (st.map fun v => v.category).sum ≤ W) (hsize : L.size = ml) (hf : 1 ≤ R.frames) (hl : W + 14 ≤ R.locals) (hc : cells + 1 ≤ R.cells) (hs : slots + cap ≤ R.slots) (hd : decode bytes pc = .ok (.invokevirtual index, 3)) (r : ∀ T' h' b, b = h.size → n0 ≤ b → Ext h h' → Exa Z h' b ad → AF Z h' b ty n f → Cx p l e R s m args below meth c Z bytes ml own ret mname n0 T' h' (cells + 1) (slots + cap) → Run p e below m K T' pc' L (.ref b :: st)) (q : pc + 3 = pc' := by rfl) : Run p e below m K T pc L (.ref a :: st) := by
  obtain ⟨⟨locs, X, N⟩, e0, hx, hby, hml, hZ, hown, hret, hnm, hlk, hsz⟩ := X
  subst q
  obtain ⟨cl, A, S, q, H⟩ := A
  have FC : FitC Z cl := fitC_of A fun i hi v hv => by rw [S] at hi; rw [H i hi] at hv; cases hv; exact hfit i hi
  obtain ⟨T', h', X', e', E', A', Ex', stp⟩ := cloneA X hx hZ hown w1 w2 w3 w4 w5 w6 e0 A E FC (g := mkF m pc L (.ref a :: st)) rfl (by rw [hml]; exact hsize) rfl (hb hby hd) hf (W := W) (cap := cap) (by show 2 * 0 + _ ≤ _; omega) hl (by rw [S]; exact hcap) hc hs
  exact Run.of stp (r T' h' h.size rfl hsz E' Ex' ⟨_, A', S, q, H⟩ ⟨⟨_, X', N⟩, e', hx, hby, hml, hZ, hown, hret, hnm, hlk, Nat.le_trans hsz E'.1⟩)
theorem r_castY (pc' : Nat) (X : Cx p l e R s m args below meth c Z bytes ml own ret mname n0 T h cells slots) {a0 : Array Value} {K0 : String} {index : Nat} (w : (Jvm.Cond.classLink own index K0).before a0 Z = true) {a : Addr} (F : Ins Z h a K0 true) (hd : decode bytes pc = .ok (.checkcast index, 3)) (r : ∀ T', Cx p l e R s m args below meth c Z bytes ml own ret mname n0 T' h cells slots → Run p e below m K T' pc' L (.ref a :: st)) (q : pc + 3 = pc' := by rfl) : Run p e below m K T pc L (.ref a :: st) := by
  obtain ⟨⟨locs, X, N⟩, e0, hx, hby, hml, hZ, hown, r1⟩ := X
  subst q
  obtain ⟨T', X', e', stp⟩ := castY X hx hZ hown w e0 F (g := mkF m pc L (.ref a :: st)) rfl rfl (hb hby hd)
  exact Run.of stp (r T' ⟨⟨locs, X', N⟩, e', hx, hby, hml, hZ, hown, r1⟩)
theorem r_instY (pc' : Nat) (X : Cx p l e R s m args below meth c Z bytes ml own ret mname n0 T h cells slots) {a0 : Array Value} {K0 : String} {index : Nat} (w : (Jvm.Cond.classLink own index K0).before a0 Z = true) {a : Addr} (F : Ins Z h a K0 true) (hd : decode bytes pc = .ok (.instanceof index, 3)) (r : ∀ T', Cx p l e R s m args below meth c Z bytes ml own ret mname n0 T' h cells slots → Run p e below m K T' pc' L (.int 1 :: st)) (q : pc + 3 = pc' := by rfl) : Run p e below m K T pc L (.ref a :: st) := by
  obtain ⟨⟨locs, X, N⟩, e0, hx, hby, hml, hZ, hown, r1⟩ := X
  subst q
  obtain ⟨T', X', e', stp⟩ := instY X hx hZ hown w e0 F (g := mkF m pc L (.ref a :: st)) rfl rfl (hb hby hd)
  exact Run.of stp (r T' ⟨⟨locs, X', N⟩, e', hx, hby, hml, hZ, hown, r1⟩)
theorem r_instN (pc' : Nat) (X : Cx p l e R s m args below meth c Z bytes ml own ret mname n0 T h cells slots) {a0 : Array Value} {K0 C : String} {index : Nat} (w : (Jvm.Cond.classLink own index K0).before a0 Z = true) {a : Addr} (F : Ins Z s.heap a K0 false) (E : Exa Z s.heap a C) (hd : decode bytes pc = .ok (.instanceof index, 3)) (r : ∀ T', Cx p l e R s m args below meth c Z bytes ml own ret mname n0 T' h cells slots → Run p e below m K T' pc' L (.int 0 :: st)) (q : pc + 3 = pc' := by rfl) : Run p e below m K T pc L (.ref a :: st) := by
  obtain ⟨⟨locs, X, N⟩, e0, hx, hby, hml, hZ, hown, r1⟩ := X
  subst q
  obtain ⟨T', X', e', stp⟩ := instN X hx hZ hown w e0 F E (g := mkF m pc L (.ref a :: st)) rfl rfl (hb hby hd)
  exact Run.of stp (r T' ⟨⟨locs, X', N⟩, e', hx, hby, hml, hZ, hown, r1⟩)
theorem r_instNo (pc' : Nat) (X : Cx p l e R s m args below meth c Z bytes ml own ret mname n0 T h cells slots) {a0 : Array Value} {K0 C : String} {index : Nat} (w : (Jvm.Cond.classLink own index K0).before a0 Z = true) {a : Addr} (E : Exa Z h a C) (F : ∃ c t, Z.vm.findClass C = some c ∧ Z.vm.findClass K0 = some t ∧ Z.vm.assignable c t = false) (hd : decode bytes pc = .ok (.instanceof index, 3)) (r : ∀ T', Cx p l e R s m args below meth c Z bytes ml own ret mname n0 T' h cells slots → Run p e below m K T' pc' L (.int 0 :: st)) (q : pc + 3 = pc' := by rfl) : Run p e below m K T pc L (.ref a :: st) := by
  obtain ⟨⟨locs, X, N⟩, e0, hx, hby, hml, hZ, hown, r1⟩ := X
  subst q
  obtain ⟨T', X', e', stp⟩ := instNo X hx hZ hown w e0 E F (g := mkF m pc L (.ref a :: st)) rfl rfl (hb hby hd)
  exact Run.of stp (r T' ⟨⟨locs, X', N⟩, e', hx, hby, hml, hZ, hown, r1⟩)
theorem r_aaloadC (pc' : Nat) (X : Cx p l e R s m args below meth c Z bytes ml own ret mname n0 T h cells slots) {a : Addr} {cl : Cell} {ty : FieldType} (A : Arr Z h a cl ty) (hty : ty.isReference = true) {j : Int32} {v : Value} (hin : ¬ (j < 0 ∨ cl.slots.size ≤ j.toNatClampNeg)) (hv : cl.slots[j.toNatClampNeg]? = some v) (hd : decode bytes pc = .ok (.aaload, 1)) (r : Run p e below m K T pc' L (v :: st)) (q : pc + 1 = pc' := by rfl) : Run p e below m K T pc L (.int j :: .ref a :: st) := by
  obtain ⟨⟨locs, X, N⟩, e0, hx, hby, hml, hZ, hown, r1⟩ := X
  subst q hby
  exact Run.of (fun t k => X.aaload hx (j := j) (v := v) (by rw [e0]; exact A.1) (State.isArrayOf_alike hZ.alike A.2.1) hty A.2.2 hin hv (g := mkF m pc L (.int j :: .ref a :: st)) rfl rfl hd _ k) r
theorem r_aaload (pc' : Nat) (X : Cx p l e R s m args below meth c Z bytes ml own ret mname n0 T h cells slots) {a : Addr} {ty : FieldType} {n : Nat} {f : Nat → Value} (A : AF Z h a ty n f) (hty : ty.isReference = true) {j : Int32} {i : Nat} {v : Value} (hj : j.toInt = (i : Int)) (hi : i < n) (hv : f i = v) (hd : decode bytes pc = .ok (.aaload, 1)) (r : Run p e below m K T pc' L (v :: st)) (q : pc + 1 = pc' := by rfl) : Run p e below m K T pc L (.int j :: .ref a :: st) := by
  obtain ⟨cl, A, S, -, H⟩ := A
  obtain ⟨h1, h2⟩ := idx_of hj (S ▸ hi)
  exact r_aaloadC pc' X A hty h1 (by rw [h2, H i hi, hv]) hd r q
theorem keepExt {h0 h1 : Heap} (K : Keep h0 h1 []) : Ext h0 h1 := ⟨K.1, fun a c q => K.2.1 a c q nin0⟩
theorem r_instNull (pc' : Nat) (X : Cx p l e R s m args below meth c Z bytes ml own ret mname n0 T h cells slots) {index : Nat} (hd : decode bytes pc = .ok (.instanceof index, 3)) (r : Run p e below m K T pc' L (.int 0 :: st)) (q : pc + 3 = pc' := by rfl) : Run p e below m K T pc L (.null :: st) := by
  obtain ⟨⟨locs, X, -⟩, -, hx, hby, -⟩ := X
  subst q hby
  exact Run.of (fun t k => X.instanceofNull hx (g := mkF m pc L (.null :: st)) rfl rfl hd _ k) r
def b2i (P : Prop) [Decidable P] : Int32 := if P then 1 else 0
theorem b2i_t {P : Prop} [Decidable P] (h : P) : b2i P = 1 := if_pos h
theorem b2i_f {P : Prop} [Decidable P] (h : ¬ P) : b2i P = 0 := if_neg h
theorem b2i_eq0 {P : Prop} [Decidable P] (h : ¬ P) : b2i P = 0 := if_neg h
theorem b2i_ne0 {P : Prop} [Decidable P] (h : P) : ¬ b2i P = 0 := by rw [b2i_t h]; decide
theorem b2i_01 {P : Prop} [Decidable P] : b2i P = 0 ∨ b2i P = 1 := by by_cases h : P; exact Or.inr (b2i_t h); exact Or.inl (b2i_f h)
theorem b2i_nar {P : Prop} [Decidable P] : nar .boolean (b2i P) = b2i P := by by_cases h : P; (rw [b2i_t h]; rfl); (rw [b2i_f h]; rfl)
theorem b2i_congr {P Q : Prop} [Decidable P] [Decidable Q] (h : P ↔ Q) : b2i P = b2i Q := by by_cases q : P; (rw [b2i_t q, b2i_t (h.mp q)]); (rw [b2i_f q, b2i_f (fun z => q (h.mpr z))])
theorem ltI {x y : Int32} {a b : Int} (hx : x.toInt = a) (hy : y.toInt = b) : x < y ↔ a < b := by rw [Int32.lt_iff_toInt_lt, hx, hy]
theorem eqI {x y : Int32} {a b : Int} (hx : x.toInt = a) (hy : y.toInt = b) : x = y ↔ a = b := by rw [← Int32.toInt_inj, hx, hy]
theorem ltJ {x y : Int64} {a b : Int} (hx : x.toInt = a) (hy : y.toInt = b) : x < y ↔ a < b := by rw [Int64.lt_iff_toInt_lt, hx, hy]
theorem eqJ {x y : Int64} {a b : Int} (hx : x.toInt = a) (hy : y.toInt = b) : x = y ↔ a = b := by rw [← Int64.toInt_inj, hx, hy]
theorem addI {x y : Int32} {a b : Int} (hx : x.toInt = a) (hy : y.toInt = b) (h1 : -2147483648 ≤ a + b) (h2 : a + b < 2147483648) : (x + y).toInt = a + b := by have h := c_iadd x y; have r := rng32 (x + y); rw [hx, hy] at h; omega
theorem subI {x y : Int32} {a b : Int} (hx : x.toInt = a) (hy : y.toInt = b) (h1 : -2147483648 ≤ a - b) (h2 : a - b < 2147483648) : (x - y).toInt = a - b := by have h := c_isub x y; have r := rng32 (x - y); rw [hx, hy] at h; omega
theorem addJ {x y : Int64} {a b : Int} (hx : x.toInt = a) (hy : y.toInt = b) (h1 : -9223372036854775808 ≤ a + b) (h2 : a + b < 9223372036854775808) : (x + y).toInt = a + b := by have h := c_ladd x y; have r := rng64 (x + y); rw [hx, hy] at h; omega
theorem subJ {x y : Int64} {a b : Int} (hx : x.toInt = a) (hy : y.toInt = b) (h1 : -9223372036854775808 ≤ a - b) (h2 : a - b < 9223372036854775808) : (x - y).toInt = a - b := by have h := c_lsub x y; have r := rng64 (x - y); rw [hx, hy] at h; omega
theorem natI (n : Nat) (h : n < 2147483648) : (Int32.ofNat n).toInt = n := Int32.toInt_ofNat_small h
def updI (g : Nat → Int32) (i : Nat) (x : Int32) : Nat → Int32 := fun j => if j = i then x else g j
theorem updI_hit {g : Nat → Int32} {i : Nat} {x : Int32} : updI g i x i = x := if_pos rfl
theorem updI_miss {g : Nat → Int32} {i j : Nat} {x : Int32} (q : j ≠ i) : updI g i x j = g j := if_neg q
theorem AF.setI {a : Addr} {ty : FieldType} {n i : Nat} {x : Int32} {g : Nat → Int32} {h' : Heap} (A : AF Z h a ty n (fun j => .int (g j))) (W : Wr h h' a i (.int x)) : AF Z h' a ty n (fun j => .int (updI g i x j)) := (A.set W).congr fun j _ => by by_cases q : j = i <;> simp [upd, updI, q]
def updD (g : Nat → UInt64) (i : Nat) (x : UInt64) : Nat → UInt64 := fun j => if j = i then x else g j
theorem AF.setD {a : Addr} {ty : FieldType} {n i : Nat} {x : UInt64} {g : Nat → UInt64} {h' : Heap} (A : AF Z h a ty n (fun j => .double (g j))) (W : Wr h h' a i (.double x)) : AF Z h' a ty n (fun j => .double (updD g i x j)) := (A.set W).congr fun j _ => by by_cases q : j = i <;> simp [upd, updD, q]
def updJ (g : Nat → Int64) (i : Nat) (x : Int64) : Nat → Int64 := fun j => if j = i then x else g j
theorem updJ_hit {g : Nat → Int64} {i : Nat} {x : Int64} : updJ g i x i = x := if_pos rfl
theorem updJ_miss {g : Nat → Int64} {i j : Nat} {x : Int64} (q : j ≠ i) : updJ g i x j = g j := if_neg q
theorem AF.setJ {a : Addr} {ty : FieldType} {n i : Nat} {x : Int64} {g : Nat → Int64} {h' : Heap} (A : AF Z h a ty n (fun j => .long (g j))) (W : Wr h h' a i (.long x)) : AF Z h' a ty n (fun j => .long (updJ g i x j)) := (A.set W).congr fun j _ => by by_cases q : j = i <;> simp [upd, updJ, q]
theorem Cx.more {cells' slots' : Nat} (X : Cx p l e R s m args below meth c Z bytes ml own ret mname n0 T h cells slots) (h1 : cells ≤ cells') (h2 : slots ≤ slots') : Cx p l e R s m args below meth c Z bytes ml own ret mname n0 T h cells' slots' := by obtain ⟨⟨locs, X, N⟩, r⟩ := X; exact ⟨⟨locs, X.more h1 h2, N⟩, r⟩
def OV (Z : State) (ad : String) (ty : FieldType) (C : String) : Prop := ∃ cA, Z.vm.findClass ad = some cA ∧ OvrA Z cA ty C
theorem r_anewarrayA (pc' : Nat) (X : Cx p l e R s m args below meth c Z bytes ml own ret mname n0 T h cells slots) {a0 : Array Value} {ty : FieldType} {z : Int32} (n cap : Nat) (C ad : String) {index : Nat} (hC : (FieldType.array ty).toString = C) (had : "[" ++ C = ad) (w1 : (Jvm.Cond.classLink own index C).before a0 Z = true) (w2 : (Jvm.Cond.arrayOver (.array ty)).before a0 Z = true) (hd : decode bytes pc = .ok (.anewarray index, 3)) (hz : z.toInt = (n : Int)) (hcap : n ≤ cap) (hb8 : cap * 8 ≤ 536870912) (hc : cells + 1 ≤ R.cells) (hl : slots + cap ≤ R.slots) (r : ∀ T' h' b, b = h.size → n0 ≤ b → Ext h h' → Exa Z h' b ad → OV Z ad ty C → AF Z h' b (.array ty) n (fun _ => .null) → Cx p l e R s m args below meth c Z bytes ml own ret mname n0 T' h' (cells + 1) (slots + cap) → Run p e below m K T' pc' L (.ref b :: st)) (q : pc + 3 = pc' := by rfl) : Run p e below m K T pc L (.int z :: st) := by
  obtain ⟨⟨locs, X, N⟩, e0, hx, hby, hml, hZ, hown, hret, hnm, hlk, hsz⟩ := X
  subst q
  have hz0 : ¬ z < 0 := by rw [Int32.lt_iff_toInt_lt]; have : (0 : Int32).toInt = 0 := rfl; omega
  have hzn : z.toNatClampNeg = n := by show z.toInt.toNat = n; omega
  have hzl := z.toInt_lt
  obtain ⟨T', h', cA, X', e', E', A', Ex', O', stp⟩ := newRA X hx hZ hown hC w1 w2 e0 (g := mkF m pc L (.int z :: st)) rfl (hb hby hd) rfl hz0 (cap := cap) (by rw [hzn]; exact hcap) hb8 hc hl had
  refine Run.of stp (r T' h' h.size rfl hsz E' Ex' ⟨cA, ?_, O'⟩ ⟨_, A', by rw [sz_new, hzn], by omega, fun j hj => ?_⟩ ⟨⟨_, X', N⟩, e', hx, hby, hml, hZ, hown, hret, hnm, hlk, Nat.le_trans hsz E'.1⟩)
  · obtain ⟨cell, k, q1, q2, -⟩ := Ex'
    have q3 := A'.1
    rw [q3] at q1
    cases q1
    exact q2
  · simp [newA, hzn, hj, defaultValue]
theorem r_aastoreA (pc' : Nat) (X : Cx p l e R s m args below meth c Z bytes ml own ret mname n0 T h cells slots) {a y : Addr} {ty : FieldType} {C ad : String} {n : Nat} {f : Nat → Value} (A : AF Z h a (.array ty) n f) (E : Exa Z h a ad) (O : OV Z ad ty C) (Ey : Exa Z h y C) {j : Int32} {i : Nat} (hj : j.toInt = (i : Int)) (hi : i < n) (ga : n0 ≤ a) (hd : decode bytes pc = .ok (.aastore, 1)) (r : ∀ T' h', Wr h h' a i (.ref y) → Cx p l e R s m args below meth c Z bytes ml own ret mname n0 T' h' cells slots → Run p e below m K T' pc' L st) (q : pc + 1 = pc' := by rfl) : Run p e below m K T pc L (.ref y :: .int j :: .ref a :: st) := by
  obtain ⟨⟨locs, X, N⟩, e0, hx, hby, hml, hZ, hown, hret, hnm, hlk, hsz⟩ := X
  subst q
  obtain ⟨cl, A, S, -, H⟩ := A
  obtain ⟨h1, h2⟩ := idx_of hj (S ▸ hi)
  obtain ⟨cA, o1, O⟩ := O
  have ec : cl.cls = cA := by
    obtain ⟨cell, k, q1, q2, -⟩ := E
    rw [A.1] at q1
    cases q1
    rw [o1] at q2
    cases q2
    rfl
  obtain ⟨T', h', X', e', W', stp⟩ := stR X hx hZ e0 A (j := j) h1 rfl (Sto.ofVA A ec O (Ins.self Ey)) (g := mkF m pc L (.ref y :: .int j :: .ref a :: st)) rfl rfl (hb hby hd)
  exact Run.of stp (r T' h' (h2 ▸ W') ⟨⟨_, X', Fr.snoc X' N ga⟩, e', hx, hby, hml, hZ, hown, hret, hnm, hlk, by rw [W'.size]; exact hsz⟩)
def cpF (f g : Nat → Value) (i1 i2 k j : Nat) : Value := if i2 ≤ j ∧ j < i2 + k then f (i1 + (j - i2)) else g j
theorem own_getD (f : Nat → Value) {n j : Nat} (d : Value) (q : j < n) : ((List.range n).map f).getD j d = f j := by simp [List.getD_eq_getElem?_getD, q]
theorem own_cpL (f g : Nat → Value) {n N i1 i2 k j : Nat} (h1 : i1 + k ≤ n) (h2 : i2 + k ≤ N) (hj : j < N) : (((List.range N).map g).take i2 ++ ((List.range k).map fun i => ((List.range n).map f).getD (i1 + i) .null) ++ ((List.range N).map g).drop (i2 + k)).getD j .null = cpF f g i1 i2 k j := by
  unfold cpF
  rw [List.getD_eq_getElem?_getD]
  by_cases q1 : j < i2
  · rw [if_neg (by omega), List.append_assoc, List.getElem?_append_left (by simp; omega)]
    simp [q1, hj]
  · by_cases q2 : j < i2 + k
    · rw [if_pos (by omega), List.getElem?_append_left (by simp; omega), List.getElem?_append_right (by simp; omega)]
      simp only [List.length_take, List.length_map, List.length_range]
      rw [show min i2 N = i2 by omega, List.getElem?_map, List.getElem?_range (by omega)]
      simp only [Option.map_some, Option.getD_some]
      exact own_getD f _ (by omega)
    · rw [if_neg (by omega), List.getElem?_append_right (by simp; omega), List.getElem?_drop]
      simp only [List.length_append, List.length_take, List.length_map, List.length_range]
      rw [show i2 + k + (j - (min i2 N + k)) = j by omega]
      simp [hj]
theorem r_arraycopy (pc' : Nat) (X : Cx p l e R s m args below meth c Z bytes ml own ret mname n0 T h cells slots) {a0 : Array Value} {index : Nat} (w1 : (Jvm.Cond.methodLink own index Jvm.Stand.acN).before a0 Z = true) (w2 : (Jvm.Cond.native Jvm.Stand.acN).before a0 Z = true) (w3 : (Jvm.Cond.static Jvm.Stand.acN).before a0 Z = true) (w4 : (Jvm.Cond.initialized "java/lang/System").before a0 Z = true) {a b : Addr} {ty : FieldType} {n N : Nat} {f g : Nat → Value} (A : AF Z h a ty n f) (B : AF Z h b ty N g) (hty : refKind ty = false) (ff : ∀ j, j < n → fits ty (f j) = true) (gf : ∀ j, j < N → fits ty (g j) = true) {sp dp nn : Int32} {i1 i2 k : Nat} (e1 : sp.toInt = (i1 : Int)) (e2 : dp.toInt = (i2 : Int)) (e3 : nn.toInt = (k : Int)) (h1 : i1 + k ≤ n) (h2 : i2 + k ≤ N) (ga : n0 ≤ b) (W : Nat) (hW : (st.map fun v => v.category).sum ≤ W) (hsize : L.size = ml) (hf : 1 ≤ R.frames) (hl : W + (nativeFrameWords "java/lang/System" "arraycopy" 5 + 11) ≤ R.locals) (hd : decode bytes pc = .ok (.invokestatic index, 3)) (r : ∀ T' h', Keep h h' [b] → AF Z h' b ty N (cpF f g i1 i2 k) → Cx p l e R s m args below meth c Z bytes ml own ret mname n0 T' h' cells slots → Run p e below m K T' pc' L st) (q : pc + 3 = pc' := by rfl) : Run p e below m K T pc L (.int nn :: .int dp :: .ref b :: .int sp :: .ref a :: st) := by
  obtain ⟨⟨locs, X, N0⟩, e0, hx, hby, hml, hZ, hown, hret, hnm, hlk, hsz⟩ := X
  subst q
  obtain ⟨ca, A, Sa, qa, Ha⟩ := A
  obtain ⟨cb, B, Sb, qb, Hb⟩ := B
  have neg : ∀ {x : Int32} {i : Nat}, x.toInt = (i : Int) → ¬ x < 0 := fun {x i} e z => by rw [Int32.lt_iff_toInt_lt] at z; have : (0 : Int32).toInt = 0 := rfl; omega
  have cln : ∀ {x : Int32} {i : Nat}, x.toInt = (i : Int) → x.toNatClampNeg = i := fun {x i} e => by show x.toInt.toNat = i; omega
  have na := Int32.toInt_ofNat_small (n := n) qa
  have nb := Int32.toInt_ofNat_small (n := N) qb
  have VA : Arv Z h a ca.cls ty (Int32.ofNat n) ((List.range n).map f) .null := ⟨ca, A, rfl, by rw [Sa, cln na], neg na, fun i hi => by rw [Sa] at hi; rw [Ha i hi, own_getD f _ hi], fun i hi => by rw [Sa] at hi; rw [own_getD f _ hi]; exact ff i hi⟩
  have VB : Arv Z h b cb.cls ty (Int32.ofNat N) ((List.range N).map g) .null := ⟨cb, B, rfl, by rw [Sb, cln nb], neg nb, fun i hi => by rw [Sb] at hi; rw [Hb i hi, own_getD g _ hi], fun i hi => by rw [Sb] at hi; rw [own_getD g _ hi]; exact gf i hi⟩
  obtain ⟨T', h', Lo, X', e', N', Kp, ⟨c', A', -, S', -, H', -⟩, stp⟩ := cpA X hx hZ hown w1 w2 w3 w4 e0 VA VB (Or.inl ⟨rfl, hty⟩) (neg e1) (neg e2) (neg e3) (by rw [cln e1, cln e3, cln na]; exact h1) (by rw [cln e2, cln e3, cln nb]; exact h2) rfl (by rw [cln e2, cln e3]; simp; exact h2) N0 ga (g := mkF m pc L (.int nn :: .int dp :: .ref b :: .int sp :: .ref a :: st)) rfl (by rw [hml]; exact hsize) rfl (hb hby hd) hf (W := W) (by show 2 * 0 + _ ≤ _; omega) hl
  rw [cln nb] at S'
  rw [cln e1, cln e2, cln e3] at H'
  refine Run.of stp (r T' h' Kp ⟨c', A', S', qb, fun j hj => ?_⟩ ⟨⟨_, X', N'⟩, e', hx, hby, hml, hZ, hown, hret, hnm, hlk, Nat.le_trans hsz Kp.1⟩)
  rw [H' j (by rw [S']; exact hj), own_cpL f g h1 h2 hj]
end Own
theorem pd_0 : parseMethodDescriptor "(I)I" = some ⟨[.int], some .int⟩ := by decide +kernel
theorem pd_1 : parseMethodDescriptor "(IILjava/util/function/BiFunction;)I" = some ⟨[.int, .int, (.object "java/util/function/BiFunction")], some .int⟩ := by decide +kernel
theorem pd_2 : parseMethodDescriptor "(II)I" = some ⟨[.int, .int], some .int⟩ := by decide +kernel
theorem pd_3 : parseMethodDescriptor "(I)Ljava/lang/Object;" = some ⟨[.int], some (.object "java/lang/Object")⟩ := by decide +kernel
theorem pd_4 : parseMethodDescriptor "()V" = some ⟨[], none⟩ := by decide +kernel
theorem pd_5 : parseMethodDescriptor "(I)[Ljava/lang/Object;" = some ⟨[.int], some (.array (.object "java/lang/Object"))⟩ := by decide +kernel
theorem pd_6 : parseMethodDescriptor "()[Ljava/lang/Object;" = some ⟨[], some (.array (.object "java/lang/Object"))⟩ := by decide +kernel
theorem pd_7 : parseMethodDescriptor "(Ljava/lang/Object;[Ljava/lang/Object;I)V" = some ⟨[(.object "java/lang/Object"), (.array (.object "java/lang/Object")), .int], none⟩ := by decide +kernel
theorem pd_8 : parseMethodDescriptor "(J)I" = some ⟨[.long], some .int⟩ := by decide +kernel
theorem pd_9 : parseMethodDescriptor "(Lcom/example/statera/statera/engine/ReachedStates;)V" = some ⟨[(.object "com/example/statera/statera/engine/ReachedStates")], none⟩ := by decide +kernel
theorem pd_10 : parseMethodDescriptor "(Lcom/example/statera/statera/engine/IdTable$Items;)V" = some ⟨[(.object "com/example/statera/statera/engine/IdTable$Items")], none⟩ := by decide +kernel
theorem pd_11 : parseMethodDescriptor "(J)J" = some ⟨[.long], some .long⟩ := by decide +kernel
theorem pd_12 : parseMethodDescriptor "()I" = some ⟨[], some .int⟩ := by decide +kernel
theorem pd_13 : parseMethodDescriptor "(Ljava/lang/Object;)Z" = some ⟨[(.object "java/lang/Object")], some .boolean⟩ := by decide +kernel
theorem pd_14 : parseMethodDescriptor "(III)V" = some ⟨[.int, .int, .int], none⟩ := by decide +kernel
theorem pd_15 : parseMethodDescriptor "([BI[BII)I" = some ⟨[(.array .byte), .int, (.array .byte), .int, .int], some .int⟩ := by decide +kernel
theorem pd_16 : parseMethodDescriptor "([BII[BII)Z" = some ⟨[(.array .byte), .int, .int, (.array .byte), .int, .int], some .boolean⟩ := by decide +kernel
theorem pd_17 : parseMethodDescriptor "(JI)Z" = some ⟨[.long, .int], some .boolean⟩ := by decide +kernel
theorem pd_18 : parseMethodDescriptor "(J)Z" = some ⟨[.long], some .boolean⟩ := by decide +kernel
theorem pd_19 : parseMethodDescriptor "([I)J" = some ⟨[(.array .int)], some .long⟩ := by decide +kernel
theorem pd_20 : parseMethodDescriptor "(JJ)J" = some ⟨[.long, .long], some .long⟩ := by decide +kernel
theorem pd_21 : parseMethodDescriptor "(I)V" = some ⟨[.int], none⟩ := by decide +kernel
theorem pd_22 : parseMethodDescriptor "(J)B" = some ⟨[.long], some .byte⟩ := by decide +kernel
theorem pd_23 : parseMethodDescriptor "(J[I)J" = some ⟨[.long, (.array .int)], some .long⟩ := by decide +kernel
theorem pd_24 : parseMethodDescriptor "()Z" = some ⟨[], some .boolean⟩ := by decide +kernel
theorem pd_25 : parseMethodDescriptor "([I)Z" = some ⟨[(.array .int)], some .boolean⟩ := by decide +kernel
theorem pd_26 : parseMethodDescriptor "([I)V" = some ⟨[(.array .int)], none⟩ := by decide +kernel
section Own2
variable {p : Program} {l : Launch} {e : Env} {R : Room} {s : State} {m : MethodId} {args : Array Value} {below : List Frame} {meth : Method} {c : Code} {Z : State} {bytes : ByteArray} {ml : Nat} {own mname : String} {ret : Option FieldType} {n0 : Nat} {T : State} {h : Heap} {cells slots : Nat} {K : State → Prop} {pc : Nat} {L : Array Slot} {st : List Value}
theorem own_sref {own : String} {index : Nat} {y : MethodName} {a0 : Array Value} (hZ : Z.Warmed39 s.vm) (hown : s.vm.findClass own = some m.cls) (w1 : (Jvm.Cond.methodRef own index y).before a0 Z = true) (hy : y.cls ≠ "java/lang/invoke/MethodHandle" ∧ y.cls ≠ "java/lang/invoke/VarHandle") (e : Env) :
    ∀ (U : State) (r : MethodId), s.WarmedH U.vm → s.methodNamed? y = some r → namesResolved U.vm m.cls index r.cls ∧ U.vm.methodReady m.cls index r := by
  intro U r hU hr
  have hU' : Z.Warmed39 U.vm := wtrans hZ hU
  have hnZ : Z.methodNamed? y = some r := by
    have q := State.methodNamed?_setVm (s := Z) hZ.alike y
    have e1 : (Z.setVm s.vm).methodNamed? y = s.methodNamed? y := rfl
    rw [e1, hr] at q
    exact q.symm
  have hnU : (Z.setVm U.vm).methodNamed? y = some r := by rw [State.methodNamed?_setVm hU'.alike]; exact hnZ
  have w := Cond.methodRef_warmed39 hU' hnZ hy w1
  have hcur : (Z.setVm U.vm).vm.findClass own = some m.cls := by show U.vm.findClass own = _; rw [hU.alike.findClass]; exact hown
  obtain ⟨m', c', q1, q2, q3, q4⟩ := Cond.methodRef_named e (s := Z.setVm U.vm) hcur w
  cases (State.methodFound?_of_named hnU hy).symm.trans q1
  cases (findClass_of_methodNamed hnU).symm.trans q3
  exact ⟨q4, q2⟩
theorem own_nestPriv {locs : List Loc} (X : Stand p l e R s m args below meth c T locs cells slots) (hx : p.tables.exec = Jvm.exec) (hZ : Z.Warmed39 s.vm) (e0 : T.heap = h) {a0 : Array Value} {own host C : String} {index kk ml' : Nat} {y : MethodName} {by' : ByteArray} {ret' : Option FieldType} {a : Addr} (hown : s.vm.findClass own = some m.cls) (E : Exa Z h a C) (w1 : (Jvm.Cond.methodLinkNest own index y host).before a0 Z = true) (w2 : (Jvm.Cond.instanceMethod y).before a0 Z = true) (wi : (Jvm.Cond.instantiable y.cls kk).before a0 Z = true) (w4 : (Jvm.Cond.privateMethod y).before a0 Z = true) (wc : (Jvm.Cond.code y by' ml' ret').before a0 Z = true) (hy : y.cls ≠ "java/lang/invoke/MethodHandle" ∧ y.cls ≠ "java/lang/invoke/VarHandle")
    {W : Nat} {Pre : Free.Pt → Array Value → Prop} {Post : Free.Pt → Array Value → Option Value → Free.Pt → Prop} (hK : Free.Back l R p e below s args y 3 W Pre Post) {g : JFrame} (hg : g.method = m) (hsize : g.locals.size = c.maxLocals) {argsL rest : List Value} (hlen : ∀ sig, parseMethodDescriptor y.desc = some sig → argsL.length = sig.parameters.length) (hst : g.stack = argsL.reverse ++ .ref a :: rest) (hW : 2 * g.monitorRoom + (rest.map fun v => v.category).sum ≤ W) (hd : decode c.code g.pc = .ok (.invokevirtual index, 3)) (hpre : ∀ vm1, s.WarmedH vm1 → Pre ⟨T.setVm vm1, locs, cells, slots⟩ (.ref a :: argsL).toArray) :
    ∃ (v : Option Value) (vm1 : Vm) (B : Free.Pt), s.WarmedH vm1 ∧ Stand p l e R s m args below meth c B.U B.locs B.cells B.slots ∧ Post ⟨T.setVm vm1, locs, cells, slots⟩ (.ref a :: argsL).toArray v B ∧ Steps p.tables e below (T.setTop g) (B.U.setTop { g with pc := g.pc + 3, stack := v.toList ++ rest }) := by
  obtain ⟨r, rm, n1, n2, n3, n4⟩ := Cond.instanceMethod_spec (mvT hZ w2 (args := args) : (Jvm.Cond.instanceMethod y).before args s = true)
  have sg : parseMethodDescriptor y.desc = some rm.sig := by
    obtain ⟨rm', -, k1, -, -, -, -, -, -, k2⟩ := Cond.code_spec n1 (mvT hZ wc (args := args) : (Jvm.Cond.code y by' ml' ret').before args s = true)
    rw [n2] at k1
    cases k1
    exact k2
  obtain ⟨ci, ki, f1, f2, -, f3, -⟩ := Cond.instantiable_spec (mvT hZ wi (args := args) : (Jvm.Cond.instantiable y.cls kk).before args s = true)
  have f3 := (Bool.or_eq_false_iff.mp f3).1
  cases f1.symm.trans (findClass_of_methodNamed n1)
  obtain ⟨cell, q1, q2⟩ := E.cell
  have sl : selectMethod e.platform s.vm cell.cls r = .method r := selectMethod_private n2 (Cond.privateMethod_at (mvP hZ w4 (args := args)) r rm n1 n2)
  obtain ⟨vm1, X1, st1⟩ := X.invokevirtualNest hx hown (Cond.methodLinkNest_wide hZ w1 :) n1 n2 n3 f2 f3 hy (by rw [e0]; exact q1) q2 sl n2 n4 f2 f3 hg (hlen _ sg) hst hd
  obtain ⟨v, B, X2, po, st2⟩ := X1.back hK (g := { g with stack := rest }) hg hsize hW hd (X1.named n1) (hpre vm1 X1.warmed) (st1 _ fun acts => by rw [doInvoke_state]; exact Steps.refl _)
  exact ⟨v, vm1, B, X1.warmed, X2, po, st2⟩
theorem r_specialR (pc' : Nat) (X : Cx p l e R s m args below meth c Z bytes ml own ret mname n0 T h cells slots) {a0 : Array Value} {y : MethodName} {by' : ByteArray} {ml' : Nat} {ret' : Option FieldType} {rm : Room} {as : Array Value} {Q : Option Value → Heap → Prop} {index : Nat} {a : Addr} (hM : Met1 l Z n0 [] y by' ml' ret' rm as h Q) (hyn : y.name = "<init>") (hr0 : ret' = none) (w1 : (Jvm.Cond.methodRef own index y).before a0 Z = true) (w2 : (Jvm.Cond.instanceMethod y).before a0 Z = true) (wc : (Jvm.Cond.code y by' ml' ret').before a0 Z = true) (wz : (Jvm.Cond.initialized y.cls).before a0 Z = true) (hy : y.cls ≠ "java/lang/invoke/MethodHandle" ∧ y.cls ≠ "java/lang/invoke/VarHandle") {ps : List FieldType} {rt : Option FieldType} (pd : parseMethodDescriptor y.desc = some ⟨ps, rt⟩) (argsL : List Value) (has : (Value.ref a :: argsL).toArray = as) (hln : argsL.length = ps.length) (W : Nat) (hW : (st.map fun v => v.category).sum ≤ W) (hsize : L.size = ml) (hf : rm.frames + 1 ≤ R.frames) (hl : W + (ml' + 11) + rm.locals ≤ R.locals) (hc : cells + rm.cells ≤ R.cells) (hs : slots + rm.slots ≤ R.slots) (hd : decode bytes pc = .ok (.invokespecial index, 3)) (r : ∀ T' h' v, Q v h' → Cx p l e R s m args below meth c Z bytes ml own ret mname n0 T' h' (cells + rm.cells) (slots + rm.slots) → Run p e below m K T' pc' L (v.toList ++ st)) (q : pc + 3 = pc' := by rfl) {S : List Value} (hS : S = argsL.reverse ++ Value.ref a :: st := by rfl) : Run p e below m K T pc L S := by
  obtain ⟨⟨locs, X, N⟩, e0, hx, hby, hml, hZ, hown, hret, hnm, hlk, hsz⟩ := X
  subst q has hS
  subst hr0
  have hS : SCall p l e R s m args below meth c index y := SCall.of_ready hx hyn (mvT hZ w2) (mvT hZ wc) (own_sref hZ hown w1 hy e)
  obtain ⟨v, _, ⟨T', L', k', n'⟩, -, X', ⟨Lc, hQ', l', y', z'⟩, stp⟩ := hS X (backOf (W := W) (Q := fun v h' L => Q v h' ∧ Fr n0 L ∧ n0 ≤ h'.size) hM hZ wc wz hf hl) (g := mkF m pc L (argsL.reverse ++ .ref a :: st)) rfl (by rw [hml]; exact hsize) (Steps.refl _) (a := a) (argsL := argsL) (rest := st) (lenOf pd hln) rfl (by show 2 * 0 + _ ≤ _; omega) (hb hby hd) (fun _ _ => ⟨rfl, e0, hc, hs⟩)
  dsimp only [Pt.U, Pt.locs, Pt.cells, Pt.slots] at X' l' y' z' stp hQ'
  subst l' y' z'
  obtain ⟨hQ1, N1, hs1⟩ := hQ'
  exact Run.of (fun t k => stp.trans k) (r T' _ v hQ1 ⟨⟨_, X', Fr.app N N1⟩, rfl, hx, hby, hml, hZ, hown, hret, hnm, hlk, hs1⟩)
theorem r_privateN (pc' : Nat) (X : Cx p l e R s m args below meth c Z bytes ml own ret mname n0 T h cells slots) {a0 : Array Value} {y : MethodName} {by' : ByteArray} {ml' : Nat} {ret' : Option FieldType} {rm : Room} {as : Array Value} {Q : Option Value → Heap → Prop} {index : Nat} {a : Addr} {C host : String} (hM : Met1 l Z n0 [] y by' ml' ret' rm as h Q) (E : Exa Z h a C) (w1 : (Jvm.Cond.methodLinkNest own index y host).before a0 Z = true) (w2 : (Jvm.Cond.instanceMethod y).before a0 Z = true) {kk : Nat} (wi : (Jvm.Cond.instantiable y.cls kk).before a0 Z = true) (w4 : (Jvm.Cond.privateMethod y).before a0 Z = true) (wc : (Jvm.Cond.code y by' ml' ret').before a0 Z = true) (wz : (Jvm.Cond.initialized y.cls).before a0 Z = true) (hy : y.cls ≠ "java/lang/invoke/MethodHandle" ∧ y.cls ≠ "java/lang/invoke/VarHandle") {ps : List FieldType} {rt : Option FieldType} (pd : parseMethodDescriptor y.desc = some ⟨ps, rt⟩) (argsL : List Value) (has : (Value.ref a :: argsL).toArray = as) (hln : argsL.length = ps.length) (W : Nat) (hW : (st.map fun v => v.category).sum ≤ W) (hsize : L.size = ml) (hf : rm.frames + 1 ≤ R.frames) (hl : W + (ml' + 11) + rm.locals ≤ R.locals) (hc : cells + rm.cells ≤ R.cells) (hs : slots + rm.slots ≤ R.slots) (hd : decode bytes pc = .ok (.invokevirtual index, 3)) (r : ∀ T' h' v, Q v h' → Cx p l e R s m args below meth c Z bytes ml own ret mname n0 T' h' (cells + rm.cells) (slots + rm.slots) → Run p e below m K T' pc' L (v.toList ++ st)) (q : pc + 3 = pc' := by rfl) {S : List Value} (hS : S = argsL.reverse ++ Value.ref a :: st := by rfl) : Run p e below m K T pc L S := by
  obtain ⟨⟨locs, X, N⟩, e0, hx, hby, hml, hZ, hown, hret, hnm, hlk, hsz⟩ := X
  subst q has hS
  obtain ⟨v, _, ⟨T', L', k', n'⟩, -, X', ⟨Lc, hQ', l', y', z'⟩, stp⟩ := own_nestPriv X hx hZ e0 hown E w1 w2 wi w4 wc hy (backOf (W := W) (Q := fun v h' L => Q v h' ∧ Fr n0 L ∧ n0 ≤ h'.size) hM hZ wc wz hf hl) (g := mkF m pc L (argsL.reverse ++ .ref a :: st)) rfl (by rw [hml]; exact hsize) (argsL := argsL) (rest := st) (lenOf pd hln) rfl (by show 2 * 0 + _ ≤ _; omega) (hb hby hd) (fun _ _ => ⟨rfl, e0, hc, hs⟩)
  dsimp only [Pt.U, Pt.locs, Pt.cells, Pt.slots] at X' l' y' z' stp hQ'
  subst l' y' z'
  obtain ⟨hQ1, N1, hs1⟩ := hQ'
  exact Run.of (fun t k => stp.trans k) (r T' _ v hQ1 ⟨⟨_, X', Fr.app N N1⟩, rfl, hx, hby, hml, hZ, hown, hret, hnm, hlk, hs1⟩)
theorem r_interface (pc' : Nat) (X : Cx p l e R s m args below meth c Z bytes ml own ret mname n0 T h cells slots) {a0 : Array Value} {y : MethodName} {by' : ByteArray} {ml' : Nat} {ret' : Option FieldType} {rm : Room} {as : Array Value} {Q : Option Value → Heap → Prop} {index : Nat} {xi : MethodName} {cnt : Nat} {a : Addr} {C : String} (hM : Met1 l Z n0 [] y by' ml' ret' rm as h Q) (E : Exa Z h a C) (w1 : (Jvm.Cond.methodLink own index xi).before a0 Z = true) (w3 : (Jvm.Cond.declares xi).before a0 Z = true) (w5 : (Jvm.Cond.interfaceMethod xi.cls xi.cls xi.name xi.desc).before a0 Z = true) (w4 : (Jvm.Cond.selects C xi y).before a0 Z = true) (w2 : (Jvm.Cond.instanceMethod y).before a0 Z = true) (w6 : (Jvm.Cond.publicMethod y).before a0 Z = true) (w7 : (Jvm.Cond.unhidden C xi.name xi.desc).before a0 Z = true) (w8 : (Jvm.Cond.castable C xi.cls).before a0 Z = true) (hxi : xi.cls ≠ "java/lang/invoke/MethodHandle" ∧ xi.cls ≠ "java/lang/invoke/VarHandle") (hfa : ((Jvm.Cond.interfaceMethod xi.cls xi.cls xi.name xi.desc).onTables && (Jvm.Cond.interfaceMethod xi.cls xi.cls xi.name xi.desc).keepsFace) = true) (wc : (Jvm.Cond.code y by' ml' ret').before a0 Z = true) (wz : (Jvm.Cond.initialized y.cls).before a0 Z = true) {ps : List FieldType} {rt : Option FieldType} (pd : parseMethodDescriptor xi.desc = some ⟨ps, rt⟩) (argsL : List Value) (has : (Value.ref a :: argsL).toArray = as) (hln : argsL.length = ps.length) (W : Nat) (hW : (st.map fun v => v.category).sum ≤ W) (hsize : L.size = ml) (hf : rm.frames + 1 ≤ R.frames) (hl : W + (ml' + 11) + rm.locals ≤ R.locals) (hc : cells + rm.cells ≤ R.cells) (hs : slots + rm.slots ≤ R.slots) (hd : decode bytes pc = .ok (.invokeinterface index cnt, 5)) (r : ∀ T' h' v, Q v h' → Cx p l e R s m args below meth c Z bytes ml own ret mname n0 T' h' (cells + rm.cells) (slots + rm.slots) → Run p e below m K T' pc' L (v.toList ++ st)) (q : pc + 5 = pc' := by rfl) {S : List Value} (hS : S = argsL.reverse ++ Value.ref a :: st := by rfl) : Run p e below m K T pc L S := by
  obtain ⟨⟨locs, X, N⟩, e0, hx, hby, hml, hZ, hown, hret, hnm, hlk, hsz⟩ := X
  subst q has hS
  obtain ⟨cq, kq, qa, qb, qc⟩ := isOf hZ e0 E
  obtain ⟨v, _, ⟨T', L', k', n'⟩, -, X', ⟨Lc, hQ', l', y', z'⟩, stp⟩ := X.interfaceBack hx (C := C) (xi := xi) (y := y) hown (mvT hZ w1) (mvT hZ w3) (mvT hZ w5 hfa) (mvT hZ w4) (mvT hZ w2) (mvT hZ w6) (mvT hZ w7) (mvT hZ w8) hxi (backOf (W := W) (Q := fun v h' L => Q v h' ∧ Fr n0 L ∧ n0 ≤ h'.size) hM hZ wc wz hf hl) qa qb qc (g := mkF m pc L (argsL.reverse ++ .ref a :: st)) rfl (by rw [hml]; exact hsize) (Steps.refl _) (argsL := argsL) (rest := st) (lenOf pd hln) rfl (by show 2 * 0 + _ ≤ _; omega) (hb hby hd) (fun _ _ => ⟨rfl, e0, hc, hs⟩)
  dsimp only [Pt.U, Pt.locs, Pt.cells, Pt.slots] at X' l' y' z' stp hQ'
  subst l' y' z'
  obtain ⟨hQ1, N1, hs1⟩ := hQ'
  exact Run.of (fun t k => stp.trans k) (r T' _ v hQ1 ⟨⟨_, X', Fr.app N N1⟩, rfl, hx, hby, hml, hZ, hown, hret, hnm, hlk, hs1⟩)
def OVo (Z : State) (ad C : String) : Prop := ∃ cA, Z.vm.findClass ad = some cA ∧ Ovr Z cA C
theorem r_anewarrayO (pc' : Nat) (X : Cx p l e R s m args below meth c Z bytes ml own ret mname n0 T h cells slots) {a0 : Array Value} {z : Int32} (n cap : Nat) (C ad : String) {index : Nat} (had : "[" ++ (FieldType.object C).toString = ad) (w1 : (Jvm.Cond.classLink own index C).before a0 Z = true) (w2 : (Jvm.Cond.arrayOver (.object C)).before a0 Z = true) (hd : decode bytes pc = .ok (.anewarray index, 3)) (hz : z.toInt = (n : Int)) (hcap : n ≤ cap) (hb8 : cap * 8 ≤ 536870912) (hc : cells + 1 ≤ R.cells) (hl : slots + cap ≤ R.slots) (r : ∀ T' h' b, b = h.size → n0 ≤ b → Ext h h' → Exa Z h' b ad → OVo Z ad C → AF Z h' b (.object C) n (fun _ => .null) → Cx p l e R s m args below meth c Z bytes ml own ret mname n0 T' h' (cells + 1) (slots + cap) → Run p e below m K T' pc' L (.ref b :: st)) (q : pc + 3 = pc' := by rfl) : Run p e below m K T pc L (.int z :: st) := by
  obtain ⟨⟨locs, X, N⟩, e0, hx, hby, hml, hZ, hown, hret, hnm, hlk, hsz⟩ := X
  subst q
  have hz0 : ¬ z < 0 := by rw [Int32.lt_iff_toInt_lt]; have : (0 : Int32).toInt = 0 := rfl; omega
  have hzn : z.toNatClampNeg = n := by show z.toInt.toNat = n; omega
  have hzl := z.toInt_lt
  obtain ⟨T', h', cA, X', e', E', A', Ex', O', stp⟩ := newRE X hx hZ hown w1 w2 e0 (g := mkF m pc L (.int z :: st)) rfl (hb hby hd) rfl hz0 (cap := cap) (by rw [hzn]; exact hcap) hb8 hc hl had
  refine Run.of stp (r T' h' h.size rfl hsz E' Ex' ⟨cA, ?_, O'⟩ ⟨_, A', by rw [sz_new, hzn], by omega, fun j hj => ?_⟩ ⟨⟨_, X', N⟩, e', hx, hby, hml, hZ, hown, hret, hnm, hlk, Nat.le_trans hsz E'.1⟩)
  · obtain ⟨cell, k, q1, q2, -⟩ := Ex'
    have q3 := A'.1
    rw [q3] at q1
    cases q1
    exact q2
  · simp [newA, hzn, hj, defaultValue]
theorem r_aastoreO (pc' : Nat) (X : Cx p l e R s m args below meth c Z bytes ml own ret mname n0 T h cells slots) {a0 : Array Value} {a y : Addr} {C ad C2 : String} {n : Nat} {f : Nat → Value} (A : AF Z h a (.object C) n f) (E : Exa Z h a ad) (O : OVo Z ad C) (Ey : Exa Z h y C2) (wc : (Jvm.Cond.castable C2 C).before a0 Z = true) {j : Int32} {i : Nat} (hj : j.toInt = (i : Int)) (hi : i < n) (ga : n0 ≤ a) (hd : decode bytes pc = .ok (.aastore, 1)) (r : ∀ T' h', Wr h h' a i (.ref y) → Cx p l e R s m args below meth c Z bytes ml own ret mname n0 T' h' cells slots → Run p e below m K T' pc' L st) (q : pc + 1 = pc' := by rfl) : Run p e below m K T pc L (.ref y :: .int j :: .ref a :: st) := by
  obtain ⟨⟨locs, X, N⟩, e0, hx, hby, hml, hZ, hown, hret, hnm, hlk, hsz⟩ := X
  subst q
  obtain ⟨cl, A, S, -, H⟩ := A
  obtain ⟨h1, h2⟩ := idx_of hj (S ▸ hi)
  obtain ⟨cA, o1, O⟩ := O
  have ec : cl.cls = cA := by
    obtain ⟨cell, k, q1, q2, -⟩ := E
    rw [A.1] at q1
    cases q1
    rw [o1] at q2
    cases q2
    rfl
  obtain ⟨T', h', X', e', W', stp⟩ := stR X hx hZ e0 A (j := j) h1 rfl (Sto.ofV A ec O (Ins.of_exa Ey wc)) (g := mkF m pc L (.ref y :: .int j :: .ref a :: st)) rfl rfl (hb hby hd)
  exact Run.of stp (r T' h' (h2 ▸ W') ⟨⟨_, X', Fr.snoc X' N ga⟩, e', hx, hby, hml, hZ, hown, hret, hnm, hlk, by rw [W'.size]; exact hsz⟩)
theorem own_stakL {h' : Heap} {C n d : String} {v : Value} {ws : List Addr} (F : Sta Z h C n d v) (K : Keep h h' ws) (E : ∀ b ∈ ws, ∃ C2, Exa Z h b C2) : Sta Z h' C n d v := by
  obtain ⟨cf, i, k, f, st, cell, h1, h2, h3, h4, h5, h6, h7⟩ := F
  refine ⟨cf, i, k, f, st, cell, h1, h2, h3, h4, K.2.1 _ _ h5 (fun q => ?_), h6, h7⟩
  obtain ⟨C2, c2, k2, e1, e2, e3, e4, -⟩ := E _ q
  rw [h5] at e1
  cases e1
  rw [h6] at e4
  cases e4
theorem sta0 : ∀ b ∈ ([] : List Addr), ∃ C2, Exa Z h b C2 := fun _ q => nomatch q
theorem staS {b : Addr} {C2 : String} {ws : List Addr} (E : Exa Z h b C2) (r : ∀ b ∈ ws, ∃ C2, Exa Z h b C2) : ∀ x ∈ b :: ws, ∃ C2, Exa Z h x C2 := fun x q => by
  rcases List.mem_cons.mp q with rfl | q
  · exact ⟨_, E⟩
  · exact r x q
theorem Met1.mono {ws : List Jvm.Cond} {y : MethodName} {rm : Room} {as : Array Value} {Q Q' : Option Value → Heap → Prop} (M : Met1 l Z n0 ws y bytes ml ret rm as h Q) (q : ∀ v h', Q v h' → Q' v h') : Met1 l Z n0 ws y bytes ml ret rm as h Q' := by
  intro p e ha hc hk s m args below hf h1 h2 h3
  obtain ⟨n, o, k1, k2, k3, v, L, r1, r2, r3⟩ := M p e ha hc hk s m args below hf h1 h2 h3
  exact ⟨n, o, k1, k2, k3, v, L, r1, ⟨q _ _ r2.1, r2.2⟩, r3⟩
end Own2
theorem own_shr (x : Int32) (s : Int32) (k : Nat) (hk : s.toBitVec.toNat % 32 = k) (h0 : 0 < k) (h : 0 ≤ x.toInt) : ∃ y : Int32, (x.toUInt32 >>> (s &&& 31).toUInt32).toInt32 = y ∧ y.toInt = x.toInt / (2 ^ k : Nat) := by
  refine ⟨_, rfl, ?_⟩
  rw [c_iushr x s k hk h0]
  have := rng32 x
  rw [Int.emod_eq_of_lt h (by omega)]
/-- the unsigned number in w bits: none of its bits, or its highest bit is at e -/
def Nlz (w N R : Nat) : Prop := (N = 0 ∧ R = w) ∨ ∃ e, R + e + 1 = w ∧ 2 ^ e ≤ N ∧ N < 2 ^ (e + 1)
theorem own_u32 (x : Int32) : (0 ≤ x.toInt → (x.toBitVec.toNat : Int) = x.toInt) ∧ (x.toInt < 0 → (x.toBitVec.toNat : Int) = x.toInt + 4294967296) ∧ x.toBitVec.toNat < 4294967296 := by
  have h : x.toInt = if 2 * x.toBitVec.toNat < 2 ^ 32 then (x.toBitVec.toNat : Int) else (x.toBitVec.toNat : Int) - (2 ^ 32 : Nat) := BitVec.toInt_eq_toNat_cond x.toBitVec
  have h2 := x.toBitVec.isLt
  split at h <;> refine ⟨fun q => ?_, fun q => ?_, ?_⟩ <;> omega
theorem own_u64 (x : Int64) : (0 ≤ x.toInt → (x.toBitVec.toNat : Int) = x.toInt) ∧ (x.toInt < 0 → (x.toBitVec.toNat : Int) = x.toInt + 18446744073709551616) ∧ x.toBitVec.toNat < 18446744073709551616 := by
  have h : x.toInt = if 2 * x.toBitVec.toNat < 2 ^ 64 then (x.toBitVec.toNat : Int) else (x.toBitVec.toNat : Int) - (2 ^ 64 : Nat) := BitVec.toInt_eq_toNat_cond x.toBitVec
  have h2 := x.toBitVec.isLt
  split at h <;> refine ⟨fun q => ?_, fun q => ?_, ?_⟩ <;> omega
theorem own_l2i (x : Int64) : x.toInt32.toBitVec.toNat = x.toBitVec.toNat % 4294967296 := by
  show (x.toBitVec.signExtend 32).toNat = _
  rw [BitVec.signExtend_eq_setWidth_of_le _ (by decide), BitVec.toNat_setWidth]
theorem own_ushr (x : Int64) (s : Int32) (k : Nat) (hk : (s &&& 0x3f).toInt64.toBitVec.toNat % 64 = k) : ((x.toUInt64 >>> (s &&& 0x3f).toInt64.toUInt64).toInt64).toBitVec = x.toBitVec >>> k := by
  subst hk
  rfl
theorem own_hi (x : Int64) : (((x.toUInt64 >>> ((32 : Int32) &&& 0x3f).toInt64.toUInt64).toInt64).toInt32).toBitVec.toNat = x.toBitVec.toNat / 4294967296 := by
  rw [own_l2i, own_ushr x 32 32 (by decide), BitVec.toNat_ushiftRight, Nat.shiftRight_eq_div_pow]
  have := x.toBitVec.isLt
  omega
theorem nlz_hi {x : Int64} {R : Nat} (h : Nlz 32 (x.toBitVec.toNat / 4294967296) R) (h0 : ¬ x.toBitVec.toNat / 4294967296 = 0) : Nlz 64 x.toBitVec.toNat R := by
  rcases h with ⟨q, -⟩ | ⟨e, h1, h2, h3⟩
  · exact absurd q h0
  · refine Or.inr ⟨e + 32, by omega, ?_, ?_⟩
    · rw [Nat.pow_add]; simp only [Nat.reducePow]; omega
    · rw [show e + 32 + 1 = (e + 1) + 32 by omega, Nat.pow_add]; simp only [Nat.reducePow]; omega
theorem nlz_lo {x : Int64} {R : Nat} (h : Nlz 32 (x.toBitVec.toNat % 4294967296) R) (h0 : x.toBitVec.toNat / 4294967296 = 0) : Nlz 64 x.toBitVec.toNat (32 + R) := by
  have e : x.toBitVec.toNat % 4294967296 = x.toBitVec.toNat := by omega
  rw [e] at h
  rcases h with ⟨q, q2⟩ | ⟨e, h1, h2, h3⟩
  · exact Or.inl ⟨q, by omega⟩
  · exact Or.inr ⟨e, by omega, h2, h3⟩
theorem own_zero32 (x : Int32) : x = 0 ↔ x.toBitVec.toNat = 0 := by
  rw [← Int32.toBitVec_inj, ← BitVec.toNat_inj]; rfl
theorem nlz_le {w N R : Nat} (h : Nlz w N R) : R ≤ w := by
  rcases h with ⟨-, q⟩ | ⟨e, h1, -⟩ <;> omega
def b8 (c : Int32) : Int32 := nar .byte (c.toInt8.toInt32)
def i2cO (x : Int32) : Int32 := x.toUInt32.toUInt16.toUInt32.toInt32
theorem own_i2c_bv (x : Int32) : (x.toUInt32.toUInt16.toUInt32.toInt32).toBitVec = (x.toBitVec.setWidth 16).setWidth 32 := rfl
theorem own_b8_bv (x : Int32) : (b8 x).toBitVec = (((x.toBitVec.signExtend 8).signExtend 32).signExtend 8).signExtend 32 := rfl
theorem own_b8_bit (x : Int32) (i : Nat) (hi : i < 8) : (b8 x).toBitVec.getLsbD i = x.toBitVec.getLsbD i := by
  rw [own_b8_bv]
  have h32 : i < 32 := by omega
  rw [BitVec.getLsbD_signExtend, BitVec.getLsbD_signExtend, BitVec.getLsbD_signExtend, BitVec.getLsbD_signExtend]
  simp only [hi, h32, if_true, decide_true, Bool.true_and]
theorem own_255 : (255 : Int32).toBitVec = (BitVec.allOnes 8).setWidth 32 := by decide
theorem own_lowbits {c : Int32} {k : Nat} (h0 : 0 ≤ c.toInt) (h1 : c.toInt < 2 ^ k) (i : Nat) (hi : k ≤ i) : c.toBitVec.getLsbD i = false := by
  have h2 : (c.toBitVec.toNat : Int) = c.toInt := by
    have q : c.toInt = c.toBitVec.toInt := rfl
    rw [q] at h0 ⊢
    rw [BitVec.toInt_eq_toNat_cond] at h0 ⊢
    have := c.toBitVec.isLt
    split at h0 <;> split <;> omega
  have h3 : (2 : Int) ^ k = ((2 ^ k : Nat) : Int) := by simp
  have h4 : c.toBitVec.toNat < 2 ^ k := by omega
  rw [← BitVec.testBit_toNat]
  exact Nat.testBit_lt_two_pow (Nat.lt_of_lt_of_le h4 (Nat.pow_le_pow_right (by decide) hi))
theorem own_lat {c : Int32} (h0 : 0 ≤ c.toInt) (h1 : ¬ (255 : Int32) < c) : ((b8 c) &&& (255 : Int32)).toUInt32.toUInt16.toUInt32.toInt32 = c := by
  have h1 : c.toInt < 2 ^ 8 := by
    rw [Int32.lt_iff_toInt_lt] at h1; have : (255 : Int32).toInt = 255 := rfl; omega
  apply Int32.toBitVec_inj.mp
  apply BitVec.eq_of_getLsbD_eq
  intro i hi
  rw [own_i2c_bv, BitVec.getLsbD_setWidth, BitVec.getLsbD_setWidth, Int32.toBitVec_and, BitVec.getLsbD_and, own_255, BitVec.getLsbD_setWidth, BitVec.getLsbD_allOnes]
  by_cases q : i < 8
  · rw [own_b8_bit c i q]; simp [hi, q, show i < 16 by omega]
  · rw [own_lowbits h0 h1 i (by omega)]; simp [q]
theorem own_utf {c : Int32} (h0 : 0 ≤ c.toInt) (h1 : c.toInt < 65536) : ((((b8 (c >>> ((0 : Int32) &&& 31))) &&& (255 : Int32)) <<< ((0 : Int32) &&& 31)) ||| (((b8 (c >>> ((8 : Int32) &&& 31))) &&& (255 : Int32)) <<< ((8 : Int32) &&& 31))).toUInt32.toUInt16.toUInt32.toInt32 = c := by
  have h1 : c.toInt < 2 ^ 16 := h1
  apply Int32.toBitVec_inj.mp
  apply BitVec.eq_of_getLsbD_eq
  intro i hi
  have e1 : (c >>> ((0 : Int32) &&& 31)).toBitVec = c.toBitVec.sshiftRight 0 := rfl
  have e2 : (c >>> ((8 : Int32) &&& 31)).toBitVec = c.toBitVec.sshiftRight 8 := rfl
  have e3 : ∀ x : Int32, (x <<< ((0 : Int32) &&& 31)).toBitVec = x.toBitVec <<< 0 := fun _ => rfl
  have e4 : ∀ x : Int32, (x <<< ((8 : Int32) &&& 31)).toBitVec = x.toBitVec <<< 8 := fun _ => rfl
  rw [own_i2c_bv, BitVec.getLsbD_setWidth, BitVec.getLsbD_setWidth, Int32.toBitVec_or, BitVec.getLsbD_or, e3, e4, BitVec.getLsbD_shiftLeft, BitVec.getLsbD_shiftLeft, Int32.toBitVec_and, Int32.toBitVec_and, BitVec.getLsbD_and, BitVec.getLsbD_and, own_255, BitVec.getLsbD_setWidth, BitVec.getLsbD_allOnes, BitVec.getLsbD_setWidth, BitVec.getLsbD_allOnes]
  by_cases q : i < 8
  · rw [show i - 0 = i from rfl, own_b8_bit _ i q, e1]; simp [hi, q, show i < 16 by omega]
  · by_cases q2 : i < 16
    · rw [own_b8_bit _ (i - 8) (by omega), e2, BitVec.getLsbD_sshiftRight]
      simp [hi, q, q2, show i - 8 < 8 by omega, show 8 + (i - 8) = i by omega, show i - 8 < 32 by omega, show ¬ 32 ≤ i - 8 by omega]
    · rw [own_lowbits h0 h1 i (by omega)]; simp [q, q2]
theorem own_narC {c : Int32} (h0 : 0 ≤ c.toInt) (h1 : c.toInt < 65536) : nar .char c = c := by
  show c.toUInt32.toUInt16.toUInt32.toInt32 = c
  apply Int32.toBitVec_inj.mp
  apply BitVec.eq_of_getLsbD_eq
  intro i hi
  rw [own_i2c_bv, BitVec.getLsbD_setWidth, BitVec.getLsbD_setWidth]
  by_cases q : i < 16
  · simp [hi, q]
  · rw [own_lowbits h0 (show c.toInt < 2 ^ 16 from h1) i (by omega)]; simp [q]
theorem own_crange (x : Int32) : 0 ≤ (x.toUInt32.toUInt16.toUInt32.toInt32).toInt ∧ (x.toUInt32.toUInt16.toUInt32.toInt32).toInt < 65536 := by
  have q : (x.toUInt32.toUInt16.toUInt32.toInt32).toInt = ((x.toBitVec.setWidth 16).setWidth 32).toInt := rfl
  have h := (x.toBitVec.setWidth 16).isLt
  have e : ((x.toBitVec.setWidth 16).setWidth 32).toNat = (x.toBitVec.setWidth 16).toNat := by rw [BitVec.toNat_setWidth]; omega
  rw [q, BitVec.toInt_eq_toNat_cond, e]
  split <;> omega

/-! seven bits to a byte (ReachedStates.write) -/
def s7 (r : Int32) : Int32 := (r.toUInt32 >>> ((7 : Int32) &&& 31).toUInt32).toInt32
def sk (x : Int32) : Nat → Int32
  | 0 => x
  | k + 1 => s7 (sk x k)
def nx (x : Int32) : Nat := x.toBitVec.toNat
theorem nx_lt (x : Int32) : nx x < 4294967296 := x.toBitVec.isLt
theorem nx_inj {x y : Int32} (h : nx x = nx y) : x = y := Int32.toBitVec_inj.mp (BitVec.toNat_inj.mp h)
theorem s7_nat (r : Int32) : nx (s7 r) = nx r / 128 := by
  have e : (s7 r).toBitVec = r.toBitVec >>> 7 := rfl
  unfold nx
  rw [e, BitVec.toNat_ushiftRight, Nat.shiftRight_eq_div_pow]
theorem sk_nat (x : Int32) (k : Nat) : nx (sk x k) = nx x / 128 ^ k := by
  induction k with
  | zero => simp [sk]
  | succ k ih => rw [sk, s7_nat, ih, Nat.div_div_eq_div_mul, Nat.pow_succ]
theorem lowc (r : Int32) : (r &&& (-128 : Int32)) = 0 ↔ nx r < 128 := by
  have e : (r &&& (-128 : Int32)) = 0 ↔ r.toBitVec >>> 7 = 0#32 := by
    constructor
    · intro h
      have h := congrArg Int32.toBitVec h
      apply BitVec.eq_of_getLsbD_eq
      intro i hi
      rw [BitVec.getLsbD_ushiftRight]
      by_cases q : 7 + i < 32
      · have h2 := congrArg (fun z => BitVec.getLsbD z (7 + i)) h
        simp only [Int32.toBitVec_and, BitVec.getLsbD_and] at h2
        have e1 : (-128 : Int32).toBitVec = ~~~(127#32) := by decide
        have e2 : (127#32 : BitVec 32) = (BitVec.allOnes 7).setWidth 32 := by decide
        rw [e1, BitVec.getLsbD_not, e2, BitVec.getLsbD_setWidth, BitVec.getLsbD_allOnes] at h2
        simp only [q, decide_true, Bool.true_and, show ¬ (7 + i < 7) by omega, decide_false, Bool.not_false, Bool.and_true] at h2
        rw [h2]
        have e3 : (0 : Int32).toBitVec = 0#32 := rfl
        rw [e3]; simp
      · rw [BitVec.getLsbD_of_ge _ _ (by omega)]; simp
    · intro h
      apply Int32.toBitVec_inj.mp
      apply BitVec.eq_of_getLsbD_eq
      intro i hi
      rw [Int32.toBitVec_and, BitVec.getLsbD_and]
      have e1 : (-128 : Int32).toBitVec = ~~~(127#32) := by decide
      have e2 : (127#32 : BitVec 32) = (BitVec.allOnes 7).setWidth 32 := by decide
      have e3 : (0 : Int32).toBitVec = 0#32 := rfl
      rw [e1, BitVec.getLsbD_not, e2, BitVec.getLsbD_setWidth, BitVec.getLsbD_allOnes, e3]
      by_cases q : i < 7
      · simp [q, hi]
      · have h2 := congrArg (fun z => BitVec.getLsbD z (i - 7)) h
        simp only [BitVec.getLsbD_ushiftRight, show 7 + (i - 7) = i by omega] at h2
        rw [h2]; simp
  rw [e, ← BitVec.toNat_inj, BitVec.toNat_ushiftRight, Nat.shiftRight_eq_div_pow]
  unfold nx
  simp only [BitVec.toNat_ofNat]
  omega
theorem b8_int (r : Int32) : (b8 r).toInt = if nx r % 256 < 128 then ((nx r % 256 : Nat) : Int) else ((nx r % 256 : Nat) : Int) - 256 := by
  have e : (b8 r).toInt = ((((r.toBitVec.signExtend 8).signExtend 32).signExtend 8).signExtend 32).toInt := rfl
  rw [e, BitVec.toInt_signExtend_of_le (by decide), BitVec.signExtend_eq_setWidth_of_le (w := 32) _ (by decide)]
  have e2 : ((r.toBitVec.signExtend 8).signExtend 32).setWidth 8 = r.toBitVec.setWidth 8 := by
    apply BitVec.eq_of_getLsbD_eq
    intro i hi
    rw [BitVec.getLsbD_setWidth, BitVec.getLsbD_setWidth, BitVec.getLsbD_signExtend, BitVec.getLsbD_signExtend]
    simp [hi, show i < 32 by omega]
  rw [e2, BitVec.toInt_eq_toNat_cond, BitVec.toNat_setWidth]
  show (if 2 * (nx r % 256) < 256 then ((nx r % 256 : Nat) : Int) else ((nx r % 256 : Nat) : Int) - 256) = _
  have := Nat.mod_lt (nx r) (show 0 < 256 by decide)
  split <;> split <;> omega
theorem or128 (r : Int32) : nx (r ||| (128 : Int32)) % 256 = nx r % 128 + 128 := by
  have h : ∀ v : BitVec 8, (v ||| 128#8).toNat = v.toNat % 128 + 128 := by decide +kernel
  have e : nx (r ||| (128 : Int32)) % 256 = ((r.toBitVec ||| 128#32).setWidth 8).toNat := by rw [BitVec.toNat_setWidth]; rfl
  rw [e, BitVec.setWidth_or]
  have e2 : (128#32 : BitVec 32).setWidth 8 = 128#8 := by decide
  rw [e2, h, BitVec.toNat_setWidth]
  show nx r % 256 % 128 + 128 = _
  omega
def encB (x : Int32) (k : Nat) : Int32 := if nx x / 128 ^ k < 128 then b8 (sk x k) else b8 (sk x k ||| (128 : Int32))
def encL (x : Int32) : Nat := if nx x < 128 then 1 else if nx x < 16384 then 2 else if nx x < 2097152 then 3 else if nx x < 268435456 then 4 else 5
theorem encL_r (x : Int32) : 1 ≤ encL x ∧ encL x ≤ 5 := by unfold encL; (repeat' split) <;> omega
theorem encB_hi {x : Int32} {k : Nat} (h : nx x / 128 ^ k < 128) : (encB x k).toInt = ((nx x / 128 ^ k : Nat) : Int) := by
  rw [encB, if_pos h, b8_int, sk_nat]
  generalize nx x / 128 ^ k = z at h ⊢
  rw [if_pos (by omega)]; omega
theorem encB_lo {x : Int32} {k : Nat} (h : ¬ nx x / 128 ^ k < 128) : (encB x k).toInt = ((nx x / 128 ^ k % 128 : Nat) : Int) - 128 := by
  rw [encB, if_neg h, b8_int, or128, sk_nat]
  generalize nx x / 128 ^ k = z at h ⊢
  rw [if_neg (by omega)]; omega
theorem encL_lo {x : Int32} {k : Nat} (h : k + 1 < encL x) : ¬ nx x / 128 ^ k < 128 := by
  have r := encL_r x
  have : k = 0 ∨ k = 1 ∨ k = 2 ∨ k = 3 := by omega
  unfold encL at h
  rcases this with rfl | rfl | rfl | rfl <;> simp only [Nat.reducePow] <;> (repeat' split at h) <;> omega
theorem encL_hi {x : Int32} {k : Nat} (h : k + 1 = encL x) : nx x / 128 ^ k < 128 := by
  have r := encL_r x
  have l := nx_lt x
  have : k = 0 ∨ k = 1 ∨ k = 2 ∨ k = 3 ∨ k = 4 := by omega
  unfold encL at h
  rcases this with rfl | rfl | rfl | rfl | rfl <;> simp only [Nat.reducePow] <;> (repeat' split at h) <;> omega
theorem encB_neg {x : Int32} {k : Nat} (h : k + 1 < encL x) : encB x k < 0 := by
  rw [Int32.lt_iff_toInt_lt, encB_lo (encL_lo h)]
  have : (0 : Int32).toInt = 0 := rfl
  omega
theorem encB_last {x : Int32} {k : Nat} (h : k + 1 = encL x) : ¬ encB x k < 0 := by
  rw [Int32.lt_iff_toInt_lt, encB_hi (encL_hi h)]
  have : (0 : Int32).toInt = 0 := rfl
  generalize nx x / 128 ^ k = z
  omega
theorem enc_mod {x y : Int32} {k : Nat} (hx : k + 1 < encL x) (hy : k + 1 < encL y) (h : encB x k = encB y k) : nx x / 128 ^ k % 128 = nx y / 128 ^ k % 128 := by
  have h := congrArg Int32.toInt h
  rw [encB_lo (encL_lo hx), encB_lo (encL_lo hy)] at h
  omega
theorem enc_top {x y : Int32} {k : Nat} (hx : k + 1 = encL x) (hy : k + 1 = encL y) (h : encB x k = encB y k) : nx x / 128 ^ k = nx y / 128 ^ k := by
  have h := congrArg Int32.toInt h
  rw [encB_hi (encL_hi hx), encB_hi (encL_hi hy)] at h
  omega
theorem enc_inj {x y : Int32} (hl : encL x = encL y) (h : ∀ k, k < encL x → encB x k = encB y k) : x = y := by
  apply nx_inj
  have r := encL_r x
  have m : ∀ k, k + 1 < encL x → nx x / 128 ^ k % 128 = nx y / 128 ^ k % 128 := fun k hk => enc_mod hk (hl ▸ hk) (h k (by omega))
  have t : ∀ k, k + 1 = encL x → nx x / 128 ^ k = nx y / 128 ^ k := fun k hk => enc_top hk (hl ▸ hk) (h k (by omega))
  generalize nx x = a at m t
  generalize nx y = b at m t
  have q : encL x = 1 ∨ encL x = 2 ∨ encL x = 3 ∨ encL x = 4 ∨ encL x = 5 := by omega
  rcases q with q | q | q | q | q <;> rw [q] at m t
  · have t := t 0 rfl; simpa using t
  · have t := t 1 rfl; have m0 := m 0 (by omega); simp only [Nat.reducePow] at t m0; omega
  · have t := t 2 rfl; have m0 := m 0 (by omega); have m1 := m 1 (by omega); simp only [Nat.reducePow] at t m0 m1; omega
  · have t := t 3 rfl; have m0 := m 0 (by omega); have m1 := m 1 (by omega); have m2 := m 2 (by omega); simp only [Nat.reducePow] at t m0 m1 m2; omega
  · have t := t 4 rfl; have m0 := m 0 (by omega); have m1 := m 1 (by omega); have m2 := m 2 (by omega); have m3 := m 3 (by omega); simp only [Nat.reducePow] at t m0 m1 m2 m3; omega
def sameB (F g : Nat → Int32) (p n : Nat) : Bool := (List.range n).all fun k => F (p + k) == g k
abbrev Same (F g : Nat → Int32) (p n : Nat) : Prop := sameB F g p n = true
theorem same_all {F g : Nat → Int32} {p n : Nat} : Same F g p n ↔ ∀ k, k < n → F (p + k) = g k := by
  show (List.range n).all _ = true ↔ _
  rw [List.all_eq_true]
  constructor
  · intro h k hk; exact eq_of_beq (h k (List.mem_range.mpr hk))
  · intro h k hk; exact beq_iff_eq.mpr (h k (List.mem_range.mp hk))
def Enc (F : Nat → Int32) (p : Nat) (x : Int32) : Prop := ∀ k, k < encL x → F (p + k) = encB x k
theorem same_congr {F g g' : Nat → Int32} {p n : Nat} (h : ∀ k, k < n → g k = g' k) : Same F g p n ↔ Same F g' p n := by
  rw [same_all, same_all]
  exact ⟨fun q k hk => (q k hk).trans (h k hk), fun q k hk => (q k hk).trans (h k hk).symm⟩
theorem enc_same {F : Nat → Int32} {p : Nat} {x y : Int32} (h : Enc F p y) : Same F (encB x) p (encL x) ↔ x = y := by
  rw [same_all]
  constructor
  · intro s
    have rx := encL_r x
    have ry := encL_r y
    have hl : encL x = encL y := by
      rcases Nat.lt_trichotomy (encL x) (encL y) with q | q | q
      · have a := encB_last (x := x) (k := encL x - 1) (by omega)
        have b := encB_neg (x := y) (k := encL x - 1) (by omega)
        rw [← s _ (by omega), h _ (by omega)] at a
        exact absurd b a
      · exact q
      · have a := encB_last (x := y) (k := encL y - 1) (by omega)
        have b := encB_neg (x := x) (k := encL y - 1) (by omega)
        rw [← h _ (by omega), s _ (by omega)] at a
        exact absurd b a
    exact enc_inj hl fun k hk => (s k hk).symm.trans (h k (hl ▸ hk))
  · rintro rfl; exact h
/-- the block behind an appended state -/
def apF (F : Nat → Int32) (p : Nat) (x : Int32) : Nat → Int32 := fun j => if p ≤ j ∧ j < p + encL x then encB x (j - p) else F j
theorem enc_ap (F : Nat → Int32) (p : Nat) (x : Int32) : Enc (apF F p x) p x := fun k hk => by
  show apF F p x (p + k) = _
  rw [apF, if_pos (by omega), show p + k - p = k by omega]
theorem enc_keep {F : Nat → Int32} {p q : Nat} {x y : Int32} (h : Enc F q y) (hq : q + encL y ≤ p) : Enc (apF F p x) q y := fun k hk => by
  show apF F p x (q + k) = _
  rw [apF, if_neg (by omega)]; exact h k hk
/-- what 'write' leaves -/
theorem wr_end {x : Int32} {g : Nat → Int32} (k : Nat) (h : k + 1 = encL x) (hg : ∀ j, j < k → g j = b8 (sk x j ||| (128 : Int32))) (hk : g k = b8 (sk x k)) : ∀ j, j < encL x → g j = encB x j := fun j hj => by
  by_cases q : j < k
  · rw [hg j q, encB, if_neg (encL_lo (by omega))]
  · obtain rfl : j = k := by omega
    rw [hk, encB, if_pos (encL_hi h)]
theorem wr_len {x : Int32} : (∀ k, k < 4 → (nx x / 128 ^ k < 128 ∧ (∀ i, i < k → ¬ nx x / 128 ^ i < 128)) → k + 1 = encL x) ∧ ((∀ i, i < 4 → ¬ nx x / 128 ^ i < 128) → 5 = encL x) := by
  constructor
  · rintro k hk ⟨h1, h2⟩
    have : k = 0 ∨ k = 1 ∨ k = 2 ∨ k = 3 := by omega
    unfold encL
    rcases this with rfl | rfl | rfl | rfl
    · simp only [Nat.reducePow] at h1; (repeat' split) <;> omega
    · have a := h2 0 (by omega); simp only [Nat.reducePow] at h1 a; (repeat' split) <;> omega
    · have a := h2 0 (by omega); have b := h2 1 (by omega); simp only [Nat.reducePow] at h1 a b; (repeat' split) <;> omega
    · have a := h2 0 (by omega); have b := h2 1 (by omega); have d := h2 2 (by omega); simp only [Nat.reducePow] at h1 a b d; (repeat' split) <;> omega
  · intro h2
    have a := h2 0 (by omega); have b := h2 1 (by omega); have d := h2 2 (by omega); have f := h2 3 (by omega)
    simp only [Nat.reducePow] at a b d f
    unfold encL
    (repeat' split) <;> omega
theorem sk_c (x : Int32) (k : Nat) : (sk x k &&& (-128 : Int32)) = 0 ↔ nx x / 128 ^ k < 128 := by rw [lowc, sk_nat]
theorem sk_5 (x : Int32) : (sk x 4 &&& (-128 : Int32)) = 0 := (sk_c x 4).mpr (by have := nx_lt x; simp only [Nat.reducePow]; omega)

/-! the table's words (IdTable) -/
theorem own_i40 : (1099511627775 : Int64).toBitVec = (BitVec.allOnes 40).setWidth 64 := by decide
theorem own_n40 : (-1099511627776 : Int64).toBitVec = ~~~((BitVec.allOnes 40).setWidth 64) := by decide
theorem own_ibit (i : Nat) (hi : i < 64) : (1099511627775 : Int64).toBitVec.getLsbD i = decide (i < 40) := by
  rw [own_i40, BitVec.getLsbD_setWidth, BitVec.getLsbD_allOnes]; simp [hi]
theorem own_nbit (i : Nat) (hi : i < 64) : (-1099511627776 : Int64).toBitVec.getLsbD i = !decide (i < 40) := by
  rw [own_n40, BitVec.getLsbD_not, BitVec.getLsbD_setWidth, BitVec.getLsbD_allOnes]; simp [hi]
def hiB (q : Int64) : Int64 := q &&& (-1099511627776 : Int64)
def idW (w : Int64) : Int64 := (w &&& (1099511627775 : Int64)) - (1 : Int64)
def ent (q e : Int64) : Int64 := (q &&& (-1099511627776 : Int64)) ||| (e + (1 : Int64))
theorem own_e1 {e : Int64} {n : Nat} (h : e.toInt = (n : Int)) (hn : n < 1000000) (i : Nat) (hi : 40 ≤ i) : (e + (1 : Int64)).toBitVec.getLsbD i = false := by
  have h1 : (e + (1 : Int64)).toBitVec.toNat = n + 1 := by
    have q : (e.toBitVec.toNat : Int) = n := by
      have q : e.toInt = e.toBitVec.toInt := rfl
      rw [q, BitVec.toInt_eq_toNat_cond] at h
      have := e.toBitVec.isLt
      split at h <;> omega
    have e2 : (e + (1 : Int64)).toBitVec = e.toBitVec + 1#64 := rfl
    rw [e2, BitVec.toNat_add]
    simp only [BitVec.toNat_ofNat]
    omega
  rw [← BitVec.testBit_toNat, h1]
  exact Nat.testBit_lt_two_pow (Nat.lt_of_lt_of_le (show n + 1 < 2 ^ 40 by simp only [Nat.reducePow]; omega) (Nat.pow_le_pow_right (by decide) hi))
theorem ent_id {q e : Int64} {n : Nat} (h : e.toInt = (n : Int)) (hn : n < 1000000) : idW (ent q e) = e := by
  have k : ent q e &&& (1099511627775 : Int64) = e + (1 : Int64) := by
    apply Int64.toBitVec_inj.mp
    apply BitVec.eq_of_getLsbD_eq
    intro i hi
    rw [Int64.toBitVec_and, BitVec.getLsbD_and, own_ibit i hi, ent, Int64.toBitVec_or, BitVec.getLsbD_or, Int64.toBitVec_and, BitVec.getLsbD_and, own_nbit i hi]
    by_cases z : i < 40
    · simp [z]
    · rw [own_e1 h hn i (by omega)]; simp [z]
  rw [idW, k]
  apply Int64.toBitVec_inj.mp
  show e.toBitVec + 1#64 - 1#64 = e.toBitVec
  rw [BitVec.add_sub_cancel]
theorem ent_hi {q e : Int64} {n : Nat} (h : e.toInt = (n : Int)) (hn : n < 1000000) : hiB (ent q e) = hiB q := by
  apply Int64.toBitVec_inj.mp
  apply BitVec.eq_of_getLsbD_eq
  intro i hi
  rw [hiB, Int64.toBitVec_and, BitVec.getLsbD_and, own_nbit i hi, ent, Int64.toBitVec_or, BitVec.getLsbD_or, Int64.toBitVec_and, BitVec.getLsbD_and, own_nbit i hi, hiB, Int64.toBitVec_and, BitVec.getLsbD_and, own_nbit i hi]
  by_cases z : i < 40
  · simp [z]
  · rw [own_e1 h hn i (by omega)]; simp [z]
theorem ent_ne {q e : Int64} {n : Nat} (h : e.toInt = (n : Int)) (hn : n < 1000000) : ent q e ≠ 0 := fun z => by
  have k := ent_id (q := q) h hn
  rw [z] at k
  have k2 : idW 0 = -1 := by decide
  rw [k2] at k
  have k3 := congrArg Int64.toInt k
  rw [h] at k3
  have : (-1 : Int64).toInt = -1 := rfl
  omega
def Pass (P : Nat → Int64) (F : Nat → Int32) (x : Int32) (s j : Nat) : Prop := ∀ i, i < j → ¬ P ((s + i) % 16) = 0 ∧ ∃ k : Nat, k < 60000 ∧ (idW (P ((s + i) % 16))).toInt = (k : Int) ∧ ¬ Same F (encB x) k (encL x)
def Hit (P : Nat → Int64) (F : Nat → Int32) (q : Int64) (x : Int32) (s j : Nat) (f : Int64) (n : Nat) : Prop :=
  Pass P F x s j ∧ ¬ P ((s + j) % 16) = 0 ∧ hiB (P ((s + j) % 16)) = hiB q ∧ idW (P ((s + j) % 16)) = f ∧ f.toInt = (n : Int) ∧ n < 60000 ∧ Same F (encB x) n (encL x)
def P1 (s0 : Nat) (qa : Int64) : Nat → Int64 := updJ (fun _ => (0 : Int64)) s0 (ent qa (0 : Int64))
theorem P1_hit (s0 : Nat) (qa : Int64) : P1 s0 qa s0 = ent qa 0 := if_pos rfl
theorem P1_miss {s0 : Nat} (qa : Int64) {t : Nat} (h : t ≠ s0) : P1 s0 qa t = 0 := if_neg h
theorem z64 : (0 : Int64).toInt = ((0 : Nat) : Int) := rfl
theorem t1_free {s0 sb : Nat} {qa : Int64} {a b : Int32} {F : Nat → Int32} (h0 : s0 < 16) (hb : sb < 16) (hE : Enc F 0 a) (hab : ¬ b = a) : ∃ j, j ≤ 1 ∧ Pass (P1 s0 qa) F b sb j ∧ P1 s0 qa ((sb + j) % 16) = 0 ∧ (j = 1 → sb = s0) := by
  by_cases q : sb = s0
  · refine ⟨1, Nat.le_refl _, fun i hi => ?_, P1_miss _ (by omega), fun _ => q⟩
    obtain rfl : i = 0 := by omega
    have e : (sb + 0) % 16 = s0 := by omega
    rw [e, P1_hit]
    exact ⟨ent_ne z64 (by decide), 0, by decide, by rw [ent_id z64 (by decide)]; rfl, fun z => hab ((enc_same hE).mp z)⟩
  · exact ⟨0, by decide, fun i hi => absurd hi (Nat.not_lt_zero _), P1_miss _ (by omega), fun z => absurd z (by decide)⟩
theorem t1_hit {s0 : Nat} {qa : Int64} {a : Int32} {F : Nat → Int32} (h0 : s0 < 16) (hE : Enc F 0 a) : Hit (P1 s0 qa) F qa a s0 0 0 0 := by
  have e : (s0 + 0) % 16 = s0 := by omega
  refine ⟨fun i hi => absurd hi (Nat.not_lt_zero _), ?_, ?_, ?_, rfl, by decide, (enc_same hE).mpr rfl⟩ <;> rw [e, P1_hit]
  · exact ent_ne z64 (by decide)
  · exact ent_hi z64 (by decide)
  · exact ent_id z64 (by decide)
def P2 (s0 s1 : Nat) (qa qb e1 : Int64) : Nat → Int64 := updJ (P1 s0 qa) s1 (ent qb e1)
theorem P2_hit (s0 s1 : Nat) (qa qb e1 : Int64) : P2 s0 s1 qa qb e1 s1 = ent qb e1 := if_pos rfl
theorem P2_a {s0 s1 : Nat} (qa qb e1 : Int64) (h : s0 ≠ s1) : P2 s0 s1 qa qb e1 s0 = ent qa 0 := (if_neg h).trans (P1_hit s0 qa)
theorem P2_miss {s0 s1 t : Nat} (qa qb e1 : Int64) (h0 : t ≠ s0) (h1 : t ≠ s1) : P2 s0 s1 qa qb e1 t = 0 := (if_neg h1).trans (P1_miss qa h0)
theorem own_s01 {s0 s1 : Nat} {qa : Int64} (h : P1 s0 qa s1 = 0) : s0 ≠ s1 := fun z => by
  subst z
  rw [P1_hit] at h
  exact ent_ne z64 (by decide) h
theorem t2_hitA {s0 s1 : Nat} {qa qb e1 : Int64} {a : Int32} {F : Nat → Int32} (h0 : s0 < 16) (hn : s0 ≠ s1) (hE : Enc F 0 a) : Hit (P2 s0 s1 qa qb e1) F qa a s0 0 0 0 := by
  have e : (s0 + 0) % 16 = s0 := by omega
  refine ⟨fun i hi => absurd hi (Nat.not_lt_zero _), ?_, ?_, ?_, rfl, by decide, (enc_same hE).mpr rfl⟩ <;> rw [e, P2_a _ _ _ hn]
  · exact ent_ne z64 (by decide)
  · exact ent_hi z64 (by decide)
  · exact ent_id z64 (by decide)
theorem t2_hitB {s0 sb j p1 : Nat} {qa qb e1 : Int64} {a b : Int32} {F : Nat → Int32} (h0 : s0 < 16) (hj : j ≤ 1) (hj1 : j = 1 → sb = s0) (hP : P1 s0 qa ((sb + j) % 16) = 0) (he : e1.toInt = (p1 : Int)) (hp : p1 < 60000) (hA : Enc F 0 a) (hB : Enc F p1 b) (hab : ¬ b = a) : Hit (P2 s0 ((sb + j) % 16) qa qb e1) F qb b sb j e1 p1 := by
  have hn := own_s01 hP
  refine ⟨fun i hi => ?_, ?_, ?_, ?_, he, hp, (enc_same hB).mpr rfl⟩
  · obtain rfl : i = 0 := by omega
    have hs := hj1 (by omega)
    have e : (sb + 0) % 16 = s0 := by omega
    rw [e, P2_a _ _ _ hn]
    exact ⟨ent_ne z64 (by decide), 0, by decide, by rw [ent_id z64 (by decide)]; rfl, fun z => hab ((enc_same hA).mp z)⟩
  · rw [P2_hit]; exact ent_ne he (by omega)
  · rw [P2_hit]; exact ent_hi he (by omega)
  · rw [P2_hit]; exact ent_id he (by omega)
theorem t2_free {s0 s1 sc p1 : Nat} {qa qb e1 : Int64} {a b d : Int32} {F : Nat → Int32} (h0 : s0 < 16) (h1 : s1 < 16) (hn : s0 ≠ s1) (hc : sc < 16) (he : e1.toInt = (p1 : Int)) (hp : p1 < 60000) (hA : Enc F 0 a) (hB : Enc F p1 b) (hca : ¬ d = a) (hcb : ¬ d = b) : ∃ j, j ≤ 2 ∧ Pass (P2 s0 s1 qa qb e1) F d sc j ∧ P2 s0 s1 qa qb e1 ((sc + j) % 16) = 0 := by
  have ok : ∀ t, t = s0 ∨ t = s1 → ¬ P2 s0 s1 qa qb e1 t = 0 ∧ ∃ k : Nat, k < 60000 ∧ (idW (P2 s0 s1 qa qb e1 t)).toInt = (k : Int) ∧ ¬ Same F (encB d) k (encL d) := by
    rintro t (rfl | rfl)
    · rw [P2_a _ _ _ hn]
      exact ⟨ent_ne z64 (by decide), 0, by decide, by rw [ent_id z64 (by decide)]; rfl, fun z => hca ((enc_same hA).mp z)⟩
    · rw [P2_hit]
      exact ⟨ent_ne he (by omega), p1, hp, by rw [ent_id he (by omega)]; exact he, fun z => hcb ((enc_same hB).mp z)⟩
  by_cases q0 : sc = s0 ∨ sc = s1
  · by_cases q1 : (sc + 1) % 16 = s0 ∨ (sc + 1) % 16 = s1
    · refine ⟨2, Nat.le_refl _, fun i hi => ok _ ?_, P2_miss _ _ _ (by omega) (by omega)⟩
      have : i = 0 ∨ i = 1 := by omega
      rcases this with rfl | rfl
      · have e : (sc + 0) % 16 = sc := by omega
        rw [e]; exact q0
      · exact q1
    · refine ⟨1, by decide, fun i hi => ok _ ?_, P2_miss _ _ _ (fun z => q1 (Or.inl z)) (fun z => q1 (Or.inr z))⟩
      obtain rfl : i = 0 := by omega
      have e : (sc + 0) % 16 = sc := by omega
      rw [e]; exact q0
  · refine ⟨0, by decide, fun i hi => absurd hi (Nat.not_lt_zero _), P2_miss _ _ _ ?_ ?_⟩ <;> omega

/-! places of a block, bytes -/
theorem own_of {q : Int64} {n : Nat} (h : q.toInt = (n : Int)) (hn : n < 65536) : q % (65536 : Int64) = q := by
  apply Int64.toInt_inj.mp
  rw [Int64.toInt_mod, h, show (65536 : Int64).toInt = 65536 from rfl, Int.tmod_eq_emod_of_nonneg (by omega)]
  omega
theorem own_off {q : Int64} {n : Nat} (h : q.toInt = (n : Int)) (hn : n < 65536) : q.toInt32.toInt = (n : Int) := by
  rw [Int64.toInt_toInt32, h]
  exact Int.bmod_eq_of_le (by omega) (by omega)
theorem own_bl {q : Int64} {n : Nat} (h : q.toInt = (n : Int)) (hn : n < 65536) : (q / (65536 : Int64)).toInt32 = 0 := by
  have e : q / (65536 : Int64) = 0 := by
    apply Int64.toInt_inj.mp
    rw [Int64.toInt_div, h, show (65536 : Int64).toInt = 65536 from rfl, show (0 : Int64).toInt = 0 from rfl, Int.tdiv_eq_ediv_of_nonneg (by omega)]
    rw [show (n : Int) / 65536 = 0 by omega]
    decide
  rw [e]; rfl
theorem own_sub0 (x : Int32) : x - (0 : Int32) = x := by
  apply Int32.toBitVec_inj.mp
  show x.toBitVec - 0#32 = x.toBitVec
  simp
theorem own_0add (x : Int32) : (0 : Int32) + x = x := by
  apply Int32.toBitVec_inj.mp
  show 0#32 + x.toBitVec = x.toBitVec
  simp
def mnI (x y : Int32) : Int32 := if y < x then y else x
def FB (f : Nat → Int32) : Prop := ∀ j, -128 ≤ (f j).toInt ∧ (f j).toInt ≤ 127
theorem b8_r (x : Int32) : -128 ≤ (b8 x).toInt ∧ (b8 x).toInt ≤ 127 := by
  rw [b8_int]
  have := Nat.mod_lt (nx x) (show 0 < 256 by decide)
  split <;> omega
theorem encB_r (x : Int32) (k : Nat) : -128 ≤ (encB x k).toInt ∧ (encB x k).toInt ≤ 127 := by
  unfold encB; split <;> exact b8_r _
theorem FB_zero : FB (fun _ => (0 : Int32)) := fun _ => (by decide : -128 ≤ (0 : Int32).toInt ∧ (0 : Int32).toInt ≤ 127)
theorem FB_up {f : Nat → Int32} (h : FB f) (i : Nat) (x : Int32) : FB (updI f i (b8 x)) := fun j => by
  unfold updI; split
  · exact b8_r _
  · exact h j
theorem FB_ap {F : Nat → Int32} (h : FB F) (p : Nat) (x : Int32) : FB (apF F p x) := fun j => by
  unfold apF; split
  · exact encB_r _ _
  · exact h j
theorem own_narB {x : Int32} (h : -128 ≤ x.toInt ∧ x.toInt ≤ 127) : x.toInt8.toInt32 = x := by
  apply Int32.toInt_inj.mp
  rw [Int8.toInt_toInt32, Int32.toInt_toInt8]
  exact Int.bmod_eq_of_le (by omega) (by omega)
theorem fits_B {x : Int32} (h : -128 ≤ x.toInt ∧ x.toInt ≤ 127) : fits .byte (.int x) = true := by
  show (decide (-128 ≤ x) && decide (x ≤ 127)) = true
  rw [Bool.and_eq_true, decide_eq_true_eq, decide_eq_true_eq, Int32.le_iff_toInt_le, Int32.le_iff_toInt_le]
  exact h
def hmI (q : Int64) : Int32 := ((q.toUInt64 >>> ((60 : Int32) &&& 0x3f).toInt64.toUInt64).toInt64).toInt32
def hmN (q : Int64) : Nat := (hmI q).toInt.toNat
theorem hm_ok (x : Int64) : (hmI x).toInt = (hmN x : Int) ∧ hmN x < 16 := by
  have h1 := own_l2i ((x.toUInt64 >>> ((60 : Int32) &&& 0x3f).toInt64.toUInt64).toInt64)
  rw [own_ushr x 60 60 (by decide), BitVec.toNat_ushiftRight, Nat.shiftRight_eq_div_pow] at h1
  have h2 := own_u32 (hmI x)
  have h3 := x.toBitVec.isLt
  have h4 : (hmI x).toBitVec.toNat = _ := h1
  simp only [Nat.reducePow] at h4 h3
  have h5 := rng32 (hmI x)
  have h6 : 0 ≤ (hmI x).toInt := by
    by_cases q : 0 ≤ (hmI x).toInt
    · exact q
    · have := h2.2.1 (by omega); omega
  have h7 := h2.1 h6
  unfold hmN
  omega
theorem own_nx16 {s : Int32} {k : Nat} (h : s.toInt = ((k % 16 : Nat) : Int)) : ((s + (1 : Int32)) &&& (15 : Int32)).toInt = (((k + 1) % 16 : Nat) : Int) := by
  have h1 := c_mask (s + 1) 15 4 (by decide) (by decide)
  have h2 := addI h (y := (1 : Int32)) (b := 1) rfl (by omega) (by omega)
  omega
def mx1 (v : Int64) (s : Int32) : Int64 := v ^^^ ((v.toUInt64 >>> (s &&& 0x3f).toInt64.toUInt64).toInt64)
def mixJ (v : Int64) : Int64 := mx1 (mx1 (v * (-7046029254386353131 : Int64)) (29 : Int32) * (-4658895280553007687 : Int64)) (32 : Int32)
def hsh (x : Int32) : Int64 := mixJ (((0 : Int64) + x.toInt64) * (-7046029254386353131 : Int64))
theorem own_cpB {A F : Nat → Int32} {p : Nat} {x : Int32} (h : ∀ j, j < encL x → A j = encB x j) (j : Nat) : cpF (fun j => .int (A j)) (fun j => .int (F j)) 0 p (encL x) j = .int (apF F p x j) := by
  unfold cpF apF
  by_cases q : p ≤ j ∧ j < p + encL x
  · rw [if_pos q, if_pos q]
    show Value.int (A (0 + (j - p))) = Value.int (encB x (j - p))
    rw [Nat.zero_add, h _ (by omega)]
  · rw [if_neg q, if_neg q]

theorem d17_0 : decode prog_19_method_13_code 0 = .ok (.lload_n 0, 1) := by decide +kernel
theorem d17_1 : decode prog_19_method_13_code 1 = .ok (.ldc2_w 118, 3) := by decide +kernel
theorem d17_4 : decode prog_19_method_13_code 4 = .ok (.ldiv, 1) := by decide +kernel
theorem d17_5 : decode prog_19_method_13_code 5 = .ok (.l2i, 1) := by decide +kernel
theorem d17_6 : decode prog_19_method_13_code 6 = .ok (.ireturn, 1) := by decide +kernel
theorem pn_17 : plainName "com/example/statera/statera/engine/ReachedStates" = true := by first | (simp [plainName, overriddenIn]; done) | decide +kernel
theorem ef_17 (m : MethodId) (x0 : Int64) : entryFrame m #[(.long x0)] 2 = mkF m 0 #[.val (.long x0), .second] [] := by first | (simp [entryFrame, mkF, argsToLocals, Value.category]; done) | rfl
set_option maxRecDepth 65536 in
set_option maxHeartbeats 40000000 in
theorem rmBl (l : Launch) (Z : State) (a0 : Array Value) (hw : ∀ d ∈ tables_1, d.before a0 Z = true) (n0 : Nat) (h : Heap) (Z0 : n0 ≤ h.size) (q1 : Int64) (n : Nat) (hq : q1.toInt = (n : Int)) (hn : n < 65536) :
    Met1 l Z n0 [] (⟨"com/example/statera/statera/engine/ReachedStates", "blockOf", "(J)I"⟩ : MethodName) prog_19_method_13_code 2 (some .int) ({ frames := 0, cells := 0, slots := 0, locals := 0 } : Room) #[(.long q1)] h (fun v h' => v = some (.int 0) ∧ h = h') := by
  refine met_of (plainFor_of_name pn_17) Z0 (fun m => ef_17 m q1) ?_
  intro p e s m below meth c T hs0 X
  refine r_lloadN 1 X d17_0 rfl ?_
  refine r_ldc2Long 4 X (hw _ (List.mem_of_getElem? (i := 123) rfl)) d17_1 ?_
  refine r_ldiv 5 X d17_4 (by decide) ?_
  refine r_l2i 6 X d17_5 ?_
  refine r_topI (x' := (0 : Int32)) (own_bl hq hn) ?_
  refine r_retI X d17_6 (by decide) (by decide) ?_
  exact ⟨rfl, rfl⟩
theorem d24_0 : decode prog_19_method_14_code 0 = .ok (.lload_n 0, 1) := by decide +kernel
theorem d24_1 : decode prog_19_method_14_code 1 = .ok (.ldc2_w 118, 3) := by decide +kernel
theorem d24_4 : decode prog_19_method_14_code 4 = .ok (.lrem, 1) := by decide +kernel
theorem d24_5 : decode prog_19_method_14_code 5 = .ok (.l2i, 1) := by decide +kernel
theorem d24_6 : decode prog_19_method_14_code 6 = .ok (.ireturn, 1) := by decide +kernel
theorem pn_24 : plainName "com/example/statera/statera/engine/ReachedStates" = true := by first | (simp [plainName, overriddenIn]; done) | decide +kernel
theorem ef_24 (m : MethodId) (x0 : Int64) : entryFrame m #[(.long x0)] 2 = mkF m 0 #[.val (.long x0), .second] [] := by first | (simp [entryFrame, mkF, argsToLocals, Value.category]; done) | rfl
set_option maxRecDepth 65536 in
set_option maxHeartbeats 40000000 in
theorem rmOf (l : Launch) (Z : State) (a0 : Array Value) (hw : ∀ d ∈ tables_1, d.before a0 Z = true) (n0 : Nat) (h : Heap) (Z0 : n0 ≤ h.size) (q1 : Int64) (n : Nat) (hq : q1.toInt = (n : Int)) (hn : n < 65536) :
    Met1 l Z n0 [] (⟨"com/example/statera/statera/engine/ReachedStates", "offsetOf", "(J)I"⟩ : MethodName) prog_19_method_14_code 2 (some .int) ({ frames := 0, cells := 0, slots := 0, locals := 0 } : Room) #[(.long q1)] h (fun v h' => v = some (.int q1.toInt32) ∧ h = h') := by
  refine met_of (plainFor_of_name pn_24) Z0 (fun m => ef_24 m q1) ?_
  intro p e s m below meth c T hs0 X
  refine r_lloadN 1 X d24_0 rfl ?_
  refine r_ldc2Long 4 X (hw _ (List.mem_of_getElem? (i := 123) rfl)) d24_1 ?_
  refine r_lrem 5 X d24_4 (by decide) ?_
  refine r_topJ (x' := q1) (own_of hq hn) ?_
  refine r_l2i 6 X d24_5 ?_
  refine r_retI X d24_6 (by decide) (by decide) ?_
  exact ⟨rfl, rfl⟩
theorem d25_0 : decode jdk_29_method_69_code 0 = .ok (.iload_n 0, 1) := by decide +kernel
theorem d25_1 : decode jdk_29_method_69_code 1 = .ok (.iload_n 1, 1) := by decide +kernel
theorem d25_2 : decode jdk_29_method_69_code 2 = .ok (.if_icmp .gt 7, 3) := by decide +kernel
theorem d25_5 : decode jdk_29_method_69_code 5 = .ok (.iload_n 0, 1) := by decide +kernel
theorem d25_6 : decode jdk_29_method_69_code 6 = .ok (.goto 4, 3) := by decide +kernel
theorem d25_9 : decode jdk_29_method_69_code 9 = .ok (.iload_n 1, 1) := by decide +kernel
theorem d25_10 : decode jdk_29_method_69_code 10 = .ok (.ireturn, 1) := by decide +kernel
theorem ef_25 (m : MethodId) (x0 : Int32) (x1 : Int32) : entryFrame m #[(.int x0), (.int x1)] 2 = mkF m 0 #[.val (.int x0), .val (.int x1)] [] := by first | (simp [entryFrame, mkF, argsToLocals, Value.category]; done) | rfl
set_option maxRecDepth 65536 in
set_option maxHeartbeats 40000000 in
theorem rmMn (l : Launch) (Z : State) (a0 : Array Value) (hw : ∀ d ∈ tables_1, d.before a0 Z = true) (n0 : Nat) (h : Heap) (Z0 : n0 ≤ h.size) (p1 p2 : Int32)  :
    Met1 l Z n0 [] (⟨"java/lang/Math", "min", "(II)I"⟩ : MethodName) jdk_29_method_69_code 2 (some .int) ({ frames := 0, cells := 0, slots := 0, locals := 0 } : Room) #[(.int p1), (.int p2)] h (fun v h' => v = some (.int (mnI p1 p2)) ∧ h = h') := by
  refine met_of (Jvm.Free.JP.mathPlain rfl (by decide +kernel)) Z0 (fun m => ef_25 m p1 p2) ?_
  intro p e s m below meth c T hs0 X
  refine r_iloadN 1 X d25_0 rfl ?_
  refine r_iloadN 2 X d25_1 rfl ?_
  by_cases h2_1 : p2 < p1
  · refine r_icmpY 9 X d25_2 (tlt h2_1).2.2.1 ?_
    refine r_iloadN 10 X d25_9 rfl ?_
    refine r_retI X d25_10 (by decide) (by decide) ?_
    exact ⟨by simp only [mnI, h2_1, if_true, if_false], rfl⟩
  · refine r_icmpN 5 X d25_2 (flt h2_1).2.2.1 ?_
    refine r_iloadN 6 X d25_5 rfl ?_
    refine r_goto 10 X d25_6 ?_
    refine r_retI X d25_10 (by decide) (by decide) ?_
    exact ⟨by simp only [mnI, h2_1, if_true, if_false], rfl⟩
theorem d23_0 : decode jdk_29_method_65_code 0 = .ok (.iload_n 0, 1) := by decide +kernel
theorem d23_1 : decode jdk_29_method_65_code 1 = .ok (.iload_n 1, 1) := by decide +kernel
theorem d23_2 : decode jdk_29_method_65_code 2 = .ok (.if_icmp .lt 7, 3) := by decide +kernel
theorem d23_5 : decode jdk_29_method_65_code 5 = .ok (.iload_n 0, 1) := by decide +kernel
theorem d23_6 : decode jdk_29_method_65_code 6 = .ok (.goto 4, 3) := by decide +kernel
theorem d23_10 : decode jdk_29_method_65_code 10 = .ok (.ireturn, 1) := by decide +kernel
theorem ef_23 (m : MethodId) (x0 : Int32) (x1 : Int32) : entryFrame m #[(.int x0), (.int x1)] 2 = mkF m 0 #[.val (.int x0), .val (.int x1)] [] := by first | (simp [entryFrame, mkF, argsToLocals, Value.category]; done) | rfl
set_option maxRecDepth 65536 in
set_option maxHeartbeats 40000000 in
theorem rmMx (l : Launch) (Z : State) (a0 : Array Value) (hw : ∀ d ∈ tables_1, d.before a0 Z = true) (n0 : Nat) (h : Heap) (Z0 : n0 ≤ h.size)   :
    Met1 l Z n0 [] (⟨"java/lang/Math", "max", "(II)I"⟩ : MethodName) jdk_29_method_65_code 2 (some .int) ({ frames := 0, cells := 0, slots := 0, locals := 0 } : Room) #[(.int (10 : Int32)), (.int (1 : Int32))] h (fun v h' => v = some (.int 10) ∧ h = h') := by
  refine met_of (Jvm.Free.JP.mathPlain rfl (by decide +kernel)) Z0 (fun m => ef_23 m (10 : Int32) (1 : Int32)) ?_
  intro p e s m below meth c T hs0 X
  refine r_iloadN 1 X d23_0 rfl ?_
  refine r_iloadN 2 X d23_1 rfl ?_
  refine r_icmpN 5 X d23_2 (flt (by decide)).1 ?_
  refine r_iloadN 6 X d23_5 rfl ?_
  refine r_goto 10 X d23_6 ?_
  refine r_retI X d23_10 (by decide) (by decide) ?_
  exact ⟨rfl, rfl⟩
theorem d9_0 : decode jdk_33_method_47_code 0 = .ok (.iload_n 0, 1) := by decide +kernel
theorem d9_1 : decode jdk_33_method_47_code 1 = .ok (.ifCond .gt 14, 3) := by decide +kernel
theorem d9_15 : decode jdk_33_method_47_code 15 = .ok (.bipush 31, 2) := by decide +kernel
theorem d9_17 : decode jdk_33_method_47_code 17 = .ok (.istore_n 1, 1) := by decide +kernel
theorem d9_18 : decode jdk_33_method_47_code 18 = .ok (.iload_n 0, 1) := by decide +kernel
theorem d9_19 : decode jdk_33_method_47_code 19 = .ok (.ldc_w 264, 3) := by decide +kernel
theorem d9_22 : decode jdk_33_method_47_code 22 = .ok (.if_icmp .lt 11, 3) := by decide +kernel
theorem d9_33 : decode jdk_33_method_47_code 33 = .ok (.iload_n 0, 1) := by decide +kernel
theorem d9_34 : decode jdk_33_method_47_code 34 = .ok (.sipush 256, 3) := by decide +kernel
theorem d9_37 : decode jdk_33_method_47_code 37 = .ok (.if_icmp .lt 11, 3) := by decide +kernel
theorem d9_48 : decode jdk_33_method_47_code 48 = .ok (.iload_n 0, 1) := by decide +kernel
theorem d9_49 : decode jdk_33_method_47_code 49 = .ok (.bipush 16, 2) := by decide +kernel
theorem d9_51 : decode jdk_33_method_47_code 51 = .ok (.if_icmp .lt 10, 3) := by decide +kernel
theorem d9_61 : decode jdk_33_method_47_code 61 = .ok (.iload_n 0, 1) := by decide +kernel
theorem d9_62 : decode jdk_33_method_47_code 62 = .ok (.iconst 4, 1) := by decide +kernel
theorem d9_63 : decode jdk_33_method_47_code 63 = .ok (.if_icmp .lt 10, 3) := by decide +kernel
theorem d9_66 : decode jdk_33_method_47_code 66 = .ok (.iinc 1 (-2), 3) := by decide +kernel
theorem d9_69 : decode jdk_33_method_47_code 69 = .ok (.iload_n 0, 1) := by decide +kernel
theorem d9_70 : decode jdk_33_method_47_code 70 = .ok (.iconst 2, 1) := by decide +kernel
theorem d9_71 : decode jdk_33_method_47_code 71 = .ok (.iushr, 1) := by decide +kernel
theorem d9_72 : decode jdk_33_method_47_code 72 = .ok (.istore_n 0, 1) := by decide +kernel
theorem d9_73 : decode jdk_33_method_47_code 73 = .ok (.iload_n 1, 1) := by decide +kernel
theorem d9_74 : decode jdk_33_method_47_code 74 = .ok (.iload_n 0, 1) := by decide +kernel
theorem d9_75 : decode jdk_33_method_47_code 75 = .ok (.iconst 1, 1) := by decide +kernel
theorem d9_76 : decode jdk_33_method_47_code 76 = .ok (.iushr, 1) := by decide +kernel
theorem d9_77 : decode jdk_33_method_47_code 77 = .ok (.isub, 1) := by decide +kernel
theorem d9_78 : decode jdk_33_method_47_code 78 = .ok (.ireturn, 1) := by decide +kernel
theorem pn_9 : plainName "java/lang/Integer" = true := by first | (simp [plainName, overriddenIn]; done) | decide +kernel
theorem ef_9 (m : MethodId) (x0 : Int32) : entryFrame m #[(.int x0)] 2 = mkF m 0 #[.val (.int x0), .unset] [] := by first | (simp [entryFrame, mkF, argsToLocals, Value.category]; done) | rfl
set_option maxRecDepth 65536 in
set_option maxHeartbeats 40000000 in
theorem rmNi (l : Launch) (Z : State) (a0 : Array Value) (hw : ∀ d ∈ tables_1, d.before a0 Z = true) (n0 : Nat) (h : Heap) (Z0 : n0 ≤ h.size)   :
    Met1 l Z n0 [] (⟨"java/lang/Integer", "numberOfLeadingZeros", "(I)I"⟩ : MethodName) jdk_33_method_47_code 2 (some .int) ({ frames := 0, cells := 0, slots := 0, locals := 0 } : Room) #[(.int (15 : Int32))] h (fun v h' => v = some (.int 28) ∧ h = h') := by
  refine met_of (plainFor_of_name pn_9) Z0 (fun m => ef_9 m (15 : Int32)) ?_
  intro p e s m below meth c T hs0 X
  refine r_iloadN 1 X d9_0 rfl ?_
  refine r_ifY 15 X d9_1 ((if0 _ _).trans (tlt (by decide)).2.2.1) ?_
  refine r_bipush 17 X (31 : Int32) d9_15 rfl ?_
  refine r_istoreN 18 X #[.val (.int (15 : Int32)), .val (.int (31 : Int32))] d9_17 rfl ?_
  refine r_iloadN 19 X d9_18 rfl ?_
  refine r_ldcwInt 22 X (hw _ (List.mem_of_getElem? (i := 64) rfl)) d9_19 ?_
  refine r_icmpY 33 X d9_22 (tlt (by decide)).1 ?_
  refine r_iloadN 34 X d9_33 rfl ?_
  refine r_sipush 37 X (256 : Int32) d9_34 rfl ?_
  refine r_icmpY 48 X d9_37 (tlt (by decide)).1 ?_
  refine r_iloadN 49 X d9_48 rfl ?_
  refine r_bipush 51 X (16 : Int32) d9_49 rfl ?_
  refine r_icmpY 61 X d9_51 (tlt (by decide)).1 ?_
  refine r_iloadN 62 X d9_61 rfl ?_
  refine r_iconst 63 X (4 : Int32) d9_62 rfl ?_
  refine r_icmpN 66 X d9_63 (flt (by decide)).1 ?_
  refine r_iinc 69 X (-2 : Int32) #[.val (.int (15 : Int32)), .val (.int (29 : Int32))] d9_66 rfl rfl rfl ?_
  refine r_iloadN 70 X d9_69 rfl ?_
  refine r_iconst 71 X (2 : Int32) d9_70 rfl ?_
  refine r_iushr 72 X d9_71 ?_
  refine r_topI (x' := (3 : Int32)) (by decide) ?_
  refine r_istoreN 73 X #[.val (.int (3 : Int32)), .val (.int (29 : Int32))] d9_72 rfl ?_
  refine r_iloadN 74 X d9_73 rfl ?_
  refine r_iloadN 75 X d9_74 rfl ?_
  refine r_iconst 76 X (1 : Int32) d9_75 rfl ?_
  refine r_iushr 77 X d9_76 ?_
  refine r_topI (x' := (1 : Int32)) (by decide) ?_
  refine r_isub 78 X d9_77 ?_
  refine r_topI (x' := (28 : Int32)) (by decide) ?_
  refine r_retI X d9_78 (by decide) (by decide) ?_
  exact ⟨rfl, rfl⟩
theorem d8_0 : decode jdk_35_method_48_code 0 = .ok (.lload_n 0, 1) := by decide +kernel
theorem d8_1 : decode jdk_35_method_48_code 1 = .ok (.bipush 32, 2) := by decide +kernel
theorem d8_3 : decode jdk_35_method_48_code 3 = .ok (.lushr, 1) := by decide +kernel
theorem d8_4 : decode jdk_35_method_48_code 4 = .ok (.l2i, 1) := by decide +kernel
theorem d8_5 : decode jdk_35_method_48_code 5 = .ok (.istore_n 2, 1) := by decide +kernel
theorem d8_6 : decode jdk_35_method_48_code 6 = .ok (.iload_n 2, 1) := by decide +kernel
theorem d8_7 : decode jdk_35_method_48_code 7 = .ok (.ifCond .ne 14, 3) := by decide +kernel
theorem d8_10 : decode jdk_35_method_48_code 10 = .ok (.bipush 32, 2) := by decide +kernel
theorem d8_12 : decode jdk_35_method_48_code 12 = .ok (.lload_n 0, 1) := by decide +kernel
theorem d8_13 : decode jdk_35_method_48_code 13 = .ok (.l2i, 1) := by decide +kernel
theorem d8_14 : decode jdk_35_method_48_code 14 = .ok (.invokestatic 308, 3) := by decide +kernel
theorem d8_17 : decode jdk_35_method_48_code 17 = .ok (.iadd, 1) := by decide +kernel
theorem d8_18 : decode jdk_35_method_48_code 18 = .ok (.goto 7, 3) := by decide +kernel
theorem d8_25 : decode jdk_35_method_48_code 25 = .ok (.ireturn, 1) := by decide +kernel
theorem pn_8 : plainName "java/lang/Long" = true := by first | (simp [plainName, overriddenIn]; done) | decide +kernel
theorem ef_8 (m : MethodId) (x0 : Int64) : entryFrame m #[(.long x0)] 3 = mkF m 0 #[.val (.long x0), .second, .unset] [] := by first | (simp [entryFrame, mkF, argsToLocals, Value.category]; done) | rfl
set_option maxRecDepth 65536 in
set_option maxHeartbeats 40000000 in
theorem rmNl (l : Launch) (Z : State) (a0 : Array Value) (hw : ∀ d ∈ tables_1, d.before a0 Z = true) (n0 : Nat) (h : Heap) (Z0 : n0 ≤ h.size)   :
    Met1 l Z n0 [] (⟨"java/lang/Long", "numberOfLeadingZeros", "(J)I"⟩ : MethodName) jdk_35_method_48_code 3 (some .int) ({ frames := 1, cells := 0, slots := 0, locals := 14 } : Room) #[(.long (15 : Int64))] h (fun v h' => v = some (.int 60) ∧ h = h') := by
  refine met_of (plainFor_of_name pn_8) Z0 (fun m => ef_8 m (15 : Int64)) ?_
  intro p e s m below meth c T hs0 X
  refine r_lloadN 1 X d8_0 rfl ?_
  refine r_bipush 3 X (32 : Int32) d8_1 rfl ?_
  refine r_lushr 4 X d8_3 ?_
  refine r_l2i 5 X d8_4 ?_
  refine r_topI (x' := (0 : Int32)) (by decide) ?_
  refine r_istoreN 6 X #[.val (.long (15 : Int64)), .second, .val (.int (0 : Int32))] d8_5 rfl ?_
  refine r_iloadN 7 X d8_6 rfl ?_
  refine r_ifN 10 X d8_7 ((if0 _ _).trans (teq (by decide)).2) ?_
  refine r_bipush 12 X (32 : Int32) d8_10 rfl ?_
  refine r_lloadN 13 X d8_12 rfl ?_
  refine r_l2i 14 X d8_13 ?_
  refine r_topI (x' := (15 : Int32)) (by decide) ?_
  refine r_callS 17 X (st := [(.int (32 : Int32))]) (rmNi l Z a0 hw n0 _ X.sz) (hw _ (List.mem_of_getElem? (i := 60) rfl)) (hw _ (List.mem_of_getElem? (i := 61) rfl)) (hw _ (List.mem_of_getElem? (i := 63) rfl)) (hw _ (List.mem_of_getElem? (i := 62) rfl)) (by decide) pd_0 [(.int (15 : Int32))] rfl rfl 1 (Nat.le_of_eq rfl) rfl (by decide) (by decide) (by decide) (by decide) d8_14 ?_
  rintro T h1 v1 ⟨rfl, rfl⟩ X
  change Run _ _ _ _ _ _ _ _ [(.int (28 : Int32)), (.int (32 : Int32))]
  refine r_iadd 18 X d8_17 ?_
  refine r_topI (x' := (60 : Int32)) (by decide) ?_
  refine r_goto 25 X d8_18 ?_
  refine r_retI X d8_25 (by decide) (by decide) ?_
  exact ⟨rfl, rfl⟩
theorem d28_0 : decode jdk_41_method_11_code 0 = .ok (.iload_n 0, 1) := by decide +kernel
theorem d28_1 : decode jdk_41_method_11_code 1 = .ok (.ifCond .lt 8, 3) := by decide +kernel
theorem d28_4 : decode jdk_41_method_11_code 4 = .ok (.iload_n 0, 1) := by decide +kernel
theorem d28_5 : decode jdk_41_method_11_code 5 = .ok (.iload_n 1, 1) := by decide +kernel
theorem d28_6 : decode jdk_41_method_11_code 6 = .ok (.if_icmp .lt 10, 3) := by decide +kernel
theorem d28_16 : decode jdk_41_method_11_code 16 = .ok (.iload_n 0, 1) := by decide +kernel
theorem d28_17 : decode jdk_41_method_11_code 17 = .ok (.ireturn, 1) := by decide +kernel
theorem pn_28 : plainName "jdk/internal/util/Preconditions" = true := by first | (simp [plainName, overriddenIn]; done) | decide +kernel
theorem ef_28 (m : MethodId) (x0 : Int32) (x1 : Int32) : entryFrame m #[(.int x0), (.int x1), .null] 3 = mkF m 0 #[.val (.int x0), .val (.int x1), .val .null] [] := by first | (simp [entryFrame, mkF, argsToLocals, Value.category]; done) | rfl
set_option maxRecDepth 65536 in
set_option maxHeartbeats 40000000 in
theorem rmPI (l : Launch) (Z : State) (a0 : Array Value) (hw : ∀ d ∈ tables_1, d.before a0 Z = true) (n0 : Nat) (h : Heap) (Z0 : n0 ≤ h.size)   :
    Met1 l Z n0 [] (⟨"jdk/internal/util/Preconditions", "checkIndex", "(IILjava/util/function/BiFunction;)I"⟩ : MethodName) jdk_41_method_11_code 3 (some .int) ({ frames := 0, cells := 0, slots := 0, locals := 0 } : Room) #[(.int (0 : Int32)), (.int (1 : Int32)), .null] h (fun v h' => v = some (.int 0) ∧ h = h') := by
  refine met_of (plainFor_of_name pn_28) Z0 (fun m => ef_28 m (0 : Int32) (1 : Int32)) ?_
  intro p e s m below meth c T hs0 X
  refine r_iloadN 1 X d28_0 rfl ?_
  refine r_ifN 4 X d28_1 ((if0 _ _).trans (flt (by decide)).1) ?_
  refine r_iloadN 5 X d28_4 rfl ?_
  refine r_iloadN 6 X d28_5 rfl ?_
  refine r_icmpY 16 X d28_6 (tlt (by decide)).1 ?_
  refine r_iloadN 17 X d28_16 rfl ?_
  refine r_retI X d28_17 (by decide) (by decide) ?_
  exact ⟨rfl, rfl⟩
theorem d27_0 : decode jdk_31_method_17_code 0 = .ok (.iload_n 0, 1) := by decide +kernel
theorem d27_1 : decode jdk_31_method_17_code 1 = .ok (.iload_n 1, 1) := by decide +kernel
theorem d27_2 : decode jdk_31_method_17_code 2 = .ok (.aconst_null, 1) := by decide +kernel
theorem d27_3 : decode jdk_31_method_17_code 3 = .ok (.invokestatic 105, 3) := by decide +kernel
theorem d27_6 : decode jdk_31_method_17_code 6 = .ok (.ireturn, 1) := by decide +kernel
theorem pn_27 : plainName "java/util/Objects" = true := by first | (simp [plainName, overriddenIn]; done) | decide +kernel
theorem ef_27 (m : MethodId) (x0 : Int32) (x1 : Int32) : entryFrame m #[(.int x0), (.int x1)] 2 = mkF m 0 #[.val (.int x0), .val (.int x1)] [] := by first | (simp [entryFrame, mkF, argsToLocals, Value.category]; done) | rfl
set_option maxRecDepth 65536 in
set_option maxHeartbeats 40000000 in
theorem rmCI (l : Launch) (Z : State) (a0 : Array Value) (hw : ∀ d ∈ tables_1, d.before a0 Z = true) (n0 : Nat) (h : Heap) (Z0 : n0 ≤ h.size)   :
    Met1 l Z n0 [] (⟨"java/util/Objects", "checkIndex", "(II)I"⟩ : MethodName) jdk_31_method_17_code 2 (some .int) ({ frames := 1, cells := 0, slots := 0, locals := 14 } : Room) #[(.int (0 : Int32)), (.int (1 : Int32))] h (fun v h' => v = some (.int 0) ∧ h = h') := by
  refine met_of (plainFor_of_name pn_27) Z0 (fun m => ef_27 m (0 : Int32) (1 : Int32)) ?_
  intro p e s m below meth c T hs0 X
  refine r_iloadN 1 X d27_0 rfl ?_
  refine r_iloadN 2 X d27_1 rfl ?_
  refine r_aconst_null 3 X d27_2 ?_
  refine r_callS 6 X (st := []) (rmPI l Z a0 hw n0 _ X.sz) (hw _ (List.mem_of_getElem? (i := 186) rfl)) (hw _ (List.mem_of_getElem? (i := 187) rfl)) (hw _ (List.mem_of_getElem? (i := 189) rfl)) (hw _ (List.mem_of_getElem? (i := 188) rfl)) (by decide) pd_1 [(.int (0 : Int32)), (.int (1 : Int32)), .null] rfl rfl 0 (Nat.le_of_eq rfl) rfl (by decide) (by decide) (by decide) (by decide) d27_3 ?_
  rintro T h1 v1 ⟨rfl, rfl⟩ X
  change Run _ _ _ _ _ _ _ _ [(.int (0 : Int32))]
  refine r_retI X d27_6 (by decide) (by decide) ?_
  exact ⟨rfl, rfl⟩
theorem d18_0 : decode jdk_38_method_8_code 0 = .ok (.aload_n 0, 1) := by decide +kernel
theorem d18_1 : decode jdk_38_method_8_code 1 = .ok (.getfield 48, 3) := by decide +kernel
theorem d18_4 : decode jdk_38_method_8_code 4 = .ok (.ireturn, 1) := by decide +kernel
theorem pn_18 : plainName "java/util/ArrayList" = true := by first | (simp [plainName, overriddenIn]; done) | decide +kernel
theorem ef_18 (m : MethodId) (x0 : Addr) : entryFrame m #[(.ref x0)] 1 = mkF m 0 #[.val (.ref x0)] [] := by first | (simp [entryFrame, mkF, argsToLocals, Value.category]; done) | rfl
set_option maxRecDepth 65536 in
set_option maxHeartbeats 40000000 in
theorem rmSz (l : Launch) (Z : State) (a0 : Array Value) (hw : ∀ d ∈ tables_1, d.before a0 Z = true) (n0 : Nat) (h : Heap) (Z0 : n0 ≤ h.size) (al : Nat) (z : Int32) (E_al : Exa Z h al "java/util/ArrayList") (F_al_size : Fld Z h al "java/util/ArrayList" "size" "I" (.int z)) :
    Met1 l Z n0 [] (⟨"java/util/ArrayList", "size", "()I"⟩ : MethodName) jdk_38_method_8_code 1 (some .int) ({ frames := 0, cells := 0, slots := 0, locals := 0 } : Room) #[(.ref al)] h (fun v h' => v = some (.int z) ∧ h = h') := by
  refine met_of (plainFor_of_name pn_18) Z0 (fun m => ef_18 m al) ?_
  intro p e s m below meth c T hs0 X
  refine r_aloadN 1 X d18_0 rfl rfl ?_
  refine r_getfield 4 X (host := "") (Or.inl (hw _ (List.mem_of_getElem? (i := 133) rfl))) Via.refl F_al_size d18_1 ?_
  intro T X
  refine r_retI X d18_4 (by decide) (by decide) ?_
  exact ⟨rfl, rfl⟩
theorem d29_0 : decode jdk_38_method_18_code 0 = .ok (.aload_n 0, 1) := by decide +kernel
theorem d29_1 : decode jdk_38_method_18_code 1 = .ok (.getfield 9, 3) := by decide +kernel
theorem d29_4 : decode jdk_38_method_18_code 4 = .ok (.iload_n 1, 1) := by decide +kernel
theorem d29_5 : decode jdk_38_method_18_code 5 = .ok (.aaload, 1) := by decide +kernel
theorem d29_6 : decode jdk_38_method_18_code 6 = .ok (.areturn, 1) := by decide +kernel
theorem pn_29 : plainName "java/util/ArrayList" = true := by first | (simp [plainName, overriddenIn]; done) | decide +kernel
theorem ef_29 (m : MethodId) (x0 : Addr) (x1 : Int32) : entryFrame m #[(.ref x0), (.int x1)] 2 = mkF m 0 #[.val (.ref x0), .val (.int x1)] [] := by first | (simp [entryFrame, mkF, argsToLocals, Value.category]; done) | rfl
set_option maxRecDepth 65536 in
set_option maxHeartbeats 40000000 in
theorem rmEd (l : Launch) (Z : State) (a0 : Array Value) (hw : ∀ d ∈ tables_1, d.before a0 Z = true) (n0 : Nat) (h : Heap) (Z0 : n0 ≤ h.size) (al blk od : Nat)  (E_al : Exa Z h al "java/util/ArrayList") (F_al_elementData : Fld Z h al "java/util/ArrayList" "elementData" "[Ljava/lang/Object;" (.ref od)) (A_od : AF Z h od (.object "java/lang/Object") 10 (upd (fun _ => .null) 0 (.ref blk))) :
    Met1 l Z n0 [] (⟨"java/util/ArrayList", "elementData", "(I)Ljava/lang/Object;"⟩ : MethodName) jdk_38_method_18_code 2 (some (.object "java/lang/Object")) ({ frames := 0, cells := 0, slots := 0, locals := 0 } : Room) #[(.ref al), (.int (0 : Int32))] h (fun v h' => v = some (.ref blk) ∧ h = h') := by
  refine met_of (plainFor_of_name pn_29) Z0 (fun m => ef_29 m al (0 : Int32)) ?_
  intro p e s m below meth c T hs0 X
  refine r_aloadN 1 X d29_0 rfl rfl ?_
  refine r_getfield 4 X (host := "") (Or.inl (hw _ (List.mem_of_getElem? (i := 32) rfl))) Via.refl F_al_elementData d29_1 ?_
  intro T X
  refine r_iloadN 5 X d29_4 rfl ?_
  refine r_aaload 6 X A_od rfl (i := 0) (v := (.ref blk)) (by decide) (by decide) rfl d29_5 ?_
  refine r_retA X d29_6 rfl rfl rfl (by decide) (by decide) ?_
  exact ⟨rfl, rfl⟩
theorem d26_0 : decode jdk_38_method_20_code 0 = .ok (.iload_n 1, 1) := by decide +kernel
theorem d26_1 : decode jdk_38_method_20_code 1 = .ok (.aload_n 0, 1) := by decide +kernel
theorem d26_2 : decode jdk_38_method_20_code 2 = .ok (.getfield 48, 3) := by decide +kernel
theorem d26_5 : decode jdk_38_method_20_code 5 = .ok (.invokestatic 118, 3) := by decide +kernel
theorem d26_8 : decode jdk_38_method_20_code 8 = .ok (.pop, 1) := by decide +kernel
theorem d26_9 : decode jdk_38_method_20_code 9 = .ok (.aload_n 0, 1) := by decide +kernel
theorem d26_10 : decode jdk_38_method_20_code 10 = .ok (.iload_n 1, 1) := by decide +kernel
theorem d26_11 : decode jdk_38_method_20_code 11 = .ok (.invokevirtual 123, 3) := by decide +kernel
theorem d26_14 : decode jdk_38_method_20_code 14 = .ok (.areturn, 1) := by decide +kernel
theorem pn_26 : plainName "java/util/ArrayList" = true := by first | (simp [plainName, overriddenIn]; done) | decide +kernel
theorem ef_26 (m : MethodId) (x0 : Addr) (x1 : Int32) : entryFrame m #[(.ref x0), (.int x1)] 2 = mkF m 0 #[.val (.ref x0), .val (.int x1)] [] := by first | (simp [entryFrame, mkF, argsToLocals, Value.category]; done) | rfl
set_option maxRecDepth 65536 in
set_option maxHeartbeats 40000000 in
theorem rmGe (l : Launch) (Z : State) (a0 : Array Value) (hw : ∀ d ∈ tables_1, d.before a0 Z = true) (n0 : Nat) (h : Heap) (Z0 : n0 ≤ h.size) (al blk od : Nat)  (E_al : Exa Z h al "java/util/ArrayList") (F_al_elementData : Fld Z h al "java/util/ArrayList" "elementData" "[Ljava/lang/Object;" (.ref od)) (F_al_size : Fld Z h al "java/util/ArrayList" "size" "I" (.int (1 : Int32))) (A_od : AF Z h od (.object "java/lang/Object") 10 (upd (fun _ => .null) 0 (.ref blk))) :
    Met1 l Z n0 [] (⟨"java/util/ArrayList", "get", "(I)Ljava/lang/Object;"⟩ : MethodName) jdk_38_method_20_code 2 (some (.object "java/lang/Object")) ({ frames := 2, cells := 0, slots := 0, locals := 27 } : Room) #[(.ref al), (.int (0 : Int32))] h (fun v h' => v = some (.ref blk) ∧ h = h') := by
  refine met_of (plainFor_of_name pn_26) Z0 (fun m => ef_26 m al (0 : Int32)) ?_
  intro p e s m below meth c T hs0 X
  refine r_iloadN 1 X d26_0 rfl ?_
  refine r_aloadN 2 X d26_1 rfl rfl ?_
  refine r_getfield 5 X (host := "") (Or.inl (hw _ (List.mem_of_getElem? (i := 133) rfl))) Via.refl F_al_size d26_2 ?_
  intro T X
  refine r_callS 8 X (st := []) (rmCI l Z a0 hw n0 _ X.sz) (hw _ (List.mem_of_getElem? (i := 182) rfl)) (hw _ (List.mem_of_getElem? (i := 183) rfl)) (hw _ (List.mem_of_getElem? (i := 185) rfl)) (hw _ (List.mem_of_getElem? (i := 184) rfl)) (by decide) pd_2 [(.int (0 : Int32)), (.int (1 : Int32))] rfl rfl 0 (Nat.le_of_eq rfl) rfl (by decide) (by decide) (by decide) (by decide) d26_5 ?_
  rintro T h1 v1 ⟨rfl, rfl⟩ X
  change Run _ _ _ _ _ _ _ _ [(.int (0 : Int32))]
  refine r_pop 9 X d26_8 rfl ?_
  refine r_aloadN 10 X d26_9 rfl rfl ?_
  refine r_iloadN 11 X d26_10 rfl ?_
  refine r_virtual 14 X (st := []) (a := al) (rmEd l Z a0 hw n0 _ X.sz al blk od    E_al F_al_elementData A_od) E_al (hw _ (List.mem_of_getElem? (i := 190) rfl)) (hw _ (List.mem_of_getElem? (i := 191) rfl)) (hw _ (List.mem_of_getElem? (i := 193) rfl)) (hw _ (List.mem_of_getElem? (i := 193) rfl)) (hw _ (List.mem_of_getElem? (i := 192) rfl)) (hw _ (List.mem_of_getElem? (i := 194) rfl)) (hw _ (List.mem_of_getElem? (i := 12) rfl)) (by decide) pd_3 [(.int (0 : Int32))] rfl rfl 0 (Nat.le_of_eq rfl) rfl (by decide) (by decide) (by decide) (by decide) d26_11 ?_
  rintro T h2 v2 ⟨rfl, rfl⟩ X
  change Run _ _ _ _ _ _ _ _ [(.ref blk)]
  refine r_retA X d26_14 rfl rfl rfl (by decide) (by decide) ?_
  exact ⟨rfl, rfl⟩
theorem d5_0 : decode jdk_22_method_1_code 0 = .ok (.aload_n 0, 1) := by decide +kernel
theorem d5_1 : decode jdk_22_method_1_code 1 = .ok (.invokespecial 1, 3) := by decide +kernel
theorem d5_4 : decode jdk_22_method_1_code 4 = .ok (.return_, 1) := by decide +kernel
theorem pn_5 : plainName "java/util/AbstractCollection" = true := by first | (simp [plainName, overriddenIn]; done) | decide +kernel
theorem ef_5 (m : MethodId) (x0 : Addr) : entryFrame m #[(.ref x0)] 1 = mkF m 0 #[.val (.ref x0)] [] := by first | (simp [entryFrame, mkF, argsToLocals, Value.category]; done) | rfl
set_option maxRecDepth 65536 in
set_option maxHeartbeats 40000000 in
theorem rmAc (l : Launch) (Z : State) (a0 : Array Value) (hw : ∀ d ∈ tables_1, d.before a0 Z = true) (n0 : Nat) (h : Heap) (Z0 : n0 ≤ h.size) (al : Nat)  (E_al : Exa Z h al "java/util/ArrayList") :
    Met1 l Z n0 [] (⟨"java/util/AbstractCollection", "<init>", "()V"⟩ : MethodName) jdk_22_method_1_code 1 none ({ frames := 1, cells := 0, slots := 0, locals := 12 } : Room) #[(.ref al)] h (fun v h' => v = none ∧ h = h') := by
  refine met_of (plainFor_of_name pn_5) Z0 (fun m => ef_5 m al) ?_
  intro p e s m below meth c T hs0 X
  refine r_aloadN 1 X d5_0 rfl rfl ?_
  refine r_initO 4 X (hw _ (List.mem_of_getElem? (i := 28) rfl)) (hw _ (List.mem_of_getElem? (i := 8) rfl)) (hw _ (List.mem_of_getElem? (i := 9) rfl)) d5_1 rfl (by decide) 0 (Nat.le_of_eq rfl) (by decide) ?_
  intro T X
  refine r_retV X d5_4 (by decide) (by decide) ?_
  exact ⟨rfl, rfl⟩
theorem d4_0 : decode jdk_39_method_1_code 0 = .ok (.aload_n 0, 1) := by decide +kernel
theorem d4_1 : decode jdk_39_method_1_code 1 = .ok (.invokespecial 1, 3) := by decide +kernel
theorem d4_4 : decode jdk_39_method_1_code 4 = .ok (.aload_n 0, 1) := by decide +kernel
theorem d4_5 : decode jdk_39_method_1_code 5 = .ok (.iconst 0, 1) := by decide +kernel
theorem d4_6 : decode jdk_39_method_1_code 6 = .ok (.putfield 7, 3) := by decide +kernel
theorem d4_9 : decode jdk_39_method_1_code 9 = .ok (.return_, 1) := by decide +kernel
theorem pn_4 : plainName "java/util/AbstractList" = true := by first | (simp [plainName, overriddenIn]; done) | decide +kernel
theorem ef_4 (m : MethodId) (x0 : Addr) : entryFrame m #[(.ref x0)] 1 = mkF m 0 #[.val (.ref x0)] [] := by first | (simp [entryFrame, mkF, argsToLocals, Value.category]; done) | rfl
set_option maxRecDepth 65536 in
set_option maxHeartbeats 40000000 in
theorem rmAb (l : Launch) (Z : State) (a0 : Array Value) (hw : ∀ d ∈ tables_1, d.before a0 Z = true) (n0 : Nat) (h : Heap) (Z0 : n0 ≤ h.size) (al : Nat)  (g_al : n0 ≤ al)  (E_al : Exa Z h al "java/util/ArrayList") (F_al_modCount : Fld Z h al "java/util/AbstractList" "modCount" "I" (.int (0 : Int32))) (F_al_elementData : Fld Z h al "java/util/ArrayList" "elementData" "[Ljava/lang/Object;" .null) (F_al_size : Fld Z h al "java/util/ArrayList" "size" "I" (.int (0 : Int32))) :
    Met1 l Z n0 [] (⟨"java/util/AbstractList", "<init>", "()V"⟩ : MethodName) jdk_39_method_1_code 1 none ({ frames := 2, cells := 0, slots := 0, locals := 24 } : Room) #[(.ref al)] h (fun v h' => v = none ∧ Keep h h' [al] ∧ Fld Z h' al "java/util/AbstractList" "modCount" "I" (.int (0 : Int32)) ∧ Fld Z h' al "java/util/ArrayList" "elementData" "[Ljava/lang/Object;" .null ∧ Fld Z h' al "java/util/ArrayList" "size" "I" (.int (0 : Int32))) := by
  refine met_of (plainFor_of_name pn_4) Z0 (fun m => ef_4 m al) ?_
  intro p e s m below meth c T hs0 X
  have K := Keep.refl h [al]
  refine r_aloadN 1 X d4_0 rfl rfl ?_
  refine r_special 4 X (st := []) (a := al) (rmAc l Z a0 hw n0 _ X.sz al    E_al) rfl rfl (hw _ (List.mem_of_getElem? (i := 22) rfl)) (hw _ (List.mem_of_getElem? (i := 23) rfl)) (hw _ (List.mem_of_getElem? (i := 27) rfl)) (hw _ (List.mem_of_getElem? (i := 26) rfl)) (by decide) pd_4 [] rfl rfl 0 (Nat.le_of_eq rfl) rfl (by decide) (by decide) (by decide) (by decide) d4_1 ?_
  rintro T h1 v1 ⟨rfl, rfl⟩ X
  change Run _ _ _ _ _ _ _ _ []
  refine r_aloadN 5 X d4_4 rfl rfl ?_
  refine r_iconst 6 X (0 : Int32) d4_5 rfl ?_
  refine r_putfield 9 X (host := "") (Or.inl (hw _ (List.mem_of_getElem? (i := 29) rfl))) Via.refl F_al_modCount E_al (Or.inl (hw _ (List.mem_of_getElem? (i := 30) rfl))) (hw _ (List.mem_of_getElem? (i := 11) rfl)) (ty := .int) (by decide) rfl rfl g_al d4_6 ?_
  intro T h2 W2 X
  have K := K.wr W2 (Or.inl (List.mem_of_getElem? (i := 0) rfl))
  have E_al := E_al.wr W2
  have F_al_modCount := F_al_modCount.same W2
  have F_al_elementData := F_al_elementData.other W2 (Or.inr (slot_ne (Or.inl (hw _ (List.mem_of_getElem? (i := 33) rfl))) (Or.inl (hw _ (List.mem_of_getElem? (i := 30) rfl))) (by decide) (t := (.array (.object "java/lang/Object"))) (t' := .int) (by decide) (by decide)))
  have F_al_size := F_al_size.other W2 (Or.inr (slot_ne (Or.inl (hw _ (List.mem_of_getElem? (i := 134) rfl))) (Or.inl (hw _ (List.mem_of_getElem? (i := 30) rfl))) (by decide) (t := .int) (t' := .int) (by decide) (by decide)))
  refine r_retV X d4_9 (by decide) (by decide) ?_
  exact ⟨rfl, K, F_al_modCount, F_al_elementData, F_al_size⟩
theorem d3_0 : decode jdk_38_method_2_code 0 = .ok (.aload_n 0, 1) := by decide +kernel
theorem d3_1 : decode jdk_38_method_2_code 1 = .ok (.invokespecial 1, 3) := by decide +kernel
theorem d3_4 : decode jdk_38_method_2_code 4 = .ok (.aload_n 0, 1) := by decide +kernel
theorem d3_5 : decode jdk_38_method_2_code 5 = .ok (.getstatic 39, 3) := by decide +kernel
theorem d3_8 : decode jdk_38_method_2_code 8 = .ok (.putfield 9, 3) := by decide +kernel
theorem d3_11 : decode jdk_38_method_2_code 11 = .ok (.return_, 1) := by decide +kernel
theorem pn_3 : plainName "java/util/ArrayList" = true := by first | (simp [plainName, overriddenIn]; done) | decide +kernel
theorem ef_3 (m : MethodId) (x0 : Addr) : entryFrame m #[(.ref x0)] 1 = mkF m 0 #[.val (.ref x0)] [] := by first | (simp [entryFrame, mkF, argsToLocals, Value.category]; done) | rfl
set_option maxRecDepth 65536 in
set_option maxHeartbeats 40000000 in
theorem rmAi (l : Launch) (Z : State) (a0 : Array Value) (hw : ∀ d ∈ tables_1, d.before a0 Z = true) (n0 : Nat) (h : Heap) (Z0 : n0 ≤ h.size) (em al : Nat)  (lt_em_al : @LT.lt Nat _ em al) (g_al : n0 ≤ al)  (E_al : Exa Z h al "java/util/ArrayList") (F_al_modCount : Fld Z h al "java/util/AbstractList" "modCount" "I" (.int (0 : Int32))) (F_al_elementData : Fld Z h al "java/util/ArrayList" "elementData" "[Ljava/lang/Object;" .null) (F_al_size : Fld Z h al "java/util/ArrayList" "size" "I" (.int (0 : Int32))) (S_DEFAULTCAPACITY_EMPTY_ELEMENTDATA : Sta Z h "java/util/ArrayList" "DEFAULTCAPACITY_EMPTY_ELEMENTDATA" "[Ljava/lang/Object;" (.ref em)) :
    Met1 l Z n0 [] (⟨"java/util/ArrayList", "<init>", "()V"⟩ : MethodName) jdk_38_method_2_code 1 none ({ frames := 3, cells := 0, slots := 0, locals := 36 } : Room) #[(.ref al)] h (fun v h' => v = none ∧ Keep h h' [al] ∧ Fld Z h' al "java/util/AbstractList" "modCount" "I" (.int (0 : Int32)) ∧ Fld Z h' al "java/util/ArrayList" "elementData" "[Ljava/lang/Object;" (.ref em) ∧ Fld Z h' al "java/util/ArrayList" "size" "I" (.int (0 : Int32))) := by
  refine met_of (plainFor_of_name pn_3) Z0 (fun m => ef_3 m al) ?_
  intro p e s m below meth c T hs0 X
  have K := Keep.refl h [al]
  have ne_em_al : @Ne Nat em al := by omega
  refine r_aloadN 1 X d3_0 rfl rfl ?_
  refine r_special 4 X (st := []) (a := al) (rmAb l Z a0 hw n0 _ X.sz al  (by omega)   E_al F_al_modCount F_al_elementData F_al_size) rfl rfl (hw _ (List.mem_of_getElem? (i := 16) rfl)) (hw _ (List.mem_of_getElem? (i := 17) rfl)) (hw _ (List.mem_of_getElem? (i := 21) rfl)) (hw _ (List.mem_of_getElem? (i := 20) rfl)) (by decide) pd_4 [] rfl rfl 0 (Nat.le_of_eq rfl) rfl (by decide) (by decide) (by decide) (by decide) d3_1 ?_
  rintro T h1 v1 ⟨rfl, K1, B1_F_al_modCount, B1_F_al_elementData, B1_F_al_size⟩ X
  have K := K.trans K1 (allS (Or.inl (List.mem_of_getElem? (i := 0) rfl)) all0)
  have S_DEFAULTCAPACITY_EMPTY_ELEMENTDATA := own_stakL S_DEFAULTCAPACITY_EMPTY_ELEMENTDATA K1 (staS E_al sta0)
  have E_al := E_al.keep K1
  have F_al_modCount := B1_F_al_modCount
  have F_al_elementData := B1_F_al_elementData
  have F_al_size := B1_F_al_size
  change Run _ _ _ _ _ _ _ _ []
  refine r_aloadN 5 X d3_4 rfl rfl ?_
  refine r_getstatic 8 X (host := "") (Or.inl (hw _ (List.mem_of_getElem? (i := 31) rfl))) Via.refl S_DEFAULTCAPACITY_EMPTY_ELEMENTDATA d3_5 ?_
  intro T X
  refine r_putfield 11 X (host := "") (Or.inl (hw _ (List.mem_of_getElem? (i := 32) rfl))) Via.refl F_al_elementData E_al (Or.inl (hw _ (List.mem_of_getElem? (i := 33) rfl))) (hw _ (List.mem_of_getElem? (i := 11) rfl)) (ty := (.array (.object "java/lang/Object"))) (by decide) rfl rfl g_al d3_8 ?_
  intro T h2 W2 X
  have K := K.wr W2 (Or.inl (List.mem_of_getElem? (i := 0) rfl))
  have E_al := E_al.wr W2
  have S_DEFAULTCAPACITY_EMPTY_ELEMENTDATA := S_DEFAULTCAPACITY_EMPTY_ELEMENTDATA.wr W2
  have F_al_modCount := F_al_modCount.other W2 (Or.inr (slot_ne (Or.inl (hw _ (List.mem_of_getElem? (i := 30) rfl))) (Or.inl (hw _ (List.mem_of_getElem? (i := 33) rfl))) (by decide) (t := .int) (t' := (.array (.object "java/lang/Object"))) (by decide) (by decide)))
  have F_al_elementData := F_al_elementData.same W2
  have F_al_size := F_al_size.other W2 (Or.inr (slot_ne (Or.inl (hw _ (List.mem_of_getElem? (i := 134) rfl))) (Or.inl (hw _ (List.mem_of_getElem? (i := 33) rfl))) (by decide) (t := .int) (t' := (.array (.object "java/lang/Object"))) (by decide) (by decide)))
  refine r_retV X d3_11 (by decide) (by decide) ?_
  exact ⟨rfl, K, F_al_modCount, F_al_elementData, F_al_size⟩
theorem d22_0 : decode jdk_38_method_6_code 0 = .ok (.aload_n 0, 1) := by decide +kernel
theorem d22_1 : decode jdk_38_method_6_code 1 = .ok (.getfield 9, 3) := by decide +kernel
theorem d22_4 : decode jdk_38_method_6_code 4 = .ok (.arraylength, 1) := by decide +kernel
theorem d22_5 : decode jdk_38_method_6_code 5 = .ok (.istore_n 2, 1) := by decide +kernel
theorem d22_6 : decode jdk_38_method_6_code 6 = .ok (.iload_n 2, 1) := by decide +kernel
theorem d22_7 : decode jdk_38_method_6_code 7 = .ok (.ifCond .gt 13, 3) := by decide +kernel
theorem d22_10 : decode jdk_38_method_6_code 10 = .ok (.aload_n 0, 1) := by decide +kernel
theorem d22_11 : decode jdk_38_method_6_code 11 = .ok (.getfield 9, 3) := by decide +kernel
theorem d22_14 : decode jdk_38_method_6_code 14 = .ok (.getstatic 39, 3) := by decide +kernel
theorem d22_17 : decode jdk_38_method_6_code 17 = .ok (.if_acmp .eq 28, 3) := by decide +kernel
theorem d22_45 : decode jdk_38_method_6_code 45 = .ok (.aload_n 0, 1) := by decide +kernel
theorem d22_46 : decode jdk_38_method_6_code 46 = .ok (.bipush 10, 2) := by decide +kernel
theorem d22_48 : decode jdk_38_method_6_code 48 = .ok (.iload_n 1, 1) := by decide +kernel
theorem d22_49 : decode jdk_38_method_6_code 49 = .ok (.invokestatic 79, 3) := by decide +kernel
theorem d22_52 : decode jdk_38_method_6_code 52 = .ok (.anewarray 7, 3) := by decide +kernel
theorem d22_55 : decode jdk_38_method_6_code 55 = .ok (.dup_x1, 1) := by decide +kernel
theorem d22_56 : decode jdk_38_method_6_code 56 = .ok (.putfield 9, 3) := by decide +kernel
theorem d22_59 : decode jdk_38_method_6_code 59 = .ok (.areturn, 1) := by decide +kernel
theorem pn_22 : plainName "java/util/ArrayList" = true := by first | (simp [plainName, overriddenIn]; done) | decide +kernel
theorem ef_22 (m : MethodId) (x0 : Addr) (x1 : Int32) : entryFrame m #[(.ref x0), (.int x1)] 4 = mkF m 0 #[.val (.ref x0), .val (.int x1), .unset, .unset] [] := by first | (simp [entryFrame, mkF, argsToLocals, Value.category]; done) | rfl
set_option maxRecDepth 65536 in
set_option maxHeartbeats 40000000 in
theorem rmG1 (l : Launch) (Z : State) (a0 : Array Value) (hw : ∀ d ∈ tables_1, d.before a0 Z = true) (n0 : Nat) (h : Heap) (Z0 : n0 ≤ h.size) (em al : Nat) (fe : Nat → Value) (lt_em_al : @LT.lt Nat _ em al) (g_al : n0 ≤ al)  (E_al : Exa Z h al "java/util/ArrayList") (F_al_elementData : Fld Z h al "java/util/ArrayList" "elementData" "[Ljava/lang/Object;" (.ref em)) (F_al_size : Fld Z h al "java/util/ArrayList" "size" "I" (.int (0 : Int32))) (A_em : AF Z h em (.object "java/lang/Object") 0 fe) (S_DEFAULTCAPACITY_EMPTY_ELEMENTDATA : Sta Z h "java/util/ArrayList" "DEFAULTCAPACITY_EMPTY_ELEMENTDATA" "[Ljava/lang/Object;" (.ref em)) :
    Met1 l Z n0 [] (⟨"java/util/ArrayList", "grow", "(I)[Ljava/lang/Object;"⟩ : MethodName) jdk_38_method_6_code 4 (some (.array (.object "java/lang/Object"))) ({ frames := 1, cells := 1, slots := 10, locals := 14 } : Room) #[(.ref al), (.int (1 : Int32))] h (fun v h' => ∃ od : Nat, v = some (.ref od) ∧ Keep h h' [al] ∧ h.size ≤ od ∧ n0 ≤ od ∧ Exa Z h' od "[Ljava/lang/Object;" ∧ OVo Z "[Ljava/lang/Object;" "java/lang/Object" ∧ Fld Z h' al "java/util/ArrayList" "elementData" "[Ljava/lang/Object;" (.ref od) ∧ Fld Z h' al "java/util/ArrayList" "size" "I" (.int (0 : Int32)) ∧ AF Z h' od (.object "java/lang/Object") 10 (fun _ => .null)) := by
  refine met_of (plainFor_of_name pn_22) Z0 (fun m => ef_22 m al (1 : Int32)) ?_
  intro p e s m below meth c T hs0 X
  have K := Keep.refl h [al]
  have ne_em_al : @Ne Nat em al := by omega
  refine r_aloadN 1 X d22_0 rfl rfl ?_
  refine r_getfield 4 X (host := "") (Or.inl (hw _ (List.mem_of_getElem? (i := 32) rfl))) Via.refl F_al_elementData d22_1 ?_
  intro T X
  refine r_arraylength 5 X A_em (0 : Int32) (by decide) d22_4 ?_
  refine r_istoreN 6 X #[.val (.ref al), .val (.int (1 : Int32)), .val (.int (0 : Int32)), .unset] d22_5 rfl ?_
  refine r_iloadN 7 X d22_6 rfl ?_
  refine r_ifN 10 X d22_7 ((if0 _ _).trans (flt (by decide)).2.2.1) ?_
  refine r_aloadN 11 X d22_10 rfl rfl ?_
  refine r_getfield 14 X (host := "") (Or.inl (hw _ (List.mem_of_getElem? (i := 32) rfl))) Via.refl F_al_elementData d22_11 ?_
  intro T X
  refine r_getstatic 17 X (host := "") (Or.inl (hw _ (List.mem_of_getElem? (i := 31) rfl))) Via.refl S_DEFAULTCAPACITY_EMPTY_ELEMENTDATA d22_14 ?_
  intro T X
  refine r_acmpY 45 X d22_17 (by simp [if_acmp.holds]) ?_
  refine r_aloadN 46 X d22_45 rfl rfl ?_
  refine r_bipush 48 X (10 : Int32) d22_46 rfl ?_
  refine r_iloadN 49 X d22_48 rfl ?_
  refine r_callS 52 X (st := [(.ref al)]) (rmMx l Z a0 hw n0 _ X.sz) (hw _ (List.mem_of_getElem? (i := 161) rfl)) (hw _ (List.mem_of_getElem? (i := 162) rfl)) (hw _ (List.mem_of_getElem? (i := 164) rfl)) (hw _ (List.mem_of_getElem? (i := 163) rfl)) (by decide) pd_2 [(.int (10 : Int32)), (.int (1 : Int32))] rfl rfl 1 (Nat.le_of_eq rfl) rfl (by decide) (by decide) (by decide) (by decide) d22_49 ?_
  rintro T h1 v1 ⟨rfl, rfl⟩ X
  change Run _ _ _ _ _ _ _ _ [(.int (10 : Int32)), (.ref al)]
  refine r_anewarrayO 55 X 10 10 "java/lang/Object" "[Ljava/lang/Object;" (by decide) (hw _ (List.mem_of_getElem? (i := 165) rfl)) (hw _ (List.mem_of_getElem? (i := 166) rfl)) d22_52 (by decide) (by decide) (by decide) (by decide) (by decide) ?_
  intro T h2 od g2 gn_od E2 E_od O_od A_od X
  have sz_od : h.size ≤ od := Nat.le_trans K.1 (Nat.le_of_eq g2.symm)
  have ne_em_od : em ≠ od := Nat.ne_of_lt (Nat.lt_of_lt_of_eq A_em.lt g2.symm)
  have lt_em_od : @LT.lt Nat _ em od := Nat.lt_of_lt_of_eq A_em.lt g2.symm
  have ne_al_od : al ≠ od := Nat.ne_of_lt (Nat.lt_of_lt_of_eq E_al.lt g2.symm)
  have lt_al_od : @LT.lt Nat _ al od := Nat.lt_of_lt_of_eq E_al.lt g2.symm
  have K := K.ext E2
  have E_al := E_al.ext E2
  have F_al_elementData := F_al_elementData.ext E2
  have F_al_size := F_al_size.ext E2
  have A_em := A_em.ext E2
  have S_DEFAULTCAPACITY_EMPTY_ELEMENTDATA := S_DEFAULTCAPACITY_EMPTY_ELEMENTDATA.ext E2
  refine r_dup_x1 56 X d22_55 rfl rfl ?_
  refine r_putfield 59 X (host := "") (Or.inl (hw _ (List.mem_of_getElem? (i := 32) rfl))) Via.refl F_al_elementData E_al (Or.inl (hw _ (List.mem_of_getElem? (i := 33) rfl))) (hw _ (List.mem_of_getElem? (i := 11) rfl)) (ty := (.array (.object "java/lang/Object"))) (by decide) rfl rfl g_al d22_56 ?_
  intro T h3 W3 X
  have K := K.wr W3 (Or.inl (List.mem_of_getElem? (i := 0) rfl))
  have E_al := E_al.wr W3
  have F_al_elementData := F_al_elementData.same W3
  have F_al_size := F_al_size.other W3 (Or.inr (slot_ne (Or.inl (hw _ (List.mem_of_getElem? (i := 134) rfl))) (Or.inl (hw _ (List.mem_of_getElem? (i := 33) rfl))) (by decide) (t := .int) (t' := (.array (.object "java/lang/Object"))) (by decide) (by decide)))
  have A_em := A_em.other W3 ne_em_al
  have S_DEFAULTCAPACITY_EMPTY_ELEMENTDATA := S_DEFAULTCAPACITY_EMPTY_ELEMENTDATA.wr W3
  have A_od := A_od.other W3 (Ne.symm ne_al_od)
  have E_od := E_od.wr W3
  refine r_retA X d22_59 rfl rfl rfl (by decide) (by decide) ?_
  exact ⟨od, rfl, K, sz_od, gn_od, E_od, O_od, F_al_elementData, F_al_size, A_od⟩
theorem d21_0 : decode jdk_38_method_7_code 0 = .ok (.aload_n 0, 1) := by decide +kernel
theorem d21_1 : decode jdk_38_method_7_code 1 = .ok (.aload_n 0, 1) := by decide +kernel
theorem d21_2 : decode jdk_38_method_7_code 2 = .ok (.getfield 48, 3) := by decide +kernel
theorem d21_5 : decode jdk_38_method_7_code 5 = .ok (.iconst 1, 1) := by decide +kernel
theorem d21_6 : decode jdk_38_method_7_code 6 = .ok (.iadd, 1) := by decide +kernel
theorem d21_7 : decode jdk_38_method_7_code 7 = .ok (.invokevirtual 69, 3) := by decide +kernel
theorem d21_10 : decode jdk_38_method_7_code 10 = .ok (.areturn, 1) := by decide +kernel
theorem pn_21 : plainName "java/util/ArrayList" = true := by first | (simp [plainName, overriddenIn]; done) | decide +kernel
theorem ef_21 (m : MethodId) (x0 : Addr) : entryFrame m #[(.ref x0)] 1 = mkF m 0 #[.val (.ref x0)] [] := by first | (simp [entryFrame, mkF, argsToLocals, Value.category]; done) | rfl
set_option maxRecDepth 65536 in
set_option maxHeartbeats 40000000 in
theorem rmG0 (l : Launch) (Z : State) (a0 : Array Value) (hw : ∀ d ∈ tables_1, d.before a0 Z = true) (n0 : Nat) (h : Heap) (Z0 : n0 ≤ h.size) (em al : Nat) (fe : Nat → Value) (lt_em_al : @LT.lt Nat _ em al) (g_al : n0 ≤ al)  (E_al : Exa Z h al "java/util/ArrayList") (F_al_elementData : Fld Z h al "java/util/ArrayList" "elementData" "[Ljava/lang/Object;" (.ref em)) (F_al_size : Fld Z h al "java/util/ArrayList" "size" "I" (.int (0 : Int32))) (A_em : AF Z h em (.object "java/lang/Object") 0 fe) (S_DEFAULTCAPACITY_EMPTY_ELEMENTDATA : Sta Z h "java/util/ArrayList" "DEFAULTCAPACITY_EMPTY_ELEMENTDATA" "[Ljava/lang/Object;" (.ref em)) :
    Met1 l Z n0 [] (⟨"java/util/ArrayList", "grow", "()[Ljava/lang/Object;"⟩ : MethodName) jdk_38_method_7_code 1 (some (.array (.object "java/lang/Object"))) ({ frames := 2, cells := 1, slots := 10, locals := 29 } : Room) #[(.ref al)] h (fun v h' => ∃ od : Nat, v = some (.ref od) ∧ Keep h h' [al] ∧ h.size ≤ od ∧ n0 ≤ od ∧ Exa Z h' od "[Ljava/lang/Object;" ∧ OVo Z "[Ljava/lang/Object;" "java/lang/Object" ∧ Fld Z h' al "java/util/ArrayList" "elementData" "[Ljava/lang/Object;" (.ref od) ∧ Fld Z h' al "java/util/ArrayList" "size" "I" (.int (0 : Int32)) ∧ AF Z h' od (.object "java/lang/Object") 10 (fun _ => .null)) := by
  refine met_of (plainFor_of_name pn_21) Z0 (fun m => ef_21 m al) ?_
  intro p e s m below meth c T hs0 X
  have K := Keep.refl h [al]
  have ne_em_al : @Ne Nat em al := by omega
  refine r_aloadN 1 X d21_0 rfl rfl ?_
  refine r_aloadN 2 X d21_1 rfl rfl ?_
  refine r_getfield 5 X (host := "") (Or.inl (hw _ (List.mem_of_getElem? (i := 133) rfl))) Via.refl F_al_size d21_2 ?_
  intro T X
  refine r_iconst 6 X (1 : Int32) d21_5 rfl ?_
  refine r_iadd 7 X d21_6 ?_
  refine r_topI (x' := (1 : Int32)) (by decide) ?_
  refine r_private 10 X (st := []) (a := al) (rmG1 l Z a0 hw n0 _ X.sz em al fe (by omega) (by omega)   E_al F_al_elementData F_al_size A_em S_DEFAULTCAPACITY_EMPTY_ELEMENTDATA) E_al (hw _ (List.mem_of_getElem? (i := 156) rfl)) (hw _ (List.mem_of_getElem? (i := 157) rfl)) (hw _ (List.mem_of_getElem? (i := 11) rfl)) (hw _ (List.mem_of_getElem? (i := 158) rfl)) (hw _ (List.mem_of_getElem? (i := 160) rfl)) (hw _ (List.mem_of_getElem? (i := 12) rfl)) (by decide) pd_5 [(.int (1 : Int32))] rfl rfl 0 (Nat.le_of_eq rfl) rfl (by decide) (by decide) (by decide) (by decide) d21_7 ?_
  rintro T h1 v1 ⟨od, rfl, K1, zo1, gno1, Eo1, Oo1, B1_F_al_elementData, B1_F_al_size, B1_A_od⟩ X
  have sz_od : h.size ≤ od := Nat.le_trans K.1 zo1
  have lt_al_od : @LT.lt Nat _ al od := Nat.lt_of_lt_of_le E_al.lt zo1
  have lt_em_od : @LT.lt Nat _ em od := Nat.lt_of_lt_of_le A_em.lt zo1
  have ne_al_od : al ≠ od := Nat.ne_of_lt (Nat.lt_of_lt_of_le E_al.lt zo1)
  have ne_em_od : em ≠ od := Nat.ne_of_lt (Nat.lt_of_lt_of_le A_em.lt zo1)
  have K := K.trans K1 (allS (Or.inl (List.mem_of_getElem? (i := 0) rfl)) all0)
  have S_DEFAULTCAPACITY_EMPTY_ELEMENTDATA := own_stakL S_DEFAULTCAPACITY_EMPTY_ELEMENTDATA K1 (staS E_al sta0)
  have E_al := E_al.keep K1
  have A_em := A_em.keep K1 (ninS ne_em_al nin0)
  have F_al_elementData := B1_F_al_elementData
  have F_al_size := B1_F_al_size
  have A_od := B1_A_od
  have E_od := Eo1
  have O_od := Oo1
  change Run _ _ _ _ _ _ _ _ [(.ref od)]
  refine r_retA X d21_10 rfl rfl rfl (by decide) (by decide) ?_
  exact ⟨od, rfl, K, sz_od, gno1, E_od, O_od, F_al_elementData, F_al_size, A_od⟩
theorem d20_0 : decode jdk_38_method_24_code 0 = .ok (.iload_n 3, 1) := by decide +kernel
theorem d20_1 : decode jdk_38_method_24_code 1 = .ok (.aload_n 2, 1) := by decide +kernel
theorem d20_2 : decode jdk_38_method_24_code 2 = .ok (.arraylength, 1) := by decide +kernel
theorem d20_3 : decode jdk_38_method_24_code 3 = .ok (.if_icmp .ne 8, 3) := by decide +kernel
theorem d20_6 : decode jdk_38_method_24_code 6 = .ok (.aload_n 0, 1) := by decide +kernel
theorem d20_7 : decode jdk_38_method_24_code 7 = .ok (.invokevirtual 129, 3) := by decide +kernel
theorem d20_10 : decode jdk_38_method_24_code 10 = .ok (.astore_n 2, 1) := by decide +kernel
theorem d20_11 : decode jdk_38_method_24_code 11 = .ok (.aload_n 2, 1) := by decide +kernel
theorem d20_12 : decode jdk_38_method_24_code 12 = .ok (.iload_n 3, 1) := by decide +kernel
theorem d20_13 : decode jdk_38_method_24_code 13 = .ok (.aload_n 1, 1) := by decide +kernel
theorem d20_14 : decode jdk_38_method_24_code 14 = .ok (.aastore, 1) := by decide +kernel
theorem d20_15 : decode jdk_38_method_24_code 15 = .ok (.aload_n 0, 1) := by decide +kernel
theorem d20_16 : decode jdk_38_method_24_code 16 = .ok (.iload_n 3, 1) := by decide +kernel
theorem d20_17 : decode jdk_38_method_24_code 17 = .ok (.iconst 1, 1) := by decide +kernel
theorem d20_18 : decode jdk_38_method_24_code 18 = .ok (.iadd, 1) := by decide +kernel
theorem d20_19 : decode jdk_38_method_24_code 19 = .ok (.putfield 48, 3) := by decide +kernel
theorem d20_22 : decode jdk_38_method_24_code 22 = .ok (.return_, 1) := by decide +kernel
theorem pn_20 : plainName "java/util/ArrayList" = true := by first | (simp [plainName, overriddenIn]; done) | decide +kernel
theorem ef_20 (m : MethodId) (x0 : Addr) (x1 : Addr) (x2 : Addr) (x3 : Int32) : entryFrame m #[(.ref x0), (.ref x1), (.ref x2), (.int x3)] 4 = mkF m 0 #[.val (.ref x0), .val (.ref x1), .val (.ref x2), .val (.int x3)] [] := by first | (simp [entryFrame, mkF, argsToLocals, Value.category]; done) | rfl
set_option maxRecDepth 65536 in
set_option maxHeartbeats 40000000 in
theorem rmA3 (l : Launch) (Z : State) (a0 : Array Value) (hw : ∀ d ∈ tables_1, d.before a0 Z = true) (n0 : Nat) (h : Heap) (Z0 : n0 ≤ h.size) (em al blk : Nat) (fe : Nat → Value) (lt_em_al : @LT.lt Nat _ em al) (lt_al_blk : @LT.lt Nat _ al blk) (g_al : n0 ≤ al)  (E_al : Exa Z h al "java/util/ArrayList") (F_al_elementData : Fld Z h al "java/util/ArrayList" "elementData" "[Ljava/lang/Object;" (.ref em)) (F_al_size : Fld Z h al "java/util/ArrayList" "size" "I" (.int (0 : Int32))) (A_em : AF Z h em (.object "java/lang/Object") 0 fe) (S_DEFAULTCAPACITY_EMPTY_ELEMENTDATA : Sta Z h "java/util/ArrayList" "DEFAULTCAPACITY_EMPTY_ELEMENTDATA" "[Ljava/lang/Object;" (.ref em)) (E_blk : Exa Z h blk "[B") :
    Met1 l Z n0 [] (⟨"java/util/ArrayList", "add", "(Ljava/lang/Object;[Ljava/lang/Object;I)V"⟩ : MethodName) jdk_38_method_24_code 4 none ({ frames := 3, cells := 1, slots := 10, locals := 41 } : Room) #[(.ref al), (.ref blk), (.ref em), (.int (0 : Int32))] h (fun v h' => ∃ od : Nat, v = none ∧ Keep h h' [al] ∧ h.size ≤ od ∧ n0 ≤ od ∧ Exa Z h' od "[Ljava/lang/Object;" ∧ Fld Z h' al "java/util/ArrayList" "elementData" "[Ljava/lang/Object;" (.ref od) ∧ Fld Z h' al "java/util/ArrayList" "size" "I" (.int (1 : Int32)) ∧ AF Z h' od (.object "java/lang/Object") 10 (upd (fun _ => .null) 0 (.ref blk))) := by
  refine met_of (plainFor_of_name pn_20) Z0 (fun m => ef_20 m al blk em (0 : Int32)) ?_
  intro p e s m below meth c T hs0 X
  have K := Keep.refl h [al]
  have ne_em_al : @Ne Nat em al := by omega
  have ne_em_blk : @Ne Nat em blk := by omega
  have ne_al_blk : @Ne Nat al blk := by omega
  have g_blk : @LE.le Nat _ n0 blk := by omega
  refine r_iloadN 1 X d20_0 rfl ?_
  refine r_aloadN 2 X d20_1 rfl rfl ?_
  refine r_arraylength 3 X A_em (0 : Int32) (by decide) d20_2 ?_
  refine r_icmpN 6 X d20_3 (teq (by decide)).2 ?_
  refine r_aloadN 7 X d20_6 rfl rfl ?_
  refine r_private 10 X (st := []) (a := al) (rmG0 l Z a0 hw n0 _ X.sz em al fe (by omega) (by omega)   E_al F_al_elementData F_al_size A_em S_DEFAULTCAPACITY_EMPTY_ELEMENTDATA) E_al (hw _ (List.mem_of_getElem? (i := 151) rfl)) (hw _ (List.mem_of_getElem? (i := 152) rfl)) (hw _ (List.mem_of_getElem? (i := 11) rfl)) (hw _ (List.mem_of_getElem? (i := 153) rfl)) (hw _ (List.mem_of_getElem? (i := 155) rfl)) (hw _ (List.mem_of_getElem? (i := 12) rfl)) (by decide) pd_6 [] rfl rfl 0 (Nat.le_of_eq rfl) rfl (by decide) (by decide) (by decide) (by decide) d20_7 ?_
  rintro T h1 v1 ⟨od, rfl, K1, zo1, gno1, Eo1, Oo1, B1_F_al_elementData, B1_F_al_size, B1_A_od⟩ X
  have sz_od : h.size ≤ od := Nat.le_trans K.1 zo1
  have lt_al_od : @LT.lt Nat _ al od := Nat.lt_of_lt_of_le E_al.lt zo1
  have lt_blk_od : @LT.lt Nat _ blk od := Nat.lt_of_lt_of_le E_blk.lt zo1
  have lt_em_od : @LT.lt Nat _ em od := Nat.lt_of_lt_of_le A_em.lt zo1
  have ne_al_od : al ≠ od := Nat.ne_of_lt (Nat.lt_of_lt_of_le E_al.lt zo1)
  have ne_blk_od : blk ≠ od := Nat.ne_of_lt (Nat.lt_of_lt_of_le E_blk.lt zo1)
  have ne_em_od : em ≠ od := Nat.ne_of_lt (Nat.lt_of_lt_of_le A_em.lt zo1)
  have K := K.trans K1 (allS (Or.inl (List.mem_of_getElem? (i := 0) rfl)) all0)
  have S_DEFAULTCAPACITY_EMPTY_ELEMENTDATA := own_stakL S_DEFAULTCAPACITY_EMPTY_ELEMENTDATA K1 (staS E_al sta0)
  have E_al := E_al.keep K1
  have A_em := A_em.keep K1 (ninS ne_em_al nin0)
  have E_blk := E_blk.keep K1
  have F_al_elementData := B1_F_al_elementData
  have F_al_size := B1_F_al_size
  have A_od := B1_A_od
  have E_od := Eo1
  have O_od := Oo1
  change Run _ _ _ _ _ _ _ _ [(.ref od)]
  refine r_astoreN 11 X #[.val (.ref al), .val (.ref blk), .val (.ref od), .val (.int (0 : Int32))] d20_10 rfl rfl ?_
  refine r_aloadN 12 X d20_11 rfl rfl ?_
  refine r_iloadN 13 X d20_12 rfl ?_
  refine r_aloadN 14 X d20_13 rfl rfl ?_
  refine r_aastoreO 15 X A_od E_od O_od E_blk (hw _ (List.mem_of_getElem? (i := 167) rfl)) (i := 0) (by decide) (by decide) gno1 d20_14 ?_
  intro T h2 W2 X
  have K := K.wr W2 (Or.inr sz_od)
  have E_al := E_al.wr W2
  have A_em := A_em.other W2 ne_em_od
  have S_DEFAULTCAPACITY_EMPTY_ELEMENTDATA := S_DEFAULTCAPACITY_EMPTY_ELEMENTDATA.wr W2
  have E_blk := E_blk.wr W2
  have F_al_elementData := F_al_elementData.other W2 (Or.inl ne_al_od)
  have F_al_size := F_al_size.other W2 (Or.inl ne_al_od)
  have A_od := A_od.set W2
  have E_od := E_od.wr W2
  refine r_aloadN 16 X d20_15 rfl rfl ?_
  refine r_iloadN 17 X d20_16 rfl ?_
  refine r_iconst 18 X (1 : Int32) d20_17 rfl ?_
  refine r_iadd 19 X d20_18 ?_
  refine r_topI (x' := (1 : Int32)) (by decide) ?_
  refine r_putfield 22 X (host := "") (Or.inl (hw _ (List.mem_of_getElem? (i := 133) rfl))) Via.refl F_al_size E_al (Or.inl (hw _ (List.mem_of_getElem? (i := 134) rfl))) (hw _ (List.mem_of_getElem? (i := 11) rfl)) (ty := .int) (by decide) rfl rfl g_al d20_19 ?_
  intro T h3 W3 X
  have K := K.wr W3 (Or.inl (List.mem_of_getElem? (i := 0) rfl))
  have E_al := E_al.wr W3
  have A_em := A_em.other W3 ne_em_al
  have S_DEFAULTCAPACITY_EMPTY_ELEMENTDATA := S_DEFAULTCAPACITY_EMPTY_ELEMENTDATA.wr W3
  have E_blk := E_blk.wr W3
  have F_al_elementData := F_al_elementData.other W3 (Or.inr (slot_ne (Or.inl (hw _ (List.mem_of_getElem? (i := 33) rfl))) (Or.inl (hw _ (List.mem_of_getElem? (i := 134) rfl))) (by decide) (t := (.array (.object "java/lang/Object"))) (t' := .int) (by decide) (by decide)))
  have F_al_size := F_al_size.same W3
  have A_od := A_od.other W3 (Ne.symm ne_al_od)
  have E_od := E_od.wr W3
  refine r_retV X d20_22 (by decide) (by decide) ?_
  exact ⟨od, rfl, K, sz_od, gno1, E_od, F_al_elementData, F_al_size, A_od⟩
theorem d19_0 : decode jdk_38_method_25_code 0 = .ok (.aload_n 0, 1) := by decide +kernel
theorem d19_1 : decode jdk_38_method_25_code 1 = .ok (.dup, 1) := by decide +kernel
theorem d19_2 : decode jdk_38_method_25_code 2 = .ok (.getfield 63, 3) := by decide +kernel
theorem d19_5 : decode jdk_38_method_25_code 5 = .ok (.iconst 1, 1) := by decide +kernel
theorem d19_6 : decode jdk_38_method_25_code 6 = .ok (.iadd, 1) := by decide +kernel
theorem d19_7 : decode jdk_38_method_25_code 7 = .ok (.putfield 63, 3) := by decide +kernel
theorem d19_10 : decode jdk_38_method_25_code 10 = .ok (.aload_n 0, 1) := by decide +kernel
theorem d19_11 : decode jdk_38_method_25_code 11 = .ok (.aload_n 1, 1) := by decide +kernel
theorem d19_12 : decode jdk_38_method_25_code 12 = .ok (.aload_n 0, 1) := by decide +kernel
theorem d19_13 : decode jdk_38_method_25_code 13 = .ok (.getfield 9, 3) := by decide +kernel
theorem d19_16 : decode jdk_38_method_25_code 16 = .ok (.aload_n 0, 1) := by decide +kernel
theorem d19_17 : decode jdk_38_method_25_code 17 = .ok (.getfield 48, 3) := by decide +kernel
theorem d19_20 : decode jdk_38_method_25_code 20 = .ok (.invokevirtual 131, 3) := by decide +kernel
theorem d19_23 : decode jdk_38_method_25_code 23 = .ok (.iconst 1, 1) := by decide +kernel
theorem d19_24 : decode jdk_38_method_25_code 24 = .ok (.ireturn, 1) := by decide +kernel
theorem pn_19 : plainName "java/util/ArrayList" = true := by first | (simp [plainName, overriddenIn]; done) | decide +kernel
theorem ef_19 (m : MethodId) (x0 : Addr) (x1 : Addr) : entryFrame m #[(.ref x0), (.ref x1)] 2 = mkF m 0 #[.val (.ref x0), .val (.ref x1)] [] := by first | (simp [entryFrame, mkF, argsToLocals, Value.category]; done) | rfl
set_option maxRecDepth 65536 in
set_option maxHeartbeats 40000000 in
theorem rmA1 (l : Launch) (Z : State) (a0 : Array Value) (hw : ∀ d ∈ tables_1, d.before a0 Z = true) (n0 : Nat) (h : Heap) (Z0 : n0 ≤ h.size) (em al blk : Nat) (fe : Nat → Value) (lt_em_al : @LT.lt Nat _ em al) (lt_al_blk : @LT.lt Nat _ al blk) (g_al : n0 ≤ al)  (E_al : Exa Z h al "java/util/ArrayList") (F_al_elementData : Fld Z h al "java/util/ArrayList" "elementData" "[Ljava/lang/Object;" (.ref em)) (F_al_size : Fld Z h al "java/util/ArrayList" "size" "I" (.int (0 : Int32))) (A_em : AF Z h em (.object "java/lang/Object") 0 fe) (S_DEFAULTCAPACITY_EMPTY_ELEMENTDATA : Sta Z h "java/util/ArrayList" "DEFAULTCAPACITY_EMPTY_ELEMENTDATA" "[Ljava/lang/Object;" (.ref em)) (F_al_modCount : Fld Z h al "java/util/AbstractList" "modCount" "I" (.int (0 : Int32))) (E_blk : Exa Z h blk "[B") :
    Met1 l Z n0 [] (⟨"java/util/ArrayList", "add", "(Ljava/lang/Object;)Z"⟩ : MethodName) jdk_38_method_25_code 2 (some .boolean) ({ frames := 4, cells := 1, slots := 10, locals := 56 } : Room) #[(.ref al), (.ref blk)] h (fun v h' => ∃ od : Nat, v = some (.int 1) ∧ Keep h h' [al] ∧ h.size ≤ od ∧ n0 ≤ od ∧ Exa Z h' od "[Ljava/lang/Object;" ∧ Fld Z h' al "java/util/ArrayList" "elementData" "[Ljava/lang/Object;" (.ref od) ∧ Fld Z h' al "java/util/ArrayList" "size" "I" (.int (1 : Int32)) ∧ AF Z h' od (.object "java/lang/Object") 10 (upd (fun _ => .null) 0 (.ref blk))) := by
  refine met_of (plainFor_of_name pn_19) Z0 (fun m => ef_19 m al blk) ?_
  intro p e s m below meth c T hs0 X
  have K := Keep.refl h [al]
  have ne_em_al : @Ne Nat em al := by omega
  have ne_em_blk : @Ne Nat em blk := by omega
  have ne_al_blk : @Ne Nat al blk := by omega
  have g_blk : @LE.le Nat _ n0 blk := by omega
  refine r_aloadN 1 X d19_0 rfl rfl ?_
  refine r_dup 2 X d19_1 rfl ?_
  refine r_getfield 5 X (host := "") (Or.inl (hw _ (List.mem_of_getElem? (i := 144) rfl))) (Via.of (hw _ (List.mem_of_getElem? (i := 145) rfl))) F_al_modCount d19_2 ?_
  intro T X
  refine r_iconst 6 X (1 : Int32) d19_5 rfl ?_
  refine r_iadd 7 X d19_6 ?_
  refine r_topI (x' := (1 : Int32)) (by decide) ?_
  refine r_putfield 10 X (host := "") (Or.inl (hw _ (List.mem_of_getElem? (i := 144) rfl))) (Via.of (hw _ (List.mem_of_getElem? (i := 145) rfl))) F_al_modCount E_al (Or.inl (hw _ (List.mem_of_getElem? (i := 30) rfl))) (hw _ (List.mem_of_getElem? (i := 11) rfl)) (ty := .int) (by decide) rfl rfl g_al d19_7 ?_
  intro T h1 W1 X
  have K := K.wr W1 (Or.inl (List.mem_of_getElem? (i := 0) rfl))
  have E_al := E_al.wr W1
  have F_al_elementData := F_al_elementData.other W1 (Or.inr (slot_ne (Or.inl (hw _ (List.mem_of_getElem? (i := 33) rfl))) (Or.inl (hw _ (List.mem_of_getElem? (i := 30) rfl))) (by decide) (t := (.array (.object "java/lang/Object"))) (t' := .int) (by decide) (by decide)))
  have F_al_size := F_al_size.other W1 (Or.inr (slot_ne (Or.inl (hw _ (List.mem_of_getElem? (i := 134) rfl))) (Or.inl (hw _ (List.mem_of_getElem? (i := 30) rfl))) (by decide) (t := .int) (t' := .int) (by decide) (by decide)))
  have A_em := A_em.other W1 ne_em_al
  have S_DEFAULTCAPACITY_EMPTY_ELEMENTDATA := S_DEFAULTCAPACITY_EMPTY_ELEMENTDATA.wr W1
  have F_al_modCount := F_al_modCount.same W1
  have E_blk := E_blk.wr W1
  refine r_aloadN 11 X d19_10 rfl rfl ?_
  refine r_aloadN 12 X d19_11 rfl rfl ?_
  refine r_aloadN 13 X d19_12 rfl rfl ?_
  refine r_getfield 16 X (host := "") (Or.inl (hw _ (List.mem_of_getElem? (i := 32) rfl))) Via.refl F_al_elementData d19_13 ?_
  intro T X
  refine r_aloadN 17 X d19_16 rfl rfl ?_
  refine r_getfield 20 X (host := "") (Or.inl (hw _ (List.mem_of_getElem? (i := 133) rfl))) Via.refl F_al_size d19_17 ?_
  intro T X
  refine r_private 23 X (st := []) (a := al) (rmA3 l Z a0 hw n0 _ X.sz em al blk fe (by omega) (by omega) (by omega)   E_al F_al_elementData F_al_size A_em S_DEFAULTCAPACITY_EMPTY_ELEMENTDATA E_blk) E_al (hw _ (List.mem_of_getElem? (i := 146) rfl)) (hw _ (List.mem_of_getElem? (i := 147) rfl)) (hw _ (List.mem_of_getElem? (i := 11) rfl)) (hw _ (List.mem_of_getElem? (i := 148) rfl)) (hw _ (List.mem_of_getElem? (i := 150) rfl)) (hw _ (List.mem_of_getElem? (i := 12) rfl)) (by decide) pd_7 [(.ref blk), (.ref em), (.int (0 : Int32))] rfl rfl 0 (Nat.le_of_eq rfl) rfl (by decide) (by decide) (by decide) (by decide) d19_20 ?_
  rintro T h2 v2 ⟨od, rfl, K2, zo2, gno2, Eo2, B2_F_al_elementData, B2_F_al_size, B2_A_od⟩ X
  have sz_od : h.size ≤ od := Nat.le_trans K.1 zo2
  have lt_al_od : @LT.lt Nat _ al od := Nat.lt_of_lt_of_le E_al.lt zo2
  have lt_blk_od : @LT.lt Nat _ blk od := Nat.lt_of_lt_of_le E_blk.lt zo2
  have lt_em_od : @LT.lt Nat _ em od := Nat.lt_of_lt_of_le A_em.lt zo2
  have ne_al_od : al ≠ od := Nat.ne_of_lt (Nat.lt_of_lt_of_le E_al.lt zo2)
  have ne_blk_od : blk ≠ od := Nat.ne_of_lt (Nat.lt_of_lt_of_le E_blk.lt zo2)
  have ne_em_od : em ≠ od := Nat.ne_of_lt (Nat.lt_of_lt_of_le A_em.lt zo2)
  have K := K.trans K2 (allS (Or.inl (List.mem_of_getElem? (i := 0) rfl)) all0)
  have S_DEFAULTCAPACITY_EMPTY_ELEMENTDATA := own_stakL S_DEFAULTCAPACITY_EMPTY_ELEMENTDATA K2 (staS E_al sta0)
  have E_al := E_al.keep K2
  have A_em := A_em.keep K2 (ninS ne_em_al nin0)
  have E_blk := E_blk.keep K2
  have F_al_elementData := B2_F_al_elementData
  have F_al_size := B2_F_al_size
  have A_od := B2_A_od
  have E_od := Eo2
  change Run _ _ _ _ _ _ _ _ []
  refine r_iconst 24 X (1 : Int32) d19_23 rfl ?_
  refine r_retZ (z := (1 : Int32)) X d19_24 rfl (by decide) (by decide) ?_
  exact ⟨od, rfl, K, sz_od, gno2, E_od, F_al_elementData, F_al_size, A_od⟩
theorem d6_0 : decode prog_20_method_1_code 0 = .ok (.aload_n 0, 1) := by decide +kernel
theorem d6_1 : decode prog_20_method_1_code 1 = .ok (.aload_n 1, 1) := by decide +kernel
theorem d6_2 : decode prog_20_method_1_code 2 = .ok (.putfield 1, 3) := by decide +kernel
theorem d6_5 : decode prog_20_method_1_code 5 = .ok (.aload_n 0, 1) := by decide +kernel
theorem d6_6 : decode prog_20_method_1_code 6 = .ok (.invokespecial 7, 3) := by decide +kernel
theorem d6_9 : decode prog_20_method_1_code 9 = .ok (.return_, 1) := by decide +kernel
theorem pn_6 : plainName "com/example/statera/statera/engine/ReachedStates$States" = true := by first | (simp [plainName, overriddenIn]; done) | decide +kernel
theorem ef_6 (m : MethodId) (x0 : Addr) (x1 : Addr) : entryFrame m #[(.ref x0), (.ref x1)] 2 = mkF m 0 #[.val (.ref x0), .val (.ref x1)] [] := by first | (simp [entryFrame, mkF, argsToLocals, Value.category]; done) | rfl
set_option maxRecDepth 65536 in
set_option maxHeartbeats 40000000 in
theorem rmSt (l : Launch) (Z : State) (a0 : Array Value) (hw : ∀ d ∈ tables_1, d.before a0 Z = true) (n0 : Nat) (h : Heap) (Z0 : n0 ≤ h.size) (rs st : Nat)  (lt_rs_st : @LT.lt Nat _ rs st) (g_rs : n0 ≤ rs)  (E_st : Exa Z h st "com/example/statera/statera/engine/ReachedStates$States") (F_st_this_0 : Fld Z h st "com/example/statera/statera/engine/ReachedStates$States" "this$0" "Lcom/example/statera/statera/engine/ReachedStates;" .null) :
    Met1 l Z n0 [] (⟨"com/example/statera/statera/engine/ReachedStates$States", "<init>", "(Lcom/example/statera/statera/engine/ReachedStates;)V"⟩ : MethodName) prog_20_method_1_code 2 none ({ frames := 1, cells := 0, slots := 0, locals := 12 } : Room) #[(.ref st), (.ref rs)] h (fun v h' => v = none ∧ Keep h h' [st] ∧ Fld Z h' st "com/example/statera/statera/engine/ReachedStates$States" "this$0" "Lcom/example/statera/statera/engine/ReachedStates;" (.ref rs)) := by
  refine met_of (plainFor_of_name pn_6) Z0 (fun m => ef_6 m st rs) ?_
  intro p e s m below meth c T hs0 X
  have K := Keep.refl h [st]
  have ne_rs_st : @Ne Nat rs st := by omega
  have g_st : @LE.le Nat _ n0 st := by omega
  refine r_aloadN 1 X d6_0 rfl rfl ?_
  refine r_aloadN 2 X d6_1 rfl rfl ?_
  refine r_putfield 5 X (host := "") (Or.inl (hw _ (List.mem_of_getElem? (i := 45) rfl))) Via.refl F_st_this_0 E_st (Or.inr ⟨(hw _ (List.mem_of_getElem? (i := 46) rfl)), rfl, rfl⟩) (hw _ (List.mem_of_getElem? (i := 40) rfl)) (ty := (.object "com/example/statera/statera/engine/ReachedStates")) (by decide) rfl rfl g_st d6_2 ?_
  intro T h1 W1 X
  have K := K.wr W1 (Or.inl (List.mem_of_getElem? (i := 0) rfl))
  have E_st := E_st.wr W1
  have F_st_this_0 := F_st_this_0.same W1
  refine r_aloadN 6 X d6_5 rfl rfl ?_
  refine r_initO 9 X (hw _ (List.mem_of_getElem? (i := 47) rfl)) (hw _ (List.mem_of_getElem? (i := 8) rfl)) (hw _ (List.mem_of_getElem? (i := 9) rfl)) d6_6 rfl (by decide) 0 (Nat.le_of_eq rfl) (by decide) ?_
  intro T X
  refine r_retV X d6_9 (by decide) (by decide) ?_
  exact ⟨rfl, K, F_st_this_0⟩
theorem d7_0 : decode prog_10_method_1_code 0 = .ok (.aload_n 0, 1) := by decide +kernel
theorem d7_1 : decode prog_10_method_1_code 1 = .ok (.invokespecial 5, 3) := by decide +kernel
theorem d7_4 : decode prog_10_method_1_code 4 = .ok (.aload_n 0, 1) := by decide +kernel
theorem d7_5 : decode prog_10_method_1_code 5 = .ok (.bipush 16, 2) := by decide +kernel
theorem d7_7 : decode prog_10_method_1_code 7 = .ok (.newarray .long, 2) := by decide +kernel
theorem d7_9 : decode prog_10_method_1_code 9 = .ok (.putfield 11, 3) := by decide +kernel
theorem d7_12 : decode prog_10_method_1_code 12 = .ok (.aload_n 0, 1) := by decide +kernel
theorem d7_13 : decode prog_10_method_1_code 13 = .ok (.ldc2_w 15, 3) := by decide +kernel
theorem d7_16 : decode prog_10_method_1_code 16 = .ok (.invokestatic 17, 3) := by decide +kernel
theorem d7_19 : decode prog_10_method_1_code 19 = .ok (.putfield 21, 3) := by decide +kernel
theorem d7_22 : decode prog_10_method_1_code 22 = .ok (.aload_n 0, 1) := by decide +kernel
theorem d7_23 : decode prog_10_method_1_code 23 = .ok (.aload_n 1, 1) := by decide +kernel
theorem d7_24 : decode prog_10_method_1_code 24 = .ok (.putfield 25, 3) := by decide +kernel
theorem d7_27 : decode prog_10_method_1_code 27 = .ok (.return_, 1) := by decide +kernel
theorem pn_7 : plainName "com/example/statera/statera/engine/IdTable" = true := by first | (simp [plainName, overriddenIn]; done) | decide +kernel
theorem ef_7 (m : MethodId) (x0 : Addr) (x1 : Addr) : entryFrame m #[(.ref x0), (.ref x1)] 2 = mkF m 0 #[.val (.ref x0), .val (.ref x1)] [] := by first | (simp [entryFrame, mkF, argsToLocals, Value.category]; done) | rfl
set_option maxRecDepth 65536 in
set_option maxHeartbeats 40000000 in
theorem rmTb (l : Launch) (Z : State) (a0 : Array Value) (hw : ∀ d ∈ tables_1, d.before a0 Z = true) (n0 : Nat) (h : Heap) (Z0 : n0 ≤ h.size) (tb st : Nat)  (lt_tb_st : @LT.lt Nat _ tb st) (g_tb : n0 ≤ tb)  (E_tb : Exa Z h tb "com/example/statera/statera/engine/IdTable") (F_tb_places : Fld Z h tb "com/example/statera/statera/engine/IdTable" "places" "[J" .null) (F_tb_shift : Fld Z h tb "com/example/statera/statera/engine/IdTable" "shift" "I" (.int (0 : Int32))) (F_tb_items : Fld Z h tb "com/example/statera/statera/engine/IdTable" "items" "Lcom/example/statera/statera/engine/IdTable$Items;" .null) (F_tb_size : Fld Z h tb "com/example/statera/statera/engine/IdTable" "size" "I" (.int (0 : Int32))) :
    Met1 l Z n0 [] (⟨"com/example/statera/statera/engine/IdTable", "<init>", "(Lcom/example/statera/statera/engine/IdTable$Items;)V"⟩ : MethodName) prog_10_method_1_code 2 none ({ frames := 2, cells := 1, slots := 16, locals := 29 } : Room) #[(.ref tb), (.ref st)] h (fun v h' => v = none ∧ Keep h h' [tb] ∧ ∃ pl : Nat, h.size ≤ pl ∧ n0 ≤ pl ∧ Exa Z h' pl "[J" ∧ Fld Z h' tb "com/example/statera/statera/engine/IdTable" "places" "[J" (.ref pl) ∧ Fld Z h' tb "com/example/statera/statera/engine/IdTable" "shift" "I" (.int (60 : Int32)) ∧ Fld Z h' tb "com/example/statera/statera/engine/IdTable" "items" "Lcom/example/statera/statera/engine/IdTable$Items;" (.ref st) ∧ Fld Z h' tb "com/example/statera/statera/engine/IdTable" "size" "I" (.int (0 : Int32)) ∧ AF Z h' pl .long 16 (fun j => .long ((fun _ => (0 : Int64)) j))) := by
  refine met_of (plainFor_of_name pn_7) Z0 (fun m => ef_7 m tb st) ?_
  intro p e s m below meth c T hs0 X
  have K := Keep.refl h [tb]
  have ne_tb_st : @Ne Nat tb st := by omega
  have g_st : @LE.le Nat _ n0 st := by omega
  refine r_aloadN 1 X d7_0 rfl rfl ?_
  refine r_initO 4 X (hw _ (List.mem_of_getElem? (i := 51) rfl)) (hw _ (List.mem_of_getElem? (i := 8) rfl)) (hw _ (List.mem_of_getElem? (i := 9) rfl)) d7_1 rfl (by decide) 0 (Nat.le_of_eq rfl) (by decide) ?_
  intro T X
  refine r_aloadN 5 X d7_4 rfl rfl ?_
  refine r_bipush 7 X (16 : Int32) d7_5 rfl ?_
  refine r_newarrayE 9 X 16 16 "[J" (by decide) (hw _ (List.mem_of_getElem? (i := 52) rfl)) d7_7 (by decide) (by decide) (by decide) (by decide) (by decide) ?_
  intro T h1 pl g1 gn_pl E1 E_pl A_pl X
  have sz_pl : h.size ≤ pl := Nat.le_trans K.1 (Nat.le_of_eq g1.symm)
  have ne_tb_pl : tb ≠ pl := Nat.ne_of_lt (Nat.lt_of_lt_of_eq E_tb.lt g1.symm)
  have lt_tb_pl : @LT.lt Nat _ tb pl := Nat.lt_of_lt_of_eq E_tb.lt g1.symm
  have K := K.ext E1
  have E_tb := E_tb.ext E1
  have F_tb_places := F_tb_places.ext E1
  have F_tb_shift := F_tb_shift.ext E1
  have F_tb_items := F_tb_items.ext E1
  have F_tb_size := F_tb_size.ext E1
  replace A_pl : AF Z h1 pl .long 16 (fun j => .long ((fun _ => (0 : Int64)) j)) := A_pl
  refine r_putfield 12 X (host := "") (Or.inl (hw _ (List.mem_of_getElem? (i := 53) rfl))) Via.refl F_tb_places E_tb (Or.inl (hw _ (List.mem_of_getElem? (i := 54) rfl))) (hw _ (List.mem_of_getElem? (i := 37) rfl)) (ty := (.array .long)) (by decide) rfl rfl g_tb d7_9 ?_
  intro T h2 W2 X
  have K := K.wr W2 (Or.inl (List.mem_of_getElem? (i := 0) rfl))
  have E_tb := E_tb.wr W2
  have F_tb_places := F_tb_places.same W2
  have F_tb_shift := F_tb_shift.other W2 (Or.inr (slot_ne (Or.inl (hw _ (List.mem_of_getElem? (i := 66) rfl))) (Or.inl (hw _ (List.mem_of_getElem? (i := 54) rfl))) (by decide) (t := .int) (t' := (.array .long)) (by decide) (by decide)))
  have F_tb_items := F_tb_items.other W2 (Or.inr (slot_ne (Or.inr (hw _ (List.mem_of_getElem? (i := 68) rfl))) (Or.inl (hw _ (List.mem_of_getElem? (i := 54) rfl))) (by decide) (t := (.object "com/example/statera/statera/engine/IdTable$Items")) (t' := (.array .long)) (by decide) (by decide)))
  have F_tb_size := F_tb_size.other W2 (Or.inr (slot_ne (Or.inl (hw _ (List.mem_of_getElem? (i := 115) rfl))) (Or.inl (hw _ (List.mem_of_getElem? (i := 54) rfl))) (by decide) (t := .int) (t' := (.array .long)) (by decide) (by decide)))
  have A_pl := A_pl.other W2 (Ne.symm ne_tb_pl)
  have E_pl := E_pl.wr W2
  refine r_aloadN 13 X d7_12 rfl rfl ?_
  refine r_ldc2Long 16 X (hw _ (List.mem_of_getElem? (i := 55) rfl)) d7_13 ?_
  refine r_callS 19 X (st := [(.ref tb)]) (rmNl l Z a0 hw n0 _ X.sz) (hw _ (List.mem_of_getElem? (i := 56) rfl)) (hw _ (List.mem_of_getElem? (i := 57) rfl)) (hw _ (List.mem_of_getElem? (i := 59) rfl)) (hw _ (List.mem_of_getElem? (i := 58) rfl)) (by decide) pd_8 [(.long (15 : Int64))] rfl rfl 1 (Nat.le_of_eq rfl) rfl (by decide) (by decide) (by decide) (by decide) d7_16 ?_
  rintro T h3 v3 ⟨rfl, rfl⟩ X
  change Run _ _ _ _ _ _ _ _ [(.int (60 : Int32)), (.ref tb)]
  refine r_putfield 22 X (host := "") (Or.inl (hw _ (List.mem_of_getElem? (i := 65) rfl))) Via.refl F_tb_shift E_tb (Or.inl (hw _ (List.mem_of_getElem? (i := 66) rfl))) (hw _ (List.mem_of_getElem? (i := 37) rfl)) (ty := .int) (by decide) rfl rfl g_tb d7_19 ?_
  intro T h4 W4 X
  have K := K.wr W4 (Or.inl (List.mem_of_getElem? (i := 0) rfl))
  have E_tb := E_tb.wr W4
  have F_tb_places := F_tb_places.other W4 (Or.inr (slot_ne (Or.inl (hw _ (List.mem_of_getElem? (i := 54) rfl))) (Or.inl (hw _ (List.mem_of_getElem? (i := 66) rfl))) (by decide) (t := (.array .long)) (t' := .int) (by decide) (by decide)))
  have F_tb_shift := F_tb_shift.same W4
  have F_tb_items := F_tb_items.other W4 (Or.inr (slot_ne (Or.inr (hw _ (List.mem_of_getElem? (i := 68) rfl))) (Or.inl (hw _ (List.mem_of_getElem? (i := 66) rfl))) (by decide) (t := (.object "com/example/statera/statera/engine/IdTable$Items")) (t' := .int) (by decide) (by decide)))
  have F_tb_size := F_tb_size.other W4 (Or.inr (slot_ne (Or.inl (hw _ (List.mem_of_getElem? (i := 115) rfl))) (Or.inl (hw _ (List.mem_of_getElem? (i := 66) rfl))) (by decide) (t := .int) (t' := .int) (by decide) (by decide)))
  have A_pl := A_pl.other W4 (Ne.symm ne_tb_pl)
  have E_pl := E_pl.wr W4
  refine r_aloadN 23 X d7_22 rfl rfl ?_
  refine r_aloadN 24 X d7_23 rfl rfl ?_
  refine r_putfield 27 X (host := "") (Or.inl (hw _ (List.mem_of_getElem? (i := 67) rfl))) Via.refl F_tb_items E_tb (Or.inr ⟨(hw _ (List.mem_of_getElem? (i := 68) rfl)), rfl, rfl⟩) (hw _ (List.mem_of_getElem? (i := 37) rfl)) (ty := (.object "com/example/statera/statera/engine/IdTable$Items")) (by decide) rfl rfl g_tb d7_24 ?_
  intro T h5 W5 X
  have K := K.wr W5 (Or.inl (List.mem_of_getElem? (i := 0) rfl))
  have E_tb := E_tb.wr W5
  have F_tb_places := F_tb_places.other W5 (Or.inr (slot_ne (Or.inl (hw _ (List.mem_of_getElem? (i := 54) rfl))) (Or.inr (hw _ (List.mem_of_getElem? (i := 68) rfl))) (by decide) (t := (.array .long)) (t' := (.object "com/example/statera/statera/engine/IdTable$Items")) (by decide) (by decide)))
  have F_tb_shift := F_tb_shift.other W5 (Or.inr (slot_ne (Or.inl (hw _ (List.mem_of_getElem? (i := 66) rfl))) (Or.inr (hw _ (List.mem_of_getElem? (i := 68) rfl))) (by decide) (t := .int) (t' := (.object "com/example/statera/statera/engine/IdTable$Items")) (by decide) (by decide)))
  have F_tb_items := F_tb_items.same W5
  have F_tb_size := F_tb_size.other W5 (Or.inr (slot_ne (Or.inl (hw _ (List.mem_of_getElem? (i := 115) rfl))) (Or.inr (hw _ (List.mem_of_getElem? (i := 68) rfl))) (by decide) (t := .int) (t' := (.object "com/example/statera/statera/engine/IdTable$Items")) (by decide) (by decide)))
  have A_pl := A_pl.other W5 (Ne.symm ne_tb_pl)
  have E_pl := E_pl.wr W5
  refine r_retV X d7_27 (by decide) (by decide) ?_
  exact ⟨rfl, K, pl, sz_pl, gn_pl, E_pl, F_tb_places, F_tb_shift, F_tb_items, F_tb_size, A_pl⟩
theorem d1_0 : decode prog_19_method_1_code 0 = .ok (.aload_n 0, 1) := by decide +kernel
theorem d1_1 : decode prog_19_method_1_code 1 = .ok (.invokespecial 1, 3) := by decide +kernel
theorem d1_4 : decode prog_19_method_1_code 4 = .ok (.aload_n 0, 1) := by decide +kernel
theorem d1_5 : decode prog_19_method_1_code 5 = .ok (.new 7, 3) := by decide +kernel
theorem d1_8 : decode prog_19_method_1_code 8 = .ok (.dup, 1) := by decide +kernel
theorem d1_9 : decode prog_19_method_1_code 9 = .ok (.invokespecial 9, 3) := by decide +kernel
theorem d1_12 : decode prog_19_method_1_code 12 = .ok (.putfield 10, 3) := by decide +kernel
theorem d1_15 : decode prog_19_method_1_code 15 = .ok (.aload_n 0, 1) := by decide +kernel
theorem d1_16 : decode prog_19_method_1_code 16 = .ok (.new 16, 3) := by decide +kernel
theorem d1_19 : decode prog_19_method_1_code 19 = .ok (.dup, 1) := by decide +kernel
theorem d1_20 : decode prog_19_method_1_code 20 = .ok (.new 18, 3) := by decide +kernel
theorem d1_23 : decode prog_19_method_1_code 23 = .ok (.dup, 1) := by decide +kernel
theorem d1_24 : decode prog_19_method_1_code 24 = .ok (.aload_n 0, 1) := by decide +kernel
theorem d1_25 : decode prog_19_method_1_code 25 = .ok (.invokespecial 20, 3) := by decide +kernel
theorem d1_28 : decode prog_19_method_1_code 28 = .ok (.invokespecial 23, 3) := by decide +kernel
theorem d1_31 : decode prog_19_method_1_code 31 = .ok (.putfield 26, 3) := by decide +kernel
theorem d1_34 : decode prog_19_method_1_code 34 = .ok (.aload_n 0, 1) := by decide +kernel
theorem d1_35 : decode prog_19_method_1_code 35 = .ok (.iload_n 1, 1) := by decide +kernel
theorem d1_36 : decode prog_19_method_1_code 36 = .ok (.putfield 30, 3) := by decide +kernel
theorem d1_39 : decode prog_19_method_1_code 39 = .ok (.aload_n 0, 1) := by decide +kernel
theorem d1_40 : decode prog_19_method_1_code 40 = .ok (.iconst 5, 1) := by decide +kernel
theorem d1_41 : decode prog_19_method_1_code 41 = .ok (.iload_n 1, 1) := by decide +kernel
theorem d1_42 : decode prog_19_method_1_code 42 = .ok (.imul, 1) := by decide +kernel
theorem d1_43 : decode prog_19_method_1_code 43 = .ok (.newarray .byte, 2) := by decide +kernel
theorem d1_45 : decode prog_19_method_1_code 45 = .ok (.putfield 34, 3) := by decide +kernel
theorem d1_48 : decode prog_19_method_1_code 48 = .ok (.aload_n 0, 1) := by decide +kernel
theorem d1_49 : decode prog_19_method_1_code 49 = .ok (.iload_n 1, 1) := by decide +kernel
theorem d1_50 : decode prog_19_method_1_code 50 = .ok (.newarray .int, 2) := by decide +kernel
theorem d1_52 : decode prog_19_method_1_code 52 = .ok (.putfield 38, 3) := by decide +kernel
theorem d1_55 : decode prog_19_method_1_code 55 = .ok (.return_, 1) := by decide +kernel
theorem pn_1 : plainName "com/example/statera/statera/engine/ReachedStates" = true := by first | (simp [plainName, overriddenIn]; done) | decide +kernel
theorem ef_1 (m : MethodId) (x0 : Addr) (x1 : Int32) : entryFrame m #[(.ref x0), (.int x1)] 2 = mkF m 0 #[.val (.ref x0), .val (.int x1)] [] := by first | (simp [entryFrame, mkF, argsToLocals, Value.category]; done) | rfl
set_option maxRecDepth 65536 in
set_option maxHeartbeats 40000000 in
theorem rmRs (l : Launch) (Z : State) (a0 : Array Value) (hw : ∀ d ∈ tables_1, d.before a0 Z = true) (n0 : Nat) (h : Heap) (Z0 : n0 ≤ h.size) (em rs : Nat) (fe : Nat → Value) (lt_em_rs : @LT.lt Nat _ em rs) (g_rs : n0 ≤ rs)  (E_rs : Exa Z h rs "com/example/statera/statera/engine/ReachedStates") (F_rs_blocks : Fld Z h rs "com/example/statera/statera/engine/ReachedStates" "blocks" "Ljava/util/List;" .null) (F_rs_table : Fld Z h rs "com/example/statera/statera/engine/ReachedStates" "table" "Lcom/example/statera/statera/engine/IdTable;" .null) (F_rs_width : Fld Z h rs "com/example/statera/statera/engine/ReachedStates" "width" "I" (.int (0 : Int32))) (F_rs_adding : Fld Z h rs "com/example/statera/statera/engine/ReachedStates" "adding" "[B" .null) (F_rs_end : Fld Z h rs "com/example/statera/statera/engine/ReachedStates" "end" "J" (.long (0 : Int64))) (F_rs_explored : Fld Z h rs "com/example/statera/statera/engine/ReachedStates" "explored" "J" (.long (0 : Int64))) (F_rs_addingLength : Fld Z h rs "com/example/statera/statera/engine/ReachedStates" "addingLength" "I" (.int (0 : Int32))) (F_rs_size : Fld Z h rs "com/example/statera/statera/engine/ReachedStates" "size" "I" (.int (0 : Int32))) (F_rs_rehashing : Fld Z h rs "com/example/statera/statera/engine/ReachedStates" "rehashing" "[I" .null) (A_em : AF Z h em (.object "java/lang/Object") 0 fe) (S_DEFAULTCAPACITY_EMPTY_ELEMENTDATA : Sta Z h "java/util/ArrayList" "DEFAULTCAPACITY_EMPTY_ELEMENTDATA" "[Ljava/lang/Object;" (.ref em)) :
    Met1 l Z n0 [] (⟨"com/example/statera/statera/engine/ReachedStates", "<init>", "(I)V"⟩ : MethodName) prog_19_method_1_code 2 none ({ frames := 4, cells := 6, slots := 30, locals := 50 } : Room) #[(.ref rs), (.int (1 : Int32))] h (fun v h' => v = none ∧ Keep h h' [rs] ∧ ∃ al tb st pl ad : Nat, (rs < al ∧ al < tb ∧ tb < st ∧ st < pl ∧ pl < ad) ∧ Exa Z h' al "java/util/ArrayList" ∧ Exa Z h' tb "com/example/statera/statera/engine/IdTable" ∧ Exa Z h' st "com/example/statera/statera/engine/ReachedStates$States" ∧ Exa Z h' pl "[J" ∧ Exa Z h' ad "[B" ∧ Fld Z h' rs "com/example/statera/statera/engine/ReachedStates" "blocks" "Ljava/util/List;" (.ref al) ∧ Fld Z h' rs "com/example/statera/statera/engine/ReachedStates" "table" "Lcom/example/statera/statera/engine/IdTable;" (.ref tb) ∧ Fld Z h' rs "com/example/statera/statera/engine/ReachedStates" "width" "I" (.int (1 : Int32)) ∧ Fld Z h' rs "com/example/statera/statera/engine/ReachedStates" "adding" "[B" (.ref ad) ∧ Fld Z h' rs "com/example/statera/statera/engine/ReachedStates" "end" "J" (.long (0 : Int64)) ∧ Fld Z h' rs "com/example/statera/statera/engine/ReachedStates" "explored" "J" (.long (0 : Int64)) ∧ Fld Z h' rs "com/example/statera/statera/engine/ReachedStates" "addingLength" "I" (.int (0 : Int32)) ∧ Fld Z h' rs "com/example/statera/statera/engine/ReachedStates" "size" "I" (.int (0 : Int32)) ∧ Fld Z h' al "java/util/AbstractList" "modCount" "I" (.int (0 : Int32)) ∧ Fld Z h' al "java/util/ArrayList" "elementData" "[Ljava/lang/Object;" (.ref em) ∧ Fld Z h' al "java/util/ArrayList" "size" "I" (.int (0 : Int32)) ∧ Fld Z h' tb "com/example/statera/statera/engine/IdTable" "places" "[J" (.ref pl) ∧ Fld Z h' tb "com/example/statera/statera/engine/IdTable" "shift" "I" (.int (60 : Int32)) ∧ Fld Z h' tb "com/example/statera/statera/engine/IdTable" "items" "Lcom/example/statera/statera/engine/IdTable$Items;" (.ref st) ∧ Fld Z h' tb "com/example/statera/statera/engine/IdTable" "size" "I" (.int (0 : Int32)) ∧ Fld Z h' st "com/example/statera/statera/engine/ReachedStates$States" "this$0" "Lcom/example/statera/statera/engine/ReachedStates;" (.ref rs) ∧ AF Z h' pl .long 16 (fun j => .long ((fun _ => (0 : Int64)) j)) ∧ AF Z h' ad .byte 5 (fun j => .int ((fun _ => (0 : Int32)) j))) := by
  refine met_of (plainFor_of_name pn_1) Z0 (fun m => ef_1 m rs (1 : Int32)) ?_
  intro p e s m below meth c T hs0 X
  have K := Keep.refl h [rs]
  have ne_em_rs : @Ne Nat em rs := by omega
  refine r_aloadN 1 X d1_0 rfl rfl ?_
  refine r_initO 4 X (hw _ (List.mem_of_getElem? (i := 7) rfl)) (hw _ (List.mem_of_getElem? (i := 8) rfl)) (hw _ (List.mem_of_getElem? (i := 9) rfl)) d1_1 rfl (by decide) 0 (Nat.le_of_eq rfl) (by decide) ?_
  intro T X
  refine r_aloadN 5 X d1_4 rfl rfl ?_
  refine r_new 8 X (hw _ (List.mem_of_getElem? (i := 10) rfl)) (hw _ (List.mem_of_getElem? (i := 11) rfl)) (hw _ (List.mem_of_getElem? (i := 12) rfl)) d1_5 (by decide) (by decide) ?_
  intro T h1 al g1 gn_al E1 A1 D1 X
  have sz_al : h.size ≤ al := Nat.le_trans K.1 (Nat.le_of_eq g1.symm)
  have ne_em_al : em ≠ al := Nat.ne_of_lt (Nat.lt_of_lt_of_eq A_em.lt g1.symm)
  have lt_em_al : @LT.lt Nat _ em al := Nat.lt_of_lt_of_eq A_em.lt g1.symm
  have ne_rs_al : rs ≠ al := Nat.ne_of_lt (Nat.lt_of_lt_of_eq E_rs.lt g1.symm)
  have lt_rs_al : @LT.lt Nat _ rs al := Nat.lt_of_lt_of_eq E_rs.lt g1.symm
  have K := K.ext E1
  have E_rs := E_rs.ext E1
  have F_rs_blocks := F_rs_blocks.ext E1
  have F_rs_table := F_rs_table.ext E1
  have F_rs_width := F_rs_width.ext E1
  have F_rs_adding := F_rs_adding.ext E1
  have F_rs_end := F_rs_end.ext E1
  have F_rs_explored := F_rs_explored.ext E1
  have F_rs_addingLength := F_rs_addingLength.ext E1
  have F_rs_size := F_rs_size.ext E1
  have F_rs_rehashing := F_rs_rehashing.ext E1
  have A_em := A_em.ext E1
  have S_DEFAULTCAPACITY_EMPTY_ELEMENTDATA := S_DEFAULTCAPACITY_EMPTY_ELEMENTDATA.ext E1
  have E_al := A1
  have F_al_modCount : Fld Z h1 al "java/util/AbstractList" "modCount" "I" (.int (0 : Int32)) := D1 (Or.inl (hw _ (List.mem_of_getElem? (i := 30) rfl))) (ty := .int) (by decide)
  have F_al_elementData : Fld Z h1 al "java/util/ArrayList" "elementData" "[Ljava/lang/Object;" .null := D1 (Or.inl (hw _ (List.mem_of_getElem? (i := 33) rfl))) (ty := (.array (.object "java/lang/Object"))) (by decide)
  have F_al_size : Fld Z h1 al "java/util/ArrayList" "size" "I" (.int (0 : Int32)) := D1 (Or.inl (hw _ (List.mem_of_getElem? (i := 134) rfl))) (ty := .int) (by decide)
  refine r_dup 9 X d1_8 rfl ?_
  refine r_special 12 X (st := [(.ref al), (.ref rs)]) (a := al) (rmAi l Z a0 hw n0 _ X.sz em al  (by omega) (by omega)   E_al F_al_modCount F_al_elementData F_al_size S_DEFAULTCAPACITY_EMPTY_ELEMENTDATA) rfl rfl (hw _ (List.mem_of_getElem? (i := 13) rfl)) (hw _ (List.mem_of_getElem? (i := 14) rfl)) (hw _ (List.mem_of_getElem? (i := 15) rfl)) (hw _ (List.mem_of_getElem? (i := 12) rfl)) (by decide) pd_4 [] rfl rfl 2 (Nat.le_of_eq rfl) rfl (by decide) (by decide) (by decide) (by decide) d1_9 ?_
  rintro T h2 v2 ⟨rfl, K2, B2_F_al_modCount, B2_F_al_elementData, B2_F_al_size⟩ X
  have K := K.trans K2 (allS (Or.inr sz_al) all0)
  have S_DEFAULTCAPACITY_EMPTY_ELEMENTDATA := own_stakL S_DEFAULTCAPACITY_EMPTY_ELEMENTDATA K2 (staS E_al sta0)
  have E_rs := E_rs.keep K2
  have F_rs_blocks := F_rs_blocks.keep K2 (ninS ne_rs_al nin0)
  have F_rs_table := F_rs_table.keep K2 (ninS ne_rs_al nin0)
  have F_rs_width := F_rs_width.keep K2 (ninS ne_rs_al nin0)
  have F_rs_adding := F_rs_adding.keep K2 (ninS ne_rs_al nin0)
  have F_rs_end := F_rs_end.keep K2 (ninS ne_rs_al nin0)
  have F_rs_explored := F_rs_explored.keep K2 (ninS ne_rs_al nin0)
  have F_rs_addingLength := F_rs_addingLength.keep K2 (ninS ne_rs_al nin0)
  have F_rs_size := F_rs_size.keep K2 (ninS ne_rs_al nin0)
  have F_rs_rehashing := F_rs_rehashing.keep K2 (ninS ne_rs_al nin0)
  have A_em := A_em.keep K2 (ninS ne_em_al nin0)
  have E_al := E_al.keep K2
  have F_al_modCount := B2_F_al_modCount
  have F_al_elementData := B2_F_al_elementData
  have F_al_size := B2_F_al_size
  change Run _ _ _ _ _ _ _ _ [(.ref al), (.ref rs)]
  refine r_putfield 15 X (host := "") (Or.inl (hw _ (List.mem_of_getElem? (i := 34) rfl))) Via.refl F_rs_blocks E_rs (Or.inr ⟨(hw _ (List.mem_of_getElem? (i := 35) rfl)), rfl, rfl⟩) (hw _ (List.mem_of_getElem? (i := 2) rfl)) (ty := (.object "java/util/List")) (by decide) rfl rfl g_rs d1_12 ?_
  intro T h3 W3 X
  have K := K.wr W3 (Or.inl (List.mem_of_getElem? (i := 0) rfl))
  have E_rs := E_rs.wr W3
  have F_rs_blocks := F_rs_blocks.same W3
  have F_rs_table := F_rs_table.other W3 (Or.inr (slot_ne (Or.inr (hw _ (List.mem_of_getElem? (i := 70) rfl))) (Or.inr (hw _ (List.mem_of_getElem? (i := 35) rfl))) (by decide) (t := (.object "com/example/statera/statera/engine/IdTable")) (t' := (.object "java/util/List")) (by decide) (by decide)))
  have F_rs_width := F_rs_width.other W3 (Or.inr (slot_ne (Or.inr (hw _ (List.mem_of_getElem? (i := 72) rfl))) (Or.inr (hw _ (List.mem_of_getElem? (i := 35) rfl))) (by decide) (t := .int) (t' := (.object "java/util/List")) (by decide) (by decide)))
  have F_rs_adding := F_rs_adding.other W3 (Or.inr (slot_ne (Or.inr (hw _ (List.mem_of_getElem? (i := 75) rfl))) (Or.inr (hw _ (List.mem_of_getElem? (i := 35) rfl))) (by decide) (t := (.array .byte)) (t' := (.object "java/util/List")) (by decide) (by decide)))
  have F_rs_end := F_rs_end.other W3 (Or.inr (slot_ne (Or.inl (hw _ (List.mem_of_getElem? (i := 86) rfl))) (Or.inr (hw _ (List.mem_of_getElem? (i := 35) rfl))) (by decide) (t := .long) (t' := (.object "java/util/List")) (by decide) (by decide)))
  have F_rs_explored := F_rs_explored.other W3 (Or.inr (slot_ne (Or.inl (hw _ (List.mem_of_getElem? (i := 84) rfl))) (Or.inr (hw _ (List.mem_of_getElem? (i := 35) rfl))) (by decide) (t := .long) (t' := (.object "java/util/List")) (by decide) (by decide)))
  have F_rs_addingLength := F_rs_addingLength.other W3 (Or.inr (slot_ne (Or.inl (hw _ (List.mem_of_getElem? (i := 97) rfl))) (Or.inr (hw _ (List.mem_of_getElem? (i := 35) rfl))) (by decide) (t := .int) (t' := (.object "java/util/List")) (by decide) (by decide)))
  have F_rs_size := F_rs_size.other W3 (Or.inr (slot_ne (Or.inl (hw _ (List.mem_of_getElem? (i := 200) rfl))) (Or.inr (hw _ (List.mem_of_getElem? (i := 35) rfl))) (by decide) (t := .int) (t' := (.object "java/util/List")) (by decide) (by decide)))
  have F_rs_rehashing := F_rs_rehashing.other W3 (Or.inr (slot_ne (Or.inr (hw _ (List.mem_of_getElem? (i := 77) rfl))) (Or.inr (hw _ (List.mem_of_getElem? (i := 35) rfl))) (by decide) (t := (.array .int)) (t' := (.object "java/util/List")) (by decide) (by decide)))
  have A_em := A_em.other W3 ne_em_rs
  have S_DEFAULTCAPACITY_EMPTY_ELEMENTDATA := S_DEFAULTCAPACITY_EMPTY_ELEMENTDATA.wr W3
  have E_al := E_al.wr W3
  have F_al_modCount := F_al_modCount.other W3 (Or.inl (Ne.symm ne_rs_al))
  have F_al_elementData := F_al_elementData.other W3 (Or.inl (Ne.symm ne_rs_al))
  have F_al_size := F_al_size.other W3 (Or.inl (Ne.symm ne_rs_al))
  refine r_aloadN 16 X d1_15 rfl rfl ?_
  refine r_new 19 X (hw _ (List.mem_of_getElem? (i := 36) rfl)) (hw _ (List.mem_of_getElem? (i := 37) rfl)) (hw _ (List.mem_of_getElem? (i := 38) rfl)) d1_16 (by decide) (by decide) ?_
  intro T h4 tb g4 gn_tb E4 A4 D4 X
  have sz_tb : h.size ≤ tb := Nat.le_trans K.1 (Nat.le_of_eq g4.symm)
  have ne_em_tb : em ≠ tb := Nat.ne_of_lt (Nat.lt_of_lt_of_eq A_em.lt g4.symm)
  have lt_em_tb : @LT.lt Nat _ em tb := Nat.lt_of_lt_of_eq A_em.lt g4.symm
  have ne_al_tb : al ≠ tb := Nat.ne_of_lt (Nat.lt_of_lt_of_eq E_al.lt g4.symm)
  have lt_al_tb : @LT.lt Nat _ al tb := Nat.lt_of_lt_of_eq E_al.lt g4.symm
  have ne_rs_tb : rs ≠ tb := Nat.ne_of_lt (Nat.lt_of_lt_of_eq E_rs.lt g4.symm)
  have lt_rs_tb : @LT.lt Nat _ rs tb := Nat.lt_of_lt_of_eq E_rs.lt g4.symm
  have K := K.ext E4
  have E_rs := E_rs.ext E4
  have F_rs_blocks := F_rs_blocks.ext E4
  have F_rs_table := F_rs_table.ext E4
  have F_rs_width := F_rs_width.ext E4
  have F_rs_adding := F_rs_adding.ext E4
  have F_rs_end := F_rs_end.ext E4
  have F_rs_explored := F_rs_explored.ext E4
  have F_rs_addingLength := F_rs_addingLength.ext E4
  have F_rs_size := F_rs_size.ext E4
  have F_rs_rehashing := F_rs_rehashing.ext E4
  have A_em := A_em.ext E4
  have S_DEFAULTCAPACITY_EMPTY_ELEMENTDATA := S_DEFAULTCAPACITY_EMPTY_ELEMENTDATA.ext E4
  have E_al := E_al.ext E4
  have F_al_modCount := F_al_modCount.ext E4
  have F_al_elementData := F_al_elementData.ext E4
  have F_al_size := F_al_size.ext E4
  have E_tb := A4
  have F_tb_places : Fld Z h4 tb "com/example/statera/statera/engine/IdTable" "places" "[J" .null := D4 (Or.inl (hw _ (List.mem_of_getElem? (i := 54) rfl))) (ty := (.array .long)) (by decide)
  have F_tb_shift : Fld Z h4 tb "com/example/statera/statera/engine/IdTable" "shift" "I" (.int (0 : Int32)) := D4 (Or.inl (hw _ (List.mem_of_getElem? (i := 66) rfl))) (ty := .int) (by decide)
  have F_tb_items : Fld Z h4 tb "com/example/statera/statera/engine/IdTable" "items" "Lcom/example/statera/statera/engine/IdTable$Items;" .null := D4 (Or.inr (hw _ (List.mem_of_getElem? (i := 68) rfl))) (ty := (.object "com/example/statera/statera/engine/IdTable$Items")) (by decide)
  have F_tb_size : Fld Z h4 tb "com/example/statera/statera/engine/IdTable" "size" "I" (.int (0 : Int32)) := D4 (Or.inl (hw _ (List.mem_of_getElem? (i := 115) rfl))) (ty := .int) (by decide)
  refine r_dup 20 X d1_19 rfl ?_
  refine r_new 23 X (hw _ (List.mem_of_getElem? (i := 39) rfl)) (hw _ (List.mem_of_getElem? (i := 40) rfl)) (hw _ (List.mem_of_getElem? (i := 41) rfl)) d1_20 (by decide) (by decide) ?_
  intro T h5 st g5 gn_st E5 A5 D5 X
  have sz_st : h.size ≤ st := Nat.le_trans K.1 (Nat.le_of_eq g5.symm)
  have ne_tb_st : tb ≠ st := Nat.ne_of_lt (Nat.lt_of_lt_of_eq E_tb.lt g5.symm)
  have lt_tb_st : @LT.lt Nat _ tb st := Nat.lt_of_lt_of_eq E_tb.lt g5.symm
  have ne_em_st : em ≠ st := Nat.ne_of_lt (Nat.lt_of_lt_of_eq A_em.lt g5.symm)
  have lt_em_st : @LT.lt Nat _ em st := Nat.lt_of_lt_of_eq A_em.lt g5.symm
  have ne_al_st : al ≠ st := Nat.ne_of_lt (Nat.lt_of_lt_of_eq E_al.lt g5.symm)
  have lt_al_st : @LT.lt Nat _ al st := Nat.lt_of_lt_of_eq E_al.lt g5.symm
  have ne_rs_st : rs ≠ st := Nat.ne_of_lt (Nat.lt_of_lt_of_eq E_rs.lt g5.symm)
  have lt_rs_st : @LT.lt Nat _ rs st := Nat.lt_of_lt_of_eq E_rs.lt g5.symm
  have K := K.ext E5
  have E_rs := E_rs.ext E5
  have F_rs_blocks := F_rs_blocks.ext E5
  have F_rs_table := F_rs_table.ext E5
  have F_rs_width := F_rs_width.ext E5
  have F_rs_adding := F_rs_adding.ext E5
  have F_rs_end := F_rs_end.ext E5
  have F_rs_explored := F_rs_explored.ext E5
  have F_rs_addingLength := F_rs_addingLength.ext E5
  have F_rs_size := F_rs_size.ext E5
  have F_rs_rehashing := F_rs_rehashing.ext E5
  have A_em := A_em.ext E5
  have S_DEFAULTCAPACITY_EMPTY_ELEMENTDATA := S_DEFAULTCAPACITY_EMPTY_ELEMENTDATA.ext E5
  have E_al := E_al.ext E5
  have F_al_modCount := F_al_modCount.ext E5
  have F_al_elementData := F_al_elementData.ext E5
  have F_al_size := F_al_size.ext E5
  have E_tb := E_tb.ext E5
  have F_tb_places := F_tb_places.ext E5
  have F_tb_shift := F_tb_shift.ext E5
  have F_tb_items := F_tb_items.ext E5
  have F_tb_size := F_tb_size.ext E5
  have E_st := A5
  have F_st_this_0 : Fld Z h5 st "com/example/statera/statera/engine/ReachedStates$States" "this$0" "Lcom/example/statera/statera/engine/ReachedStates;" .null := D5 (Or.inr (hw _ (List.mem_of_getElem? (i := 46) rfl))) (ty := (.object "com/example/statera/statera/engine/ReachedStates")) (by decide)
  refine r_dup 24 X d1_23 rfl ?_
  refine r_aloadN 25 X d1_24 rfl rfl ?_
  refine r_specialR 28 X (st := [(.ref st), (.ref tb), (.ref tb), (.ref rs)]) (a := st) (rmSt l Z a0 hw n0 _ X.sz rs st  (by omega) (by omega)   E_st F_st_this_0) rfl rfl (hw _ (List.mem_of_getElem? (i := 42) rfl)) (hw _ (List.mem_of_getElem? (i := 43) rfl)) (hw _ (List.mem_of_getElem? (i := 44) rfl)) (hw _ (List.mem_of_getElem? (i := 41) rfl)) (by decide) pd_9 [(.ref rs)] rfl rfl 4 (Nat.le_of_eq rfl) rfl (by decide) (by decide) (by decide) (by decide) d1_25 ?_
  rintro T h6 v6 ⟨rfl, K6, B6_F_st_this_0⟩ X
  have K := K.trans K6 (allS (Or.inr sz_st) all0)
  have S_DEFAULTCAPACITY_EMPTY_ELEMENTDATA := own_stakL S_DEFAULTCAPACITY_EMPTY_ELEMENTDATA K6 (staS E_st sta0)
  have E_rs := E_rs.keep K6
  have F_rs_blocks := F_rs_blocks.keep K6 (ninS ne_rs_st nin0)
  have F_rs_table := F_rs_table.keep K6 (ninS ne_rs_st nin0)
  have F_rs_width := F_rs_width.keep K6 (ninS ne_rs_st nin0)
  have F_rs_adding := F_rs_adding.keep K6 (ninS ne_rs_st nin0)
  have F_rs_end := F_rs_end.keep K6 (ninS ne_rs_st nin0)
  have F_rs_explored := F_rs_explored.keep K6 (ninS ne_rs_st nin0)
  have F_rs_addingLength := F_rs_addingLength.keep K6 (ninS ne_rs_st nin0)
  have F_rs_size := F_rs_size.keep K6 (ninS ne_rs_st nin0)
  have F_rs_rehashing := F_rs_rehashing.keep K6 (ninS ne_rs_st nin0)
  have A_em := A_em.keep K6 (ninS ne_em_st nin0)
  have E_al := E_al.keep K6
  have F_al_modCount := F_al_modCount.keep K6 (ninS ne_al_st nin0)
  have F_al_elementData := F_al_elementData.keep K6 (ninS ne_al_st nin0)
  have F_al_size := F_al_size.keep K6 (ninS ne_al_st nin0)
  have E_tb := E_tb.keep K6
  have F_tb_places := F_tb_places.keep K6 (ninS ne_tb_st nin0)
  have F_tb_shift := F_tb_shift.keep K6 (ninS ne_tb_st nin0)
  have F_tb_items := F_tb_items.keep K6 (ninS ne_tb_st nin0)
  have F_tb_size := F_tb_size.keep K6 (ninS ne_tb_st nin0)
  have E_st := E_st.keep K6
  have F_st_this_0 := B6_F_st_this_0
  change Run _ _ _ _ _ _ _ _ [(.ref st), (.ref tb), (.ref tb), (.ref rs)]
  refine r_special 31 X (st := [(.ref tb), (.ref rs)]) (a := tb) (rmTb l Z a0 hw n0 _ X.sz tb st  (by omega) (by omega)   E_tb F_tb_places F_tb_shift F_tb_items F_tb_size) rfl rfl (hw _ (List.mem_of_getElem? (i := 48) rfl)) (hw _ (List.mem_of_getElem? (i := 49) rfl)) (hw _ (List.mem_of_getElem? (i := 50) rfl)) (hw _ (List.mem_of_getElem? (i := 38) rfl)) (by decide) pd_10 [(.ref st)] rfl rfl 2 (Nat.le_of_eq rfl) rfl (by decide) (by decide) (by decide) (by decide) d1_28 ?_
  rintro T h7 v7 ⟨rfl, K7, pl, zp7, gnp7, Ep7, B7_F_tb_places, B7_F_tb_shift, B7_F_tb_items, B7_F_tb_size, B7_A_pl⟩ X
  have sz_pl : h.size ≤ pl := Nat.le_trans K.1 zp7
  have lt_al_pl : @LT.lt Nat _ al pl := Nat.lt_of_lt_of_le E_al.lt zp7
  have lt_em_pl : @LT.lt Nat _ em pl := Nat.lt_of_lt_of_le A_em.lt zp7
  have lt_rs_pl : @LT.lt Nat _ rs pl := Nat.lt_of_lt_of_le E_rs.lt zp7
  have lt_st_pl : @LT.lt Nat _ st pl := Nat.lt_of_lt_of_le E_st.lt zp7
  have lt_tb_pl : @LT.lt Nat _ tb pl := Nat.lt_of_lt_of_le E_tb.lt zp7
  have ne_al_pl : al ≠ pl := Nat.ne_of_lt (Nat.lt_of_lt_of_le E_al.lt zp7)
  have ne_em_pl : em ≠ pl := Nat.ne_of_lt (Nat.lt_of_lt_of_le A_em.lt zp7)
  have ne_rs_pl : rs ≠ pl := Nat.ne_of_lt (Nat.lt_of_lt_of_le E_rs.lt zp7)
  have ne_st_pl : st ≠ pl := Nat.ne_of_lt (Nat.lt_of_lt_of_le E_st.lt zp7)
  have ne_tb_pl : tb ≠ pl := Nat.ne_of_lt (Nat.lt_of_lt_of_le E_tb.lt zp7)
  have K := K.trans K7 (allS (Or.inr sz_tb) all0)
  have S_DEFAULTCAPACITY_EMPTY_ELEMENTDATA := own_stakL S_DEFAULTCAPACITY_EMPTY_ELEMENTDATA K7 (staS E_tb sta0)
  have E_rs := E_rs.keep K7
  have F_rs_blocks := F_rs_blocks.keep K7 (ninS ne_rs_tb nin0)
  have F_rs_table := F_rs_table.keep K7 (ninS ne_rs_tb nin0)
  have F_rs_width := F_rs_width.keep K7 (ninS ne_rs_tb nin0)
  have F_rs_adding := F_rs_adding.keep K7 (ninS ne_rs_tb nin0)
  have F_rs_end := F_rs_end.keep K7 (ninS ne_rs_tb nin0)
  have F_rs_explored := F_rs_explored.keep K7 (ninS ne_rs_tb nin0)
  have F_rs_addingLength := F_rs_addingLength.keep K7 (ninS ne_rs_tb nin0)
  have F_rs_size := F_rs_size.keep K7 (ninS ne_rs_tb nin0)
  have F_rs_rehashing := F_rs_rehashing.keep K7 (ninS ne_rs_tb nin0)
  have A_em := A_em.keep K7 (ninS ne_em_tb nin0)
  have E_al := E_al.keep K7
  have F_al_modCount := F_al_modCount.keep K7 (ninS ne_al_tb nin0)
  have F_al_elementData := F_al_elementData.keep K7 (ninS ne_al_tb nin0)
  have F_al_size := F_al_size.keep K7 (ninS ne_al_tb nin0)
  have E_tb := E_tb.keep K7
  have E_st := E_st.keep K7
  have F_st_this_0 := F_st_this_0.keep K7 (ninS (Ne.symm ne_tb_st) nin0)
  have F_tb_places := B7_F_tb_places
  have F_tb_shift := B7_F_tb_shift
  have F_tb_items := B7_F_tb_items
  have F_tb_size := B7_F_tb_size
  have A_pl := B7_A_pl
  have E_pl := Ep7
  change Run _ _ _ _ _ _ _ _ [(.ref tb), (.ref rs)]
  refine r_putfield 34 X (host := "") (Or.inl (hw _ (List.mem_of_getElem? (i := 69) rfl))) Via.refl F_rs_table E_rs (Or.inr ⟨(hw _ (List.mem_of_getElem? (i := 70) rfl)), rfl, rfl⟩) (hw _ (List.mem_of_getElem? (i := 2) rfl)) (ty := (.object "com/example/statera/statera/engine/IdTable")) (by decide) rfl rfl g_rs d1_31 ?_
  intro T h8 W8 X
  have K := K.wr W8 (Or.inl (List.mem_of_getElem? (i := 0) rfl))
  have E_rs := E_rs.wr W8
  have F_rs_blocks := F_rs_blocks.other W8 (Or.inr (slot_ne (Or.inr (hw _ (List.mem_of_getElem? (i := 35) rfl))) (Or.inr (hw _ (List.mem_of_getElem? (i := 70) rfl))) (by decide) (t := (.object "java/util/List")) (t' := (.object "com/example/statera/statera/engine/IdTable")) (by decide) (by decide)))
  have F_rs_table := F_rs_table.same W8
  have F_rs_width := F_rs_width.other W8 (Or.inr (slot_ne (Or.inr (hw _ (List.mem_of_getElem? (i := 72) rfl))) (Or.inr (hw _ (List.mem_of_getElem? (i := 70) rfl))) (by decide) (t := .int) (t' := (.object "com/example/statera/statera/engine/IdTable")) (by decide) (by decide)))
  have F_rs_adding := F_rs_adding.other W8 (Or.inr (slot_ne (Or.inr (hw _ (List.mem_of_getElem? (i := 75) rfl))) (Or.inr (hw _ (List.mem_of_getElem? (i := 70) rfl))) (by decide) (t := (.array .byte)) (t' := (.object "com/example/statera/statera/engine/IdTable")) (by decide) (by decide)))
  have F_rs_end := F_rs_end.other W8 (Or.inr (slot_ne (Or.inl (hw _ (List.mem_of_getElem? (i := 86) rfl))) (Or.inr (hw _ (List.mem_of_getElem? (i := 70) rfl))) (by decide) (t := .long) (t' := (.object "com/example/statera/statera/engine/IdTable")) (by decide) (by decide)))
  have F_rs_explored := F_rs_explored.other W8 (Or.inr (slot_ne (Or.inl (hw _ (List.mem_of_getElem? (i := 84) rfl))) (Or.inr (hw _ (List.mem_of_getElem? (i := 70) rfl))) (by decide) (t := .long) (t' := (.object "com/example/statera/statera/engine/IdTable")) (by decide) (by decide)))
  have F_rs_addingLength := F_rs_addingLength.other W8 (Or.inr (slot_ne (Or.inl (hw _ (List.mem_of_getElem? (i := 97) rfl))) (Or.inr (hw _ (List.mem_of_getElem? (i := 70) rfl))) (by decide) (t := .int) (t' := (.object "com/example/statera/statera/engine/IdTable")) (by decide) (by decide)))
  have F_rs_size := F_rs_size.other W8 (Or.inr (slot_ne (Or.inl (hw _ (List.mem_of_getElem? (i := 200) rfl))) (Or.inr (hw _ (List.mem_of_getElem? (i := 70) rfl))) (by decide) (t := .int) (t' := (.object "com/example/statera/statera/engine/IdTable")) (by decide) (by decide)))
  have F_rs_rehashing := F_rs_rehashing.other W8 (Or.inr (slot_ne (Or.inr (hw _ (List.mem_of_getElem? (i := 77) rfl))) (Or.inr (hw _ (List.mem_of_getElem? (i := 70) rfl))) (by decide) (t := (.array .int)) (t' := (.object "com/example/statera/statera/engine/IdTable")) (by decide) (by decide)))
  have A_em := A_em.other W8 ne_em_rs
  have S_DEFAULTCAPACITY_EMPTY_ELEMENTDATA := S_DEFAULTCAPACITY_EMPTY_ELEMENTDATA.wr W8
  have E_al := E_al.wr W8
  have F_al_modCount := F_al_modCount.other W8 (Or.inl (Ne.symm ne_rs_al))
  have F_al_elementData := F_al_elementData.other W8 (Or.inl (Ne.symm ne_rs_al))
  have F_al_size := F_al_size.other W8 (Or.inl (Ne.symm ne_rs_al))
  have E_tb := E_tb.wr W8
  have E_st := E_st.wr W8
  have F_st_this_0 := F_st_this_0.other W8 (Or.inl (Ne.symm ne_rs_st))
  have F_tb_places := F_tb_places.other W8 (Or.inl (Ne.symm ne_rs_tb))
  have F_tb_shift := F_tb_shift.other W8 (Or.inl (Ne.symm ne_rs_tb))
  have F_tb_items := F_tb_items.other W8 (Or.inl (Ne.symm ne_rs_tb))
  have F_tb_size := F_tb_size.other W8 (Or.inl (Ne.symm ne_rs_tb))
  have A_pl := A_pl.other W8 (Ne.symm ne_rs_pl)
  have E_pl := E_pl.wr W8
  refine r_aloadN 35 X d1_34 rfl rfl ?_
  refine r_iloadN 36 X d1_35 rfl ?_
  refine r_putfield 39 X (host := "") (Or.inl (hw _ (List.mem_of_getElem? (i := 71) rfl))) Via.refl F_rs_width E_rs (Or.inr ⟨(hw _ (List.mem_of_getElem? (i := 72) rfl)), rfl, rfl⟩) (hw _ (List.mem_of_getElem? (i := 2) rfl)) (ty := .int) (by decide) rfl rfl g_rs d1_36 ?_
  intro T h9 W9 X
  have K := K.wr W9 (Or.inl (List.mem_of_getElem? (i := 0) rfl))
  have E_rs := E_rs.wr W9
  have F_rs_blocks := F_rs_blocks.other W9 (Or.inr (slot_ne (Or.inr (hw _ (List.mem_of_getElem? (i := 35) rfl))) (Or.inr (hw _ (List.mem_of_getElem? (i := 72) rfl))) (by decide) (t := (.object "java/util/List")) (t' := .int) (by decide) (by decide)))
  have F_rs_table := F_rs_table.other W9 (Or.inr (slot_ne (Or.inr (hw _ (List.mem_of_getElem? (i := 70) rfl))) (Or.inr (hw _ (List.mem_of_getElem? (i := 72) rfl))) (by decide) (t := (.object "com/example/statera/statera/engine/IdTable")) (t' := .int) (by decide) (by decide)))
  have F_rs_width := F_rs_width.same W9
  have F_rs_adding := F_rs_adding.other W9 (Or.inr (slot_ne (Or.inr (hw _ (List.mem_of_getElem? (i := 75) rfl))) (Or.inr (hw _ (List.mem_of_getElem? (i := 72) rfl))) (by decide) (t := (.array .byte)) (t' := .int) (by decide) (by decide)))
  have F_rs_end := F_rs_end.other W9 (Or.inr (slot_ne (Or.inl (hw _ (List.mem_of_getElem? (i := 86) rfl))) (Or.inr (hw _ (List.mem_of_getElem? (i := 72) rfl))) (by decide) (t := .long) (t' := .int) (by decide) (by decide)))
  have F_rs_explored := F_rs_explored.other W9 (Or.inr (slot_ne (Or.inl (hw _ (List.mem_of_getElem? (i := 84) rfl))) (Or.inr (hw _ (List.mem_of_getElem? (i := 72) rfl))) (by decide) (t := .long) (t' := .int) (by decide) (by decide)))
  have F_rs_addingLength := F_rs_addingLength.other W9 (Or.inr (slot_ne (Or.inl (hw _ (List.mem_of_getElem? (i := 97) rfl))) (Or.inr (hw _ (List.mem_of_getElem? (i := 72) rfl))) (by decide) (t := .int) (t' := .int) (by decide) (by decide)))
  have F_rs_size := F_rs_size.other W9 (Or.inr (slot_ne (Or.inl (hw _ (List.mem_of_getElem? (i := 200) rfl))) (Or.inr (hw _ (List.mem_of_getElem? (i := 72) rfl))) (by decide) (t := .int) (t' := .int) (by decide) (by decide)))
  have F_rs_rehashing := F_rs_rehashing.other W9 (Or.inr (slot_ne (Or.inr (hw _ (List.mem_of_getElem? (i := 77) rfl))) (Or.inr (hw _ (List.mem_of_getElem? (i := 72) rfl))) (by decide) (t := (.array .int)) (t' := .int) (by decide) (by decide)))
  have A_em := A_em.other W9 ne_em_rs
  have S_DEFAULTCAPACITY_EMPTY_ELEMENTDATA := S_DEFAULTCAPACITY_EMPTY_ELEMENTDATA.wr W9
  have E_al := E_al.wr W9
  have F_al_modCount := F_al_modCount.other W9 (Or.inl (Ne.symm ne_rs_al))
  have F_al_elementData := F_al_elementData.other W9 (Or.inl (Ne.symm ne_rs_al))
  have F_al_size := F_al_size.other W9 (Or.inl (Ne.symm ne_rs_al))
  have E_tb := E_tb.wr W9
  have E_st := E_st.wr W9
  have F_st_this_0 := F_st_this_0.other W9 (Or.inl (Ne.symm ne_rs_st))
  have F_tb_places := F_tb_places.other W9 (Or.inl (Ne.symm ne_rs_tb))
  have F_tb_shift := F_tb_shift.other W9 (Or.inl (Ne.symm ne_rs_tb))
  have F_tb_items := F_tb_items.other W9 (Or.inl (Ne.symm ne_rs_tb))
  have F_tb_size := F_tb_size.other W9 (Or.inl (Ne.symm ne_rs_tb))
  have A_pl := A_pl.other W9 (Ne.symm ne_rs_pl)
  have E_pl := E_pl.wr W9
  refine r_aloadN 40 X d1_39 rfl rfl ?_
  refine r_iconst 41 X (5 : Int32) d1_40 rfl ?_
  refine r_iloadN 42 X d1_41 rfl ?_
  refine r_imul 43 X d1_42 ?_
  refine r_topI (x' := (5 : Int32)) (by decide) ?_
  refine r_newarrayE 45 X 5 5 "[B" (by decide) (hw _ (List.mem_of_getElem? (i := 73) rfl)) d1_43 (by decide) (by decide) (by decide) (by decide) (by decide) ?_
  intro T h10 ad g10 gn_ad E10 E_ad A_ad X
  have sz_ad : h.size ≤ ad := Nat.le_trans K.1 (Nat.le_of_eq g10.symm)
  have ne_pl_ad : pl ≠ ad := Nat.ne_of_lt (Nat.lt_of_lt_of_eq A_pl.lt g10.symm)
  have lt_pl_ad : @LT.lt Nat _ pl ad := Nat.lt_of_lt_of_eq A_pl.lt g10.symm
  have ne_st_ad : st ≠ ad := Nat.ne_of_lt (Nat.lt_of_lt_of_eq E_st.lt g10.symm)
  have lt_st_ad : @LT.lt Nat _ st ad := Nat.lt_of_lt_of_eq E_st.lt g10.symm
  have ne_em_ad : em ≠ ad := Nat.ne_of_lt (Nat.lt_of_lt_of_eq A_em.lt g10.symm)
  have lt_em_ad : @LT.lt Nat _ em ad := Nat.lt_of_lt_of_eq A_em.lt g10.symm
  have ne_tb_ad : tb ≠ ad := Nat.ne_of_lt (Nat.lt_of_lt_of_eq E_tb.lt g10.symm)
  have lt_tb_ad : @LT.lt Nat _ tb ad := Nat.lt_of_lt_of_eq E_tb.lt g10.symm
  have ne_al_ad : al ≠ ad := Nat.ne_of_lt (Nat.lt_of_lt_of_eq E_al.lt g10.symm)
  have lt_al_ad : @LT.lt Nat _ al ad := Nat.lt_of_lt_of_eq E_al.lt g10.symm
  have ne_rs_ad : rs ≠ ad := Nat.ne_of_lt (Nat.lt_of_lt_of_eq E_rs.lt g10.symm)
  have lt_rs_ad : @LT.lt Nat _ rs ad := Nat.lt_of_lt_of_eq E_rs.lt g10.symm
  have K := K.ext E10
  have E_rs := E_rs.ext E10
  have F_rs_blocks := F_rs_blocks.ext E10
  have F_rs_table := F_rs_table.ext E10
  have F_rs_width := F_rs_width.ext E10
  have F_rs_adding := F_rs_adding.ext E10
  have F_rs_end := F_rs_end.ext E10
  have F_rs_explored := F_rs_explored.ext E10
  have F_rs_addingLength := F_rs_addingLength.ext E10
  have F_rs_size := F_rs_size.ext E10
  have F_rs_rehashing := F_rs_rehashing.ext E10
  have A_em := A_em.ext E10
  have S_DEFAULTCAPACITY_EMPTY_ELEMENTDATA := S_DEFAULTCAPACITY_EMPTY_ELEMENTDATA.ext E10
  have E_al := E_al.ext E10
  have F_al_modCount := F_al_modCount.ext E10
  have F_al_elementData := F_al_elementData.ext E10
  have F_al_size := F_al_size.ext E10
  have E_tb := E_tb.ext E10
  have E_st := E_st.ext E10
  have F_st_this_0 := F_st_this_0.ext E10
  have F_tb_places := F_tb_places.ext E10
  have F_tb_shift := F_tb_shift.ext E10
  have F_tb_items := F_tb_items.ext E10
  have F_tb_size := F_tb_size.ext E10
  have A_pl := A_pl.ext E10
  have E_pl := E_pl.ext E10
  replace A_ad : AF Z h10 ad .byte 5 (fun j => .int ((fun _ => (0 : Int32)) j)) := A_ad
  refine r_putfield 48 X (host := "") (Or.inl (hw _ (List.mem_of_getElem? (i := 74) rfl))) Via.refl F_rs_adding E_rs (Or.inr ⟨(hw _ (List.mem_of_getElem? (i := 75) rfl)), rfl, rfl⟩) (hw _ (List.mem_of_getElem? (i := 2) rfl)) (ty := (.array .byte)) (by decide) rfl rfl g_rs d1_45 ?_
  intro T h11 W11 X
  have K := K.wr W11 (Or.inl (List.mem_of_getElem? (i := 0) rfl))
  have E_rs := E_rs.wr W11
  have F_rs_blocks := F_rs_blocks.other W11 (Or.inr (slot_ne (Or.inr (hw _ (List.mem_of_getElem? (i := 35) rfl))) (Or.inr (hw _ (List.mem_of_getElem? (i := 75) rfl))) (by decide) (t := (.object "java/util/List")) (t' := (.array .byte)) (by decide) (by decide)))
  have F_rs_table := F_rs_table.other W11 (Or.inr (slot_ne (Or.inr (hw _ (List.mem_of_getElem? (i := 70) rfl))) (Or.inr (hw _ (List.mem_of_getElem? (i := 75) rfl))) (by decide) (t := (.object "com/example/statera/statera/engine/IdTable")) (t' := (.array .byte)) (by decide) (by decide)))
  have F_rs_width := F_rs_width.other W11 (Or.inr (slot_ne (Or.inr (hw _ (List.mem_of_getElem? (i := 72) rfl))) (Or.inr (hw _ (List.mem_of_getElem? (i := 75) rfl))) (by decide) (t := .int) (t' := (.array .byte)) (by decide) (by decide)))
  have F_rs_adding := F_rs_adding.same W11
  have F_rs_end := F_rs_end.other W11 (Or.inr (slot_ne (Or.inl (hw _ (List.mem_of_getElem? (i := 86) rfl))) (Or.inr (hw _ (List.mem_of_getElem? (i := 75) rfl))) (by decide) (t := .long) (t' := (.array .byte)) (by decide) (by decide)))
  have F_rs_explored := F_rs_explored.other W11 (Or.inr (slot_ne (Or.inl (hw _ (List.mem_of_getElem? (i := 84) rfl))) (Or.inr (hw _ (List.mem_of_getElem? (i := 75) rfl))) (by decide) (t := .long) (t' := (.array .byte)) (by decide) (by decide)))
  have F_rs_addingLength := F_rs_addingLength.other W11 (Or.inr (slot_ne (Or.inl (hw _ (List.mem_of_getElem? (i := 97) rfl))) (Or.inr (hw _ (List.mem_of_getElem? (i := 75) rfl))) (by decide) (t := .int) (t' := (.array .byte)) (by decide) (by decide)))
  have F_rs_size := F_rs_size.other W11 (Or.inr (slot_ne (Or.inl (hw _ (List.mem_of_getElem? (i := 200) rfl))) (Or.inr (hw _ (List.mem_of_getElem? (i := 75) rfl))) (by decide) (t := .int) (t' := (.array .byte)) (by decide) (by decide)))
  have F_rs_rehashing := F_rs_rehashing.other W11 (Or.inr (slot_ne (Or.inr (hw _ (List.mem_of_getElem? (i := 77) rfl))) (Or.inr (hw _ (List.mem_of_getElem? (i := 75) rfl))) (by decide) (t := (.array .int)) (t' := (.array .byte)) (by decide) (by decide)))
  have A_em := A_em.other W11 ne_em_rs
  have S_DEFAULTCAPACITY_EMPTY_ELEMENTDATA := S_DEFAULTCAPACITY_EMPTY_ELEMENTDATA.wr W11
  have E_al := E_al.wr W11
  have F_al_modCount := F_al_modCount.other W11 (Or.inl (Ne.symm ne_rs_al))
  have F_al_elementData := F_al_elementData.other W11 (Or.inl (Ne.symm ne_rs_al))
  have F_al_size := F_al_size.other W11 (Or.inl (Ne.symm ne_rs_al))
  have E_tb := E_tb.wr W11
  have E_st := E_st.wr W11
  have F_st_this_0 := F_st_this_0.other W11 (Or.inl (Ne.symm ne_rs_st))
  have F_tb_places := F_tb_places.other W11 (Or.inl (Ne.symm ne_rs_tb))
  have F_tb_shift := F_tb_shift.other W11 (Or.inl (Ne.symm ne_rs_tb))
  have F_tb_items := F_tb_items.other W11 (Or.inl (Ne.symm ne_rs_tb))
  have F_tb_size := F_tb_size.other W11 (Or.inl (Ne.symm ne_rs_tb))
  have A_pl := A_pl.other W11 (Ne.symm ne_rs_pl)
  have E_pl := E_pl.wr W11
  have A_ad := A_ad.other W11 (Ne.symm ne_rs_ad)
  have E_ad := E_ad.wr W11
  refine r_aloadN 49 X d1_48 rfl rfl ?_
  refine r_iloadN 50 X d1_49 rfl ?_
  refine r_newarrayE 52 X 1 1 "[I" (by decide) (hw _ (List.mem_of_getElem? (i := 0) rfl)) d1_50 (by decide) (by decide) (by decide) (by decide) (by decide) ?_
  intro T h12 rh g12 gn_rh E12 E_rh A_rh X
  have sz_rh : h.size ≤ rh := Nat.le_trans K.1 (Nat.le_of_eq g12.symm)
  have ne_pl_rh : pl ≠ rh := Nat.ne_of_lt (Nat.lt_of_lt_of_eq A_pl.lt g12.symm)
  have lt_pl_rh : @LT.lt Nat _ pl rh := Nat.lt_of_lt_of_eq A_pl.lt g12.symm
  have ne_st_rh : st ≠ rh := Nat.ne_of_lt (Nat.lt_of_lt_of_eq E_st.lt g12.symm)
  have lt_st_rh : @LT.lt Nat _ st rh := Nat.lt_of_lt_of_eq E_st.lt g12.symm
  have ne_em_rh : em ≠ rh := Nat.ne_of_lt (Nat.lt_of_lt_of_eq A_em.lt g12.symm)
  have lt_em_rh : @LT.lt Nat _ em rh := Nat.lt_of_lt_of_eq A_em.lt g12.symm
  have ne_tb_rh : tb ≠ rh := Nat.ne_of_lt (Nat.lt_of_lt_of_eq E_tb.lt g12.symm)
  have lt_tb_rh : @LT.lt Nat _ tb rh := Nat.lt_of_lt_of_eq E_tb.lt g12.symm
  have ne_al_rh : al ≠ rh := Nat.ne_of_lt (Nat.lt_of_lt_of_eq E_al.lt g12.symm)
  have lt_al_rh : @LT.lt Nat _ al rh := Nat.lt_of_lt_of_eq E_al.lt g12.symm
  have ne_rs_rh : rs ≠ rh := Nat.ne_of_lt (Nat.lt_of_lt_of_eq E_rs.lt g12.symm)
  have lt_rs_rh : @LT.lt Nat _ rs rh := Nat.lt_of_lt_of_eq E_rs.lt g12.symm
  have ne_ad_rh : ad ≠ rh := Nat.ne_of_lt (Nat.lt_of_lt_of_eq A_ad.lt g12.symm)
  have lt_ad_rh : @LT.lt Nat _ ad rh := Nat.lt_of_lt_of_eq A_ad.lt g12.symm
  have K := K.ext E12
  have E_rs := E_rs.ext E12
  have F_rs_blocks := F_rs_blocks.ext E12
  have F_rs_table := F_rs_table.ext E12
  have F_rs_width := F_rs_width.ext E12
  have F_rs_adding := F_rs_adding.ext E12
  have F_rs_end := F_rs_end.ext E12
  have F_rs_explored := F_rs_explored.ext E12
  have F_rs_addingLength := F_rs_addingLength.ext E12
  have F_rs_size := F_rs_size.ext E12
  have F_rs_rehashing := F_rs_rehashing.ext E12
  have A_em := A_em.ext E12
  have S_DEFAULTCAPACITY_EMPTY_ELEMENTDATA := S_DEFAULTCAPACITY_EMPTY_ELEMENTDATA.ext E12
  have E_al := E_al.ext E12
  have F_al_modCount := F_al_modCount.ext E12
  have F_al_elementData := F_al_elementData.ext E12
  have F_al_size := F_al_size.ext E12
  have E_tb := E_tb.ext E12
  have E_st := E_st.ext E12
  have F_st_this_0 := F_st_this_0.ext E12
  have F_tb_places := F_tb_places.ext E12
  have F_tb_shift := F_tb_shift.ext E12
  have F_tb_items := F_tb_items.ext E12
  have F_tb_size := F_tb_size.ext E12
  have A_pl := A_pl.ext E12
  have E_pl := E_pl.ext E12
  have A_ad := A_ad.ext E12
  have E_ad := E_ad.ext E12
  replace A_rh : AF Z h12 rh .int 1 (fun j => .int ((fun _ => (0 : Int32)) j)) := A_rh
  refine r_putfield 55 X (host := "") (Or.inl (hw _ (List.mem_of_getElem? (i := 76) rfl))) Via.refl F_rs_rehashing E_rs (Or.inr ⟨(hw _ (List.mem_of_getElem? (i := 77) rfl)), rfl, rfl⟩) (hw _ (List.mem_of_getElem? (i := 2) rfl)) (ty := (.array .int)) (by decide) rfl rfl g_rs d1_52 ?_
  intro T h13 W13 X
  have K := K.wr W13 (Or.inl (List.mem_of_getElem? (i := 0) rfl))
  have E_rs := E_rs.wr W13
  have F_rs_blocks := F_rs_blocks.other W13 (Or.inr (slot_ne (Or.inr (hw _ (List.mem_of_getElem? (i := 35) rfl))) (Or.inr (hw _ (List.mem_of_getElem? (i := 77) rfl))) (by decide) (t := (.object "java/util/List")) (t' := (.array .int)) (by decide) (by decide)))
  have F_rs_table := F_rs_table.other W13 (Or.inr (slot_ne (Or.inr (hw _ (List.mem_of_getElem? (i := 70) rfl))) (Or.inr (hw _ (List.mem_of_getElem? (i := 77) rfl))) (by decide) (t := (.object "com/example/statera/statera/engine/IdTable")) (t' := (.array .int)) (by decide) (by decide)))
  have F_rs_width := F_rs_width.other W13 (Or.inr (slot_ne (Or.inr (hw _ (List.mem_of_getElem? (i := 72) rfl))) (Or.inr (hw _ (List.mem_of_getElem? (i := 77) rfl))) (by decide) (t := .int) (t' := (.array .int)) (by decide) (by decide)))
  have F_rs_adding := F_rs_adding.other W13 (Or.inr (slot_ne (Or.inr (hw _ (List.mem_of_getElem? (i := 75) rfl))) (Or.inr (hw _ (List.mem_of_getElem? (i := 77) rfl))) (by decide) (t := (.array .byte)) (t' := (.array .int)) (by decide) (by decide)))
  have F_rs_end := F_rs_end.other W13 (Or.inr (slot_ne (Or.inl (hw _ (List.mem_of_getElem? (i := 86) rfl))) (Or.inr (hw _ (List.mem_of_getElem? (i := 77) rfl))) (by decide) (t := .long) (t' := (.array .int)) (by decide) (by decide)))
  have F_rs_explored := F_rs_explored.other W13 (Or.inr (slot_ne (Or.inl (hw _ (List.mem_of_getElem? (i := 84) rfl))) (Or.inr (hw _ (List.mem_of_getElem? (i := 77) rfl))) (by decide) (t := .long) (t' := (.array .int)) (by decide) (by decide)))
  have F_rs_addingLength := F_rs_addingLength.other W13 (Or.inr (slot_ne (Or.inl (hw _ (List.mem_of_getElem? (i := 97) rfl))) (Or.inr (hw _ (List.mem_of_getElem? (i := 77) rfl))) (by decide) (t := .int) (t' := (.array .int)) (by decide) (by decide)))
  have F_rs_size := F_rs_size.other W13 (Or.inr (slot_ne (Or.inl (hw _ (List.mem_of_getElem? (i := 200) rfl))) (Or.inr (hw _ (List.mem_of_getElem? (i := 77) rfl))) (by decide) (t := .int) (t' := (.array .int)) (by decide) (by decide)))
  have F_rs_rehashing := F_rs_rehashing.same W13
  have A_em := A_em.other W13 ne_em_rs
  have S_DEFAULTCAPACITY_EMPTY_ELEMENTDATA := S_DEFAULTCAPACITY_EMPTY_ELEMENTDATA.wr W13
  have E_al := E_al.wr W13
  have F_al_modCount := F_al_modCount.other W13 (Or.inl (Ne.symm ne_rs_al))
  have F_al_elementData := F_al_elementData.other W13 (Or.inl (Ne.symm ne_rs_al))
  have F_al_size := F_al_size.other W13 (Or.inl (Ne.symm ne_rs_al))
  have E_tb := E_tb.wr W13
  have E_st := E_st.wr W13
  have F_st_this_0 := F_st_this_0.other W13 (Or.inl (Ne.symm ne_rs_st))
  have F_tb_places := F_tb_places.other W13 (Or.inl (Ne.symm ne_rs_tb))
  have F_tb_shift := F_tb_shift.other W13 (Or.inl (Ne.symm ne_rs_tb))
  have F_tb_items := F_tb_items.other W13 (Or.inl (Ne.symm ne_rs_tb))
  have F_tb_size := F_tb_size.other W13 (Or.inl (Ne.symm ne_rs_tb))
  have A_pl := A_pl.other W13 (Ne.symm ne_rs_pl)
  have E_pl := E_pl.wr W13
  have A_ad := A_ad.other W13 (Ne.symm ne_rs_ad)
  have E_ad := E_ad.wr W13
  have A_rh := A_rh.other W13 (Ne.symm ne_rs_rh)
  have E_rh := E_rh.wr W13
  refine r_retV X d1_55 (by decide) (by decide) ?_
  exact ⟨rfl, K, al, tb, st, pl, ad, ⟨lt_rs_al, lt_al_tb, lt_tb_st, lt_st_pl, lt_pl_ad⟩, E_al, E_tb, E_st, E_pl, E_ad, F_rs_blocks, F_rs_table, F_rs_width, F_rs_adding, F_rs_end, F_rs_explored, F_rs_addingLength, F_rs_size, F_al_modCount, F_al_elementData, F_al_size, F_tb_places, F_tb_shift, F_tb_items, F_tb_size, F_st_this_0, A_pl, A_ad⟩
theorem d10_0 : decode prog_19_method_6_code 0 = .ok (.aload_n 0, 1) := by decide +kernel
theorem d10_1 : decode prog_19_method_6_code 1 = .ok (.getfield 73, 3) := by decide +kernel
theorem d10_4 : decode prog_19_method_6_code 4 = .ok (.aload_n 0, 1) := by decide +kernel
theorem d10_5 : decode prog_19_method_6_code 5 = .ok (.getfield 53, 3) := by decide +kernel
theorem d10_8 : decode prog_19_method_6_code 8 = .ok (.lcmp, 1) := by decide +kernel
theorem d10_9 : decode prog_19_method_6_code 9 = .ok (.ifCond .ge 7, 3) := by decide +kernel
theorem d10_12 : decode prog_19_method_6_code 12 = .ok (.iconst 1, 1) := by decide +kernel
theorem d10_13 : decode prog_19_method_6_code 13 = .ok (.goto 4, 3) := by decide +kernel
theorem d10_16 : decode prog_19_method_6_code 16 = .ok (.iconst 0, 1) := by decide +kernel
theorem d10_17 : decode prog_19_method_6_code 17 = .ok (.ireturn, 1) := by decide +kernel
theorem pn_10 : plainName "com/example/statera/statera/engine/ReachedStates" = true := by first | (simp [plainName, overriddenIn]; done) | decide +kernel
theorem ef_10 (m : MethodId) (x0 : Addr) : entryFrame m #[(.ref x0)] 1 = mkF m 0 #[.val (.ref x0)] [] := by first | (simp [entryFrame, mkF, argsToLocals, Value.category]; done) | rfl
set_option maxRecDepth 65536 in
set_option maxHeartbeats 40000000 in
theorem rmHu (l : Launch) (Z : State) (a0 : Array Value) (hw : ∀ d ∈ tables_1, d.before a0 Z = true) (n0 : Nat) (h : Heap) (Z0 : n0 ≤ h.size) (rs : Nat) (en ex : Int64) (E_rs : Exa Z h rs "com/example/statera/statera/engine/ReachedStates") (F_rs_explored : Fld Z h rs "com/example/statera/statera/engine/ReachedStates" "explored" "J" (.long ex)) (F_rs_end : Fld Z h rs "com/example/statera/statera/engine/ReachedStates" "end" "J" (.long en)) :
    Met1 l Z n0 [] (⟨"com/example/statera/statera/engine/ReachedStates", "hasUnexplored", "()Z"⟩ : MethodName) prog_19_method_6_code 1 (some .boolean) ({ frames := 0, cells := 0, slots := 0, locals := 0 } : Room) #[(.ref rs)] h (fun v h' => v = some (.int (b2i (ex < en))) ∧ h = h') := by
  refine met_of (plainFor_of_name pn_10) Z0 (fun m => ef_10 m rs) ?_
  intro p e s m below meth c T hs0 X
  refine r_aloadN 1 X d10_0 rfl rfl ?_
  refine r_getfield 4 X (host := "") (Or.inl (hw _ (List.mem_of_getElem? (i := 83) rfl))) Via.refl F_rs_explored d10_1 ?_
  intro T X
  refine r_aloadN 5 X d10_4 rfl rfl ?_
  refine r_getfield 8 X (host := "") (Or.inl (hw _ (List.mem_of_getElem? (i := 85) rfl))) Via.refl F_rs_end d10_5 ?_
  intro T X
  refine r_lcmp 9 X d10_8 ?_
  have J17_1 : ∀ (T : State), Cx p l e ({ frames := 0, cells := 0, slots := 0, locals := 0 } : Room) s m #[(.ref rs)] below meth c Z prog_19_method_6_code 1 "com/example/statera/statera/engine/ReachedStates" (some .boolean) "hasUnexplored" n0 T h 0 0 → Run p e below m (Fin1 below s n0 (fun v h' => v = some (.int (b2i (ex < en))) ∧ h = h') ({ frames := 0, cells := 0, slots := 0, locals := 0 } : Room).cells ({ frames := 0, cells := 0, slots := 0, locals := 0 } : Room).slots) T 17 #[.val (.ref rs)] [(.int (b2i (ex < en)))] := by
    intro T X
    refine r_retZ X d10_17 b2i_nar (by decide) (by decide) ?_
    exact ⟨rfl, rfl⟩
  by_cases h9_2 : ex < en
  · refine r_ifN 12 X d10_9 ((if0 _ _).trans (tlt ((lw_lt _ _).mpr h9_2)).2.1) ?_
    refine r_iconst 13 X (1 : Int32) d10_12 rfl ?_
    refine r_goto 17 X d10_13 ?_
    refine r_topI (x' := (b2i (ex < en))) (by simp [b2i, h9_2]) ?_
    exact J17_1 _ X
  · refine r_ifY 16 X d10_9 ((if0 _ _).trans (flt (fun q => h9_2 ((lw_lt _ _).mp q))).2.1) ?_
    refine r_iconst 17 X (0 : Int32) d10_16 rfl ?_
    refine r_topI (x' := (b2i (ex < en))) (by simp [b2i, h9_2]) ?_
    exact J17_1 _ X
theorem d12_0 : decode prog_19_method_8_code 0 = .ok (.iload_n 1, 1) := by decide +kernel
theorem d12_1 : decode prog_19_method_8_code 1 = .ok (.istore_n 3, 1) := by decide +kernel
theorem d12_2 : decode prog_19_method_8_code 2 = .ok (.iload_n 2, 1) := by decide +kernel
theorem d12_3 : decode prog_19_method_8_code 3 = .ok (.istore 4, 2) := by decide +kernel
theorem d12_5 : decode prog_19_method_8_code 5 = .ok (.iload_n 3, 1) := by decide +kernel
theorem d12_6 : decode prog_19_method_8_code 6 = .ok (.bipush (-128), 2) := by decide +kernel
theorem d12_8 : decode prog_19_method_8_code 8 = .ok (.iand, 1) := by decide +kernel
theorem d12_9 : decode prog_19_method_8_code 9 = .ok (.ifCond .eq 27, 3) := by decide +kernel
theorem d12_12 : decode prog_19_method_8_code 12 = .ok (.aload_n 0, 1) := by decide +kernel
theorem d12_13 : decode prog_19_method_8_code 13 = .ok (.getfield 34, 3) := by decide +kernel
theorem d12_16 : decode prog_19_method_8_code 16 = .ok (.iload 4, 2) := by decide +kernel
theorem d12_18 : decode prog_19_method_8_code 18 = .ok (.iinc 4 1, 3) := by decide +kernel
theorem d12_21 : decode prog_19_method_8_code 21 = .ok (.iload_n 3, 1) := by decide +kernel
theorem d12_22 : decode prog_19_method_8_code 22 = .ok (.sipush 128, 3) := by decide +kernel
theorem d12_25 : decode prog_19_method_8_code 25 = .ok (.ior, 1) := by decide +kernel
theorem d12_26 : decode prog_19_method_8_code 26 = .ok (.i2b, 1) := by decide +kernel
theorem d12_27 : decode prog_19_method_8_code 27 = .ok (.bastore, 1) := by decide +kernel
theorem d12_28 : decode prog_19_method_8_code 28 = .ok (.iload_n 3, 1) := by decide +kernel
theorem d12_29 : decode prog_19_method_8_code 29 = .ok (.bipush 7, 2) := by decide +kernel
theorem d12_31 : decode prog_19_method_8_code 31 = .ok (.iushr, 1) := by decide +kernel
theorem d12_32 : decode prog_19_method_8_code 32 = .ok (.istore_n 3, 1) := by decide +kernel
theorem d12_33 : decode prog_19_method_8_code 33 = .ok (.goto (-28), 3) := by decide +kernel
theorem d12_36 : decode prog_19_method_8_code 36 = .ok (.aload_n 0, 1) := by decide +kernel
theorem d12_37 : decode prog_19_method_8_code 37 = .ok (.getfield 34, 3) := by decide +kernel
theorem d12_40 : decode prog_19_method_8_code 40 = .ok (.iload 4, 2) := by decide +kernel
theorem d12_42 : decode prog_19_method_8_code 42 = .ok (.iinc 4 1, 3) := by decide +kernel
theorem d12_45 : decode prog_19_method_8_code 45 = .ok (.iload_n 3, 1) := by decide +kernel
theorem d12_46 : decode prog_19_method_8_code 46 = .ok (.i2b, 1) := by decide +kernel
theorem d12_47 : decode prog_19_method_8_code 47 = .ok (.bastore, 1) := by decide +kernel
theorem d12_48 : decode prog_19_method_8_code 48 = .ok (.iload 4, 2) := by decide +kernel
theorem d12_50 : decode prog_19_method_8_code 50 = .ok (.ireturn, 1) := by decide +kernel
theorem pn_12 : plainName "com/example/statera/statera/engine/ReachedStates" = true := by first | (simp [plainName, overriddenIn]; done) | decide +kernel
theorem ef_12 (m : MethodId) (x0 : Addr) (x1 : Int32) (x2 : Int32) : entryFrame m #[(.ref x0), (.int x1), (.int x2)] 5 = mkF m 0 #[.val (.ref x0), .val (.int x1), .val (.int x2), .unset, .unset] [] := by first | (simp [entryFrame, mkF, argsToLocals, Value.category]; done) | rfl
set_option maxRecDepth 65536 in
set_option maxHeartbeats 40000000 in
theorem rmWr (l : Launch) (Z : State) (a0 : Array Value) (hw : ∀ d ∈ tables_1, d.before a0 Z = true) (n0 : Nat) (h : Heap) (Z0 : n0 ≤ h.size) (rs ad : Nat) (x1 : Int32) (gA : Nat → Int32) (lt_rs_ad : @LT.lt Nat _ rs ad) (g_rs : n0 ≤ rs) (hFA : FB gA) (E_rs : Exa Z h rs "com/example/statera/statera/engine/ReachedStates") (F_rs_adding : Fld Z h rs "com/example/statera/statera/engine/ReachedStates" "adding" "[B" (.ref ad)) (A_ad : AF Z h ad .byte 5 (fun j => .int (gA j))) :
    Met1 l Z n0 [] (⟨"com/example/statera/statera/engine/ReachedStates", "write", "(II)I"⟩ : MethodName) prog_19_method_8_code 5 (some .int) ({ frames := 0, cells := 0, slots := 0, locals := 0 } : Room) #[(.ref rs), (.int x1), (.int (0 : Int32))] h (fun v h' => ∃ (r : Int32) (g : Nat → Int32), v = some (.int r) ∧ r.toInt = (encL x1 : Int) ∧ Keep h h' [ad] ∧ AF Z h' ad .byte 5 (fun j => .int (g j)) ∧ FB g ∧ ∀ j, j < encL x1 → g j = encB x1 j) := by
  refine met_of (plainFor_of_name pn_12) Z0 (fun m => ef_12 m rs x1 (0 : Int32)) ?_
  intro p e s m below meth c T hs0 X
  have K := Keep.refl h [ad]
  have ne_rs_ad : @Ne Nat rs ad := by omega
  have g_ad : @LE.le Nat _ n0 ad := by omega
  refine r_iloadN 1 X d12_0 rfl ?_
  refine r_topI (x' := (sk x1 0)) rfl ?_
  refine r_istoreN 2 X #[.val (.ref rs), .val (.int x1), .val (.int (0 : Int32)), .val (.int (sk x1 0)), .unset] d12_1 rfl ?_
  refine r_iloadN 3 X d12_2 rfl ?_
  refine r_istore 5 X #[.val (.ref rs), .val (.int x1), .val (.int (0 : Int32)), .val (.int (sk x1 0)), .val (.int (0 : Int32))] d12_3 rfl ?_
  refine r_iloadN 6 X d12_5 rfl ?_
  refine r_bipush 8 X (-128 : Int32) d12_6 rfl ?_
  refine r_iand 9 X d12_8 ?_
  by_cases h9_1 : ((sk x1 0) &&& (-128 : Int32)) = (0 : Int32)
  · refine r_ifY 36 X d12_9 ((if0 _ _).trans (teq h9_1).1) ?_
    refine r_aloadN 37 X d12_36 rfl rfl ?_
    refine r_getfield 40 X (host := "") (Or.inl (hw _ (List.mem_of_getElem? (i := 74) rfl))) Via.refl F_rs_adding d12_37 ?_
    intro T X
    refine r_iload 42 X d12_40 rfl ?_
    refine r_iinc 45 X (1 : Int32) #[.val (.ref rs), .val (.int x1), .val (.int (0 : Int32)), .val (.int (sk x1 0)), .val (.int (1 : Int32))] d12_42 rfl rfl rfl ?_
    refine r_iloadN 46 X d12_45 rfl ?_
    refine r_i2b 47 X d12_46 ?_
    refine r_bastoreB 48 X A_ad (i := 0) (v := (.int (b8 (sk x1 0)))) (by decide) (by decide) rfl g_ad d12_47 ?_
    intro T h2 W2 X
    have K := K.wr W2 (Or.inl (List.mem_of_getElem? (i := 0) rfl))
    have E_rs := E_rs.wr W2
    have F_rs_adding := F_rs_adding.other W2 (Or.inl ne_rs_ad)
    have A_ad := A_ad.setI W2
    refine r_iload 50 X d12_48 rfl ?_
    refine r_retI X d12_50 (by decide) (by decide) ?_
    have hl : 0 + 1 = encL x1 := wr_len.1 0 (by decide) ⟨(sk_c x1 0).mp h9_1, fun i q => absurd q (Nat.not_lt_zero _)⟩
    exact ⟨_, _, rfl, by rw [← hl]; rfl, K, A_ad, (FB_up hFA 0 _), wr_end 0 hl (fun i q => absurd q (Nat.not_lt_zero _)) rfl⟩
  · refine r_ifN 12 X d12_9 ((if0 _ _).trans (feq h9_1).1) ?_
    refine r_aloadN 13 X d12_12 rfl rfl ?_
    refine r_getfield 16 X (host := "") (Or.inl (hw _ (List.mem_of_getElem? (i := 74) rfl))) Via.refl F_rs_adding d12_13 ?_
    intro T X
    refine r_iload 18 X d12_16 rfl ?_
    refine r_iinc 21 X (1 : Int32) #[.val (.ref rs), .val (.int x1), .val (.int (0 : Int32)), .val (.int (sk x1 0)), .val (.int (1 : Int32))] d12_18 rfl rfl rfl ?_
    refine r_iloadN 22 X d12_21 rfl ?_
    refine r_sipush 25 X (128 : Int32) d12_22 rfl ?_
    refine r_ior 26 X d12_25 ?_
    refine r_i2b 27 X d12_26 ?_
    refine r_bastoreB 28 X A_ad (i := 0) (v := (.int (b8 ((sk x1 0) ||| (128 : Int32))))) (by decide) (by decide) rfl g_ad d12_27 ?_
    intro T h3 W3 X
    have K := K.wr W3 (Or.inl (List.mem_of_getElem? (i := 0) rfl))
    have E_rs := E_rs.wr W3
    have F_rs_adding := F_rs_adding.other W3 (Or.inl ne_rs_ad)
    have A_ad := A_ad.setI W3
    refine r_iloadN 29 X d12_28 rfl ?_
    refine r_bipush 31 X (7 : Int32) d12_29 rfl ?_
    refine r_iushr 32 X d12_31 ?_
    refine r_topI (x' := (sk x1 1)) rfl ?_
    refine r_istoreN 33 X #[.val (.ref rs), .val (.int x1), .val (.int (0 : Int32)), .val (.int (sk x1 1)), .val (.int (1 : Int32))] d12_32 rfl ?_
    refine r_goto 5 X d12_33 ?_
    refine r_iloadN 6 X d12_5 rfl ?_
    refine r_bipush 8 X (-128 : Int32) d12_6 rfl ?_
    refine r_iand 9 X d12_8 ?_
    by_cases h9_4 : ((sk x1 1) &&& (-128 : Int32)) = (0 : Int32)
    · refine r_ifY 36 X d12_9 ((if0 _ _).trans (teq h9_4).1) ?_
      refine r_aloadN 37 X d12_36 rfl rfl ?_
      refine r_getfield 40 X (host := "") (Or.inl (hw _ (List.mem_of_getElem? (i := 74) rfl))) Via.refl F_rs_adding d12_37 ?_
      intro T X
      refine r_iload 42 X d12_40 rfl ?_
      refine r_iinc 45 X (1 : Int32) #[.val (.ref rs), .val (.int x1), .val (.int (0 : Int32)), .val (.int (sk x1 1)), .val (.int (2 : Int32))] d12_42 rfl rfl rfl ?_
      refine r_iloadN 46 X d12_45 rfl ?_
      refine r_i2b 47 X d12_46 ?_
      refine r_bastoreB 48 X A_ad (i := 1) (v := (.int (b8 (sk x1 1)))) (by decide) (by decide) rfl g_ad d12_47 ?_
      intro T h5 W5 X
      have K := K.wr W5 (Or.inl (List.mem_of_getElem? (i := 0) rfl))
      have E_rs := E_rs.wr W5
      have F_rs_adding := F_rs_adding.other W5 (Or.inl ne_rs_ad)
      have A_ad := A_ad.setI W5
      refine r_iload 50 X d12_48 rfl ?_
      refine r_retI X d12_50 (by decide) (by decide) ?_
      have hl : 1 + 1 = encL x1 := wr_len.1 1 (by decide) ⟨(sk_c x1 1).mp h9_4, fun i q => mt (sk_c x1 i).mpr (match i, q with | 0, _ => h9_1 | _ + 1, q => absurd q (by omega))⟩
      exact ⟨_, _, rfl, by rw [← hl]; rfl, K, A_ad, (FB_up (FB_up hFA 0 _) 1 _), wr_end 1 hl (fun i q => match i, q with | 0, _ => rfl | _ + 1, q => absurd q (by omega)) rfl⟩
    · refine r_ifN 12 X d12_9 ((if0 _ _).trans (feq h9_4).1) ?_
      refine r_aloadN 13 X d12_12 rfl rfl ?_
      refine r_getfield 16 X (host := "") (Or.inl (hw _ (List.mem_of_getElem? (i := 74) rfl))) Via.refl F_rs_adding d12_13 ?_
      intro T X
      refine r_iload 18 X d12_16 rfl ?_
      refine r_iinc 21 X (1 : Int32) #[.val (.ref rs), .val (.int x1), .val (.int (0 : Int32)), .val (.int (sk x1 1)), .val (.int (2 : Int32))] d12_18 rfl rfl rfl ?_
      refine r_iloadN 22 X d12_21 rfl ?_
      refine r_sipush 25 X (128 : Int32) d12_22 rfl ?_
      refine r_ior 26 X d12_25 ?_
      refine r_i2b 27 X d12_26 ?_
      refine r_bastoreB 28 X A_ad (i := 1) (v := (.int (b8 ((sk x1 1) ||| (128 : Int32))))) (by decide) (by decide) rfl g_ad d12_27 ?_
      intro T h6 W6 X
      have K := K.wr W6 (Or.inl (List.mem_of_getElem? (i := 0) rfl))
      have E_rs := E_rs.wr W6
      have F_rs_adding := F_rs_adding.other W6 (Or.inl ne_rs_ad)
      have A_ad := A_ad.setI W6
      refine r_iloadN 29 X d12_28 rfl ?_
      refine r_bipush 31 X (7 : Int32) d12_29 rfl ?_
      refine r_iushr 32 X d12_31 ?_
      refine r_topI (x' := (sk x1 2)) rfl ?_
      refine r_istoreN 33 X #[.val (.ref rs), .val (.int x1), .val (.int (0 : Int32)), .val (.int (sk x1 2)), .val (.int (2 : Int32))] d12_32 rfl ?_
      refine r_goto 5 X d12_33 ?_
      refine r_iloadN 6 X d12_5 rfl ?_
      refine r_bipush 8 X (-128 : Int32) d12_6 rfl ?_
      refine r_iand 9 X d12_8 ?_
      by_cases h9_7 : ((sk x1 2) &&& (-128 : Int32)) = (0 : Int32)
      · refine r_ifY 36 X d12_9 ((if0 _ _).trans (teq h9_7).1) ?_
        refine r_aloadN 37 X d12_36 rfl rfl ?_
        refine r_getfield 40 X (host := "") (Or.inl (hw _ (List.mem_of_getElem? (i := 74) rfl))) Via.refl F_rs_adding d12_37 ?_
        intro T X
        refine r_iload 42 X d12_40 rfl ?_
        refine r_iinc 45 X (1 : Int32) #[.val (.ref rs), .val (.int x1), .val (.int (0 : Int32)), .val (.int (sk x1 2)), .val (.int (3 : Int32))] d12_42 rfl rfl rfl ?_
        refine r_iloadN 46 X d12_45 rfl ?_
        refine r_i2b 47 X d12_46 ?_
        refine r_bastoreB 48 X A_ad (i := 2) (v := (.int (b8 (sk x1 2)))) (by decide) (by decide) rfl g_ad d12_47 ?_
        intro T h8 W8 X
        have K := K.wr W8 (Or.inl (List.mem_of_getElem? (i := 0) rfl))
        have E_rs := E_rs.wr W8
        have F_rs_adding := F_rs_adding.other W8 (Or.inl ne_rs_ad)
        have A_ad := A_ad.setI W8
        refine r_iload 50 X d12_48 rfl ?_
        refine r_retI X d12_50 (by decide) (by decide) ?_
        have hl : 2 + 1 = encL x1 := wr_len.1 2 (by decide) ⟨(sk_c x1 2).mp h9_7, fun i q => mt (sk_c x1 i).mpr (match i, q with | 0, _ => h9_1 | 1, _ => h9_4 | _ + 2, q => absurd q (by omega))⟩
        exact ⟨_, _, rfl, by rw [← hl]; rfl, K, A_ad, (FB_up (FB_up (FB_up hFA 0 _) 1 _) 2 _), wr_end 2 hl (fun i q => match i, q with | 0, _ => rfl | 1, _ => rfl | _ + 2, q => absurd q (by omega)) rfl⟩
      · refine r_ifN 12 X d12_9 ((if0 _ _).trans (feq h9_7).1) ?_
        refine r_aloadN 13 X d12_12 rfl rfl ?_
        refine r_getfield 16 X (host := "") (Or.inl (hw _ (List.mem_of_getElem? (i := 74) rfl))) Via.refl F_rs_adding d12_13 ?_
        intro T X
        refine r_iload 18 X d12_16 rfl ?_
        refine r_iinc 21 X (1 : Int32) #[.val (.ref rs), .val (.int x1), .val (.int (0 : Int32)), .val (.int (sk x1 2)), .val (.int (3 : Int32))] d12_18 rfl rfl rfl ?_
        refine r_iloadN 22 X d12_21 rfl ?_
        refine r_sipush 25 X (128 : Int32) d12_22 rfl ?_
        refine r_ior 26 X d12_25 ?_
        refine r_i2b 27 X d12_26 ?_
        refine r_bastoreB 28 X A_ad (i := 2) (v := (.int (b8 ((sk x1 2) ||| (128 : Int32))))) (by decide) (by decide) rfl g_ad d12_27 ?_
        intro T h9 W9 X
        have K := K.wr W9 (Or.inl (List.mem_of_getElem? (i := 0) rfl))
        have E_rs := E_rs.wr W9
        have F_rs_adding := F_rs_adding.other W9 (Or.inl ne_rs_ad)
        have A_ad := A_ad.setI W9
        refine r_iloadN 29 X d12_28 rfl ?_
        refine r_bipush 31 X (7 : Int32) d12_29 rfl ?_
        refine r_iushr 32 X d12_31 ?_
        refine r_topI (x' := (sk x1 3)) rfl ?_
        refine r_istoreN 33 X #[.val (.ref rs), .val (.int x1), .val (.int (0 : Int32)), .val (.int (sk x1 3)), .val (.int (3 : Int32))] d12_32 rfl ?_
        refine r_goto 5 X d12_33 ?_
        refine r_iloadN 6 X d12_5 rfl ?_
        refine r_bipush 8 X (-128 : Int32) d12_6 rfl ?_
        refine r_iand 9 X d12_8 ?_
        by_cases h9_10 : ((sk x1 3) &&& (-128 : Int32)) = (0 : Int32)
        · refine r_ifY 36 X d12_9 ((if0 _ _).trans (teq h9_10).1) ?_
          refine r_aloadN 37 X d12_36 rfl rfl ?_
          refine r_getfield 40 X (host := "") (Or.inl (hw _ (List.mem_of_getElem? (i := 74) rfl))) Via.refl F_rs_adding d12_37 ?_
          intro T X
          refine r_iload 42 X d12_40 rfl ?_
          refine r_iinc 45 X (1 : Int32) #[.val (.ref rs), .val (.int x1), .val (.int (0 : Int32)), .val (.int (sk x1 3)), .val (.int (4 : Int32))] d12_42 rfl rfl rfl ?_
          refine r_iloadN 46 X d12_45 rfl ?_
          refine r_i2b 47 X d12_46 ?_
          refine r_bastoreB 48 X A_ad (i := 3) (v := (.int (b8 (sk x1 3)))) (by decide) (by decide) rfl g_ad d12_47 ?_
          intro T h11 W11 X
          have K := K.wr W11 (Or.inl (List.mem_of_getElem? (i := 0) rfl))
          have E_rs := E_rs.wr W11
          have F_rs_adding := F_rs_adding.other W11 (Or.inl ne_rs_ad)
          have A_ad := A_ad.setI W11
          refine r_iload 50 X d12_48 rfl ?_
          refine r_retI X d12_50 (by decide) (by decide) ?_
          have hl : 3 + 1 = encL x1 := wr_len.1 3 (by decide) ⟨(sk_c x1 3).mp h9_10, fun i q => mt (sk_c x1 i).mpr (match i, q with | 0, _ => h9_1 | 1, _ => h9_4 | 2, _ => h9_7 | _ + 3, q => absurd q (by omega))⟩
          exact ⟨_, _, rfl, by rw [← hl]; rfl, K, A_ad, (FB_up (FB_up (FB_up (FB_up hFA 0 _) 1 _) 2 _) 3 _), wr_end 3 hl (fun i q => match i, q with | 0, _ => rfl | 1, _ => rfl | 2, _ => rfl | _ + 3, q => absurd q (by omega)) rfl⟩
        · refine r_ifN 12 X d12_9 ((if0 _ _).trans (feq h9_10).1) ?_
          refine r_aloadN 13 X d12_12 rfl rfl ?_
          refine r_getfield 16 X (host := "") (Or.inl (hw _ (List.mem_of_getElem? (i := 74) rfl))) Via.refl F_rs_adding d12_13 ?_
          intro T X
          refine r_iload 18 X d12_16 rfl ?_
          refine r_iinc 21 X (1 : Int32) #[.val (.ref rs), .val (.int x1), .val (.int (0 : Int32)), .val (.int (sk x1 3)), .val (.int (4 : Int32))] d12_18 rfl rfl rfl ?_
          refine r_iloadN 22 X d12_21 rfl ?_
          refine r_sipush 25 X (128 : Int32) d12_22 rfl ?_
          refine r_ior 26 X d12_25 ?_
          refine r_i2b 27 X d12_26 ?_
          refine r_bastoreB 28 X A_ad (i := 3) (v := (.int (b8 ((sk x1 3) ||| (128 : Int32))))) (by decide) (by decide) rfl g_ad d12_27 ?_
          intro T h12 W12 X
          have K := K.wr W12 (Or.inl (List.mem_of_getElem? (i := 0) rfl))
          have E_rs := E_rs.wr W12
          have F_rs_adding := F_rs_adding.other W12 (Or.inl ne_rs_ad)
          have A_ad := A_ad.setI W12
          refine r_iloadN 29 X d12_28 rfl ?_
          refine r_bipush 31 X (7 : Int32) d12_29 rfl ?_
          refine r_iushr 32 X d12_31 ?_
          refine r_topI (x' := (sk x1 4)) rfl ?_
          refine r_istoreN 33 X #[.val (.ref rs), .val (.int x1), .val (.int (0 : Int32)), .val (.int (sk x1 4)), .val (.int (4 : Int32))] d12_32 rfl ?_
          refine r_goto 5 X d12_33 ?_
          refine r_iloadN 6 X d12_5 rfl ?_
          refine r_bipush 8 X (-128 : Int32) d12_6 rfl ?_
          refine r_iand 9 X d12_8 ?_
          refine r_ifY 36 X d12_9 ((if0 _ _).trans (teq (sk_5 x1)).1) ?_
          refine r_aloadN 37 X d12_36 rfl rfl ?_
          refine r_getfield 40 X (host := "") (Or.inl (hw _ (List.mem_of_getElem? (i := 74) rfl))) Via.refl F_rs_adding d12_37 ?_
          intro T X
          refine r_iload 42 X d12_40 rfl ?_
          refine r_iinc 45 X (1 : Int32) #[.val (.ref rs), .val (.int x1), .val (.int (0 : Int32)), .val (.int (sk x1 4)), .val (.int (5 : Int32))] d12_42 rfl rfl rfl ?_
          refine r_iloadN 46 X d12_45 rfl ?_
          refine r_i2b 47 X d12_46 ?_
          refine r_bastoreB 48 X A_ad (i := 4) (v := (.int (b8 (sk x1 4)))) (by decide) (by decide) rfl g_ad d12_47 ?_
          intro T h13 W13 X
          have K := K.wr W13 (Or.inl (List.mem_of_getElem? (i := 0) rfl))
          have E_rs := E_rs.wr W13
          have F_rs_adding := F_rs_adding.other W13 (Or.inl ne_rs_ad)
          have A_ad := A_ad.setI W13
          refine r_iload 50 X d12_48 rfl ?_
          refine r_retI X d12_50 (by decide) (by decide) ?_
          have hl : 4 + 1 = encL x1 := wr_len.2 (fun i q => mt (sk_c x1 i).mpr (match i, q with | 0, _ => h9_1 | 1, _ => h9_4 | 2, _ => h9_7 | 3, _ => h9_10 | _ + 4, q => absurd q (by omega)))
          exact ⟨_, _, rfl, by rw [← hl]; rfl, K, A_ad, (FB_up (FB_up (FB_up (FB_up (FB_up hFA 0 _) 1 _) 2 _) 3 _) 4 _), wr_end 4 hl (fun i q => match i, q with | 0, _ => rfl | 1, _ => rfl | 2, _ => rfl | 3, _ => rfl | _ + 4, q => absurd q (by omega)) rfl⟩
theorem d14_0 : decode prog_10_method_6_code 0 = .ok (.lload_n 0, 1) := by decide +kernel
theorem d14_1 : decode prog_10_method_6_code 1 = .ok (.ldc2_w 70, 3) := by decide +kernel
theorem d14_4 : decode prog_10_method_6_code 4 = .ok (.lmul, 1) := by decide +kernel
theorem d14_5 : decode prog_10_method_6_code 5 = .ok (.lstore_n 2, 1) := by decide +kernel
theorem d14_6 : decode prog_10_method_6_code 6 = .ok (.lload_n 2, 1) := by decide +kernel
theorem d14_7 : decode prog_10_method_6_code 7 = .ok (.lload_n 2, 1) := by decide +kernel
theorem d14_8 : decode prog_10_method_6_code 8 = .ok (.bipush 29, 2) := by decide +kernel
theorem d14_10 : decode prog_10_method_6_code 10 = .ok (.lushr, 1) := by decide +kernel
theorem d14_11 : decode prog_10_method_6_code 11 = .ok (.lxor, 1) := by decide +kernel
theorem d14_12 : decode prog_10_method_6_code 12 = .ok (.lstore_n 2, 1) := by decide +kernel
theorem d14_13 : decode prog_10_method_6_code 13 = .ok (.lload_n 2, 1) := by decide +kernel
theorem d14_14 : decode prog_10_method_6_code 14 = .ok (.ldc2_w 72, 3) := by decide +kernel
theorem d14_17 : decode prog_10_method_6_code 17 = .ok (.lmul, 1) := by decide +kernel
theorem d14_18 : decode prog_10_method_6_code 18 = .ok (.lstore_n 2, 1) := by decide +kernel
theorem d14_19 : decode prog_10_method_6_code 19 = .ok (.lload_n 2, 1) := by decide +kernel
theorem d14_20 : decode prog_10_method_6_code 20 = .ok (.lload_n 2, 1) := by decide +kernel
theorem d14_21 : decode prog_10_method_6_code 21 = .ok (.bipush 32, 2) := by decide +kernel
theorem d14_23 : decode prog_10_method_6_code 23 = .ok (.lushr, 1) := by decide +kernel
theorem d14_24 : decode prog_10_method_6_code 24 = .ok (.lxor, 1) := by decide +kernel
theorem d14_25 : decode prog_10_method_6_code 25 = .ok (.lreturn, 1) := by decide +kernel
theorem pn_14 : plainName "com/example/statera/statera/engine/IdTable" = true := by first | (simp [plainName, overriddenIn]; done) | decide +kernel
theorem ef_14 (m : MethodId) (x0 : Int64) : entryFrame m #[(.long x0)] 4 = mkF m 0 #[.val (.long x0), .second, .unset, .unset] [] := by first | (simp [entryFrame, mkF, argsToLocals, Value.category]; done) | rfl
set_option maxRecDepth 65536 in
set_option maxHeartbeats 40000000 in
theorem rmMi (l : Launch) (Z : State) (a0 : Array Value) (hw : ∀ d ∈ tables_1, d.before a0 Z = true) (n0 : Nat) (h : Heap) (Z0 : n0 ≤ h.size) (q1 : Int64)  :
    Met1 l Z n0 [] (⟨"com/example/statera/statera/engine/IdTable", "mix", "(J)J"⟩ : MethodName) prog_10_method_6_code 4 (some .long) ({ frames := 0, cells := 0, slots := 0, locals := 0 } : Room) #[(.long q1)] h (fun v h' => v = some (.long (mixJ q1)) ∧ h = h') := by
  refine met_of (plainFor_of_name pn_14) Z0 (fun m => ef_14 m q1) ?_
  intro p e s m below meth c T hs0 X
  refine r_lloadN 1 X d14_0 rfl ?_
  refine r_ldc2Long 4 X (hw _ (List.mem_of_getElem? (i := 105) rfl)) d14_1 ?_
  refine r_lmul 5 X d14_4 ?_
  refine r_lstoreN 6 X #[.val (.long q1), .second, .val (.long (q1 * (-7046029254386353131 : Int64))), .second] d14_5 rfl ?_
  refine r_lloadN 7 X d14_6 rfl ?_
  refine r_lloadN 8 X d14_7 rfl ?_
  refine r_bipush 10 X (29 : Int32) d14_8 rfl ?_
  refine r_lushr 11 X d14_10 ?_
  refine r_lxor 12 X d14_11 ?_
  refine r_lstoreN 13 X #[.val (.long q1), .second, .val (.long ((q1 * (-7046029254386353131 : Int64)) ^^^ (((q1 * (-7046029254386353131 : Int64)).toUInt64 >>> ((29 : Int32) &&& 0x3f).toInt64.toUInt64).toInt64))), .second] d14_12 rfl ?_
  refine r_lloadN 14 X d14_13 rfl ?_
  refine r_ldc2Long 17 X (hw _ (List.mem_of_getElem? (i := 106) rfl)) d14_14 ?_
  refine r_lmul 18 X d14_17 ?_
  refine r_lstoreN 19 X #[.val (.long q1), .second, .val (.long (((q1 * (-7046029254386353131 : Int64)) ^^^ (((q1 * (-7046029254386353131 : Int64)).toUInt64 >>> ((29 : Int32) &&& 0x3f).toInt64.toUInt64).toInt64)) * (-4658895280553007687 : Int64))), .second] d14_18 rfl ?_
  refine r_lloadN 20 X d14_19 rfl ?_
  refine r_lloadN 21 X d14_20 rfl ?_
  refine r_bipush 23 X (32 : Int32) d14_21 rfl ?_
  refine r_lushr 24 X d14_23 ?_
  refine r_lxor 25 X d14_24 ?_
  refine r_retJ X d14_25 (by decide) (by decide) ?_
  exact ⟨rfl, rfl⟩
theorem d13_0 : decode prog_19_method_15_code 0 = .ok (.lconst 0, 1) := by decide +kernel
theorem d13_1 : decode prog_19_method_15_code 1 = .ok (.lstore_n 1, 1) := by decide +kernel
theorem d13_2 : decode prog_19_method_15_code 2 = .ok (.aload_n 0, 1) := by decide +kernel
theorem d13_3 : decode prog_19_method_15_code 3 = .ok (.astore_n 3, 1) := by decide +kernel
theorem d13_4 : decode prog_19_method_15_code 4 = .ok (.aload_n 3, 1) := by decide +kernel
theorem d13_5 : decode prog_19_method_15_code 5 = .ok (.arraylength, 1) := by decide +kernel
theorem d13_6 : decode prog_19_method_15_code 6 = .ok (.istore 4, 2) := by decide +kernel
theorem d13_8 : decode prog_19_method_15_code 8 = .ok (.iconst 0, 1) := by decide +kernel
theorem d13_9 : decode prog_19_method_15_code 9 = .ok (.istore 5, 2) := by decide +kernel
theorem d13_11 : decode prog_19_method_15_code 11 = .ok (.iload 5, 2) := by decide +kernel
theorem d13_13 : decode prog_19_method_15_code 13 = .ok (.iload 4, 2) := by decide +kernel
theorem d13_15 : decode prog_19_method_15_code 15 = .ok (.if_icmp .ge 25, 3) := by decide +kernel
theorem d13_18 : decode prog_19_method_15_code 18 = .ok (.aload_n 3, 1) := by decide +kernel
theorem d13_19 : decode prog_19_method_15_code 19 = .ok (.iload 5, 2) := by decide +kernel
theorem d13_21 : decode prog_19_method_15_code 21 = .ok (.iaload, 1) := by decide +kernel
theorem d13_22 : decode prog_19_method_15_code 22 = .ok (.istore 6, 2) := by decide +kernel
theorem d13_24 : decode prog_19_method_15_code 24 = .ok (.lload_n 1, 1) := by decide +kernel
theorem d13_25 : decode prog_19_method_15_code 25 = .ok (.iload 6, 2) := by decide +kernel
theorem d13_27 : decode prog_19_method_15_code 27 = .ok (.i2l, 1) := by decide +kernel
theorem d13_28 : decode prog_19_method_15_code 28 = .ok (.ladd, 1) := by decide +kernel
theorem d13_29 : decode prog_19_method_15_code 29 = .ok (.ldc2_w 120, 3) := by decide +kernel
theorem d13_32 : decode prog_19_method_15_code 32 = .ok (.lmul, 1) := by decide +kernel
theorem d13_33 : decode prog_19_method_15_code 33 = .ok (.lstore_n 1, 1) := by decide +kernel
theorem d13_34 : decode prog_19_method_15_code 34 = .ok (.iinc 5 1, 3) := by decide +kernel
theorem d13_37 : decode prog_19_method_15_code 37 = .ok (.goto (-26), 3) := by decide +kernel
theorem d13_40 : decode prog_19_method_15_code 40 = .ok (.lload_n 1, 1) := by decide +kernel
theorem d13_41 : decode prog_19_method_15_code 41 = .ok (.invokestatic 122, 3) := by decide +kernel
theorem d13_44 : decode prog_19_method_15_code 44 = .ok (.lreturn, 1) := by decide +kernel
theorem pn_13 : plainName "com/example/statera/statera/engine/ReachedStates" = true := by first | (simp [plainName, overriddenIn]; done) | decide +kernel
theorem ef_13 (m : MethodId) (x0 : Addr) : entryFrame m #[(.ref x0)] 7 = mkF m 0 #[.val (.ref x0), .unset, .unset, .unset, .unset, .unset, .unset] [] := by first | (simp [entryFrame, mkF, argsToLocals, Value.category]; done) | rfl
set_option maxRecDepth 65536 in
set_option maxHeartbeats 40000000 in
theorem rmHa (l : Launch) (Z : State) (a0 : Array Value) (hw : ∀ d ∈ tables_1, d.before a0 Z = true) (n0 : Nat) (h : Heap) (Z0 : n0 ≤ h.size) (sx : Nat) (x1 : Int32) (A_sx : AF Z h sx .int 1 (fun j => .int ((fun _ => x1) j))) :
    Met1 l Z n0 [] (⟨"com/example/statera/statera/engine/ReachedStates", "hash", "([I)J"⟩ : MethodName) prog_19_method_15_code 7 (some .long) ({ frames := 1, cells := 0, slots := 0, locals := 15 } : Room) #[(.ref sx)] h (fun v h' => v = some (.long (hsh x1)) ∧ h = h') := by
  refine met_of (plainFor_of_name pn_13) Z0 (fun m => ef_13 m sx) ?_
  intro p e s m below meth c T hs0 X
  refine r_lconst 1 X (0 : Int64) d13_0 rfl ?_
  refine r_lstoreN 2 X #[.val (.ref sx), .val (.long (0 : Int64)), .second, .unset, .unset, .unset, .unset] d13_1 rfl ?_
  refine r_aloadN 3 X d13_2 rfl rfl ?_
  refine r_astoreN 4 X #[.val (.ref sx), .val (.long (0 : Int64)), .second, .val (.ref sx), .unset, .unset, .unset] d13_3 rfl rfl ?_
  refine r_aloadN 5 X d13_4 rfl rfl ?_
  refine r_arraylength 6 X A_sx (1 : Int32) (by decide) d13_5 ?_
  refine r_istore 8 X #[.val (.ref sx), .val (.long (0 : Int64)), .second, .val (.ref sx), .val (.int (1 : Int32)), .unset, .unset] d13_6 rfl ?_
  refine r_iconst 9 X (0 : Int32) d13_8 rfl ?_
  refine r_istore 11 X #[.val (.ref sx), .val (.long (0 : Int64)), .second, .val (.ref sx), .val (.int (1 : Int32)), .val (.int (0 : Int32)), .unset] d13_9 rfl ?_
  refine r_iload 13 X d13_11 rfl ?_
  refine r_iload 15 X d13_13 rfl ?_
  refine r_icmpN 18 X d13_15 (tlt (by decide)).2.1 ?_
  refine r_aloadN 19 X d13_18 rfl rfl ?_
  refine r_iload 21 X d13_19 rfl ?_
  refine r_iaload 22 X A_sx (i := 0) (v := (.int x1)) (by decide) (by decide) rfl d13_21 ?_
  refine r_istore 24 X #[.val (.ref sx), .val (.long (0 : Int64)), .second, .val (.ref sx), .val (.int (1 : Int32)), .val (.int (0 : Int32)), .val (.int x1)] d13_22 rfl ?_
  refine r_lloadN 25 X d13_24 rfl ?_
  refine r_iload 27 X d13_25 rfl ?_
  refine r_i2l 28 X d13_27 ?_
  refine r_ladd 29 X d13_28 ?_
  refine r_ldc2Long 32 X (hw _ (List.mem_of_getElem? (i := 101) rfl)) d13_29 ?_
  refine r_lmul 33 X d13_32 ?_
  refine r_lstoreN 34 X #[.val (.ref sx), .val (.long (((0 : Int64) + (x1.toInt64)) * (-7046029254386353131 : Int64))), .second, .val (.ref sx), .val (.int (1 : Int32)), .val (.int (0 : Int32)), .val (.int x1)] d13_33 rfl ?_
  refine r_iinc 37 X (1 : Int32) #[.val (.ref sx), .val (.long (((0 : Int64) + (x1.toInt64)) * (-7046029254386353131 : Int64))), .second, .val (.ref sx), .val (.int (1 : Int32)), .val (.int (1 : Int32)), .val (.int x1)] d13_34 rfl rfl rfl ?_
  refine r_goto 11 X d13_37 ?_
  refine r_iload 13 X d13_11 rfl ?_
  refine r_iload 15 X d13_13 rfl ?_
  refine r_icmpY 40 X d13_15 (flt (by decide)).2.1 ?_
  refine r_lloadN 41 X d13_40 rfl ?_
  refine r_callS 44 X (st := []) (rmMi l Z a0 hw n0 _ X.sz (((0 : Int64) + (x1.toInt64)) * (-7046029254386353131 : Int64))) (hw _ (List.mem_of_getElem? (i := 102) rfl)) (hw _ (List.mem_of_getElem? (i := 103) rfl)) (hw _ (List.mem_of_getElem? (i := 104) rfl)) (hw _ (List.mem_of_getElem? (i := 38) rfl)) (by decide) pd_11 [(.long (((0 : Int64) + (x1.toInt64)) * (-7046029254386353131 : Int64)))] rfl rfl 0 (Nat.le_of_eq rfl) rfl (by decide) (by decide) (by decide) (by decide) d13_41 ?_
  rintro T h1 v1 ⟨rfl, rfl⟩ X
  change Run _ _ _ _ _ _ _ _ [(.long (mixJ (((0 : Int64) + (x1.toInt64)) * (-7046029254386353131 : Int64))))]
  refine r_retJ X d13_44 (by decide) (by decide) ?_
  exact ⟨rfl, rfl⟩
theorem own_mn {x o : Int32} {L p : Nat} (hL : x.toInt = (L : Int)) (ho : o.toInt = (p : Int)) (h : L ≤ 5) (hp : p ≤ 60000) : mnI x ((65536 : Int32) - o) = x :=
  if_neg fun z => by have q := (ltI (subI (x := (65536 : Int32)) (a := 65536) rfl ho (by omega) (by omega)) hL).mp z; omega
theorem own_i2j {x : Int32} : x.toInt64.toInt = x.toInt := c_i2l x
theorem own_adv {e : Int64} {x : Int32} {p L : Nat} (he : e.toInt = (p : Int)) (hL : x.toInt = (L : Int)) (h : L ≤ 5) (hp : p ≤ 60000) : (e + x.toInt64).toInt = ((p + L : Nat) : Int) :=
  (addJ he (own_i2j.trans hL) (by omega) (by omega)).trans (by omega)
theorem d16_0 : decode prog_19_method_11_code 0 = .ok (.iconst 0, 1) := by decide +kernel
theorem d16_1 : decode prog_19_method_11_code 1 = .ok (.istore_n 2, 1) := by decide +kernel
theorem d16_2 : decode prog_19_method_11_code 2 = .ok (.iload_n 2, 1) := by decide +kernel
theorem d16_3 : decode prog_19_method_11_code 3 = .ok (.iload_n 1, 1) := by decide +kernel
theorem d16_4 : decode prog_19_method_11_code 4 = .ok (.if_icmp .ge 103, 3) := by decide +kernel
theorem d16_7 : decode prog_19_method_11_code 7 = .ok (.aload_n 0, 1) := by decide +kernel
theorem d16_8 : decode prog_19_method_11_code 8 = .ok (.getfield 53, 3) := by decide +kernel
theorem d16_11 : decode prog_19_method_11_code 11 = .ok (.invokestatic 84, 3) := by decide +kernel
theorem d16_14 : decode prog_19_method_11_code 14 = .ok (.aload_n 0, 1) := by decide +kernel
theorem d16_15 : decode prog_19_method_11_code 15 = .ok (.getfield 10, 3) := by decide +kernel
theorem d16_18 : decode prog_19_method_11_code 18 = .ok (.invokeinterface 68 1, 5) := by decide +kernel
theorem d16_23 : decode prog_19_method_11_code 23 = .ok (.if_icmp .ne 17, 3) := by decide +kernel
theorem d16_26 : decode prog_19_method_11_code 26 = .ok (.aload_n 0, 1) := by decide +kernel
theorem d16_27 : decode prog_19_method_11_code 27 = .ok (.getfield 10, 3) := by decide +kernel
theorem d16_30 : decode prog_19_method_11_code 30 = .ok (.ldc 96, 2) := by decide +kernel
theorem d16_32 : decode prog_19_method_11_code 32 = .ok (.newarray .byte, 2) := by decide +kernel
theorem d16_34 : decode prog_19_method_11_code 34 = .ok (.invokeinterface 108 2, 5) := by decide +kernel
theorem d16_39 : decode prog_19_method_11_code 39 = .ok (.pop, 1) := by decide +kernel
theorem d16_40 : decode prog_19_method_11_code 40 = .ok (.aload_n 0, 1) := by decide +kernel
theorem d16_41 : decode prog_19_method_11_code 41 = .ok (.getfield 53, 3) := by decide +kernel
theorem d16_44 : decode prog_19_method_11_code 44 = .ok (.invokestatic 93, 3) := by decide +kernel
theorem d16_47 : decode prog_19_method_11_code 47 = .ok (.istore_n 3, 1) := by decide +kernel
theorem d16_48 : decode prog_19_method_11_code 48 = .ok (.iload_n 1, 1) := by decide +kernel
theorem d16_49 : decode prog_19_method_11_code 49 = .ok (.iload_n 2, 1) := by decide +kernel
theorem d16_50 : decode prog_19_method_11_code 50 = .ok (.isub, 1) := by decide +kernel
theorem d16_51 : decode prog_19_method_11_code 51 = .ok (.ldc 96, 2) := by decide +kernel
theorem d16_53 : decode prog_19_method_11_code 53 = .ok (.iload_n 3, 1) := by decide +kernel
theorem d16_54 : decode prog_19_method_11_code 54 = .ok (.isub, 1) := by decide +kernel
theorem d16_55 : decode prog_19_method_11_code 55 = .ok (.invokestatic 97, 3) := by decide +kernel
theorem d16_58 : decode prog_19_method_11_code 58 = .ok (.istore 4, 2) := by decide +kernel
theorem d16_60 : decode prog_19_method_11_code 60 = .ok (.aload_n 0, 1) := by decide +kernel
theorem d16_61 : decode prog_19_method_11_code 61 = .ok (.getfield 34, 3) := by decide +kernel
theorem d16_64 : decode prog_19_method_11_code 64 = .ok (.iload_n 2, 1) := by decide +kernel
theorem d16_65 : decode prog_19_method_11_code 65 = .ok (.aload_n 0, 1) := by decide +kernel
theorem d16_66 : decode prog_19_method_11_code 66 = .ok (.getfield 10, 3) := by decide +kernel
theorem d16_69 : decode prog_19_method_11_code 69 = .ok (.aload_n 0, 1) := by decide +kernel
theorem d16_70 : decode prog_19_method_11_code 70 = .ok (.getfield 53, 3) := by decide +kernel
theorem d16_73 : decode prog_19_method_11_code 73 = .ok (.invokestatic 84, 3) := by decide +kernel
theorem d16_76 : decode prog_19_method_11_code 76 = .ok (.invokeinterface 88 2, 5) := by decide +kernel
theorem d16_81 : decode prog_19_method_11_code 81 = .ok (.iload_n 3, 1) := by decide +kernel
theorem d16_82 : decode prog_19_method_11_code 82 = .ok (.iload 4, 2) := by decide +kernel
theorem d16_84 : decode prog_19_method_11_code 84 = .ok (.invokestatic 112, 3) := by decide +kernel
theorem d16_87 : decode prog_19_method_11_code 87 = .ok (.iload_n 2, 1) := by decide +kernel
theorem d16_88 : decode prog_19_method_11_code 88 = .ok (.iload 4, 2) := by decide +kernel
theorem d16_90 : decode prog_19_method_11_code 90 = .ok (.iadd, 1) := by decide +kernel
theorem d16_91 : decode prog_19_method_11_code 91 = .ok (.istore_n 2, 1) := by decide +kernel
theorem d16_92 : decode prog_19_method_11_code 92 = .ok (.aload_n 0, 1) := by decide +kernel
theorem d16_93 : decode prog_19_method_11_code 93 = .ok (.dup, 1) := by decide +kernel
theorem d16_94 : decode prog_19_method_11_code 94 = .ok (.getfield 53, 3) := by decide +kernel
theorem d16_97 : decode prog_19_method_11_code 97 = .ok (.iload 4, 2) := by decide +kernel
theorem d16_99 : decode prog_19_method_11_code 99 = .ok (.i2l, 1) := by decide +kernel
theorem d16_100 : decode prog_19_method_11_code 100 = .ok (.ladd, 1) := by decide +kernel
theorem d16_101 : decode prog_19_method_11_code 101 = .ok (.putfield 53, 3) := by decide +kernel
theorem d16_104 : decode prog_19_method_11_code 104 = .ok (.goto (-102), 3) := by decide +kernel
theorem d16_107 : decode prog_19_method_11_code 107 = .ok (.return_, 1) := by decide +kernel
theorem pn_16 : plainName "com/example/statera/statera/engine/ReachedStates" = true := by first | (simp [plainName, overriddenIn]; done) | decide +kernel
theorem ef_16 (m : MethodId) (x0 : Addr) (x1 : Int32) : entryFrame m #[(.ref x0), (.int x1)] 5 = mkF m 0 #[.val (.ref x0), .val (.int x1), .unset, .unset, .unset] [] := by first | (simp [entryFrame, mkF, argsToLocals, Value.category]; done) | rfl
set_option maxRecDepth 65536 in
set_option maxHeartbeats 40000000 in
theorem rmP0 (l : Launch) (Z : State) (a0 : Array Value) (hw : ∀ d ∈ tables_1, d.before a0 Z = true) (n0 : Nat) (h : Heap) (Z0 : n0 ≤ h.size) (em rs al ad : Nat) (en ex : Int64) (an an1 rz x1 : Int32) (p1 : Nat) (gA : Nat → Int32) (fe : Nat → Value) (lt_em_rs : @LT.lt Nat _ em rs) (lt_rs_al : @LT.lt Nat _ rs al) (lt_al_ad : @LT.lt Nat _ al ad) (g_rs : n0 ≤ rs) (hen : en.toInt = (p1 : Int)) (hp : p1 ≤ 1000) (hL : an.toInt = (encL x1 : Int)) (hFA : FB gA) (hA : ∀ j, j < encL x1 → gA j = encB x1 j) (E_rs : Exa Z h rs "com/example/statera/statera/engine/ReachedStates") (E_al : Exa Z h al "java/util/ArrayList") (E_ad : Exa Z h ad "[B") (F_rs_blocks : Fld Z h rs "com/example/statera/statera/engine/ReachedStates" "blocks" "Ljava/util/List;" (.ref al)) (F_rs_table : Fld Z h rs "com/example/statera/statera/engine/ReachedStates" "table" "Lcom/example/statera/statera/engine/IdTable;" (.ref tb)) (F_rs_width : Fld Z h rs "com/example/statera/statera/engine/ReachedStates" "width" "I" (.int (1 : Int32))) (F_rs_adding : Fld Z h rs "com/example/statera/statera/engine/ReachedStates" "adding" "[B" (.ref ad)) (F_rs_end : Fld Z h rs "com/example/statera/statera/engine/ReachedStates" "end" "J" (.long en)) (F_rs_explored : Fld Z h rs "com/example/statera/statera/engine/ReachedStates" "explored" "J" (.long ex)) (F_rs_addingLength : Fld Z h rs "com/example/statera/statera/engine/ReachedStates" "addingLength" "I" (.int an1)) (F_rs_size : Fld Z h rs "com/example/statera/statera/engine/ReachedStates" "size" "I" (.int rz)) (F_al_modCount : Fld Z h al "java/util/AbstractList" "modCount" "I" (.int (0 : Int32))) (F_al_elementData : Fld Z h al "java/util/ArrayList" "elementData" "[Ljava/lang/Object;" (.ref em)) (F_al_size : Fld Z h al "java/util/ArrayList" "size" "I" (.int (0 : Int32))) (A_em : AF Z h em (.object "java/lang/Object") 0 fe) (S_DEFAULTCAPACITY_EMPTY_ELEMENTDATA : Sta Z h "java/util/ArrayList" "DEFAULTCAPACITY_EMPTY_ELEMENTDATA" "[Ljava/lang/Object;" (.ref em)) (A_ad : AF Z h ad .byte 5 (fun j => .int (gA j))) :
    Met1 l Z n0 [] (⟨"com/example/statera/statera/engine/ReachedStates", "append", "(I)V"⟩ : MethodName) prog_19_method_11_code 5 none ({ frames := 5, cells := 2, slots := 65546, locals := 69 } : Room) #[(.ref rs), (.int an)] h (fun v h' => v = none ∧ Keep h h' [rs, al] ∧ ∃ blk od : Nat, ad < blk ∧ blk < od ∧ Exa Z h' blk "[B" ∧ Fld Z h' rs "com/example/statera/statera/engine/ReachedStates" "blocks" "Ljava/util/List;" (.ref al) ∧ Fld Z h' rs "com/example/statera/statera/engine/ReachedStates" "table" "Lcom/example/statera/statera/engine/IdTable;" (.ref tb) ∧ Fld Z h' rs "com/example/statera/statera/engine/ReachedStates" "width" "I" (.int (1 : Int32)) ∧ Fld Z h' rs "com/example/statera/statera/engine/ReachedStates" "adding" "[B" (.ref ad) ∧ Fld Z h' rs "com/example/statera/statera/engine/ReachedStates" "end" "J" (.long (en + (an.toInt64))) ∧ Fld Z h' rs "com/example/statera/statera/engine/ReachedStates" "explored" "J" (.long ex) ∧ Fld Z h' rs "com/example/statera/statera/engine/ReachedStates" "addingLength" "I" (.int an1) ∧ Fld Z h' rs "com/example/statera/statera/engine/ReachedStates" "size" "I" (.int rz) ∧ Fld Z h' al "java/util/ArrayList" "elementData" "[Ljava/lang/Object;" (.ref od) ∧ Fld Z h' al "java/util/ArrayList" "size" "I" (.int (1 : Int32)) ∧ AF Z h' od (.object "java/lang/Object") 10 (upd (fun _ => .null) 0 (.ref blk)) ∧ AF Z h' blk .byte 65536 (fun j => .int ((apF (fun _ => (0 : Int32)) p1 x1) j))) := by
  refine met_of (plainFor_of_name pn_16) Z0 (fun m => ef_16 m rs an) ?_
  intro p e s m below meth c T hs0 X
  have K := Keep.refl h [rs, al]
  have ne_em_rs : @Ne Nat em rs := by omega
  have ne_em_al : @Ne Nat em al := by omega
  have ne_em_ad : @Ne Nat em ad := by omega
  have ne_rs_al : @Ne Nat rs al := by omega
  have ne_rs_ad : @Ne Nat rs ad := by omega
  have ne_al_ad : @Ne Nat al ad := by omega
  have g_al : @LE.le Nat _ n0 al := by omega
  have g_ad : @LE.le Nat _ n0 ad := by omega
  have hr := encL_r x1
  refine r_iconst 1 X (0 : Int32) d16_0 rfl ?_
  refine r_istoreN 2 X #[.val (.ref rs), .val (.int an), .val (.int (0 : Int32)), .unset, .unset] d16_1 rfl ?_
  refine r_iloadN 3 X d16_2 rfl ?_
  refine r_iloadN 4 X d16_3 rfl ?_
  refine r_icmpN 7 X d16_4 (tlt ((ltI (a := 0) rfl hL).mpr (by omega))).2.1 ?_
  refine r_aloadN 8 X d16_7 rfl rfl ?_
  refine r_getfield 11 X (host := "") (Or.inl (hw _ (List.mem_of_getElem? (i := 85) rfl))) Via.refl F_rs_end d16_8 ?_
  intro T X
  refine r_callS 14 X (st := []) (rmBl l Z a0 hw n0 _ X.sz en p1 hen (by omega)) (hw _ (List.mem_of_getElem? (i := 120) rfl)) (hw _ (List.mem_of_getElem? (i := 121) rfl)) (hw _ (List.mem_of_getElem? (i := 122) rfl)) (hw _ (List.mem_of_getElem? (i := 3) rfl)) (by decide) pd_8 [(.long en)] rfl rfl 0 (Nat.le_of_eq rfl) rfl (by decide) (by decide) (by decide) (by decide) d16_11 ?_
  rintro T h1 v1 ⟨rfl, rfl⟩ X
  change Run _ _ _ _ _ _ _ _ [(.int (0 : Int32))]
  refine r_aloadN 15 X d16_14 rfl rfl ?_
  refine r_getfield 18 X (host := "") (Or.inl (hw _ (List.mem_of_getElem? (i := 34) rfl))) Via.refl F_rs_blocks d16_15 ?_
  intro T X
  refine r_interface 23 X (st := [(.int (0 : Int32))]) (a := al) (rmSz l Z a0 hw n0 _ X.sz al (0 : Int32)   E_al F_al_size) E_al (hw _ (List.mem_of_getElem? (i := 124) rfl)) (hw _ (List.mem_of_getElem? (i := 125) rfl)) (hw _ (List.mem_of_getElem? (i := 126) rfl)) (hw _ (List.mem_of_getElem? (i := 127) rfl)) (hw _ (List.mem_of_getElem? (i := 128) rfl)) (hw _ (List.mem_of_getElem? (i := 129) rfl)) (hw _ (List.mem_of_getElem? (i := 130) rfl)) (hw _ (List.mem_of_getElem? (i := 131) rfl)) (by decide) (by decide) (hw _ (List.mem_of_getElem? (i := 132) rfl)) (hw _ (List.mem_of_getElem? (i := 12) rfl)) pd_12 [] rfl rfl 1 (Nat.le_of_eq rfl) rfl (by decide) (by decide) (by decide) (by decide) d16_18 ?_
  rintro T h2 v2 ⟨rfl, rfl⟩ X
  change Run _ _ _ _ _ _ _ _ [(.int (0 : Int32)), (.int (0 : Int32))]
  refine r_icmpN 26 X d16_23 (teq (by decide)).2 ?_
  refine r_aloadN 27 X d16_26 rfl rfl ?_
  refine r_getfield 30 X (host := "") (Or.inl (hw _ (List.mem_of_getElem? (i := 34) rfl))) Via.refl F_rs_blocks d16_27 ?_
  intro T X
  refine r_ldcInt 32 X (hw _ (List.mem_of_getElem? (i := 135) rfl)) d16_30 ?_
  refine r_newarrayE 34 X 65536 65536 "[B" (by decide) (hw _ (List.mem_of_getElem? (i := 73) rfl)) d16_32 (by decide) (by decide) (by decide) (by decide) (by decide) ?_
  intro T h3 blk g3 gn_blk E3 E_blk A_blk X
  have sz_blk : h.size ≤ blk := Nat.le_trans K.1 (Nat.le_of_eq g3.symm)
  have ne_ad_blk : ad ≠ blk := Nat.ne_of_lt (Nat.lt_of_lt_of_eq E_ad.lt g3.symm)
  have lt_ad_blk : @LT.lt Nat _ ad blk := Nat.lt_of_lt_of_eq E_ad.lt g3.symm
  have ne_em_blk : em ≠ blk := Nat.ne_of_lt (Nat.lt_of_lt_of_eq A_em.lt g3.symm)
  have lt_em_blk : @LT.lt Nat _ em blk := Nat.lt_of_lt_of_eq A_em.lt g3.symm
  have ne_al_blk : al ≠ blk := Nat.ne_of_lt (Nat.lt_of_lt_of_eq E_al.lt g3.symm)
  have lt_al_blk : @LT.lt Nat _ al blk := Nat.lt_of_lt_of_eq E_al.lt g3.symm
  have ne_rs_blk : rs ≠ blk := Nat.ne_of_lt (Nat.lt_of_lt_of_eq E_rs.lt g3.symm)
  have lt_rs_blk : @LT.lt Nat _ rs blk := Nat.lt_of_lt_of_eq E_rs.lt g3.symm
  have K := K.ext E3
  have E_rs := E_rs.ext E3
  have E_al := E_al.ext E3
  have E_ad := E_ad.ext E3
  have F_rs_blocks := F_rs_blocks.ext E3
  have F_rs_table := F_rs_table.ext E3
  have F_rs_width := F_rs_width.ext E3
  have F_rs_adding := F_rs_adding.ext E3
  have F_rs_end := F_rs_end.ext E3
  have F_rs_explored := F_rs_explored.ext E3
  have F_rs_addingLength := F_rs_addingLength.ext E3
  have F_rs_size := F_rs_size.ext E3
  have F_al_modCount := F_al_modCount.ext E3
  have F_al_elementData := F_al_elementData.ext E3
  have F_al_size := F_al_size.ext E3
  have A_em := A_em.ext E3
  have S_DEFAULTCAPACITY_EMPTY_ELEMENTDATA := S_DEFAULTCAPACITY_EMPTY_ELEMENTDATA.ext E3
  have A_ad := A_ad.ext E3
  replace A_blk : AF Z h3 blk .byte 65536 (fun j => .int ((fun _ => (0 : Int32)) j)) := A_blk
  refine r_interface 39 X (st := []) (a := al) (rmA1 l Z a0 hw n0 _ X.sz em al blk fe (by omega) (by omega) (by omega)   E_al F_al_elementData F_al_size A_em S_DEFAULTCAPACITY_EMPTY_ELEMENTDATA F_al_modCount E_blk) E_al (hw _ (List.mem_of_getElem? (i := 136) rfl)) (hw _ (List.mem_of_getElem? (i := 137) rfl)) (hw _ (List.mem_of_getElem? (i := 138) rfl)) (hw _ (List.mem_of_getElem? (i := 139) rfl)) (hw _ (List.mem_of_getElem? (i := 140) rfl)) (hw _ (List.mem_of_getElem? (i := 141) rfl)) (hw _ (List.mem_of_getElem? (i := 142) rfl)) (hw _ (List.mem_of_getElem? (i := 131) rfl)) (by decide) (by decide) (hw _ (List.mem_of_getElem? (i := 143) rfl)) (hw _ (List.mem_of_getElem? (i := 12) rfl)) pd_13 [(.ref blk)] rfl rfl 0 (Nat.le_of_eq rfl) rfl (by decide) (by decide) (by decide) (by decide) d16_34 ?_
  rintro T h4 v4 ⟨od, rfl, K4, zo4, gno4, Eo4, B4_F_al_elementData, B4_F_al_size, B4_A_od⟩ X
  have sz_od : h.size ≤ od := Nat.le_trans K.1 zo4
  have lt_ad_od : @LT.lt Nat _ ad od := Nat.lt_of_lt_of_le E_ad.lt zo4
  have lt_al_od : @LT.lt Nat _ al od := Nat.lt_of_lt_of_le E_al.lt zo4
  have lt_blk_od : @LT.lt Nat _ blk od := Nat.lt_of_lt_of_le A_blk.lt zo4
  have lt_em_od : @LT.lt Nat _ em od := Nat.lt_of_lt_of_le A_em.lt zo4
  have lt_rs_od : @LT.lt Nat _ rs od := Nat.lt_of_lt_of_le E_rs.lt zo4
  have ne_ad_od : ad ≠ od := Nat.ne_of_lt (Nat.lt_of_lt_of_le E_ad.lt zo4)
  have ne_al_od : al ≠ od := Nat.ne_of_lt (Nat.lt_of_lt_of_le E_al.lt zo4)
  have ne_blk_od : blk ≠ od := Nat.ne_of_lt (Nat.lt_of_lt_of_le A_blk.lt zo4)
  have ne_em_od : em ≠ od := Nat.ne_of_lt (Nat.lt_of_lt_of_le A_em.lt zo4)
  have ne_rs_od : rs ≠ od := Nat.ne_of_lt (Nat.lt_of_lt_of_le E_rs.lt zo4)
  have K := K.trans K4 (allS (Or.inl (List.mem_of_getElem? (i := 1) rfl)) all0)
  have S_DEFAULTCAPACITY_EMPTY_ELEMENTDATA := own_stakL S_DEFAULTCAPACITY_EMPTY_ELEMENTDATA K4 (staS E_al sta0)
  have E_rs := E_rs.keep K4
  have E_al := E_al.keep K4
  have E_ad := E_ad.keep K4
  have F_rs_blocks := F_rs_blocks.keep K4 (ninS ne_rs_al nin0)
  have F_rs_table := F_rs_table.keep K4 (ninS ne_rs_al nin0)
  have F_rs_width := F_rs_width.keep K4 (ninS ne_rs_al nin0)
  have F_rs_adding := F_rs_adding.keep K4 (ninS ne_rs_al nin0)
  have F_rs_end := F_rs_end.keep K4 (ninS ne_rs_al nin0)
  have F_rs_explored := F_rs_explored.keep K4 (ninS ne_rs_al nin0)
  have F_rs_addingLength := F_rs_addingLength.keep K4 (ninS ne_rs_al nin0)
  have F_rs_size := F_rs_size.keep K4 (ninS ne_rs_al nin0)
  have A_em := A_em.keep K4 (ninS ne_em_al nin0)
  have A_ad := A_ad.keep K4 (ninS (Ne.symm ne_al_ad) nin0)
  have A_blk := A_blk.keep K4 (ninS (Ne.symm ne_al_blk) nin0)
  have E_blk := E_blk.keep K4
  have F_al_elementData := B4_F_al_elementData
  have F_al_size := B4_F_al_size
  have A_od := B4_A_od
  have E_od := Eo4
  change Run _ _ _ _ _ _ _ _ [(.int (1 : Int32))]
  refine r_pop 40 X d16_39 rfl ?_
  refine r_aloadN 41 X d16_40 rfl rfl ?_
  refine r_getfield 44 X (host := "") (Or.inl (hw _ (List.mem_of_getElem? (i := 85) rfl))) Via.refl F_rs_end d16_41 ?_
  intro T X
  refine r_callS 47 X (st := []) (rmOf l Z a0 hw n0 _ X.sz en p1 hen (by omega)) (hw _ (List.mem_of_getElem? (i := 168) rfl)) (hw _ (List.mem_of_getElem? (i := 169) rfl)) (hw _ (List.mem_of_getElem? (i := 170) rfl)) (hw _ (List.mem_of_getElem? (i := 3) rfl)) (by decide) pd_8 [(.long en)] rfl rfl 0 (Nat.le_of_eq rfl) rfl (by decide) (by decide) (by decide) (by decide) d16_44 ?_
  rintro T h5 v5 ⟨rfl, rfl⟩ X
  change Run _ _ _ _ _ _ _ _ [(.int en.toInt32)]
  refine r_istoreN 48 X #[.val (.ref rs), .val (.int an), .val (.int (0 : Int32)), .val (.int en.toInt32), .unset] d16_47 rfl ?_
  refine r_iloadN 49 X d16_48 rfl ?_
  refine r_iloadN 50 X d16_49 rfl ?_
  refine r_isub 51 X d16_50 ?_
  refine r_topI (x' := an) (own_sub0 _) ?_
  refine r_ldcInt 53 X (hw _ (List.mem_of_getElem? (i := 135) rfl)) d16_51 ?_
  refine r_iloadN 54 X d16_53 rfl ?_
  refine r_isub 55 X d16_54 ?_
  refine r_callS 58 X (st := []) (rmMn l Z a0 hw n0 _ X.sz an ((65536 : Int32) - en.toInt32)) (hw _ (List.mem_of_getElem? (i := 171) rfl)) (hw _ (List.mem_of_getElem? (i := 172) rfl)) (hw _ (List.mem_of_getElem? (i := 173) rfl)) (hw _ (List.mem_of_getElem? (i := 163) rfl)) (by decide) pd_2 [(.int an), (.int ((65536 : Int32) - en.toInt32))] rfl rfl 0 (Nat.le_of_eq rfl) rfl (by decide) (by decide) (by decide) (by decide) d16_55 ?_
  rintro T h6 v6 ⟨rfl, rfl⟩ X
  change Run _ _ _ _ _ _ _ _ [(.int (mnI an ((65536 : Int32) - en.toInt32)))]
  refine r_topI (x' := an) (own_mn hL (own_off hen (by omega)) (by omega) (by omega)) ?_
  refine r_istore 60 X #[.val (.ref rs), .val (.int an), .val (.int (0 : Int32)), .val (.int en.toInt32), .val (.int an)] d16_58 rfl ?_
  refine r_aloadN 61 X d16_60 rfl rfl ?_
  refine r_getfield 64 X (host := "") (Or.inl (hw _ (List.mem_of_getElem? (i := 74) rfl))) Via.refl F_rs_adding d16_61 ?_
  intro T X
  refine r_iloadN 65 X d16_64 rfl ?_
  refine r_aloadN 66 X d16_65 rfl rfl ?_
  refine r_getfield 69 X (host := "") (Or.inl (hw _ (List.mem_of_getElem? (i := 34) rfl))) Via.refl F_rs_blocks d16_66 ?_
  intro T X
  refine r_aloadN 70 X d16_69 rfl rfl ?_
  refine r_getfield 73 X (host := "") (Or.inl (hw _ (List.mem_of_getElem? (i := 85) rfl))) Via.refl F_rs_end d16_70 ?_
  intro T X
  refine r_callS 76 X (st := [(.ref al), (.int (0 : Int32)), (.ref ad)]) (rmBl l Z a0 hw n0 _ X.sz en p1 hen (by omega)) (hw _ (List.mem_of_getElem? (i := 120) rfl)) (hw _ (List.mem_of_getElem? (i := 121) rfl)) (hw _ (List.mem_of_getElem? (i := 122) rfl)) (hw _ (List.mem_of_getElem? (i := 3) rfl)) (by decide) pd_8 [(.long en)] rfl rfl 3 (Nat.le_of_eq rfl) rfl (by decide) (by decide) (by decide) (by decide) d16_73 ?_
  rintro T h7 v7 ⟨rfl, rfl⟩ X
  change Run _ _ _ _ _ _ _ _ [(.int (0 : Int32)), (.ref al), (.int (0 : Int32)), (.ref ad)]
  refine r_interface 81 X (st := [(.int (0 : Int32)), (.ref ad)]) (a := al) (rmGe l Z a0 hw n0 _ X.sz al blk od    E_al F_al_elementData F_al_size A_od) E_al (hw _ (List.mem_of_getElem? (i := 174) rfl)) (hw _ (List.mem_of_getElem? (i := 175) rfl)) (hw _ (List.mem_of_getElem? (i := 176) rfl)) (hw _ (List.mem_of_getElem? (i := 177) rfl)) (hw _ (List.mem_of_getElem? (i := 178) rfl)) (hw _ (List.mem_of_getElem? (i := 179) rfl)) (hw _ (List.mem_of_getElem? (i := 180) rfl)) (hw _ (List.mem_of_getElem? (i := 131) rfl)) (by decide) (by decide) (hw _ (List.mem_of_getElem? (i := 181) rfl)) (hw _ (List.mem_of_getElem? (i := 12) rfl)) pd_3 [(.int (0 : Int32))] rfl rfl 2 (Nat.le_of_eq rfl) rfl (by decide) (by decide) (by decide) (by decide) d16_76 ?_
  rintro T h8 v8 ⟨rfl, rfl⟩ X
  change Run _ _ _ _ _ _ _ _ [(.ref blk), (.int (0 : Int32)), (.ref ad)]
  refine r_iloadN 82 X d16_81 rfl ?_
  refine r_iload 84 X d16_82 rfl ?_
  have hoff := own_off hen (by omega)
  refine r_arraycopy 87 X (st := []) (hw _ (List.mem_of_getElem? (i := 195) rfl)) (hw _ (List.mem_of_getElem? (i := 198) rfl)) (hw _ (List.mem_of_getElem? (i := 196) rfl)) (hw _ (List.mem_of_getElem? (i := 197) rfl)) A_ad A_blk rfl (fun j _ => fits_B (hFA j)) (fun j _ => fits_B (FB_zero j)) (i1 := 0) (i2 := p1) (k := encL x1) rfl hoff hL (by omega) (by omega) gn_blk 0 (Nat.le_of_eq rfl) rfl (by decide) (by decide) d16_84 ?_
  intro T h9 K9 A9 X
  have K := K.trans K9 (allS (Or.inr sz_blk) all0)
  have S_DEFAULTCAPACITY_EMPTY_ELEMENTDATA := own_stakL S_DEFAULTCAPACITY_EMPTY_ELEMENTDATA K9 (staS E_blk sta0)
  have E_rs := E_rs.keep K9
  have E_al := E_al.keep K9
  have E_ad := E_ad.keep K9
  have F_rs_blocks := F_rs_blocks.keep K9 (ninS ne_rs_blk nin0)
  have F_rs_table := F_rs_table.keep K9 (ninS ne_rs_blk nin0)
  have F_rs_width := F_rs_width.keep K9 (ninS ne_rs_blk nin0)
  have F_rs_adding := F_rs_adding.keep K9 (ninS ne_rs_blk nin0)
  have F_rs_end := F_rs_end.keep K9 (ninS ne_rs_blk nin0)
  have F_rs_explored := F_rs_explored.keep K9 (ninS ne_rs_blk nin0)
  have F_rs_addingLength := F_rs_addingLength.keep K9 (ninS ne_rs_blk nin0)
  have F_rs_size := F_rs_size.keep K9 (ninS ne_rs_blk nin0)
  have A_em := A_em.keep K9 (ninS ne_em_blk nin0)
  have A_ad := A_ad.keep K9 (ninS ne_ad_blk nin0)
  have E_blk := E_blk.keep K9
  have F_al_elementData := F_al_elementData.keep K9 (ninS ne_al_blk nin0)
  have F_al_size := F_al_size.keep K9 (ninS ne_al_blk nin0)
  have A_od := A_od.keep K9 (ninS (Ne.symm ne_blk_od) nin0)
  have E_od := E_od.keep K9
  have A_blk : AF Z h9 blk .byte 65536 (fun j => .int ((apF (fun _ => (0 : Int32)) p1 x1) j)) := A9.congr fun j _ => own_cpB hA j
  refine r_iloadN 88 X d16_87 rfl ?_
  refine r_iload 90 X d16_88 rfl ?_
  refine r_iadd 91 X d16_90 ?_
  refine r_topI (x' := an) (own_0add _) ?_
  refine r_istoreN 92 X #[.val (.ref rs), .val (.int an), .val (.int an), .val (.int en.toInt32), .val (.int an)] d16_91 rfl ?_
  refine r_aloadN 93 X d16_92 rfl rfl ?_
  refine r_dup 94 X d16_93 rfl ?_
  refine r_getfield 97 X (host := "") (Or.inl (hw _ (List.mem_of_getElem? (i := 85) rfl))) Via.refl F_rs_end d16_94 ?_
  intro T X
  refine r_iload 99 X d16_97 rfl ?_
  refine r_i2l 100 X d16_99 ?_
  refine r_ladd 101 X d16_100 ?_
  refine r_putfield 104 X (host := "") (Or.inl (hw _ (List.mem_of_getElem? (i := 85) rfl))) Via.refl F_rs_end E_rs (Or.inl (hw _ (List.mem_of_getElem? (i := 86) rfl))) (hw _ (List.mem_of_getElem? (i := 2) rfl)) (ty := .long) (by decide) rfl rfl g_rs d16_101 ?_
  intro T h10 W10 X
  have K := K.wr W10 (Or.inl (List.mem_of_getElem? (i := 0) rfl))
  have E_rs := E_rs.wr W10
  have E_al := E_al.wr W10
  have E_ad := E_ad.wr W10
  have F_rs_blocks := F_rs_blocks.other W10 (Or.inr (slot_ne (Or.inr (hw _ (List.mem_of_getElem? (i := 35) rfl))) (Or.inl (hw _ (List.mem_of_getElem? (i := 86) rfl))) (by decide) (t := (.object "java/util/List")) (t' := .long) (by decide) (by decide)))
  have F_rs_table := F_rs_table.other W10 (Or.inr (slot_ne (Or.inr (hw _ (List.mem_of_getElem? (i := 70) rfl))) (Or.inl (hw _ (List.mem_of_getElem? (i := 86) rfl))) (by decide) (t := (.object "com/example/statera/statera/engine/IdTable")) (t' := .long) (by decide) (by decide)))
  have F_rs_width := F_rs_width.other W10 (Or.inr (slot_ne (Or.inr (hw _ (List.mem_of_getElem? (i := 72) rfl))) (Or.inl (hw _ (List.mem_of_getElem? (i := 86) rfl))) (by decide) (t := .int) (t' := .long) (by decide) (by decide)))
  have F_rs_adding := F_rs_adding.other W10 (Or.inr (slot_ne (Or.inr (hw _ (List.mem_of_getElem? (i := 75) rfl))) (Or.inl (hw _ (List.mem_of_getElem? (i := 86) rfl))) (by decide) (t := (.array .byte)) (t' := .long) (by decide) (by decide)))
  have F_rs_end := F_rs_end.same W10
  have F_rs_explored := F_rs_explored.other W10 (Or.inr (slot_ne (Or.inl (hw _ (List.mem_of_getElem? (i := 84) rfl))) (Or.inl (hw _ (List.mem_of_getElem? (i := 86) rfl))) (by decide) (t := .long) (t' := .long) (by decide) (by decide)))
  have F_rs_addingLength := F_rs_addingLength.other W10 (Or.inr (slot_ne (Or.inl (hw _ (List.mem_of_getElem? (i := 97) rfl))) (Or.inl (hw _ (List.mem_of_getElem? (i := 86) rfl))) (by decide) (t := .int) (t' := .long) (by decide) (by decide)))
  have F_rs_size := F_rs_size.other W10 (Or.inr (slot_ne (Or.inl (hw _ (List.mem_of_getElem? (i := 200) rfl))) (Or.inl (hw _ (List.mem_of_getElem? (i := 86) rfl))) (by decide) (t := .int) (t' := .long) (by decide) (by decide)))
  have A_em := A_em.other W10 ne_em_rs
  have S_DEFAULTCAPACITY_EMPTY_ELEMENTDATA := S_DEFAULTCAPACITY_EMPTY_ELEMENTDATA.wr W10
  have A_ad := A_ad.other W10 (Ne.symm ne_rs_ad)
  have E_blk := E_blk.wr W10
  have F_al_elementData := F_al_elementData.other W10 (Or.inl (Ne.symm ne_rs_al))
  have F_al_size := F_al_size.other W10 (Or.inl (Ne.symm ne_rs_al))
  have A_od := A_od.other W10 (Ne.symm ne_rs_od)
  have E_od := E_od.wr W10
  have A_blk := A_blk.other W10 (Ne.symm ne_rs_blk)
  refine r_goto 2 X d16_104 ?_
  refine r_iloadN 3 X d16_2 rfl ?_
  refine r_iloadN 4 X d16_3 rfl ?_
  refine r_icmpY 107 X d16_4 (flt (fun z => absurd ((ltI hL hL).mp z) (by omega))).2.1 ?_
  refine r_retV X d16_107 (by decide) (by decide) ?_
  exact ⟨rfl, K, blk, od, lt_ad_blk, lt_blk_od, E_blk, F_rs_blocks, F_rs_table, F_rs_width, F_rs_adding, F_rs_end, F_rs_explored, F_rs_addingLength, F_rs_size, F_al_elementData, F_al_size, A_od, A_blk⟩
set_option maxRecDepth 65536 in
set_option maxHeartbeats 40000000 in
theorem rmP1 (l : Launch) (Z : State) (a0 : Array Value) (hw : ∀ d ∈ tables_1, d.before a0 Z = true) (n0 : Nat) (h : Heap) (Z0 : n0 ≤ h.size) (rs al ad blk od : Nat) (en ex : Int64) (an an1 rz x1 : Int32) (p1 : Nat) (gA : Nat → Int32) (F : Nat → Int32) (lt_rs_al : @LT.lt Nat _ rs al) (lt_al_ad : @LT.lt Nat _ al ad) (lt_ad_blk : @LT.lt Nat _ ad blk) (lt_blk_od : @LT.lt Nat _ blk od) (g_rs : n0 ≤ rs) (hen : en.toInt = (p1 : Int)) (hp : p1 ≤ 1000) (hL : an.toInt = (encL x1 : Int)) (hFA : FB gA) (hA : ∀ j, j < encL x1 → gA j = encB x1 j) (hFF : FB F) (E_rs : Exa Z h rs "com/example/statera/statera/engine/ReachedStates") (E_al : Exa Z h al "java/util/ArrayList") (E_ad : Exa Z h ad "[B") (E_blk : Exa Z h blk "[B") (F_rs_blocks : Fld Z h rs "com/example/statera/statera/engine/ReachedStates" "blocks" "Ljava/util/List;" (.ref al)) (F_rs_table : Fld Z h rs "com/example/statera/statera/engine/ReachedStates" "table" "Lcom/example/statera/statera/engine/IdTable;" (.ref tb)) (F_rs_width : Fld Z h rs "com/example/statera/statera/engine/ReachedStates" "width" "I" (.int (1 : Int32))) (F_rs_adding : Fld Z h rs "com/example/statera/statera/engine/ReachedStates" "adding" "[B" (.ref ad)) (F_rs_end : Fld Z h rs "com/example/statera/statera/engine/ReachedStates" "end" "J" (.long en)) (F_rs_explored : Fld Z h rs "com/example/statera/statera/engine/ReachedStates" "explored" "J" (.long ex)) (F_rs_addingLength : Fld Z h rs "com/example/statera/statera/engine/ReachedStates" "addingLength" "I" (.int an1)) (F_rs_size : Fld Z h rs "com/example/statera/statera/engine/ReachedStates" "size" "I" (.int rz)) (F_al_elementData : Fld Z h al "java/util/ArrayList" "elementData" "[Ljava/lang/Object;" (.ref od)) (F_al_size : Fld Z h al "java/util/ArrayList" "size" "I" (.int (1 : Int32))) (A_od : AF Z h od (.object "java/lang/Object") 10 (upd (fun _ => .null) 0 (.ref blk))) (A_ad : AF Z h ad .byte 5 (fun j => .int (gA j))) (A_blk : AF Z h blk .byte 65536 (fun j => .int (F j))) :
    Met1 l Z n0 [] (⟨"com/example/statera/statera/engine/ReachedStates", "append", "(I)V"⟩ : MethodName) prog_19_method_11_code 5 none ({ frames := 3, cells := 0, slots := 0, locals := 42 } : Room) #[(.ref rs), (.int an)] h (fun v h' => v = none ∧ Keep h h' [rs, blk] ∧ Fld Z h' rs "com/example/statera/statera/engine/ReachedStates" "blocks" "Ljava/util/List;" (.ref al) ∧ Fld Z h' rs "com/example/statera/statera/engine/ReachedStates" "table" "Lcom/example/statera/statera/engine/IdTable;" (.ref tb) ∧ Fld Z h' rs "com/example/statera/statera/engine/ReachedStates" "width" "I" (.int (1 : Int32)) ∧ Fld Z h' rs "com/example/statera/statera/engine/ReachedStates" "adding" "[B" (.ref ad) ∧ Fld Z h' rs "com/example/statera/statera/engine/ReachedStates" "end" "J" (.long (en + (an.toInt64))) ∧ Fld Z h' rs "com/example/statera/statera/engine/ReachedStates" "explored" "J" (.long ex) ∧ Fld Z h' rs "com/example/statera/statera/engine/ReachedStates" "addingLength" "I" (.int an1) ∧ Fld Z h' rs "com/example/statera/statera/engine/ReachedStates" "size" "I" (.int rz) ∧ AF Z h' blk .byte 65536 (fun j => .int ((apF F p1 x1) j))) := by
  refine met_of (plainFor_of_name pn_16) Z0 (fun m => ef_16 m rs an) ?_
  intro p e s m below meth c T hs0 X
  have K := Keep.refl h [rs, blk]
  have ne_rs_al : @Ne Nat rs al := by omega
  have ne_rs_ad : @Ne Nat rs ad := by omega
  have ne_rs_blk : @Ne Nat rs blk := by omega
  have ne_rs_od : @Ne Nat rs od := by omega
  have ne_al_ad : @Ne Nat al ad := by omega
  have ne_al_blk : @Ne Nat al blk := by omega
  have ne_al_od : @Ne Nat al od := by omega
  have ne_ad_blk : @Ne Nat ad blk := by omega
  have ne_ad_od : @Ne Nat ad od := by omega
  have ne_blk_od : @Ne Nat blk od := by omega
  have g_al : @LE.le Nat _ n0 al := by omega
  have g_ad : @LE.le Nat _ n0 ad := by omega
  have g_blk : @LE.le Nat _ n0 blk := by omega
  have g_od : @LE.le Nat _ n0 od := by omega
  have hr := encL_r x1
  refine r_iconst 1 X (0 : Int32) d16_0 rfl ?_
  refine r_istoreN 2 X #[.val (.ref rs), .val (.int an), .val (.int (0 : Int32)), .unset, .unset] d16_1 rfl ?_
  refine r_iloadN 3 X d16_2 rfl ?_
  refine r_iloadN 4 X d16_3 rfl ?_
  refine r_icmpN 7 X d16_4 (tlt ((ltI (a := 0) rfl hL).mpr (by omega))).2.1 ?_
  refine r_aloadN 8 X d16_7 rfl rfl ?_
  refine r_getfield 11 X (host := "") (Or.inl (hw _ (List.mem_of_getElem? (i := 85) rfl))) Via.refl F_rs_end d16_8 ?_
  intro T X
  refine r_callS 14 X (st := []) (rmBl l Z a0 hw n0 _ X.sz en p1 hen (by omega)) (hw _ (List.mem_of_getElem? (i := 120) rfl)) (hw _ (List.mem_of_getElem? (i := 121) rfl)) (hw _ (List.mem_of_getElem? (i := 122) rfl)) (hw _ (List.mem_of_getElem? (i := 3) rfl)) (by decide) pd_8 [(.long en)] rfl rfl 0 (Nat.le_of_eq rfl) rfl (by decide) (by decide) (by decide) (by decide) d16_11 ?_
  rintro T h1 v1 ⟨rfl, rfl⟩ X
  change Run _ _ _ _ _ _ _ _ [(.int (0 : Int32))]
  refine r_aloadN 15 X d16_14 rfl rfl ?_
  refine r_getfield 18 X (host := "") (Or.inl (hw _ (List.mem_of_getElem? (i := 34) rfl))) Via.refl F_rs_blocks d16_15 ?_
  intro T X
  refine r_interface 23 X (st := [(.int (0 : Int32))]) (a := al) (rmSz l Z a0 hw n0 _ X.sz al (1 : Int32)   E_al F_al_size) E_al (hw _ (List.mem_of_getElem? (i := 124) rfl)) (hw _ (List.mem_of_getElem? (i := 125) rfl)) (hw _ (List.mem_of_getElem? (i := 126) rfl)) (hw _ (List.mem_of_getElem? (i := 127) rfl)) (hw _ (List.mem_of_getElem? (i := 128) rfl)) (hw _ (List.mem_of_getElem? (i := 129) rfl)) (hw _ (List.mem_of_getElem? (i := 130) rfl)) (hw _ (List.mem_of_getElem? (i := 131) rfl)) (by decide) (by decide) (hw _ (List.mem_of_getElem? (i := 132) rfl)) (hw _ (List.mem_of_getElem? (i := 12) rfl)) pd_12 [] rfl rfl 1 (Nat.le_of_eq rfl) rfl (by decide) (by decide) (by decide) (by decide) d16_18 ?_
  rintro T h2 v2 ⟨rfl, rfl⟩ X
  change Run _ _ _ _ _ _ _ _ [(.int (1 : Int32)), (.int (0 : Int32))]
  refine r_icmpY 40 X d16_23 (feq (by decide)).2 ?_
  refine r_aloadN 41 X d16_40 rfl rfl ?_
  refine r_getfield 44 X (host := "") (Or.inl (hw _ (List.mem_of_getElem? (i := 85) rfl))) Via.refl F_rs_end d16_41 ?_
  intro T X
  refine r_callS 47 X (st := []) (rmOf l Z a0 hw n0 _ X.sz en p1 hen (by omega)) (hw _ (List.mem_of_getElem? (i := 168) rfl)) (hw _ (List.mem_of_getElem? (i := 169) rfl)) (hw _ (List.mem_of_getElem? (i := 170) rfl)) (hw _ (List.mem_of_getElem? (i := 3) rfl)) (by decide) pd_8 [(.long en)] rfl rfl 0 (Nat.le_of_eq rfl) rfl (by decide) (by decide) (by decide) (by decide) d16_44 ?_
  rintro T h3 v3 ⟨rfl, rfl⟩ X
  change Run _ _ _ _ _ _ _ _ [(.int en.toInt32)]
  refine r_istoreN 48 X #[.val (.ref rs), .val (.int an), .val (.int (0 : Int32)), .val (.int en.toInt32), .unset] d16_47 rfl ?_
  refine r_iloadN 49 X d16_48 rfl ?_
  refine r_iloadN 50 X d16_49 rfl ?_
  refine r_isub 51 X d16_50 ?_
  refine r_topI (x' := an) (own_sub0 _) ?_
  refine r_ldcInt 53 X (hw _ (List.mem_of_getElem? (i := 135) rfl)) d16_51 ?_
  refine r_iloadN 54 X d16_53 rfl ?_
  refine r_isub 55 X d16_54 ?_
  refine r_callS 58 X (st := []) (rmMn l Z a0 hw n0 _ X.sz an ((65536 : Int32) - en.toInt32)) (hw _ (List.mem_of_getElem? (i := 171) rfl)) (hw _ (List.mem_of_getElem? (i := 172) rfl)) (hw _ (List.mem_of_getElem? (i := 173) rfl)) (hw _ (List.mem_of_getElem? (i := 163) rfl)) (by decide) pd_2 [(.int an), (.int ((65536 : Int32) - en.toInt32))] rfl rfl 0 (Nat.le_of_eq rfl) rfl (by decide) (by decide) (by decide) (by decide) d16_55 ?_
  rintro T h4 v4 ⟨rfl, rfl⟩ X
  change Run _ _ _ _ _ _ _ _ [(.int (mnI an ((65536 : Int32) - en.toInt32)))]
  refine r_topI (x' := an) (own_mn hL (own_off hen (by omega)) (by omega) (by omega)) ?_
  refine r_istore 60 X #[.val (.ref rs), .val (.int an), .val (.int (0 : Int32)), .val (.int en.toInt32), .val (.int an)] d16_58 rfl ?_
  refine r_aloadN 61 X d16_60 rfl rfl ?_
  refine r_getfield 64 X (host := "") (Or.inl (hw _ (List.mem_of_getElem? (i := 74) rfl))) Via.refl F_rs_adding d16_61 ?_
  intro T X
  refine r_iloadN 65 X d16_64 rfl ?_
  refine r_aloadN 66 X d16_65 rfl rfl ?_
  refine r_getfield 69 X (host := "") (Or.inl (hw _ (List.mem_of_getElem? (i := 34) rfl))) Via.refl F_rs_blocks d16_66 ?_
  intro T X
  refine r_aloadN 70 X d16_69 rfl rfl ?_
  refine r_getfield 73 X (host := "") (Or.inl (hw _ (List.mem_of_getElem? (i := 85) rfl))) Via.refl F_rs_end d16_70 ?_
  intro T X
  refine r_callS 76 X (st := [(.ref al), (.int (0 : Int32)), (.ref ad)]) (rmBl l Z a0 hw n0 _ X.sz en p1 hen (by omega)) (hw _ (List.mem_of_getElem? (i := 120) rfl)) (hw _ (List.mem_of_getElem? (i := 121) rfl)) (hw _ (List.mem_of_getElem? (i := 122) rfl)) (hw _ (List.mem_of_getElem? (i := 3) rfl)) (by decide) pd_8 [(.long en)] rfl rfl 3 (Nat.le_of_eq rfl) rfl (by decide) (by decide) (by decide) (by decide) d16_73 ?_
  rintro T h5 v5 ⟨rfl, rfl⟩ X
  change Run _ _ _ _ _ _ _ _ [(.int (0 : Int32)), (.ref al), (.int (0 : Int32)), (.ref ad)]
  refine r_interface 81 X (st := [(.int (0 : Int32)), (.ref ad)]) (a := al) (rmGe l Z a0 hw n0 _ X.sz al blk od    E_al F_al_elementData F_al_size A_od) E_al (hw _ (List.mem_of_getElem? (i := 174) rfl)) (hw _ (List.mem_of_getElem? (i := 175) rfl)) (hw _ (List.mem_of_getElem? (i := 176) rfl)) (hw _ (List.mem_of_getElem? (i := 177) rfl)) (hw _ (List.mem_of_getElem? (i := 178) rfl)) (hw _ (List.mem_of_getElem? (i := 179) rfl)) (hw _ (List.mem_of_getElem? (i := 180) rfl)) (hw _ (List.mem_of_getElem? (i := 131) rfl)) (by decide) (by decide) (hw _ (List.mem_of_getElem? (i := 181) rfl)) (hw _ (List.mem_of_getElem? (i := 12) rfl)) pd_3 [(.int (0 : Int32))] rfl rfl 2 (Nat.le_of_eq rfl) rfl (by decide) (by decide) (by decide) (by decide) d16_76 ?_
  rintro T h6 v6 ⟨rfl, rfl⟩ X
  change Run _ _ _ _ _ _ _ _ [(.ref blk), (.int (0 : Int32)), (.ref ad)]
  refine r_iloadN 82 X d16_81 rfl ?_
  refine r_iload 84 X d16_82 rfl ?_
  have hoff := own_off hen (by omega)
  refine r_arraycopy 87 X (st := []) (hw _ (List.mem_of_getElem? (i := 195) rfl)) (hw _ (List.mem_of_getElem? (i := 198) rfl)) (hw _ (List.mem_of_getElem? (i := 196) rfl)) (hw _ (List.mem_of_getElem? (i := 197) rfl)) A_ad A_blk rfl (fun j _ => fits_B (hFA j)) (fun j _ => fits_B (hFF j)) (i1 := 0) (i2 := p1) (k := encL x1) rfl hoff hL (by omega) (by omega) g_blk 0 (Nat.le_of_eq rfl) rfl (by decide) (by decide) d16_84 ?_
  intro T h7 K7 A7 X
  have K := K.trans K7 (allS (Or.inl (List.mem_of_getElem? (i := 1) rfl)) all0)
  have E_rs := E_rs.keep K7
  have E_al := E_al.keep K7
  have E_ad := E_ad.keep K7
  have E_blk := E_blk.keep K7
  have F_rs_blocks := F_rs_blocks.keep K7 (ninS ne_rs_blk nin0)
  have F_rs_table := F_rs_table.keep K7 (ninS ne_rs_blk nin0)
  have F_rs_width := F_rs_width.keep K7 (ninS ne_rs_blk nin0)
  have F_rs_adding := F_rs_adding.keep K7 (ninS ne_rs_blk nin0)
  have F_rs_end := F_rs_end.keep K7 (ninS ne_rs_blk nin0)
  have F_rs_explored := F_rs_explored.keep K7 (ninS ne_rs_blk nin0)
  have F_rs_addingLength := F_rs_addingLength.keep K7 (ninS ne_rs_blk nin0)
  have F_rs_size := F_rs_size.keep K7 (ninS ne_rs_blk nin0)
  have F_al_elementData := F_al_elementData.keep K7 (ninS ne_al_blk nin0)
  have F_al_size := F_al_size.keep K7 (ninS ne_al_blk nin0)
  have A_od := A_od.keep K7 (ninS (Ne.symm ne_blk_od) nin0)
  have A_ad := A_ad.keep K7 (ninS ne_ad_blk nin0)
  have A_blk : AF Z h7 blk .byte 65536 (fun j => .int ((apF F p1 x1) j)) := A7.congr fun j _ => own_cpB hA j
  refine r_iloadN 88 X d16_87 rfl ?_
  refine r_iload 90 X d16_88 rfl ?_
  refine r_iadd 91 X d16_90 ?_
  refine r_topI (x' := an) (own_0add _) ?_
  refine r_istoreN 92 X #[.val (.ref rs), .val (.int an), .val (.int an), .val (.int en.toInt32), .val (.int an)] d16_91 rfl ?_
  refine r_aloadN 93 X d16_92 rfl rfl ?_
  refine r_dup 94 X d16_93 rfl ?_
  refine r_getfield 97 X (host := "") (Or.inl (hw _ (List.mem_of_getElem? (i := 85) rfl))) Via.refl F_rs_end d16_94 ?_
  intro T X
  refine r_iload 99 X d16_97 rfl ?_
  refine r_i2l 100 X d16_99 ?_
  refine r_ladd 101 X d16_100 ?_
  refine r_putfield 104 X (host := "") (Or.inl (hw _ (List.mem_of_getElem? (i := 85) rfl))) Via.refl F_rs_end E_rs (Or.inl (hw _ (List.mem_of_getElem? (i := 86) rfl))) (hw _ (List.mem_of_getElem? (i := 2) rfl)) (ty := .long) (by decide) rfl rfl g_rs d16_101 ?_
  intro T h8 W8 X
  have K := K.wr W8 (Or.inl (List.mem_of_getElem? (i := 0) rfl))
  have E_rs := E_rs.wr W8
  have E_al := E_al.wr W8
  have E_ad := E_ad.wr W8
  have E_blk := E_blk.wr W8
  have F_rs_blocks := F_rs_blocks.other W8 (Or.inr (slot_ne (Or.inr (hw _ (List.mem_of_getElem? (i := 35) rfl))) (Or.inl (hw _ (List.mem_of_getElem? (i := 86) rfl))) (by decide) (t := (.object "java/util/List")) (t' := .long) (by decide) (by decide)))
  have F_rs_table := F_rs_table.other W8 (Or.inr (slot_ne (Or.inr (hw _ (List.mem_of_getElem? (i := 70) rfl))) (Or.inl (hw _ (List.mem_of_getElem? (i := 86) rfl))) (by decide) (t := (.object "com/example/statera/statera/engine/IdTable")) (t' := .long) (by decide) (by decide)))
  have F_rs_width := F_rs_width.other W8 (Or.inr (slot_ne (Or.inr (hw _ (List.mem_of_getElem? (i := 72) rfl))) (Or.inl (hw _ (List.mem_of_getElem? (i := 86) rfl))) (by decide) (t := .int) (t' := .long) (by decide) (by decide)))
  have F_rs_adding := F_rs_adding.other W8 (Or.inr (slot_ne (Or.inr (hw _ (List.mem_of_getElem? (i := 75) rfl))) (Or.inl (hw _ (List.mem_of_getElem? (i := 86) rfl))) (by decide) (t := (.array .byte)) (t' := .long) (by decide) (by decide)))
  have F_rs_end := F_rs_end.same W8
  have F_rs_explored := F_rs_explored.other W8 (Or.inr (slot_ne (Or.inl (hw _ (List.mem_of_getElem? (i := 84) rfl))) (Or.inl (hw _ (List.mem_of_getElem? (i := 86) rfl))) (by decide) (t := .long) (t' := .long) (by decide) (by decide)))
  have F_rs_addingLength := F_rs_addingLength.other W8 (Or.inr (slot_ne (Or.inl (hw _ (List.mem_of_getElem? (i := 97) rfl))) (Or.inl (hw _ (List.mem_of_getElem? (i := 86) rfl))) (by decide) (t := .int) (t' := .long) (by decide) (by decide)))
  have F_rs_size := F_rs_size.other W8 (Or.inr (slot_ne (Or.inl (hw _ (List.mem_of_getElem? (i := 200) rfl))) (Or.inl (hw _ (List.mem_of_getElem? (i := 86) rfl))) (by decide) (t := .int) (t' := .long) (by decide) (by decide)))
  have F_al_elementData := F_al_elementData.other W8 (Or.inl (Ne.symm ne_rs_al))
  have F_al_size := F_al_size.other W8 (Or.inl (Ne.symm ne_rs_al))
  have A_od := A_od.other W8 (Ne.symm ne_rs_od)
  have A_ad := A_ad.other W8 (Ne.symm ne_rs_ad)
  have A_blk := A_blk.other W8 (Ne.symm ne_rs_blk)
  refine r_goto 2 X d16_104 ?_
  refine r_iloadN 3 X d16_2 rfl ?_
  refine r_iloadN 4 X d16_3 rfl ?_
  refine r_icmpY 107 X d16_4 (flt (fun z => absurd ((ltI hL hL).mp z) (by omega))).2.1 ?_
  refine r_retV X d16_107 (by decide) (by decide) ?_
  exact ⟨rfl, K, F_rs_blocks, F_rs_table, F_rs_width, F_rs_adding, F_rs_end, F_rs_explored, F_rs_addingLength, F_rs_size, A_blk⟩
theorem d36_0 : decode jdk_65_method_30_code 0 = .ok (.iload_n 1, 1) := by decide +kernel
theorem d36_1 : decode jdk_65_method_30_code 1 = .ok (.iload_n 2, 1) := by decide +kernel
theorem d36_2 : decode jdk_65_method_30_code 2 = .ok (.if_icmp .le 44, 3) := by decide +kernel
theorem d36_46 : decode jdk_65_method_30_code 46 = .ok (.iload_n 1, 1) := by decide +kernel
theorem d36_47 : decode jdk_65_method_30_code 47 = .ok (.ifCond .ge 12, 3) := by decide +kernel
theorem d36_59 : decode jdk_65_method_30_code 59 = .ok (.iload_n 2, 1) := by decide +kernel
theorem d36_60 : decode jdk_65_method_30_code 60 = .ok (.iload_n 0, 1) := by decide +kernel
theorem d36_61 : decode jdk_65_method_30_code 61 = .ok (.if_icmp .le 12, 3) := by decide +kernel
theorem d36_73 : decode jdk_65_method_30_code 73 = .ok (.return_, 1) := by decide +kernel
theorem pn_36 : plainName "java/util/Arrays" = true := by first | (simp [plainName, overriddenIn]; done) | decide +kernel
theorem ef_36 (m : MethodId) (x0 : Int32) (x1 : Int32) (x2 : Int32) : entryFrame m #[(.int x0), (.int x1), (.int x2)] 3 = mkF m 0 #[.val (.int x0), .val (.int x1), .val (.int x2)] [] := by first | (simp [entryFrame, mkF, argsToLocals, Value.category]; done) | rfl
set_option maxRecDepth 65536 in
set_option maxHeartbeats 40000000 in
theorem rmRc (l : Launch) (Z : State) (a0 : Array Value) (hw : ∀ d ∈ tables_1, d.before a0 Z = true) (n0 : Nat) (h : Heap) (Z0 : n0 ≤ h.size) (y1 y2 y3 : Int32) (k1 : ¬ y3 < y2) (k2 : ¬ y2 < (0 : Int32)) (k3 : ¬ y1 < y3) :
    Met1 l Z n0 [] (⟨"java/util/Arrays", "rangeCheck", "(III)V"⟩ : MethodName) jdk_65_method_30_code 3 none ({ frames := 0, cells := 0, slots := 0, locals := 0 } : Room) #[(.int y1), (.int y2), (.int y3)] h (fun v h' => v = none ∧ h = h') := by
  refine met_of (plainFor_of_name pn_36) Z0 (fun m => ef_36 m y1 y2 y3) ?_
  intro p e s m below meth c T hs0 X
  refine r_iloadN 1 X d36_0 rfl ?_
  refine r_iloadN 2 X d36_1 rfl ?_
  refine r_icmpY 46 X d36_2 (flt k1).2.2.2 ?_
  refine r_iloadN 47 X d36_46 rfl ?_
  refine r_ifY 59 X d36_47 ((if0 _ _).trans (flt k2).2.1) ?_
  refine r_iloadN 60 X d36_59 rfl ?_
  refine r_iloadN 61 X d36_60 rfl ?_
  refine r_icmpY 73 X d36_61 (flt k3).2.2.2 ?_
  refine r_retV X d36_73 (by decide) (by decide) ?_
  exact ⟨rfl, rfl⟩
theorem d37_0 : decode jdk_48_method_14_code 0 = .ok (.iconst 0, 1) := by decide +kernel
theorem d37_1 : decode jdk_48_method_14_code 1 = .ok (.istore 5, 2) := by decide +kernel
theorem d37_3 : decode jdk_48_method_14_code 3 = .ok (.iload 4, 2) := by decide +kernel
theorem d37_5 : decode jdk_48_method_14_code 5 = .ok (.bipush 7, 2) := by decide +kernel
theorem d37_7 : decode jdk_48_method_14_code 7 = .ok (.if_icmp .le 63, 3) := by decide +kernel
theorem d37_70 : decode jdk_48_method_14_code 70 = .ok (.iload 5, 2) := by decide +kernel
theorem d37_72 : decode jdk_48_method_14_code 72 = .ok (.iload 4, 2) := by decide +kernel
theorem d37_74 : decode jdk_48_method_14_code 74 = .ok (.if_icmp .ge 27, 3) := by decide +kernel
theorem d37_77 : decode jdk_48_method_14_code 77 = .ok (.aload_n 0, 1) := by decide +kernel
theorem d37_78 : decode jdk_48_method_14_code 78 = .ok (.iload_n 1, 1) := by decide +kernel
theorem d37_79 : decode jdk_48_method_14_code 79 = .ok (.iload 5, 2) := by decide +kernel
theorem d37_81 : decode jdk_48_method_14_code 81 = .ok (.iadd, 1) := by decide +kernel
theorem d37_82 : decode jdk_48_method_14_code 82 = .ok (.baload, 1) := by decide +kernel
theorem d37_83 : decode jdk_48_method_14_code 83 = .ok (.aload_n 2, 1) := by decide +kernel
theorem d37_84 : decode jdk_48_method_14_code 84 = .ok (.iload_n 3, 1) := by decide +kernel
theorem d37_85 : decode jdk_48_method_14_code 85 = .ok (.iload 5, 2) := by decide +kernel
theorem d37_87 : decode jdk_48_method_14_code 87 = .ok (.iadd, 1) := by decide +kernel
theorem d37_88 : decode jdk_48_method_14_code 88 = .ok (.baload, 1) := by decide +kernel
theorem d37_89 : decode jdk_48_method_14_code 89 = .ok (.if_icmp .eq 6, 3) := by decide +kernel
theorem d37_92 : decode jdk_48_method_14_code 92 = .ok (.iload 5, 2) := by decide +kernel
theorem d37_94 : decode jdk_48_method_14_code 94 = .ok (.ireturn, 1) := by decide +kernel
theorem d37_95 : decode jdk_48_method_14_code 95 = .ok (.iinc 5 1, 3) := by decide +kernel
theorem d37_98 : decode jdk_48_method_14_code 98 = .ok (.goto (-28), 3) := by decide +kernel
theorem d37_101 : decode jdk_48_method_14_code 101 = .ok (.iconst (-1), 1) := by decide +kernel
theorem d37_102 : decode jdk_48_method_14_code 102 = .ok (.ireturn, 1) := by decide +kernel
theorem pn_37 : plainName "jdk/internal/util/ArraysSupport" = true := by first | (simp [plainName, overriddenIn]; done) | decide +kernel
theorem ef_37 (m : MethodId) (x0 : Addr) (x1 : Int32) (x2 : Addr) (x3 : Int32) (x4 : Int32) : entryFrame m #[(.ref x0), (.int x1), (.ref x2), (.int x3), (.int x4)] 8 = mkF m 0 #[.val (.ref x0), .val (.int x1), .val (.ref x2), .val (.int x3), .val (.int x4), .unset, .unset, .unset] [] := by first | (simp [entryFrame, mkF, argsToLocals, Value.category]; done) | rfl
set_option maxRecDepth 65536 in
set_option maxHeartbeats 40000000 in
theorem rmMm (l : Launch) (Z : State) (a0 : Array Value) (hw : ∀ d ∈ tables_1, d.before a0 Z = true) (n0 : Nat) (h : Heap) (Z0 : n0 ≤ h.size) (ad blk : Nat) (off an : Int32) (p1 L : Nat) (F gA : Nat → Int32) (hoff : off.toInt = (p1 : Int)) (hp : p1 ≤ 60000) (hL : an.toInt = (L : Int)) (hL5 : L ≤ 5) (A_ad : AF Z h ad .byte 5 (fun j => .int (gA j))) (A_blk : AF Z h blk .byte 65536 (fun j => .int (F j))) :
    Met1 l Z n0 [] (⟨"jdk/internal/util/ArraysSupport", "mismatch", "([BI[BII)I"⟩ : MethodName) jdk_48_method_14_code 8 (some .int) ({ frames := 0, cells := 0, slots := 0, locals := 0 } : Room) #[(.ref blk), (.int off), (.ref ad), (.int (0 : Int32)), (.int an)] h (fun v h' => ∃ r : Int32, v = some (.int r) ∧ h = h' ∧ (r < (0 : Int32) ↔ Same F gA p1 L)) := by
  refine met_of (plainFor_of_name pn_37) Z0 (fun m => ef_37 m blk off ad (0 : Int32) an) ?_
  intro p e s m below meth c T hs0 X
  refine r_iconst 1 X (0 : Int32) d37_0 rfl ?_
  refine r_istore 3 X #[.val (.ref blk), .val (.int off), .val (.ref ad), .val (.int (0 : Int32)), .val (.int an), .val (.int (0 : Int32)), .unset, .unset] d37_1 rfl ?_
  refine r_iload 5 X d37_3 rfl ?_
  refine r_bipush 7 X (7 : Int32) d37_5 rfl ?_
  refine r_icmpY 70 X d37_7 (flt (fun z => absurd ((ltI (x := (7 : Int32)) (a := 7) rfl hL).mp z) (by omega))).2.2.2 ?_
  have loop : ∀ (r : Nat) (T : State) (i : Nat) (ii : Int32), i + r = L → ii.toInt = (i : Int) → (∀ k, k < i → F (p1 + k) = gA k) → Cx p l e ({ frames := 0, cells := 0, slots := 0, locals := 0 } : Room) s m #[(.ref blk), (.int off), (.ref ad), (.int (0 : Int32)), (.int an)] below meth c Z jdk_48_method_14_code 8 "jdk/internal/util/ArraysSupport" (some .int) "mismatch" n0 T h 0 0 → Run p e below m (Fin1 below s n0 (fun v h' => ∃ r : Int32, v = some (.int r) ∧ h = h' ∧ (r < (0 : Int32) ↔ Same F gA p1 L)) ({ frames := 0, cells := 0, slots := 0, locals := 0 } : Room).cells ({ frames := 0, cells := 0, slots := 0, locals := 0 } : Room).slots) T 70 #[.val (.ref blk), .val (.int off), .val (.ref ad), .val (.int (0 : Int32)), .val (.int an), .val (.int ii), .unset, .unset] [] := by
    intro r
    induction r with
    | zero =>
      intro T i ii hi hii hF X
      refine r_iload 72 X d37_70 rfl ?_
      refine r_iload 74 X d37_72 rfl ?_
      refine r_icmpY 101 X d37_74 (flt (fun z => absurd ((ltI hii hL).mp z) (by omega))).2.1 ?_
      refine r_iconst 102 X (-1 : Int32) d37_101 rfl ?_
      refine r_retI X d37_102 (by decide) (by decide) ?_
      exact ⟨_, rfl, rfl, ⟨fun _ => same_all.mpr fun k hk => hF k (by omega), fun _ => by decide⟩⟩
    | succ r ih =>
      intro T i ii hi hii hF X
      refine r_iload 72 X d37_70 rfl ?_
      refine r_iload 74 X d37_72 rfl ?_
      refine r_icmpN 77 X d37_74 (tlt ((ltI hii hL).mpr (by omega))).2.1 ?_
      refine r_aloadN 78 X d37_77 rfl rfl ?_
      refine r_iloadN 79 X d37_78 rfl ?_
      refine r_iload 81 X d37_79 rfl ?_
      refine r_iadd 82 X d37_81 ?_
      refine r_baloadB 83 X A_blk (i := (p1 + i)) (v := (.int (F (p1 + i)))) ((addI hoff hii (by omega) (by omega)).trans (by omega)) (by omega) rfl d37_82 ?_
      refine r_aloadN 84 X d37_83 rfl rfl ?_
      refine r_iloadN 85 X d37_84 rfl ?_
      refine r_iload 87 X d37_85 rfl ?_
      refine r_iadd 88 X d37_87 ?_
      refine r_baloadB 89 X A_ad (i := i) (v := (.int (gA i))) ((addI (x := (0 : Int32)) (a := 0) rfl hii (by omega) (by omega)).trans (by omega)) (by omega) rfl d37_88 ?_
      by_cases h89_1 : (F (p1 + i)) = (gA i)
      · refine r_icmpY 95 X d37_89 (teq h89_1).1 ?_
        refine r_iinc 98 X (1 : Int32) #[.val (.ref blk), .val (.int off), .val (.ref ad), .val (.int (0 : Int32)), .val (.int an), .val (.int (ii + (1 : Int32))), .unset, .unset] d37_95 rfl rfl rfl ?_
        refine r_goto 70 X d37_98 ?_
        exact ih _ (i + 1) _ (by omega) ((addI hii (y := (1 : Int32)) (b := 1) rfl (by omega) (by omega)).trans (by omega)) (fun k hk => by by_cases q : k < i; (exact hF k q); (obtain rfl : k = i := by omega); exact h89_1) X
      · refine r_icmpN 92 X d37_89 (feq h89_1).1 ?_
        refine r_iload 94 X d37_92 rfl ?_
        refine r_retI X d37_94 (by decide) (by decide) ?_
        exact ⟨_, rfl, rfl, ⟨fun z => absurd ((ltI hii (b := 0) rfl).mp z) (by omega), fun z => absurd (same_all.mp z i (by omega)) h89_1⟩⟩
  exact loop L _ 0 _ (Nat.zero_add _) rfl (fun k hk => absurd hk (Nat.not_lt_zero _)) X
theorem own_oe {o e a : Int32} {p L : Nat} (ho : o.toInt = (p : Int)) (he : e.toInt = ((p + L : Nat) : Int)) (ha : a.toInt = (L : Int)) (hp : p ≤ 60000) (hL : L ≤ 5) : e - o = a :=
  Int32.toInt_inj.mp ((subI he ho (by omega) (by omega)).trans (by omega))
theorem d35_0 : decode jdk_65_method_90_code 0 = .ok (.aload_n 0, 1) := by decide +kernel
theorem d35_1 : decode jdk_65_method_90_code 1 = .ok (.arraylength, 1) := by decide +kernel
theorem d35_2 : decode jdk_65_method_90_code 2 = .ok (.iload_n 1, 1) := by decide +kernel
theorem d35_3 : decode jdk_65_method_90_code 3 = .ok (.iload_n 2, 1) := by decide +kernel
theorem d35_4 : decode jdk_65_method_90_code 4 = .ok (.invokestatic 13, 3) := by decide +kernel
theorem d35_7 : decode jdk_65_method_90_code 7 = .ok (.aload_n 3, 1) := by decide +kernel
theorem d35_8 : decode jdk_65_method_90_code 8 = .ok (.arraylength, 1) := by decide +kernel
theorem d35_9 : decode jdk_65_method_90_code 9 = .ok (.iload 4, 2) := by decide +kernel
theorem d35_11 : decode jdk_65_method_90_code 11 = .ok (.iload 5, 2) := by decide +kernel
theorem d35_13 : decode jdk_65_method_90_code 13 = .ok (.invokestatic 13, 3) := by decide +kernel
theorem d35_16 : decode jdk_65_method_90_code 16 = .ok (.iload_n 2, 1) := by decide +kernel
theorem d35_17 : decode jdk_65_method_90_code 17 = .ok (.iload_n 1, 1) := by decide +kernel
theorem d35_18 : decode jdk_65_method_90_code 18 = .ok (.isub, 1) := by decide +kernel
theorem d35_19 : decode jdk_65_method_90_code 19 = .ok (.istore 6, 2) := by decide +kernel
theorem d35_21 : decode jdk_65_method_90_code 21 = .ok (.iload 5, 2) := by decide +kernel
theorem d35_23 : decode jdk_65_method_90_code 23 = .ok (.iload 4, 2) := by decide +kernel
theorem d35_25 : decode jdk_65_method_90_code 25 = .ok (.isub, 1) := by decide +kernel
theorem d35_26 : decode jdk_65_method_90_code 26 = .ok (.istore 7, 2) := by decide +kernel
theorem d35_28 : decode jdk_65_method_90_code 28 = .ok (.iload 6, 2) := by decide +kernel
theorem d35_30 : decode jdk_65_method_90_code 30 = .ok (.iload 7, 2) := by decide +kernel
theorem d35_32 : decode jdk_65_method_90_code 32 = .ok (.if_icmp .eq 5, 3) := by decide +kernel
theorem d35_37 : decode jdk_65_method_90_code 37 = .ok (.aload_n 0, 1) := by decide +kernel
theorem d35_38 : decode jdk_65_method_90_code 38 = .ok (.iload_n 1, 1) := by decide +kernel
theorem d35_39 : decode jdk_65_method_90_code 39 = .ok (.aload_n 3, 1) := by decide +kernel
theorem d35_40 : decode jdk_65_method_90_code 40 = .ok (.iload 4, 2) := by decide +kernel
theorem d35_42 : decode jdk_65_method_90_code 42 = .ok (.iload 6, 2) := by decide +kernel
theorem d35_44 : decode jdk_65_method_90_code 44 = .ok (.invokestatic 275, 3) := by decide +kernel
theorem d35_47 : decode jdk_65_method_90_code 47 = .ok (.ifCond .ge 7, 3) := by decide +kernel
theorem d35_50 : decode jdk_65_method_90_code 50 = .ok (.iconst 1, 1) := by decide +kernel
theorem d35_51 : decode jdk_65_method_90_code 51 = .ok (.goto 4, 3) := by decide +kernel
theorem d35_54 : decode jdk_65_method_90_code 54 = .ok (.iconst 0, 1) := by decide +kernel
theorem d35_55 : decode jdk_65_method_90_code 55 = .ok (.ireturn, 1) := by decide +kernel
theorem pn_35 : plainName "java/util/Arrays" = true := by first | (simp [plainName, overriddenIn]; done) | decide +kernel
theorem ef_35 (m : MethodId) (x0 : Addr) (x1 : Int32) (x2 : Int32) (x3 : Addr) (x4 : Int32) (x5 : Int32) : entryFrame m #[(.ref x0), (.int x1), (.int x2), (.ref x3), (.int x4), (.int x5)] 8 = mkF m 0 #[.val (.ref x0), .val (.int x1), .val (.int x2), .val (.ref x3), .val (.int x4), .val (.int x5), .unset, .unset] [] := by first | (simp [entryFrame, mkF, argsToLocals, Value.category]; done) | rfl
set_option maxRecDepth 65536 in
set_option maxHeartbeats 40000000 in
theorem rmEq (l : Launch) (Z : State) (a0 : Array Value) (hw : ∀ d ∈ tables_1, d.before a0 Z = true) (n0 : Nat) (h : Heap) (Z0 : n0 ≤ h.size) (ad blk : Nat) (off an : Int32) (p1 L : Nat) (F gA : Nat → Int32) (oe : Int32) (hoff : off.toInt = (p1 : Int)) (hp : p1 ≤ 60000) (hL : an.toInt = (L : Int)) (hL5 : L ≤ 5) (hoe : oe.toInt = ((p1 + L : Nat) : Int)) (A_ad : AF Z h ad .byte 5 (fun j => .int (gA j))) (A_blk : AF Z h blk .byte 65536 (fun j => .int (F j))) :
    Met1 l Z n0 [] (⟨"java/util/Arrays", "equals", "([BII[BII)Z"⟩ : MethodName) jdk_65_method_90_code 8 (some .boolean) ({ frames := 1, cells := 0, slots := 0, locals := 19 } : Room) #[(.ref blk), (.int off), (.int oe), (.ref ad), (.int (0 : Int32)), (.int an)] h (fun v h' => v = some (.int (b2i (Same F gA p1 L))) ∧ h = h') := by
  refine met_of (plainFor_of_name pn_35) Z0 (fun m => ef_35 m blk off oe ad (0 : Int32) an) ?_
  intro p e s m below meth c T hs0 X
  refine r_aloadN 1 X d35_0 rfl rfl ?_
  refine r_arraylength 2 X A_blk (65536 : Int32) (by decide) d35_1 ?_
  refine r_iloadN 3 X d35_2 rfl ?_
  refine r_iloadN 4 X d35_3 rfl ?_
  refine r_callS 7 X (st := []) (rmRc l Z a0 hw n0 _ X.sz (65536 : Int32) off oe (fun z => absurd ((ltI hoe hoff).mp z) (by omega)) (fun z => absurd ((ltI hoff (b := 0) rfl).mp z) (by omega)) (fun z => absurd ((ltI (x := (65536 : Int32)) (a := 65536) rfl hoe).mp z) (by omega))) (hw _ (List.mem_of_getElem? (i := 236) rfl)) (hw _ (List.mem_of_getElem? (i := 237) rfl)) (hw _ (List.mem_of_getElem? (i := 238) rfl)) (hw _ (List.mem_of_getElem? (i := 234) rfl)) (by decide) pd_14 [(.int (65536 : Int32)), (.int off), (.int oe)] rfl rfl 0 (Nat.le_of_eq rfl) rfl (by decide) (by decide) (by decide) (by decide) d35_4 ?_
  rintro T h1 v1 ⟨rfl, rfl⟩ X
  change Run _ _ _ _ _ _ _ _ []
  refine r_aloadN 8 X d35_7 rfl rfl ?_
  refine r_arraylength 9 X A_ad (5 : Int32) (by decide) d35_8 ?_
  refine r_iload 11 X d35_9 rfl ?_
  refine r_iload 13 X d35_11 rfl ?_
  refine r_callS 16 X (st := []) (rmRc l Z a0 hw n0 _ X.sz (5 : Int32) (0 : Int32) an (fun z => absurd ((ltI hL (b := 0) rfl).mp z) (by omega)) (by decide) (fun z => absurd ((ltI (x := (5 : Int32)) (a := 5) rfl hL).mp z) (by omega))) (hw _ (List.mem_of_getElem? (i := 236) rfl)) (hw _ (List.mem_of_getElem? (i := 237) rfl)) (hw _ (List.mem_of_getElem? (i := 238) rfl)) (hw _ (List.mem_of_getElem? (i := 234) rfl)) (by decide) pd_14 [(.int (5 : Int32)), (.int (0 : Int32)), (.int an)] rfl rfl 0 (Nat.le_of_eq rfl) rfl (by decide) (by decide) (by decide) (by decide) d35_13 ?_
  rintro T h2 v2 ⟨rfl, rfl⟩ X
  change Run _ _ _ _ _ _ _ _ []
  refine r_iloadN 17 X d35_16 rfl ?_
  refine r_iloadN 18 X d35_17 rfl ?_
  refine r_isub 19 X d35_18 ?_
  refine r_topI (x' := an) (own_oe hoff hoe hL hp hL5) ?_
  refine r_istore 21 X #[.val (.ref blk), .val (.int off), .val (.int oe), .val (.ref ad), .val (.int (0 : Int32)), .val (.int an), .val (.int an), .unset] d35_19 rfl ?_
  refine r_iload 23 X d35_21 rfl ?_
  refine r_iload 25 X d35_23 rfl ?_
  refine r_isub 26 X d35_25 ?_
  refine r_topI (x' := an) (own_sub0 _) ?_
  refine r_istore 28 X #[.val (.ref blk), .val (.int off), .val (.int oe), .val (.ref ad), .val (.int (0 : Int32)), .val (.int an), .val (.int an), .val (.int an)] d35_26 rfl ?_
  refine r_iload 30 X d35_28 rfl ?_
  refine r_iload 32 X d35_30 rfl ?_
  refine r_icmpY 37 X d35_32 (teq rfl).1 ?_
  refine r_aloadN 38 X d35_37 rfl rfl ?_
  refine r_iloadN 39 X d35_38 rfl ?_
  refine r_aloadN 40 X d35_39 rfl rfl ?_
  refine r_iload 42 X d35_40 rfl ?_
  refine r_iload 44 X d35_42 rfl ?_
  refine r_callS 47 X (st := []) (rmMm l Z a0 hw n0 _ X.sz ad blk off an p1 L F gA  hoff hp hL hL5 A_ad A_blk) (hw _ (List.mem_of_getElem? (i := 239) rfl)) (hw _ (List.mem_of_getElem? (i := 240) rfl)) (hw _ (List.mem_of_getElem? (i := 242) rfl)) (hw _ (List.mem_of_getElem? (i := 241) rfl)) (by decide) pd_15 [(.ref blk), (.int off), (.ref ad), (.int (0 : Int32)), (.int an)] rfl rfl 0 (Nat.le_of_eq rfl) rfl (by decide) (by decide) (by decide) (by decide) d35_44 ?_
  rintro T h3 v3 ⟨rr, rfl, rfl, hrr⟩ X
  change Run _ _ _ _ _ _ _ _ [(.int rr)]
  have J55_4 : ∀ (T : State), Cx p l e ({ frames := 1, cells := 0, slots := 0, locals := 19 } : Room) s m #[(.ref blk), (.int off), (.int oe), (.ref ad), (.int (0 : Int32)), (.int an)] below meth c Z jdk_65_method_90_code 8 "java/util/Arrays" (some .boolean) "equals" n0 T h 0 0 → Run p e below m (Fin1 below s n0 (fun v h' => v = some (.int (b2i (Same F gA p1 L))) ∧ h = h') ({ frames := 1, cells := 0, slots := 0, locals := 19 } : Room).cells ({ frames := 1, cells := 0, slots := 0, locals := 19 } : Room).slots) T 55 #[.val (.ref blk), .val (.int off), .val (.int oe), .val (.ref ad), .val (.int (0 : Int32)), .val (.int an), .val (.int an), .val (.int an)] [(.int (b2i (rr < (0 : Int32))))] := by
    intro T X
    refine r_retZ X d35_55 b2i_nar (by decide) (by decide) ?_
    exact ⟨congrArg (fun z => some (Value.int z)) (b2i_congr hrr), rfl⟩
  by_cases h47_5 : rr < (0 : Int32)
  · refine r_ifN 50 X d35_47 ((if0 _ _).trans (tlt h47_5).2.1) ?_
    refine r_iconst 51 X (1 : Int32) d35_50 rfl ?_
    refine r_goto 55 X d35_51 ?_
    refine r_topI (x' := (b2i (rr < (0 : Int32)))) (by simp [b2i, h47_5]) ?_
    exact J55_4 _ X
  · refine r_ifY 54 X d35_47 ((if0 _ _).trans (flt h47_5).2.1) ?_
    refine r_iconst 55 X (0 : Int32) d35_54 rfl ?_
    refine r_topI (x' := (b2i (rr < (0 : Int32)))) (by simp [b2i, h47_5]) ?_
    exact J55_4 _ X
theorem d34_0 : decode prog_19_method_10_code 0 = .ok (.lload_n 1, 1) := by decide +kernel
theorem d34_1 : decode prog_19_method_10_code 1 = .ok (.lstore 4, 2) := by decide +kernel
theorem d34_3 : decode prog_19_method_10_code 3 = .ok (.iconst 0, 1) := by decide +kernel
theorem d34_4 : decode prog_19_method_10_code 4 = .ok (.istore 6, 2) := by decide +kernel
theorem d34_6 : decode prog_19_method_10_code 6 = .ok (.iload 6, 2) := by decide +kernel
theorem d34_8 : decode prog_19_method_10_code 8 = .ok (.iload_n 3, 1) := by decide +kernel
theorem d34_9 : decode prog_19_method_10_code 9 = .ok (.if_icmp .ge 89, 3) := by decide +kernel
theorem d34_12 : decode prog_19_method_10_code 12 = .ok (.aload_n 0, 1) := by decide +kernel
theorem d34_13 : decode prog_19_method_10_code 13 = .ok (.getfield 10, 3) := by decide +kernel
theorem d34_16 : decode prog_19_method_10_code 16 = .ok (.lload 4, 2) := by decide +kernel
theorem d34_18 : decode prog_19_method_10_code 18 = .ok (.invokestatic 84, 3) := by decide +kernel
theorem d34_21 : decode prog_19_method_10_code 21 = .ok (.invokeinterface 88 2, 5) := by decide +kernel
theorem d34_26 : decode prog_19_method_10_code 26 = .ok (.checkcast 92, 3) := by decide +kernel
theorem d34_29 : decode prog_19_method_10_code 29 = .ok (.astore 7, 2) := by decide +kernel
theorem d34_31 : decode prog_19_method_10_code 31 = .ok (.lload 4, 2) := by decide +kernel
theorem d34_33 : decode prog_19_method_10_code 33 = .ok (.invokestatic 93, 3) := by decide +kernel
theorem d34_36 : decode prog_19_method_10_code 36 = .ok (.istore 8, 2) := by decide +kernel
theorem d34_38 : decode prog_19_method_10_code 38 = .ok (.iload_n 3, 1) := by decide +kernel
theorem d34_39 : decode prog_19_method_10_code 39 = .ok (.iload 6, 2) := by decide +kernel
theorem d34_41 : decode prog_19_method_10_code 41 = .ok (.isub, 1) := by decide +kernel
theorem d34_42 : decode prog_19_method_10_code 42 = .ok (.ldc 96, 2) := by decide +kernel
theorem d34_44 : decode prog_19_method_10_code 44 = .ok (.iload 8, 2) := by decide +kernel
theorem d34_46 : decode prog_19_method_10_code 46 = .ok (.isub, 1) := by decide +kernel
theorem d34_47 : decode prog_19_method_10_code 47 = .ok (.invokestatic 97, 3) := by decide +kernel
theorem d34_50 : decode prog_19_method_10_code 50 = .ok (.istore 9, 2) := by decide +kernel
theorem d34_52 : decode prog_19_method_10_code 52 = .ok (.aload 7, 2) := by decide +kernel
theorem d34_54 : decode prog_19_method_10_code 54 = .ok (.iload 8, 2) := by decide +kernel
theorem d34_56 : decode prog_19_method_10_code 56 = .ok (.iload 8, 2) := by decide +kernel
theorem d34_58 : decode prog_19_method_10_code 58 = .ok (.iload 9, 2) := by decide +kernel
theorem d34_60 : decode prog_19_method_10_code 60 = .ok (.iadd, 1) := by decide +kernel
theorem d34_61 : decode prog_19_method_10_code 61 = .ok (.aload_n 0, 1) := by decide +kernel
theorem d34_62 : decode prog_19_method_10_code 62 = .ok (.getfield 34, 3) := by decide +kernel
theorem d34_65 : decode prog_19_method_10_code 65 = .ok (.iload 6, 2) := by decide +kernel
theorem d34_67 : decode prog_19_method_10_code 67 = .ok (.iload 6, 2) := by decide +kernel
theorem d34_69 : decode prog_19_method_10_code 69 = .ok (.iload 9, 2) := by decide +kernel
theorem d34_71 : decode prog_19_method_10_code 71 = .ok (.iadd, 1) := by decide +kernel
theorem d34_72 : decode prog_19_method_10_code 72 = .ok (.invokestatic 102, 3) := by decide +kernel
theorem d34_75 : decode prog_19_method_10_code 75 = .ok (.ifCond .ne 5, 3) := by decide +kernel
theorem d34_78 : decode prog_19_method_10_code 78 = .ok (.iconst 0, 1) := by decide +kernel
theorem d34_79 : decode prog_19_method_10_code 79 = .ok (.ireturn, 1) := by decide +kernel
theorem d34_80 : decode prog_19_method_10_code 80 = .ok (.iload 6, 2) := by decide +kernel
theorem d34_82 : decode prog_19_method_10_code 82 = .ok (.iload 9, 2) := by decide +kernel
theorem d34_84 : decode prog_19_method_10_code 84 = .ok (.iadd, 1) := by decide +kernel
theorem d34_85 : decode prog_19_method_10_code 85 = .ok (.istore 6, 2) := by decide +kernel
theorem d34_87 : decode prog_19_method_10_code 87 = .ok (.lload 4, 2) := by decide +kernel
theorem d34_89 : decode prog_19_method_10_code 89 = .ok (.iload 9, 2) := by decide +kernel
theorem d34_91 : decode prog_19_method_10_code 91 = .ok (.i2l, 1) := by decide +kernel
theorem d34_92 : decode prog_19_method_10_code 92 = .ok (.ladd, 1) := by decide +kernel
theorem d34_93 : decode prog_19_method_10_code 93 = .ok (.lstore 4, 2) := by decide +kernel
theorem d34_95 : decode prog_19_method_10_code 95 = .ok (.goto (-89), 3) := by decide +kernel
theorem d34_98 : decode prog_19_method_10_code 98 = .ok (.iconst 1, 1) := by decide +kernel
theorem d34_99 : decode prog_19_method_10_code 99 = .ok (.ireturn, 1) := by decide +kernel
theorem pn_34 : plainName "com/example/statera/statera/engine/ReachedStates" = true := by first | (simp [plainName, overriddenIn]; done) | decide +kernel
theorem ef_34 (m : MethodId) (x0 : Addr) (x1 : Int64) (x2 : Int32) : entryFrame m #[(.ref x0), (.long x1), (.int x2)] 10 = mkF m 0 #[.val (.ref x0), .val (.long x1), .second, .val (.int x2), .unset, .unset, .unset, .unset, .unset, .unset] [] := by first | (simp [entryFrame, mkF, argsToLocals, Value.category]; done) | rfl
set_option maxRecDepth 65536 in
set_option maxHeartbeats 40000000 in
theorem rmHo (l : Launch) (Z : State) (a0 : Array Value) (hw : ∀ d ∈ tables_1, d.before a0 Z = true) (n0 : Nat) (h : Heap) (Z0 : n0 ≤ h.size) (rs al ad blk od : Nat) (q1 : Int64) (an : Int32) (p1 L : Nat) (F gA : Nat → Int32) (hq : q1.toInt = (p1 : Int)) (hp : p1 ≤ 60000) (hL : an.toInt = (L : Int)) (hL1 : 1 ≤ L) (hL5 : L ≤ 5) (E_rs : Exa Z h rs "com/example/statera/statera/engine/ReachedStates") (E_al : Exa Z h al "java/util/ArrayList") (E_blk : Exa Z h blk "[B") (F_rs_blocks : Fld Z h rs "com/example/statera/statera/engine/ReachedStates" "blocks" "Ljava/util/List;" (.ref al)) (F_rs_adding : Fld Z h rs "com/example/statera/statera/engine/ReachedStates" "adding" "[B" (.ref ad)) (F_al_elementData : Fld Z h al "java/util/ArrayList" "elementData" "[Ljava/lang/Object;" (.ref od)) (F_al_size : Fld Z h al "java/util/ArrayList" "size" "I" (.int (1 : Int32))) (A_od : AF Z h od (.object "java/lang/Object") 10 (upd (fun _ => .null) 0 (.ref blk))) (A_ad : AF Z h ad .byte 5 (fun j => .int (gA j))) (A_blk : AF Z h blk .byte 65536 (fun j => .int (F j))) :
    Met1 l Z n0 [] (⟨"com/example/statera/statera/engine/ReachedStates", "holds", "(JI)Z"⟩ : MethodName) prog_19_method_10_code 10 (some .boolean) ({ frames := 3, cells := 0, slots := 0, locals := 40 } : Room) #[(.ref rs), (.long q1), (.int an)] h (fun v h' => v = some (.int (b2i (Same F gA p1 L))) ∧ h = h') := by
  refine met_of (plainFor_of_name pn_34) Z0 (fun m => ef_34 m rs q1 an) ?_
  intro p e s m below meth c T hs0 X
  refine r_lloadN 1 X d34_0 rfl ?_
  refine r_lstore 3 X #[.val (.ref rs), .val (.long q1), .second, .val (.int an), .val (.long q1), .second, .unset, .unset, .unset, .unset] d34_1 rfl ?_
  refine r_iconst 4 X (0 : Int32) d34_3 rfl ?_
  refine r_istore 6 X #[.val (.ref rs), .val (.long q1), .second, .val (.int an), .val (.long q1), .second, .val (.int (0 : Int32)), .unset, .unset, .unset] d34_4 rfl ?_
  refine r_iload 8 X d34_6 rfl ?_
  refine r_iloadN 9 X d34_8 rfl ?_
  refine r_icmpN 12 X d34_9 (tlt ((ltI (a := 0) rfl hL).mpr (by omega))).2.1 ?_
  refine r_aloadN 13 X d34_12 rfl rfl ?_
  refine r_getfield 16 X (host := "") (Or.inl (hw _ (List.mem_of_getElem? (i := 34) rfl))) Via.refl F_rs_blocks d34_13 ?_
  intro T X
  refine r_lload 18 X d34_16 rfl ?_
  refine r_callS 21 X (st := [(.ref al)]) (rmBl l Z a0 hw n0 _ X.sz q1 p1 hq (by omega)) (hw _ (List.mem_of_getElem? (i := 120) rfl)) (hw _ (List.mem_of_getElem? (i := 121) rfl)) (hw _ (List.mem_of_getElem? (i := 122) rfl)) (hw _ (List.mem_of_getElem? (i := 3) rfl)) (by decide) pd_8 [(.long q1)] rfl rfl 1 (Nat.le_of_eq rfl) rfl (by decide) (by decide) (by decide) (by decide) d34_18 ?_
  rintro T h1 v1 ⟨rfl, rfl⟩ X
  change Run _ _ _ _ _ _ _ _ [(.int (0 : Int32)), (.ref al)]
  refine r_interface 26 X (st := []) (a := al) (rmGe l Z a0 hw n0 _ X.sz al blk od    E_al F_al_elementData F_al_size A_od) E_al (hw _ (List.mem_of_getElem? (i := 174) rfl)) (hw _ (List.mem_of_getElem? (i := 175) rfl)) (hw _ (List.mem_of_getElem? (i := 176) rfl)) (hw _ (List.mem_of_getElem? (i := 177) rfl)) (hw _ (List.mem_of_getElem? (i := 178) rfl)) (hw _ (List.mem_of_getElem? (i := 179) rfl)) (hw _ (List.mem_of_getElem? (i := 180) rfl)) (hw _ (List.mem_of_getElem? (i := 131) rfl)) (by decide) (by decide) (hw _ (List.mem_of_getElem? (i := 181) rfl)) (hw _ (List.mem_of_getElem? (i := 12) rfl)) pd_3 [(.int (0 : Int32))] rfl rfl 0 (Nat.le_of_eq rfl) rfl (by decide) (by decide) (by decide) (by decide) d34_21 ?_
  rintro T h2 v2 ⟨rfl, rfl⟩ X
  change Run _ _ _ _ _ _ _ _ [(.ref blk)]
  refine r_castY 29 X (hw _ (List.mem_of_getElem? (i := 215) rfl)) (Ins.self E_blk) d34_26 ?_
  intro T X
  refine r_astore 31 X #[.val (.ref rs), .val (.long q1), .second, .val (.int an), .val (.long q1), .second, .val (.int (0 : Int32)), .val (.ref blk), .unset, .unset] d34_29 rfl rfl ?_
  refine r_lload 33 X d34_31 rfl ?_
  refine r_callS 36 X (st := []) (rmOf l Z a0 hw n0 _ X.sz q1 p1 hq (by omega)) (hw _ (List.mem_of_getElem? (i := 168) rfl)) (hw _ (List.mem_of_getElem? (i := 169) rfl)) (hw _ (List.mem_of_getElem? (i := 170) rfl)) (hw _ (List.mem_of_getElem? (i := 3) rfl)) (by decide) pd_8 [(.long q1)] rfl rfl 0 (Nat.le_of_eq rfl) rfl (by decide) (by decide) (by decide) (by decide) d34_33 ?_
  rintro T h3 v3 ⟨rfl, rfl⟩ X
  change Run _ _ _ _ _ _ _ _ [(.int q1.toInt32)]
  refine r_istore 38 X #[.val (.ref rs), .val (.long q1), .second, .val (.int an), .val (.long q1), .second, .val (.int (0 : Int32)), .val (.ref blk), .val (.int q1.toInt32), .unset] d34_36 rfl ?_
  refine r_iloadN 39 X d34_38 rfl ?_
  refine r_iload 41 X d34_39 rfl ?_
  refine r_isub 42 X d34_41 ?_
  refine r_topI (x' := an) (own_sub0 _) ?_
  refine r_ldcInt 44 X (hw _ (List.mem_of_getElem? (i := 135) rfl)) d34_42 ?_
  refine r_iload 46 X d34_44 rfl ?_
  refine r_isub 47 X d34_46 ?_
  refine r_callS 50 X (st := []) (rmMn l Z a0 hw n0 _ X.sz an ((65536 : Int32) - q1.toInt32)) (hw _ (List.mem_of_getElem? (i := 171) rfl)) (hw _ (List.mem_of_getElem? (i := 172) rfl)) (hw _ (List.mem_of_getElem? (i := 173) rfl)) (hw _ (List.mem_of_getElem? (i := 163) rfl)) (by decide) pd_2 [(.int an), (.int ((65536 : Int32) - q1.toInt32))] rfl rfl 0 (Nat.le_of_eq rfl) rfl (by decide) (by decide) (by decide) (by decide) d34_47 ?_
  rintro T h4 v4 ⟨rfl, rfl⟩ X
  change Run _ _ _ _ _ _ _ _ [(.int (mnI an ((65536 : Int32) - q1.toInt32)))]
  refine r_topI (x' := an) (own_mn hL (own_off hq (by omega)) (by omega) (by omega)) ?_
  refine r_istore 52 X #[.val (.ref rs), .val (.long q1), .second, .val (.int an), .val (.long q1), .second, .val (.int (0 : Int32)), .val (.ref blk), .val (.int q1.toInt32), .val (.int an)] d34_50 rfl ?_
  refine r_aload 54 X d34_52 rfl rfl ?_
  refine r_iload 56 X d34_54 rfl ?_
  refine r_iload 58 X d34_56 rfl ?_
  refine r_iload 60 X d34_58 rfl ?_
  refine r_iadd 61 X d34_60 ?_
  have hoff := own_off hq (by omega)
  have hoe : (q1.toInt32 + an).toInt = ((p1 + L : Nat) : Int) := (addI hoff hL (by omega) (by omega)).trans (by omega)
  refine r_aloadN 62 X d34_61 rfl rfl ?_
  refine r_getfield 65 X (host := "") (Or.inl (hw _ (List.mem_of_getElem? (i := 74) rfl))) Via.refl F_rs_adding d34_62 ?_
  intro T X
  refine r_iload 67 X d34_65 rfl ?_
  refine r_iload 69 X d34_67 rfl ?_
  refine r_iload 71 X d34_69 rfl ?_
  refine r_iadd 72 X d34_71 ?_
  refine r_topI (x' := an) (own_0add _) ?_
  refine r_callS 75 X (st := []) (rmEq l Z a0 hw n0 _ X.sz ad blk q1.toInt32 an p1 L F gA (q1.toInt32 + an)  hoff hp hL hL5 hoe A_ad A_blk) (hw _ (List.mem_of_getElem? (i := 232) rfl)) (hw _ (List.mem_of_getElem? (i := 233) rfl)) (hw _ (List.mem_of_getElem? (i := 235) rfl)) (hw _ (List.mem_of_getElem? (i := 234) rfl)) (by decide) pd_16 [(.ref blk), (.int q1.toInt32), (.int (q1.toInt32 + an)), (.ref ad), (.int (0 : Int32)), (.int an)] rfl rfl 0 (Nat.le_of_eq rfl) rfl (by decide) (by decide) (by decide) (by decide) d34_72 ?_
  rintro T h5 v5 ⟨rfl, rfl⟩ X
  change Run _ _ _ _ _ _ _ _ [(.int (b2i (Same F gA p1 L)))]
  by_cases h75_6 : Same F gA p1 L
  · refine r_ifY 80 X d34_75 ((if0 _ _).trans (feq (b2i_ne0 h75_6)).2) ?_
    refine r_iload 82 X d34_80 rfl ?_
    refine r_iload 84 X d34_82 rfl ?_
    refine r_iadd 85 X d34_84 ?_
    refine r_topI (x' := an) (own_0add _) ?_
    refine r_istore 87 X #[.val (.ref rs), .val (.long q1), .second, .val (.int an), .val (.long q1), .second, .val (.int an), .val (.ref blk), .val (.int q1.toInt32), .val (.int an)] d34_85 rfl ?_
    refine r_lload 89 X d34_87 rfl ?_
    refine r_iload 91 X d34_89 rfl ?_
    refine r_i2l 92 X d34_91 ?_
    refine r_ladd 93 X d34_92 ?_
    refine r_lstore 95 X #[.val (.ref rs), .val (.long q1), .second, .val (.int an), .val (.long (q1 + (an.toInt64))), .second, .val (.int an), .val (.ref blk), .val (.int q1.toInt32), .val (.int an)] d34_93 rfl ?_
    refine r_goto 6 X d34_95 ?_
    refine r_iload 8 X d34_6 rfl ?_
    refine r_iloadN 9 X d34_8 rfl ?_
    refine r_icmpY 98 X d34_9 (flt (fun z => absurd ((ltI hL hL).mp z) (by omega))).2.1 ?_
    refine r_iconst 99 X (1 : Int32) d34_98 rfl ?_
    refine r_retZ (z := (1 : Int32)) X d34_99 rfl (by decide) (by decide) ?_
    exact ⟨congrArg (fun z => some (Value.int z)) (b2i_t h75_6).symm, rfl⟩
  · refine r_ifN 78 X d34_75 ((if0 _ _).trans (teq (b2i_eq0 h75_6)).2) ?_
    refine r_iconst 79 X (0 : Int32) d34_78 rfl ?_
    refine r_retZ (z := (0 : Int32)) X d34_79 rfl (by decide) (by decide) ?_
    exact ⟨congrArg (fun z => some (Value.int z)) (b2i_f h75_6).symm, rfl⟩
theorem d33_0 : decode prog_20_method_2_code 0 = .ok (.aload_n 0, 1) := by decide +kernel
theorem d33_1 : decode prog_20_method_2_code 1 = .ok (.getfield 1, 3) := by decide +kernel
theorem d33_4 : decode prog_20_method_2_code 4 = .ok (.lload_n 1, 1) := by decide +kernel
theorem d33_5 : decode prog_20_method_2_code 5 = .ok (.aload_n 0, 1) := by decide +kernel
theorem d33_6 : decode prog_20_method_2_code 6 = .ok (.getfield 1, 3) := by decide +kernel
theorem d33_9 : decode prog_20_method_2_code 9 = .ok (.getfield 13, 3) := by decide +kernel
theorem d33_12 : decode prog_20_method_2_code 12 = .ok (.invokevirtual 19, 3) := by decide +kernel
theorem d33_15 : decode prog_20_method_2_code 15 = .ok (.ireturn, 1) := by decide +kernel
theorem pn_33 : plainName "com/example/statera/statera/engine/ReachedStates$States" = true := by first | (simp [plainName, overriddenIn]; done) | decide +kernel
theorem ef_33 (m : MethodId) (x0 : Addr) (x1 : Int64) : entryFrame m #[(.ref x0), (.long x1)] 3 = mkF m 0 #[.val (.ref x0), .val (.long x1), .second] [] := by first | (simp [entryFrame, mkF, argsToLocals, Value.category]; done) | rfl
set_option maxRecDepth 65536 in
set_option maxHeartbeats 40000000 in
theorem rmMa (l : Launch) (Z : State) (a0 : Array Value) (hw : ∀ d ∈ tables_1, d.before a0 Z = true) (n0 : Nat) (h : Heap) (Z0 : n0 ≤ h.size) (rs al st ad blk od : Nat) (q1 : Int64) (an : Int32) (p1 L : Nat) (F gA : Nat → Int32) (hq : q1.toInt = (p1 : Int)) (hp : p1 ≤ 60000) (hL : an.toInt = (L : Int)) (hL1 : 1 ≤ L) (hL5 : L ≤ 5) (E_rs : Exa Z h rs "com/example/statera/statera/engine/ReachedStates") (E_al : Exa Z h al "java/util/ArrayList") (E_blk : Exa Z h blk "[B") (F_rs_blocks : Fld Z h rs "com/example/statera/statera/engine/ReachedStates" "blocks" "Ljava/util/List;" (.ref al)) (F_rs_adding : Fld Z h rs "com/example/statera/statera/engine/ReachedStates" "adding" "[B" (.ref ad)) (F_al_elementData : Fld Z h al "java/util/ArrayList" "elementData" "[Ljava/lang/Object;" (.ref od)) (F_al_size : Fld Z h al "java/util/ArrayList" "size" "I" (.int (1 : Int32))) (A_od : AF Z h od (.object "java/lang/Object") 10 (upd (fun _ => .null) 0 (.ref blk))) (A_ad : AF Z h ad .byte 5 (fun j => .int (gA j))) (A_blk : AF Z h blk .byte 65536 (fun j => .int (F j))) (E_st : Exa Z h st "com/example/statera/statera/engine/ReachedStates$States") (F_st_this_0 : Fld Z h st "com/example/statera/statera/engine/ReachedStates$States" "this$0" "Lcom/example/statera/statera/engine/ReachedStates;" (.ref rs)) (F_rs_addingLength : Fld Z h rs "com/example/statera/statera/engine/ReachedStates" "addingLength" "I" (.int an)) :
    Met1 l Z n0 [] (⟨"com/example/statera/statera/engine/ReachedStates$States", "matches", "(J)Z"⟩ : MethodName) prog_20_method_2_code 3 (some .boolean) ({ frames := 4, cells := 0, slots := 0, locals := 61 } : Room) #[(.ref st), (.long q1)] h (fun v h' => v = some (.int (b2i (Same F gA p1 L))) ∧ h = h') := by
  refine met_of (plainFor_of_name pn_33) Z0 (fun m => ef_33 m st q1) ?_
  intro p e s m below meth c T hs0 X
  refine r_aloadN 1 X d33_0 rfl rfl ?_
  refine r_getfield 4 X (host := "") (Or.inl (hw _ (List.mem_of_getElem? (i := 45) rfl))) Via.refl F_st_this_0 d33_1 ?_
  intro T X
  refine r_lloadN 5 X d33_4 rfl ?_
  refine r_aloadN 6 X d33_5 rfl rfl ?_
  refine r_getfield 9 X (host := "") (Or.inl (hw _ (List.mem_of_getElem? (i := 45) rfl))) Via.refl F_st_this_0 d33_6 ?_
  intro T X
  refine r_getfield 12 X (Or.inr (hw _ (List.mem_of_getElem? (i := 227) rfl))) Via.refl F_rs_addingLength d33_9 ?_
  intro T X
  refine r_privateN 15 X (st := []) (a := rs) (rmHo l Z a0 hw n0 _ X.sz rs al ad blk od q1 an p1 L F gA  hq hp hL hL1 hL5 E_rs E_al E_blk F_rs_blocks F_rs_adding F_al_elementData F_al_size A_od A_ad A_blk) E_rs (hw _ (List.mem_of_getElem? (i := 228) rfl)) (hw _ (List.mem_of_getElem? (i := 229) rfl)) (hw _ (List.mem_of_getElem? (i := 2) rfl)) (hw _ (List.mem_of_getElem? (i := 230) rfl)) (hw _ (List.mem_of_getElem? (i := 231) rfl)) (hw _ (List.mem_of_getElem? (i := 3) rfl)) (by decide) pd_17 [(.long q1), (.int an)] rfl rfl 0 (Nat.le_of_eq rfl) rfl (by decide) (by decide) (by decide) (by decide) d33_12 ?_
  rintro T h1 v1 ⟨rfl, rfl⟩ X
  change Run _ _ _ _ _ _ _ _ [(.int (b2i (Same F gA p1 L)))]
  refine r_retZ X d33_15 b2i_nar (by decide) (by decide) ?_
  exact ⟨rfl, rfl⟩
theorem d15_0 : decode prog_10_method_2_code 0 = .ok (.lload_n 3, 1) := by decide +kernel
theorem d15_1 : decode prog_10_method_2_code 1 = .ok (.lconst 0, 1) := by decide +kernel
theorem d15_2 : decode prog_10_method_2_code 2 = .ok (.lcmp, 1) := by decide +kernel
theorem d15_3 : decode prog_10_method_2_code 3 = .ok (.ifCond .lt 11, 3) := by decide +kernel
theorem d15_6 : decode prog_10_method_2_code 6 = .ok (.lload_n 3, 1) := by decide +kernel
theorem d15_7 : decode prog_10_method_2_code 7 = .ok (.ldc2_w 29, 3) := by decide +kernel
theorem d15_10 : decode prog_10_method_2_code 10 = .ok (.lcmp, 1) := by decide +kernel
theorem d15_11 : decode prog_10_method_2_code 11 = .ok (.ifCond .le 17, 3) := by decide +kernel
theorem d15_28 : decode prog_10_method_2_code 28 = .ok (.lload_n 1, 1) := by decide +kernel
theorem d15_29 : decode prog_10_method_2_code 29 = .ok (.ldc2_w 40, 3) := by decide +kernel
theorem d15_32 : decode prog_10_method_2_code 32 = .ok (.land, 1) := by decide +kernel
theorem d15_33 : decode prog_10_method_2_code 33 = .ok (.lstore 5, 2) := by decide +kernel
theorem d15_35 : decode prog_10_method_2_code 35 = .ok (.aload_n 0, 1) := by decide +kernel
theorem d15_36 : decode prog_10_method_2_code 36 = .ok (.getfield 11, 3) := by decide +kernel
theorem d15_39 : decode prog_10_method_2_code 39 = .ok (.arraylength, 1) := by decide +kernel
theorem d15_40 : decode prog_10_method_2_code 40 = .ok (.iconst 1, 1) := by decide +kernel
theorem d15_41 : decode prog_10_method_2_code 41 = .ok (.isub, 1) := by decide +kernel
theorem d15_42 : decode prog_10_method_2_code 42 = .ok (.istore 7, 2) := by decide +kernel
theorem d15_44 : decode prog_10_method_2_code 44 = .ok (.lload_n 1, 1) := by decide +kernel
theorem d15_45 : decode prog_10_method_2_code 45 = .ok (.aload_n 0, 1) := by decide +kernel
theorem d15_46 : decode prog_10_method_2_code 46 = .ok (.getfield 21, 3) := by decide +kernel
theorem d15_49 : decode prog_10_method_2_code 49 = .ok (.lushr, 1) := by decide +kernel
theorem d15_50 : decode prog_10_method_2_code 50 = .ok (.l2i, 1) := by decide +kernel
theorem d15_51 : decode prog_10_method_2_code 51 = .ok (.istore 8, 2) := by decide +kernel
theorem d15_53 : decode prog_10_method_2_code 53 = .ok (.aload_n 0, 1) := by decide +kernel
theorem d15_54 : decode prog_10_method_2_code 54 = .ok (.getfield 11, 3) := by decide +kernel
theorem d15_57 : decode prog_10_method_2_code 57 = .ok (.iload 8, 2) := by decide +kernel
theorem d15_59 : decode prog_10_method_2_code 59 = .ok (.laload, 1) := by decide +kernel
theorem d15_60 : decode prog_10_method_2_code 60 = .ok (.lconst 0, 1) := by decide +kernel
theorem d15_61 : decode prog_10_method_2_code 61 = .ok (.lcmp, 1) := by decide +kernel
theorem d15_62 : decode prog_10_method_2_code 62 = .ok (.ifCond .eq 64, 3) := by decide +kernel
theorem d15_65 : decode prog_10_method_2_code 65 = .ok (.aload_n 0, 1) := by decide +kernel
theorem d15_66 : decode prog_10_method_2_code 66 = .ok (.getfield 11, 3) := by decide +kernel
theorem d15_69 : decode prog_10_method_2_code 69 = .ok (.iload 8, 2) := by decide +kernel
theorem d15_71 : decode prog_10_method_2_code 71 = .ok (.laload, 1) := by decide +kernel
theorem d15_72 : decode prog_10_method_2_code 72 = .ok (.ldc2_w 42, 3) := by decide +kernel
theorem d15_75 : decode prog_10_method_2_code 75 = .ok (.land, 1) := by decide +kernel
theorem d15_76 : decode prog_10_method_2_code 76 = .ok (.lconst 1, 1) := by decide +kernel
theorem d15_77 : decode prog_10_method_2_code 77 = .ok (.lsub, 1) := by decide +kernel
theorem d15_78 : decode prog_10_method_2_code 78 = .ok (.lstore 9, 2) := by decide +kernel
theorem d15_80 : decode prog_10_method_2_code 80 = .ok (.aload_n 0, 1) := by decide +kernel
theorem d15_81 : decode prog_10_method_2_code 81 = .ok (.getfield 11, 3) := by decide +kernel
theorem d15_84 : decode prog_10_method_2_code 84 = .ok (.iload 8, 2) := by decide +kernel
theorem d15_86 : decode prog_10_method_2_code 86 = .ok (.laload, 1) := by decide +kernel
theorem d15_87 : decode prog_10_method_2_code 87 = .ok (.ldc2_w 40, 3) := by decide +kernel
theorem d15_90 : decode prog_10_method_2_code 90 = .ok (.land, 1) := by decide +kernel
theorem d15_91 : decode prog_10_method_2_code 91 = .ok (.lload 5, 2) := by decide +kernel
theorem d15_93 : decode prog_10_method_2_code 93 = .ok (.lcmp, 1) := by decide +kernel
theorem d15_94 : decode prog_10_method_2_code 94 = .ok (.ifCond .ne 20, 3) := by decide +kernel
theorem d15_97 : decode prog_10_method_2_code 97 = .ok (.aload_n 0, 1) := by decide +kernel
theorem d15_98 : decode prog_10_method_2_code 98 = .ok (.getfield 25, 3) := by decide +kernel
theorem d15_101 : decode prog_10_method_2_code 101 = .ok (.lload 9, 2) := by decide +kernel
theorem d15_103 : decode prog_10_method_2_code 103 = .ok (.invokeinterface 44 3, 5) := by decide +kernel
theorem d15_108 : decode prog_10_method_2_code 108 = .ok (.ifCond .eq 6, 3) := by decide +kernel
theorem d15_114 : decode prog_10_method_2_code 114 = .ok (.iload 8, 2) := by decide +kernel
theorem d15_116 : decode prog_10_method_2_code 116 = .ok (.iconst 1, 1) := by decide +kernel
theorem d15_117 : decode prog_10_method_2_code 117 = .ok (.iadd, 1) := by decide +kernel
theorem d15_118 : decode prog_10_method_2_code 118 = .ok (.iload 7, 2) := by decide +kernel
theorem d15_120 : decode prog_10_method_2_code 120 = .ok (.iand, 1) := by decide +kernel
theorem d15_121 : decode prog_10_method_2_code 121 = .ok (.istore 8, 2) := by decide +kernel
theorem d15_123 : decode prog_10_method_2_code 123 = .ok (.goto (-70), 3) := by decide +kernel
theorem d15_126 : decode prog_10_method_2_code 126 = .ok (.aload_n 0, 1) := by decide +kernel
theorem d15_127 : decode prog_10_method_2_code 127 = .ok (.getfield 50, 3) := by decide +kernel
theorem d15_130 : decode prog_10_method_2_code 130 = .ok (.iconst 1, 1) := by decide +kernel
theorem d15_131 : decode prog_10_method_2_code 131 = .ok (.iadd, 1) := by decide +kernel
theorem d15_132 : decode prog_10_method_2_code 132 = .ok (.aload_n 0, 1) := by decide +kernel
theorem d15_133 : decode prog_10_method_2_code 133 = .ok (.getfield 11, 3) := by decide +kernel
theorem d15_136 : decode prog_10_method_2_code 136 = .ok (.arraylength, 1) := by decide +kernel
theorem d15_137 : decode prog_10_method_2_code 137 = .ok (.iconst 4, 1) := by decide +kernel
theorem d15_138 : decode prog_10_method_2_code 138 = .ok (.idiv, 1) := by decide +kernel
theorem d15_139 : decode prog_10_method_2_code 139 = .ok (.iconst 3, 1) := by decide +kernel
theorem d15_140 : decode prog_10_method_2_code 140 = .ok (.imul, 1) := by decide +kernel
theorem d15_141 : decode prog_10_method_2_code 141 = .ok (.if_icmp .le 14, 3) := by decide +kernel
theorem d15_155 : decode prog_10_method_2_code 155 = .ok (.aload_n 0, 1) := by decide +kernel
theorem d15_156 : decode prog_10_method_2_code 156 = .ok (.getfield 11, 3) := by decide +kernel
theorem d15_159 : decode prog_10_method_2_code 159 = .ok (.iload 8, 2) := by decide +kernel
theorem d15_161 : decode prog_10_method_2_code 161 = .ok (.lload 5, 2) := by decide +kernel
theorem d15_163 : decode prog_10_method_2_code 163 = .ok (.lload_n 3, 1) := by decide +kernel
theorem d15_164 : decode prog_10_method_2_code 164 = .ok (.lconst 1, 1) := by decide +kernel
theorem d15_165 : decode prog_10_method_2_code 165 = .ok (.ladd, 1) := by decide +kernel
theorem d15_166 : decode prog_10_method_2_code 166 = .ok (.lor, 1) := by decide +kernel
theorem d15_167 : decode prog_10_method_2_code 167 = .ok (.lastore, 1) := by decide +kernel
theorem d15_168 : decode prog_10_method_2_code 168 = .ok (.aload_n 0, 1) := by decide +kernel
theorem d15_169 : decode prog_10_method_2_code 169 = .ok (.dup, 1) := by decide +kernel
theorem d15_170 : decode prog_10_method_2_code 170 = .ok (.getfield 50, 3) := by decide +kernel
theorem d15_173 : decode prog_10_method_2_code 173 = .ok (.iconst 1, 1) := by decide +kernel
theorem d15_174 : decode prog_10_method_2_code 174 = .ok (.iadd, 1) := by decide +kernel
theorem d15_175 : decode prog_10_method_2_code 175 = .ok (.putfield 50, 3) := by decide +kernel
theorem d15_178 : decode prog_10_method_2_code 178 = .ok (.lload_n 3, 1) := by decide +kernel
theorem d15_179 : decode prog_10_method_2_code 179 = .ok (.lreturn, 1) := by decide +kernel
theorem pn_15 : plainName "com/example/statera/statera/engine/IdTable" = true := by first | (simp [plainName, overriddenIn]; done) | decide +kernel
theorem ef_15 (m : MethodId) (x0 : Addr) (x1 : Int64) (x2 : Int64) : entryFrame m #[(.ref x0), (.long x1), (.long x2)] 11 = mkF m 0 #[.val (.ref x0), .val (.long x1), .second, .val (.long x2), .second, .unset, .unset, .unset, .unset, .unset, .unset] [] := by first | (simp [entryFrame, mkF, argsToLocals, Value.category]; done) | rfl
set_option maxRecDepth 65536 in
set_option maxHeartbeats 40000000 in
theorem rmFN (l : Launch) (Z : State) (a0 : Array Value) (hw : ∀ d ∈ tables_1, d.before a0 Z = true) (n0 : Nat) (h : Heap) (Z0 : n0 ≤ h.size) (rs al tb st pl ad blk od : Nat) (q1 en : Int64) (tz : Int32) (p1 tn jx : Nat) (P : Nat → Int64) (x1 an : Int32) (F gA : Nat → Int32) (lt_rs_al : @LT.lt Nat _ rs al) (lt_al_tb : @LT.lt Nat _ al tb) (lt_tb_st : @LT.lt Nat _ tb st) (lt_st_pl : @LT.lt Nat _ st pl) (lt_pl_ad : @LT.lt Nat _ pl ad) (lt_ad_blk : @LT.lt Nat _ ad blk) (lt_blk_od : @LT.lt Nat _ blk od) (g_rs : n0 ≤ rs) (hen : en.toInt = (p1 : Int)) (hp : p1 ≤ 1000) (htz : tz.toInt = (tn : Int)) (htn : tn ≤ 5) (hj : 1 ≤ jx) (hL : an.toInt = (encL x1 : Int)) (hA : ∀ jx, jx < encL x1 → gA jx = encB x1 jx) (H0 : P ((hmN q1 + jx) % 16) = 0) (hPass : Pass P F x1 (hmN q1) jx) (E_tb : Exa Z h tb "com/example/statera/statera/engine/IdTable") (F_tb_places : Fld Z h tb "com/example/statera/statera/engine/IdTable" "places" "[J" (.ref pl)) (F_tb_shift : Fld Z h tb "com/example/statera/statera/engine/IdTable" "shift" "I" (.int (60 : Int32))) (F_tb_items : Fld Z h tb "com/example/statera/statera/engine/IdTable" "items" "Lcom/example/statera/statera/engine/IdTable$Items;" (.ref st)) (F_tb_size : Fld Z h tb "com/example/statera/statera/engine/IdTable" "size" "I" (.int tz)) (A_pl : AF Z h pl .long 16 (fun j => .long (P j))) (E_rs : Exa Z h rs "com/example/statera/statera/engine/ReachedStates") (E_al : Exa Z h al "java/util/ArrayList") (E_st : Exa Z h st "com/example/statera/statera/engine/ReachedStates$States") (E_blk : Exa Z h blk "[B") (F_rs_blocks : Fld Z h rs "com/example/statera/statera/engine/ReachedStates" "blocks" "Ljava/util/List;" (.ref al)) (F_rs_adding : Fld Z h rs "com/example/statera/statera/engine/ReachedStates" "adding" "[B" (.ref ad)) (F_rs_addingLength : Fld Z h rs "com/example/statera/statera/engine/ReachedStates" "addingLength" "I" (.int an)) (F_al_elementData : Fld Z h al "java/util/ArrayList" "elementData" "[Ljava/lang/Object;" (.ref od)) (F_al_size : Fld Z h al "java/util/ArrayList" "size" "I" (.int (1 : Int32))) (A_od : AF Z h od (.object "java/lang/Object") 10 (upd (fun _ => .null) 0 (.ref blk))) (A_ad : AF Z h ad .byte 5 (fun j => .int (gA j))) (A_blk : AF Z h blk .byte 65536 (fun j => .int (F j))) (F_st_this_0 : Fld Z h st "com/example/statera/statera/engine/ReachedStates$States" "this$0" "Lcom/example/statera/statera/engine/ReachedStates;" (.ref rs)) :
    Met1 l Z n0 [] (⟨"com/example/statera/statera/engine/IdTable", "findOrAdd", "(JJ)J"⟩ : MethodName) prog_10_method_2_code 11 (some .long) ({ frames := 5, cells := 0, slots := 0, locals := 75 } : Room) #[(.ref tb), (.long q1), (.long en)] h (fun v h' => v = some (.long en) ∧ Keep h h' [pl, tb] ∧ Fld Z h' tb "com/example/statera/statera/engine/IdTable" "places" "[J" (.ref pl) ∧ Fld Z h' tb "com/example/statera/statera/engine/IdTable" "shift" "I" (.int (60 : Int32)) ∧ Fld Z h' tb "com/example/statera/statera/engine/IdTable" "items" "Lcom/example/statera/statera/engine/IdTable$Items;" (.ref st) ∧ Fld Z h' tb "com/example/statera/statera/engine/IdTable" "size" "I" (.int (tz + (1 : Int32))) ∧ AF Z h' pl .long 16 (fun j => .long ((updJ P ((hmN q1 + jx) % 16) (ent q1 en)) j))) := by
  refine met_of (plainFor_of_name pn_15) Z0 (fun m => ef_15 m tb q1 en) ?_
  intro p e s m below meth c T hs0 X
  have K := Keep.refl h [pl, tb]
  have ne_rs_al : @Ne Nat rs al := by omega
  have ne_rs_tb : @Ne Nat rs tb := by omega
  have ne_rs_st : @Ne Nat rs st := by omega
  have ne_rs_pl : @Ne Nat rs pl := by omega
  have ne_rs_ad : @Ne Nat rs ad := by omega
  have ne_rs_blk : @Ne Nat rs blk := by omega
  have ne_rs_od : @Ne Nat rs od := by omega
  have ne_al_tb : @Ne Nat al tb := by omega
  have ne_al_st : @Ne Nat al st := by omega
  have ne_al_pl : @Ne Nat al pl := by omega
  have ne_al_ad : @Ne Nat al ad := by omega
  have ne_al_blk : @Ne Nat al blk := by omega
  have ne_al_od : @Ne Nat al od := by omega
  have ne_tb_st : @Ne Nat tb st := by omega
  have ne_tb_pl : @Ne Nat tb pl := by omega
  have ne_tb_ad : @Ne Nat tb ad := by omega
  have ne_tb_blk : @Ne Nat tb blk := by omega
  have ne_tb_od : @Ne Nat tb od := by omega
  have ne_st_pl : @Ne Nat st pl := by omega
  have ne_st_ad : @Ne Nat st ad := by omega
  have ne_st_blk : @Ne Nat st blk := by omega
  have ne_st_od : @Ne Nat st od := by omega
  have ne_pl_ad : @Ne Nat pl ad := by omega
  have ne_pl_blk : @Ne Nat pl blk := by omega
  have ne_pl_od : @Ne Nat pl od := by omega
  have ne_ad_blk : @Ne Nat ad blk := by omega
  have ne_ad_od : @Ne Nat ad od := by omega
  have ne_blk_od : @Ne Nat blk od := by omega
  have g_al : @LE.le Nat _ n0 al := by omega
  have g_tb : @LE.le Nat _ n0 tb := by omega
  have g_st : @LE.le Nat _ n0 st := by omega
  have g_pl : @LE.le Nat _ n0 pl := by omega
  have g_ad : @LE.le Nat _ n0 ad := by omega
  have g_blk : @LE.le Nat _ n0 blk := by omega
  have g_od : @LE.le Nat _ n0 od := by omega
  refine r_lloadN 1 X d15_0 rfl ?_
  refine r_lconst 2 X (0 : Int64) d15_1 rfl ?_
  refine r_lcmp 3 X d15_2 ?_
  refine r_ifN 6 X d15_3 ((if0 _ _).trans (flt (fun q => (fun z => absurd ((ltJ hen (b := 0) rfl).mp z) (by omega)) ((lw_lt _ _).mp q))).1) ?_
  refine r_lloadN 7 X d15_6 rfl ?_
  refine r_ldc2Long 10 X (hw _ (List.mem_of_getElem? (i := 112) rfl)) d15_7 ?_
  refine r_lcmp 11 X d15_10 ?_
  refine r_ifY 28 X d15_11 ((if0 _ _).trans (flt (fun q => (fun z => absurd ((ltJ (x := (1099511627774 : Int64)) (a := 1099511627774) rfl hen).mp z) (by omega)) ((lw_gt _ _).mp q))).2.2.2) ?_
  refine r_lloadN 29 X d15_28 rfl ?_
  refine r_ldc2Long 32 X (hw _ (List.mem_of_getElem? (i := 113) rfl)) d15_29 ?_
  refine r_land 33 X d15_32 ?_
  refine r_topJ (x' := (hiB q1)) rfl ?_
  refine r_lstore 35 X #[.val (.ref tb), .val (.long q1), .second, .val (.long en), .second, .val (.long (hiB q1)), .second, .unset, .unset, .unset, .unset] d15_33 rfl ?_
  refine r_aloadN 36 X d15_35 rfl rfl ?_
  refine r_getfield 39 X (host := "") (Or.inl (hw _ (List.mem_of_getElem? (i := 53) rfl))) Via.refl F_tb_places d15_36 ?_
  intro T X
  refine r_arraylength 40 X A_pl (16 : Int32) (by decide) d15_39 ?_
  refine r_iconst 41 X (1 : Int32) d15_40 rfl ?_
  refine r_isub 42 X d15_41 ?_
  refine r_topI (x' := (15 : Int32)) (by decide) ?_
  refine r_istore 44 X #[.val (.ref tb), .val (.long q1), .second, .val (.long en), .second, .val (.long (hiB q1)), .second, .val (.int (15 : Int32)), .unset, .unset, .unset] d15_42 rfl ?_
  refine r_lloadN 45 X d15_44 rfl ?_
  refine r_aloadN 46 X d15_45 rfl rfl ?_
  refine r_getfield 49 X (host := "") (Or.inl (hw _ (List.mem_of_getElem? (i := 65) rfl))) Via.refl F_tb_shift d15_46 ?_
  intro T X
  refine r_lushr 50 X d15_49 ?_
  refine r_l2i 51 X d15_50 ?_
  refine r_topI (x' := (hmI q1)) rfl ?_
  refine r_istore 53 X #[.val (.ref tb), .val (.long q1), .second, .val (.long en), .second, .val (.long (hiB q1)), .second, .val (.int (15 : Int32)), .val (.int (hmI q1)), .unset, .unset] d15_51 rfl ?_
  obtain ⟨hm1, hm2⟩ := hm_ok q1
  have hr := encL_r x1
  have loop : ∀ (r : Nat) (T : State) (i : Nat) (pi : Int32) (f0 : Int64), i + r = jx → pi.toInt = ((((hmN q1 + i) % 16) : Nat) : Int) → Cx p l e ({ frames := 5, cells := 0, slots := 0, locals := 75 } : Room) s m #[(.ref tb), (.long q1), (.long en)] below meth c Z prog_10_method_2_code 11 "com/example/statera/statera/engine/IdTable" (some .long) "findOrAdd" n0 T h 0 0 → Run p e below m (Fin1 below s n0 (fun v h' => v = some (.long en) ∧ Keep h h' [pl, tb] ∧ Fld Z h' tb "com/example/statera/statera/engine/IdTable" "places" "[J" (.ref pl) ∧ Fld Z h' tb "com/example/statera/statera/engine/IdTable" "shift" "I" (.int (60 : Int32)) ∧ Fld Z h' tb "com/example/statera/statera/engine/IdTable" "items" "Lcom/example/statera/statera/engine/IdTable$Items;" (.ref st) ∧ Fld Z h' tb "com/example/statera/statera/engine/IdTable" "size" "I" (.int (tz + (1 : Int32))) ∧ AF Z h' pl .long 16 (fun j => .long ((updJ P ((hmN q1 + jx) % 16) (ent q1 en)) j))) ({ frames := 5, cells := 0, slots := 0, locals := 75 } : Room).cells ({ frames := 5, cells := 0, slots := 0, locals := 75 } : Room).slots) T 53 #[.val (.ref tb), .val (.long q1), .second, .val (.long en), .second, .val (.long (hiB q1)), .second, .val (.int (15 : Int32)), .val (.int pi), .val (.long f0), .second] [] := by
    intro r
    induction r with
    | zero =>
      intro T i pi f0 hi hpi X
      have hij : i = jx := by omega
      rw [hij] at hpi
      refine r_aloadN 54 X d15_53 rfl rfl ?_
      refine r_getfield 57 X (host := "") (Or.inl (hw _ (List.mem_of_getElem? (i := 53) rfl))) Via.refl F_tb_places d15_54 ?_
      intro T X
      refine r_iload 59 X d15_57 rfl ?_
      refine r_laload 60 X A_pl (i := ((hmN q1 + jx) % 16)) (v := (.long (P ((hmN q1 + jx) % 16)))) hpi (by omega) rfl d15_59 ?_
      refine r_lconst 61 X (0 : Int64) d15_60 rfl ?_
      refine r_lcmp 62 X d15_61 ?_
      refine r_ifY 126 X d15_62 ((if0 _ _).trans (teq ((lw_eq _ _).mpr H0)).1) ?_
      refine r_aloadN 127 X d15_126 rfl rfl ?_
      refine r_getfield 130 X (host := "") (Or.inl (hw _ (List.mem_of_getElem? (i := 114) rfl))) Via.refl F_tb_size d15_127 ?_
      intro T X
      refine r_iconst 131 X (1 : Int32) d15_130 rfl ?_
      refine r_iadd 132 X d15_131 ?_
      refine r_aloadN 133 X d15_132 rfl rfl ?_
      refine r_getfield 136 X (host := "") (Or.inl (hw _ (List.mem_of_getElem? (i := 53) rfl))) Via.refl F_tb_places d15_133 ?_
      intro T X
      refine r_arraylength 137 X A_pl (16 : Int32) (by decide) d15_136 ?_
      refine r_iconst 138 X (4 : Int32) d15_137 rfl ?_
      refine r_idiv 139 X d15_138 (by decide) ?_
      refine r_topI (x' := (4 : Int32)) (by decide) ?_
      refine r_iconst 140 X (3 : Int32) d15_139 rfl ?_
      refine r_imul 141 X d15_140 ?_
      refine r_topI (x' := (12 : Int32)) (by decide) ?_
      refine r_icmpY 155 X d15_141 (flt (fun z => absurd ((ltI (x := (12 : Int32)) (a := 12) rfl (addI htz (y := (1 : Int32)) (b := 1) rfl (by omega) (by omega))).mp z) (by omega))).2.2.2 ?_
      refine r_aloadN 156 X d15_155 rfl rfl ?_
      refine r_getfield 159 X (host := "") (Or.inl (hw _ (List.mem_of_getElem? (i := 53) rfl))) Via.refl F_tb_places d15_156 ?_
      intro T X
      refine r_iload 161 X d15_159 rfl ?_
      refine r_lload 163 X d15_161 rfl ?_
      refine r_lloadN 164 X d15_163 rfl ?_
      refine r_lconst 165 X (1 : Int64) d15_164 rfl ?_
      refine r_ladd 166 X d15_165 ?_
      refine r_lor 167 X d15_166 ?_
      refine r_topJ (x' := (ent q1 en)) rfl ?_
      refine r_lastore 168 X A_pl (i := ((hmN q1 + jx) % 16)) (v := (.long (ent q1 en))) hpi (by omega) rfl g_pl d15_167 ?_
      intro T h1 W1 X
      have K := K.wr W1 (Or.inl (List.mem_of_getElem? (i := 0) rfl))
      have E_tb := E_tb.wr W1
      have F_tb_places := F_tb_places.other W1 (Or.inl ne_tb_pl)
      have F_tb_shift := F_tb_shift.other W1 (Or.inl ne_tb_pl)
      have F_tb_items := F_tb_items.other W1 (Or.inl ne_tb_pl)
      have F_tb_size := F_tb_size.other W1 (Or.inl ne_tb_pl)
      have A_pl := A_pl.setJ W1
      have E_rs := E_rs.wr W1
      have E_al := E_al.wr W1
      have E_st := E_st.wr W1
      have E_blk := E_blk.wr W1
      have F_rs_blocks := F_rs_blocks.other W1 (Or.inl ne_rs_pl)
      have F_rs_adding := F_rs_adding.other W1 (Or.inl ne_rs_pl)
      have F_rs_addingLength := F_rs_addingLength.other W1 (Or.inl ne_rs_pl)
      have F_al_elementData := F_al_elementData.other W1 (Or.inl ne_al_pl)
      have F_al_size := F_al_size.other W1 (Or.inl ne_al_pl)
      have A_od := A_od.other W1 (Ne.symm ne_pl_od)
      have A_ad := A_ad.other W1 (Ne.symm ne_pl_ad)
      have A_blk := A_blk.other W1 (Ne.symm ne_pl_blk)
      have F_st_this_0 := F_st_this_0.other W1 (Or.inl ne_st_pl)
      refine r_aloadN 169 X d15_168 rfl rfl ?_
      refine r_dup 170 X d15_169 rfl ?_
      refine r_getfield 173 X (host := "") (Or.inl (hw _ (List.mem_of_getElem? (i := 114) rfl))) Via.refl F_tb_size d15_170 ?_
      intro T X
      refine r_iconst 174 X (1 : Int32) d15_173 rfl ?_
      refine r_iadd 175 X d15_174 ?_
      refine r_putfield 178 X (host := "") (Or.inl (hw _ (List.mem_of_getElem? (i := 114) rfl))) Via.refl F_tb_size E_tb (Or.inl (hw _ (List.mem_of_getElem? (i := 115) rfl))) (hw _ (List.mem_of_getElem? (i := 37) rfl)) (ty := .int) (by decide) rfl rfl g_tb d15_175 ?_
      intro T h2 W2 X
      have K := K.wr W2 (Or.inl (List.mem_of_getElem? (i := 1) rfl))
      have E_tb := E_tb.wr W2
      have F_tb_places := F_tb_places.other W2 (Or.inr (slot_ne (Or.inl (hw _ (List.mem_of_getElem? (i := 54) rfl))) (Or.inl (hw _ (List.mem_of_getElem? (i := 115) rfl))) (by decide) (t := (.array .long)) (t' := .int) (by decide) (by decide)))
      have F_tb_shift := F_tb_shift.other W2 (Or.inr (slot_ne (Or.inl (hw _ (List.mem_of_getElem? (i := 66) rfl))) (Or.inl (hw _ (List.mem_of_getElem? (i := 115) rfl))) (by decide) (t := .int) (t' := .int) (by decide) (by decide)))
      have F_tb_items := F_tb_items.other W2 (Or.inr (slot_ne (Or.inr (hw _ (List.mem_of_getElem? (i := 68) rfl))) (Or.inl (hw _ (List.mem_of_getElem? (i := 115) rfl))) (by decide) (t := (.object "com/example/statera/statera/engine/IdTable$Items")) (t' := .int) (by decide) (by decide)))
      have F_tb_size := F_tb_size.same W2
      have A_pl := A_pl.other W2 (Ne.symm ne_tb_pl)
      have E_rs := E_rs.wr W2
      have E_al := E_al.wr W2
      have E_st := E_st.wr W2
      have E_blk := E_blk.wr W2
      have F_rs_blocks := F_rs_blocks.other W2 (Or.inl ne_rs_tb)
      have F_rs_adding := F_rs_adding.other W2 (Or.inl ne_rs_tb)
      have F_rs_addingLength := F_rs_addingLength.other W2 (Or.inl ne_rs_tb)
      have F_al_elementData := F_al_elementData.other W2 (Or.inl ne_al_tb)
      have F_al_size := F_al_size.other W2 (Or.inl ne_al_tb)
      have A_od := A_od.other W2 (Ne.symm ne_tb_od)
      have A_ad := A_ad.other W2 (Ne.symm ne_tb_ad)
      have A_blk := A_blk.other W2 (Ne.symm ne_tb_blk)
      have F_st_this_0 := F_st_this_0.other W2 (Or.inl (Ne.symm ne_tb_st))
      refine r_lloadN 179 X d15_178 rfl ?_
      refine r_retJ X d15_179 (by decide) (by decide) ?_
      exact ⟨rfl, K, F_tb_places, F_tb_shift, F_tb_items, F_tb_size, A_pl⟩
    | succ r ih =>
      intro T i pi f0 hi hpi X
      obtain ⟨hz1, kk, hk1, hk2, hk3⟩ := hPass i (by omega)
      have hk4 := mt (same_congr hA).mp hk3
      refine r_aloadN 54 X d15_53 rfl rfl ?_
      refine r_getfield 57 X (host := "") (Or.inl (hw _ (List.mem_of_getElem? (i := 53) rfl))) Via.refl F_tb_places d15_54 ?_
      intro T X
      refine r_iload 59 X d15_57 rfl ?_
      refine r_laload 60 X A_pl (i := ((hmN q1 + i) % 16)) (v := (.long (P ((hmN q1 + i) % 16)))) hpi (by omega) rfl d15_59 ?_
      refine r_lconst 61 X (0 : Int64) d15_60 rfl ?_
      refine r_lcmp 62 X d15_61 ?_
      refine r_ifN 65 X d15_62 ((if0 _ _).trans (feq (fun q => hz1 ((lw_eq _ _).mp q))).1) ?_
      refine r_aloadN 66 X d15_65 rfl rfl ?_
      refine r_getfield 69 X (host := "") (Or.inl (hw _ (List.mem_of_getElem? (i := 53) rfl))) Via.refl F_tb_places d15_66 ?_
      intro T X
      refine r_iload 71 X d15_69 rfl ?_
      refine r_laload 72 X A_pl (i := ((hmN q1 + i) % 16)) (v := (.long (P ((hmN q1 + i) % 16)))) hpi (by omega) rfl d15_71 ?_
      refine r_ldc2Long 75 X (hw _ (List.mem_of_getElem? (i := 217) rfl)) d15_72 ?_
      refine r_land 76 X d15_75 ?_
      refine r_lconst 77 X (1 : Int64) d15_76 rfl ?_
      refine r_lsub 78 X d15_77 ?_
      refine r_topJ (x' := (idW (P ((hmN q1 + i) % 16)))) rfl ?_
      refine r_lstore 80 X #[.val (.ref tb), .val (.long q1), .second, .val (.long en), .second, .val (.long (hiB q1)), .second, .val (.int (15 : Int32)), .val (.int pi), .val (.long (idW (P ((hmN q1 + i) % 16)))), .second] d15_78 rfl ?_
      refine r_aloadN 81 X d15_80 rfl rfl ?_
      refine r_getfield 84 X (host := "") (Or.inl (hw _ (List.mem_of_getElem? (i := 53) rfl))) Via.refl F_tb_places d15_81 ?_
      intro T X
      refine r_iload 86 X d15_84 rfl ?_
      refine r_laload 87 X A_pl (i := ((hmN q1 + i) % 16)) (v := (.long (P ((hmN q1 + i) % 16)))) hpi (by omega) rfl d15_86 ?_
      refine r_ldc2Long 90 X (hw _ (List.mem_of_getElem? (i := 113) rfl)) d15_87 ?_
      refine r_land 91 X d15_90 ?_
      refine r_topJ (x' := (hiB (P ((hmN q1 + i) % 16)))) rfl ?_
      refine r_lload 93 X d15_91 rfl ?_
      refine r_lcmp 94 X d15_93 ?_
      by_cases h94_3 : (hiB (P ((hmN q1 + i) % 16))) = (hiB q1)
      · refine r_ifN 97 X d15_94 ((if0 _ _).trans (teq ((lw_eq _ _).mpr h94_3)).2) ?_
        refine r_aloadN 98 X d15_97 rfl rfl ?_
        refine r_getfield 101 X (host := "") (Or.inl (hw _ (List.mem_of_getElem? (i := 67) rfl))) Via.refl F_tb_items d15_98 ?_
        intro T X
        refine r_lload 103 X d15_101 rfl ?_
        refine r_interface 108 X (st := []) (a := st) (rmMa l Z a0 hw n0 _ X.sz rs al st ad blk od (idW (P ((hmN q1 + i) % 16))) an kk (encL x1) F gA  hk2 (by omega) hL hr.1 hr.2 E_rs E_al E_blk F_rs_blocks F_rs_adding F_al_elementData F_al_size A_od A_ad A_blk E_st F_st_this_0 F_rs_addingLength) E_st (hw _ (List.mem_of_getElem? (i := 218) rfl)) (hw _ (List.mem_of_getElem? (i := 219) rfl)) (hw _ (List.mem_of_getElem? (i := 220) rfl)) (hw _ (List.mem_of_getElem? (i := 221) rfl)) (hw _ (List.mem_of_getElem? (i := 222) rfl)) (hw _ (List.mem_of_getElem? (i := 223) rfl)) (hw _ (List.mem_of_getElem? (i := 224) rfl)) (hw _ (List.mem_of_getElem? (i := 225) rfl)) (by decide) (by decide) (hw _ (List.mem_of_getElem? (i := 226) rfl)) (hw _ (List.mem_of_getElem? (i := 41) rfl)) pd_18 [(.long (idW (P ((hmN q1 + i) % 16))))] rfl rfl 0 (Nat.le_of_eq rfl) rfl (by decide) (by decide) (by decide) (by decide) d15_103 ?_
        rintro T h4 v4 ⟨rfl, rfl⟩ X
        change Run _ _ _ _ _ _ _ _ [(.int (b2i (Same F gA kk (encL x1))))]
        refine r_ifY 114 X d15_108 ((if0 _ _).trans (teq (b2i_eq0 hk4)).1) ?_
        refine r_iload 116 X d15_114 rfl ?_
        refine r_iconst 117 X (1 : Int32) d15_116 rfl ?_
        refine r_iadd 118 X d15_117 ?_
        refine r_iload 120 X d15_118 rfl ?_
        refine r_iand 121 X d15_120 ?_
        refine r_istore 123 X #[.val (.ref tb), .val (.long q1), .second, .val (.long en), .second, .val (.long (hiB q1)), .second, .val (.int (15 : Int32)), .val (.int ((pi + (1 : Int32)) &&& (15 : Int32))), .val (.long (idW (P ((hmN q1 + i) % 16)))), .second] d15_121 rfl ?_
        refine r_goto 53 X d15_123 ?_
        exact ih _ (i + 1) _ _ (by omega) (own_nx16 hpi) X
      · refine r_ifY 114 X d15_94 ((if0 _ _).trans (feq (fun q => h94_3 ((lw_eq _ _).mp q))).2) ?_
        refine r_iload 116 X d15_114 rfl ?_
        refine r_iconst 117 X (1 : Int32) d15_116 rfl ?_
        refine r_iadd 118 X d15_117 ?_
        refine r_iload 120 X d15_118 rfl ?_
        refine r_iand 121 X d15_120 ?_
        refine r_istore 123 X #[.val (.ref tb), .val (.long q1), .second, .val (.long en), .second, .val (.long (hiB q1)), .second, .val (.int (15 : Int32)), .val (.int ((pi + (1 : Int32)) &&& (15 : Int32))), .val (.long (idW (P ((hmN q1 + i) % 16)))), .second] d15_121 rfl ?_
        refine r_goto 53 X d15_123 ?_
        exact ih _ (i + 1) _ _ (by omega) (own_nx16 hpi) X
  have hpi : (hmI q1).toInt = ((((hmN q1 + 0) % 16) : Nat) : Int) := by rw [hm1]; omega
  obtain ⟨hz1, kk, hk1, hk2, hk3⟩ := hPass 0 (by omega)
  have hk4 := mt (same_congr hA).mp hk3
  refine r_aloadN 54 X d15_53 rfl rfl ?_
  refine r_getfield 57 X (host := "") (Or.inl (hw _ (List.mem_of_getElem? (i := 53) rfl))) Via.refl F_tb_places d15_54 ?_
  intro T X
  refine r_iload 59 X d15_57 rfl ?_
  refine r_laload 60 X A_pl (i := ((hmN q1 + 0) % 16)) (v := (.long (P ((hmN q1 + 0) % 16)))) hpi (by omega) rfl d15_59 ?_
  refine r_lconst 61 X (0 : Int64) d15_60 rfl ?_
  refine r_lcmp 62 X d15_61 ?_
  refine r_ifN 65 X d15_62 ((if0 _ _).trans (feq (fun q => hz1 ((lw_eq _ _).mp q))).1) ?_
  refine r_aloadN 66 X d15_65 rfl rfl ?_
  refine r_getfield 69 X (host := "") (Or.inl (hw _ (List.mem_of_getElem? (i := 53) rfl))) Via.refl F_tb_places d15_66 ?_
  intro T X
  refine r_iload 71 X d15_69 rfl ?_
  refine r_laload 72 X A_pl (i := ((hmN q1 + 0) % 16)) (v := (.long (P ((hmN q1 + 0) % 16)))) hpi (by omega) rfl d15_71 ?_
  refine r_ldc2Long 75 X (hw _ (List.mem_of_getElem? (i := 217) rfl)) d15_72 ?_
  refine r_land 76 X d15_75 ?_
  refine r_lconst 77 X (1 : Int64) d15_76 rfl ?_
  refine r_lsub 78 X d15_77 ?_
  refine r_topJ (x' := (idW (P ((hmN q1 + 0) % 16)))) rfl ?_
  refine r_lstore 80 X #[.val (.ref tb), .val (.long q1), .second, .val (.long en), .second, .val (.long (hiB q1)), .second, .val (.int (15 : Int32)), .val (.int (hmI q1)), .val (.long (idW (P ((hmN q1 + 0) % 16)))), .second] d15_78 rfl ?_
  refine r_aloadN 81 X d15_80 rfl rfl ?_
  refine r_getfield 84 X (host := "") (Or.inl (hw _ (List.mem_of_getElem? (i := 53) rfl))) Via.refl F_tb_places d15_81 ?_
  intro T X
  refine r_iload 86 X d15_84 rfl ?_
  refine r_laload 87 X A_pl (i := ((hmN q1 + 0) % 16)) (v := (.long (P ((hmN q1 + 0) % 16)))) hpi (by omega) rfl d15_86 ?_
  refine r_ldc2Long 90 X (hw _ (List.mem_of_getElem? (i := 113) rfl)) d15_87 ?_
  refine r_land 91 X d15_90 ?_
  refine r_topJ (x' := (hiB (P ((hmN q1 + 0) % 16)))) rfl ?_
  refine r_lload 93 X d15_91 rfl ?_
  refine r_lcmp 94 X d15_93 ?_
  by_cases h94_5 : (hiB (P ((hmN q1 + 0) % 16))) = (hiB q1)
  · refine r_ifN 97 X d15_94 ((if0 _ _).trans (teq ((lw_eq _ _).mpr h94_5)).2) ?_
    refine r_aloadN 98 X d15_97 rfl rfl ?_
    refine r_getfield 101 X (host := "") (Or.inl (hw _ (List.mem_of_getElem? (i := 67) rfl))) Via.refl F_tb_items d15_98 ?_
    intro T X
    refine r_lload 103 X d15_101 rfl ?_
    refine r_interface 108 X (st := []) (a := st) (rmMa l Z a0 hw n0 _ X.sz rs al st ad blk od (idW (P ((hmN q1 + 0) % 16))) an kk (encL x1) F gA  hk2 (by omega) hL hr.1 hr.2 E_rs E_al E_blk F_rs_blocks F_rs_adding F_al_elementData F_al_size A_od A_ad A_blk E_st F_st_this_0 F_rs_addingLength) E_st (hw _ (List.mem_of_getElem? (i := 218) rfl)) (hw _ (List.mem_of_getElem? (i := 219) rfl)) (hw _ (List.mem_of_getElem? (i := 220) rfl)) (hw _ (List.mem_of_getElem? (i := 221) rfl)) (hw _ (List.mem_of_getElem? (i := 222) rfl)) (hw _ (List.mem_of_getElem? (i := 223) rfl)) (hw _ (List.mem_of_getElem? (i := 224) rfl)) (hw _ (List.mem_of_getElem? (i := 225) rfl)) (by decide) (by decide) (hw _ (List.mem_of_getElem? (i := 226) rfl)) (hw _ (List.mem_of_getElem? (i := 41) rfl)) pd_18 [(.long (idW (P ((hmN q1 + 0) % 16))))] rfl rfl 0 (Nat.le_of_eq rfl) rfl (by decide) (by decide) (by decide) (by decide) d15_103 ?_
    rintro T h6 v6 ⟨rfl, rfl⟩ X
    change Run _ _ _ _ _ _ _ _ [(.int (b2i (Same F gA kk (encL x1))))]
    refine r_ifY 114 X d15_108 ((if0 _ _).trans (teq (b2i_eq0 hk4)).1) ?_
    refine r_iload 116 X d15_114 rfl ?_
    refine r_iconst 117 X (1 : Int32) d15_116 rfl ?_
    refine r_iadd 118 X d15_117 ?_
    refine r_iload 120 X d15_118 rfl ?_
    refine r_iand 121 X d15_120 ?_
    refine r_istore 123 X #[.val (.ref tb), .val (.long q1), .second, .val (.long en), .second, .val (.long (hiB q1)), .second, .val (.int (15 : Int32)), .val (.int (((hmI q1) + (1 : Int32)) &&& (15 : Int32))), .val (.long (idW (P ((hmN q1 + 0) % 16)))), .second] d15_121 rfl ?_
    refine r_goto 53 X d15_123 ?_
    exact loop (jx - 1) _ (0 + 1) _ _ (by omega) (own_nx16 hpi) X
  · refine r_ifY 114 X d15_94 ((if0 _ _).trans (feq (fun q => h94_5 ((lw_eq _ _).mp q))).2) ?_
    refine r_iload 116 X d15_114 rfl ?_
    refine r_iconst 117 X (1 : Int32) d15_116 rfl ?_
    refine r_iadd 118 X d15_117 ?_
    refine r_iload 120 X d15_118 rfl ?_
    refine r_iand 121 X d15_120 ?_
    refine r_istore 123 X #[.val (.ref tb), .val (.long q1), .second, .val (.long en), .second, .val (.long (hiB q1)), .second, .val (.int (15 : Int32)), .val (.int (((hmI q1) + (1 : Int32)) &&& (15 : Int32))), .val (.long (idW (P ((hmN q1 + 0) % 16)))), .second] d15_121 rfl ?_
    refine r_goto 53 X d15_123 ?_
    exact loop (jx - 1) _ (0 + 1) _ _ (by omega) (own_nx16 hpi) X
set_option maxRecDepth 65536 in
set_option maxHeartbeats 40000000 in
theorem rmF0 (l : Launch) (Z : State) (a0 : Array Value) (hw : ∀ d ∈ tables_1, d.before a0 Z = true) (n0 : Nat) (h : Heap) (Z0 : n0 ≤ h.size) (tb st pl : Nat) (q1 en : Int64) (tz : Int32) (p1 tn jx : Nat) (P : Nat → Int64) (lt_tb_st : @LT.lt Nat _ tb st) (lt_st_pl : @LT.lt Nat _ st pl) (g_tb : n0 ≤ tb) (hen : en.toInt = (p1 : Int)) (hp : p1 ≤ 1000) (htz : tz.toInt = (tn : Int)) (htn : tn ≤ 5) (hj : jx = 0) (H0 : P ((hmN q1 + jx) % 16) = 0) (E_tb : Exa Z h tb "com/example/statera/statera/engine/IdTable") (F_tb_places : Fld Z h tb "com/example/statera/statera/engine/IdTable" "places" "[J" (.ref pl)) (F_tb_shift : Fld Z h tb "com/example/statera/statera/engine/IdTable" "shift" "I" (.int (60 : Int32))) (F_tb_items : Fld Z h tb "com/example/statera/statera/engine/IdTable" "items" "Lcom/example/statera/statera/engine/IdTable$Items;" (.ref st)) (F_tb_size : Fld Z h tb "com/example/statera/statera/engine/IdTable" "size" "I" (.int tz)) (A_pl : AF Z h pl .long 16 (fun j => .long (P j))) :
    Met1 l Z n0 [] (⟨"com/example/statera/statera/engine/IdTable", "findOrAdd", "(JJ)J"⟩ : MethodName) prog_10_method_2_code 11 (some .long) ({ frames := 5, cells := 0, slots := 0, locals := 75 } : Room) #[(.ref tb), (.long q1), (.long en)] h (fun v h' => v = some (.long en) ∧ Keep h h' [pl, tb] ∧ Fld Z h' tb "com/example/statera/statera/engine/IdTable" "places" "[J" (.ref pl) ∧ Fld Z h' tb "com/example/statera/statera/engine/IdTable" "shift" "I" (.int (60 : Int32)) ∧ Fld Z h' tb "com/example/statera/statera/engine/IdTable" "items" "Lcom/example/statera/statera/engine/IdTable$Items;" (.ref st) ∧ Fld Z h' tb "com/example/statera/statera/engine/IdTable" "size" "I" (.int (tz + (1 : Int32))) ∧ AF Z h' pl .long 16 (fun j => .long ((updJ P ((hmN q1 + jx) % 16) (ent q1 en)) j))) := by
  refine met_of (plainFor_of_name pn_15) Z0 (fun m => ef_15 m tb q1 en) ?_
  intro p e s m below meth c T hs0 X
  have K := Keep.refl h [pl, tb]
  have ne_tb_st : @Ne Nat tb st := by omega
  have ne_tb_pl : @Ne Nat tb pl := by omega
  have ne_st_pl : @Ne Nat st pl := by omega
  have g_st : @LE.le Nat _ n0 st := by omega
  have g_pl : @LE.le Nat _ n0 pl := by omega
  refine r_lloadN 1 X d15_0 rfl ?_
  refine r_lconst 2 X (0 : Int64) d15_1 rfl ?_
  refine r_lcmp 3 X d15_2 ?_
  refine r_ifN 6 X d15_3 ((if0 _ _).trans (flt (fun q => (fun z => absurd ((ltJ hen (b := 0) rfl).mp z) (by omega)) ((lw_lt _ _).mp q))).1) ?_
  refine r_lloadN 7 X d15_6 rfl ?_
  refine r_ldc2Long 10 X (hw _ (List.mem_of_getElem? (i := 112) rfl)) d15_7 ?_
  refine r_lcmp 11 X d15_10 ?_
  refine r_ifY 28 X d15_11 ((if0 _ _).trans (flt (fun q => (fun z => absurd ((ltJ (x := (1099511627774 : Int64)) (a := 1099511627774) rfl hen).mp z) (by omega)) ((lw_gt _ _).mp q))).2.2.2) ?_
  refine r_lloadN 29 X d15_28 rfl ?_
  refine r_ldc2Long 32 X (hw _ (List.mem_of_getElem? (i := 113) rfl)) d15_29 ?_
  refine r_land 33 X d15_32 ?_
  refine r_topJ (x' := (hiB q1)) rfl ?_
  refine r_lstore 35 X #[.val (.ref tb), .val (.long q1), .second, .val (.long en), .second, .val (.long (hiB q1)), .second, .unset, .unset, .unset, .unset] d15_33 rfl ?_
  refine r_aloadN 36 X d15_35 rfl rfl ?_
  refine r_getfield 39 X (host := "") (Or.inl (hw _ (List.mem_of_getElem? (i := 53) rfl))) Via.refl F_tb_places d15_36 ?_
  intro T X
  refine r_arraylength 40 X A_pl (16 : Int32) (by decide) d15_39 ?_
  refine r_iconst 41 X (1 : Int32) d15_40 rfl ?_
  refine r_isub 42 X d15_41 ?_
  refine r_topI (x' := (15 : Int32)) (by decide) ?_
  refine r_istore 44 X #[.val (.ref tb), .val (.long q1), .second, .val (.long en), .second, .val (.long (hiB q1)), .second, .val (.int (15 : Int32)), .unset, .unset, .unset] d15_42 rfl ?_
  refine r_lloadN 45 X d15_44 rfl ?_
  refine r_aloadN 46 X d15_45 rfl rfl ?_
  refine r_getfield 49 X (host := "") (Or.inl (hw _ (List.mem_of_getElem? (i := 65) rfl))) Via.refl F_tb_shift d15_46 ?_
  intro T X
  refine r_lushr 50 X d15_49 ?_
  refine r_l2i 51 X d15_50 ?_
  refine r_topI (x' := (hmI q1)) rfl ?_
  refine r_istore 53 X #[.val (.ref tb), .val (.long q1), .second, .val (.long en), .second, .val (.long (hiB q1)), .second, .val (.int (15 : Int32)), .val (.int (hmI q1)), .unset, .unset] d15_51 rfl ?_
  obtain ⟨hm1, hm2⟩ := hm_ok q1
  have hpi : (hmI q1).toInt = ((((hmN q1 + jx) % 16) : Nat) : Int) := by rw [hm1, hj]; omega
  refine r_aloadN 54 X d15_53 rfl rfl ?_
  refine r_getfield 57 X (host := "") (Or.inl (hw _ (List.mem_of_getElem? (i := 53) rfl))) Via.refl F_tb_places d15_54 ?_
  intro T X
  refine r_iload 59 X d15_57 rfl ?_
  refine r_laload 60 X A_pl (i := ((hmN q1 + jx) % 16)) (v := (.long (P ((hmN q1 + jx) % 16)))) hpi (by omega) rfl d15_59 ?_
  refine r_lconst 61 X (0 : Int64) d15_60 rfl ?_
  refine r_lcmp 62 X d15_61 ?_
  refine r_ifY 126 X d15_62 ((if0 _ _).trans (teq ((lw_eq _ _).mpr H0)).1) ?_
  refine r_aloadN 127 X d15_126 rfl rfl ?_
  refine r_getfield 130 X (host := "") (Or.inl (hw _ (List.mem_of_getElem? (i := 114) rfl))) Via.refl F_tb_size d15_127 ?_
  intro T X
  refine r_iconst 131 X (1 : Int32) d15_130 rfl ?_
  refine r_iadd 132 X d15_131 ?_
  refine r_aloadN 133 X d15_132 rfl rfl ?_
  refine r_getfield 136 X (host := "") (Or.inl (hw _ (List.mem_of_getElem? (i := 53) rfl))) Via.refl F_tb_places d15_133 ?_
  intro T X
  refine r_arraylength 137 X A_pl (16 : Int32) (by decide) d15_136 ?_
  refine r_iconst 138 X (4 : Int32) d15_137 rfl ?_
  refine r_idiv 139 X d15_138 (by decide) ?_
  refine r_topI (x' := (4 : Int32)) (by decide) ?_
  refine r_iconst 140 X (3 : Int32) d15_139 rfl ?_
  refine r_imul 141 X d15_140 ?_
  refine r_topI (x' := (12 : Int32)) (by decide) ?_
  refine r_icmpY 155 X d15_141 (flt (fun z => absurd ((ltI (x := (12 : Int32)) (a := 12) rfl (addI htz (y := (1 : Int32)) (b := 1) rfl (by omega) (by omega))).mp z) (by omega))).2.2.2 ?_
  refine r_aloadN 156 X d15_155 rfl rfl ?_
  refine r_getfield 159 X (host := "") (Or.inl (hw _ (List.mem_of_getElem? (i := 53) rfl))) Via.refl F_tb_places d15_156 ?_
  intro T X
  refine r_iload 161 X d15_159 rfl ?_
  refine r_lload 163 X d15_161 rfl ?_
  refine r_lloadN 164 X d15_163 rfl ?_
  refine r_lconst 165 X (1 : Int64) d15_164 rfl ?_
  refine r_ladd 166 X d15_165 ?_
  refine r_lor 167 X d15_166 ?_
  refine r_topJ (x' := (ent q1 en)) rfl ?_
  refine r_lastore 168 X A_pl (i := ((hmN q1 + jx) % 16)) (v := (.long (ent q1 en))) hpi (by omega) rfl g_pl d15_167 ?_
  intro T h1 W1 X
  have K := K.wr W1 (Or.inl (List.mem_of_getElem? (i := 0) rfl))
  have E_tb := E_tb.wr W1
  have F_tb_places := F_tb_places.other W1 (Or.inl ne_tb_pl)
  have F_tb_shift := F_tb_shift.other W1 (Or.inl ne_tb_pl)
  have F_tb_items := F_tb_items.other W1 (Or.inl ne_tb_pl)
  have F_tb_size := F_tb_size.other W1 (Or.inl ne_tb_pl)
  have A_pl := A_pl.setJ W1
  refine r_aloadN 169 X d15_168 rfl rfl ?_
  refine r_dup 170 X d15_169 rfl ?_
  refine r_getfield 173 X (host := "") (Or.inl (hw _ (List.mem_of_getElem? (i := 114) rfl))) Via.refl F_tb_size d15_170 ?_
  intro T X
  refine r_iconst 174 X (1 : Int32) d15_173 rfl ?_
  refine r_iadd 175 X d15_174 ?_
  refine r_putfield 178 X (host := "") (Or.inl (hw _ (List.mem_of_getElem? (i := 114) rfl))) Via.refl F_tb_size E_tb (Or.inl (hw _ (List.mem_of_getElem? (i := 115) rfl))) (hw _ (List.mem_of_getElem? (i := 37) rfl)) (ty := .int) (by decide) rfl rfl g_tb d15_175 ?_
  intro T h2 W2 X
  have K := K.wr W2 (Or.inl (List.mem_of_getElem? (i := 1) rfl))
  have E_tb := E_tb.wr W2
  have F_tb_places := F_tb_places.other W2 (Or.inr (slot_ne (Or.inl (hw _ (List.mem_of_getElem? (i := 54) rfl))) (Or.inl (hw _ (List.mem_of_getElem? (i := 115) rfl))) (by decide) (t := (.array .long)) (t' := .int) (by decide) (by decide)))
  have F_tb_shift := F_tb_shift.other W2 (Or.inr (slot_ne (Or.inl (hw _ (List.mem_of_getElem? (i := 66) rfl))) (Or.inl (hw _ (List.mem_of_getElem? (i := 115) rfl))) (by decide) (t := .int) (t' := .int) (by decide) (by decide)))
  have F_tb_items := F_tb_items.other W2 (Or.inr (slot_ne (Or.inr (hw _ (List.mem_of_getElem? (i := 68) rfl))) (Or.inl (hw _ (List.mem_of_getElem? (i := 115) rfl))) (by decide) (t := (.object "com/example/statera/statera/engine/IdTable$Items")) (t' := .int) (by decide) (by decide)))
  have F_tb_size := F_tb_size.same W2
  have A_pl := A_pl.other W2 (Ne.symm ne_tb_pl)
  refine r_lloadN 179 X d15_178 rfl ?_
  refine r_retJ X d15_179 (by decide) (by decide) ?_
  exact ⟨rfl, K, F_tb_places, F_tb_shift, F_tb_items, F_tb_size, A_pl⟩
theorem d15_111 : decode prog_10_method_2_code 111 = .ok (.lload 9, 2) := by decide +kernel
theorem d15_113 : decode prog_10_method_2_code 113 = .ok (.lreturn, 1) := by decide +kernel
set_option maxRecDepth 65536 in
set_option maxHeartbeats 40000000 in
theorem rmHN (l : Launch) (Z : State) (a0 : Array Value) (hw : ∀ d ∈ tables_1, d.before a0 Z = true) (n0 : Nat) (h : Heap) (Z0 : n0 ≤ h.size) (rs al tb st pl ad blk od : Nat) (q1 en : Int64) (tz : Int32) (p1 tn jx : Nat) (P : Nat → Int64) (x1 an : Int32) (F gA : Nat → Int32) (f : Int64) (nn : Nat) (hen : en.toInt = (p1 : Int)) (hp : p1 ≤ 1000) (htz : tz.toInt = (tn : Int)) (htn : tn ≤ 5) (hj : 1 ≤ jx) (hL : an.toInt = (encL x1 : Int)) (hA : ∀ jx, jx < encL x1 → gA jx = encB x1 jx) (hH : Hit P F q1 x1 (hmN q1) jx f nn) (E_tb : Exa Z h tb "com/example/statera/statera/engine/IdTable") (F_tb_places : Fld Z h tb "com/example/statera/statera/engine/IdTable" "places" "[J" (.ref pl)) (F_tb_shift : Fld Z h tb "com/example/statera/statera/engine/IdTable" "shift" "I" (.int (60 : Int32))) (F_tb_items : Fld Z h tb "com/example/statera/statera/engine/IdTable" "items" "Lcom/example/statera/statera/engine/IdTable$Items;" (.ref st)) (F_tb_size : Fld Z h tb "com/example/statera/statera/engine/IdTable" "size" "I" (.int tz)) (A_pl : AF Z h pl .long 16 (fun j => .long (P j))) (E_rs : Exa Z h rs "com/example/statera/statera/engine/ReachedStates") (E_al : Exa Z h al "java/util/ArrayList") (E_st : Exa Z h st "com/example/statera/statera/engine/ReachedStates$States") (E_blk : Exa Z h blk "[B") (F_rs_blocks : Fld Z h rs "com/example/statera/statera/engine/ReachedStates" "blocks" "Ljava/util/List;" (.ref al)) (F_rs_adding : Fld Z h rs "com/example/statera/statera/engine/ReachedStates" "adding" "[B" (.ref ad)) (F_rs_addingLength : Fld Z h rs "com/example/statera/statera/engine/ReachedStates" "addingLength" "I" (.int an)) (F_al_elementData : Fld Z h al "java/util/ArrayList" "elementData" "[Ljava/lang/Object;" (.ref od)) (F_al_size : Fld Z h al "java/util/ArrayList" "size" "I" (.int (1 : Int32))) (A_od : AF Z h od (.object "java/lang/Object") 10 (upd (fun _ => .null) 0 (.ref blk))) (A_ad : AF Z h ad .byte 5 (fun j => .int (gA j))) (A_blk : AF Z h blk .byte 65536 (fun j => .int (F j))) (F_st_this_0 : Fld Z h st "com/example/statera/statera/engine/ReachedStates$States" "this$0" "Lcom/example/statera/statera/engine/ReachedStates;" (.ref rs)) :
    Met1 l Z n0 [] (⟨"com/example/statera/statera/engine/IdTable", "findOrAdd", "(JJ)J"⟩ : MethodName) prog_10_method_2_code 11 (some .long) ({ frames := 5, cells := 0, slots := 0, locals := 75 } : Room) #[(.ref tb), (.long q1), (.long en)] h (fun v h' => v = some (.long f) ∧ h = h') := by
  refine met_of (plainFor_of_name pn_15) Z0 (fun m => ef_15 m tb q1 en) ?_
  intro p e s m below meth c T hs0 X
  refine r_lloadN 1 X d15_0 rfl ?_
  refine r_lconst 2 X (0 : Int64) d15_1 rfl ?_
  refine r_lcmp 3 X d15_2 ?_
  refine r_ifN 6 X d15_3 ((if0 _ _).trans (flt (fun q => (fun z => absurd ((ltJ hen (b := 0) rfl).mp z) (by omega)) ((lw_lt _ _).mp q))).1) ?_
  refine r_lloadN 7 X d15_6 rfl ?_
  refine r_ldc2Long 10 X (hw _ (List.mem_of_getElem? (i := 112) rfl)) d15_7 ?_
  refine r_lcmp 11 X d15_10 ?_
  refine r_ifY 28 X d15_11 ((if0 _ _).trans (flt (fun q => (fun z => absurd ((ltJ (x := (1099511627774 : Int64)) (a := 1099511627774) rfl hen).mp z) (by omega)) ((lw_gt _ _).mp q))).2.2.2) ?_
  refine r_lloadN 29 X d15_28 rfl ?_
  refine r_ldc2Long 32 X (hw _ (List.mem_of_getElem? (i := 113) rfl)) d15_29 ?_
  refine r_land 33 X d15_32 ?_
  refine r_topJ (x' := (hiB q1)) rfl ?_
  refine r_lstore 35 X #[.val (.ref tb), .val (.long q1), .second, .val (.long en), .second, .val (.long (hiB q1)), .second, .unset, .unset, .unset, .unset] d15_33 rfl ?_
  refine r_aloadN 36 X d15_35 rfl rfl ?_
  refine r_getfield 39 X (host := "") (Or.inl (hw _ (List.mem_of_getElem? (i := 53) rfl))) Via.refl F_tb_places d15_36 ?_
  intro T X
  refine r_arraylength 40 X A_pl (16 : Int32) (by decide) d15_39 ?_
  refine r_iconst 41 X (1 : Int32) d15_40 rfl ?_
  refine r_isub 42 X d15_41 ?_
  refine r_topI (x' := (15 : Int32)) (by decide) ?_
  refine r_istore 44 X #[.val (.ref tb), .val (.long q1), .second, .val (.long en), .second, .val (.long (hiB q1)), .second, .val (.int (15 : Int32)), .unset, .unset, .unset] d15_42 rfl ?_
  refine r_lloadN 45 X d15_44 rfl ?_
  refine r_aloadN 46 X d15_45 rfl rfl ?_
  refine r_getfield 49 X (host := "") (Or.inl (hw _ (List.mem_of_getElem? (i := 65) rfl))) Via.refl F_tb_shift d15_46 ?_
  intro T X
  refine r_lushr 50 X d15_49 ?_
  refine r_l2i 51 X d15_50 ?_
  refine r_topI (x' := (hmI q1)) rfl ?_
  refine r_istore 53 X #[.val (.ref tb), .val (.long q1), .second, .val (.long en), .second, .val (.long (hiB q1)), .second, .val (.int (15 : Int32)), .val (.int (hmI q1)), .unset, .unset] d15_51 rfl ?_
  obtain ⟨hm1, hm2⟩ := hm_ok q1
  obtain ⟨hPass, hz, hh, hf, hfn, hn6, hs⟩ := hH
  have hr := encL_r x1
  have loop : ∀ (r : Nat) (T : State) (i : Nat) (pi : Int32) (f0 : Int64), i + r = jx → pi.toInt = ((((hmN q1 + i) % 16) : Nat) : Int) → Cx p l e ({ frames := 5, cells := 0, slots := 0, locals := 75 } : Room) s m #[(.ref tb), (.long q1), (.long en)] below meth c Z prog_10_method_2_code 11 "com/example/statera/statera/engine/IdTable" (some .long) "findOrAdd" n0 T h 0 0 → Run p e below m (Fin1 below s n0 (fun v h' => v = some (.long f) ∧ h = h') ({ frames := 5, cells := 0, slots := 0, locals := 75 } : Room).cells ({ frames := 5, cells := 0, slots := 0, locals := 75 } : Room).slots) T 53 #[.val (.ref tb), .val (.long q1), .second, .val (.long en), .second, .val (.long (hiB q1)), .second, .val (.int (15 : Int32)), .val (.int pi), .val (.long f0), .second] [] := by
    intro r
    induction r with
    | zero =>
      intro T i pi f0 hi hpi X
      have hij : i = jx := by omega
      rw [hij] at hpi
      refine r_aloadN 54 X d15_53 rfl rfl ?_
      refine r_getfield 57 X (host := "") (Or.inl (hw _ (List.mem_of_getElem? (i := 53) rfl))) Via.refl F_tb_places d15_54 ?_
      intro T X
      refine r_iload 59 X d15_57 rfl ?_
      refine r_laload 60 X A_pl (i := ((hmN q1 + jx) % 16)) (v := (.long (P ((hmN q1 + jx) % 16)))) hpi (by omega) rfl d15_59 ?_
      refine r_lconst 61 X (0 : Int64) d15_60 rfl ?_
      refine r_lcmp 62 X d15_61 ?_
      refine r_ifN 65 X d15_62 ((if0 _ _).trans (feq (fun q => hz ((lw_eq _ _).mp q))).1) ?_
      refine r_aloadN 66 X d15_65 rfl rfl ?_
      refine r_getfield 69 X (host := "") (Or.inl (hw _ (List.mem_of_getElem? (i := 53) rfl))) Via.refl F_tb_places d15_66 ?_
      intro T X
      refine r_iload 71 X d15_69 rfl ?_
      refine r_laload 72 X A_pl (i := ((hmN q1 + jx) % 16)) (v := (.long (P ((hmN q1 + jx) % 16)))) hpi (by omega) rfl d15_71 ?_
      refine r_ldc2Long 75 X (hw _ (List.mem_of_getElem? (i := 217) rfl)) d15_72 ?_
      refine r_land 76 X d15_75 ?_
      refine r_lconst 77 X (1 : Int64) d15_76 rfl ?_
      refine r_lsub 78 X d15_77 ?_
      refine r_topJ (x' := f) hf ?_
      refine r_lstore 80 X #[.val (.ref tb), .val (.long q1), .second, .val (.long en), .second, .val (.long (hiB q1)), .second, .val (.int (15 : Int32)), .val (.int pi), .val (.long f), .second] d15_78 rfl ?_
      refine r_aloadN 81 X d15_80 rfl rfl ?_
      refine r_getfield 84 X (host := "") (Or.inl (hw _ (List.mem_of_getElem? (i := 53) rfl))) Via.refl F_tb_places d15_81 ?_
      intro T X
      refine r_iload 86 X d15_84 rfl ?_
      refine r_laload 87 X A_pl (i := ((hmN q1 + jx) % 16)) (v := (.long (P ((hmN q1 + jx) % 16)))) hpi (by omega) rfl d15_86 ?_
      refine r_ldc2Long 90 X (hw _ (List.mem_of_getElem? (i := 113) rfl)) d15_87 ?_
      refine r_land 91 X d15_90 ?_
      refine r_topJ (x' := (hiB (P ((hmN q1 + jx) % 16)))) rfl ?_
      refine r_lload 93 X d15_91 rfl ?_
      refine r_lcmp 94 X d15_93 ?_
      refine r_ifN 97 X d15_94 ((if0 _ _).trans (teq ((lw_eq _ _).mpr hh)).2) ?_
      refine r_aloadN 98 X d15_97 rfl rfl ?_
      refine r_getfield 101 X (host := "") (Or.inl (hw _ (List.mem_of_getElem? (i := 67) rfl))) Via.refl F_tb_items d15_98 ?_
      intro T X
      refine r_lload 103 X d15_101 rfl ?_
      refine r_interface 108 X (st := []) (a := st) (rmMa l Z a0 hw n0 _ X.sz rs al st ad blk od f an nn (encL x1) F gA  hfn (by omega) hL hr.1 hr.2 E_rs E_al E_blk F_rs_blocks F_rs_adding F_al_elementData F_al_size A_od A_ad A_blk E_st F_st_this_0 F_rs_addingLength) E_st (hw _ (List.mem_of_getElem? (i := 218) rfl)) (hw _ (List.mem_of_getElem? (i := 219) rfl)) (hw _ (List.mem_of_getElem? (i := 220) rfl)) (hw _ (List.mem_of_getElem? (i := 221) rfl)) (hw _ (List.mem_of_getElem? (i := 222) rfl)) (hw _ (List.mem_of_getElem? (i := 223) rfl)) (hw _ (List.mem_of_getElem? (i := 224) rfl)) (hw _ (List.mem_of_getElem? (i := 225) rfl)) (by decide) (by decide) (hw _ (List.mem_of_getElem? (i := 226) rfl)) (hw _ (List.mem_of_getElem? (i := 41) rfl)) pd_18 [(.long f)] rfl rfl 0 (Nat.le_of_eq rfl) rfl (by decide) (by decide) (by decide) (by decide) d15_103 ?_
      rintro T h1 v1 ⟨rfl, rfl⟩ X
      change Run _ _ _ _ _ _ _ _ [(.int (b2i (Same F gA nn (encL x1))))]
      refine r_ifN 111 X d15_108 ((if0 _ _).trans (feq (b2i_ne0 ((same_congr hA).mpr hs))).1) ?_
      refine r_lload 113 X d15_111 rfl ?_
      refine r_retJ X d15_113 (by decide) (by decide) ?_
      exact ⟨rfl, rfl⟩
    | succ r ih =>
      intro T i pi f0 hi hpi X
      obtain ⟨hz1, kk, hk1, hk2, hk3⟩ := hPass i (by omega)
      have hk4 := mt (same_congr hA).mp hk3
      refine r_aloadN 54 X d15_53 rfl rfl ?_
      refine r_getfield 57 X (host := "") (Or.inl (hw _ (List.mem_of_getElem? (i := 53) rfl))) Via.refl F_tb_places d15_54 ?_
      intro T X
      refine r_iload 59 X d15_57 rfl ?_
      refine r_laload 60 X A_pl (i := ((hmN q1 + i) % 16)) (v := (.long (P ((hmN q1 + i) % 16)))) hpi (by omega) rfl d15_59 ?_
      refine r_lconst 61 X (0 : Int64) d15_60 rfl ?_
      refine r_lcmp 62 X d15_61 ?_
      refine r_ifN 65 X d15_62 ((if0 _ _).trans (feq (fun q => hz1 ((lw_eq _ _).mp q))).1) ?_
      refine r_aloadN 66 X d15_65 rfl rfl ?_
      refine r_getfield 69 X (host := "") (Or.inl (hw _ (List.mem_of_getElem? (i := 53) rfl))) Via.refl F_tb_places d15_66 ?_
      intro T X
      refine r_iload 71 X d15_69 rfl ?_
      refine r_laload 72 X A_pl (i := ((hmN q1 + i) % 16)) (v := (.long (P ((hmN q1 + i) % 16)))) hpi (by omega) rfl d15_71 ?_
      refine r_ldc2Long 75 X (hw _ (List.mem_of_getElem? (i := 217) rfl)) d15_72 ?_
      refine r_land 76 X d15_75 ?_
      refine r_lconst 77 X (1 : Int64) d15_76 rfl ?_
      refine r_lsub 78 X d15_77 ?_
      refine r_topJ (x' := (idW (P ((hmN q1 + i) % 16)))) rfl ?_
      refine r_lstore 80 X #[.val (.ref tb), .val (.long q1), .second, .val (.long en), .second, .val (.long (hiB q1)), .second, .val (.int (15 : Int32)), .val (.int pi), .val (.long (idW (P ((hmN q1 + i) % 16)))), .second] d15_78 rfl ?_
      refine r_aloadN 81 X d15_80 rfl rfl ?_
      refine r_getfield 84 X (host := "") (Or.inl (hw _ (List.mem_of_getElem? (i := 53) rfl))) Via.refl F_tb_places d15_81 ?_
      intro T X
      refine r_iload 86 X d15_84 rfl ?_
      refine r_laload 87 X A_pl (i := ((hmN q1 + i) % 16)) (v := (.long (P ((hmN q1 + i) % 16)))) hpi (by omega) rfl d15_86 ?_
      refine r_ldc2Long 90 X (hw _ (List.mem_of_getElem? (i := 113) rfl)) d15_87 ?_
      refine r_land 91 X d15_90 ?_
      refine r_topJ (x' := (hiB (P ((hmN q1 + i) % 16)))) rfl ?_
      refine r_lload 93 X d15_91 rfl ?_
      refine r_lcmp 94 X d15_93 ?_
      by_cases h94_2 : (hiB (P ((hmN q1 + i) % 16))) = (hiB q1)
      · refine r_ifN 97 X d15_94 ((if0 _ _).trans (teq ((lw_eq _ _).mpr h94_2)).2) ?_
        refine r_aloadN 98 X d15_97 rfl rfl ?_
        refine r_getfield 101 X (host := "") (Or.inl (hw _ (List.mem_of_getElem? (i := 67) rfl))) Via.refl F_tb_items d15_98 ?_
        intro T X
        refine r_lload 103 X d15_101 rfl ?_
        refine r_interface 108 X (st := []) (a := st) (rmMa l Z a0 hw n0 _ X.sz rs al st ad blk od (idW (P ((hmN q1 + i) % 16))) an kk (encL x1) F gA  hk2 (by omega) hL hr.1 hr.2 E_rs E_al E_blk F_rs_blocks F_rs_adding F_al_elementData F_al_size A_od A_ad A_blk E_st F_st_this_0 F_rs_addingLength) E_st (hw _ (List.mem_of_getElem? (i := 218) rfl)) (hw _ (List.mem_of_getElem? (i := 219) rfl)) (hw _ (List.mem_of_getElem? (i := 220) rfl)) (hw _ (List.mem_of_getElem? (i := 221) rfl)) (hw _ (List.mem_of_getElem? (i := 222) rfl)) (hw _ (List.mem_of_getElem? (i := 223) rfl)) (hw _ (List.mem_of_getElem? (i := 224) rfl)) (hw _ (List.mem_of_getElem? (i := 225) rfl)) (by decide) (by decide) (hw _ (List.mem_of_getElem? (i := 226) rfl)) (hw _ (List.mem_of_getElem? (i := 41) rfl)) pd_18 [(.long (idW (P ((hmN q1 + i) % 16))))] rfl rfl 0 (Nat.le_of_eq rfl) rfl (by decide) (by decide) (by decide) (by decide) d15_103 ?_
        rintro T h3 v3 ⟨rfl, rfl⟩ X
        change Run _ _ _ _ _ _ _ _ [(.int (b2i (Same F gA kk (encL x1))))]
        refine r_ifY 114 X d15_108 ((if0 _ _).trans (teq (b2i_eq0 hk4)).1) ?_
        refine r_iload 116 X d15_114 rfl ?_
        refine r_iconst 117 X (1 : Int32) d15_116 rfl ?_
        refine r_iadd 118 X d15_117 ?_
        refine r_iload 120 X d15_118 rfl ?_
        refine r_iand 121 X d15_120 ?_
        refine r_istore 123 X #[.val (.ref tb), .val (.long q1), .second, .val (.long en), .second, .val (.long (hiB q1)), .second, .val (.int (15 : Int32)), .val (.int ((pi + (1 : Int32)) &&& (15 : Int32))), .val (.long (idW (P ((hmN q1 + i) % 16)))), .second] d15_121 rfl ?_
        refine r_goto 53 X d15_123 ?_
        exact ih _ (i + 1) _ _ (by omega) (own_nx16 hpi) X
      · refine r_ifY 114 X d15_94 ((if0 _ _).trans (feq (fun q => h94_2 ((lw_eq _ _).mp q))).2) ?_
        refine r_iload 116 X d15_114 rfl ?_
        refine r_iconst 117 X (1 : Int32) d15_116 rfl ?_
        refine r_iadd 118 X d15_117 ?_
        refine r_iload 120 X d15_118 rfl ?_
        refine r_iand 121 X d15_120 ?_
        refine r_istore 123 X #[.val (.ref tb), .val (.long q1), .second, .val (.long en), .second, .val (.long (hiB q1)), .second, .val (.int (15 : Int32)), .val (.int ((pi + (1 : Int32)) &&& (15 : Int32))), .val (.long (idW (P ((hmN q1 + i) % 16)))), .second] d15_121 rfl ?_
        refine r_goto 53 X d15_123 ?_
        exact ih _ (i + 1) _ _ (by omega) (own_nx16 hpi) X
  have hpi : (hmI q1).toInt = ((((hmN q1 + 0) % 16) : Nat) : Int) := by rw [hm1]; omega
  obtain ⟨hz1, kk, hk1, hk2, hk3⟩ := hPass 0 (by omega)
  have hk4 := mt (same_congr hA).mp hk3
  refine r_aloadN 54 X d15_53 rfl rfl ?_
  refine r_getfield 57 X (host := "") (Or.inl (hw _ (List.mem_of_getElem? (i := 53) rfl))) Via.refl F_tb_places d15_54 ?_
  intro T X
  refine r_iload 59 X d15_57 rfl ?_
  refine r_laload 60 X A_pl (i := ((hmN q1 + 0) % 16)) (v := (.long (P ((hmN q1 + 0) % 16)))) hpi (by omega) rfl d15_59 ?_
  refine r_lconst 61 X (0 : Int64) d15_60 rfl ?_
  refine r_lcmp 62 X d15_61 ?_
  refine r_ifN 65 X d15_62 ((if0 _ _).trans (feq (fun q => hz1 ((lw_eq _ _).mp q))).1) ?_
  refine r_aloadN 66 X d15_65 rfl rfl ?_
  refine r_getfield 69 X (host := "") (Or.inl (hw _ (List.mem_of_getElem? (i := 53) rfl))) Via.refl F_tb_places d15_66 ?_
  intro T X
  refine r_iload 71 X d15_69 rfl ?_
  refine r_laload 72 X A_pl (i := ((hmN q1 + 0) % 16)) (v := (.long (P ((hmN q1 + 0) % 16)))) hpi (by omega) rfl d15_71 ?_
  refine r_ldc2Long 75 X (hw _ (List.mem_of_getElem? (i := 217) rfl)) d15_72 ?_
  refine r_land 76 X d15_75 ?_
  refine r_lconst 77 X (1 : Int64) d15_76 rfl ?_
  refine r_lsub 78 X d15_77 ?_
  refine r_topJ (x' := (idW (P ((hmN q1 + 0) % 16)))) rfl ?_
  refine r_lstore 80 X #[.val (.ref tb), .val (.long q1), .second, .val (.long en), .second, .val (.long (hiB q1)), .second, .val (.int (15 : Int32)), .val (.int (hmI q1)), .val (.long (idW (P ((hmN q1 + 0) % 16)))), .second] d15_78 rfl ?_
  refine r_aloadN 81 X d15_80 rfl rfl ?_
  refine r_getfield 84 X (host := "") (Or.inl (hw _ (List.mem_of_getElem? (i := 53) rfl))) Via.refl F_tb_places d15_81 ?_
  intro T X
  refine r_iload 86 X d15_84 rfl ?_
  refine r_laload 87 X A_pl (i := ((hmN q1 + 0) % 16)) (v := (.long (P ((hmN q1 + 0) % 16)))) hpi (by omega) rfl d15_86 ?_
  refine r_ldc2Long 90 X (hw _ (List.mem_of_getElem? (i := 113) rfl)) d15_87 ?_
  refine r_land 91 X d15_90 ?_
  refine r_topJ (x' := (hiB (P ((hmN q1 + 0) % 16)))) rfl ?_
  refine r_lload 93 X d15_91 rfl ?_
  refine r_lcmp 94 X d15_93 ?_
  by_cases h94_4 : (hiB (P ((hmN q1 + 0) % 16))) = (hiB q1)
  · refine r_ifN 97 X d15_94 ((if0 _ _).trans (teq ((lw_eq _ _).mpr h94_4)).2) ?_
    refine r_aloadN 98 X d15_97 rfl rfl ?_
    refine r_getfield 101 X (host := "") (Or.inl (hw _ (List.mem_of_getElem? (i := 67) rfl))) Via.refl F_tb_items d15_98 ?_
    intro T X
    refine r_lload 103 X d15_101 rfl ?_
    refine r_interface 108 X (st := []) (a := st) (rmMa l Z a0 hw n0 _ X.sz rs al st ad blk od (idW (P ((hmN q1 + 0) % 16))) an kk (encL x1) F gA  hk2 (by omega) hL hr.1 hr.2 E_rs E_al E_blk F_rs_blocks F_rs_adding F_al_elementData F_al_size A_od A_ad A_blk E_st F_st_this_0 F_rs_addingLength) E_st (hw _ (List.mem_of_getElem? (i := 218) rfl)) (hw _ (List.mem_of_getElem? (i := 219) rfl)) (hw _ (List.mem_of_getElem? (i := 220) rfl)) (hw _ (List.mem_of_getElem? (i := 221) rfl)) (hw _ (List.mem_of_getElem? (i := 222) rfl)) (hw _ (List.mem_of_getElem? (i := 223) rfl)) (hw _ (List.mem_of_getElem? (i := 224) rfl)) (hw _ (List.mem_of_getElem? (i := 225) rfl)) (by decide) (by decide) (hw _ (List.mem_of_getElem? (i := 226) rfl)) (hw _ (List.mem_of_getElem? (i := 41) rfl)) pd_18 [(.long (idW (P ((hmN q1 + 0) % 16))))] rfl rfl 0 (Nat.le_of_eq rfl) rfl (by decide) (by decide) (by decide) (by decide) d15_103 ?_
    rintro T h5 v5 ⟨rfl, rfl⟩ X
    change Run _ _ _ _ _ _ _ _ [(.int (b2i (Same F gA kk (encL x1))))]
    refine r_ifY 114 X d15_108 ((if0 _ _).trans (teq (b2i_eq0 hk4)).1) ?_
    refine r_iload 116 X d15_114 rfl ?_
    refine r_iconst 117 X (1 : Int32) d15_116 rfl ?_
    refine r_iadd 118 X d15_117 ?_
    refine r_iload 120 X d15_118 rfl ?_
    refine r_iand 121 X d15_120 ?_
    refine r_istore 123 X #[.val (.ref tb), .val (.long q1), .second, .val (.long en), .second, .val (.long (hiB q1)), .second, .val (.int (15 : Int32)), .val (.int (((hmI q1) + (1 : Int32)) &&& (15 : Int32))), .val (.long (idW (P ((hmN q1 + 0) % 16)))), .second] d15_121 rfl ?_
    refine r_goto 53 X d15_123 ?_
    exact loop (jx - 1) _ (0 + 1) _ _ (by omega) (own_nx16 hpi) X
  · refine r_ifY 114 X d15_94 ((if0 _ _).trans (feq (fun q => h94_4 ((lw_eq _ _).mp q))).2) ?_
    refine r_iload 116 X d15_114 rfl ?_
    refine r_iconst 117 X (1 : Int32) d15_116 rfl ?_
    refine r_iadd 118 X d15_117 ?_
    refine r_iload 120 X d15_118 rfl ?_
    refine r_iand 121 X d15_120 ?_
    refine r_istore 123 X #[.val (.ref tb), .val (.long q1), .second, .val (.long en), .second, .val (.long (hiB q1)), .second, .val (.int (15 : Int32)), .val (.int (((hmI q1) + (1 : Int32)) &&& (15 : Int32))), .val (.long (idW (P ((hmN q1 + 0) % 16)))), .second] d15_121 rfl ?_
    refine r_goto 53 X d15_123 ?_
    exact loop (jx - 1) _ (0 + 1) _ _ (by omega) (own_nx16 hpi) X
set_option maxRecDepth 65536 in
set_option maxHeartbeats 40000000 in
theorem rmH0 (l : Launch) (Z : State) (a0 : Array Value) (hw : ∀ d ∈ tables_1, d.before a0 Z = true) (n0 : Nat) (h : Heap) (Z0 : n0 ≤ h.size) (rs al tb st pl ad blk od : Nat) (q1 en : Int64) (tz : Int32) (p1 tn jx : Nat) (P : Nat → Int64) (x1 an : Int32) (F gA : Nat → Int32) (f : Int64) (nn : Nat) (hen : en.toInt = (p1 : Int)) (hp : p1 ≤ 1000) (htz : tz.toInt = (tn : Int)) (htn : tn ≤ 5) (hj : jx = 0) (hL : an.toInt = (encL x1 : Int)) (hA : ∀ jx, jx < encL x1 → gA jx = encB x1 jx) (hH : Hit P F q1 x1 (hmN q1) jx f nn) (E_tb : Exa Z h tb "com/example/statera/statera/engine/IdTable") (F_tb_places : Fld Z h tb "com/example/statera/statera/engine/IdTable" "places" "[J" (.ref pl)) (F_tb_shift : Fld Z h tb "com/example/statera/statera/engine/IdTable" "shift" "I" (.int (60 : Int32))) (F_tb_items : Fld Z h tb "com/example/statera/statera/engine/IdTable" "items" "Lcom/example/statera/statera/engine/IdTable$Items;" (.ref st)) (F_tb_size : Fld Z h tb "com/example/statera/statera/engine/IdTable" "size" "I" (.int tz)) (A_pl : AF Z h pl .long 16 (fun j => .long (P j))) (E_rs : Exa Z h rs "com/example/statera/statera/engine/ReachedStates") (E_al : Exa Z h al "java/util/ArrayList") (E_st : Exa Z h st "com/example/statera/statera/engine/ReachedStates$States") (E_blk : Exa Z h blk "[B") (F_rs_blocks : Fld Z h rs "com/example/statera/statera/engine/ReachedStates" "blocks" "Ljava/util/List;" (.ref al)) (F_rs_adding : Fld Z h rs "com/example/statera/statera/engine/ReachedStates" "adding" "[B" (.ref ad)) (F_rs_addingLength : Fld Z h rs "com/example/statera/statera/engine/ReachedStates" "addingLength" "I" (.int an)) (F_al_elementData : Fld Z h al "java/util/ArrayList" "elementData" "[Ljava/lang/Object;" (.ref od)) (F_al_size : Fld Z h al "java/util/ArrayList" "size" "I" (.int (1 : Int32))) (A_od : AF Z h od (.object "java/lang/Object") 10 (upd (fun _ => .null) 0 (.ref blk))) (A_ad : AF Z h ad .byte 5 (fun j => .int (gA j))) (A_blk : AF Z h blk .byte 65536 (fun j => .int (F j))) (F_st_this_0 : Fld Z h st "com/example/statera/statera/engine/ReachedStates$States" "this$0" "Lcom/example/statera/statera/engine/ReachedStates;" (.ref rs)) :
    Met1 l Z n0 [] (⟨"com/example/statera/statera/engine/IdTable", "findOrAdd", "(JJ)J"⟩ : MethodName) prog_10_method_2_code 11 (some .long) ({ frames := 5, cells := 0, slots := 0, locals := 75 } : Room) #[(.ref tb), (.long q1), (.long en)] h (fun v h' => v = some (.long f) ∧ h = h') := by
  refine met_of (plainFor_of_name pn_15) Z0 (fun m => ef_15 m tb q1 en) ?_
  intro p e s m below meth c T hs0 X
  have hr := encL_r x1
  refine r_lloadN 1 X d15_0 rfl ?_
  refine r_lconst 2 X (0 : Int64) d15_1 rfl ?_
  refine r_lcmp 3 X d15_2 ?_
  refine r_ifN 6 X d15_3 ((if0 _ _).trans (flt (fun q => (fun z => absurd ((ltJ hen (b := 0) rfl).mp z) (by omega)) ((lw_lt _ _).mp q))).1) ?_
  refine r_lloadN 7 X d15_6 rfl ?_
  refine r_ldc2Long 10 X (hw _ (List.mem_of_getElem? (i := 112) rfl)) d15_7 ?_
  refine r_lcmp 11 X d15_10 ?_
  refine r_ifY 28 X d15_11 ((if0 _ _).trans (flt (fun q => (fun z => absurd ((ltJ (x := (1099511627774 : Int64)) (a := 1099511627774) rfl hen).mp z) (by omega)) ((lw_gt _ _).mp q))).2.2.2) ?_
  refine r_lloadN 29 X d15_28 rfl ?_
  refine r_ldc2Long 32 X (hw _ (List.mem_of_getElem? (i := 113) rfl)) d15_29 ?_
  refine r_land 33 X d15_32 ?_
  refine r_topJ (x' := (hiB q1)) rfl ?_
  refine r_lstore 35 X #[.val (.ref tb), .val (.long q1), .second, .val (.long en), .second, .val (.long (hiB q1)), .second, .unset, .unset, .unset, .unset] d15_33 rfl ?_
  refine r_aloadN 36 X d15_35 rfl rfl ?_
  refine r_getfield 39 X (host := "") (Or.inl (hw _ (List.mem_of_getElem? (i := 53) rfl))) Via.refl F_tb_places d15_36 ?_
  intro T X
  refine r_arraylength 40 X A_pl (16 : Int32) (by decide) d15_39 ?_
  refine r_iconst 41 X (1 : Int32) d15_40 rfl ?_
  refine r_isub 42 X d15_41 ?_
  refine r_topI (x' := (15 : Int32)) (by decide) ?_
  refine r_istore 44 X #[.val (.ref tb), .val (.long q1), .second, .val (.long en), .second, .val (.long (hiB q1)), .second, .val (.int (15 : Int32)), .unset, .unset, .unset] d15_42 rfl ?_
  refine r_lloadN 45 X d15_44 rfl ?_
  refine r_aloadN 46 X d15_45 rfl rfl ?_
  refine r_getfield 49 X (host := "") (Or.inl (hw _ (List.mem_of_getElem? (i := 65) rfl))) Via.refl F_tb_shift d15_46 ?_
  intro T X
  refine r_lushr 50 X d15_49 ?_
  refine r_l2i 51 X d15_50 ?_
  refine r_topI (x' := (hmI q1)) rfl ?_
  refine r_istore 53 X #[.val (.ref tb), .val (.long q1), .second, .val (.long en), .second, .val (.long (hiB q1)), .second, .val (.int (15 : Int32)), .val (.int (hmI q1)), .unset, .unset] d15_51 rfl ?_
  obtain ⟨hm1, hm2⟩ := hm_ok q1
  obtain ⟨hPass, hz, hh, hf, hfn, hn6, hs⟩ := hH
  have hpi : (hmI q1).toInt = ((((hmN q1 + jx) % 16) : Nat) : Int) := by rw [hm1, hj]; omega
  refine r_aloadN 54 X d15_53 rfl rfl ?_
  refine r_getfield 57 X (host := "") (Or.inl (hw _ (List.mem_of_getElem? (i := 53) rfl))) Via.refl F_tb_places d15_54 ?_
  intro T X
  refine r_iload 59 X d15_57 rfl ?_
  refine r_laload 60 X A_pl (i := ((hmN q1 + jx) % 16)) (v := (.long (P ((hmN q1 + jx) % 16)))) hpi (by omega) rfl d15_59 ?_
  refine r_lconst 61 X (0 : Int64) d15_60 rfl ?_
  refine r_lcmp 62 X d15_61 ?_
  refine r_ifN 65 X d15_62 ((if0 _ _).trans (feq (fun q => hz ((lw_eq _ _).mp q))).1) ?_
  refine r_aloadN 66 X d15_65 rfl rfl ?_
  refine r_getfield 69 X (host := "") (Or.inl (hw _ (List.mem_of_getElem? (i := 53) rfl))) Via.refl F_tb_places d15_66 ?_
  intro T X
  refine r_iload 71 X d15_69 rfl ?_
  refine r_laload 72 X A_pl (i := ((hmN q1 + jx) % 16)) (v := (.long (P ((hmN q1 + jx) % 16)))) hpi (by omega) rfl d15_71 ?_
  refine r_ldc2Long 75 X (hw _ (List.mem_of_getElem? (i := 217) rfl)) d15_72 ?_
  refine r_land 76 X d15_75 ?_
  refine r_lconst 77 X (1 : Int64) d15_76 rfl ?_
  refine r_lsub 78 X d15_77 ?_
  refine r_topJ (x' := f) hf ?_
  refine r_lstore 80 X #[.val (.ref tb), .val (.long q1), .second, .val (.long en), .second, .val (.long (hiB q1)), .second, .val (.int (15 : Int32)), .val (.int (hmI q1)), .val (.long f), .second] d15_78 rfl ?_
  refine r_aloadN 81 X d15_80 rfl rfl ?_
  refine r_getfield 84 X (host := "") (Or.inl (hw _ (List.mem_of_getElem? (i := 53) rfl))) Via.refl F_tb_places d15_81 ?_
  intro T X
  refine r_iload 86 X d15_84 rfl ?_
  refine r_laload 87 X A_pl (i := ((hmN q1 + jx) % 16)) (v := (.long (P ((hmN q1 + jx) % 16)))) hpi (by omega) rfl d15_86 ?_
  refine r_ldc2Long 90 X (hw _ (List.mem_of_getElem? (i := 113) rfl)) d15_87 ?_
  refine r_land 91 X d15_90 ?_
  refine r_topJ (x' := (hiB (P ((hmN q1 + jx) % 16)))) rfl ?_
  refine r_lload 93 X d15_91 rfl ?_
  refine r_lcmp 94 X d15_93 ?_
  refine r_ifN 97 X d15_94 ((if0 _ _).trans (teq ((lw_eq _ _).mpr hh)).2) ?_
  refine r_aloadN 98 X d15_97 rfl rfl ?_
  refine r_getfield 101 X (host := "") (Or.inl (hw _ (List.mem_of_getElem? (i := 67) rfl))) Via.refl F_tb_items d15_98 ?_
  intro T X
  refine r_lload 103 X d15_101 rfl ?_
  refine r_interface 108 X (st := []) (a := st) (rmMa l Z a0 hw n0 _ X.sz rs al st ad blk od f an nn (encL x1) F gA  hfn (by omega) hL hr.1 hr.2 E_rs E_al E_blk F_rs_blocks F_rs_adding F_al_elementData F_al_size A_od A_ad A_blk E_st F_st_this_0 F_rs_addingLength) E_st (hw _ (List.mem_of_getElem? (i := 218) rfl)) (hw _ (List.mem_of_getElem? (i := 219) rfl)) (hw _ (List.mem_of_getElem? (i := 220) rfl)) (hw _ (List.mem_of_getElem? (i := 221) rfl)) (hw _ (List.mem_of_getElem? (i := 222) rfl)) (hw _ (List.mem_of_getElem? (i := 223) rfl)) (hw _ (List.mem_of_getElem? (i := 224) rfl)) (hw _ (List.mem_of_getElem? (i := 225) rfl)) (by decide) (by decide) (hw _ (List.mem_of_getElem? (i := 226) rfl)) (hw _ (List.mem_of_getElem? (i := 41) rfl)) pd_18 [(.long f)] rfl rfl 0 (Nat.le_of_eq rfl) rfl (by decide) (by decide) (by decide) (by decide) d15_103 ?_
  rintro T h1 v1 ⟨rfl, rfl⟩ X
  change Run _ _ _ _ _ _ _ _ [(.int (b2i (Same F gA nn (encL x1))))]
  refine r_ifN 111 X d15_108 ((if0 _ _).trans (feq (b2i_ne0 ((same_congr hA).mpr hs))).1) ?_
  refine r_lload 113 X d15_111 rfl ?_
  refine r_retJ X d15_113 (by decide) (by decide) ?_
  exact ⟨rfl, rfl⟩
theorem rmFF (l : Launch) (Z : State) (a0 : Array Value) (hw : ∀ d ∈ tables_1, d.before a0 Z = true) (n0 : Nat) (h : Heap) (Z0 : n0 ≤ h.size) (rs al tb st pl ad blk od : Nat) (q1 en : Int64) (tz : Int32) (p1 tn jx : Nat) (P : Nat → Int64) (x1 an : Int32) (F gA : Nat → Int32) (lt_rs_al : @LT.lt Nat _ rs al) (lt_al_tb : @LT.lt Nat _ al tb) (lt_tb_st : @LT.lt Nat _ tb st) (lt_st_pl : @LT.lt Nat _ st pl) (lt_pl_ad : @LT.lt Nat _ pl ad) (lt_ad_blk : @LT.lt Nat _ ad blk) (lt_blk_od : @LT.lt Nat _ blk od) (g_rs : n0 ≤ rs) (hen : en.toInt = (p1 : Int)) (hp : p1 ≤ 1000) (htz : tz.toInt = (tn : Int)) (htn : tn ≤ 5) (hL : an.toInt = (encL x1 : Int)) (hA : ∀ jx, jx < encL x1 → gA jx = encB x1 jx) (H0 : P ((hmN q1 + jx) % 16) = 0) (hPass : Pass P F x1 (hmN q1) jx) (E_tb : Exa Z h tb "com/example/statera/statera/engine/IdTable") (F_tb_places : Fld Z h tb "com/example/statera/statera/engine/IdTable" "places" "[J" (.ref pl)) (F_tb_shift : Fld Z h tb "com/example/statera/statera/engine/IdTable" "shift" "I" (.int (60 : Int32))) (F_tb_items : Fld Z h tb "com/example/statera/statera/engine/IdTable" "items" "Lcom/example/statera/statera/engine/IdTable$Items;" (.ref st)) (F_tb_size : Fld Z h tb "com/example/statera/statera/engine/IdTable" "size" "I" (.int tz)) (A_pl : AF Z h pl .long 16 (fun j => .long (P j))) (E_rs : Exa Z h rs "com/example/statera/statera/engine/ReachedStates") (E_al : Exa Z h al "java/util/ArrayList") (E_st : Exa Z h st "com/example/statera/statera/engine/ReachedStates$States") (E_blk : Exa Z h blk "[B") (F_rs_blocks : Fld Z h rs "com/example/statera/statera/engine/ReachedStates" "blocks" "Ljava/util/List;" (.ref al)) (F_rs_adding : Fld Z h rs "com/example/statera/statera/engine/ReachedStates" "adding" "[B" (.ref ad)) (F_rs_addingLength : Fld Z h rs "com/example/statera/statera/engine/ReachedStates" "addingLength" "I" (.int an)) (F_al_elementData : Fld Z h al "java/util/ArrayList" "elementData" "[Ljava/lang/Object;" (.ref od)) (F_al_size : Fld Z h al "java/util/ArrayList" "size" "I" (.int (1 : Int32))) (A_od : AF Z h od (.object "java/lang/Object") 10 (upd (fun _ => .null) 0 (.ref blk))) (A_ad : AF Z h ad .byte 5 (fun j => .int (gA j))) (A_blk : AF Z h blk .byte 65536 (fun j => .int (F j))) (F_st_this_0 : Fld Z h st "com/example/statera/statera/engine/ReachedStates$States" "this$0" "Lcom/example/statera/statera/engine/ReachedStates;" (.ref rs)) :
    Met1 l Z n0 [] (⟨"com/example/statera/statera/engine/IdTable", "findOrAdd", "(JJ)J"⟩ : MethodName) prog_10_method_2_code 11 (some .long) ({ frames := 5, cells := 0, slots := 0, locals := 75 } : Room) #[(.ref tb), (.long q1), (.long en)] h (fun v h' => v = some (.long en) ∧ Keep h h' [pl, tb] ∧ Fld Z h' tb "com/example/statera/statera/engine/IdTable" "places" "[J" (.ref pl) ∧ Fld Z h' tb "com/example/statera/statera/engine/IdTable" "shift" "I" (.int (60 : Int32)) ∧ Fld Z h' tb "com/example/statera/statera/engine/IdTable" "items" "Lcom/example/statera/statera/engine/IdTable$Items;" (.ref st) ∧ Fld Z h' tb "com/example/statera/statera/engine/IdTable" "size" "I" (.int (tz + (1 : Int32))) ∧ AF Z h' pl .long 16 (fun j => .long ((updJ P ((hmN q1 + jx) % 16) (ent q1 en)) j))) := by
  by_cases hj : jx = 0
  · exact rmF0 l Z a0 hw n0 h Z0 tb st pl q1 en tz p1 tn jx P (by omega) (by omega) (by omega)  hen hp htz htn hj H0 E_tb F_tb_places F_tb_shift F_tb_items F_tb_size A_pl
  · exact rmFN l Z a0 hw n0 h Z0 rs al tb st pl ad blk od q1 en tz p1 tn jx P x1 an F gA (by omega) (by omega) (by omega) (by omega) (by omega) (by omega) (by omega) (by omega)  hen hp htz htn (by omega) hL hA H0 hPass E_tb F_tb_places F_tb_shift F_tb_items F_tb_size A_pl E_rs E_al E_st E_blk F_rs_blocks F_rs_adding F_rs_addingLength F_al_elementData F_al_size A_od A_ad A_blk F_st_this_0
theorem rmHH (l : Launch) (Z : State) (a0 : Array Value) (hw : ∀ d ∈ tables_1, d.before a0 Z = true) (n0 : Nat) (h : Heap) (Z0 : n0 ≤ h.size) (rs al tb st pl ad blk od : Nat) (q1 en : Int64) (tz : Int32) (p1 tn jx : Nat) (P : Nat → Int64) (x1 an : Int32) (F gA : Nat → Int32) (f : Int64) (nn : Nat) (hen : en.toInt = (p1 : Int)) (hp : p1 ≤ 1000) (htz : tz.toInt = (tn : Int)) (htn : tn ≤ 5) (hL : an.toInt = (encL x1 : Int)) (hA : ∀ jx, jx < encL x1 → gA jx = encB x1 jx) (hH : Hit P F q1 x1 (hmN q1) jx f nn) (E_tb : Exa Z h tb "com/example/statera/statera/engine/IdTable") (F_tb_places : Fld Z h tb "com/example/statera/statera/engine/IdTable" "places" "[J" (.ref pl)) (F_tb_shift : Fld Z h tb "com/example/statera/statera/engine/IdTable" "shift" "I" (.int (60 : Int32))) (F_tb_items : Fld Z h tb "com/example/statera/statera/engine/IdTable" "items" "Lcom/example/statera/statera/engine/IdTable$Items;" (.ref st)) (F_tb_size : Fld Z h tb "com/example/statera/statera/engine/IdTable" "size" "I" (.int tz)) (A_pl : AF Z h pl .long 16 (fun j => .long (P j))) (E_rs : Exa Z h rs "com/example/statera/statera/engine/ReachedStates") (E_al : Exa Z h al "java/util/ArrayList") (E_st : Exa Z h st "com/example/statera/statera/engine/ReachedStates$States") (E_blk : Exa Z h blk "[B") (F_rs_blocks : Fld Z h rs "com/example/statera/statera/engine/ReachedStates" "blocks" "Ljava/util/List;" (.ref al)) (F_rs_adding : Fld Z h rs "com/example/statera/statera/engine/ReachedStates" "adding" "[B" (.ref ad)) (F_rs_addingLength : Fld Z h rs "com/example/statera/statera/engine/ReachedStates" "addingLength" "I" (.int an)) (F_al_elementData : Fld Z h al "java/util/ArrayList" "elementData" "[Ljava/lang/Object;" (.ref od)) (F_al_size : Fld Z h al "java/util/ArrayList" "size" "I" (.int (1 : Int32))) (A_od : AF Z h od (.object "java/lang/Object") 10 (upd (fun _ => .null) 0 (.ref blk))) (A_ad : AF Z h ad .byte 5 (fun j => .int (gA j))) (A_blk : AF Z h blk .byte 65536 (fun j => .int (F j))) (F_st_this_0 : Fld Z h st "com/example/statera/statera/engine/ReachedStates$States" "this$0" "Lcom/example/statera/statera/engine/ReachedStates;" (.ref rs)) :
    Met1 l Z n0 [] (⟨"com/example/statera/statera/engine/IdTable", "findOrAdd", "(JJ)J"⟩ : MethodName) prog_10_method_2_code 11 (some .long) ({ frames := 5, cells := 0, slots := 0, locals := 75 } : Room) #[(.ref tb), (.long q1), (.long en)] h (fun v h' => v = some (.long f) ∧ h = h') := by
  by_cases hj : jx = 0
  · exact rmH0 l Z a0 hw n0 h Z0 rs al tb st pl ad blk od q1 en tz p1 tn jx P x1 an F gA f nn  hen hp htz htn hj hL hA hH E_tb F_tb_places F_tb_shift F_tb_items F_tb_size A_pl E_rs E_al E_st E_blk F_rs_blocks F_rs_adding F_rs_addingLength F_al_elementData F_al_size A_od A_ad A_blk F_st_this_0
  · exact rmHN l Z a0 hw n0 h Z0 rs al tb st pl ad blk od q1 en tz p1 tn jx P x1 an F gA f nn  hen hp htz htn (by omega) hL hA hH E_tb F_tb_places F_tb_shift F_tb_items F_tb_size A_pl E_rs E_al E_st E_blk F_rs_blocks F_rs_adding F_rs_addingLength F_al_elementData F_al_size A_od A_ad A_blk F_st_this_0
theorem d11_0 : decode prog_19_method_2_code 0 = .ok (.iconst 0, 1) := by decide +kernel
theorem d11_1 : decode prog_19_method_2_code 1 = .ok (.istore_n 2, 1) := by decide +kernel
theorem d11_2 : decode prog_19_method_2_code 2 = .ok (.aload_n 1, 1) := by decide +kernel
theorem d11_3 : decode prog_19_method_2_code 3 = .ok (.astore_n 3, 1) := by decide +kernel
theorem d11_4 : decode prog_19_method_2_code 4 = .ok (.aload_n 3, 1) := by decide +kernel
theorem d11_5 : decode prog_19_method_2_code 5 = .ok (.arraylength, 1) := by decide +kernel
theorem d11_6 : decode prog_19_method_2_code 6 = .ok (.istore 4, 2) := by decide +kernel
theorem d11_8 : decode prog_19_method_2_code 8 = .ok (.iconst 0, 1) := by decide +kernel
theorem d11_9 : decode prog_19_method_2_code 9 = .ok (.istore 5, 2) := by decide +kernel
theorem d11_11 : decode prog_19_method_2_code 11 = .ok (.iload 5, 2) := by decide +kernel
theorem d11_13 : decode prog_19_method_2_code 13 = .ok (.iload 4, 2) := by decide +kernel
theorem d11_15 : decode prog_19_method_2_code 15 = .ok (.if_icmp .ge 23, 3) := by decide +kernel
theorem d11_18 : decode prog_19_method_2_code 18 = .ok (.aload_n 3, 1) := by decide +kernel
theorem d11_19 : decode prog_19_method_2_code 19 = .ok (.iload 5, 2) := by decide +kernel
theorem d11_21 : decode prog_19_method_2_code 21 = .ok (.iaload, 1) := by decide +kernel
theorem d11_22 : decode prog_19_method_2_code 22 = .ok (.istore 6, 2) := by decide +kernel
theorem d11_24 : decode prog_19_method_2_code 24 = .ok (.aload_n 0, 1) := by decide +kernel
theorem d11_25 : decode prog_19_method_2_code 25 = .ok (.iload 6, 2) := by decide +kernel
theorem d11_27 : decode prog_19_method_2_code 27 = .ok (.iload_n 2, 1) := by decide +kernel
theorem d11_28 : decode prog_19_method_2_code 28 = .ok (.invokevirtual 42, 3) := by decide +kernel
theorem d11_31 : decode prog_19_method_2_code 31 = .ok (.istore_n 2, 1) := by decide +kernel
theorem d11_32 : decode prog_19_method_2_code 32 = .ok (.iinc 5 1, 3) := by decide +kernel
theorem d11_35 : decode prog_19_method_2_code 35 = .ok (.goto (-24), 3) := by decide +kernel
theorem d11_38 : decode prog_19_method_2_code 38 = .ok (.aload_n 0, 1) := by decide +kernel
theorem d11_39 : decode prog_19_method_2_code 39 = .ok (.iload_n 2, 1) := by decide +kernel
theorem d11_40 : decode prog_19_method_2_code 40 = .ok (.putfield 46, 3) := by decide +kernel
theorem d11_43 : decode prog_19_method_2_code 43 = .ok (.aload_n 0, 1) := by decide +kernel
theorem d11_44 : decode prog_19_method_2_code 44 = .ok (.getfield 26, 3) := by decide +kernel
theorem d11_47 : decode prog_19_method_2_code 47 = .ok (.aload_n 1, 1) := by decide +kernel
theorem d11_48 : decode prog_19_method_2_code 48 = .ok (.invokestatic 49, 3) := by decide +kernel
theorem d11_51 : decode prog_19_method_2_code 51 = .ok (.aload_n 0, 1) := by decide +kernel
theorem d11_52 : decode prog_19_method_2_code 52 = .ok (.getfield 53, 3) := by decide +kernel
theorem d11_55 : decode prog_19_method_2_code 55 = .ok (.invokevirtual 57, 3) := by decide +kernel
theorem d11_58 : decode prog_19_method_2_code 58 = .ok (.lstore_n 3, 1) := by decide +kernel
theorem d11_59 : decode prog_19_method_2_code 59 = .ok (.lload_n 3, 1) := by decide +kernel
theorem d11_60 : decode prog_19_method_2_code 60 = .ok (.aload_n 0, 1) := by decide +kernel
theorem d11_61 : decode prog_19_method_2_code 61 = .ok (.getfield 53, 3) := by decide +kernel
theorem d11_64 : decode prog_19_method_2_code 64 = .ok (.lcmp, 1) := by decide +kernel
theorem d11_65 : decode prog_19_method_2_code 65 = .ok (.ifCond .eq 5, 3) := by decide +kernel
theorem d11_70 : decode prog_19_method_2_code 70 = .ok (.aload_n 0, 1) := by decide +kernel
theorem d11_71 : decode prog_19_method_2_code 71 = .ok (.iload_n 2, 1) := by decide +kernel
theorem d11_72 : decode prog_19_method_2_code 72 = .ok (.invokevirtual 61, 3) := by decide +kernel
theorem d11_75 : decode prog_19_method_2_code 75 = .ok (.aload_n 0, 1) := by decide +kernel
theorem d11_76 : decode prog_19_method_2_code 76 = .ok (.dup, 1) := by decide +kernel
theorem d11_77 : decode prog_19_method_2_code 77 = .ok (.getfield 65, 3) := by decide +kernel
theorem d11_80 : decode prog_19_method_2_code 80 = .ok (.iconst 1, 1) := by decide +kernel
theorem d11_81 : decode prog_19_method_2_code 81 = .ok (.iadd, 1) := by decide +kernel
theorem d11_82 : decode prog_19_method_2_code 82 = .ok (.putfield 65, 3) := by decide +kernel
theorem d11_85 : decode prog_19_method_2_code 85 = .ok (.iconst 1, 1) := by decide +kernel
theorem d11_86 : decode prog_19_method_2_code 86 = .ok (.ireturn, 1) := by decide +kernel
theorem pn_11 : plainName "com/example/statera/statera/engine/ReachedStates" = true := by first | (simp [plainName, overriddenIn]; done) | decide +kernel
theorem ef_11 (m : MethodId) (x0 : Addr) (x1 : Addr) : entryFrame m #[(.ref x0), (.ref x1)] 7 = mkF m 0 #[.val (.ref x0), .val (.ref x1), .unset, .unset, .unset, .unset, .unset] [] := by first | (simp [entryFrame, mkF, argsToLocals, Value.category]; done) | rfl
set_option maxRecDepth 65536 in
set_option maxHeartbeats 40000000 in
theorem rmD0 (l : Launch) (Z : State) (a0 : Array Value) (hw : ∀ d ∈ tables_1, d.before a0 Z = true) (n0 : Nat) (h : Heap) (Z0 : n0 ≤ h.size) (em sx rs al tb st pl ad : Nat) (en ex : Int64) (an0 rz x1 tz : Int32) (p1 tn : Nat) (gA : Nat → Int32) (P : Nat → Int64) (fe : Nat → Value) (lt_em_sx : @LT.lt Nat _ em sx) (lt_sx_rs : @LT.lt Nat _ sx rs) (lt_rs_al : @LT.lt Nat _ rs al) (lt_al_tb : @LT.lt Nat _ al tb) (lt_tb_st : @LT.lt Nat _ tb st) (lt_st_pl : @LT.lt Nat _ st pl) (lt_pl_ad : @LT.lt Nat _ pl ad) (g_sx : n0 ≤ sx) (hen : en.toInt = (p1 : Int)) (hp : p1 ≤ 1000) (htz : tz.toInt = (tn : Int)) (htn : tn ≤ 5) (hFA : FB gA) (H0 : P ((hmN (hsh x1) + 0) % 16) = 0) (E_rs : Exa Z h rs "com/example/statera/statera/engine/ReachedStates") (E_al : Exa Z h al "java/util/ArrayList") (E_tb : Exa Z h tb "com/example/statera/statera/engine/IdTable") (E_st : Exa Z h st "com/example/statera/statera/engine/ReachedStates$States") (E_pl : Exa Z h pl "[J") (E_ad : Exa Z h ad "[B") (F_rs_blocks : Fld Z h rs "com/example/statera/statera/engine/ReachedStates" "blocks" "Ljava/util/List;" (.ref al)) (F_rs_table : Fld Z h rs "com/example/statera/statera/engine/ReachedStates" "table" "Lcom/example/statera/statera/engine/IdTable;" (.ref tb)) (F_rs_width : Fld Z h rs "com/example/statera/statera/engine/ReachedStates" "width" "I" (.int (1 : Int32))) (F_rs_adding : Fld Z h rs "com/example/statera/statera/engine/ReachedStates" "adding" "[B" (.ref ad)) (F_rs_end : Fld Z h rs "com/example/statera/statera/engine/ReachedStates" "end" "J" (.long en)) (F_rs_explored : Fld Z h rs "com/example/statera/statera/engine/ReachedStates" "explored" "J" (.long ex)) (F_rs_addingLength : Fld Z h rs "com/example/statera/statera/engine/ReachedStates" "addingLength" "I" (.int an0)) (F_rs_size : Fld Z h rs "com/example/statera/statera/engine/ReachedStates" "size" "I" (.int rz)) (F_tb_places : Fld Z h tb "com/example/statera/statera/engine/IdTable" "places" "[J" (.ref pl)) (F_tb_shift : Fld Z h tb "com/example/statera/statera/engine/IdTable" "shift" "I" (.int (60 : Int32))) (F_tb_items : Fld Z h tb "com/example/statera/statera/engine/IdTable" "items" "Lcom/example/statera/statera/engine/IdTable$Items;" (.ref st)) (F_tb_size : Fld Z h tb "com/example/statera/statera/engine/IdTable" "size" "I" (.int tz)) (F_st_this_0 : Fld Z h st "com/example/statera/statera/engine/ReachedStates$States" "this$0" "Lcom/example/statera/statera/engine/ReachedStates;" (.ref rs)) (A_pl : AF Z h pl .long 16 (fun j => .long (P j))) (A_ad : AF Z h ad .byte 5 (fun j => .int (gA j))) (A_sx : AF Z h sx .int 1 (fun j => .int ((fun _ => x1) j))) (F_al_modCount : Fld Z h al "java/util/AbstractList" "modCount" "I" (.int (0 : Int32))) (F_al_elementData : Fld Z h al "java/util/ArrayList" "elementData" "[Ljava/lang/Object;" (.ref em)) (F_al_size : Fld Z h al "java/util/ArrayList" "size" "I" (.int (0 : Int32))) (A_em : AF Z h em (.object "java/lang/Object") 0 fe) (S_DEFAULTCAPACITY_EMPTY_ELEMENTDATA : Sta Z h "java/util/ArrayList" "DEFAULTCAPACITY_EMPTY_ELEMENTDATA" "[Ljava/lang/Object;" (.ref em)) :
    Met1 l Z n0 [] (⟨"com/example/statera/statera/engine/ReachedStates", "add", "([I)Z"⟩ : MethodName) prog_19_method_2_code 7 (some .boolean) ({ frames := 6, cells := 2, slots := 65546, locals := 97 } : Room) #[(.ref rs), (.ref sx)] h (fun v h' => v = some (.int 1) ∧ Keep h h' [ad, rs, pl, tb, al] ∧ ∃ (blk od : Nat), ad < blk ∧ blk < od ∧ ∃ (e2 : Int64) (a2 : Int32) (g2 : Nat → Int32), e2.toInt = ((p1 + encL x1 : Nat) : Int) ∧ FB g2 ∧ Exa Z h' blk "[B" ∧ Fld Z h' rs "com/example/statera/statera/engine/ReachedStates" "blocks" "Ljava/util/List;" (.ref al) ∧ Fld Z h' rs "com/example/statera/statera/engine/ReachedStates" "table" "Lcom/example/statera/statera/engine/IdTable;" (.ref tb) ∧ Fld Z h' rs "com/example/statera/statera/engine/ReachedStates" "width" "I" (.int (1 : Int32)) ∧ Fld Z h' rs "com/example/statera/statera/engine/ReachedStates" "adding" "[B" (.ref ad) ∧ Fld Z h' rs "com/example/statera/statera/engine/ReachedStates" "end" "J" (.long e2) ∧ Fld Z h' rs "com/example/statera/statera/engine/ReachedStates" "explored" "J" (.long ex) ∧ Fld Z h' rs "com/example/statera/statera/engine/ReachedStates" "addingLength" "I" (.int a2) ∧ Fld Z h' rs "com/example/statera/statera/engine/ReachedStates" "size" "I" (.int (rz + (1 : Int32))) ∧ Fld Z h' tb "com/example/statera/statera/engine/IdTable" "places" "[J" (.ref pl) ∧ Fld Z h' tb "com/example/statera/statera/engine/IdTable" "shift" "I" (.int (60 : Int32)) ∧ Fld Z h' tb "com/example/statera/statera/engine/IdTable" "items" "Lcom/example/statera/statera/engine/IdTable$Items;" (.ref st) ∧ Fld Z h' tb "com/example/statera/statera/engine/IdTable" "size" "I" (.int (tz + (1 : Int32))) ∧ Fld Z h' al "java/util/ArrayList" "elementData" "[Ljava/lang/Object;" (.ref od) ∧ Fld Z h' al "java/util/ArrayList" "size" "I" (.int (1 : Int32)) ∧ AF Z h' od (.object "java/lang/Object") 10 (upd (fun _ => .null) 0 (.ref blk)) ∧ AF Z h' pl .long 16 (fun j => .long ((updJ P ((hmN (hsh x1) + 0) % 16) (ent (hsh x1) en)) j)) ∧ AF Z h' ad .byte 5 (fun j => .int (g2 j)) ∧ AF Z h' blk .byte 65536 (fun j => .int ((apF (fun _ => (0 : Int32)) p1 x1) j))) := by
  refine met_of (plainFor_of_name pn_11) Z0 (fun m => ef_11 m rs sx) ?_
  intro p e s m below meth c T hs0 X
  have K := Keep.refl h [ad, rs, pl, tb, al]
  have ne_em_sx : @Ne Nat em sx := by omega
  have ne_em_rs : @Ne Nat em rs := by omega
  have ne_em_al : @Ne Nat em al := by omega
  have ne_em_tb : @Ne Nat em tb := by omega
  have ne_em_st : @Ne Nat em st := by omega
  have ne_em_pl : @Ne Nat em pl := by omega
  have ne_em_ad : @Ne Nat em ad := by omega
  have ne_sx_rs : @Ne Nat sx rs := by omega
  have ne_sx_al : @Ne Nat sx al := by omega
  have ne_sx_tb : @Ne Nat sx tb := by omega
  have ne_sx_st : @Ne Nat sx st := by omega
  have ne_sx_pl : @Ne Nat sx pl := by omega
  have ne_sx_ad : @Ne Nat sx ad := by omega
  have ne_rs_al : @Ne Nat rs al := by omega
  have ne_rs_tb : @Ne Nat rs tb := by omega
  have ne_rs_st : @Ne Nat rs st := by omega
  have ne_rs_pl : @Ne Nat rs pl := by omega
  have ne_rs_ad : @Ne Nat rs ad := by omega
  have ne_al_tb : @Ne Nat al tb := by omega
  have ne_al_st : @Ne Nat al st := by omega
  have ne_al_pl : @Ne Nat al pl := by omega
  have ne_al_ad : @Ne Nat al ad := by omega
  have ne_tb_st : @Ne Nat tb st := by omega
  have ne_tb_pl : @Ne Nat tb pl := by omega
  have ne_tb_ad : @Ne Nat tb ad := by omega
  have ne_st_pl : @Ne Nat st pl := by omega
  have ne_st_ad : @Ne Nat st ad := by omega
  have ne_pl_ad : @Ne Nat pl ad := by omega
  have g_rs : @LE.le Nat _ n0 rs := by omega
  have g_al : @LE.le Nat _ n0 al := by omega
  have g_tb : @LE.le Nat _ n0 tb := by omega
  have g_st : @LE.le Nat _ n0 st := by omega
  have g_pl : @LE.le Nat _ n0 pl := by omega
  have g_ad : @LE.le Nat _ n0 ad := by omega
  refine r_iconst 1 X (0 : Int32) d11_0 rfl ?_
  refine r_istoreN 2 X #[.val (.ref rs), .val (.ref sx), .val (.int (0 : Int32)), .unset, .unset, .unset, .unset] d11_1 rfl ?_
  refine r_aloadN 3 X d11_2 rfl rfl ?_
  refine r_astoreN 4 X #[.val (.ref rs), .val (.ref sx), .val (.int (0 : Int32)), .val (.ref sx), .unset, .unset, .unset] d11_3 rfl rfl ?_
  refine r_aloadN 5 X d11_4 rfl rfl ?_
  refine r_arraylength 6 X A_sx (1 : Int32) (by decide) d11_5 ?_
  refine r_istore 8 X #[.val (.ref rs), .val (.ref sx), .val (.int (0 : Int32)), .val (.ref sx), .val (.int (1 : Int32)), .unset, .unset] d11_6 rfl ?_
  refine r_iconst 9 X (0 : Int32) d11_8 rfl ?_
  refine r_istore 11 X #[.val (.ref rs), .val (.ref sx), .val (.int (0 : Int32)), .val (.ref sx), .val (.int (1 : Int32)), .val (.int (0 : Int32)), .unset] d11_9 rfl ?_
  refine r_iload 13 X d11_11 rfl ?_
  refine r_iload 15 X d11_13 rfl ?_
  refine r_icmpN 18 X d11_15 (tlt (by decide)).2.1 ?_
  refine r_aloadN 19 X d11_18 rfl rfl ?_
  refine r_iload 21 X d11_19 rfl ?_
  refine r_iaload 22 X A_sx (i := 0) (v := (.int x1)) (by decide) (by decide) rfl d11_21 ?_
  refine r_istore 24 X #[.val (.ref rs), .val (.ref sx), .val (.int (0 : Int32)), .val (.ref sx), .val (.int (1 : Int32)), .val (.int (0 : Int32)), .val (.int x1)] d11_22 rfl ?_
  refine r_aloadN 25 X d11_24 rfl rfl ?_
  refine r_iload 27 X d11_25 rfl ?_
  refine r_iloadN 28 X d11_27 rfl ?_
  refine r_private 31 X (st := []) (a := rs) (rmWr l Z a0 hw n0 _ X.sz rs ad x1 gA (by omega) (by omega)  hFA E_rs F_rs_adding A_ad) E_rs (hw _ (List.mem_of_getElem? (i := 92) rfl)) (hw _ (List.mem_of_getElem? (i := 93) rfl)) (hw _ (List.mem_of_getElem? (i := 2) rfl)) (hw _ (List.mem_of_getElem? (i := 94) rfl)) (hw _ (List.mem_of_getElem? (i := 95) rfl)) (hw _ (List.mem_of_getElem? (i := 3) rfl)) (by decide) pd_2 [(.int x1), (.int (0 : Int32))] rfl rfl 0 (Nat.le_of_eq rfl) rfl (by decide) (by decide) (by decide) (by decide) d11_28 ?_
  rintro T h1 v1 ⟨an, gW, rfl, hL, K1, Aw, hFW, hW⟩ X
  have K := K.trans K1 (allS (Or.inl (List.mem_of_getElem? (i := 0) rfl)) all0)
  have S_DEFAULTCAPACITY_EMPTY_ELEMENTDATA := own_stakL S_DEFAULTCAPACITY_EMPTY_ELEMENTDATA K1 (staS E_ad sta0)
  have E_rs := E_rs.keep K1
  have E_al := E_al.keep K1
  have E_tb := E_tb.keep K1
  have E_st := E_st.keep K1
  have E_pl := E_pl.keep K1
  have E_ad := E_ad.keep K1
  have F_rs_blocks := F_rs_blocks.keep K1 (ninS ne_rs_ad nin0)
  have F_rs_table := F_rs_table.keep K1 (ninS ne_rs_ad nin0)
  have F_rs_width := F_rs_width.keep K1 (ninS ne_rs_ad nin0)
  have F_rs_adding := F_rs_adding.keep K1 (ninS ne_rs_ad nin0)
  have F_rs_end := F_rs_end.keep K1 (ninS ne_rs_ad nin0)
  have F_rs_explored := F_rs_explored.keep K1 (ninS ne_rs_ad nin0)
  have F_rs_addingLength := F_rs_addingLength.keep K1 (ninS ne_rs_ad nin0)
  have F_rs_size := F_rs_size.keep K1 (ninS ne_rs_ad nin0)
  have F_tb_places := F_tb_places.keep K1 (ninS ne_tb_ad nin0)
  have F_tb_shift := F_tb_shift.keep K1 (ninS ne_tb_ad nin0)
  have F_tb_items := F_tb_items.keep K1 (ninS ne_tb_ad nin0)
  have F_tb_size := F_tb_size.keep K1 (ninS ne_tb_ad nin0)
  have F_st_this_0 := F_st_this_0.keep K1 (ninS ne_st_ad nin0)
  have A_pl := A_pl.keep K1 (ninS ne_pl_ad nin0)
  have A_sx := A_sx.keep K1 (ninS ne_sx_ad nin0)
  have F_al_modCount := F_al_modCount.keep K1 (ninS ne_al_ad nin0)
  have F_al_elementData := F_al_elementData.keep K1 (ninS ne_al_ad nin0)
  have F_al_size := F_al_size.keep K1 (ninS ne_al_ad nin0)
  have A_em := A_em.keep K1 (ninS ne_em_ad nin0)
  have A_ad := Aw
  change Run _ _ _ _ _ _ _ _ [(.int an)]
  refine r_istoreN 32 X #[.val (.ref rs), .val (.ref sx), .val (.int an), .val (.ref sx), .val (.int (1 : Int32)), .val (.int (0 : Int32)), .val (.int x1)] d11_31 rfl ?_
  refine r_iinc 35 X (1 : Int32) #[.val (.ref rs), .val (.ref sx), .val (.int an), .val (.ref sx), .val (.int (1 : Int32)), .val (.int (1 : Int32)), .val (.int x1)] d11_32 rfl rfl rfl ?_
  refine r_goto 11 X d11_35 ?_
  refine r_iload 13 X d11_11 rfl ?_
  refine r_iload 15 X d11_13 rfl ?_
  refine r_icmpY 38 X d11_15 (flt (by decide)).2.1 ?_
  refine r_aloadN 39 X d11_38 rfl rfl ?_
  refine r_iloadN 40 X d11_39 rfl ?_
  refine r_putfield 43 X (host := "") (Or.inl (hw _ (List.mem_of_getElem? (i := 96) rfl))) Via.refl F_rs_addingLength E_rs (Or.inl (hw _ (List.mem_of_getElem? (i := 97) rfl))) (hw _ (List.mem_of_getElem? (i := 2) rfl)) (ty := .int) (by decide) rfl rfl g_rs d11_40 ?_
  intro T h2 W2 X
  have K := K.wr W2 (Or.inl (List.mem_of_getElem? (i := 1) rfl))
  have E_rs := E_rs.wr W2
  have E_al := E_al.wr W2
  have E_tb := E_tb.wr W2
  have E_st := E_st.wr W2
  have E_pl := E_pl.wr W2
  have E_ad := E_ad.wr W2
  have F_rs_blocks := F_rs_blocks.other W2 (Or.inr (slot_ne (Or.inr (hw _ (List.mem_of_getElem? (i := 35) rfl))) (Or.inl (hw _ (List.mem_of_getElem? (i := 97) rfl))) (by decide) (t := (.object "java/util/List")) (t' := .int) (by decide) (by decide)))
  have F_rs_table := F_rs_table.other W2 (Or.inr (slot_ne (Or.inr (hw _ (List.mem_of_getElem? (i := 70) rfl))) (Or.inl (hw _ (List.mem_of_getElem? (i := 97) rfl))) (by decide) (t := (.object "com/example/statera/statera/engine/IdTable")) (t' := .int) (by decide) (by decide)))
  have F_rs_width := F_rs_width.other W2 (Or.inr (slot_ne (Or.inr (hw _ (List.mem_of_getElem? (i := 72) rfl))) (Or.inl (hw _ (List.mem_of_getElem? (i := 97) rfl))) (by decide) (t := .int) (t' := .int) (by decide) (by decide)))
  have F_rs_adding := F_rs_adding.other W2 (Or.inr (slot_ne (Or.inr (hw _ (List.mem_of_getElem? (i := 75) rfl))) (Or.inl (hw _ (List.mem_of_getElem? (i := 97) rfl))) (by decide) (t := (.array .byte)) (t' := .int) (by decide) (by decide)))
  have F_rs_end := F_rs_end.other W2 (Or.inr (slot_ne (Or.inl (hw _ (List.mem_of_getElem? (i := 86) rfl))) (Or.inl (hw _ (List.mem_of_getElem? (i := 97) rfl))) (by decide) (t := .long) (t' := .int) (by decide) (by decide)))
  have F_rs_explored := F_rs_explored.other W2 (Or.inr (slot_ne (Or.inl (hw _ (List.mem_of_getElem? (i := 84) rfl))) (Or.inl (hw _ (List.mem_of_getElem? (i := 97) rfl))) (by decide) (t := .long) (t' := .int) (by decide) (by decide)))
  have F_rs_addingLength := F_rs_addingLength.same W2
  have F_rs_size := F_rs_size.other W2 (Or.inr (slot_ne (Or.inl (hw _ (List.mem_of_getElem? (i := 200) rfl))) (Or.inl (hw _ (List.mem_of_getElem? (i := 97) rfl))) (by decide) (t := .int) (t' := .int) (by decide) (by decide)))
  have F_tb_places := F_tb_places.other W2 (Or.inl (Ne.symm ne_rs_tb))
  have F_tb_shift := F_tb_shift.other W2 (Or.inl (Ne.symm ne_rs_tb))
  have F_tb_items := F_tb_items.other W2 (Or.inl (Ne.symm ne_rs_tb))
  have F_tb_size := F_tb_size.other W2 (Or.inl (Ne.symm ne_rs_tb))
  have F_st_this_0 := F_st_this_0.other W2 (Or.inl (Ne.symm ne_rs_st))
  have A_pl := A_pl.other W2 (Ne.symm ne_rs_pl)
  have A_sx := A_sx.other W2 ne_sx_rs
  have F_al_modCount := F_al_modCount.other W2 (Or.inl (Ne.symm ne_rs_al))
  have F_al_elementData := F_al_elementData.other W2 (Or.inl (Ne.symm ne_rs_al))
  have F_al_size := F_al_size.other W2 (Or.inl (Ne.symm ne_rs_al))
  have A_em := A_em.other W2 ne_em_rs
  have S_DEFAULTCAPACITY_EMPTY_ELEMENTDATA := S_DEFAULTCAPACITY_EMPTY_ELEMENTDATA.wr W2
  have A_ad := A_ad.other W2 (Ne.symm ne_rs_ad)
  refine r_aloadN 44 X d11_43 rfl rfl ?_
  refine r_getfield 47 X (host := "") (Or.inl (hw _ (List.mem_of_getElem? (i := 69) rfl))) Via.refl F_rs_table d11_44 ?_
  intro T X
  refine r_aloadN 48 X d11_47 rfl rfl ?_
  refine r_callS 51 X (st := [(.ref tb)]) (rmHa l Z a0 hw n0 _ X.sz sx x1   A_sx) (hw _ (List.mem_of_getElem? (i := 98) rfl)) (hw _ (List.mem_of_getElem? (i := 99) rfl)) (hw _ (List.mem_of_getElem? (i := 100) rfl)) (hw _ (List.mem_of_getElem? (i := 3) rfl)) (by decide) pd_19 [(.ref sx)] rfl rfl 1 (Nat.le_of_eq rfl) rfl (by decide) (by decide) (by decide) (by decide) d11_48 ?_
  rintro T h3 v3 ⟨rfl, rfl⟩ X
  change Run _ _ _ _ _ _ _ _ [(.long (hsh x1)), (.ref tb)]
  refine r_aloadN 52 X d11_51 rfl rfl ?_
  refine r_getfield 55 X (host := "") (Or.inl (hw _ (List.mem_of_getElem? (i := 85) rfl))) Via.refl F_rs_end d11_52 ?_
  intro T X
  refine r_virtual 58 X (st := []) (a := tb) (rmF0 l Z a0 hw n0 _ X.sz tb st pl (hsh x1) en tz p1 tn 0 P (by omega) (by omega) (by omega)  hen hp htz htn rfl H0 E_tb F_tb_places F_tb_shift F_tb_items F_tb_size A_pl) E_tb (hw _ (List.mem_of_getElem? (i := 107) rfl)) (hw _ (List.mem_of_getElem? (i := 108) rfl)) (hw _ (List.mem_of_getElem? (i := 110) rfl)) (hw _ (List.mem_of_getElem? (i := 110) rfl)) (hw _ (List.mem_of_getElem? (i := 109) rfl)) (hw _ (List.mem_of_getElem? (i := 111) rfl)) (hw _ (List.mem_of_getElem? (i := 38) rfl)) (by decide) pd_20 [(.long (hsh x1)), (.long en)] rfl rfl 0 (Nat.le_of_eq rfl) rfl (by decide) (by decide) (by decide) (by decide) d11_55 ?_
  rintro T h4 v4 ⟨rfl, K4, B4_F_tb_places, B4_F_tb_shift, B4_F_tb_items, B4_F_tb_size, B4_A_pl⟩ X
  have K := K.trans K4 (allS (Or.inl (List.mem_of_getElem? (i := 2) rfl)) (allS (Or.inl (List.mem_of_getElem? (i := 3) rfl)) all0))
  have S_DEFAULTCAPACITY_EMPTY_ELEMENTDATA := own_stakL S_DEFAULTCAPACITY_EMPTY_ELEMENTDATA K4 (staS E_pl (staS E_tb sta0))
  have E_rs := E_rs.keep K4
  have E_al := E_al.keep K4
  have E_tb := E_tb.keep K4
  have E_st := E_st.keep K4
  have E_pl := E_pl.keep K4
  have E_ad := E_ad.keep K4
  have F_rs_blocks := F_rs_blocks.keep K4 (ninS ne_rs_pl (ninS ne_rs_tb nin0))
  have F_rs_table := F_rs_table.keep K4 (ninS ne_rs_pl (ninS ne_rs_tb nin0))
  have F_rs_width := F_rs_width.keep K4 (ninS ne_rs_pl (ninS ne_rs_tb nin0))
  have F_rs_adding := F_rs_adding.keep K4 (ninS ne_rs_pl (ninS ne_rs_tb nin0))
  have F_rs_end := F_rs_end.keep K4 (ninS ne_rs_pl (ninS ne_rs_tb nin0))
  have F_rs_explored := F_rs_explored.keep K4 (ninS ne_rs_pl (ninS ne_rs_tb nin0))
  have F_rs_addingLength := F_rs_addingLength.keep K4 (ninS ne_rs_pl (ninS ne_rs_tb nin0))
  have F_rs_size := F_rs_size.keep K4 (ninS ne_rs_pl (ninS ne_rs_tb nin0))
  have F_st_this_0 := F_st_this_0.keep K4 (ninS ne_st_pl (ninS (Ne.symm ne_tb_st) nin0))
  have A_sx := A_sx.keep K4 (ninS ne_sx_pl (ninS ne_sx_tb nin0))
  have F_al_modCount := F_al_modCount.keep K4 (ninS ne_al_pl (ninS ne_al_tb nin0))
  have F_al_elementData := F_al_elementData.keep K4 (ninS ne_al_pl (ninS ne_al_tb nin0))
  have F_al_size := F_al_size.keep K4 (ninS ne_al_pl (ninS ne_al_tb nin0))
  have A_em := A_em.keep K4 (ninS ne_em_pl (ninS ne_em_tb nin0))
  have A_ad := A_ad.keep K4 (ninS (Ne.symm ne_pl_ad) (ninS (Ne.symm ne_tb_ad) nin0))
  have F_tb_places := B4_F_tb_places
  have F_tb_shift := B4_F_tb_shift
  have F_tb_items := B4_F_tb_items
  have F_tb_size := B4_F_tb_size
  have A_pl := B4_A_pl
  change Run _ _ _ _ _ _ _ _ [(.long en)]
  refine r_lstoreN 59 X #[.val (.ref rs), .val (.ref sx), .val (.int an), .val (.long en), .second, .val (.int (1 : Int32)), .val (.int x1)] d11_58 rfl ?_
  refine r_lloadN 60 X d11_59 rfl ?_
  refine r_aloadN 61 X d11_60 rfl rfl ?_
  refine r_getfield 64 X (host := "") (Or.inl (hw _ (List.mem_of_getElem? (i := 85) rfl))) Via.refl F_rs_end d11_61 ?_
  intro T X
  refine r_lcmp 65 X d11_64 ?_
  refine r_ifY 70 X d11_65 ((if0 _ _).trans (teq ((lw_eq _ _).mpr rfl)).1) ?_
  refine r_aloadN 71 X d11_70 rfl rfl ?_
  refine r_iloadN 72 X d11_71 rfl ?_
  refine r_private 75 X (st := []) (a := rs) (rmP0 l Z a0 hw n0 _ X.sz em rs al ad en ex an an rz x1 p1 gW fe (by omega) (by omega) (by omega) (by omega)  hen hp hL hFW hW E_rs E_al E_ad F_rs_blocks F_rs_table F_rs_width F_rs_adding F_rs_end F_rs_explored F_rs_addingLength F_rs_size F_al_modCount F_al_elementData F_al_size A_em S_DEFAULTCAPACITY_EMPTY_ELEMENTDATA A_ad) E_rs (hw _ (List.mem_of_getElem? (i := 116) rfl)) (hw _ (List.mem_of_getElem? (i := 117) rfl)) (hw _ (List.mem_of_getElem? (i := 2) rfl)) (hw _ (List.mem_of_getElem? (i := 118) rfl)) (hw _ (List.mem_of_getElem? (i := 119) rfl)) (hw _ (List.mem_of_getElem? (i := 3) rfl)) (by decide) pd_21 [(.int an)] rfl rfl 0 (Nat.le_of_eq rfl) rfl (by decide) (by decide) (by decide) (by decide) d11_72 ?_
  rintro T h5 v5 ⟨rfl, K5, blk, od, ltb5, ltd5, B5_E_blk, B5_F_rs_blocks, B5_F_rs_table, B5_F_rs_width, B5_F_rs_adding, B5_F_rs_end, B5_F_rs_explored, B5_F_rs_addingLength, B5_F_rs_size, B5_F_al_elementData, B5_F_al_size, B5_A_od, B5_A_blk⟩ X
  have gb5 : @LE.le Nat _ n0 blk := by omega
  have ne_ad_blk : @Ne Nat ad blk := by omega
  have ne_al_blk : @Ne Nat al blk := by omega
  have ne_em_blk : @Ne Nat em blk := by omega
  have ne_pl_blk : @Ne Nat pl blk := by omega
  have ne_rs_blk : @Ne Nat rs blk := by omega
  have ne_st_blk : @Ne Nat st blk := by omega
  have ne_sx_blk : @Ne Nat sx blk := by omega
  have ne_tb_blk : @Ne Nat tb blk := by omega
  have ne_ad_od : @Ne Nat ad od := by omega
  have ne_al_od : @Ne Nat al od := by omega
  have ne_em_od : @Ne Nat em od := by omega
  have ne_pl_od : @Ne Nat pl od := by omega
  have ne_rs_od : @Ne Nat rs od := by omega
  have ne_st_od : @Ne Nat st od := by omega
  have ne_sx_od : @Ne Nat sx od := by omega
  have ne_tb_od : @Ne Nat tb od := by omega
  have ne_blk_od : @Ne Nat blk od := by omega
  have K := K.trans K5 (allS (Or.inl (List.mem_of_getElem? (i := 1) rfl)) (allS (Or.inl (List.mem_of_getElem? (i := 4) rfl)) all0))
  have S_DEFAULTCAPACITY_EMPTY_ELEMENTDATA := own_stakL S_DEFAULTCAPACITY_EMPTY_ELEMENTDATA K5 (staS E_rs (staS E_al sta0))
  have E_rs := E_rs.keep K5
  have E_al := E_al.keep K5
  have E_tb := E_tb.keep K5
  have E_st := E_st.keep K5
  have E_pl := E_pl.keep K5
  have E_ad := E_ad.keep K5
  have F_st_this_0 := F_st_this_0.keep K5 (ninS (Ne.symm ne_rs_st) (ninS (Ne.symm ne_al_st) nin0))
  have A_sx := A_sx.keep K5 (ninS ne_sx_rs (ninS ne_sx_al nin0))
  have A_em := A_em.keep K5 (ninS ne_em_rs (ninS ne_em_al nin0))
  have A_ad := A_ad.keep K5 (ninS (Ne.symm ne_rs_ad) (ninS (Ne.symm ne_al_ad) nin0))
  have F_tb_places := F_tb_places.keep K5 (ninS (Ne.symm ne_rs_tb) (ninS (Ne.symm ne_al_tb) nin0))
  have F_tb_shift := F_tb_shift.keep K5 (ninS (Ne.symm ne_rs_tb) (ninS (Ne.symm ne_al_tb) nin0))
  have F_tb_items := F_tb_items.keep K5 (ninS (Ne.symm ne_rs_tb) (ninS (Ne.symm ne_al_tb) nin0))
  have F_tb_size := F_tb_size.keep K5 (ninS (Ne.symm ne_rs_tb) (ninS (Ne.symm ne_al_tb) nin0))
  have A_pl := A_pl.keep K5 (ninS (Ne.symm ne_rs_pl) (ninS (Ne.symm ne_al_pl) nin0))
  have F_rs_blocks := B5_F_rs_blocks
  have F_rs_table := B5_F_rs_table
  have F_rs_width := B5_F_rs_width
  have F_rs_adding := B5_F_rs_adding
  have F_rs_end := B5_F_rs_end
  have F_rs_explored := B5_F_rs_explored
  have F_rs_addingLength := B5_F_rs_addingLength
  have F_rs_size := B5_F_rs_size
  have F_al_elementData := B5_F_al_elementData
  have F_al_size := B5_F_al_size
  have A_od := B5_A_od
  have A_blk := B5_A_blk
  have E_blk := B5_E_blk
  change Run _ _ _ _ _ _ _ _ []
  refine r_aloadN 76 X d11_75 rfl rfl ?_
  refine r_dup 77 X d11_76 rfl ?_
  refine r_getfield 80 X (host := "") (Or.inl (hw _ (List.mem_of_getElem? (i := 199) rfl))) Via.refl F_rs_size d11_77 ?_
  intro T X
  refine r_iconst 81 X (1 : Int32) d11_80 rfl ?_
  refine r_iadd 82 X d11_81 ?_
  refine r_putfield 85 X (host := "") (Or.inl (hw _ (List.mem_of_getElem? (i := 199) rfl))) Via.refl F_rs_size E_rs (Or.inl (hw _ (List.mem_of_getElem? (i := 200) rfl))) (hw _ (List.mem_of_getElem? (i := 2) rfl)) (ty := .int) (by decide) rfl rfl g_rs d11_82 ?_
  intro T h6 W6 X
  have K := K.wr W6 (Or.inl (List.mem_of_getElem? (i := 1) rfl))
  have E_rs := E_rs.wr W6
  have E_al := E_al.wr W6
  have E_tb := E_tb.wr W6
  have E_st := E_st.wr W6
  have E_pl := E_pl.wr W6
  have E_ad := E_ad.wr W6
  have F_st_this_0 := F_st_this_0.other W6 (Or.inl (Ne.symm ne_rs_st))
  have A_sx := A_sx.other W6 ne_sx_rs
  have A_em := A_em.other W6 ne_em_rs
  have S_DEFAULTCAPACITY_EMPTY_ELEMENTDATA := S_DEFAULTCAPACITY_EMPTY_ELEMENTDATA.wr W6
  have A_ad := A_ad.other W6 (Ne.symm ne_rs_ad)
  have F_tb_places := F_tb_places.other W6 (Or.inl (Ne.symm ne_rs_tb))
  have F_tb_shift := F_tb_shift.other W6 (Or.inl (Ne.symm ne_rs_tb))
  have F_tb_items := F_tb_items.other W6 (Or.inl (Ne.symm ne_rs_tb))
  have F_tb_size := F_tb_size.other W6 (Or.inl (Ne.symm ne_rs_tb))
  have A_pl := A_pl.other W6 (Ne.symm ne_rs_pl)
  have F_rs_blocks := F_rs_blocks.other W6 (Or.inr (slot_ne (Or.inr (hw _ (List.mem_of_getElem? (i := 35) rfl))) (Or.inl (hw _ (List.mem_of_getElem? (i := 200) rfl))) (by decide) (t := (.object "java/util/List")) (t' := .int) (by decide) (by decide)))
  have F_rs_table := F_rs_table.other W6 (Or.inr (slot_ne (Or.inr (hw _ (List.mem_of_getElem? (i := 70) rfl))) (Or.inl (hw _ (List.mem_of_getElem? (i := 200) rfl))) (by decide) (t := (.object "com/example/statera/statera/engine/IdTable")) (t' := .int) (by decide) (by decide)))
  have F_rs_width := F_rs_width.other W6 (Or.inr (slot_ne (Or.inr (hw _ (List.mem_of_getElem? (i := 72) rfl))) (Or.inl (hw _ (List.mem_of_getElem? (i := 200) rfl))) (by decide) (t := .int) (t' := .int) (by decide) (by decide)))
  have F_rs_adding := F_rs_adding.other W6 (Or.inr (slot_ne (Or.inr (hw _ (List.mem_of_getElem? (i := 75) rfl))) (Or.inl (hw _ (List.mem_of_getElem? (i := 200) rfl))) (by decide) (t := (.array .byte)) (t' := .int) (by decide) (by decide)))
  have F_rs_end := F_rs_end.other W6 (Or.inr (slot_ne (Or.inl (hw _ (List.mem_of_getElem? (i := 86) rfl))) (Or.inl (hw _ (List.mem_of_getElem? (i := 200) rfl))) (by decide) (t := .long) (t' := .int) (by decide) (by decide)))
  have F_rs_explored := F_rs_explored.other W6 (Or.inr (slot_ne (Or.inl (hw _ (List.mem_of_getElem? (i := 84) rfl))) (Or.inl (hw _ (List.mem_of_getElem? (i := 200) rfl))) (by decide) (t := .long) (t' := .int) (by decide) (by decide)))
  have F_rs_addingLength := F_rs_addingLength.other W6 (Or.inr (slot_ne (Or.inl (hw _ (List.mem_of_getElem? (i := 97) rfl))) (Or.inl (hw _ (List.mem_of_getElem? (i := 200) rfl))) (by decide) (t := .int) (t' := .int) (by decide) (by decide)))
  have F_rs_size := F_rs_size.same W6
  have F_al_elementData := F_al_elementData.other W6 (Or.inl (Ne.symm ne_rs_al))
  have F_al_size := F_al_size.other W6 (Or.inl (Ne.symm ne_rs_al))
  have A_od := A_od.other W6 (Ne.symm ne_rs_od)
  have A_blk := A_blk.other W6 (Ne.symm ne_rs_blk)
  have E_blk := E_blk.wr W6
  refine r_iconst 86 X (1 : Int32) d11_85 rfl ?_
  refine r_retZ (z := (1 : Int32)) X d11_86 rfl (by decide) (by decide) ?_
  exact ⟨rfl, K, blk, od, by omega, by omega, _, _, _, own_adv hen hL (encL_r x1).2 (by omega), hFW, E_blk, F_rs_blocks, F_rs_table, F_rs_width, F_rs_adding, F_rs_end, F_rs_explored, F_rs_addingLength, F_rs_size, F_tb_places, F_tb_shift, F_tb_items, F_tb_size, F_al_elementData, F_al_size, A_od, A_pl, A_ad, A_blk⟩
set_option maxRecDepth 65536 in
set_option maxHeartbeats 40000000 in
theorem rmDF (l : Launch) (Z : State) (a0 : Array Value) (hw : ∀ d ∈ tables_1, d.before a0 Z = true) (n0 : Nat) (h : Heap) (Z0 : n0 ≤ h.size) (sx rs al tb st pl ad blk od : Nat) (en ex : Int64) (an0 rz x1 tz : Int32) (p1 tn : Nat) (gA : Nat → Int32) (P : Nat → Int64) (F : Nat → Int32) (jx : Nat) (lt_sx_rs : @LT.lt Nat _ sx rs) (lt_rs_al : @LT.lt Nat _ rs al) (lt_al_tb : @LT.lt Nat _ al tb) (lt_tb_st : @LT.lt Nat _ tb st) (lt_st_pl : @LT.lt Nat _ st pl) (lt_pl_ad : @LT.lt Nat _ pl ad) (lt_ad_blk : @LT.lt Nat _ ad blk) (lt_blk_od : @LT.lt Nat _ blk od) (g_sx : n0 ≤ sx) (hen : en.toInt = (p1 : Int)) (hp : p1 ≤ 1000) (htz : tz.toInt = (tn : Int)) (htn : tn ≤ 5) (hFA : FB gA) (hFF : FB F) (H0 : P ((hmN (hsh x1) + jx) % 16) = 0) (hPass : Pass P F x1 (hmN (hsh x1)) jx) (E_rs : Exa Z h rs "com/example/statera/statera/engine/ReachedStates") (E_al : Exa Z h al "java/util/ArrayList") (E_tb : Exa Z h tb "com/example/statera/statera/engine/IdTable") (E_st : Exa Z h st "com/example/statera/statera/engine/ReachedStates$States") (E_pl : Exa Z h pl "[J") (E_ad : Exa Z h ad "[B") (F_rs_blocks : Fld Z h rs "com/example/statera/statera/engine/ReachedStates" "blocks" "Ljava/util/List;" (.ref al)) (F_rs_table : Fld Z h rs "com/example/statera/statera/engine/ReachedStates" "table" "Lcom/example/statera/statera/engine/IdTable;" (.ref tb)) (F_rs_width : Fld Z h rs "com/example/statera/statera/engine/ReachedStates" "width" "I" (.int (1 : Int32))) (F_rs_adding : Fld Z h rs "com/example/statera/statera/engine/ReachedStates" "adding" "[B" (.ref ad)) (F_rs_end : Fld Z h rs "com/example/statera/statera/engine/ReachedStates" "end" "J" (.long en)) (F_rs_explored : Fld Z h rs "com/example/statera/statera/engine/ReachedStates" "explored" "J" (.long ex)) (F_rs_addingLength : Fld Z h rs "com/example/statera/statera/engine/ReachedStates" "addingLength" "I" (.int an0)) (F_rs_size : Fld Z h rs "com/example/statera/statera/engine/ReachedStates" "size" "I" (.int rz)) (F_tb_places : Fld Z h tb "com/example/statera/statera/engine/IdTable" "places" "[J" (.ref pl)) (F_tb_shift : Fld Z h tb "com/example/statera/statera/engine/IdTable" "shift" "I" (.int (60 : Int32))) (F_tb_items : Fld Z h tb "com/example/statera/statera/engine/IdTable" "items" "Lcom/example/statera/statera/engine/IdTable$Items;" (.ref st)) (F_tb_size : Fld Z h tb "com/example/statera/statera/engine/IdTable" "size" "I" (.int tz)) (F_st_this_0 : Fld Z h st "com/example/statera/statera/engine/ReachedStates$States" "this$0" "Lcom/example/statera/statera/engine/ReachedStates;" (.ref rs)) (A_pl : AF Z h pl .long 16 (fun j => .long (P j))) (A_ad : AF Z h ad .byte 5 (fun j => .int (gA j))) (A_sx : AF Z h sx .int 1 (fun j => .int ((fun _ => x1) j))) (E_blk : Exa Z h blk "[B") (F_al_elementData : Fld Z h al "java/util/ArrayList" "elementData" "[Ljava/lang/Object;" (.ref od)) (F_al_size : Fld Z h al "java/util/ArrayList" "size" "I" (.int (1 : Int32))) (A_od : AF Z h od (.object "java/lang/Object") 10 (upd (fun _ => .null) 0 (.ref blk))) (A_blk : AF Z h blk .byte 65536 (fun j => .int (F j))) :
    Met1 l Z n0 [] (⟨"com/example/statera/statera/engine/ReachedStates", "add", "([I)Z"⟩ : MethodName) prog_19_method_2_code 7 (some .boolean) ({ frames := 6, cells := 0, slots := 0, locals := 97 } : Room) #[(.ref rs), (.ref sx)] h (fun v h' => v = some (.int 1) ∧ Keep h h' [ad, rs, pl, tb, blk] ∧ ∃ (e2 : Int64) (a2 : Int32) (g2 : Nat → Int32), e2.toInt = ((p1 + encL x1 : Nat) : Int) ∧ FB g2 ∧ Fld Z h' rs "com/example/statera/statera/engine/ReachedStates" "blocks" "Ljava/util/List;" (.ref al) ∧ Fld Z h' rs "com/example/statera/statera/engine/ReachedStates" "table" "Lcom/example/statera/statera/engine/IdTable;" (.ref tb) ∧ Fld Z h' rs "com/example/statera/statera/engine/ReachedStates" "width" "I" (.int (1 : Int32)) ∧ Fld Z h' rs "com/example/statera/statera/engine/ReachedStates" "adding" "[B" (.ref ad) ∧ Fld Z h' rs "com/example/statera/statera/engine/ReachedStates" "end" "J" (.long e2) ∧ Fld Z h' rs "com/example/statera/statera/engine/ReachedStates" "explored" "J" (.long ex) ∧ Fld Z h' rs "com/example/statera/statera/engine/ReachedStates" "addingLength" "I" (.int a2) ∧ Fld Z h' rs "com/example/statera/statera/engine/ReachedStates" "size" "I" (.int (rz + (1 : Int32))) ∧ Fld Z h' tb "com/example/statera/statera/engine/IdTable" "places" "[J" (.ref pl) ∧ Fld Z h' tb "com/example/statera/statera/engine/IdTable" "shift" "I" (.int (60 : Int32)) ∧ Fld Z h' tb "com/example/statera/statera/engine/IdTable" "items" "Lcom/example/statera/statera/engine/IdTable$Items;" (.ref st) ∧ Fld Z h' tb "com/example/statera/statera/engine/IdTable" "size" "I" (.int (tz + (1 : Int32))) ∧ AF Z h' pl .long 16 (fun j => .long ((updJ P ((hmN (hsh x1) + jx) % 16) (ent (hsh x1) en)) j)) ∧ AF Z h' ad .byte 5 (fun j => .int (g2 j)) ∧ AF Z h' blk .byte 65536 (fun j => .int ((apF F p1 x1) j))) := by
  refine met_of (plainFor_of_name pn_11) Z0 (fun m => ef_11 m rs sx) ?_
  intro p e s m below meth c T hs0 X
  have K := Keep.refl h [ad, rs, pl, tb, blk]
  have ne_sx_rs : @Ne Nat sx rs := by omega
  have ne_sx_al : @Ne Nat sx al := by omega
  have ne_sx_tb : @Ne Nat sx tb := by omega
  have ne_sx_st : @Ne Nat sx st := by omega
  have ne_sx_pl : @Ne Nat sx pl := by omega
  have ne_sx_ad : @Ne Nat sx ad := by omega
  have ne_sx_blk : @Ne Nat sx blk := by omega
  have ne_sx_od : @Ne Nat sx od := by omega
  have ne_rs_al : @Ne Nat rs al := by omega
  have ne_rs_tb : @Ne Nat rs tb := by omega
  have ne_rs_st : @Ne Nat rs st := by omega
  have ne_rs_pl : @Ne Nat rs pl := by omega
  have ne_rs_ad : @Ne Nat rs ad := by omega
  have ne_rs_blk : @Ne Nat rs blk := by omega
  have ne_rs_od : @Ne Nat rs od := by omega
  have ne_al_tb : @Ne Nat al tb := by omega
  have ne_al_st : @Ne Nat al st := by omega
  have ne_al_pl : @Ne Nat al pl := by omega
  have ne_al_ad : @Ne Nat al ad := by omega
  have ne_al_blk : @Ne Nat al blk := by omega
  have ne_al_od : @Ne Nat al od := by omega
  have ne_tb_st : @Ne Nat tb st := by omega
  have ne_tb_pl : @Ne Nat tb pl := by omega
  have ne_tb_ad : @Ne Nat tb ad := by omega
  have ne_tb_blk : @Ne Nat tb blk := by omega
  have ne_tb_od : @Ne Nat tb od := by omega
  have ne_st_pl : @Ne Nat st pl := by omega
  have ne_st_ad : @Ne Nat st ad := by omega
  have ne_st_blk : @Ne Nat st blk := by omega
  have ne_st_od : @Ne Nat st od := by omega
  have ne_pl_ad : @Ne Nat pl ad := by omega
  have ne_pl_blk : @Ne Nat pl blk := by omega
  have ne_pl_od : @Ne Nat pl od := by omega
  have ne_ad_blk : @Ne Nat ad blk := by omega
  have ne_ad_od : @Ne Nat ad od := by omega
  have ne_blk_od : @Ne Nat blk od := by omega
  have g_rs : @LE.le Nat _ n0 rs := by omega
  have g_al : @LE.le Nat _ n0 al := by omega
  have g_tb : @LE.le Nat _ n0 tb := by omega
  have g_st : @LE.le Nat _ n0 st := by omega
  have g_pl : @LE.le Nat _ n0 pl := by omega
  have g_ad : @LE.le Nat _ n0 ad := by omega
  have g_blk : @LE.le Nat _ n0 blk := by omega
  have g_od : @LE.le Nat _ n0 od := by omega
  refine r_iconst 1 X (0 : Int32) d11_0 rfl ?_
  refine r_istoreN 2 X #[.val (.ref rs), .val (.ref sx), .val (.int (0 : Int32)), .unset, .unset, .unset, .unset] d11_1 rfl ?_
  refine r_aloadN 3 X d11_2 rfl rfl ?_
  refine r_astoreN 4 X #[.val (.ref rs), .val (.ref sx), .val (.int (0 : Int32)), .val (.ref sx), .unset, .unset, .unset] d11_3 rfl rfl ?_
  refine r_aloadN 5 X d11_4 rfl rfl ?_
  refine r_arraylength 6 X A_sx (1 : Int32) (by decide) d11_5 ?_
  refine r_istore 8 X #[.val (.ref rs), .val (.ref sx), .val (.int (0 : Int32)), .val (.ref sx), .val (.int (1 : Int32)), .unset, .unset] d11_6 rfl ?_
  refine r_iconst 9 X (0 : Int32) d11_8 rfl ?_
  refine r_istore 11 X #[.val (.ref rs), .val (.ref sx), .val (.int (0 : Int32)), .val (.ref sx), .val (.int (1 : Int32)), .val (.int (0 : Int32)), .unset] d11_9 rfl ?_
  refine r_iload 13 X d11_11 rfl ?_
  refine r_iload 15 X d11_13 rfl ?_
  refine r_icmpN 18 X d11_15 (tlt (by decide)).2.1 ?_
  refine r_aloadN 19 X d11_18 rfl rfl ?_
  refine r_iload 21 X d11_19 rfl ?_
  refine r_iaload 22 X A_sx (i := 0) (v := (.int x1)) (by decide) (by decide) rfl d11_21 ?_
  refine r_istore 24 X #[.val (.ref rs), .val (.ref sx), .val (.int (0 : Int32)), .val (.ref sx), .val (.int (1 : Int32)), .val (.int (0 : Int32)), .val (.int x1)] d11_22 rfl ?_
  refine r_aloadN 25 X d11_24 rfl rfl ?_
  refine r_iload 27 X d11_25 rfl ?_
  refine r_iloadN 28 X d11_27 rfl ?_
  refine r_private 31 X (st := []) (a := rs) (rmWr l Z a0 hw n0 _ X.sz rs ad x1 gA (by omega) (by omega)  hFA E_rs F_rs_adding A_ad) E_rs (hw _ (List.mem_of_getElem? (i := 92) rfl)) (hw _ (List.mem_of_getElem? (i := 93) rfl)) (hw _ (List.mem_of_getElem? (i := 2) rfl)) (hw _ (List.mem_of_getElem? (i := 94) rfl)) (hw _ (List.mem_of_getElem? (i := 95) rfl)) (hw _ (List.mem_of_getElem? (i := 3) rfl)) (by decide) pd_2 [(.int x1), (.int (0 : Int32))] rfl rfl 0 (Nat.le_of_eq rfl) rfl (by decide) (by decide) (by decide) (by decide) d11_28 ?_
  rintro T h1 v1 ⟨an, gW, rfl, hL, K1, Aw, hFW, hW⟩ X
  have K := K.trans K1 (allS (Or.inl (List.mem_of_getElem? (i := 0) rfl)) all0)
  have E_rs := E_rs.keep K1
  have E_al := E_al.keep K1
  have E_tb := E_tb.keep K1
  have E_st := E_st.keep K1
  have E_pl := E_pl.keep K1
  have E_ad := E_ad.keep K1
  have F_rs_blocks := F_rs_blocks.keep K1 (ninS ne_rs_ad nin0)
  have F_rs_table := F_rs_table.keep K1 (ninS ne_rs_ad nin0)
  have F_rs_width := F_rs_width.keep K1 (ninS ne_rs_ad nin0)
  have F_rs_adding := F_rs_adding.keep K1 (ninS ne_rs_ad nin0)
  have F_rs_end := F_rs_end.keep K1 (ninS ne_rs_ad nin0)
  have F_rs_explored := F_rs_explored.keep K1 (ninS ne_rs_ad nin0)
  have F_rs_addingLength := F_rs_addingLength.keep K1 (ninS ne_rs_ad nin0)
  have F_rs_size := F_rs_size.keep K1 (ninS ne_rs_ad nin0)
  have F_tb_places := F_tb_places.keep K1 (ninS ne_tb_ad nin0)
  have F_tb_shift := F_tb_shift.keep K1 (ninS ne_tb_ad nin0)
  have F_tb_items := F_tb_items.keep K1 (ninS ne_tb_ad nin0)
  have F_tb_size := F_tb_size.keep K1 (ninS ne_tb_ad nin0)
  have F_st_this_0 := F_st_this_0.keep K1 (ninS ne_st_ad nin0)
  have A_pl := A_pl.keep K1 (ninS ne_pl_ad nin0)
  have A_sx := A_sx.keep K1 (ninS ne_sx_ad nin0)
  have E_blk := E_blk.keep K1
  have F_al_elementData := F_al_elementData.keep K1 (ninS ne_al_ad nin0)
  have F_al_size := F_al_size.keep K1 (ninS ne_al_ad nin0)
  have A_od := A_od.keep K1 (ninS (Ne.symm ne_ad_od) nin0)
  have A_blk := A_blk.keep K1 (ninS (Ne.symm ne_ad_blk) nin0)
  have A_ad := Aw
  change Run _ _ _ _ _ _ _ _ [(.int an)]
  refine r_istoreN 32 X #[.val (.ref rs), .val (.ref sx), .val (.int an), .val (.ref sx), .val (.int (1 : Int32)), .val (.int (0 : Int32)), .val (.int x1)] d11_31 rfl ?_
  refine r_iinc 35 X (1 : Int32) #[.val (.ref rs), .val (.ref sx), .val (.int an), .val (.ref sx), .val (.int (1 : Int32)), .val (.int (1 : Int32)), .val (.int x1)] d11_32 rfl rfl rfl ?_
  refine r_goto 11 X d11_35 ?_
  refine r_iload 13 X d11_11 rfl ?_
  refine r_iload 15 X d11_13 rfl ?_
  refine r_icmpY 38 X d11_15 (flt (by decide)).2.1 ?_
  refine r_aloadN 39 X d11_38 rfl rfl ?_
  refine r_iloadN 40 X d11_39 rfl ?_
  refine r_putfield 43 X (host := "") (Or.inl (hw _ (List.mem_of_getElem? (i := 96) rfl))) Via.refl F_rs_addingLength E_rs (Or.inl (hw _ (List.mem_of_getElem? (i := 97) rfl))) (hw _ (List.mem_of_getElem? (i := 2) rfl)) (ty := .int) (by decide) rfl rfl g_rs d11_40 ?_
  intro T h2 W2 X
  have K := K.wr W2 (Or.inl (List.mem_of_getElem? (i := 1) rfl))
  have E_rs := E_rs.wr W2
  have E_al := E_al.wr W2
  have E_tb := E_tb.wr W2
  have E_st := E_st.wr W2
  have E_pl := E_pl.wr W2
  have E_ad := E_ad.wr W2
  have F_rs_blocks := F_rs_blocks.other W2 (Or.inr (slot_ne (Or.inr (hw _ (List.mem_of_getElem? (i := 35) rfl))) (Or.inl (hw _ (List.mem_of_getElem? (i := 97) rfl))) (by decide) (t := (.object "java/util/List")) (t' := .int) (by decide) (by decide)))
  have F_rs_table := F_rs_table.other W2 (Or.inr (slot_ne (Or.inr (hw _ (List.mem_of_getElem? (i := 70) rfl))) (Or.inl (hw _ (List.mem_of_getElem? (i := 97) rfl))) (by decide) (t := (.object "com/example/statera/statera/engine/IdTable")) (t' := .int) (by decide) (by decide)))
  have F_rs_width := F_rs_width.other W2 (Or.inr (slot_ne (Or.inr (hw _ (List.mem_of_getElem? (i := 72) rfl))) (Or.inl (hw _ (List.mem_of_getElem? (i := 97) rfl))) (by decide) (t := .int) (t' := .int) (by decide) (by decide)))
  have F_rs_adding := F_rs_adding.other W2 (Or.inr (slot_ne (Or.inr (hw _ (List.mem_of_getElem? (i := 75) rfl))) (Or.inl (hw _ (List.mem_of_getElem? (i := 97) rfl))) (by decide) (t := (.array .byte)) (t' := .int) (by decide) (by decide)))
  have F_rs_end := F_rs_end.other W2 (Or.inr (slot_ne (Or.inl (hw _ (List.mem_of_getElem? (i := 86) rfl))) (Or.inl (hw _ (List.mem_of_getElem? (i := 97) rfl))) (by decide) (t := .long) (t' := .int) (by decide) (by decide)))
  have F_rs_explored := F_rs_explored.other W2 (Or.inr (slot_ne (Or.inl (hw _ (List.mem_of_getElem? (i := 84) rfl))) (Or.inl (hw _ (List.mem_of_getElem? (i := 97) rfl))) (by decide) (t := .long) (t' := .int) (by decide) (by decide)))
  have F_rs_addingLength := F_rs_addingLength.same W2
  have F_rs_size := F_rs_size.other W2 (Or.inr (slot_ne (Or.inl (hw _ (List.mem_of_getElem? (i := 200) rfl))) (Or.inl (hw _ (List.mem_of_getElem? (i := 97) rfl))) (by decide) (t := .int) (t' := .int) (by decide) (by decide)))
  have F_tb_places := F_tb_places.other W2 (Or.inl (Ne.symm ne_rs_tb))
  have F_tb_shift := F_tb_shift.other W2 (Or.inl (Ne.symm ne_rs_tb))
  have F_tb_items := F_tb_items.other W2 (Or.inl (Ne.symm ne_rs_tb))
  have F_tb_size := F_tb_size.other W2 (Or.inl (Ne.symm ne_rs_tb))
  have F_st_this_0 := F_st_this_0.other W2 (Or.inl (Ne.symm ne_rs_st))
  have A_pl := A_pl.other W2 (Ne.symm ne_rs_pl)
  have A_sx := A_sx.other W2 ne_sx_rs
  have E_blk := E_blk.wr W2
  have F_al_elementData := F_al_elementData.other W2 (Or.inl (Ne.symm ne_rs_al))
  have F_al_size := F_al_size.other W2 (Or.inl (Ne.symm ne_rs_al))
  have A_od := A_od.other W2 (Ne.symm ne_rs_od)
  have A_blk := A_blk.other W2 (Ne.symm ne_rs_blk)
  have A_ad := A_ad.other W2 (Ne.symm ne_rs_ad)
  refine r_aloadN 44 X d11_43 rfl rfl ?_
  refine r_getfield 47 X (host := "") (Or.inl (hw _ (List.mem_of_getElem? (i := 69) rfl))) Via.refl F_rs_table d11_44 ?_
  intro T X
  refine r_aloadN 48 X d11_47 rfl rfl ?_
  refine r_callS 51 X (st := [(.ref tb)]) (rmHa l Z a0 hw n0 _ X.sz sx x1   A_sx) (hw _ (List.mem_of_getElem? (i := 98) rfl)) (hw _ (List.mem_of_getElem? (i := 99) rfl)) (hw _ (List.mem_of_getElem? (i := 100) rfl)) (hw _ (List.mem_of_getElem? (i := 3) rfl)) (by decide) pd_19 [(.ref sx)] rfl rfl 1 (Nat.le_of_eq rfl) rfl (by decide) (by decide) (by decide) (by decide) d11_48 ?_
  rintro T h3 v3 ⟨rfl, rfl⟩ X
  change Run _ _ _ _ _ _ _ _ [(.long (hsh x1)), (.ref tb)]
  refine r_aloadN 52 X d11_51 rfl rfl ?_
  refine r_getfield 55 X (host := "") (Or.inl (hw _ (List.mem_of_getElem? (i := 85) rfl))) Via.refl F_rs_end d11_52 ?_
  intro T X
  refine r_virtual 58 X (st := []) (a := tb) (rmFF l Z a0 hw n0 _ X.sz rs al tb st pl ad blk od (hsh x1) en tz p1 tn jx P x1 an F gW (by omega) (by omega) (by omega) (by omega) (by omega) (by omega) (by omega) (by omega)  hen hp htz htn hL hW H0 hPass E_tb F_tb_places F_tb_shift F_tb_items F_tb_size A_pl E_rs E_al E_st E_blk F_rs_blocks F_rs_adding F_rs_addingLength F_al_elementData F_al_size A_od A_ad A_blk F_st_this_0) E_tb (hw _ (List.mem_of_getElem? (i := 107) rfl)) (hw _ (List.mem_of_getElem? (i := 108) rfl)) (hw _ (List.mem_of_getElem? (i := 110) rfl)) (hw _ (List.mem_of_getElem? (i := 110) rfl)) (hw _ (List.mem_of_getElem? (i := 109) rfl)) (hw _ (List.mem_of_getElem? (i := 111) rfl)) (hw _ (List.mem_of_getElem? (i := 38) rfl)) (by decide) pd_20 [(.long (hsh x1)), (.long en)] rfl rfl 0 (Nat.le_of_eq rfl) rfl (by decide) (by decide) (by decide) (by decide) d11_55 ?_
  rintro T h4 v4 ⟨rfl, K4, B4_F_tb_places, B4_F_tb_shift, B4_F_tb_items, B4_F_tb_size, B4_A_pl⟩ X
  have K := K.trans K4 (allS (Or.inl (List.mem_of_getElem? (i := 2) rfl)) (allS (Or.inl (List.mem_of_getElem? (i := 3) rfl)) all0))
  have E_rs := E_rs.keep K4
  have E_al := E_al.keep K4
  have E_tb := E_tb.keep K4
  have E_st := E_st.keep K4
  have E_pl := E_pl.keep K4
  have E_ad := E_ad.keep K4
  have F_rs_blocks := F_rs_blocks.keep K4 (ninS ne_rs_pl (ninS ne_rs_tb nin0))
  have F_rs_table := F_rs_table.keep K4 (ninS ne_rs_pl (ninS ne_rs_tb nin0))
  have F_rs_width := F_rs_width.keep K4 (ninS ne_rs_pl (ninS ne_rs_tb nin0))
  have F_rs_adding := F_rs_adding.keep K4 (ninS ne_rs_pl (ninS ne_rs_tb nin0))
  have F_rs_end := F_rs_end.keep K4 (ninS ne_rs_pl (ninS ne_rs_tb nin0))
  have F_rs_explored := F_rs_explored.keep K4 (ninS ne_rs_pl (ninS ne_rs_tb nin0))
  have F_rs_addingLength := F_rs_addingLength.keep K4 (ninS ne_rs_pl (ninS ne_rs_tb nin0))
  have F_rs_size := F_rs_size.keep K4 (ninS ne_rs_pl (ninS ne_rs_tb nin0))
  have F_st_this_0 := F_st_this_0.keep K4 (ninS ne_st_pl (ninS (Ne.symm ne_tb_st) nin0))
  have A_sx := A_sx.keep K4 (ninS ne_sx_pl (ninS ne_sx_tb nin0))
  have E_blk := E_blk.keep K4
  have F_al_elementData := F_al_elementData.keep K4 (ninS ne_al_pl (ninS ne_al_tb nin0))
  have F_al_size := F_al_size.keep K4 (ninS ne_al_pl (ninS ne_al_tb nin0))
  have A_od := A_od.keep K4 (ninS (Ne.symm ne_pl_od) (ninS (Ne.symm ne_tb_od) nin0))
  have A_blk := A_blk.keep K4 (ninS (Ne.symm ne_pl_blk) (ninS (Ne.symm ne_tb_blk) nin0))
  have A_ad := A_ad.keep K4 (ninS (Ne.symm ne_pl_ad) (ninS (Ne.symm ne_tb_ad) nin0))
  have F_tb_places := B4_F_tb_places
  have F_tb_shift := B4_F_tb_shift
  have F_tb_items := B4_F_tb_items
  have F_tb_size := B4_F_tb_size
  have A_pl := B4_A_pl
  change Run _ _ _ _ _ _ _ _ [(.long en)]
  refine r_lstoreN 59 X #[.val (.ref rs), .val (.ref sx), .val (.int an), .val (.long en), .second, .val (.int (1 : Int32)), .val (.int x1)] d11_58 rfl ?_
  refine r_lloadN 60 X d11_59 rfl ?_
  refine r_aloadN 61 X d11_60 rfl rfl ?_
  refine r_getfield 64 X (host := "") (Or.inl (hw _ (List.mem_of_getElem? (i := 85) rfl))) Via.refl F_rs_end d11_61 ?_
  intro T X
  refine r_lcmp 65 X d11_64 ?_
  refine r_ifY 70 X d11_65 ((if0 _ _).trans (teq ((lw_eq _ _).mpr rfl)).1) ?_
  refine r_aloadN 71 X d11_70 rfl rfl ?_
  refine r_iloadN 72 X d11_71 rfl ?_
  refine r_private 75 X (st := []) (a := rs) (rmP1 l Z a0 hw n0 _ X.sz rs al ad blk od en ex an an rz x1 p1 gW F (by omega) (by omega) (by omega) (by omega) (by omega)  hen hp hL hFW hW hFF E_rs E_al E_ad E_blk F_rs_blocks F_rs_table F_rs_width F_rs_adding F_rs_end F_rs_explored F_rs_addingLength F_rs_size F_al_elementData F_al_size A_od A_ad A_blk) E_rs (hw _ (List.mem_of_getElem? (i := 116) rfl)) (hw _ (List.mem_of_getElem? (i := 117) rfl)) (hw _ (List.mem_of_getElem? (i := 2) rfl)) (hw _ (List.mem_of_getElem? (i := 118) rfl)) (hw _ (List.mem_of_getElem? (i := 119) rfl)) (hw _ (List.mem_of_getElem? (i := 3) rfl)) (by decide) pd_21 [(.int an)] rfl rfl 0 (Nat.le_of_eq rfl) rfl (by decide) (by decide) (by decide) (by decide) d11_72 ?_
  rintro T h5 v5 ⟨rfl, K5, B5_F_rs_blocks, B5_F_rs_table, B5_F_rs_width, B5_F_rs_adding, B5_F_rs_end, B5_F_rs_explored, B5_F_rs_addingLength, B5_F_rs_size, B5_A_blk⟩ X
  have K := K.trans K5 (allS (Or.inl (List.mem_of_getElem? (i := 1) rfl)) (allS (Or.inl (List.mem_of_getElem? (i := 4) rfl)) all0))
  have E_rs := E_rs.keep K5
  have E_al := E_al.keep K5
  have E_tb := E_tb.keep K5
  have E_st := E_st.keep K5
  have E_pl := E_pl.keep K5
  have E_ad := E_ad.keep K5
  have F_st_this_0 := F_st_this_0.keep K5 (ninS (Ne.symm ne_rs_st) (ninS ne_st_blk nin0))
  have A_sx := A_sx.keep K5 (ninS ne_sx_rs (ninS ne_sx_blk nin0))
  have E_blk := E_blk.keep K5
  have F_al_elementData := F_al_elementData.keep K5 (ninS (Ne.symm ne_rs_al) (ninS ne_al_blk nin0))
  have F_al_size := F_al_size.keep K5 (ninS (Ne.symm ne_rs_al) (ninS ne_al_blk nin0))
  have A_od := A_od.keep K5 (ninS (Ne.symm ne_rs_od) (ninS (Ne.symm ne_blk_od) nin0))
  have A_ad := A_ad.keep K5 (ninS (Ne.symm ne_rs_ad) (ninS ne_ad_blk nin0))
  have F_tb_places := F_tb_places.keep K5 (ninS (Ne.symm ne_rs_tb) (ninS ne_tb_blk nin0))
  have F_tb_shift := F_tb_shift.keep K5 (ninS (Ne.symm ne_rs_tb) (ninS ne_tb_blk nin0))
  have F_tb_items := F_tb_items.keep K5 (ninS (Ne.symm ne_rs_tb) (ninS ne_tb_blk nin0))
  have F_tb_size := F_tb_size.keep K5 (ninS (Ne.symm ne_rs_tb) (ninS ne_tb_blk nin0))
  have A_pl := A_pl.keep K5 (ninS (Ne.symm ne_rs_pl) (ninS ne_pl_blk nin0))
  have F_rs_blocks := B5_F_rs_blocks
  have F_rs_table := B5_F_rs_table
  have F_rs_width := B5_F_rs_width
  have F_rs_adding := B5_F_rs_adding
  have F_rs_end := B5_F_rs_end
  have F_rs_explored := B5_F_rs_explored
  have F_rs_addingLength := B5_F_rs_addingLength
  have F_rs_size := B5_F_rs_size
  have A_blk := B5_A_blk
  change Run _ _ _ _ _ _ _ _ []
  refine r_aloadN 76 X d11_75 rfl rfl ?_
  refine r_dup 77 X d11_76 rfl ?_
  refine r_getfield 80 X (host := "") (Or.inl (hw _ (List.mem_of_getElem? (i := 199) rfl))) Via.refl F_rs_size d11_77 ?_
  intro T X
  refine r_iconst 81 X (1 : Int32) d11_80 rfl ?_
  refine r_iadd 82 X d11_81 ?_
  refine r_putfield 85 X (host := "") (Or.inl (hw _ (List.mem_of_getElem? (i := 199) rfl))) Via.refl F_rs_size E_rs (Or.inl (hw _ (List.mem_of_getElem? (i := 200) rfl))) (hw _ (List.mem_of_getElem? (i := 2) rfl)) (ty := .int) (by decide) rfl rfl g_rs d11_82 ?_
  intro T h6 W6 X
  have K := K.wr W6 (Or.inl (List.mem_of_getElem? (i := 1) rfl))
  have E_rs := E_rs.wr W6
  have E_al := E_al.wr W6
  have E_tb := E_tb.wr W6
  have E_st := E_st.wr W6
  have E_pl := E_pl.wr W6
  have E_ad := E_ad.wr W6
  have F_st_this_0 := F_st_this_0.other W6 (Or.inl (Ne.symm ne_rs_st))
  have A_sx := A_sx.other W6 ne_sx_rs
  have E_blk := E_blk.wr W6
  have F_al_elementData := F_al_elementData.other W6 (Or.inl (Ne.symm ne_rs_al))
  have F_al_size := F_al_size.other W6 (Or.inl (Ne.symm ne_rs_al))
  have A_od := A_od.other W6 (Ne.symm ne_rs_od)
  have A_ad := A_ad.other W6 (Ne.symm ne_rs_ad)
  have F_tb_places := F_tb_places.other W6 (Or.inl (Ne.symm ne_rs_tb))
  have F_tb_shift := F_tb_shift.other W6 (Or.inl (Ne.symm ne_rs_tb))
  have F_tb_items := F_tb_items.other W6 (Or.inl (Ne.symm ne_rs_tb))
  have F_tb_size := F_tb_size.other W6 (Or.inl (Ne.symm ne_rs_tb))
  have A_pl := A_pl.other W6 (Ne.symm ne_rs_pl)
  have F_rs_blocks := F_rs_blocks.other W6 (Or.inr (slot_ne (Or.inr (hw _ (List.mem_of_getElem? (i := 35) rfl))) (Or.inl (hw _ (List.mem_of_getElem? (i := 200) rfl))) (by decide) (t := (.object "java/util/List")) (t' := .int) (by decide) (by decide)))
  have F_rs_table := F_rs_table.other W6 (Or.inr (slot_ne (Or.inr (hw _ (List.mem_of_getElem? (i := 70) rfl))) (Or.inl (hw _ (List.mem_of_getElem? (i := 200) rfl))) (by decide) (t := (.object "com/example/statera/statera/engine/IdTable")) (t' := .int) (by decide) (by decide)))
  have F_rs_width := F_rs_width.other W6 (Or.inr (slot_ne (Or.inr (hw _ (List.mem_of_getElem? (i := 72) rfl))) (Or.inl (hw _ (List.mem_of_getElem? (i := 200) rfl))) (by decide) (t := .int) (t' := .int) (by decide) (by decide)))
  have F_rs_adding := F_rs_adding.other W6 (Or.inr (slot_ne (Or.inr (hw _ (List.mem_of_getElem? (i := 75) rfl))) (Or.inl (hw _ (List.mem_of_getElem? (i := 200) rfl))) (by decide) (t := (.array .byte)) (t' := .int) (by decide) (by decide)))
  have F_rs_end := F_rs_end.other W6 (Or.inr (slot_ne (Or.inl (hw _ (List.mem_of_getElem? (i := 86) rfl))) (Or.inl (hw _ (List.mem_of_getElem? (i := 200) rfl))) (by decide) (t := .long) (t' := .int) (by decide) (by decide)))
  have F_rs_explored := F_rs_explored.other W6 (Or.inr (slot_ne (Or.inl (hw _ (List.mem_of_getElem? (i := 84) rfl))) (Or.inl (hw _ (List.mem_of_getElem? (i := 200) rfl))) (by decide) (t := .long) (t' := .int) (by decide) (by decide)))
  have F_rs_addingLength := F_rs_addingLength.other W6 (Or.inr (slot_ne (Or.inl (hw _ (List.mem_of_getElem? (i := 97) rfl))) (Or.inl (hw _ (List.mem_of_getElem? (i := 200) rfl))) (by decide) (t := .int) (t' := .int) (by decide) (by decide)))
  have F_rs_size := F_rs_size.same W6
  have A_blk := A_blk.other W6 (Ne.symm ne_rs_blk)
  refine r_iconst 86 X (1 : Int32) d11_85 rfl ?_
  refine r_retZ (z := (1 : Int32)) X d11_86 rfl (by decide) (by decide) ?_
  exact ⟨rfl, K, _, _, _, own_adv hen hL (encL_r x1).2 (by omega), hFW, F_rs_blocks, F_rs_table, F_rs_width, F_rs_adding, F_rs_end, F_rs_explored, F_rs_addingLength, F_rs_size, F_tb_places, F_tb_shift, F_tb_items, F_tb_size, A_pl, A_ad, A_blk⟩
theorem d11_68 : decode prog_19_method_2_code 68 = .ok (.iconst 0, 1) := by decide +kernel
theorem d11_69 : decode prog_19_method_2_code 69 = .ok (.ireturn, 1) := by decide +kernel
set_option maxRecDepth 65536 in
set_option maxHeartbeats 40000000 in
theorem rmDH (l : Launch) (Z : State) (a0 : Array Value) (hw : ∀ d ∈ tables_1, d.before a0 Z = true) (n0 : Nat) (h : Heap) (Z0 : n0 ≤ h.size) (sx rs al tb st pl ad blk od : Nat) (en ex : Int64) (an0 rz x1 tz : Int32) (p1 tn : Nat) (gA : Nat → Int32) (P : Nat → Int64) (F : Nat → Int32) (jx : Nat) (f : Int64) (nn : Nat) (lt_sx_rs : @LT.lt Nat _ sx rs) (lt_rs_al : @LT.lt Nat _ rs al) (lt_al_tb : @LT.lt Nat _ al tb) (lt_tb_st : @LT.lt Nat _ tb st) (lt_st_pl : @LT.lt Nat _ st pl) (lt_pl_ad : @LT.lt Nat _ pl ad) (lt_ad_blk : @LT.lt Nat _ ad blk) (lt_blk_od : @LT.lt Nat _ blk od) (g_sx : n0 ≤ sx) (hen : en.toInt = (p1 : Int)) (hp : p1 ≤ 1000) (htz : tz.toInt = (tn : Int)) (htn : tn ≤ 5) (hFA : FB gA) (hH : Hit P F (hsh x1) x1 (hmN (hsh x1)) jx f nn) (hfe : ¬ f = en) (E_rs : Exa Z h rs "com/example/statera/statera/engine/ReachedStates") (E_al : Exa Z h al "java/util/ArrayList") (E_tb : Exa Z h tb "com/example/statera/statera/engine/IdTable") (E_st : Exa Z h st "com/example/statera/statera/engine/ReachedStates$States") (E_pl : Exa Z h pl "[J") (E_ad : Exa Z h ad "[B") (F_rs_blocks : Fld Z h rs "com/example/statera/statera/engine/ReachedStates" "blocks" "Ljava/util/List;" (.ref al)) (F_rs_table : Fld Z h rs "com/example/statera/statera/engine/ReachedStates" "table" "Lcom/example/statera/statera/engine/IdTable;" (.ref tb)) (F_rs_width : Fld Z h rs "com/example/statera/statera/engine/ReachedStates" "width" "I" (.int (1 : Int32))) (F_rs_adding : Fld Z h rs "com/example/statera/statera/engine/ReachedStates" "adding" "[B" (.ref ad)) (F_rs_end : Fld Z h rs "com/example/statera/statera/engine/ReachedStates" "end" "J" (.long en)) (F_rs_explored : Fld Z h rs "com/example/statera/statera/engine/ReachedStates" "explored" "J" (.long ex)) (F_rs_addingLength : Fld Z h rs "com/example/statera/statera/engine/ReachedStates" "addingLength" "I" (.int an0)) (F_rs_size : Fld Z h rs "com/example/statera/statera/engine/ReachedStates" "size" "I" (.int rz)) (F_tb_places : Fld Z h tb "com/example/statera/statera/engine/IdTable" "places" "[J" (.ref pl)) (F_tb_shift : Fld Z h tb "com/example/statera/statera/engine/IdTable" "shift" "I" (.int (60 : Int32))) (F_tb_items : Fld Z h tb "com/example/statera/statera/engine/IdTable" "items" "Lcom/example/statera/statera/engine/IdTable$Items;" (.ref st)) (F_tb_size : Fld Z h tb "com/example/statera/statera/engine/IdTable" "size" "I" (.int tz)) (F_st_this_0 : Fld Z h st "com/example/statera/statera/engine/ReachedStates$States" "this$0" "Lcom/example/statera/statera/engine/ReachedStates;" (.ref rs)) (A_pl : AF Z h pl .long 16 (fun j => .long (P j))) (A_ad : AF Z h ad .byte 5 (fun j => .int (gA j))) (A_sx : AF Z h sx .int 1 (fun j => .int ((fun _ => x1) j))) (E_blk : Exa Z h blk "[B") (F_al_elementData : Fld Z h al "java/util/ArrayList" "elementData" "[Ljava/lang/Object;" (.ref od)) (F_al_size : Fld Z h al "java/util/ArrayList" "size" "I" (.int (1 : Int32))) (A_od : AF Z h od (.object "java/lang/Object") 10 (upd (fun _ => .null) 0 (.ref blk))) (A_blk : AF Z h blk .byte 65536 (fun j => .int (F j))) :
    Met1 l Z n0 [] (⟨"com/example/statera/statera/engine/ReachedStates", "add", "([I)Z"⟩ : MethodName) prog_19_method_2_code 7 (some .boolean) ({ frames := 6, cells := 0, slots := 0, locals := 97 } : Room) #[(.ref rs), (.ref sx)] h (fun v h' => v = some (.int 0) ∧ Keep h h' [ad, rs] ∧ ∃ (a2 : Int32) (g2 : Nat → Int32), FB g2 ∧ Fld Z h' rs "com/example/statera/statera/engine/ReachedStates" "blocks" "Ljava/util/List;" (.ref al) ∧ Fld Z h' rs "com/example/statera/statera/engine/ReachedStates" "table" "Lcom/example/statera/statera/engine/IdTable;" (.ref tb) ∧ Fld Z h' rs "com/example/statera/statera/engine/ReachedStates" "width" "I" (.int (1 : Int32)) ∧ Fld Z h' rs "com/example/statera/statera/engine/ReachedStates" "adding" "[B" (.ref ad) ∧ Fld Z h' rs "com/example/statera/statera/engine/ReachedStates" "end" "J" (.long en) ∧ Fld Z h' rs "com/example/statera/statera/engine/ReachedStates" "explored" "J" (.long ex) ∧ Fld Z h' rs "com/example/statera/statera/engine/ReachedStates" "addingLength" "I" (.int a2) ∧ Fld Z h' rs "com/example/statera/statera/engine/ReachedStates" "size" "I" (.int rz) ∧ AF Z h' ad .byte 5 (fun j => .int (g2 j))) := by
  refine met_of (plainFor_of_name pn_11) Z0 (fun m => ef_11 m rs sx) ?_
  intro p e s m below meth c T hs0 X
  have K := Keep.refl h [ad, rs]
  have ne_sx_rs : @Ne Nat sx rs := by omega
  have ne_sx_al : @Ne Nat sx al := by omega
  have ne_sx_tb : @Ne Nat sx tb := by omega
  have ne_sx_st : @Ne Nat sx st := by omega
  have ne_sx_pl : @Ne Nat sx pl := by omega
  have ne_sx_ad : @Ne Nat sx ad := by omega
  have ne_sx_blk : @Ne Nat sx blk := by omega
  have ne_sx_od : @Ne Nat sx od := by omega
  have ne_rs_al : @Ne Nat rs al := by omega
  have ne_rs_tb : @Ne Nat rs tb := by omega
  have ne_rs_st : @Ne Nat rs st := by omega
  have ne_rs_pl : @Ne Nat rs pl := by omega
  have ne_rs_ad : @Ne Nat rs ad := by omega
  have ne_rs_blk : @Ne Nat rs blk := by omega
  have ne_rs_od : @Ne Nat rs od := by omega
  have ne_al_tb : @Ne Nat al tb := by omega
  have ne_al_st : @Ne Nat al st := by omega
  have ne_al_pl : @Ne Nat al pl := by omega
  have ne_al_ad : @Ne Nat al ad := by omega
  have ne_al_blk : @Ne Nat al blk := by omega
  have ne_al_od : @Ne Nat al od := by omega
  have ne_tb_st : @Ne Nat tb st := by omega
  have ne_tb_pl : @Ne Nat tb pl := by omega
  have ne_tb_ad : @Ne Nat tb ad := by omega
  have ne_tb_blk : @Ne Nat tb blk := by omega
  have ne_tb_od : @Ne Nat tb od := by omega
  have ne_st_pl : @Ne Nat st pl := by omega
  have ne_st_ad : @Ne Nat st ad := by omega
  have ne_st_blk : @Ne Nat st blk := by omega
  have ne_st_od : @Ne Nat st od := by omega
  have ne_pl_ad : @Ne Nat pl ad := by omega
  have ne_pl_blk : @Ne Nat pl blk := by omega
  have ne_pl_od : @Ne Nat pl od := by omega
  have ne_ad_blk : @Ne Nat ad blk := by omega
  have ne_ad_od : @Ne Nat ad od := by omega
  have ne_blk_od : @Ne Nat blk od := by omega
  have g_rs : @LE.le Nat _ n0 rs := by omega
  have g_al : @LE.le Nat _ n0 al := by omega
  have g_tb : @LE.le Nat _ n0 tb := by omega
  have g_st : @LE.le Nat _ n0 st := by omega
  have g_pl : @LE.le Nat _ n0 pl := by omega
  have g_ad : @LE.le Nat _ n0 ad := by omega
  have g_blk : @LE.le Nat _ n0 blk := by omega
  have g_od : @LE.le Nat _ n0 od := by omega
  refine r_iconst 1 X (0 : Int32) d11_0 rfl ?_
  refine r_istoreN 2 X #[.val (.ref rs), .val (.ref sx), .val (.int (0 : Int32)), .unset, .unset, .unset, .unset] d11_1 rfl ?_
  refine r_aloadN 3 X d11_2 rfl rfl ?_
  refine r_astoreN 4 X #[.val (.ref rs), .val (.ref sx), .val (.int (0 : Int32)), .val (.ref sx), .unset, .unset, .unset] d11_3 rfl rfl ?_
  refine r_aloadN 5 X d11_4 rfl rfl ?_
  refine r_arraylength 6 X A_sx (1 : Int32) (by decide) d11_5 ?_
  refine r_istore 8 X #[.val (.ref rs), .val (.ref sx), .val (.int (0 : Int32)), .val (.ref sx), .val (.int (1 : Int32)), .unset, .unset] d11_6 rfl ?_
  refine r_iconst 9 X (0 : Int32) d11_8 rfl ?_
  refine r_istore 11 X #[.val (.ref rs), .val (.ref sx), .val (.int (0 : Int32)), .val (.ref sx), .val (.int (1 : Int32)), .val (.int (0 : Int32)), .unset] d11_9 rfl ?_
  refine r_iload 13 X d11_11 rfl ?_
  refine r_iload 15 X d11_13 rfl ?_
  refine r_icmpN 18 X d11_15 (tlt (by decide)).2.1 ?_
  refine r_aloadN 19 X d11_18 rfl rfl ?_
  refine r_iload 21 X d11_19 rfl ?_
  refine r_iaload 22 X A_sx (i := 0) (v := (.int x1)) (by decide) (by decide) rfl d11_21 ?_
  refine r_istore 24 X #[.val (.ref rs), .val (.ref sx), .val (.int (0 : Int32)), .val (.ref sx), .val (.int (1 : Int32)), .val (.int (0 : Int32)), .val (.int x1)] d11_22 rfl ?_
  refine r_aloadN 25 X d11_24 rfl rfl ?_
  refine r_iload 27 X d11_25 rfl ?_
  refine r_iloadN 28 X d11_27 rfl ?_
  refine r_private 31 X (st := []) (a := rs) (rmWr l Z a0 hw n0 _ X.sz rs ad x1 gA (by omega) (by omega)  hFA E_rs F_rs_adding A_ad) E_rs (hw _ (List.mem_of_getElem? (i := 92) rfl)) (hw _ (List.mem_of_getElem? (i := 93) rfl)) (hw _ (List.mem_of_getElem? (i := 2) rfl)) (hw _ (List.mem_of_getElem? (i := 94) rfl)) (hw _ (List.mem_of_getElem? (i := 95) rfl)) (hw _ (List.mem_of_getElem? (i := 3) rfl)) (by decide) pd_2 [(.int x1), (.int (0 : Int32))] rfl rfl 0 (Nat.le_of_eq rfl) rfl (by decide) (by decide) (by decide) (by decide) d11_28 ?_
  rintro T h1 v1 ⟨an, gW, rfl, hL, K1, Aw, hFW, hW⟩ X
  have K := K.trans K1 (allS (Or.inl (List.mem_of_getElem? (i := 0) rfl)) all0)
  have E_rs := E_rs.keep K1
  have E_al := E_al.keep K1
  have E_tb := E_tb.keep K1
  have E_st := E_st.keep K1
  have E_pl := E_pl.keep K1
  have E_ad := E_ad.keep K1
  have F_rs_blocks := F_rs_blocks.keep K1 (ninS ne_rs_ad nin0)
  have F_rs_table := F_rs_table.keep K1 (ninS ne_rs_ad nin0)
  have F_rs_width := F_rs_width.keep K1 (ninS ne_rs_ad nin0)
  have F_rs_adding := F_rs_adding.keep K1 (ninS ne_rs_ad nin0)
  have F_rs_end := F_rs_end.keep K1 (ninS ne_rs_ad nin0)
  have F_rs_explored := F_rs_explored.keep K1 (ninS ne_rs_ad nin0)
  have F_rs_addingLength := F_rs_addingLength.keep K1 (ninS ne_rs_ad nin0)
  have F_rs_size := F_rs_size.keep K1 (ninS ne_rs_ad nin0)
  have F_tb_places := F_tb_places.keep K1 (ninS ne_tb_ad nin0)
  have F_tb_shift := F_tb_shift.keep K1 (ninS ne_tb_ad nin0)
  have F_tb_items := F_tb_items.keep K1 (ninS ne_tb_ad nin0)
  have F_tb_size := F_tb_size.keep K1 (ninS ne_tb_ad nin0)
  have F_st_this_0 := F_st_this_0.keep K1 (ninS ne_st_ad nin0)
  have A_pl := A_pl.keep K1 (ninS ne_pl_ad nin0)
  have A_sx := A_sx.keep K1 (ninS ne_sx_ad nin0)
  have E_blk := E_blk.keep K1
  have F_al_elementData := F_al_elementData.keep K1 (ninS ne_al_ad nin0)
  have F_al_size := F_al_size.keep K1 (ninS ne_al_ad nin0)
  have A_od := A_od.keep K1 (ninS (Ne.symm ne_ad_od) nin0)
  have A_blk := A_blk.keep K1 (ninS (Ne.symm ne_ad_blk) nin0)
  have A_ad := Aw
  change Run _ _ _ _ _ _ _ _ [(.int an)]
  refine r_istoreN 32 X #[.val (.ref rs), .val (.ref sx), .val (.int an), .val (.ref sx), .val (.int (1 : Int32)), .val (.int (0 : Int32)), .val (.int x1)] d11_31 rfl ?_
  refine r_iinc 35 X (1 : Int32) #[.val (.ref rs), .val (.ref sx), .val (.int an), .val (.ref sx), .val (.int (1 : Int32)), .val (.int (1 : Int32)), .val (.int x1)] d11_32 rfl rfl rfl ?_
  refine r_goto 11 X d11_35 ?_
  refine r_iload 13 X d11_11 rfl ?_
  refine r_iload 15 X d11_13 rfl ?_
  refine r_icmpY 38 X d11_15 (flt (by decide)).2.1 ?_
  refine r_aloadN 39 X d11_38 rfl rfl ?_
  refine r_iloadN 40 X d11_39 rfl ?_
  refine r_putfield 43 X (host := "") (Or.inl (hw _ (List.mem_of_getElem? (i := 96) rfl))) Via.refl F_rs_addingLength E_rs (Or.inl (hw _ (List.mem_of_getElem? (i := 97) rfl))) (hw _ (List.mem_of_getElem? (i := 2) rfl)) (ty := .int) (by decide) rfl rfl g_rs d11_40 ?_
  intro T h2 W2 X
  have K := K.wr W2 (Or.inl (List.mem_of_getElem? (i := 1) rfl))
  have E_rs := E_rs.wr W2
  have E_al := E_al.wr W2
  have E_tb := E_tb.wr W2
  have E_st := E_st.wr W2
  have E_pl := E_pl.wr W2
  have E_ad := E_ad.wr W2
  have F_rs_blocks := F_rs_blocks.other W2 (Or.inr (slot_ne (Or.inr (hw _ (List.mem_of_getElem? (i := 35) rfl))) (Or.inl (hw _ (List.mem_of_getElem? (i := 97) rfl))) (by decide) (t := (.object "java/util/List")) (t' := .int) (by decide) (by decide)))
  have F_rs_table := F_rs_table.other W2 (Or.inr (slot_ne (Or.inr (hw _ (List.mem_of_getElem? (i := 70) rfl))) (Or.inl (hw _ (List.mem_of_getElem? (i := 97) rfl))) (by decide) (t := (.object "com/example/statera/statera/engine/IdTable")) (t' := .int) (by decide) (by decide)))
  have F_rs_width := F_rs_width.other W2 (Or.inr (slot_ne (Or.inr (hw _ (List.mem_of_getElem? (i := 72) rfl))) (Or.inl (hw _ (List.mem_of_getElem? (i := 97) rfl))) (by decide) (t := .int) (t' := .int) (by decide) (by decide)))
  have F_rs_adding := F_rs_adding.other W2 (Or.inr (slot_ne (Or.inr (hw _ (List.mem_of_getElem? (i := 75) rfl))) (Or.inl (hw _ (List.mem_of_getElem? (i := 97) rfl))) (by decide) (t := (.array .byte)) (t' := .int) (by decide) (by decide)))
  have F_rs_end := F_rs_end.other W2 (Or.inr (slot_ne (Or.inl (hw _ (List.mem_of_getElem? (i := 86) rfl))) (Or.inl (hw _ (List.mem_of_getElem? (i := 97) rfl))) (by decide) (t := .long) (t' := .int) (by decide) (by decide)))
  have F_rs_explored := F_rs_explored.other W2 (Or.inr (slot_ne (Or.inl (hw _ (List.mem_of_getElem? (i := 84) rfl))) (Or.inl (hw _ (List.mem_of_getElem? (i := 97) rfl))) (by decide) (t := .long) (t' := .int) (by decide) (by decide)))
  have F_rs_addingLength := F_rs_addingLength.same W2
  have F_rs_size := F_rs_size.other W2 (Or.inr (slot_ne (Or.inl (hw _ (List.mem_of_getElem? (i := 200) rfl))) (Or.inl (hw _ (List.mem_of_getElem? (i := 97) rfl))) (by decide) (t := .int) (t' := .int) (by decide) (by decide)))
  have F_tb_places := F_tb_places.other W2 (Or.inl (Ne.symm ne_rs_tb))
  have F_tb_shift := F_tb_shift.other W2 (Or.inl (Ne.symm ne_rs_tb))
  have F_tb_items := F_tb_items.other W2 (Or.inl (Ne.symm ne_rs_tb))
  have F_tb_size := F_tb_size.other W2 (Or.inl (Ne.symm ne_rs_tb))
  have F_st_this_0 := F_st_this_0.other W2 (Or.inl (Ne.symm ne_rs_st))
  have A_pl := A_pl.other W2 (Ne.symm ne_rs_pl)
  have A_sx := A_sx.other W2 ne_sx_rs
  have E_blk := E_blk.wr W2
  have F_al_elementData := F_al_elementData.other W2 (Or.inl (Ne.symm ne_rs_al))
  have F_al_size := F_al_size.other W2 (Or.inl (Ne.symm ne_rs_al))
  have A_od := A_od.other W2 (Ne.symm ne_rs_od)
  have A_blk := A_blk.other W2 (Ne.symm ne_rs_blk)
  have A_ad := A_ad.other W2 (Ne.symm ne_rs_ad)
  refine r_aloadN 44 X d11_43 rfl rfl ?_
  refine r_getfield 47 X (host := "") (Or.inl (hw _ (List.mem_of_getElem? (i := 69) rfl))) Via.refl F_rs_table d11_44 ?_
  intro T X
  refine r_aloadN 48 X d11_47 rfl rfl ?_
  refine r_callS 51 X (st := [(.ref tb)]) (rmHa l Z a0 hw n0 _ X.sz sx x1   A_sx) (hw _ (List.mem_of_getElem? (i := 98) rfl)) (hw _ (List.mem_of_getElem? (i := 99) rfl)) (hw _ (List.mem_of_getElem? (i := 100) rfl)) (hw _ (List.mem_of_getElem? (i := 3) rfl)) (by decide) pd_19 [(.ref sx)] rfl rfl 1 (Nat.le_of_eq rfl) rfl (by decide) (by decide) (by decide) (by decide) d11_48 ?_
  rintro T h3 v3 ⟨rfl, rfl⟩ X
  change Run _ _ _ _ _ _ _ _ [(.long (hsh x1)), (.ref tb)]
  refine r_aloadN 52 X d11_51 rfl rfl ?_
  refine r_getfield 55 X (host := "") (Or.inl (hw _ (List.mem_of_getElem? (i := 85) rfl))) Via.refl F_rs_end d11_52 ?_
  intro T X
  refine r_virtual 58 X (st := []) (a := tb) (rmHH l Z a0 hw n0 _ X.sz rs al tb st pl ad blk od (hsh x1) en tz p1 tn jx P x1 an F gW f nn  hen hp htz htn hL hW hH E_tb F_tb_places F_tb_shift F_tb_items F_tb_size A_pl E_rs E_al E_st E_blk F_rs_blocks F_rs_adding F_rs_addingLength F_al_elementData F_al_size A_od A_ad A_blk F_st_this_0) E_tb (hw _ (List.mem_of_getElem? (i := 107) rfl)) (hw _ (List.mem_of_getElem? (i := 108) rfl)) (hw _ (List.mem_of_getElem? (i := 110) rfl)) (hw _ (List.mem_of_getElem? (i := 110) rfl)) (hw _ (List.mem_of_getElem? (i := 109) rfl)) (hw _ (List.mem_of_getElem? (i := 111) rfl)) (hw _ (List.mem_of_getElem? (i := 38) rfl)) (by decide) pd_20 [(.long (hsh x1)), (.long en)] rfl rfl 0 (Nat.le_of_eq rfl) rfl (by decide) (by decide) (by decide) (by decide) d11_55 ?_
  rintro T h4 v4 ⟨rfl, rfl⟩ X
  change Run _ _ _ _ _ _ _ _ [(.long f)]
  refine r_lstoreN 59 X #[.val (.ref rs), .val (.ref sx), .val (.int an), .val (.long f), .second, .val (.int (1 : Int32)), .val (.int x1)] d11_58 rfl ?_
  refine r_lloadN 60 X d11_59 rfl ?_
  refine r_aloadN 61 X d11_60 rfl rfl ?_
  refine r_getfield 64 X (host := "") (Or.inl (hw _ (List.mem_of_getElem? (i := 85) rfl))) Via.refl F_rs_end d11_61 ?_
  intro T X
  refine r_lcmp 65 X d11_64 ?_
  refine r_ifN 68 X d11_65 ((if0 _ _).trans (feq (fun q => hfe ((lw_eq _ _).mp q))).1) ?_
  refine r_iconst 69 X (0 : Int32) d11_68 rfl ?_
  refine r_retZ (z := (0 : Int32)) X d11_69 rfl (by decide) (by decide) ?_
  exact ⟨rfl, K, _, _, hFW, F_rs_blocks, F_rs_table, F_rs_width, F_rs_adding, F_rs_end, F_rs_explored, F_rs_addingLength, F_rs_size, A_ad⟩
def Tk (F : Nat → Int32) (p p' : Nat) : Prop := p < p' ∧ p' ≤ 1000 ∧ (∀ k, p + k + 1 < p' → F (p + k) < 0) ∧ ¬ F (p' - 1) < 0
theorem tk_enc {F : Nat → Int32} {p : Nat} {x : Int32} (h : Enc F p x) (hp : p ≤ 900) : Tk F p (p + encL x) := by
  have r := encL_r x
  refine ⟨by omega, by omega, fun k hk => ?_, ?_⟩
  · rw [h k (by omega)]; exact encB_neg (by omega)
  · have e : p + encL x - 1 = p + (encL x - 1) := by omega
    rw [e, h _ (by omega)]; exact encB_last (by omega)
theorem bd_add {b : Nat → Nat} {d : Nat} (h : ∀ i, i < d → b i < b (i + 1)) : ∀ r k, k + r = d → b k + r ≤ b d := by
  intro r
  induction r with
  | zero => intro k hk; obtain rfl : k = d := by omega
            omega
  | succ r ih => intro k hk; have := ih (k + 1) (by omega); have := h k (by omega); omega
theorem bd_lt {b : Nat → Nat} {d k : Nat} (h : ∀ i, i < d → b i < b (i + 1)) (hk : k ≤ d) : b k < b d ↔ k < d := by
  have q := bd_add h (d - k) k (by omega)
  constructor
  · intro z
    rcases Nat.lt_or_ge k d with w | w
    · exact w
    · obtain rfl : k = d := by omega
      omega
  · intro z; omega
theorem own_n3 (t : Int32) {dI : Int32} {d : Nat} (hd : dI.toInt = (d : Int)) : ∃ n : Nat, (mnI (t &&& (3 : Int32)) dI).toInt = (n : Int) ∧ n ≤ 3 ∧ n ≤ d := by
  have h1 := c_mask t 3 2 (by decide) (by decide)
  have h2 : ∃ k : Nat, (t &&& (3 : Int32)).toInt = (k : Int) ∧ k ≤ 3 := ⟨(t &&& (3 : Int32)).toInt.toNat, by omega, by omega⟩
  obtain ⟨k, h3, h4⟩ := h2
  unfold mnI
  by_cases q : dI < t &&& (3 : Int32)
  · rw [if_pos q]; have := (ltI hd h3).mp q; exact ⟨d, hd, by omega, by omega⟩
  · rw [if_neg q]; have := mt (ltI hd h3).mpr q; exact ⟨k, h3, h4, by omega⟩
theorem d32_0 : decode prog_19_method_12_code 0 = .ok (.aload_n 0, 1) := by decide +kernel
theorem d32_1 : decode prog_19_method_12_code 1 = .ok (.getfield 10, 3) := by decide +kernel
theorem d32_4 : decode prog_19_method_12_code 4 = .ok (.lload_n 1, 1) := by decide +kernel
theorem d32_5 : decode prog_19_method_12_code 5 = .ok (.invokestatic 84, 3) := by decide +kernel
theorem d32_8 : decode prog_19_method_12_code 8 = .ok (.invokeinterface 88 2, 5) := by decide +kernel
theorem d32_13 : decode prog_19_method_12_code 13 = .ok (.checkcast 92, 3) := by decide +kernel
theorem d32_16 : decode prog_19_method_12_code 16 = .ok (.lload_n 1, 1) := by decide +kernel
theorem d32_17 : decode prog_19_method_12_code 17 = .ok (.invokestatic 93, 3) := by decide +kernel
theorem d32_20 : decode prog_19_method_12_code 20 = .ok (.baload, 1) := by decide +kernel
theorem d32_21 : decode prog_19_method_12_code 21 = .ok (.ireturn, 1) := by decide +kernel
theorem pn_32 : plainName "com/example/statera/statera/engine/ReachedStates" = true := by first | (simp [plainName, overriddenIn]; done) | decide +kernel
theorem ef_32 (m : MethodId) (x0 : Addr) (x1 : Int64) : entryFrame m #[(.ref x0), (.long x1)] 3 = mkF m 0 #[.val (.ref x0), .val (.long x1), .second] [] := by first | (simp [entryFrame, mkF, argsToLocals, Value.category]; done) | rfl
set_option maxRecDepth 65536 in
set_option maxHeartbeats 40000000 in
theorem rmBa (l : Launch) (Z : State) (a0 : Array Value) (hw : ∀ d ∈ tables_1, d.before a0 Z = true) (n0 : Nat) (h : Heap) (Z0 : n0 ≤ h.size) (rs al blk od : Nat) (q1 : Int64) (n : Nat) (F : Nat → Int32) (hq : q1.toInt = (n : Int)) (hn : n < 65536) (hFF : FB F) (E_rs : Exa Z h rs "com/example/statera/statera/engine/ReachedStates") (E_al : Exa Z h al "java/util/ArrayList") (E_blk : Exa Z h blk "[B") (F_rs_blocks : Fld Z h rs "com/example/statera/statera/engine/ReachedStates" "blocks" "Ljava/util/List;" (.ref al)) (F_al_elementData : Fld Z h al "java/util/ArrayList" "elementData" "[Ljava/lang/Object;" (.ref od)) (F_al_size : Fld Z h al "java/util/ArrayList" "size" "I" (.int (1 : Int32))) (A_od : AF Z h od (.object "java/lang/Object") 10 (upd (fun _ => .null) 0 (.ref blk))) (A_blk : AF Z h blk .byte 65536 (fun j => .int (F j))) :
    Met1 l Z n0 [] (⟨"com/example/statera/statera/engine/ReachedStates", "byteAt", "(J)B"⟩ : MethodName) prog_19_method_12_code 3 (some .byte) ({ frames := 3, cells := 0, slots := 0, locals := 40 } : Room) #[(.ref rs), (.long q1)] h (fun v h' => v = some (.int (F n)) ∧ h = h') := by
  refine met_of (plainFor_of_name pn_32) Z0 (fun m => ef_32 m rs q1) ?_
  intro p e s m below meth c T hs0 X
  refine r_aloadN 1 X d32_0 rfl rfl ?_
  refine r_getfield 4 X (host := "") (Or.inl (hw _ (List.mem_of_getElem? (i := 34) rfl))) Via.refl F_rs_blocks d32_1 ?_
  intro T X
  refine r_lloadN 5 X d32_4 rfl ?_
  refine r_callS 8 X (st := [(.ref al)]) (rmBl l Z a0 hw n0 _ X.sz q1 n hq hn) (hw _ (List.mem_of_getElem? (i := 120) rfl)) (hw _ (List.mem_of_getElem? (i := 121) rfl)) (hw _ (List.mem_of_getElem? (i := 122) rfl)) (hw _ (List.mem_of_getElem? (i := 3) rfl)) (by decide) pd_8 [(.long q1)] rfl rfl 1 (Nat.le_of_eq rfl) rfl (by decide) (by decide) (by decide) (by decide) d32_5 ?_
  rintro T h1 v1 ⟨rfl, rfl⟩ X
  change Run _ _ _ _ _ _ _ _ [(.int (0 : Int32)), (.ref al)]
  refine r_interface 13 X (st := []) (a := al) (rmGe l Z a0 hw n0 _ X.sz al blk od    E_al F_al_elementData F_al_size A_od) E_al (hw _ (List.mem_of_getElem? (i := 174) rfl)) (hw _ (List.mem_of_getElem? (i := 175) rfl)) (hw _ (List.mem_of_getElem? (i := 176) rfl)) (hw _ (List.mem_of_getElem? (i := 177) rfl)) (hw _ (List.mem_of_getElem? (i := 178) rfl)) (hw _ (List.mem_of_getElem? (i := 179) rfl)) (hw _ (List.mem_of_getElem? (i := 180) rfl)) (hw _ (List.mem_of_getElem? (i := 131) rfl)) (by decide) (by decide) (hw _ (List.mem_of_getElem? (i := 181) rfl)) (hw _ (List.mem_of_getElem? (i := 12) rfl)) pd_3 [(.int (0 : Int32))] rfl rfl 0 (Nat.le_of_eq rfl) rfl (by decide) (by decide) (by decide) (by decide) d32_8 ?_
  rintro T h2 v2 ⟨rfl, rfl⟩ X
  change Run _ _ _ _ _ _ _ _ [(.ref blk)]
  refine r_castY 16 X (hw _ (List.mem_of_getElem? (i := 215) rfl)) (Ins.self E_blk) d32_13 ?_
  intro T X
  refine r_lloadN 17 X d32_16 rfl ?_
  refine r_callS 20 X (st := [(.ref blk)]) (rmOf l Z a0 hw n0 _ X.sz q1 n hq hn) (hw _ (List.mem_of_getElem? (i := 168) rfl)) (hw _ (List.mem_of_getElem? (i := 169) rfl)) (hw _ (List.mem_of_getElem? (i := 170) rfl)) (hw _ (List.mem_of_getElem? (i := 3) rfl)) (by decide) pd_8 [(.long q1)] rfl rfl 1 (Nat.le_of_eq rfl) rfl (by decide) (by decide) (by decide) (by decide) d32_17 ?_
  rintro T h3 v3 ⟨rfl, rfl⟩ X
  change Run _ _ _ _ _ _ _ _ [(.int q1.toInt32), (.ref blk)]
  refine r_baloadB 21 X A_blk (i := n) (v := (.int (F n))) (own_off hq hn) hn rfl d32_20 ?_
  refine r_retB X d32_21 (own_narB (hFF n)) (by decide) (by decide) ?_
  exact ⟨rfl, rfl⟩
theorem d31_0 : decode prog_19_method_9_code 0 = .ok (.lload_n 1, 1) := by decide +kernel
theorem d31_1 : decode prog_19_method_9_code 1 = .ok (.lstore 4, 2) := by decide +kernel
theorem d31_3 : decode prog_19_method_9_code 3 = .ok (.iconst 0, 1) := by decide +kernel
theorem d31_4 : decode prog_19_method_9_code 4 = .ok (.istore 6, 2) := by decide +kernel
theorem d31_6 : decode prog_19_method_9_code 6 = .ok (.iload 6, 2) := by decide +kernel
theorem d31_8 : decode prog_19_method_9_code 8 = .ok (.aload_n 0, 1) := by decide +kernel
theorem d31_9 : decode prog_19_method_9_code 9 = .ok (.getfield 30, 3) := by decide +kernel
theorem d31_12 : decode prog_19_method_9_code 12 = .ok (.if_icmp .ge 55, 3) := by decide +kernel
theorem d31_15 : decode prog_19_method_9_code 15 = .ok (.iconst 0, 1) := by decide +kernel
theorem d31_16 : decode prog_19_method_9_code 16 = .ok (.istore 7, 2) := by decide +kernel
theorem d31_18 : decode prog_19_method_9_code 18 = .ok (.iconst 0, 1) := by decide +kernel
theorem d31_19 : decode prog_19_method_9_code 19 = .ok (.istore 8, 2) := by decide +kernel
theorem d31_21 : decode prog_19_method_9_code 21 = .ok (.aload_n 0, 1) := by decide +kernel
theorem d31_22 : decode prog_19_method_9_code 22 = .ok (.lload 4, 2) := by decide +kernel
theorem d31_24 : decode prog_19_method_9_code 24 = .ok (.dup2, 1) := by decide +kernel
theorem d31_25 : decode prog_19_method_9_code 25 = .ok (.lconst 1, 1) := by decide +kernel
theorem d31_26 : decode prog_19_method_9_code 26 = .ok (.ladd, 1) := by decide +kernel
theorem d31_27 : decode prog_19_method_9_code 27 = .ok (.lstore 4, 2) := by decide +kernel
theorem d31_29 : decode prog_19_method_9_code 29 = .ok (.invokevirtual 80, 3) := by decide +kernel
theorem d31_32 : decode prog_19_method_9_code 32 = .ok (.istore 9, 2) := by decide +kernel
theorem d31_34 : decode prog_19_method_9_code 34 = .ok (.iload 7, 2) := by decide +kernel
theorem d31_36 : decode prog_19_method_9_code 36 = .ok (.iload 9, 2) := by decide +kernel
theorem d31_38 : decode prog_19_method_9_code 38 = .ok (.bipush 127, 2) := by decide +kernel
theorem d31_40 : decode prog_19_method_9_code 40 = .ok (.iand, 1) := by decide +kernel
theorem d31_41 : decode prog_19_method_9_code 41 = .ok (.iload 8, 2) := by decide +kernel
theorem d31_43 : decode prog_19_method_9_code 43 = .ok (.ishl, 1) := by decide +kernel
theorem d31_44 : decode prog_19_method_9_code 44 = .ok (.ior, 1) := by decide +kernel
theorem d31_45 : decode prog_19_method_9_code 45 = .ok (.istore 7, 2) := by decide +kernel
theorem d31_47 : decode prog_19_method_9_code 47 = .ok (.iinc 8 7, 3) := by decide +kernel
theorem d31_50 : decode prog_19_method_9_code 50 = .ok (.iload 9, 2) := by decide +kernel
theorem d31_52 : decode prog_19_method_9_code 52 = .ok (.ifCond .lt (-31), 3) := by decide +kernel
theorem d31_55 : decode prog_19_method_9_code 55 = .ok (.aload_n 3, 1) := by decide +kernel
theorem d31_56 : decode prog_19_method_9_code 56 = .ok (.iload 6, 2) := by decide +kernel
theorem d31_58 : decode prog_19_method_9_code 58 = .ok (.iload 7, 2) := by decide +kernel
theorem d31_60 : decode prog_19_method_9_code 60 = .ok (.iastore, 1) := by decide +kernel
theorem d31_61 : decode prog_19_method_9_code 61 = .ok (.iinc 6 1, 3) := by decide +kernel
theorem d31_64 : decode prog_19_method_9_code 64 = .ok (.goto (-58), 3) := by decide +kernel
theorem d31_67 : decode prog_19_method_9_code 67 = .ok (.lload 4, 2) := by decide +kernel
theorem d31_69 : decode prog_19_method_9_code 69 = .ok (.lreturn, 1) := by decide +kernel
theorem pn_31 : plainName "com/example/statera/statera/engine/ReachedStates" = true := by first | (simp [plainName, overriddenIn]; done) | decide +kernel
theorem ef_31 (m : MethodId) (x0 : Addr) (x1 : Int64) (x2 : Addr) : entryFrame m #[(.ref x0), (.long x1), (.ref x2)] 10 = mkF m 0 #[.val (.ref x0), .val (.long x1), .second, .val (.ref x2), .unset, .unset, .unset, .unset, .unset, .unset] [] := by first | (simp [entryFrame, mkF, argsToLocals, Value.category]; done) | rfl
set_option maxRecDepth 65536 in
set_option maxHeartbeats 40000000 in
theorem rmRd (l : Launch) (Z : State) (a0 : Array Value) (hw : ∀ d ∈ tables_1, d.before a0 Z = true) (n0 : Nat) (h : Heap) (Z0 : n0 ≤ h.size) (out rs al blk od : Nat) (q1 : Int64) (p1 p2 : Nat) (F go : Nat → Int32) (lt_out_rs : @LT.lt Nat _ out rs) (lt_rs_al : @LT.lt Nat _ rs al) (lt_al_blk : @LT.lt Nat _ al blk) (lt_blk_od : @LT.lt Nat _ blk od) (g_out : n0 ≤ out) (hq : q1.toInt = (p1 : Int)) (hT : Tk F p1 p2) (hFF : FB F) (E_rs : Exa Z h rs "com/example/statera/statera/engine/ReachedStates") (E_al : Exa Z h al "java/util/ArrayList") (E_blk : Exa Z h blk "[B") (F_rs_blocks : Fld Z h rs "com/example/statera/statera/engine/ReachedStates" "blocks" "Ljava/util/List;" (.ref al)) (F_al_elementData : Fld Z h al "java/util/ArrayList" "elementData" "[Ljava/lang/Object;" (.ref od)) (F_al_size : Fld Z h al "java/util/ArrayList" "size" "I" (.int (1 : Int32))) (A_od : AF Z h od (.object "java/lang/Object") 10 (upd (fun _ => .null) 0 (.ref blk))) (A_blk : AF Z h blk .byte 65536 (fun j => .int (F j))) (F_rs_width : Fld Z h rs "com/example/statera/statera/engine/ReachedStates" "width" "I" (.int (1 : Int32))) (A_out : AF Z h out .int 1 (fun j => .int (go j))) :
    Met1 l Z n0 [] (⟨"com/example/statera/statera/engine/ReachedStates", "read", "(J[I)J"⟩ : MethodName) prog_19_method_9_code 10 (some .long) ({ frames := 4, cells := 0, slots := 0, locals := 54 } : Room) #[(.ref rs), (.long q1), (.ref out)] h (fun v h' => ∃ (r : Int64) (g : Nat → Int32), v = some (.long r) ∧ r.toInt = (p2 : Int) ∧ Keep h h' [out] ∧ AF Z h' out .int 1 (fun j => .int (g j))) := by
  refine met_of (plainFor_of_name pn_31) Z0 (fun m => ef_31 m rs q1 out) ?_
  intro p e s m below meth c T hs0 X
  have K := Keep.refl h [out]
  have ne_out_rs : @Ne Nat out rs := by omega
  have ne_out_al : @Ne Nat out al := by omega
  have ne_out_blk : @Ne Nat out blk := by omega
  have ne_out_od : @Ne Nat out od := by omega
  have ne_rs_al : @Ne Nat rs al := by omega
  have ne_rs_blk : @Ne Nat rs blk := by omega
  have ne_rs_od : @Ne Nat rs od := by omega
  have ne_al_blk : @Ne Nat al blk := by omega
  have ne_al_od : @Ne Nat al od := by omega
  have ne_blk_od : @Ne Nat blk od := by omega
  have g_rs : @LE.le Nat _ n0 rs := by omega
  have g_al : @LE.le Nat _ n0 al := by omega
  have g_blk : @LE.le Nat _ n0 blk := by omega
  have g_od : @LE.le Nat _ n0 od := by omega
  refine r_lloadN 1 X d31_0 rfl ?_
  refine r_lstore 3 X #[.val (.ref rs), .val (.long q1), .second, .val (.ref out), .val (.long q1), .second, .unset, .unset, .unset, .unset] d31_1 rfl ?_
  refine r_iconst 4 X (0 : Int32) d31_3 rfl ?_
  refine r_istore 6 X #[.val (.ref rs), .val (.long q1), .second, .val (.ref out), .val (.long q1), .second, .val (.int (0 : Int32)), .unset, .unset, .unset] d31_4 rfl ?_
  refine r_iload 8 X d31_6 rfl ?_
  refine r_aloadN 9 X d31_8 rfl rfl ?_
  refine r_getfield 12 X (host := "") (Or.inl (hw _ (List.mem_of_getElem? (i := 71) rfl))) Via.refl F_rs_width d31_9 ?_
  intro T X
  refine r_icmpN 15 X d31_12 (tlt (by decide)).2.1 ?_
  refine r_iconst 16 X (0 : Int32) d31_15 rfl ?_
  refine r_istore 18 X #[.val (.ref rs), .val (.long q1), .second, .val (.ref out), .val (.long q1), .second, .val (.int (0 : Int32)), .val (.int (0 : Int32)), .unset, .unset] d31_16 rfl ?_
  refine r_iconst 19 X (0 : Int32) d31_18 rfl ?_
  refine r_istore 21 X #[.val (.ref rs), .val (.long q1), .second, .val (.ref out), .val (.long q1), .second, .val (.int (0 : Int32)), .val (.int (0 : Int32)), .val (.int (0 : Int32)), .unset] d31_19 rfl ?_
  obtain ⟨hk0, hk1, hk2, hk3⟩ := hT
  have loop : ∀ (r : Nat) (T : State) (k : Nat) (qk : Int64) (vv sv pb : Int32), p1 + k + r + 1 = p2 → qk.toInt = ((p1 + k : Nat) : Int) → Cx p l e ({ frames := 4, cells := 0, slots := 0, locals := 54 } : Room) s m #[(.ref rs), (.long q1), (.ref out)] below meth c Z prog_19_method_9_code 10 "com/example/statera/statera/engine/ReachedStates" (some .long) "read" n0 T h 0 0 → Run p e below m (Fin1 below s n0 (fun v h' => ∃ (r : Int64) (g : Nat → Int32), v = some (.long r) ∧ r.toInt = (p2 : Int) ∧ Keep h h' [out] ∧ AF Z h' out .int 1 (fun j => .int (g j))) ({ frames := 4, cells := 0, slots := 0, locals := 54 } : Room).cells ({ frames := 4, cells := 0, slots := 0, locals := 54 } : Room).slots) T 21 #[.val (.ref rs), .val (.long q1), .second, .val (.ref out), .val (.long qk), .second, .val (.int (0 : Int32)), .val (.int vv), .val (.int sv), .val (.int pb)] [] := by
    intro r
    induction r with
    | zero =>
      intro T k qk vv sv pb hk hqk X
      have elast : p2 - 1 = p1 + k := by omega
      have hlast : ¬ F (p1 + k) < 0 := elast ▸ hk3
      refine r_aloadN 22 X d31_21 rfl rfl ?_
      refine r_lload 24 X d31_22 rfl ?_
      refine r_dup2_1 25 X d31_24 rfl ?_
      refine r_lconst 26 X (1 : Int64) d31_25 rfl ?_
      refine r_ladd 27 X d31_26 ?_
      refine r_lstore 29 X #[.val (.ref rs), .val (.long q1), .second, .val (.ref out), .val (.long (qk + (1 : Int64))), .second, .val (.int (0 : Int32)), .val (.int vv), .val (.int sv), .val (.int pb)] d31_27 rfl ?_
      refine r_private 32 X (st := []) (a := rs) (rmBa l Z a0 hw n0 _ X.sz rs al blk od qk (p1 + k) F  hqk (by omega) hFF E_rs E_al E_blk F_rs_blocks F_al_elementData F_al_size A_od A_blk) E_rs (hw _ (List.mem_of_getElem? (i := 211) rfl)) (hw _ (List.mem_of_getElem? (i := 212) rfl)) (hw _ (List.mem_of_getElem? (i := 2) rfl)) (hw _ (List.mem_of_getElem? (i := 213) rfl)) (hw _ (List.mem_of_getElem? (i := 214) rfl)) (hw _ (List.mem_of_getElem? (i := 3) rfl)) (by decide) pd_22 [(.long qk)] rfl rfl 0 (Nat.le_of_eq rfl) rfl (by decide) (by decide) (by decide) (by decide) d31_29 ?_
      rintro T h1 v1 ⟨rfl, rfl⟩ X
      change Run _ _ _ _ _ _ _ _ [(.int (F (p1 + k)))]
      refine r_istore 34 X #[.val (.ref rs), .val (.long q1), .second, .val (.ref out), .val (.long (qk + (1 : Int64))), .second, .val (.int (0 : Int32)), .val (.int vv), .val (.int sv), .val (.int (F (p1 + k)))] d31_32 rfl ?_
      refine r_iload 36 X d31_34 rfl ?_
      refine r_iload 38 X d31_36 rfl ?_
      refine r_bipush 40 X (127 : Int32) d31_38 rfl ?_
      refine r_iand 41 X d31_40 ?_
      refine r_iload 43 X d31_41 rfl ?_
      refine r_ishl 44 X d31_43 ?_
      refine r_ior 45 X d31_44 ?_
      refine r_istore 47 X #[.val (.ref rs), .val (.long q1), .second, .val (.ref out), .val (.long (qk + (1 : Int64))), .second, .val (.int (0 : Int32)), .val (.int (vv ||| (((F (p1 + k)) &&& (127 : Int32)) <<< (sv &&& 31)))), .val (.int sv), .val (.int (F (p1 + k)))] d31_45 rfl ?_
      refine r_iinc 50 X (7 : Int32) #[.val (.ref rs), .val (.long q1), .second, .val (.ref out), .val (.long (qk + (1 : Int64))), .second, .val (.int (0 : Int32)), .val (.int (vv ||| (((F (p1 + k)) &&& (127 : Int32)) <<< (sv &&& 31)))), .val (.int (sv + (7 : Int32))), .val (.int (F (p1 + k)))] d31_47 rfl rfl rfl ?_
      refine r_iload 52 X d31_50 rfl ?_
      refine r_ifN 55 X d31_52 ((if0 _ _).trans (flt hlast).1) ?_
      refine r_aloadN 56 X d31_55 rfl rfl ?_
      refine r_iload 58 X d31_56 rfl ?_
      refine r_iload 60 X d31_58 rfl ?_
      refine r_iastore 61 X A_out (i := 0) (v := (.int (vv ||| (((F (p1 + k)) &&& (127 : Int32)) <<< (sv &&& 31))))) (by decide) (by decide) rfl g_out d31_60 ?_
      intro T h2 W2 X
      have K := K.wr W2 (Or.inl (List.mem_of_getElem? (i := 0) rfl))
      have E_rs := E_rs.wr W2
      have E_al := E_al.wr W2
      have E_blk := E_blk.wr W2
      have F_rs_blocks := F_rs_blocks.other W2 (Or.inl (Ne.symm ne_out_rs))
      have F_al_elementData := F_al_elementData.other W2 (Or.inl (Ne.symm ne_out_al))
      have F_al_size := F_al_size.other W2 (Or.inl (Ne.symm ne_out_al))
      have A_od := A_od.other W2 (Ne.symm ne_out_od)
      have A_blk := A_blk.other W2 (Ne.symm ne_out_blk)
      have F_rs_width := F_rs_width.other W2 (Or.inl (Ne.symm ne_out_rs))
      have A_out := A_out.setI W2
      refine r_iinc 64 X (1 : Int32) #[.val (.ref rs), .val (.long q1), .second, .val (.ref out), .val (.long (qk + (1 : Int64))), .second, .val (.int (1 : Int32)), .val (.int (vv ||| (((F (p1 + k)) &&& (127 : Int32)) <<< (sv &&& 31)))), .val (.int (sv + (7 : Int32))), .val (.int (F (p1 + k)))] d31_61 rfl rfl rfl ?_
      refine r_goto 6 X d31_64 ?_
      refine r_iload 8 X d31_6 rfl ?_
      refine r_aloadN 9 X d31_8 rfl rfl ?_
      refine r_getfield 12 X (host := "") (Or.inl (hw _ (List.mem_of_getElem? (i := 71) rfl))) Via.refl F_rs_width d31_9 ?_
      intro T X
      refine r_icmpY 67 X d31_12 (flt (by decide)).2.1 ?_
      refine r_lload 69 X d31_67 rfl ?_
      refine r_retJ X d31_69 (by decide) (by decide) ?_
      exact ⟨_, _, rfl, (addJ hqk (y := (1 : Int64)) (b := 1) rfl (by omega) (by omega)).trans (by omega), K, A_out⟩
    | succ r ih =>
      intro T k qk vv sv pb hk hqk X
      refine r_aloadN 22 X d31_21 rfl rfl ?_
      refine r_lload 24 X d31_22 rfl ?_
      refine r_dup2_1 25 X d31_24 rfl ?_
      refine r_lconst 26 X (1 : Int64) d31_25 rfl ?_
      refine r_ladd 27 X d31_26 ?_
      refine r_lstore 29 X #[.val (.ref rs), .val (.long q1), .second, .val (.ref out), .val (.long (qk + (1 : Int64))), .second, .val (.int (0 : Int32)), .val (.int vv), .val (.int sv), .val (.int pb)] d31_27 rfl ?_
      refine r_private 32 X (st := []) (a := rs) (rmBa l Z a0 hw n0 _ X.sz rs al blk od qk (p1 + k) F  hqk (by omega) hFF E_rs E_al E_blk F_rs_blocks F_al_elementData F_al_size A_od A_blk) E_rs (hw _ (List.mem_of_getElem? (i := 211) rfl)) (hw _ (List.mem_of_getElem? (i := 212) rfl)) (hw _ (List.mem_of_getElem? (i := 2) rfl)) (hw _ (List.mem_of_getElem? (i := 213) rfl)) (hw _ (List.mem_of_getElem? (i := 214) rfl)) (hw _ (List.mem_of_getElem? (i := 3) rfl)) (by decide) pd_22 [(.long qk)] rfl rfl 0 (Nat.le_of_eq rfl) rfl (by decide) (by decide) (by decide) (by decide) d31_29 ?_
      rintro T h3 v3 ⟨rfl, rfl⟩ X
      change Run _ _ _ _ _ _ _ _ [(.int (F (p1 + k)))]
      refine r_istore 34 X #[.val (.ref rs), .val (.long q1), .second, .val (.ref out), .val (.long (qk + (1 : Int64))), .second, .val (.int (0 : Int32)), .val (.int vv), .val (.int sv), .val (.int (F (p1 + k)))] d31_32 rfl ?_
      refine r_iload 36 X d31_34 rfl ?_
      refine r_iload 38 X d31_36 rfl ?_
      refine r_bipush 40 X (127 : Int32) d31_38 rfl ?_
      refine r_iand 41 X d31_40 ?_
      refine r_iload 43 X d31_41 rfl ?_
      refine r_ishl 44 X d31_43 ?_
      refine r_ior 45 X d31_44 ?_
      refine r_istore 47 X #[.val (.ref rs), .val (.long q1), .second, .val (.ref out), .val (.long (qk + (1 : Int64))), .second, .val (.int (0 : Int32)), .val (.int (vv ||| (((F (p1 + k)) &&& (127 : Int32)) <<< (sv &&& 31)))), .val (.int sv), .val (.int (F (p1 + k)))] d31_45 rfl ?_
      refine r_iinc 50 X (7 : Int32) #[.val (.ref rs), .val (.long q1), .second, .val (.ref out), .val (.long (qk + (1 : Int64))), .second, .val (.int (0 : Int32)), .val (.int (vv ||| (((F (p1 + k)) &&& (127 : Int32)) <<< (sv &&& 31)))), .val (.int (sv + (7 : Int32))), .val (.int (F (p1 + k)))] d31_47 rfl rfl rfl ?_
      refine r_iload 52 X d31_50 rfl ?_
      refine r_ifY 21 X d31_52 ((if0 _ _).trans (tlt (hk2 k (by omega))).1) ?_
      exact ih _ (k + 1) _ _ _ _ (by omega) ((addJ hqk (y := (1 : Int64)) (b := 1) rfl (by omega) (by omega)).trans (by omega)) X
  have hqk : q1.toInt = ((p1 + 0 : Nat) : Int) := by rw [hq]; omega
  by_cases h1 : p1 + 1 = p2
  ·
    have elast : p2 - 1 = p1 + 0 := by omega
    have hlast : ¬ F (p1 + 0) < 0 := elast ▸ hk3
    refine r_aloadN 22 X d31_21 rfl rfl ?_
    refine r_lload 24 X d31_22 rfl ?_
    refine r_dup2_1 25 X d31_24 rfl ?_
    refine r_lconst 26 X (1 : Int64) d31_25 rfl ?_
    refine r_ladd 27 X d31_26 ?_
    refine r_lstore 29 X #[.val (.ref rs), .val (.long q1), .second, .val (.ref out), .val (.long (q1 + (1 : Int64))), .second, .val (.int (0 : Int32)), .val (.int (0 : Int32)), .val (.int (0 : Int32)), .unset] d31_27 rfl ?_
    refine r_private 32 X (st := []) (a := rs) (rmBa l Z a0 hw n0 _ X.sz rs al blk od q1 (p1 + 0) F  hqk (by omega) hFF E_rs E_al E_blk F_rs_blocks F_al_elementData F_al_size A_od A_blk) E_rs (hw _ (List.mem_of_getElem? (i := 211) rfl)) (hw _ (List.mem_of_getElem? (i := 212) rfl)) (hw _ (List.mem_of_getElem? (i := 2) rfl)) (hw _ (List.mem_of_getElem? (i := 213) rfl)) (hw _ (List.mem_of_getElem? (i := 214) rfl)) (hw _ (List.mem_of_getElem? (i := 3) rfl)) (by decide) pd_22 [(.long q1)] rfl rfl 0 (Nat.le_of_eq rfl) rfl (by decide) (by decide) (by decide) (by decide) d31_29 ?_
    rintro T h4 v4 ⟨rfl, rfl⟩ X
    change Run _ _ _ _ _ _ _ _ [(.int (F (p1 + 0)))]
    refine r_istore 34 X #[.val (.ref rs), .val (.long q1), .second, .val (.ref out), .val (.long (q1 + (1 : Int64))), .second, .val (.int (0 : Int32)), .val (.int (0 : Int32)), .val (.int (0 : Int32)), .val (.int (F (p1 + 0)))] d31_32 rfl ?_
    refine r_iload 36 X d31_34 rfl ?_
    refine r_iload 38 X d31_36 rfl ?_
    refine r_bipush 40 X (127 : Int32) d31_38 rfl ?_
    refine r_iand 41 X d31_40 ?_
    refine r_iload 43 X d31_41 rfl ?_
    refine r_ishl 44 X d31_43 ?_
    refine r_ior 45 X d31_44 ?_
    refine r_istore 47 X #[.val (.ref rs), .val (.long q1), .second, .val (.ref out), .val (.long (q1 + (1 : Int64))), .second, .val (.int (0 : Int32)), .val (.int ((0 : Int32) ||| (((F (p1 + 0)) &&& (127 : Int32)) <<< ((0 : Int32) &&& 31)))), .val (.int (0 : Int32)), .val (.int (F (p1 + 0)))] d31_45 rfl ?_
    refine r_iinc 50 X (7 : Int32) #[.val (.ref rs), .val (.long q1), .second, .val (.ref out), .val (.long (q1 + (1 : Int64))), .second, .val (.int (0 : Int32)), .val (.int ((0 : Int32) ||| (((F (p1 + 0)) &&& (127 : Int32)) <<< ((0 : Int32) &&& 31)))), .val (.int (7 : Int32)), .val (.int (F (p1 + 0)))] d31_47 rfl rfl rfl ?_
    refine r_iload 52 X d31_50 rfl ?_
    refine r_ifN 55 X d31_52 ((if0 _ _).trans (flt hlast).1) ?_
    refine r_aloadN 56 X d31_55 rfl rfl ?_
    refine r_iload 58 X d31_56 rfl ?_
    refine r_iload 60 X d31_58 rfl ?_
    refine r_iastore 61 X A_out (i := 0) (v := (.int ((0 : Int32) ||| (((F (p1 + 0)) &&& (127 : Int32)) <<< ((0 : Int32) &&& 31))))) (by decide) (by decide) rfl g_out d31_60 ?_
    intro T h5 W5 X
    have K := K.wr W5 (Or.inl (List.mem_of_getElem? (i := 0) rfl))
    have E_rs := E_rs.wr W5
    have E_al := E_al.wr W5
    have E_blk := E_blk.wr W5
    have F_rs_blocks := F_rs_blocks.other W5 (Or.inl (Ne.symm ne_out_rs))
    have F_al_elementData := F_al_elementData.other W5 (Or.inl (Ne.symm ne_out_al))
    have F_al_size := F_al_size.other W5 (Or.inl (Ne.symm ne_out_al))
    have A_od := A_od.other W5 (Ne.symm ne_out_od)
    have A_blk := A_blk.other W5 (Ne.symm ne_out_blk)
    have F_rs_width := F_rs_width.other W5 (Or.inl (Ne.symm ne_out_rs))
    have A_out := A_out.setI W5
    refine r_iinc 64 X (1 : Int32) #[.val (.ref rs), .val (.long q1), .second, .val (.ref out), .val (.long (q1 + (1 : Int64))), .second, .val (.int (1 : Int32)), .val (.int ((0 : Int32) ||| (((F (p1 + 0)) &&& (127 : Int32)) <<< ((0 : Int32) &&& 31)))), .val (.int (7 : Int32)), .val (.int (F (p1 + 0)))] d31_61 rfl rfl rfl ?_
    refine r_goto 6 X d31_64 ?_
    refine r_iload 8 X d31_6 rfl ?_
    refine r_aloadN 9 X d31_8 rfl rfl ?_
    refine r_getfield 12 X (host := "") (Or.inl (hw _ (List.mem_of_getElem? (i := 71) rfl))) Via.refl F_rs_width d31_9 ?_
    intro T X
    refine r_icmpY 67 X d31_12 (flt (by decide)).2.1 ?_
    refine r_lload 69 X d31_67 rfl ?_
    refine r_retJ X d31_69 (by decide) (by decide) ?_
    exact ⟨_, _, rfl, (addJ hqk (y := (1 : Int64)) (b := 1) rfl (by omega) (by omega)).trans (by omega), K, A_out⟩
  ·
    refine r_aloadN 22 X d31_21 rfl rfl ?_
    refine r_lload 24 X d31_22 rfl ?_
    refine r_dup2_1 25 X d31_24 rfl ?_
    refine r_lconst 26 X (1 : Int64) d31_25 rfl ?_
    refine r_ladd 27 X d31_26 ?_
    refine r_lstore 29 X #[.val (.ref rs), .val (.long q1), .second, .val (.ref out), .val (.long (q1 + (1 : Int64))), .second, .val (.int (0 : Int32)), .val (.int (0 : Int32)), .val (.int (0 : Int32)), .unset] d31_27 rfl ?_
    refine r_private 32 X (st := []) (a := rs) (rmBa l Z a0 hw n0 _ X.sz rs al blk od q1 (p1 + 0) F  hqk (by omega) hFF E_rs E_al E_blk F_rs_blocks F_al_elementData F_al_size A_od A_blk) E_rs (hw _ (List.mem_of_getElem? (i := 211) rfl)) (hw _ (List.mem_of_getElem? (i := 212) rfl)) (hw _ (List.mem_of_getElem? (i := 2) rfl)) (hw _ (List.mem_of_getElem? (i := 213) rfl)) (hw _ (List.mem_of_getElem? (i := 214) rfl)) (hw _ (List.mem_of_getElem? (i := 3) rfl)) (by decide) pd_22 [(.long q1)] rfl rfl 0 (Nat.le_of_eq rfl) rfl (by decide) (by decide) (by decide) (by decide) d31_29 ?_
    rintro T h6 v6 ⟨rfl, rfl⟩ X
    change Run _ _ _ _ _ _ _ _ [(.int (F (p1 + 0)))]
    refine r_istore 34 X #[.val (.ref rs), .val (.long q1), .second, .val (.ref out), .val (.long (q1 + (1 : Int64))), .second, .val (.int (0 : Int32)), .val (.int (0 : Int32)), .val (.int (0 : Int32)), .val (.int (F (p1 + 0)))] d31_32 rfl ?_
    refine r_iload 36 X d31_34 rfl ?_
    refine r_iload 38 X d31_36 rfl ?_
    refine r_bipush 40 X (127 : Int32) d31_38 rfl ?_
    refine r_iand 41 X d31_40 ?_
    refine r_iload 43 X d31_41 rfl ?_
    refine r_ishl 44 X d31_43 ?_
    refine r_ior 45 X d31_44 ?_
    refine r_istore 47 X #[.val (.ref rs), .val (.long q1), .second, .val (.ref out), .val (.long (q1 + (1 : Int64))), .second, .val (.int (0 : Int32)), .val (.int ((0 : Int32) ||| (((F (p1 + 0)) &&& (127 : Int32)) <<< ((0 : Int32) &&& 31)))), .val (.int (0 : Int32)), .val (.int (F (p1 + 0)))] d31_45 rfl ?_
    refine r_iinc 50 X (7 : Int32) #[.val (.ref rs), .val (.long q1), .second, .val (.ref out), .val (.long (q1 + (1 : Int64))), .second, .val (.int (0 : Int32)), .val (.int ((0 : Int32) ||| (((F (p1 + 0)) &&& (127 : Int32)) <<< ((0 : Int32) &&& 31)))), .val (.int (7 : Int32)), .val (.int (F (p1 + 0)))] d31_47 rfl rfl rfl ?_
    refine r_iload 52 X d31_50 rfl ?_
    refine r_ifY 21 X d31_52 ((if0 _ _).trans (tlt (hk2 0 (by omega))).1) ?_
    exact loop (p2 - p1 - 2) _ (0 + 1) _ _ _ _ (by omega) ((addJ hqk (y := (1 : Int64)) (b := 1) rfl (by omega) (by omega)).trans (by omega)) X
theorem d30_0 : decode prog_19_method_7_code 0 = .ok (.aload_n 0, 1) := by decide +kernel
theorem d30_1 : decode prog_19_method_7_code 1 = .ok (.aload_n 0, 1) := by decide +kernel
theorem d30_2 : decode prog_19_method_7_code 2 = .ok (.aload_n 0, 1) := by decide +kernel
theorem d30_3 : decode prog_19_method_7_code 3 = .ok (.getfield 73, 3) := by decide +kernel
theorem d30_6 : decode prog_19_method_7_code 6 = .ok (.aload_n 1, 1) := by decide +kernel
theorem d30_7 : decode prog_19_method_7_code 7 = .ok (.invokevirtual 76, 3) := by decide +kernel
theorem d30_10 : decode prog_19_method_7_code 10 = .ok (.putfield 73, 3) := by decide +kernel
theorem d30_13 : decode prog_19_method_7_code 13 = .ok (.return_, 1) := by decide +kernel
theorem pn_30 : plainName "com/example/statera/statera/engine/ReachedStates" = true := by first | (simp [plainName, overriddenIn]; done) | decide +kernel
theorem ef_30 (m : MethodId) (x0 : Addr) (x1 : Addr) : entryFrame m #[(.ref x0), (.ref x1)] 2 = mkF m 0 #[.val (.ref x0), .val (.ref x1)] [] := by first | (simp [entryFrame, mkF, argsToLocals, Value.category]; done) | rfl
set_option maxRecDepth 65536 in
set_option maxHeartbeats 40000000 in
theorem rmTk (l : Launch) (Z : State) (a0 : Array Value) (hw : ∀ d ∈ tables_1, d.before a0 Z = true) (n0 : Nat) (h : Heap) (Z0 : n0 ≤ h.size) (out rs al blk od : Nat) (en ex : Int64) (an rz : Int32) (p1 p2 : Nat) (F go : Nat → Int32) (lt_out_rs : @LT.lt Nat _ out rs) (lt_rs_al : @LT.lt Nat _ rs al) (lt_al_blk : @LT.lt Nat _ al blk) (lt_blk_od : @LT.lt Nat _ blk od) (g_out : n0 ≤ out) (hq : ex.toInt = (p1 : Int)) (hT : Tk F p1 p2) (hFF : FB F) (E_rs : Exa Z h rs "com/example/statera/statera/engine/ReachedStates") (E_al : Exa Z h al "java/util/ArrayList") (E_blk : Exa Z h blk "[B") (F_rs_blocks : Fld Z h rs "com/example/statera/statera/engine/ReachedStates" "blocks" "Ljava/util/List;" (.ref al)) (F_rs_table : Fld Z h rs "com/example/statera/statera/engine/ReachedStates" "table" "Lcom/example/statera/statera/engine/IdTable;" (.ref tb)) (F_rs_width : Fld Z h rs "com/example/statera/statera/engine/ReachedStates" "width" "I" (.int (1 : Int32))) (F_rs_adding : Fld Z h rs "com/example/statera/statera/engine/ReachedStates" "adding" "[B" (.ref ad)) (F_rs_end : Fld Z h rs "com/example/statera/statera/engine/ReachedStates" "end" "J" (.long en)) (F_rs_explored : Fld Z h rs "com/example/statera/statera/engine/ReachedStates" "explored" "J" (.long ex)) (F_rs_addingLength : Fld Z h rs "com/example/statera/statera/engine/ReachedStates" "addingLength" "I" (.int an)) (F_rs_size : Fld Z h rs "com/example/statera/statera/engine/ReachedStates" "size" "I" (.int rz)) (F_al_elementData : Fld Z h al "java/util/ArrayList" "elementData" "[Ljava/lang/Object;" (.ref od)) (F_al_size : Fld Z h al "java/util/ArrayList" "size" "I" (.int (1 : Int32))) (A_od : AF Z h od (.object "java/lang/Object") 10 (upd (fun _ => .null) 0 (.ref blk))) (A_blk : AF Z h blk .byte 65536 (fun j => .int (F j))) (A_out : AF Z h out .int 1 (fun j => .int (go j))) :
    Met1 l Z n0 [] (⟨"com/example/statera/statera/engine/ReachedStates", "takeUnexplored", "([I)V"⟩ : MethodName) prog_19_method_7_code 2 none ({ frames := 5, cells := 0, slots := 0, locals := 76 } : Room) #[(.ref rs), (.ref out)] h (fun v h' => v = none ∧ Keep h h' [rs, out] ∧ ∃ (ex2 : Int64) (g : Nat → Int32), ex2.toInt = (p2 : Int) ∧ Fld Z h' rs "com/example/statera/statera/engine/ReachedStates" "blocks" "Ljava/util/List;" (.ref al) ∧ Fld Z h' rs "com/example/statera/statera/engine/ReachedStates" "table" "Lcom/example/statera/statera/engine/IdTable;" (.ref tb) ∧ Fld Z h' rs "com/example/statera/statera/engine/ReachedStates" "width" "I" (.int (1 : Int32)) ∧ Fld Z h' rs "com/example/statera/statera/engine/ReachedStates" "adding" "[B" (.ref ad) ∧ Fld Z h' rs "com/example/statera/statera/engine/ReachedStates" "end" "J" (.long en) ∧ Fld Z h' rs "com/example/statera/statera/engine/ReachedStates" "explored" "J" (.long ex2) ∧ Fld Z h' rs "com/example/statera/statera/engine/ReachedStates" "addingLength" "I" (.int an) ∧ Fld Z h' rs "com/example/statera/statera/engine/ReachedStates" "size" "I" (.int rz) ∧ AF Z h' out .int 1 (fun j => .int (g j))) := by
  refine met_of (plainFor_of_name pn_30) Z0 (fun m => ef_30 m rs out) ?_
  intro p e s m below meth c T hs0 X
  have K := Keep.refl h [rs, out]
  have ne_out_rs : @Ne Nat out rs := by omega
  have ne_out_al : @Ne Nat out al := by omega
  have ne_out_blk : @Ne Nat out blk := by omega
  have ne_out_od : @Ne Nat out od := by omega
  have ne_rs_al : @Ne Nat rs al := by omega
  have ne_rs_blk : @Ne Nat rs blk := by omega
  have ne_rs_od : @Ne Nat rs od := by omega
  have ne_al_blk : @Ne Nat al blk := by omega
  have ne_al_od : @Ne Nat al od := by omega
  have ne_blk_od : @Ne Nat blk od := by omega
  have g_rs : @LE.le Nat _ n0 rs := by omega
  have g_al : @LE.le Nat _ n0 al := by omega
  have g_blk : @LE.le Nat _ n0 blk := by omega
  have g_od : @LE.le Nat _ n0 od := by omega
  refine r_aloadN 1 X d30_0 rfl rfl ?_
  refine r_aloadN 2 X d30_1 rfl rfl ?_
  refine r_aloadN 3 X d30_2 rfl rfl ?_
  refine r_getfield 6 X (host := "") (Or.inl (hw _ (List.mem_of_getElem? (i := 83) rfl))) Via.refl F_rs_explored d30_3 ?_
  intro T X
  refine r_aloadN 7 X d30_6 rfl rfl ?_
  refine r_private 10 X (st := [(.ref rs)]) (a := rs) (rmRd l Z a0 hw n0 _ X.sz out rs al blk od ex p1 p2 F go (by omega) (by omega) (by omega) (by omega) (by omega)  hq hT hFF E_rs E_al E_blk F_rs_blocks F_al_elementData F_al_size A_od A_blk F_rs_width A_out) E_rs (hw _ (List.mem_of_getElem? (i := 207) rfl)) (hw _ (List.mem_of_getElem? (i := 208) rfl)) (hw _ (List.mem_of_getElem? (i := 2) rfl)) (hw _ (List.mem_of_getElem? (i := 209) rfl)) (hw _ (List.mem_of_getElem? (i := 210) rfl)) (hw _ (List.mem_of_getElem? (i := 3) rfl)) (by decide) pd_23 [(.long ex), (.ref out)] rfl rfl 1 (Nat.le_of_eq rfl) rfl (by decide) (by decide) (by decide) (by decide) d30_7 ?_
  rintro T h1 v1 ⟨ex2, go2, rfl, hex2, K1, Ao1⟩ X
  have K := K.trans K1 (allS (Or.inl (List.mem_of_getElem? (i := 1) rfl)) all0)
  have E_rs := E_rs.keep K1
  have E_al := E_al.keep K1
  have E_blk := E_blk.keep K1
  have F_rs_blocks := F_rs_blocks.keep K1 (ninS (Ne.symm ne_out_rs) nin0)
  have F_rs_table := F_rs_table.keep K1 (ninS (Ne.symm ne_out_rs) nin0)
  have F_rs_width := F_rs_width.keep K1 (ninS (Ne.symm ne_out_rs) nin0)
  have F_rs_adding := F_rs_adding.keep K1 (ninS (Ne.symm ne_out_rs) nin0)
  have F_rs_end := F_rs_end.keep K1 (ninS (Ne.symm ne_out_rs) nin0)
  have F_rs_explored := F_rs_explored.keep K1 (ninS (Ne.symm ne_out_rs) nin0)
  have F_rs_addingLength := F_rs_addingLength.keep K1 (ninS (Ne.symm ne_out_rs) nin0)
  have F_rs_size := F_rs_size.keep K1 (ninS (Ne.symm ne_out_rs) nin0)
  have F_al_elementData := F_al_elementData.keep K1 (ninS (Ne.symm ne_out_al) nin0)
  have F_al_size := F_al_size.keep K1 (ninS (Ne.symm ne_out_al) nin0)
  have A_od := A_od.keep K1 (ninS (Ne.symm ne_out_od) nin0)
  have A_blk := A_blk.keep K1 (ninS (Ne.symm ne_out_blk) nin0)
  have A_out := Ao1
  change Run _ _ _ _ _ _ _ _ [(.long ex2), (.ref rs)]
  refine r_putfield 13 X (host := "") (Or.inl (hw _ (List.mem_of_getElem? (i := 83) rfl))) Via.refl F_rs_explored E_rs (Or.inl (hw _ (List.mem_of_getElem? (i := 84) rfl))) (hw _ (List.mem_of_getElem? (i := 2) rfl)) (ty := .long) (by decide) rfl rfl g_rs d30_10 ?_
  intro T h2 W2 X
  have K := K.wr W2 (Or.inl (List.mem_of_getElem? (i := 0) rfl))
  have E_rs := E_rs.wr W2
  have E_al := E_al.wr W2
  have E_blk := E_blk.wr W2
  have F_rs_blocks := F_rs_blocks.other W2 (Or.inr (slot_ne (Or.inr (hw _ (List.mem_of_getElem? (i := 35) rfl))) (Or.inl (hw _ (List.mem_of_getElem? (i := 84) rfl))) (by decide) (t := (.object "java/util/List")) (t' := .long) (by decide) (by decide)))
  have F_rs_table := F_rs_table.other W2 (Or.inr (slot_ne (Or.inr (hw _ (List.mem_of_getElem? (i := 70) rfl))) (Or.inl (hw _ (List.mem_of_getElem? (i := 84) rfl))) (by decide) (t := (.object "com/example/statera/statera/engine/IdTable")) (t' := .long) (by decide) (by decide)))
  have F_rs_width := F_rs_width.other W2 (Or.inr (slot_ne (Or.inr (hw _ (List.mem_of_getElem? (i := 72) rfl))) (Or.inl (hw _ (List.mem_of_getElem? (i := 84) rfl))) (by decide) (t := .int) (t' := .long) (by decide) (by decide)))
  have F_rs_adding := F_rs_adding.other W2 (Or.inr (slot_ne (Or.inr (hw _ (List.mem_of_getElem? (i := 75) rfl))) (Or.inl (hw _ (List.mem_of_getElem? (i := 84) rfl))) (by decide) (t := (.array .byte)) (t' := .long) (by decide) (by decide)))
  have F_rs_end := F_rs_end.other W2 (Or.inr (slot_ne (Or.inl (hw _ (List.mem_of_getElem? (i := 86) rfl))) (Or.inl (hw _ (List.mem_of_getElem? (i := 84) rfl))) (by decide) (t := .long) (t' := .long) (by decide) (by decide)))
  have F_rs_explored := F_rs_explored.same W2
  have F_rs_addingLength := F_rs_addingLength.other W2 (Or.inr (slot_ne (Or.inl (hw _ (List.mem_of_getElem? (i := 97) rfl))) (Or.inl (hw _ (List.mem_of_getElem? (i := 84) rfl))) (by decide) (t := .int) (t' := .long) (by decide) (by decide)))
  have F_rs_size := F_rs_size.other W2 (Or.inr (slot_ne (Or.inl (hw _ (List.mem_of_getElem? (i := 200) rfl))) (Or.inl (hw _ (List.mem_of_getElem? (i := 84) rfl))) (by decide) (t := .int) (t' := .long) (by decide) (by decide)))
  have F_al_elementData := F_al_elementData.other W2 (Or.inl (Ne.symm ne_rs_al))
  have F_al_size := F_al_size.other W2 (Or.inl (Ne.symm ne_rs_al))
  have A_od := A_od.other W2 (Ne.symm ne_rs_od)
  have A_blk := A_blk.other W2 (Ne.symm ne_rs_blk)
  have A_out := A_out.other W2 ne_out_rs
  refine r_retV X d30_13 (by decide) (by decide) ?_
  exact ⟨rfl, K, _, _, hex2, F_rs_blocks, F_rs_table, F_rs_width, F_rs_adding, F_rs_end, F_rs_explored, F_rs_addingLength, F_rs_size, A_out⟩
theorem pn_0 : plainName "com/example/statera/statera/engine/ReachedStatesHasUnexploredPinLaw" = true := by first | (simp [plainName, overriddenIn]; done) | decide +kernel
theorem ef_0 (m : MethodId) (x0 : Int32) (x1 : Int32) (x2 : Int32) (x3 : Int32) : entryFrame m #[(.int x0), (.int x1), (.int x2), (.int x3)] maxLocals = mkF m 0 #[.val (.int x0), .val (.int x1), .val (.int x2), .val (.int x3), .unset, .unset, .unset, .unset, .unset, .unset, .unset, .unset, .unset, .unset] [] := by first | (simp [entryFrame, mkF, argsToLocals, Value.category, maxLocals]; done) | rfl
set_option maxRecDepth 65536 in
set_option maxHeartbeats 40000000 in
theorem rm0 (l : Launch) (Z : State) (a0 : Array Value) (hw : ∀ d ∈ tables_1, d.before a0 Z = true) (n0 : Nat) (h : Heap) (Z0 : n0 ≤ h.size) (xa xb xc xt : Int32) (em : Nat) (fe : Nat → Value) (A_em : AF Z h em (.object "java/lang/Object") 0 fe) (S_DEFAULTCAPACITY_EMPTY_ELEMENTDATA : Sta Z h "java/util/ArrayList" "DEFAULTCAPACITY_EMPTY_ELEMENTDATA" "[Ljava/lang/Object;" (.ref em)) :
    Met1 l Z n0 tables_1 x code maxLocals ret room_1 #[(.int xa), (.int xb), (.int xc), (.int xt)] h (fun v h' => v = some (.int 1)) := by
  refine met_of (plainFor_of_name pn_0) Z0 (fun m => ef_0 m xa xb xc xt) ?_
  intro p e s m below meth c T hs0 X
  have K := Keep.refl h []
  refine r_iconst 1 X (1 : Int32) at_0 rfl ?_
  refine r_newarray 3 X 1 1 (hw _ (List.mem_of_getElem? (i := 0) rfl)) at_1 (by decide) (by decide) (by decide) (by decide) (by decide) ?_
  intro T h1 sa g1 gn_sa E1 A_sa X
  have sz_sa : h.size ≤ sa := Nat.le_trans K.1 (Nat.le_of_eq g1.symm)
  have ne_em_sa : em ≠ sa := Nat.ne_of_lt (Nat.lt_of_lt_of_eq A_em.lt g1.symm)
  have lt_em_sa : @LT.lt Nat _ em sa := Nat.lt_of_lt_of_eq A_em.lt g1.symm
  have K := K.ext E1
  have A_em := A_em.ext E1
  have S_DEFAULTCAPACITY_EMPTY_ELEMENTDATA := S_DEFAULTCAPACITY_EMPTY_ELEMENTDATA.ext E1
  replace A_sa : AF Z h1 sa .int 1 (fun j => .int ((fun _ => (0 : Int32)) j)) := A_sa
  refine r_dup 4 X at_3 rfl ?_
  refine r_iconst 5 X (0 : Int32) at_4 rfl ?_
  refine r_iloadN 6 X at_5 rfl ?_
  refine r_iastore 7 X A_sa (i := 0) (v := (.int xa)) (by decide) (by decide) rfl gn_sa at_6 ?_
  intro T h2 W2 X
  have K := K.wr W2 (Or.inr sz_sa)
  have A_em := A_em.other W2 ne_em_sa
  have S_DEFAULTCAPACITY_EMPTY_ELEMENTDATA := S_DEFAULTCAPACITY_EMPTY_ELEMENTDATA.wr W2
  have A_sa := A_sa.setI W2
  refine r_astore 9 X #[.val (.int xa), .val (.int xb), .val (.int xc), .val (.int xt), .val (.ref sa), .unset, .unset, .unset, .unset, .unset, .unset, .unset, .unset, .unset] at_7 rfl rfl ?_
  refine r_iconst 10 X (1 : Int32) at_9 rfl ?_
  refine r_newarray 12 X 1 1 (hw _ (List.mem_of_getElem? (i := 0) rfl)) at_10 (by decide) (by decide) (by decide) (by decide) (by decide) ?_
  intro T h3 sb g3 gn_sb E3 A_sb X
  have sz_sb : h.size ≤ sb := Nat.le_trans K.1 (Nat.le_of_eq g3.symm)
  have ne_em_sb : em ≠ sb := Nat.ne_of_lt (Nat.lt_of_lt_of_eq A_em.lt g3.symm)
  have lt_em_sb : @LT.lt Nat _ em sb := Nat.lt_of_lt_of_eq A_em.lt g3.symm
  have ne_sa_sb : sa ≠ sb := Nat.ne_of_lt (Nat.lt_of_lt_of_eq A_sa.lt g3.symm)
  have lt_sa_sb : @LT.lt Nat _ sa sb := Nat.lt_of_lt_of_eq A_sa.lt g3.symm
  have K := K.ext E3
  have A_em := A_em.ext E3
  have S_DEFAULTCAPACITY_EMPTY_ELEMENTDATA := S_DEFAULTCAPACITY_EMPTY_ELEMENTDATA.ext E3
  have A_sa := A_sa.ext E3
  replace A_sb : AF Z h3 sb .int 1 (fun j => .int ((fun _ => (0 : Int32)) j)) := A_sb
  refine r_dup 13 X at_12 rfl ?_
  refine r_iconst 14 X (0 : Int32) at_13 rfl ?_
  refine r_iloadN 15 X at_14 rfl ?_
  refine r_iastore 16 X A_sb (i := 0) (v := (.int xb)) (by decide) (by decide) rfl gn_sb at_15 ?_
  intro T h4 W4 X
  have K := K.wr W4 (Or.inr sz_sb)
  have A_em := A_em.other W4 ne_em_sb
  have S_DEFAULTCAPACITY_EMPTY_ELEMENTDATA := S_DEFAULTCAPACITY_EMPTY_ELEMENTDATA.wr W4
  have A_sa := A_sa.other W4 ne_sa_sb
  have A_sb := A_sb.setI W4
  refine r_astore 18 X #[.val (.int xa), .val (.int xb), .val (.int xc), .val (.int xt), .val (.ref sa), .val (.ref sb), .unset, .unset, .unset, .unset, .unset, .unset, .unset, .unset] at_16 rfl rfl ?_
  refine r_iconst 19 X (1 : Int32) at_18 rfl ?_
  refine r_newarray 21 X 1 1 (hw _ (List.mem_of_getElem? (i := 0) rfl)) at_19 (by decide) (by decide) (by decide) (by decide) (by decide) ?_
  intro T h5 sc g5 gn_sc E5 A_sc X
  have sz_sc : h.size ≤ sc := Nat.le_trans K.1 (Nat.le_of_eq g5.symm)
  have ne_em_sc : em ≠ sc := Nat.ne_of_lt (Nat.lt_of_lt_of_eq A_em.lt g5.symm)
  have lt_em_sc : @LT.lt Nat _ em sc := Nat.lt_of_lt_of_eq A_em.lt g5.symm
  have ne_sa_sc : sa ≠ sc := Nat.ne_of_lt (Nat.lt_of_lt_of_eq A_sa.lt g5.symm)
  have lt_sa_sc : @LT.lt Nat _ sa sc := Nat.lt_of_lt_of_eq A_sa.lt g5.symm
  have ne_sb_sc : sb ≠ sc := Nat.ne_of_lt (Nat.lt_of_lt_of_eq A_sb.lt g5.symm)
  have lt_sb_sc : @LT.lt Nat _ sb sc := Nat.lt_of_lt_of_eq A_sb.lt g5.symm
  have K := K.ext E5
  have A_em := A_em.ext E5
  have S_DEFAULTCAPACITY_EMPTY_ELEMENTDATA := S_DEFAULTCAPACITY_EMPTY_ELEMENTDATA.ext E5
  have A_sa := A_sa.ext E5
  have A_sb := A_sb.ext E5
  replace A_sc : AF Z h5 sc .int 1 (fun j => .int ((fun _ => (0 : Int32)) j)) := A_sc
  refine r_dup 22 X at_21 rfl ?_
  refine r_iconst 23 X (0 : Int32) at_22 rfl ?_
  refine r_iloadN 24 X at_23 rfl ?_
  refine r_iastore 25 X A_sc (i := 0) (v := (.int xc)) (by decide) (by decide) rfl gn_sc at_24 ?_
  intro T h6 W6 X
  have K := K.wr W6 (Or.inr sz_sc)
  have A_em := A_em.other W6 ne_em_sc
  have S_DEFAULTCAPACITY_EMPTY_ELEMENTDATA := S_DEFAULTCAPACITY_EMPTY_ELEMENTDATA.wr W6
  have A_sa := A_sa.other W6 ne_sa_sc
  have A_sb := A_sb.other W6 ne_sb_sc
  have A_sc := A_sc.setI W6
  refine r_astore 27 X #[.val (.int xa), .val (.int xb), .val (.int xc), .val (.int xt), .val (.ref sa), .val (.ref sb), .val (.ref sc), .unset, .unset, .unset, .unset, .unset, .unset, .unset] at_25 rfl rfl ?_
  refine r_iconst 28 X (1 : Int32) at_27 rfl ?_
  refine r_newarray 30 X 1 1 (hw _ (List.mem_of_getElem? (i := 0) rfl)) at_28 (by decide) (by decide) (by decide) (by decide) (by decide) ?_
  intro T h7 out g7 gn_out E7 A_out X
  have sz_out : h.size ≤ out := Nat.le_trans K.1 (Nat.le_of_eq g7.symm)
  have ne_sc_out : sc ≠ out := Nat.ne_of_lt (Nat.lt_of_lt_of_eq A_sc.lt g7.symm)
  have lt_sc_out : @LT.lt Nat _ sc out := Nat.lt_of_lt_of_eq A_sc.lt g7.symm
  have ne_em_out : em ≠ out := Nat.ne_of_lt (Nat.lt_of_lt_of_eq A_em.lt g7.symm)
  have lt_em_out : @LT.lt Nat _ em out := Nat.lt_of_lt_of_eq A_em.lt g7.symm
  have ne_sa_out : sa ≠ out := Nat.ne_of_lt (Nat.lt_of_lt_of_eq A_sa.lt g7.symm)
  have lt_sa_out : @LT.lt Nat _ sa out := Nat.lt_of_lt_of_eq A_sa.lt g7.symm
  have ne_sb_out : sb ≠ out := Nat.ne_of_lt (Nat.lt_of_lt_of_eq A_sb.lt g7.symm)
  have lt_sb_out : @LT.lt Nat _ sb out := Nat.lt_of_lt_of_eq A_sb.lt g7.symm
  have K := K.ext E7
  have A_em := A_em.ext E7
  have S_DEFAULTCAPACITY_EMPTY_ELEMENTDATA := S_DEFAULTCAPACITY_EMPTY_ELEMENTDATA.ext E7
  have A_sa := A_sa.ext E7
  have A_sb := A_sb.ext E7
  have A_sc := A_sc.ext E7
  replace A_out : AF Z h7 out .int 1 (fun j => .int ((fun _ => (0 : Int32)) j)) := A_out
  refine r_astore 32 X #[.val (.int xa), .val (.int xb), .val (.int xc), .val (.int xt), .val (.ref sa), .val (.ref sb), .val (.ref sc), .val (.ref out), .unset, .unset, .unset, .unset, .unset, .unset] at_30 rfl rfl ?_
  replace A_sa : AF Z h7 sa .int 1 (fun j => .int ((fun _ => xa) j)) := A_sa.congr (fun j hj => match j, hj with | 0, _ => rfl | _ + 1, hj => absurd hj (by omega))
  replace A_sb : AF Z h7 sb .int 1 (fun j => .int ((fun _ => xb) j)) := A_sb.congr (fun j hj => match j, hj with | 0, _ => rfl | _ + 1, hj => absurd hj (by omega))
  replace A_sc : AF Z h7 sc .int 1 (fun j => .int ((fun _ => xc) j)) := A_sc.congr (fun j hj => match j, hj with | 0, _ => rfl | _ + 1, hj => absurd hj (by omega))
  refine r_new 35 X (hw _ (List.mem_of_getElem? (i := 1) rfl)) (hw _ (List.mem_of_getElem? (i := 2) rfl)) (hw _ (List.mem_of_getElem? (i := 3) rfl)) at_32 (by decide) (by decide) ?_
  intro T h8 rs g8 gn_rs E8 A8 D8 X
  have sz_rs : h.size ≤ rs := Nat.le_trans K.1 (Nat.le_of_eq g8.symm)
  have ne_out_rs : out ≠ rs := Nat.ne_of_lt (Nat.lt_of_lt_of_eq A_out.lt g8.symm)
  have lt_out_rs : @LT.lt Nat _ out rs := Nat.lt_of_lt_of_eq A_out.lt g8.symm
  have ne_em_rs : em ≠ rs := Nat.ne_of_lt (Nat.lt_of_lt_of_eq A_em.lt g8.symm)
  have lt_em_rs : @LT.lt Nat _ em rs := Nat.lt_of_lt_of_eq A_em.lt g8.symm
  have ne_sb_rs : sb ≠ rs := Nat.ne_of_lt (Nat.lt_of_lt_of_eq A_sb.lt g8.symm)
  have lt_sb_rs : @LT.lt Nat _ sb rs := Nat.lt_of_lt_of_eq A_sb.lt g8.symm
  have ne_sa_rs : sa ≠ rs := Nat.ne_of_lt (Nat.lt_of_lt_of_eq A_sa.lt g8.symm)
  have lt_sa_rs : @LT.lt Nat _ sa rs := Nat.lt_of_lt_of_eq A_sa.lt g8.symm
  have ne_sc_rs : sc ≠ rs := Nat.ne_of_lt (Nat.lt_of_lt_of_eq A_sc.lt g8.symm)
  have lt_sc_rs : @LT.lt Nat _ sc rs := Nat.lt_of_lt_of_eq A_sc.lt g8.symm
  have K := K.ext E8
  have A_em := A_em.ext E8
  have S_DEFAULTCAPACITY_EMPTY_ELEMENTDATA := S_DEFAULTCAPACITY_EMPTY_ELEMENTDATA.ext E8
  have A_sa := A_sa.ext E8
  have A_sb := A_sb.ext E8
  have A_sc := A_sc.ext E8
  have A_out := A_out.ext E8
  have E_rs := A8
  have F_rs_blocks : Fld Z h8 rs "com/example/statera/statera/engine/ReachedStates" "blocks" "Ljava/util/List;" .null := D8 (Or.inr (hw _ (List.mem_of_getElem? (i := 35) rfl))) (ty := (.object "java/util/List")) (by decide)
  have F_rs_table : Fld Z h8 rs "com/example/statera/statera/engine/ReachedStates" "table" "Lcom/example/statera/statera/engine/IdTable;" .null := D8 (Or.inr (hw _ (List.mem_of_getElem? (i := 70) rfl))) (ty := (.object "com/example/statera/statera/engine/IdTable")) (by decide)
  have F_rs_width : Fld Z h8 rs "com/example/statera/statera/engine/ReachedStates" "width" "I" (.int (0 : Int32)) := D8 (Or.inr (hw _ (List.mem_of_getElem? (i := 72) rfl))) (ty := .int) (by decide)
  have F_rs_adding : Fld Z h8 rs "com/example/statera/statera/engine/ReachedStates" "adding" "[B" .null := D8 (Or.inr (hw _ (List.mem_of_getElem? (i := 75) rfl))) (ty := (.array .byte)) (by decide)
  have F_rs_rehashing : Fld Z h8 rs "com/example/statera/statera/engine/ReachedStates" "rehashing" "[I" .null := D8 (Or.inr (hw _ (List.mem_of_getElem? (i := 77) rfl))) (ty := (.array .int)) (by decide)
  have F_rs_explored : Fld Z h8 rs "com/example/statera/statera/engine/ReachedStates" "explored" "J" (.long (0 : Int64)) := D8 (Or.inl (hw _ (List.mem_of_getElem? (i := 84) rfl))) (ty := .long) (by decide)
  have F_rs_end : Fld Z h8 rs "com/example/statera/statera/engine/ReachedStates" "end" "J" (.long (0 : Int64)) := D8 (Or.inl (hw _ (List.mem_of_getElem? (i := 86) rfl))) (ty := .long) (by decide)
  have F_rs_addingLength : Fld Z h8 rs "com/example/statera/statera/engine/ReachedStates" "addingLength" "I" (.int (0 : Int32)) := D8 (Or.inl (hw _ (List.mem_of_getElem? (i := 97) rfl))) (ty := .int) (by decide)
  have F_rs_size : Fld Z h8 rs "com/example/statera/statera/engine/ReachedStates" "size" "I" (.int (0 : Int32)) := D8 (Or.inl (hw _ (List.mem_of_getElem? (i := 200) rfl))) (ty := .int) (by decide)
  refine r_dup 36 X at_35 rfl ?_
  refine r_iconst 37 X (1 : Int32) at_36 rfl ?_
  refine r_special 40 X (st := [(.ref rs)]) (a := rs) (rmRs l Z a0 hw n0 _ X.sz em rs fe (by omega) (by omega)   E_rs F_rs_blocks F_rs_table F_rs_width F_rs_adding F_rs_end F_rs_explored F_rs_addingLength F_rs_size F_rs_rehashing A_em S_DEFAULTCAPACITY_EMPTY_ELEMENTDATA) rfl rfl (hw _ (List.mem_of_getElem? (i := 4) rfl)) (hw _ (List.mem_of_getElem? (i := 5) rfl)) (hw _ (List.mem_of_getElem? (i := 6) rfl)) (hw _ (List.mem_of_getElem? (i := 3) rfl)) (by decide) pd_21 [(.int (1 : Int32))] rfl rfl 1 (Nat.le_of_eq rfl) rfl (by decide) (by decide) (by decide) (by decide) at_37 ?_
  rintro T h9 v9 ⟨rfl, K9, al, tb, st, pl, ad, ⟨lt_rs_al, lt_al_tb, lt_tb_st, lt_st_pl, lt_pl_ad⟩, B9_E_al, B9_E_tb, B9_E_st, B9_E_pl, B9_E_ad, B9_F_rs_blocks, B9_F_rs_table, B9_F_rs_width, B9_F_rs_adding, B9_F_rs_end, B9_F_rs_explored, B9_F_rs_addingLength, B9_F_rs_size, B9_F_al_modCount, B9_F_al_elementData, B9_F_al_size, B9_F_tb_places, B9_F_tb_shift, B9_F_tb_items, B9_F_tb_size, B9_F_st_this_0, B9_A_pl, B9_A_ad⟩ X
  have sz_al : @LE.le Nat _ h.size al := by omega
  have ne_em_al : @Ne Nat em al := by omega
  have ne_sa_al : @Ne Nat sa al := by omega
  have ne_sb_al : @Ne Nat sb al := by omega
  have ne_sc_al : @Ne Nat sc al := by omega
  have ne_out_al : @Ne Nat out al := by omega
  have ne_rs_al : @Ne Nat rs al := by omega
  have sz_tb : @LE.le Nat _ h.size tb := by omega
  have ne_em_tb : @Ne Nat em tb := by omega
  have ne_sa_tb : @Ne Nat sa tb := by omega
  have ne_sb_tb : @Ne Nat sb tb := by omega
  have ne_sc_tb : @Ne Nat sc tb := by omega
  have ne_out_tb : @Ne Nat out tb := by omega
  have ne_rs_tb : @Ne Nat rs tb := by omega
  have ne_al_tb : @Ne Nat al tb := by omega
  have sz_st : @LE.le Nat _ h.size st := by omega
  have ne_em_st : @Ne Nat em st := by omega
  have ne_sa_st : @Ne Nat sa st := by omega
  have ne_sb_st : @Ne Nat sb st := by omega
  have ne_sc_st : @Ne Nat sc st := by omega
  have ne_out_st : @Ne Nat out st := by omega
  have ne_rs_st : @Ne Nat rs st := by omega
  have ne_al_st : @Ne Nat al st := by omega
  have ne_tb_st : @Ne Nat tb st := by omega
  have sz_pl : @LE.le Nat _ h.size pl := by omega
  have ne_em_pl : @Ne Nat em pl := by omega
  have ne_sa_pl : @Ne Nat sa pl := by omega
  have ne_sb_pl : @Ne Nat sb pl := by omega
  have ne_sc_pl : @Ne Nat sc pl := by omega
  have ne_out_pl : @Ne Nat out pl := by omega
  have ne_rs_pl : @Ne Nat rs pl := by omega
  have ne_al_pl : @Ne Nat al pl := by omega
  have ne_tb_pl : @Ne Nat tb pl := by omega
  have ne_st_pl : @Ne Nat st pl := by omega
  have sz_ad : @LE.le Nat _ h.size ad := by omega
  have ne_em_ad : @Ne Nat em ad := by omega
  have ne_sa_ad : @Ne Nat sa ad := by omega
  have ne_sb_ad : @Ne Nat sb ad := by omega
  have ne_sc_ad : @Ne Nat sc ad := by omega
  have ne_out_ad : @Ne Nat out ad := by omega
  have ne_rs_ad : @Ne Nat rs ad := by omega
  have ne_al_ad : @Ne Nat al ad := by omega
  have ne_tb_ad : @Ne Nat tb ad := by omega
  have ne_st_ad : @Ne Nat st ad := by omega
  have ne_pl_ad : @Ne Nat pl ad := by omega
  have K := K.trans K9 (allS (Or.inr sz_rs) all0)
  have S_DEFAULTCAPACITY_EMPTY_ELEMENTDATA := own_stakL S_DEFAULTCAPACITY_EMPTY_ELEMENTDATA K9 (staS E_rs sta0)
  have A_em := A_em.keep K9 (ninS ne_em_rs nin0)
  have A_sa := A_sa.keep K9 (ninS ne_sa_rs nin0)
  have A_sb := A_sb.keep K9 (ninS ne_sb_rs nin0)
  have A_sc := A_sc.keep K9 (ninS ne_sc_rs nin0)
  have A_out := A_out.keep K9 (ninS ne_out_rs nin0)
  have E_rs := E_rs.keep K9
  have E_al := B9_E_al
  have E_tb := B9_E_tb
  have E_st := B9_E_st
  have E_pl := B9_E_pl
  have E_ad := B9_E_ad
  have F_rs_blocks := B9_F_rs_blocks
  have F_rs_table := B9_F_rs_table
  have F_rs_width := B9_F_rs_width
  have F_rs_adding := B9_F_rs_adding
  have F_rs_end := B9_F_rs_end
  have F_rs_explored := B9_F_rs_explored
  have F_rs_addingLength := B9_F_rs_addingLength
  have F_rs_size := B9_F_rs_size
  have F_al_modCount := B9_F_al_modCount
  have F_al_elementData := B9_F_al_elementData
  have F_al_size := B9_F_al_size
  have F_tb_places := B9_F_tb_places
  have F_tb_shift := B9_F_tb_shift
  have F_tb_items := B9_F_tb_items
  have F_tb_size := B9_F_tb_size
  have F_st_this_0 := B9_F_st_this_0
  have A_pl := B9_A_pl
  have A_ad := B9_A_ad
  change Run _ _ _ _ _ _ _ _ [(.ref rs)]
  refine r_astore 42 X #[.val (.int xa), .val (.int xb), .val (.int xc), .val (.int xt), .val (.ref sa), .val (.ref sb), .val (.ref sc), .val (.ref out), .val (.ref rs), .unset, .unset, .unset, .unset, .unset] at_40 rfl rfl ?_
  refine r_aload 44 X at_42 rfl rfl ?_
  refine r_virtual 47 X (st := []) (a := rs) (rmHu l Z a0 hw n0 _ X.sz rs (0 : Int64) (0 : Int64)   E_rs F_rs_explored F_rs_end) E_rs (hw _ (List.mem_of_getElem? (i := 78) rfl)) (hw _ (List.mem_of_getElem? (i := 79) rfl)) (hw _ (List.mem_of_getElem? (i := 81) rfl)) (hw _ (List.mem_of_getElem? (i := 81) rfl)) (hw _ (List.mem_of_getElem? (i := 80) rfl)) (hw _ (List.mem_of_getElem? (i := 82) rfl)) (hw _ (List.mem_of_getElem? (i := 3) rfl)) (by decide) pd_24 [] rfl rfl 0 (Nat.le_of_eq rfl) rfl (by decide) (by decide) (by decide) (by decide) at_44 ?_
  rintro T h10 v10 ⟨rfl, rfl⟩ X
  change Run _ _ _ _ _ _ _ _ [(.int (b2i ((0 : Int64) < (0 : Int64))))]
  refine r_istore 49 X #[.val (.int xa), .val (.int xb), .val (.int xc), .val (.int xt), .val (.ref sa), .val (.ref sb), .val (.ref sc), .val (.ref out), .val (.ref rs), .val (.int (b2i ((0 : Int64) < (0 : Int64)))), .unset, .unset, .unset, .unset] at_47 rfl ?_
  refine r_aload 51 X at_49 rfl rfl ?_
  refine r_aload 53 X at_51 rfl rfl ?_
  refine r_virtual 56 X (st := []) (a := rs) (rmD0 l Z a0 hw n0 _ X.sz em sa rs al tb st pl ad (0 : Int64) (0 : Int64) (0 : Int32) (0 : Int32) xa (0 : Int32) 0 0 (fun _ => (0 : Int32)) (fun _ => (0 : Int64)) fe (by omega) (by omega) (by omega) (by omega) (by omega) (by omega) (by omega) (by omega)  rfl (by decide) rfl (by decide) FB_zero rfl E_rs E_al E_tb E_st E_pl E_ad F_rs_blocks F_rs_table F_rs_width F_rs_adding F_rs_end F_rs_explored F_rs_addingLength F_rs_size F_tb_places F_tb_shift F_tb_items F_tb_size F_st_this_0 A_pl A_ad A_sa F_al_modCount F_al_elementData F_al_size A_em S_DEFAULTCAPACITY_EMPTY_ELEMENTDATA) E_rs (hw _ (List.mem_of_getElem? (i := 87) rfl)) (hw _ (List.mem_of_getElem? (i := 88) rfl)) (hw _ (List.mem_of_getElem? (i := 90) rfl)) (hw _ (List.mem_of_getElem? (i := 90) rfl)) (hw _ (List.mem_of_getElem? (i := 89) rfl)) (hw _ (List.mem_of_getElem? (i := 91) rfl)) (hw _ (List.mem_of_getElem? (i := 3) rfl)) (by decide) pd_25 [(.ref sa)] rfl rfl 0 (Nat.le_of_eq rfl) rfl (by decide) (by decide) (by decide) (by decide) at_53 ?_
  rintro T h11 v11 ⟨rfl, K11, blk, od, lt_ad_blk, lt_blk_od, e0, ai0, ga0, he0, hg0, B11_E_blk, B11_F_rs_blocks, B11_F_rs_table, B11_F_rs_width, B11_F_rs_adding, B11_F_rs_end, B11_F_rs_explored, B11_F_rs_addingLength, B11_F_rs_size, B11_F_tb_places, B11_F_tb_shift, B11_F_tb_items, B11_F_tb_size, B11_F_al_elementData, B11_F_al_size, B11_A_od, B11_A_pl, B11_A_ad, B11_A_blk⟩ X
  have sz_blk : @LE.le Nat _ h.size blk := by omega
  have ne_em_blk : @Ne Nat em blk := by omega
  have ne_sa_blk : @Ne Nat sa blk := by omega
  have ne_sb_blk : @Ne Nat sb blk := by omega
  have ne_sc_blk : @Ne Nat sc blk := by omega
  have ne_out_blk : @Ne Nat out blk := by omega
  have ne_rs_blk : @Ne Nat rs blk := by omega
  have ne_al_blk : @Ne Nat al blk := by omega
  have ne_tb_blk : @Ne Nat tb blk := by omega
  have ne_st_blk : @Ne Nat st blk := by omega
  have ne_pl_blk : @Ne Nat pl blk := by omega
  have ne_ad_blk : @Ne Nat ad blk := by omega
  have sz_od : @LE.le Nat _ h.size od := by omega
  have ne_em_od : @Ne Nat em od := by omega
  have ne_sa_od : @Ne Nat sa od := by omega
  have ne_sb_od : @Ne Nat sb od := by omega
  have ne_sc_od : @Ne Nat sc od := by omega
  have ne_out_od : @Ne Nat out od := by omega
  have ne_rs_od : @Ne Nat rs od := by omega
  have ne_al_od : @Ne Nat al od := by omega
  have ne_tb_od : @Ne Nat tb od := by omega
  have ne_st_od : @Ne Nat st od := by omega
  have ne_pl_od : @Ne Nat pl od := by omega
  have ne_ad_od : @Ne Nat ad od := by omega
  have ne_blk_od : @Ne Nat blk od := by omega
  have K := K.trans K11 (allS (Or.inr sz_ad) (allS (Or.inr sz_rs) (allS (Or.inr sz_pl) (allS (Or.inr sz_tb) (allS (Or.inr sz_al) all0)))))
  have S_DEFAULTCAPACITY_EMPTY_ELEMENTDATA := own_stakL S_DEFAULTCAPACITY_EMPTY_ELEMENTDATA K11 (staS E_ad (staS E_rs (staS E_pl (staS E_tb (staS E_al sta0)))))
  have A_em := A_em.keep K11 (ninS ne_em_ad (ninS ne_em_rs (ninS ne_em_pl (ninS ne_em_tb (ninS ne_em_al nin0)))))
  have A_sa := A_sa.keep K11 (ninS ne_sa_ad (ninS ne_sa_rs (ninS ne_sa_pl (ninS ne_sa_tb (ninS ne_sa_al nin0)))))
  have A_sb := A_sb.keep K11 (ninS ne_sb_ad (ninS ne_sb_rs (ninS ne_sb_pl (ninS ne_sb_tb (ninS ne_sb_al nin0)))))
  have A_sc := A_sc.keep K11 (ninS ne_sc_ad (ninS ne_sc_rs (ninS ne_sc_pl (ninS ne_sc_tb (ninS ne_sc_al nin0)))))
  have A_out := A_out.keep K11 (ninS ne_out_ad (ninS ne_out_rs (ninS ne_out_pl (ninS ne_out_tb (ninS ne_out_al nin0)))))
  have E_rs := E_rs.keep K11
  have E_al := E_al.keep K11
  have E_tb := E_tb.keep K11
  have E_st := E_st.keep K11
  have E_pl := E_pl.keep K11
  have E_ad := E_ad.keep K11
  have F_st_this_0 := F_st_this_0.keep K11 (ninS ne_st_ad (ninS (Ne.symm ne_rs_st) (ninS ne_st_pl (ninS (Ne.symm ne_tb_st) (ninS (Ne.symm ne_al_st) nin0)))))
  have E_blk := B11_E_blk
  have F_rs_blocks := B11_F_rs_blocks
  have F_rs_table := B11_F_rs_table
  have F_rs_width := B11_F_rs_width
  have F_rs_adding := B11_F_rs_adding
  have F_rs_end := B11_F_rs_end
  have F_rs_explored := B11_F_rs_explored
  have F_rs_addingLength := B11_F_rs_addingLength
  have F_rs_size := B11_F_rs_size
  have F_tb_places := B11_F_tb_places
  have F_tb_shift := B11_F_tb_shift
  have F_tb_items := B11_F_tb_items
  have F_tb_size := B11_F_tb_size
  have F_al_elementData := B11_F_al_elementData
  have F_al_size := B11_F_al_size
  have A_od := B11_A_od
  have A_pl := B11_A_pl
  have A_ad := B11_A_ad
  have A_blk := B11_A_blk
  have hma := hm_ok (hsh xa)
  have esa : (hmN (hsh xa) + 0) % 16 = hmN (hsh xa) := by omega
  rw [esa] at A_pl
  replace A_pl : AF Z h11 pl .long 16 (fun j => .long (P1 (hmN (hsh xa)) (hsh xa) j)) := A_pl
  have hE0 : Enc (apF (fun _ => (0 : Int32)) 0 xa) 0 xa := enc_ap _ _ _
  have hF1 : FB (apF (fun _ => (0 : Int32)) 0 xa) := FB_ap FB_zero _ _
  have hla := encL_r xa
  change Run _ _ _ _ _ _ _ _ [(.int (1 : Int32))]
  have J73 : ∀ (T : State) (h1 : Heap) (eN : Int64) (aN rN : Int32) (FN : Nat → Int32) (d : Nat) (b : Nat → Nat), b 0 = 0 → d = 1 + (if xb = xa then 0 else 1) + (if xc = xa ∨ xc = xb then 0 else 1) → d ≤ 3 → eN.toInt = (b d : Int) → (∀ i, i < d → Tk FN (b i) (b (i + 1))) → FB FN → Keep h h1 [] → Exa Z h1 rs "com/example/statera/statera/engine/ReachedStates" → Exa Z h1 al "java/util/ArrayList" → Exa Z h1 blk "[B" → Fld Z h1 rs "com/example/statera/statera/engine/ReachedStates" "blocks" "Ljava/util/List;" (.ref al) → Fld Z h1 rs "com/example/statera/statera/engine/ReachedStates" "table" "Lcom/example/statera/statera/engine/IdTable;" (.ref tb) → Fld Z h1 rs "com/example/statera/statera/engine/ReachedStates" "width" "I" (.int (1 : Int32)) → Fld Z h1 rs "com/example/statera/statera/engine/ReachedStates" "adding" "[B" (.ref ad) → Fld Z h1 rs "com/example/statera/statera/engine/ReachedStates" "end" "J" (.long eN) → Fld Z h1 rs "com/example/statera/statera/engine/ReachedStates" "explored" "J" (.long (0 : Int64)) → Fld Z h1 rs "com/example/statera/statera/engine/ReachedStates" "addingLength" "I" (.int aN) → Fld Z h1 rs "com/example/statera/statera/engine/ReachedStates" "size" "I" (.int rN) → Fld Z h1 al "java/util/ArrayList" "elementData" "[Ljava/lang/Object;" (.ref od) → Fld Z h1 al "java/util/ArrayList" "size" "I" (.int (1 : Int32)) → AF Z h1 od (.object "java/lang/Object") 10 (upd (fun _ => .null) 0 (.ref blk)) → AF Z h1 blk .byte 65536 (fun j => .int (FN j)) → AF Z h1 out .int 1 (fun j => .int ((fun _ => (0 : Int32)) j)) → Cx p l e room_1 s m #[(.int xa), (.int xb), (.int xc), (.int xt)] below meth c Z code maxLocals x.cls ret x.name n0 T h1 13 65589 → Run p e below m (Fin1 below s n0 (fun v h' => v = some (.int 1)) room_1.cells room_1.slots) T 73 #[.val (.int xa), .val (.int xb), .val (.int xc), .val (.int xt), .val (.ref sa), .val (.ref sb), .val (.ref sc), .val (.ref out), .val (.ref rs), .val (.int (b2i ((0 : Int64) < (0 : Int64)))), .unset, .unset, .unset, .unset] [] := by
    intro T h1 eN aN rN FN d b hb0 hD hd3 heN hTk hFN K E_rs E_al E_blk F_rs_blocks F_rs_table F_rs_width F_rs_adding F_rs_end F_rs_explored F_rs_addingLength F_rs_size F_al_elementData F_al_size A_od A_blk A_out X
    have hbl : ∀ i, i < d → b i < b (i + 1) := fun i hi => (hTk i hi).1
    have hd1 : 1 ≤ d := by rw [hD]; omega
    have hmid : (0 : Int64) < eN := (ltJ (a := 0) rfl heN).mpr (by have := (bd_lt (k := 0) hbl (by omega)).mpr (by omega); omega)
    refine r_aload 75 X at_73 rfl rfl ?_
    refine r_virtual 78 X (st := []) (a := rs) (rmHu l Z a0 hw n0 _ X.sz rs eN (0 : Int64)   E_rs F_rs_explored F_rs_end) E_rs (hw _ (List.mem_of_getElem? (i := 78) rfl)) (hw _ (List.mem_of_getElem? (i := 79) rfl)) (hw _ (List.mem_of_getElem? (i := 81) rfl)) (hw _ (List.mem_of_getElem? (i := 81) rfl)) (hw _ (List.mem_of_getElem? (i := 80) rfl)) (hw _ (List.mem_of_getElem? (i := 82) rfl)) (hw _ (List.mem_of_getElem? (i := 3) rfl)) (by decide) pd_24 [] rfl rfl 0 (Nat.le_of_eq rfl) rfl (by decide) (by decide) (by decide) (by decide) at_75 ?_
    rintro T h12 v12 ⟨rfl, rfl⟩ X
    change Run _ _ _ _ _ _ _ _ [(.int (b2i ((0 : Int64) < eN)))]
    refine r_istore 80 X #[.val (.int xa), .val (.int xb), .val (.int xc), .val (.int xt), .val (.ref sa), .val (.ref sb), .val (.ref sc), .val (.ref out), .val (.ref rs), .val (.int (b2i ((0 : Int64) < (0 : Int64)))), .val (.int (b2i ((0 : Int64) < eN))), .unset, .unset, .unset] at_78 rfl ?_
    have J108 : ∀ (T : State) (dI : Int32), dI.toInt = (d : Int) → Cx p l e room_1 s m #[(.int xa), (.int xb), (.int xc), (.int xt)] below meth c Z code maxLocals x.cls ret x.name n0 T h1 13 65589 → Run p e below m (Fin1 below s n0 (fun v h' => v = some (.int 1)) room_1.cells room_1.slots) T 108 #[.val (.int xa), .val (.int xb), .val (.int xc), .val (.int xt), .val (.ref sa), .val (.ref sb), .val (.ref sc), .val (.ref out), .val (.ref rs), .val (.int (b2i ((0 : Int64) < (0 : Int64)))), .val (.int (b2i ((0 : Int64) < eN))), .unset, .unset, .unset] [.int dI] := by
      intro T dI hdI X
      refine r_istore 110 X #[.val (.int xa), .val (.int xb), .val (.int xc), .val (.int xt), .val (.ref sa), .val (.ref sb), .val (.ref sc), .val (.ref out), .val (.ref rs), .val (.int (b2i ((0 : Int64) < (0 : Int64)))), .val (.int (b2i ((0 : Int64) < eN))), .val (.int dI), .unset, .unset] at_108 rfl ?_
      refine r_iloadN 111 X at_110 rfl ?_
      refine r_iconst 112 X (3 : Int32) at_111 rfl ?_
      refine r_iand 113 X at_112 ?_
      refine r_iload 115 X at_113 rfl ?_
      refine r_callS 118 X (st := []) (rmMn l Z a0 hw n0 _ X.sz (xt &&& (3 : Int32)) dI) (hw _ (List.mem_of_getElem? (i := 201) rfl)) (hw _ (List.mem_of_getElem? (i := 172) rfl)) (hw _ (List.mem_of_getElem? (i := 173) rfl)) (hw _ (List.mem_of_getElem? (i := 163) rfl)) (by decide) pd_2 [(.int (xt &&& (3 : Int32))), (.int dI)] rfl rfl 0 (Nat.le_of_eq rfl) rfl (by decide) (by decide) (by decide) (by decide) at_115 ?_
      rintro T h14 v14 ⟨rfl, rfl⟩ X
      change Run _ _ _ _ _ _ _ _ [(.int (mnI (xt &&& (3 : Int32)) dI))]
      obtain ⟨n, hn, hn3, hnd⟩ := own_n3 xt hdI
      generalize (mnI (xt &&& (3 : Int32)) dI) = nI at hn ⊢
      refine r_istore 120 X #[.val (.int xa), .val (.int xb), .val (.int xc), .val (.int xt), .val (.ref sa), .val (.ref sb), .val (.ref sc), .val (.ref out), .val (.ref rs), .val (.int (b2i ((0 : Int64) < (0 : Int64)))), .val (.int (b2i ((0 : Int64) < eN))), .val (.int dI), .val (.int nI), .unset] at_118 rfl ?_
      refine r_iload 122 X at_120 rfl ?_
      refine r_iconst 123 X (1 : Int32) at_122 rfl ?_
      by_cases h123_15 : nI < (1 : Int32)
      · refine r_icmpY 133 X at_123 (tlt h123_15).1 ?_
        refine r_iload 135 X at_133 rfl ?_
        refine r_iconst 136 X (2 : Int32) at_135 rfl ?_
        refine r_icmpY 146 X at_136 (tlt ((ltI hn (b := 2) rfl).mpr (by have := (ltI hn (b := 1) rfl).mp h123_15; omega))).1 ?_
        refine r_iload 148 X at_146 rfl ?_
        refine r_iconst 149 X (3 : Int32) at_148 rfl ?_
        refine r_icmpY 159 X at_149 (tlt ((ltI hn (b := 3) rfl).mpr (by have := (ltI hn (b := 1) rfl).mp h123_15; omega))).1 ?_
        refine r_aload 161 X at_159 rfl rfl ?_
        refine r_virtual 164 X (st := []) (a := rs) (rmHu l Z a0 hw n0 _ X.sz rs eN (0 : Int64)   E_rs F_rs_explored F_rs_end) E_rs (hw _ (List.mem_of_getElem? (i := 78) rfl)) (hw _ (List.mem_of_getElem? (i := 79) rfl)) (hw _ (List.mem_of_getElem? (i := 81) rfl)) (hw _ (List.mem_of_getElem? (i := 81) rfl)) (hw _ (List.mem_of_getElem? (i := 80) rfl)) (hw _ (List.mem_of_getElem? (i := 82) rfl)) (hw _ (List.mem_of_getElem? (i := 3) rfl)) (by decide) pd_24 [] rfl rfl 0 (Nat.le_of_eq rfl) rfl (by decide) (by decide) (by decide) (by decide) at_161 ?_
        rintro T h16 v16 ⟨rfl, rfl⟩ X
        change Run _ _ _ _ _ _ _ _ [(.int (b2i ((0 : Int64) < eN)))]
        refine r_istore 166 X #[.val (.int xa), .val (.int xb), .val (.int xc), .val (.int xt), .val (.ref sa), .val (.ref sb), .val (.ref sc), .val (.ref out), .val (.ref rs), .val (.int (b2i ((0 : Int64) < (0 : Int64)))), .val (.int (b2i ((0 : Int64) < eN))), .val (.int dI), .val (.int nI), .val (.int (b2i ((0 : Int64) < eN)))] at_164 rfl ?_
        refine r_iload 168 X at_166 rfl ?_
        refine r_ifN 171 X at_168 ((if0 _ _).trans (teq (b2i_eq0 (by decide))).2) ?_
        refine r_iload 173 X at_171 rfl ?_
        refine r_ifN 176 X at_173 ((if0 _ _).trans (feq (b2i_ne0 hmid)).1) ?_
        refine r_iload 178 X at_176 rfl ?_
        refine r_iload 180 X at_178 rfl ?_
        refine r_iload 182 X at_180 rfl ?_
        have J190_17 : ∀ (T : State), Cx p l e room_1 s m #[(.int xa), (.int xb), (.int xc), (.int xt)] below meth c Z code maxLocals x.cls ret x.name n0 T h1 13 65589 → Run p e below m (Fin1 below s n0 (fun v h' => v = some (.int 1)) room_1.cells room_1.slots) T 190 #[.val (.int xa), .val (.int xb), .val (.int xc), .val (.int xt), .val (.ref sa), .val (.ref sb), .val (.ref sc), .val (.ref out), .val (.ref rs), .val (.int (b2i ((0 : Int64) < (0 : Int64)))), .val (.int (b2i ((0 : Int64) < eN))), .val (.int dI), .val (.int nI), .val (.int (b2i ((0 : Int64) < eN)))] [(.int (b2i (nI < dI))), (.int (b2i ((0 : Int64) < eN)))] := by
          intro T X
          have hnk : n = 0 := by have := (ltI hn (b := 1) rfl).mp h123_15; omega
          refine r_icmpN 193 X at_190 (teq (b2i_congr ((ltJ (show (0 : Int64).toInt = ((b 0 : Nat) : Int) by rw [hb0]; rfl) heN).trans (Int.ofNat_lt.trans ((bd_lt hbl (by omega)).trans (by rw [ltI hn hdI]; omega)))))).2 ?_
          refine r_iconst 194 X (1 : Int32) at_193 rfl ?_
          refine r_goto 198 X at_194 ?_
          refine r_retZ (z := (1 : Int32)) X at_198 rfl (by decide) (by decide) ?_
          exact rfl
        by_cases h182_18 : nI < dI
        · refine r_icmpN 185 X at_182 (tlt h182_18).2.1 ?_
          refine r_iconst 186 X (1 : Int32) at_185 rfl ?_
          refine r_goto 190 X at_186 ?_
          refine r_topI (x' := (b2i (nI < dI))) (by simp [b2i, h182_18]) ?_
          exact J190_17 _ X
        · refine r_icmpY 189 X at_182 (flt h182_18).2.1 ?_
          refine r_iconst 190 X (0 : Int32) at_189 rfl ?_
          refine r_topI (x' := (b2i (nI < dI))) (by simp [b2i, h182_18]) ?_
          exact J190_17 _ X
      · refine r_icmpN 126 X at_123 (flt h123_15).1 ?_
        refine r_aload 128 X at_126 rfl rfl ?_
        refine r_aload 130 X at_128 rfl rfl ?_
        have hkd0 : 0 < d := by have := mt (ltI hn (b := 1) rfl).mpr h123_15; omega
        refine r_virtual 133 X (st := []) (a := rs) (rmTk l Z a0 hw n0 _ X.sz out rs al blk od eN (0 : Int64) aN rN (b 0) (b 1) FN (fun _ => (0 : Int32)) (by omega) (by omega) (by omega) (by omega) (by omega)  (show (0 : Int64).toInt = ((b 0 : Nat) : Int) by rw [hb0]; rfl) (hTk 0 hkd0) hFN E_rs E_al E_blk F_rs_blocks F_rs_table F_rs_width F_rs_adding F_rs_end F_rs_explored F_rs_addingLength F_rs_size F_al_elementData F_al_size A_od A_blk A_out) E_rs (hw _ (List.mem_of_getElem? (i := 202) rfl)) (hw _ (List.mem_of_getElem? (i := 203) rfl)) (hw _ (List.mem_of_getElem? (i := 205) rfl)) (hw _ (List.mem_of_getElem? (i := 205) rfl)) (hw _ (List.mem_of_getElem? (i := 204) rfl)) (hw _ (List.mem_of_getElem? (i := 206) rfl)) (hw _ (List.mem_of_getElem? (i := 3) rfl)) (by decide) pd_26 [(.ref out)] rfl rfl 0 (Nat.le_of_eq rfl) rfl (by decide) (by decide) (by decide) (by decide) at_130 ?_
        rintro T h19 v19 ⟨rfl, K19, x1, go1, hx1, B19_F_rs_blocks, B19_F_rs_table, B19_F_rs_width, B19_F_rs_adding, B19_F_rs_end, B19_F_rs_explored, B19_F_rs_addingLength, B19_F_rs_size, B19_A_out⟩ X
        have K := K.trans K19 (allS (Or.inr sz_rs) (allS (Or.inr sz_out) all0))
        have E_rs := E_rs.keep K19
        have E_al := E_al.keep K19
        have E_blk := E_blk.keep K19
        have F_al_elementData := F_al_elementData.keep K19 (ninS (Ne.symm ne_rs_al) (ninS (Ne.symm ne_out_al) nin0))
        have F_al_size := F_al_size.keep K19 (ninS (Ne.symm ne_rs_al) (ninS (Ne.symm ne_out_al) nin0))
        have A_od := A_od.keep K19 (ninS (Ne.symm ne_rs_od) (ninS (Ne.symm ne_out_od) nin0))
        have A_blk := A_blk.keep K19 (ninS (Ne.symm ne_rs_blk) (ninS (Ne.symm ne_out_blk) nin0))
        have F_rs_blocks := B19_F_rs_blocks
        have F_rs_table := B19_F_rs_table
        have F_rs_width := B19_F_rs_width
        have F_rs_adding := B19_F_rs_adding
        have F_rs_end := B19_F_rs_end
        have F_rs_explored := B19_F_rs_explored
        have F_rs_addingLength := B19_F_rs_addingLength
        have F_rs_size := B19_F_rs_size
        have A_out := B19_A_out
        change Run _ _ _ _ _ _ _ _ []
        refine r_iload 135 X at_133 rfl ?_
        refine r_iconst 136 X (2 : Int32) at_135 rfl ?_
        by_cases h136_20 : nI < (2 : Int32)
        · refine r_icmpY 146 X at_136 (tlt h136_20).1 ?_
          refine r_iload 148 X at_146 rfl ?_
          refine r_iconst 149 X (3 : Int32) at_148 rfl ?_
          refine r_icmpY 159 X at_149 (tlt ((ltI hn (b := 3) rfl).mpr (by have := (ltI hn (b := 2) rfl).mp h136_20; omega))).1 ?_
          refine r_aload 161 X at_159 rfl rfl ?_
          refine r_virtual 164 X (st := []) (a := rs) (rmHu l Z a0 hw n0 _ X.sz rs eN x1   E_rs F_rs_explored F_rs_end) E_rs (hw _ (List.mem_of_getElem? (i := 78) rfl)) (hw _ (List.mem_of_getElem? (i := 79) rfl)) (hw _ (List.mem_of_getElem? (i := 81) rfl)) (hw _ (List.mem_of_getElem? (i := 81) rfl)) (hw _ (List.mem_of_getElem? (i := 80) rfl)) (hw _ (List.mem_of_getElem? (i := 82) rfl)) (hw _ (List.mem_of_getElem? (i := 3) rfl)) (by decide) pd_24 [] rfl rfl 0 (Nat.le_of_eq rfl) rfl (by decide) (by decide) (by decide) (by decide) at_161 ?_
          rintro T h21 v21 ⟨rfl, rfl⟩ X
          change Run _ _ _ _ _ _ _ _ [(.int (b2i (x1 < eN)))]
          refine r_istore 166 X #[.val (.int xa), .val (.int xb), .val (.int xc), .val (.int xt), .val (.ref sa), .val (.ref sb), .val (.ref sc), .val (.ref out), .val (.ref rs), .val (.int (b2i ((0 : Int64) < (0 : Int64)))), .val (.int (b2i ((0 : Int64) < eN))), .val (.int dI), .val (.int nI), .val (.int (b2i (x1 < eN)))] at_164 rfl ?_
          refine r_iload 168 X at_166 rfl ?_
          refine r_ifN 171 X at_168 ((if0 _ _).trans (teq (b2i_eq0 (by decide))).2) ?_
          refine r_iload 173 X at_171 rfl ?_
          refine r_ifN 176 X at_173 ((if0 _ _).trans (feq (b2i_ne0 hmid)).1) ?_
          refine r_iload 178 X at_176 rfl ?_
          refine r_iload 180 X at_178 rfl ?_
          refine r_iload 182 X at_180 rfl ?_
          have J190_22 : ∀ (T : State), Cx p l e room_1 s m #[(.int xa), (.int xb), (.int xc), (.int xt)] below meth c Z code maxLocals x.cls ret x.name n0 T h19 13 65589 → Run p e below m (Fin1 below s n0 (fun v h' => v = some (.int 1)) room_1.cells room_1.slots) T 190 #[.val (.int xa), .val (.int xb), .val (.int xc), .val (.int xt), .val (.ref sa), .val (.ref sb), .val (.ref sc), .val (.ref out), .val (.ref rs), .val (.int (b2i ((0 : Int64) < (0 : Int64)))), .val (.int (b2i ((0 : Int64) < eN))), .val (.int dI), .val (.int nI), .val (.int (b2i (x1 < eN)))] [(.int (b2i (nI < dI))), (.int (b2i (x1 < eN)))] := by
            intro T X
            have hnk : n = 1 := by have := mt (ltI hn (b := 1) rfl).mpr h123_15; have := (ltI hn (b := 2) rfl).mp h136_20; omega
            refine r_icmpN 193 X at_190 (teq (b2i_congr ((ltJ hx1 heN).trans (Int.ofNat_lt.trans ((bd_lt hbl (by omega)).trans (by rw [ltI hn hdI]; omega)))))).2 ?_
            refine r_iconst 194 X (1 : Int32) at_193 rfl ?_
            refine r_goto 198 X at_194 ?_
            refine r_retZ (z := (1 : Int32)) X at_198 rfl (by decide) (by decide) ?_
            exact rfl
          by_cases h182_23 : nI < dI
          · refine r_icmpN 185 X at_182 (tlt h182_23).2.1 ?_
            refine r_iconst 186 X (1 : Int32) at_185 rfl ?_
            refine r_goto 190 X at_186 ?_
            refine r_topI (x' := (b2i (nI < dI))) (by simp [b2i, h182_23]) ?_
            exact J190_22 _ X
          · refine r_icmpY 189 X at_182 (flt h182_23).2.1 ?_
            refine r_iconst 190 X (0 : Int32) at_189 rfl ?_
            refine r_topI (x' := (b2i (nI < dI))) (by simp [b2i, h182_23]) ?_
            exact J190_22 _ X
        · refine r_icmpN 139 X at_136 (flt h136_20).1 ?_
          refine r_aload 141 X at_139 rfl rfl ?_
          refine r_aload 143 X at_141 rfl rfl ?_
          have hkd1 : 1 < d := by have := mt (ltI hn (b := 2) rfl).mpr h136_20; omega
          refine r_virtual 146 X (st := []) (a := rs) (rmTk l Z a0 hw n0 _ X.sz out rs al blk od eN x1 aN rN (b 1) (b 2) FN go1 (by omega) (by omega) (by omega) (by omega) (by omega)  hx1 (hTk 1 hkd1) hFN E_rs E_al E_blk F_rs_blocks F_rs_table F_rs_width F_rs_adding F_rs_end F_rs_explored F_rs_addingLength F_rs_size F_al_elementData F_al_size A_od A_blk A_out) E_rs (hw _ (List.mem_of_getElem? (i := 202) rfl)) (hw _ (List.mem_of_getElem? (i := 203) rfl)) (hw _ (List.mem_of_getElem? (i := 205) rfl)) (hw _ (List.mem_of_getElem? (i := 205) rfl)) (hw _ (List.mem_of_getElem? (i := 204) rfl)) (hw _ (List.mem_of_getElem? (i := 206) rfl)) (hw _ (List.mem_of_getElem? (i := 3) rfl)) (by decide) pd_26 [(.ref out)] rfl rfl 0 (Nat.le_of_eq rfl) rfl (by decide) (by decide) (by decide) (by decide) at_143 ?_
          rintro T h24 v24 ⟨rfl, K24, x2, go2, hx2, B24_F_rs_blocks, B24_F_rs_table, B24_F_rs_width, B24_F_rs_adding, B24_F_rs_end, B24_F_rs_explored, B24_F_rs_addingLength, B24_F_rs_size, B24_A_out⟩ X
          have K := K.trans K24 (allS (Or.inr sz_rs) (allS (Or.inr sz_out) all0))
          have E_rs := E_rs.keep K24
          have E_al := E_al.keep K24
          have E_blk := E_blk.keep K24
          have F_al_elementData := F_al_elementData.keep K24 (ninS (Ne.symm ne_rs_al) (ninS (Ne.symm ne_out_al) nin0))
          have F_al_size := F_al_size.keep K24 (ninS (Ne.symm ne_rs_al) (ninS (Ne.symm ne_out_al) nin0))
          have A_od := A_od.keep K24 (ninS (Ne.symm ne_rs_od) (ninS (Ne.symm ne_out_od) nin0))
          have A_blk := A_blk.keep K24 (ninS (Ne.symm ne_rs_blk) (ninS (Ne.symm ne_out_blk) nin0))
          have F_rs_blocks := B24_F_rs_blocks
          have F_rs_table := B24_F_rs_table
          have F_rs_width := B24_F_rs_width
          have F_rs_adding := B24_F_rs_adding
          have F_rs_end := B24_F_rs_end
          have F_rs_explored := B24_F_rs_explored
          have F_rs_addingLength := B24_F_rs_addingLength
          have F_rs_size := B24_F_rs_size
          have A_out := B24_A_out
          change Run _ _ _ _ _ _ _ _ []
          refine r_iload 148 X at_146 rfl ?_
          refine r_iconst 149 X (3 : Int32) at_148 rfl ?_
          by_cases h149_25 : nI < (3 : Int32)
          · refine r_icmpY 159 X at_149 (tlt h149_25).1 ?_
            refine r_aload 161 X at_159 rfl rfl ?_
            refine r_virtual 164 X (st := []) (a := rs) (rmHu l Z a0 hw n0 _ X.sz rs eN x2   E_rs F_rs_explored F_rs_end) E_rs (hw _ (List.mem_of_getElem? (i := 78) rfl)) (hw _ (List.mem_of_getElem? (i := 79) rfl)) (hw _ (List.mem_of_getElem? (i := 81) rfl)) (hw _ (List.mem_of_getElem? (i := 81) rfl)) (hw _ (List.mem_of_getElem? (i := 80) rfl)) (hw _ (List.mem_of_getElem? (i := 82) rfl)) (hw _ (List.mem_of_getElem? (i := 3) rfl)) (by decide) pd_24 [] rfl rfl 0 (Nat.le_of_eq rfl) rfl (by decide) (by decide) (by decide) (by decide) at_161 ?_
            rintro T h26 v26 ⟨rfl, rfl⟩ X
            change Run _ _ _ _ _ _ _ _ [(.int (b2i (x2 < eN)))]
            refine r_istore 166 X #[.val (.int xa), .val (.int xb), .val (.int xc), .val (.int xt), .val (.ref sa), .val (.ref sb), .val (.ref sc), .val (.ref out), .val (.ref rs), .val (.int (b2i ((0 : Int64) < (0 : Int64)))), .val (.int (b2i ((0 : Int64) < eN))), .val (.int dI), .val (.int nI), .val (.int (b2i (x2 < eN)))] at_164 rfl ?_
            refine r_iload 168 X at_166 rfl ?_
            refine r_ifN 171 X at_168 ((if0 _ _).trans (teq (b2i_eq0 (by decide))).2) ?_
            refine r_iload 173 X at_171 rfl ?_
            refine r_ifN 176 X at_173 ((if0 _ _).trans (feq (b2i_ne0 hmid)).1) ?_
            refine r_iload 178 X at_176 rfl ?_
            refine r_iload 180 X at_178 rfl ?_
            refine r_iload 182 X at_180 rfl ?_
            have J190_27 : ∀ (T : State), Cx p l e room_1 s m #[(.int xa), (.int xb), (.int xc), (.int xt)] below meth c Z code maxLocals x.cls ret x.name n0 T h24 13 65589 → Run p e below m (Fin1 below s n0 (fun v h' => v = some (.int 1)) room_1.cells room_1.slots) T 190 #[.val (.int xa), .val (.int xb), .val (.int xc), .val (.int xt), .val (.ref sa), .val (.ref sb), .val (.ref sc), .val (.ref out), .val (.ref rs), .val (.int (b2i ((0 : Int64) < (0 : Int64)))), .val (.int (b2i ((0 : Int64) < eN))), .val (.int dI), .val (.int nI), .val (.int (b2i (x2 < eN)))] [(.int (b2i (nI < dI))), (.int (b2i (x2 < eN)))] := by
              intro T X
              have hnk : n = 2 := by have := mt (ltI hn (b := 1) rfl).mpr h123_15; have := mt (ltI hn (b := 2) rfl).mpr h136_20; have := (ltI hn (b := 3) rfl).mp h149_25; omega
              refine r_icmpN 193 X at_190 (teq (b2i_congr ((ltJ hx2 heN).trans (Int.ofNat_lt.trans ((bd_lt hbl (by omega)).trans (by rw [ltI hn hdI]; omega)))))).2 ?_
              refine r_iconst 194 X (1 : Int32) at_193 rfl ?_
              refine r_goto 198 X at_194 ?_
              refine r_retZ (z := (1 : Int32)) X at_198 rfl (by decide) (by decide) ?_
              exact rfl
            by_cases h182_28 : nI < dI
            · refine r_icmpN 185 X at_182 (tlt h182_28).2.1 ?_
              refine r_iconst 186 X (1 : Int32) at_185 rfl ?_
              refine r_goto 190 X at_186 ?_
              refine r_topI (x' := (b2i (nI < dI))) (by simp [b2i, h182_28]) ?_
              exact J190_27 _ X
            · refine r_icmpY 189 X at_182 (flt h182_28).2.1 ?_
              refine r_iconst 190 X (0 : Int32) at_189 rfl ?_
              refine r_topI (x' := (b2i (nI < dI))) (by simp [b2i, h182_28]) ?_
              exact J190_27 _ X
          · refine r_icmpN 152 X at_149 (flt h149_25).1 ?_
            refine r_aload 154 X at_152 rfl rfl ?_
            refine r_aload 156 X at_154 rfl rfl ?_
            have hkd2 : 2 < d := by have := mt (ltI hn (b := 3) rfl).mpr h149_25; omega
            refine r_virtual 159 X (st := []) (a := rs) (rmTk l Z a0 hw n0 _ X.sz out rs al blk od eN x2 aN rN (b 2) (b 3) FN go2 (by omega) (by omega) (by omega) (by omega) (by omega)  hx2 (hTk 2 hkd2) hFN E_rs E_al E_blk F_rs_blocks F_rs_table F_rs_width F_rs_adding F_rs_end F_rs_explored F_rs_addingLength F_rs_size F_al_elementData F_al_size A_od A_blk A_out) E_rs (hw _ (List.mem_of_getElem? (i := 202) rfl)) (hw _ (List.mem_of_getElem? (i := 203) rfl)) (hw _ (List.mem_of_getElem? (i := 205) rfl)) (hw _ (List.mem_of_getElem? (i := 205) rfl)) (hw _ (List.mem_of_getElem? (i := 204) rfl)) (hw _ (List.mem_of_getElem? (i := 206) rfl)) (hw _ (List.mem_of_getElem? (i := 3) rfl)) (by decide) pd_26 [(.ref out)] rfl rfl 0 (Nat.le_of_eq rfl) rfl (by decide) (by decide) (by decide) (by decide) at_156 ?_
            rintro T h29 v29 ⟨rfl, K29, x3, go3, hx3, B29_F_rs_blocks, B29_F_rs_table, B29_F_rs_width, B29_F_rs_adding, B29_F_rs_end, B29_F_rs_explored, B29_F_rs_addingLength, B29_F_rs_size, B29_A_out⟩ X
            have K := K.trans K29 (allS (Or.inr sz_rs) (allS (Or.inr sz_out) all0))
            have E_rs := E_rs.keep K29
            have E_al := E_al.keep K29
            have E_blk := E_blk.keep K29
            have F_al_elementData := F_al_elementData.keep K29 (ninS (Ne.symm ne_rs_al) (ninS (Ne.symm ne_out_al) nin0))
            have F_al_size := F_al_size.keep K29 (ninS (Ne.symm ne_rs_al) (ninS (Ne.symm ne_out_al) nin0))
            have A_od := A_od.keep K29 (ninS (Ne.symm ne_rs_od) (ninS (Ne.symm ne_out_od) nin0))
            have A_blk := A_blk.keep K29 (ninS (Ne.symm ne_rs_blk) (ninS (Ne.symm ne_out_blk) nin0))
            have F_rs_blocks := B29_F_rs_blocks
            have F_rs_table := B29_F_rs_table
            have F_rs_width := B29_F_rs_width
            have F_rs_adding := B29_F_rs_adding
            have F_rs_end := B29_F_rs_end
            have F_rs_explored := B29_F_rs_explored
            have F_rs_addingLength := B29_F_rs_addingLength
            have F_rs_size := B29_F_rs_size
            have A_out := B29_A_out
            change Run _ _ _ _ _ _ _ _ []
            refine r_aload 161 X at_159 rfl rfl ?_
            refine r_virtual 164 X (st := []) (a := rs) (rmHu l Z a0 hw n0 _ X.sz rs eN x3   E_rs F_rs_explored F_rs_end) E_rs (hw _ (List.mem_of_getElem? (i := 78) rfl)) (hw _ (List.mem_of_getElem? (i := 79) rfl)) (hw _ (List.mem_of_getElem? (i := 81) rfl)) (hw _ (List.mem_of_getElem? (i := 81) rfl)) (hw _ (List.mem_of_getElem? (i := 80) rfl)) (hw _ (List.mem_of_getElem? (i := 82) rfl)) (hw _ (List.mem_of_getElem? (i := 3) rfl)) (by decide) pd_24 [] rfl rfl 0 (Nat.le_of_eq rfl) rfl (by decide) (by decide) (by decide) (by decide) at_161 ?_
            rintro T h30 v30 ⟨rfl, rfl⟩ X
            change Run _ _ _ _ _ _ _ _ [(.int (b2i (x3 < eN)))]
            refine r_istore 166 X #[.val (.int xa), .val (.int xb), .val (.int xc), .val (.int xt), .val (.ref sa), .val (.ref sb), .val (.ref sc), .val (.ref out), .val (.ref rs), .val (.int (b2i ((0 : Int64) < (0 : Int64)))), .val (.int (b2i ((0 : Int64) < eN))), .val (.int dI), .val (.int nI), .val (.int (b2i (x3 < eN)))] at_164 rfl ?_
            refine r_iload 168 X at_166 rfl ?_
            refine r_ifN 171 X at_168 ((if0 _ _).trans (teq (b2i_eq0 (by decide))).2) ?_
            refine r_iload 173 X at_171 rfl ?_
            refine r_ifN 176 X at_173 ((if0 _ _).trans (feq (b2i_ne0 hmid)).1) ?_
            refine r_iload 178 X at_176 rfl ?_
            refine r_iload 180 X at_178 rfl ?_
            refine r_iload 182 X at_180 rfl ?_
            have J190_31 : ∀ (T : State), Cx p l e room_1 s m #[(.int xa), (.int xb), (.int xc), (.int xt)] below meth c Z code maxLocals x.cls ret x.name n0 T h29 13 65589 → Run p e below m (Fin1 below s n0 (fun v h' => v = some (.int 1)) room_1.cells room_1.slots) T 190 #[.val (.int xa), .val (.int xb), .val (.int xc), .val (.int xt), .val (.ref sa), .val (.ref sb), .val (.ref sc), .val (.ref out), .val (.ref rs), .val (.int (b2i ((0 : Int64) < (0 : Int64)))), .val (.int (b2i ((0 : Int64) < eN))), .val (.int dI), .val (.int nI), .val (.int (b2i (x3 < eN)))] [(.int (b2i (nI < dI))), (.int (b2i (x3 < eN)))] := by
              intro T X
              have hnk : n = 3 := by have := mt (ltI hn (b := 1) rfl).mpr h123_15; have := mt (ltI hn (b := 2) rfl).mpr h136_20; have := mt (ltI hn (b := 3) rfl).mpr h149_25; omega
              refine r_icmpN 193 X at_190 (teq (b2i_congr ((ltJ hx3 heN).trans (Int.ofNat_lt.trans ((bd_lt hbl (by omega)).trans (by rw [ltI hn hdI]; omega)))))).2 ?_
              refine r_iconst 194 X (1 : Int32) at_193 rfl ?_
              refine r_goto 198 X at_194 ?_
              refine r_retZ (z := (1 : Int32)) X at_198 rfl (by decide) (by decide) ?_
              exact rfl
            by_cases h182_32 : nI < dI
            · refine r_icmpN 185 X at_182 (tlt h182_32).2.1 ?_
              refine r_iconst 186 X (1 : Int32) at_185 rfl ?_
              refine r_goto 190 X at_186 ?_
              refine r_topI (x' := (b2i (nI < dI))) (by simp [b2i, h182_32]) ?_
              exact J190_31 _ X
            · refine r_icmpY 189 X at_182 (flt h182_32).2.1 ?_
              refine r_iconst 190 X (0 : Int32) at_189 rfl ?_
              refine r_topI (x' := (b2i (nI < dI))) (by simp [b2i, h182_32]) ?_
              exact J190_31 _ X
    refine r_iconst 81 X (1 : Int32) at_80 rfl ?_
    refine r_iloadN 82 X at_81 rfl ?_
    refine r_iloadN 83 X at_82 rfl ?_
    by_cases h83_33 : xb = xa
    · refine r_icmpY 90 X at_83 (teq h83_33).1 ?_
      refine r_iconst 91 X (0 : Int32) at_90 rfl ?_
      refine r_iadd 92 X at_91 ?_
      refine r_topI (x' := (1 : Int32)) (by decide) ?_
      refine r_iloadN 93 X at_92 rfl ?_
      refine r_iloadN 94 X at_93 rfl ?_
      by_cases h94_34 : xc = xa
      · refine r_icmpY 106 X at_94 (teq h94_34).1 ?_
        refine r_iconst 107 X (0 : Int32) at_106 rfl ?_
        refine r_iadd 108 X at_107 ?_
        refine r_topI (x' := (1 : Int32)) (by decide) ?_
        exact J108 _ _ (by rw [hD, if_pos h83_33, if_pos (Or.inl h94_34)] <;> rfl) X
      · refine r_icmpN 97 X at_94 (feq h94_34).1 ?_
        refine r_iloadN 98 X at_97 rfl ?_
        refine r_iloadN 99 X at_98 rfl ?_
        by_cases h99_35 : xc = xb
        · refine r_icmpY 106 X at_99 (teq h99_35).1 ?_
          refine r_iconst 107 X (0 : Int32) at_106 rfl ?_
          refine r_iadd 108 X at_107 ?_
          refine r_topI (x' := (1 : Int32)) (by decide) ?_
          exact J108 _ _ (by rw [hD, if_pos h83_33, if_pos (Or.inr h99_35)] <;> rfl) X
        · refine r_icmpN 102 X at_99 (feq h99_35).1 ?_
          refine r_iconst 103 X (1 : Int32) at_102 rfl ?_
          refine r_goto 107 X at_103 ?_
          refine r_iadd 108 X at_107 ?_
          refine r_topI (x' := (2 : Int32)) (by decide) ?_
          exact J108 _ _ (by rw [hD, if_pos h83_33, if_neg (fun z => z.elim h94_34 h99_35)] <;> rfl) X
    · refine r_icmpN 86 X at_83 (feq h83_33).1 ?_
      refine r_iconst 87 X (1 : Int32) at_86 rfl ?_
      refine r_goto 91 X at_87 ?_
      refine r_iadd 92 X at_91 ?_
      refine r_topI (x' := (2 : Int32)) (by decide) ?_
      refine r_iloadN 93 X at_92 rfl ?_
      refine r_iloadN 94 X at_93 rfl ?_
      by_cases h94_36 : xc = xa
      · refine r_icmpY 106 X at_94 (teq h94_36).1 ?_
        refine r_iconst 107 X (0 : Int32) at_106 rfl ?_
        refine r_iadd 108 X at_107 ?_
        refine r_topI (x' := (2 : Int32)) (by decide) ?_
        exact J108 _ _ (by rw [hD, if_neg h83_33, if_pos (Or.inl h94_36)] <;> rfl) X
      · refine r_icmpN 97 X at_94 (feq h94_36).1 ?_
        refine r_iloadN 98 X at_97 rfl ?_
        refine r_iloadN 99 X at_98 rfl ?_
        by_cases h99_37 : xc = xb
        · refine r_icmpY 106 X at_99 (teq h99_37).1 ?_
          refine r_iconst 107 X (0 : Int32) at_106 rfl ?_
          refine r_iadd 108 X at_107 ?_
          refine r_topI (x' := (2 : Int32)) (by decide) ?_
          exact J108 _ _ (by rw [hD, if_neg h83_33, if_pos (Or.inr h99_37)] <;> rfl) X
        · refine r_icmpN 102 X at_99 (feq h99_37).1 ?_
          refine r_iconst 103 X (1 : Int32) at_102 rfl ?_
          refine r_goto 107 X at_103 ?_
          refine r_iadd 108 X at_107 ?_
          refine r_topI (x' := (3 : Int32)) (by decide) ?_
          exact J108 _ _ (by rw [hD, if_neg h83_33, if_neg (fun z => z.elim h94_36 h99_37)] <;> rfl) X
  refine r_pop 57 X at_56 rfl ?_
  refine r_aload 59 X at_57 rfl rfl ?_
  refine r_aload 61 X at_59 rfl rfl ?_
  have hmb := hm_ok (hsh xb)
  by_cases hba : xb = xa
  ·
    refine r_virtual 64 X (st := []) (a := rs) (rmDH l Z a0 hw n0 _ X.sz sb rs al tb st pl ad blk od e0 (0 : Int64) ai0 ((0 : Int32) + (1 : Int32)) xb ((0 : Int32) + (1 : Int32)) (0 + encL xa) 1 ga0 (P1 (hmN (hsh xa)) (hsh xa)) (apF (fun _ => (0 : Int32)) 0 xa) 0 (0 : Int64) 0 (by omega) (by omega) (by omega) (by omega) (by omega) (by omega) (by omega) (by omega) (by omega)  he0 (by omega) rfl (by decide) hg0 (by rw [hba]; exact t1_hit hma.2 hE0) (fun z => by have q := congrArg Int64.toInt z; rw [he0, z64] at q; omega) E_rs E_al E_tb E_st E_pl E_ad F_rs_blocks F_rs_table F_rs_width F_rs_adding F_rs_end F_rs_explored F_rs_addingLength F_rs_size F_tb_places F_tb_shift F_tb_items F_tb_size F_st_this_0 A_pl A_ad A_sb E_blk F_al_elementData F_al_size A_od A_blk) E_rs (hw _ (List.mem_of_getElem? (i := 87) rfl)) (hw _ (List.mem_of_getElem? (i := 88) rfl)) (hw _ (List.mem_of_getElem? (i := 90) rfl)) (hw _ (List.mem_of_getElem? (i := 90) rfl)) (hw _ (List.mem_of_getElem? (i := 89) rfl)) (hw _ (List.mem_of_getElem? (i := 91) rfl)) (hw _ (List.mem_of_getElem? (i := 3) rfl)) (by decide) pd_25 [(.ref sb)] rfl rfl 0 (Nat.le_of_eq rfl) rfl (by decide) (by decide) (by decide) (by decide) at_61 ?_
    rintro T h38 v38 ⟨rfl, K38, ai1, ga1, hg1, B38_F_rs_blocks, B38_F_rs_table, B38_F_rs_width, B38_F_rs_adding, B38_F_rs_end, B38_F_rs_explored, B38_F_rs_addingLength, B38_F_rs_size, B38_A_ad⟩ X
    have K := K.trans K38 (allS (Or.inr sz_ad) (allS (Or.inr sz_rs) all0))
    have S_DEFAULTCAPACITY_EMPTY_ELEMENTDATA := own_stakL S_DEFAULTCAPACITY_EMPTY_ELEMENTDATA K38 (staS E_ad (staS E_rs sta0))
    have A_em := A_em.keep K38 (ninS ne_em_ad (ninS ne_em_rs nin0))
    have A_sa := A_sa.keep K38 (ninS ne_sa_ad (ninS ne_sa_rs nin0))
    have A_sb := A_sb.keep K38 (ninS ne_sb_ad (ninS ne_sb_rs nin0))
    have A_sc := A_sc.keep K38 (ninS ne_sc_ad (ninS ne_sc_rs nin0))
    have A_out := A_out.keep K38 (ninS ne_out_ad (ninS ne_out_rs nin0))
    have E_rs := E_rs.keep K38
    have E_al := E_al.keep K38
    have E_tb := E_tb.keep K38
    have E_st := E_st.keep K38
    have E_pl := E_pl.keep K38
    have E_ad := E_ad.keep K38
    have F_st_this_0 := F_st_this_0.keep K38 (ninS ne_st_ad (ninS (Ne.symm ne_rs_st) nin0))
    have E_blk := E_blk.keep K38
    have F_tb_places := F_tb_places.keep K38 (ninS ne_tb_ad (ninS (Ne.symm ne_rs_tb) nin0))
    have F_tb_shift := F_tb_shift.keep K38 (ninS ne_tb_ad (ninS (Ne.symm ne_rs_tb) nin0))
    have F_tb_items := F_tb_items.keep K38 (ninS ne_tb_ad (ninS (Ne.symm ne_rs_tb) nin0))
    have F_tb_size := F_tb_size.keep K38 (ninS ne_tb_ad (ninS (Ne.symm ne_rs_tb) nin0))
    have F_al_elementData := F_al_elementData.keep K38 (ninS ne_al_ad (ninS (Ne.symm ne_rs_al) nin0))
    have F_al_size := F_al_size.keep K38 (ninS ne_al_ad (ninS (Ne.symm ne_rs_al) nin0))
    have A_od := A_od.keep K38 (ninS (Ne.symm ne_ad_od) (ninS (Ne.symm ne_rs_od) nin0))
    have A_pl := A_pl.keep K38 (ninS ne_pl_ad (ninS (Ne.symm ne_rs_pl) nin0))
    have A_blk := A_blk.keep K38 (ninS (Ne.symm ne_ad_blk) (ninS (Ne.symm ne_rs_blk) nin0))
    have F_rs_blocks := B38_F_rs_blocks
    have F_rs_table := B38_F_rs_table
    have F_rs_width := B38_F_rs_width
    have F_rs_adding := B38_F_rs_adding
    have F_rs_end := B38_F_rs_end
    have F_rs_explored := B38_F_rs_explored
    have F_rs_addingLength := B38_F_rs_addingLength
    have F_rs_size := B38_F_rs_size
    have A_ad := B38_A_ad
    change Run _ _ _ _ _ _ _ _ [(.int (0 : Int32))]
    refine r_pop 65 X at_64 rfl ?_
    refine r_aload 67 X at_65 rfl rfl ?_
    refine r_aload 69 X at_67 rfl rfl ?_
    have hmc := hm_ok (hsh xc)
    by_cases hca : xc = xa
    ·
      refine r_virtual 72 X (st := []) (a := rs) (rmDH l Z a0 hw n0 _ X.sz sc rs al tb st pl ad blk od e0 (0 : Int64) ai1 ((0 : Int32) + (1 : Int32)) xc ((0 : Int32) + (1 : Int32)) (0 + encL xa) 1 ga1 (P1 (hmN (hsh xa)) (hsh xa)) (apF (fun _ => (0 : Int32)) 0 xa) 0 (0 : Int64) 0 (by omega) (by omega) (by omega) (by omega) (by omega) (by omega) (by omega) (by omega) (by omega)  he0 (by omega) rfl (by decide) hg1 (by rw [hca]; exact t1_hit hma.2 hE0) (fun z => by have q := congrArg Int64.toInt z; rw [he0, z64] at q; omega) E_rs E_al E_tb E_st E_pl E_ad F_rs_blocks F_rs_table F_rs_width F_rs_adding F_rs_end F_rs_explored F_rs_addingLength F_rs_size F_tb_places F_tb_shift F_tb_items F_tb_size F_st_this_0 A_pl A_ad A_sc E_blk F_al_elementData F_al_size A_od A_blk) E_rs (hw _ (List.mem_of_getElem? (i := 87) rfl)) (hw _ (List.mem_of_getElem? (i := 88) rfl)) (hw _ (List.mem_of_getElem? (i := 90) rfl)) (hw _ (List.mem_of_getElem? (i := 90) rfl)) (hw _ (List.mem_of_getElem? (i := 89) rfl)) (hw _ (List.mem_of_getElem? (i := 91) rfl)) (hw _ (List.mem_of_getElem? (i := 3) rfl)) (by decide) pd_25 [(.ref sc)] rfl rfl 0 (Nat.le_of_eq rfl) rfl (by decide) (by decide) (by decide) (by decide) at_69 ?_
      rintro T h39 v39 ⟨rfl, K39, ai2, ga2, hg2, B39_F_rs_blocks, B39_F_rs_table, B39_F_rs_width, B39_F_rs_adding, B39_F_rs_end, B39_F_rs_explored, B39_F_rs_addingLength, B39_F_rs_size, B39_A_ad⟩ X
      have K := K.trans K39 (allS (Or.inr sz_ad) (allS (Or.inr sz_rs) all0))
      have S_DEFAULTCAPACITY_EMPTY_ELEMENTDATA := own_stakL S_DEFAULTCAPACITY_EMPTY_ELEMENTDATA K39 (staS E_ad (staS E_rs sta0))
      have A_em := A_em.keep K39 (ninS ne_em_ad (ninS ne_em_rs nin0))
      have A_sa := A_sa.keep K39 (ninS ne_sa_ad (ninS ne_sa_rs nin0))
      have A_sb := A_sb.keep K39 (ninS ne_sb_ad (ninS ne_sb_rs nin0))
      have A_sc := A_sc.keep K39 (ninS ne_sc_ad (ninS ne_sc_rs nin0))
      have A_out := A_out.keep K39 (ninS ne_out_ad (ninS ne_out_rs nin0))
      have E_rs := E_rs.keep K39
      have E_al := E_al.keep K39
      have E_tb := E_tb.keep K39
      have E_st := E_st.keep K39
      have E_pl := E_pl.keep K39
      have E_ad := E_ad.keep K39
      have F_st_this_0 := F_st_this_0.keep K39 (ninS ne_st_ad (ninS (Ne.symm ne_rs_st) nin0))
      have E_blk := E_blk.keep K39
      have F_tb_places := F_tb_places.keep K39 (ninS ne_tb_ad (ninS (Ne.symm ne_rs_tb) nin0))
      have F_tb_shift := F_tb_shift.keep K39 (ninS ne_tb_ad (ninS (Ne.symm ne_rs_tb) nin0))
      have F_tb_items := F_tb_items.keep K39 (ninS ne_tb_ad (ninS (Ne.symm ne_rs_tb) nin0))
      have F_tb_size := F_tb_size.keep K39 (ninS ne_tb_ad (ninS (Ne.symm ne_rs_tb) nin0))
      have F_al_elementData := F_al_elementData.keep K39 (ninS ne_al_ad (ninS (Ne.symm ne_rs_al) nin0))
      have F_al_size := F_al_size.keep K39 (ninS ne_al_ad (ninS (Ne.symm ne_rs_al) nin0))
      have A_od := A_od.keep K39 (ninS (Ne.symm ne_ad_od) (ninS (Ne.symm ne_rs_od) nin0))
      have A_pl := A_pl.keep K39 (ninS ne_pl_ad (ninS (Ne.symm ne_rs_pl) nin0))
      have A_blk := A_blk.keep K39 (ninS (Ne.symm ne_ad_blk) (ninS (Ne.symm ne_rs_blk) nin0))
      have F_rs_blocks := B39_F_rs_blocks
      have F_rs_table := B39_F_rs_table
      have F_rs_width := B39_F_rs_width
      have F_rs_adding := B39_F_rs_adding
      have F_rs_end := B39_F_rs_end
      have F_rs_explored := B39_F_rs_explored
      have F_rs_addingLength := B39_F_rs_addingLength
      have F_rs_size := B39_F_rs_size
      have A_ad := B39_A_ad
      change Run _ _ _ _ _ _ _ _ [(.int (0 : Int32))]
      refine r_pop 73 X at_72 rfl ?_
      have hlc := encL_r xc
      have tk0 : Tk (apF (fun _ => (0 : Int32)) 0 xa) 0 (0 + encL xa) := tk_enc hE0 (by omega)
      have hD : 1 = 1 + (if xb = xa then 0 else 1) + (if xc = xa ∨ xc = xb then 0 else 1) := by simp [hba, hca]
      exact J73 _ _ _ _ _ (apF (fun _ => (0 : Int32)) 0 xa) 1 (fun i => if i = 0 then 0 else (0 + encL xa)) rfl hD (by decide) he0 (fun i hi => match i, hi with | 0, _ => tk0 | _ + 1, hi => absurd hi (by omega)) hF1 K E_rs E_al E_blk F_rs_blocks F_rs_table F_rs_width F_rs_adding F_rs_end F_rs_explored F_rs_addingLength F_rs_size F_al_elementData F_al_size A_od A_blk A_out X
    ·
      obtain ⟨j2, hj2, hPs2, hz2, hjj2⟩ := t1_free (qa := hsh xa) hma.2 hmc.2 hE0 hca
      refine r_virtual 72 X (st := []) (a := rs) (rmDF l Z a0 hw n0 _ X.sz sc rs al tb st pl ad blk od e0 (0 : Int64) ai1 ((0 : Int32) + (1 : Int32)) xc ((0 : Int32) + (1 : Int32)) (0 + encL xa) 1 ga1 (P1 (hmN (hsh xa)) (hsh xa)) (apF (fun _ => (0 : Int32)) 0 xa) j2 (by omega) (by omega) (by omega) (by omega) (by omega) (by omega) (by omega) (by omega) (by omega)  he0 (by omega) rfl (by decide) hg1 hF1 hz2 hPs2 E_rs E_al E_tb E_st E_pl E_ad F_rs_blocks F_rs_table F_rs_width F_rs_adding F_rs_end F_rs_explored F_rs_addingLength F_rs_size F_tb_places F_tb_shift F_tb_items F_tb_size F_st_this_0 A_pl A_ad A_sc E_blk F_al_elementData F_al_size A_od A_blk) E_rs (hw _ (List.mem_of_getElem? (i := 87) rfl)) (hw _ (List.mem_of_getElem? (i := 88) rfl)) (hw _ (List.mem_of_getElem? (i := 90) rfl)) (hw _ (List.mem_of_getElem? (i := 90) rfl)) (hw _ (List.mem_of_getElem? (i := 89) rfl)) (hw _ (List.mem_of_getElem? (i := 91) rfl)) (hw _ (List.mem_of_getElem? (i := 3) rfl)) (by decide) pd_25 [(.ref sc)] rfl rfl 0 (Nat.le_of_eq rfl) rfl (by decide) (by decide) (by decide) (by decide) at_69 ?_
      rintro T h40 v40 ⟨rfl, K40, e2, ai2, ga2, he2, hg2, B40_F_rs_blocks, B40_F_rs_table, B40_F_rs_width, B40_F_rs_adding, B40_F_rs_end, B40_F_rs_explored, B40_F_rs_addingLength, B40_F_rs_size, B40_F_tb_places, B40_F_tb_shift, B40_F_tb_items, B40_F_tb_size, B40_A_pl, B40_A_ad, B40_A_blk⟩ X
      have K := K.trans K40 (allS (Or.inr sz_ad) (allS (Or.inr sz_rs) (allS (Or.inr sz_pl) (allS (Or.inr sz_tb) (allS (Or.inr sz_blk) all0)))))
      have S_DEFAULTCAPACITY_EMPTY_ELEMENTDATA := own_stakL S_DEFAULTCAPACITY_EMPTY_ELEMENTDATA K40 (staS E_ad (staS E_rs (staS E_pl (staS E_tb (staS E_blk sta0)))))
      have A_em := A_em.keep K40 (ninS ne_em_ad (ninS ne_em_rs (ninS ne_em_pl (ninS ne_em_tb (ninS ne_em_blk nin0)))))
      have A_sa := A_sa.keep K40 (ninS ne_sa_ad (ninS ne_sa_rs (ninS ne_sa_pl (ninS ne_sa_tb (ninS ne_sa_blk nin0)))))
      have A_sb := A_sb.keep K40 (ninS ne_sb_ad (ninS ne_sb_rs (ninS ne_sb_pl (ninS ne_sb_tb (ninS ne_sb_blk nin0)))))
      have A_sc := A_sc.keep K40 (ninS ne_sc_ad (ninS ne_sc_rs (ninS ne_sc_pl (ninS ne_sc_tb (ninS ne_sc_blk nin0)))))
      have A_out := A_out.keep K40 (ninS ne_out_ad (ninS ne_out_rs (ninS ne_out_pl (ninS ne_out_tb (ninS ne_out_blk nin0)))))
      have E_rs := E_rs.keep K40
      have E_al := E_al.keep K40
      have E_tb := E_tb.keep K40
      have E_st := E_st.keep K40
      have E_pl := E_pl.keep K40
      have E_ad := E_ad.keep K40
      have F_st_this_0 := F_st_this_0.keep K40 (ninS ne_st_ad (ninS (Ne.symm ne_rs_st) (ninS ne_st_pl (ninS (Ne.symm ne_tb_st) (ninS ne_st_blk nin0)))))
      have E_blk := E_blk.keep K40
      have F_al_elementData := F_al_elementData.keep K40 (ninS ne_al_ad (ninS (Ne.symm ne_rs_al) (ninS ne_al_pl (ninS ne_al_tb (ninS ne_al_blk nin0)))))
      have F_al_size := F_al_size.keep K40 (ninS ne_al_ad (ninS (Ne.symm ne_rs_al) (ninS ne_al_pl (ninS ne_al_tb (ninS ne_al_blk nin0)))))
      have A_od := A_od.keep K40 (ninS (Ne.symm ne_ad_od) (ninS (Ne.symm ne_rs_od) (ninS (Ne.symm ne_pl_od) (ninS (Ne.symm ne_tb_od) (ninS (Ne.symm ne_blk_od) nin0)))))
      have F_rs_blocks := B40_F_rs_blocks
      have F_rs_table := B40_F_rs_table
      have F_rs_width := B40_F_rs_width
      have F_rs_adding := B40_F_rs_adding
      have F_rs_end := B40_F_rs_end
      have F_rs_explored := B40_F_rs_explored
      have F_rs_addingLength := B40_F_rs_addingLength
      have F_rs_size := B40_F_rs_size
      have F_tb_places := B40_F_tb_places
      have F_tb_shift := B40_F_tb_shift
      have F_tb_items := B40_F_tb_items
      have F_tb_size := B40_F_tb_size
      have A_pl := B40_A_pl
      have A_ad := B40_A_ad
      have A_blk := B40_A_blk
      change Run _ _ _ _ _ _ _ _ [(.int (1 : Int32))]
      refine r_pop 73 X at_72 rfl ?_
      have hlc := encL_r xc
      have tk0 : Tk (apF (apF (fun _ => (0 : Int32)) 0 xa) (0 + encL xa) xc) 0 (0 + encL xa) := tk_enc (enc_keep hE0 (by omega)) (by omega)
      have tk1 : Tk (apF (apF (fun _ => (0 : Int32)) 0 xa) (0 + encL xa) xc) (0 + encL xa) ((0 + encL xa) + encL xc) := tk_enc (enc_ap _ _ _) (by omega)
      have hD : 2 = 1 + (if xb = xa then 0 else 1) + (if xc = xa ∨ xc = xb then 0 else 1) := by simp [hba, hca]
      exact J73 _ _ _ _ _ (apF (apF (fun _ => (0 : Int32)) 0 xa) (0 + encL xa) xc) 2 (fun i => if i = 0 then 0 else if i = 1 then (0 + encL xa) else ((0 + encL xa) + encL xc)) rfl hD (by decide) he2 (fun i hi => match i, hi with | 0, _ => tk0 | 1, _ => tk1 | _ + 2, hi => absurd hi (by omega)) (FB_ap hF1 _ _) K E_rs E_al E_blk F_rs_blocks F_rs_table F_rs_width F_rs_adding F_rs_end F_rs_explored F_rs_addingLength F_rs_size F_al_elementData F_al_size A_od A_blk A_out X
  ·
    obtain ⟨j1, hj1, hPs1, hz1, hjj1⟩ := t1_free (qa := hsh xa) hma.2 hmb.2 hE0 hba
    refine r_virtual 64 X (st := []) (a := rs) (rmDF l Z a0 hw n0 _ X.sz sb rs al tb st pl ad blk od e0 (0 : Int64) ai0 ((0 : Int32) + (1 : Int32)) xb ((0 : Int32) + (1 : Int32)) (0 + encL xa) 1 ga0 (P1 (hmN (hsh xa)) (hsh xa)) (apF (fun _ => (0 : Int32)) 0 xa) j1 (by omega) (by omega) (by omega) (by omega) (by omega) (by omega) (by omega) (by omega) (by omega)  he0 (by omega) rfl (by decide) hg0 hF1 hz1 hPs1 E_rs E_al E_tb E_st E_pl E_ad F_rs_blocks F_rs_table F_rs_width F_rs_adding F_rs_end F_rs_explored F_rs_addingLength F_rs_size F_tb_places F_tb_shift F_tb_items F_tb_size F_st_this_0 A_pl A_ad A_sb E_blk F_al_elementData F_al_size A_od A_blk) E_rs (hw _ (List.mem_of_getElem? (i := 87) rfl)) (hw _ (List.mem_of_getElem? (i := 88) rfl)) (hw _ (List.mem_of_getElem? (i := 90) rfl)) (hw _ (List.mem_of_getElem? (i := 90) rfl)) (hw _ (List.mem_of_getElem? (i := 89) rfl)) (hw _ (List.mem_of_getElem? (i := 91) rfl)) (hw _ (List.mem_of_getElem? (i := 3) rfl)) (by decide) pd_25 [(.ref sb)] rfl rfl 0 (Nat.le_of_eq rfl) rfl (by decide) (by decide) (by decide) (by decide) at_61 ?_
    rintro T h41 v41 ⟨rfl, K41, e1, ai1, ga1, he1, hg1, B41_F_rs_blocks, B41_F_rs_table, B41_F_rs_width, B41_F_rs_adding, B41_F_rs_end, B41_F_rs_explored, B41_F_rs_addingLength, B41_F_rs_size, B41_F_tb_places, B41_F_tb_shift, B41_F_tb_items, B41_F_tb_size, B41_A_pl, B41_A_ad, B41_A_blk⟩ X
    have K := K.trans K41 (allS (Or.inr sz_ad) (allS (Or.inr sz_rs) (allS (Or.inr sz_pl) (allS (Or.inr sz_tb) (allS (Or.inr sz_blk) all0)))))
    have S_DEFAULTCAPACITY_EMPTY_ELEMENTDATA := own_stakL S_DEFAULTCAPACITY_EMPTY_ELEMENTDATA K41 (staS E_ad (staS E_rs (staS E_pl (staS E_tb (staS E_blk sta0)))))
    have A_em := A_em.keep K41 (ninS ne_em_ad (ninS ne_em_rs (ninS ne_em_pl (ninS ne_em_tb (ninS ne_em_blk nin0)))))
    have A_sa := A_sa.keep K41 (ninS ne_sa_ad (ninS ne_sa_rs (ninS ne_sa_pl (ninS ne_sa_tb (ninS ne_sa_blk nin0)))))
    have A_sb := A_sb.keep K41 (ninS ne_sb_ad (ninS ne_sb_rs (ninS ne_sb_pl (ninS ne_sb_tb (ninS ne_sb_blk nin0)))))
    have A_sc := A_sc.keep K41 (ninS ne_sc_ad (ninS ne_sc_rs (ninS ne_sc_pl (ninS ne_sc_tb (ninS ne_sc_blk nin0)))))
    have A_out := A_out.keep K41 (ninS ne_out_ad (ninS ne_out_rs (ninS ne_out_pl (ninS ne_out_tb (ninS ne_out_blk nin0)))))
    have E_rs := E_rs.keep K41
    have E_al := E_al.keep K41
    have E_tb := E_tb.keep K41
    have E_st := E_st.keep K41
    have E_pl := E_pl.keep K41
    have E_ad := E_ad.keep K41
    have F_st_this_0 := F_st_this_0.keep K41 (ninS ne_st_ad (ninS (Ne.symm ne_rs_st) (ninS ne_st_pl (ninS (Ne.symm ne_tb_st) (ninS ne_st_blk nin0)))))
    have E_blk := E_blk.keep K41
    have F_al_elementData := F_al_elementData.keep K41 (ninS ne_al_ad (ninS (Ne.symm ne_rs_al) (ninS ne_al_pl (ninS ne_al_tb (ninS ne_al_blk nin0)))))
    have F_al_size := F_al_size.keep K41 (ninS ne_al_ad (ninS (Ne.symm ne_rs_al) (ninS ne_al_pl (ninS ne_al_tb (ninS ne_al_blk nin0)))))
    have A_od := A_od.keep K41 (ninS (Ne.symm ne_ad_od) (ninS (Ne.symm ne_rs_od) (ninS (Ne.symm ne_pl_od) (ninS (Ne.symm ne_tb_od) (ninS (Ne.symm ne_blk_od) nin0)))))
    have F_rs_blocks := B41_F_rs_blocks
    have F_rs_table := B41_F_rs_table
    have F_rs_width := B41_F_rs_width
    have F_rs_adding := B41_F_rs_adding
    have F_rs_end := B41_F_rs_end
    have F_rs_explored := B41_F_rs_explored
    have F_rs_addingLength := B41_F_rs_addingLength
    have F_rs_size := B41_F_rs_size
    have F_tb_places := B41_F_tb_places
    have F_tb_shift := B41_F_tb_shift
    have F_tb_items := B41_F_tb_items
    have F_tb_size := B41_F_tb_size
    have A_pl := B41_A_pl
    have A_ad := B41_A_ad
    have A_blk := B41_A_blk
    change Run _ _ _ _ _ _ _ _ [(.int (1 : Int32))]
    replace A_pl : AF Z h41 pl .long 16 (fun j => .long (P2 (hmN (hsh xa)) ((hmN (hsh xb) + j1) % 16) (hsh xa) (hsh xb) e0 j)) := A_pl
    have hEa : Enc (apF (apF (fun _ => (0 : Int32)) 0 xa) (0 + encL xa) xb) 0 xa := enc_keep hE0 (Nat.le_refl _)
    have hEb : Enc (apF (apF (fun _ => (0 : Int32)) 0 xa) (0 + encL xa) xb) (0 + encL xa) xb := enc_ap _ _ _
    have hF2 : FB (apF (apF (fun _ => (0 : Int32)) 0 xa) (0 + encL xa) xb) := FB_ap hF1 _ _
    have hlb := encL_r xb
    have hs01 := own_s01 hz1
    refine r_pop 65 X at_64 rfl ?_
    refine r_aload 67 X at_65 rfl rfl ?_
    refine r_aload 69 X at_67 rfl rfl ?_
    have hmc := hm_ok (hsh xc)
    by_cases hca : xc = xa
    ·
      refine r_virtual 72 X (st := []) (a := rs) (rmDH l Z a0 hw n0 _ X.sz sc rs al tb st pl ad blk od e1 (0 : Int64) ai1 (((0 : Int32) + (1 : Int32)) + (1 : Int32)) xc (((0 : Int32) + (1 : Int32)) + (1 : Int32)) ((0 + encL xa) + encL xb) 2 ga1 (P2 (hmN (hsh xa)) ((hmN (hsh xb) + j1) % 16) (hsh xa) (hsh xb) e0) (apF (apF (fun _ => (0 : Int32)) 0 xa) (0 + encL xa) xb) 0 (0 : Int64) 0 (by omega) (by omega) (by omega) (by omega) (by omega) (by omega) (by omega) (by omega) (by omega)  he1 (by omega) rfl (by decide) hg1 (by rw [hca]; exact t2_hitA hma.2 hs01 hEa) (fun z => by have q := congrArg Int64.toInt z; rw [he1, z64] at q; omega) E_rs E_al E_tb E_st E_pl E_ad F_rs_blocks F_rs_table F_rs_width F_rs_adding F_rs_end F_rs_explored F_rs_addingLength F_rs_size F_tb_places F_tb_shift F_tb_items F_tb_size F_st_this_0 A_pl A_ad A_sc E_blk F_al_elementData F_al_size A_od A_blk) E_rs (hw _ (List.mem_of_getElem? (i := 87) rfl)) (hw _ (List.mem_of_getElem? (i := 88) rfl)) (hw _ (List.mem_of_getElem? (i := 90) rfl)) (hw _ (List.mem_of_getElem? (i := 90) rfl)) (hw _ (List.mem_of_getElem? (i := 89) rfl)) (hw _ (List.mem_of_getElem? (i := 91) rfl)) (hw _ (List.mem_of_getElem? (i := 3) rfl)) (by decide) pd_25 [(.ref sc)] rfl rfl 0 (Nat.le_of_eq rfl) rfl (by decide) (by decide) (by decide) (by decide) at_69 ?_
      rintro T h42 v42 ⟨rfl, K42, ai2, ga2, hg2, B42_F_rs_blocks, B42_F_rs_table, B42_F_rs_width, B42_F_rs_adding, B42_F_rs_end, B42_F_rs_explored, B42_F_rs_addingLength, B42_F_rs_size, B42_A_ad⟩ X
      have K := K.trans K42 (allS (Or.inr sz_ad) (allS (Or.inr sz_rs) all0))
      have S_DEFAULTCAPACITY_EMPTY_ELEMENTDATA := own_stakL S_DEFAULTCAPACITY_EMPTY_ELEMENTDATA K42 (staS E_ad (staS E_rs sta0))
      have A_em := A_em.keep K42 (ninS ne_em_ad (ninS ne_em_rs nin0))
      have A_sa := A_sa.keep K42 (ninS ne_sa_ad (ninS ne_sa_rs nin0))
      have A_sb := A_sb.keep K42 (ninS ne_sb_ad (ninS ne_sb_rs nin0))
      have A_sc := A_sc.keep K42 (ninS ne_sc_ad (ninS ne_sc_rs nin0))
      have A_out := A_out.keep K42 (ninS ne_out_ad (ninS ne_out_rs nin0))
      have E_rs := E_rs.keep K42
      have E_al := E_al.keep K42
      have E_tb := E_tb.keep K42
      have E_st := E_st.keep K42
      have E_pl := E_pl.keep K42
      have E_ad := E_ad.keep K42
      have F_st_this_0 := F_st_this_0.keep K42 (ninS ne_st_ad (ninS (Ne.symm ne_rs_st) nin0))
      have E_blk := E_blk.keep K42
      have F_al_elementData := F_al_elementData.keep K42 (ninS ne_al_ad (ninS (Ne.symm ne_rs_al) nin0))
      have F_al_size := F_al_size.keep K42 (ninS ne_al_ad (ninS (Ne.symm ne_rs_al) nin0))
      have A_od := A_od.keep K42 (ninS (Ne.symm ne_ad_od) (ninS (Ne.symm ne_rs_od) nin0))
      have F_tb_places := F_tb_places.keep K42 (ninS ne_tb_ad (ninS (Ne.symm ne_rs_tb) nin0))
      have F_tb_shift := F_tb_shift.keep K42 (ninS ne_tb_ad (ninS (Ne.symm ne_rs_tb) nin0))
      have F_tb_items := F_tb_items.keep K42 (ninS ne_tb_ad (ninS (Ne.symm ne_rs_tb) nin0))
      have F_tb_size := F_tb_size.keep K42 (ninS ne_tb_ad (ninS (Ne.symm ne_rs_tb) nin0))
      have A_pl := A_pl.keep K42 (ninS ne_pl_ad (ninS (Ne.symm ne_rs_pl) nin0))
      have A_blk := A_blk.keep K42 (ninS (Ne.symm ne_ad_blk) (ninS (Ne.symm ne_rs_blk) nin0))
      have F_rs_blocks := B42_F_rs_blocks
      have F_rs_table := B42_F_rs_table
      have F_rs_width := B42_F_rs_width
      have F_rs_adding := B42_F_rs_adding
      have F_rs_end := B42_F_rs_end
      have F_rs_explored := B42_F_rs_explored
      have F_rs_addingLength := B42_F_rs_addingLength
      have F_rs_size := B42_F_rs_size
      have A_ad := B42_A_ad
      change Run _ _ _ _ _ _ _ _ [(.int (0 : Int32))]
      refine r_pop 73 X at_72 rfl ?_
      have hlc := encL_r xc
      have tk0 : Tk (apF (apF (fun _ => (0 : Int32)) 0 xa) (0 + encL xa) xb) 0 (0 + encL xa) := tk_enc hEa (by omega)
      have tk1 : Tk (apF (apF (fun _ => (0 : Int32)) 0 xa) (0 + encL xa) xb) (0 + encL xa) ((0 + encL xa) + encL xb) := tk_enc hEb (by omega)
      have hD : 2 = 1 + (if xb = xa then 0 else 1) + (if xc = xa ∨ xc = xb then 0 else 1) := by simp [hba, hca]
      exact J73 _ _ _ _ _ (apF (apF (fun _ => (0 : Int32)) 0 xa) (0 + encL xa) xb) 2 (fun i => if i = 0 then 0 else if i = 1 then (0 + encL xa) else ((0 + encL xa) + encL xb)) rfl hD (by decide) he1 (fun i hi => match i, hi with | 0, _ => tk0 | 1, _ => tk1 | _ + 2, hi => absurd hi (by omega)) hF2 K E_rs E_al E_blk F_rs_blocks F_rs_table F_rs_width F_rs_adding F_rs_end F_rs_explored F_rs_addingLength F_rs_size F_al_elementData F_al_size A_od A_blk A_out X
    ·
      by_cases hcb : xc = xb
      ·
        refine r_virtual 72 X (st := []) (a := rs) (rmDH l Z a0 hw n0 _ X.sz sc rs al tb st pl ad blk od e1 (0 : Int64) ai1 (((0 : Int32) + (1 : Int32)) + (1 : Int32)) xc (((0 : Int32) + (1 : Int32)) + (1 : Int32)) ((0 + encL xa) + encL xb) 2 ga1 (P2 (hmN (hsh xa)) ((hmN (hsh xb) + j1) % 16) (hsh xa) (hsh xb) e0) (apF (apF (fun _ => (0 : Int32)) 0 xa) (0 + encL xa) xb) j1 e0 (0 + encL xa) (by omega) (by omega) (by omega) (by omega) (by omega) (by omega) (by omega) (by omega) (by omega)  he1 (by omega) rfl (by decide) hg1 (by rw [hcb]; exact t2_hitB hma.2 hj1 hjj1 hz1 he0 (by omega) hEa hEb hba) (fun z => by have q := congrArg Int64.toInt z; rw [he0, he1] at q; omega) E_rs E_al E_tb E_st E_pl E_ad F_rs_blocks F_rs_table F_rs_width F_rs_adding F_rs_end F_rs_explored F_rs_addingLength F_rs_size F_tb_places F_tb_shift F_tb_items F_tb_size F_st_this_0 A_pl A_ad A_sc E_blk F_al_elementData F_al_size A_od A_blk) E_rs (hw _ (List.mem_of_getElem? (i := 87) rfl)) (hw _ (List.mem_of_getElem? (i := 88) rfl)) (hw _ (List.mem_of_getElem? (i := 90) rfl)) (hw _ (List.mem_of_getElem? (i := 90) rfl)) (hw _ (List.mem_of_getElem? (i := 89) rfl)) (hw _ (List.mem_of_getElem? (i := 91) rfl)) (hw _ (List.mem_of_getElem? (i := 3) rfl)) (by decide) pd_25 [(.ref sc)] rfl rfl 0 (Nat.le_of_eq rfl) rfl (by decide) (by decide) (by decide) (by decide) at_69 ?_
        rintro T h43 v43 ⟨rfl, K43, ai2, ga2, hg2, B43_F_rs_blocks, B43_F_rs_table, B43_F_rs_width, B43_F_rs_adding, B43_F_rs_end, B43_F_rs_explored, B43_F_rs_addingLength, B43_F_rs_size, B43_A_ad⟩ X
        have K := K.trans K43 (allS (Or.inr sz_ad) (allS (Or.inr sz_rs) all0))
        have S_DEFAULTCAPACITY_EMPTY_ELEMENTDATA := own_stakL S_DEFAULTCAPACITY_EMPTY_ELEMENTDATA K43 (staS E_ad (staS E_rs sta0))
        have A_em := A_em.keep K43 (ninS ne_em_ad (ninS ne_em_rs nin0))
        have A_sa := A_sa.keep K43 (ninS ne_sa_ad (ninS ne_sa_rs nin0))
        have A_sb := A_sb.keep K43 (ninS ne_sb_ad (ninS ne_sb_rs nin0))
        have A_sc := A_sc.keep K43 (ninS ne_sc_ad (ninS ne_sc_rs nin0))
        have A_out := A_out.keep K43 (ninS ne_out_ad (ninS ne_out_rs nin0))
        have E_rs := E_rs.keep K43
        have E_al := E_al.keep K43
        have E_tb := E_tb.keep K43
        have E_st := E_st.keep K43
        have E_pl := E_pl.keep K43
        have E_ad := E_ad.keep K43
        have F_st_this_0 := F_st_this_0.keep K43 (ninS ne_st_ad (ninS (Ne.symm ne_rs_st) nin0))
        have E_blk := E_blk.keep K43
        have F_al_elementData := F_al_elementData.keep K43 (ninS ne_al_ad (ninS (Ne.symm ne_rs_al) nin0))
        have F_al_size := F_al_size.keep K43 (ninS ne_al_ad (ninS (Ne.symm ne_rs_al) nin0))
        have A_od := A_od.keep K43 (ninS (Ne.symm ne_ad_od) (ninS (Ne.symm ne_rs_od) nin0))
        have F_tb_places := F_tb_places.keep K43 (ninS ne_tb_ad (ninS (Ne.symm ne_rs_tb) nin0))
        have F_tb_shift := F_tb_shift.keep K43 (ninS ne_tb_ad (ninS (Ne.symm ne_rs_tb) nin0))
        have F_tb_items := F_tb_items.keep K43 (ninS ne_tb_ad (ninS (Ne.symm ne_rs_tb) nin0))
        have F_tb_size := F_tb_size.keep K43 (ninS ne_tb_ad (ninS (Ne.symm ne_rs_tb) nin0))
        have A_pl := A_pl.keep K43 (ninS ne_pl_ad (ninS (Ne.symm ne_rs_pl) nin0))
        have A_blk := A_blk.keep K43 (ninS (Ne.symm ne_ad_blk) (ninS (Ne.symm ne_rs_blk) nin0))
        have F_rs_blocks := B43_F_rs_blocks
        have F_rs_table := B43_F_rs_table
        have F_rs_width := B43_F_rs_width
        have F_rs_adding := B43_F_rs_adding
        have F_rs_end := B43_F_rs_end
        have F_rs_explored := B43_F_rs_explored
        have F_rs_addingLength := B43_F_rs_addingLength
        have F_rs_size := B43_F_rs_size
        have A_ad := B43_A_ad
        change Run _ _ _ _ _ _ _ _ [(.int (0 : Int32))]
        refine r_pop 73 X at_72 rfl ?_
        have hlc := encL_r xc
        have tk0 : Tk (apF (apF (fun _ => (0 : Int32)) 0 xa) (0 + encL xa) xb) 0 (0 + encL xa) := tk_enc hEa (by omega)
        have tk1 : Tk (apF (apF (fun _ => (0 : Int32)) 0 xa) (0 + encL xa) xb) (0 + encL xa) ((0 + encL xa) + encL xb) := tk_enc hEb (by omega)
        have hD : 2 = 1 + (if xb = xa then 0 else 1) + (if xc = xa ∨ xc = xb then 0 else 1) := by simp [hba, hcb]
        exact J73 _ _ _ _ _ (apF (apF (fun _ => (0 : Int32)) 0 xa) (0 + encL xa) xb) 2 (fun i => if i = 0 then 0 else if i = 1 then (0 + encL xa) else ((0 + encL xa) + encL xb)) rfl hD (by decide) he1 (fun i hi => match i, hi with | 0, _ => tk0 | 1, _ => tk1 | _ + 2, hi => absurd hi (by omega)) hF2 K E_rs E_al E_blk F_rs_blocks F_rs_table F_rs_width F_rs_adding F_rs_end F_rs_explored F_rs_addingLength F_rs_size F_al_elementData F_al_size A_od A_blk A_out X
      ·
        obtain ⟨j2, hj2, hPs2, hz2⟩ := t2_free (qa := hsh xa) (qb := hsh xb) (e1 := e0) hma.2 (Nat.mod_lt _ (by decide)) hs01 hmc.2 he0 (by omega) hEa hEb hca hcb
        refine r_virtual 72 X (st := []) (a := rs) (rmDF l Z a0 hw n0 _ X.sz sc rs al tb st pl ad blk od e1 (0 : Int64) ai1 (((0 : Int32) + (1 : Int32)) + (1 : Int32)) xc (((0 : Int32) + (1 : Int32)) + (1 : Int32)) ((0 + encL xa) + encL xb) 2 ga1 (P2 (hmN (hsh xa)) ((hmN (hsh xb) + j1) % 16) (hsh xa) (hsh xb) e0) (apF (apF (fun _ => (0 : Int32)) 0 xa) (0 + encL xa) xb) j2 (by omega) (by omega) (by omega) (by omega) (by omega) (by omega) (by omega) (by omega) (by omega)  he1 (by omega) rfl (by decide) hg1 hF2 hz2 hPs2 E_rs E_al E_tb E_st E_pl E_ad F_rs_blocks F_rs_table F_rs_width F_rs_adding F_rs_end F_rs_explored F_rs_addingLength F_rs_size F_tb_places F_tb_shift F_tb_items F_tb_size F_st_this_0 A_pl A_ad A_sc E_blk F_al_elementData F_al_size A_od A_blk) E_rs (hw _ (List.mem_of_getElem? (i := 87) rfl)) (hw _ (List.mem_of_getElem? (i := 88) rfl)) (hw _ (List.mem_of_getElem? (i := 90) rfl)) (hw _ (List.mem_of_getElem? (i := 90) rfl)) (hw _ (List.mem_of_getElem? (i := 89) rfl)) (hw _ (List.mem_of_getElem? (i := 91) rfl)) (hw _ (List.mem_of_getElem? (i := 3) rfl)) (by decide) pd_25 [(.ref sc)] rfl rfl 0 (Nat.le_of_eq rfl) rfl (by decide) (by decide) (by decide) (by decide) at_69 ?_
        rintro T h44 v44 ⟨rfl, K44, e2, ai2, ga2, he2, hg2, B44_F_rs_blocks, B44_F_rs_table, B44_F_rs_width, B44_F_rs_adding, B44_F_rs_end, B44_F_rs_explored, B44_F_rs_addingLength, B44_F_rs_size, B44_F_tb_places, B44_F_tb_shift, B44_F_tb_items, B44_F_tb_size, B44_A_pl, B44_A_ad, B44_A_blk⟩ X
        have K := K.trans K44 (allS (Or.inr sz_ad) (allS (Or.inr sz_rs) (allS (Or.inr sz_pl) (allS (Or.inr sz_tb) (allS (Or.inr sz_blk) all0)))))
        have S_DEFAULTCAPACITY_EMPTY_ELEMENTDATA := own_stakL S_DEFAULTCAPACITY_EMPTY_ELEMENTDATA K44 (staS E_ad (staS E_rs (staS E_pl (staS E_tb (staS E_blk sta0)))))
        have A_em := A_em.keep K44 (ninS ne_em_ad (ninS ne_em_rs (ninS ne_em_pl (ninS ne_em_tb (ninS ne_em_blk nin0)))))
        have A_sa := A_sa.keep K44 (ninS ne_sa_ad (ninS ne_sa_rs (ninS ne_sa_pl (ninS ne_sa_tb (ninS ne_sa_blk nin0)))))
        have A_sb := A_sb.keep K44 (ninS ne_sb_ad (ninS ne_sb_rs (ninS ne_sb_pl (ninS ne_sb_tb (ninS ne_sb_blk nin0)))))
        have A_sc := A_sc.keep K44 (ninS ne_sc_ad (ninS ne_sc_rs (ninS ne_sc_pl (ninS ne_sc_tb (ninS ne_sc_blk nin0)))))
        have A_out := A_out.keep K44 (ninS ne_out_ad (ninS ne_out_rs (ninS ne_out_pl (ninS ne_out_tb (ninS ne_out_blk nin0)))))
        have E_rs := E_rs.keep K44
        have E_al := E_al.keep K44
        have E_tb := E_tb.keep K44
        have E_st := E_st.keep K44
        have E_pl := E_pl.keep K44
        have E_ad := E_ad.keep K44
        have F_st_this_0 := F_st_this_0.keep K44 (ninS ne_st_ad (ninS (Ne.symm ne_rs_st) (ninS ne_st_pl (ninS (Ne.symm ne_tb_st) (ninS ne_st_blk nin0)))))
        have E_blk := E_blk.keep K44
        have F_al_elementData := F_al_elementData.keep K44 (ninS ne_al_ad (ninS (Ne.symm ne_rs_al) (ninS ne_al_pl (ninS ne_al_tb (ninS ne_al_blk nin0)))))
        have F_al_size := F_al_size.keep K44 (ninS ne_al_ad (ninS (Ne.symm ne_rs_al) (ninS ne_al_pl (ninS ne_al_tb (ninS ne_al_blk nin0)))))
        have A_od := A_od.keep K44 (ninS (Ne.symm ne_ad_od) (ninS (Ne.symm ne_rs_od) (ninS (Ne.symm ne_pl_od) (ninS (Ne.symm ne_tb_od) (ninS (Ne.symm ne_blk_od) nin0)))))
        have F_rs_blocks := B44_F_rs_blocks
        have F_rs_table := B44_F_rs_table
        have F_rs_width := B44_F_rs_width
        have F_rs_adding := B44_F_rs_adding
        have F_rs_end := B44_F_rs_end
        have F_rs_explored := B44_F_rs_explored
        have F_rs_addingLength := B44_F_rs_addingLength
        have F_rs_size := B44_F_rs_size
        have F_tb_places := B44_F_tb_places
        have F_tb_shift := B44_F_tb_shift
        have F_tb_items := B44_F_tb_items
        have F_tb_size := B44_F_tb_size
        have A_pl := B44_A_pl
        have A_ad := B44_A_ad
        have A_blk := B44_A_blk
        change Run _ _ _ _ _ _ _ _ [(.int (1 : Int32))]
        refine r_pop 73 X at_72 rfl ?_
        have hlc := encL_r xc
        have tk0 : Tk (apF (apF (apF (fun _ => (0 : Int32)) 0 xa) (0 + encL xa) xb) ((0 + encL xa) + encL xb) xc) 0 (0 + encL xa) := tk_enc (enc_keep hEa (by omega)) (by omega)
        have tk1 : Tk (apF (apF (apF (fun _ => (0 : Int32)) 0 xa) (0 + encL xa) xb) ((0 + encL xa) + encL xb) xc) (0 + encL xa) ((0 + encL xa) + encL xb) := tk_enc (enc_keep hEb (by omega)) (by omega)
        have tk2 : Tk (apF (apF (apF (fun _ => (0 : Int32)) 0 xa) (0 + encL xa) xb) ((0 + encL xa) + encL xb) xc) ((0 + encL xa) + encL xb) (((0 + encL xa) + encL xb) + encL xc) := tk_enc (enc_ap _ _ _) (by omega)
        have hD : 3 = 1 + (if xb = xa then 0 else 1) + (if xc = xa ∨ xc = xb then 0 else 1) := by simp [hba, hca, hcb]
        exact J73 _ _ _ _ _ (apF (apF (apF (fun _ => (0 : Int32)) 0 xa) (0 + encL xa) xb) ((0 + encL xa) + encL xb) xc) 3 (fun i => if i = 0 then 0 else if i = 1 then (0 + encL xa) else if i = 2 then ((0 + encL xa) + encL xb) else (((0 + encL xa) + encL xb) + encL xc)) rfl hD (by decide) he2 (fun i hi => match i, hi with | 0, _ => tk0 | 1, _ => tk1 | 2, _ => tk2 | _ + 3, hi => absurd hi (by omega)) (FB_ap hF2 _ _) K E_rs E_al E_blk F_rs_blocks F_rs_table F_rs_width F_rs_adding F_rs_end F_rs_explored F_rs_addingLength F_rs_size F_al_elementData F_al_size A_od A_blk A_out X
set_option maxRecDepth 65536 in
set_option maxHeartbeats 40000000 in
theorem comes_1 {Post : Tables → Env → Array Value → State → Outcome → State → Prop} (hpost : ∀ tb e args s v u, (limb_1_1.after args s (.returned v) u = true ∧ limb_1_2.after args s (.returned v) u = true ∧ True) → FrameEnd s (.returned v) u (Jvm.fieldLocs frame_1_writes args s ++ Jvm.arrayLocs frame_1_arrays args s ++ Jvm.staticLocs frame_1_statics s) 40 131264 → Post tb e args s (.returned v) u) :
    ArmFor flags0 classFile x code maxLocals ret World_1 tables_1 room_1 Calls_1 rest_1 Pre_1 Post := by
  intro l hfl _ _ p e ha hc hk s m args below hf hA hF happ hP
  obtain ⟨hcalls, hrest, hpre⟩ := hP
  obtain ⟨-, -, -, hnamed, -, -, -, hat⟩ := (Spec.applies_iff hf).mp happ
  obtain ⟨hg, hn⟩ := and_e (Cond.before_iff.mp (show (Jvm.Cond.and given_1 narrow_1).before args s = true from hpre))
  obtain ⟨g1, g2⟩ := and_e hg
  obtain ⟨g3, g4⟩ := and_e g2
  obtain ⟨g5, g6⟩ := and_e g4
  obtain ⟨g7, g8⟩ := and_e g6
  obtain ⟨w0, w1, w2, w3, rfl⟩ : ∃ w0 w1 w2 w3 : Value, args = #[w0, w1, w2, w3] := by
    have hs : args.size = 4 := by simpa [Cond.value, given_1] using g1
    obtain ⟨L⟩ := args
    match L, hs with
    | [w0, w1, w2, w3], _ => exact ⟨w0, w1, w2, w3, rfl⟩
  have hw := fun d (hd : d ∈ tables_1) => atoms_spec (ws := Jvm.Cond.code x code maxLocals ret :: tables_1) hat d (List.mem_cons_of_mem _ hd)
  have hfit : Fit s := fun {y c} hc i hi => by
    obtain ⟨ha, rfl⟩ := Array.getElem?_eq_some_iff.mp hc
    have q := List.all_eq_true.mp ((Array.all_eq_true_iff_forall_mem.mp hF) _ (Array.getElem_mem ha)) i (List.mem_range.mpr hi)
    simpa [Array.getElem?_eq_getElem hi] using q
  obtain ⟨hsets, hown0⟩ := atoms_of _ (rest_1_c_eq ▸ (show rest_1_c.before _ s = true from hrest))
  have hr0 := Cond.before_iff.mp hown0
  obtain ⟨i0, ei0⟩ := is_v g3
  obtain rfl : w0 = (.int i0) := Option.some.inj ei0
  obtain ⟨i1, ei1⟩ := is_v g5
  obtain rfl : w1 = (.int i1) := Option.some.inj ei1
  obtain ⟨i2, ei2⟩ := is_v g7
  obtain rfl : w2 = (.int i2) := Option.some.inj ei2
  obtain ⟨i3, ei3⟩ := is_v g8
  obtain rfl : w3 = (.int i3) := Option.some.inj ei3
  obtain ⟨em, e1⟩ := arr_v (Cond.before_iff.mp (hsets _ (List.mem_of_getElem? (i := 6) rfl)))
  obtain ⟨ce, Ae⟩ := Arr.start e1 (Cond.before_iff.mp (hsets _ (List.mem_of_getElem? (i := 6) rfl)))
  have e2 := eqv_i (Term.int_eval 0) (Cond.before_iff.mp (hsets _ (List.mem_of_getElem? (i := 8) rfl)))
  obtain ⟨em', c', e3, e4, e5⟩ := Term.length_spec e2
  cases e1.symm.trans e3
  have h31 := SBG.length_lt e3 e4 e2
  have e6 := (Jvm.Joins.arrayAt_spec e4).1
  cases e6.symm.trans Ae.1
  have e7 : (0 : Int32) = ce.slots.size.toInt32 := by injection e5
  have e8 : ce.slots.size = 0 := by have q := congrArg Int32.toInt e7; rw [len_toInt h31] at q; have : (0 : Int32).toInt = 0 := rfl; omega
  have A_em : AF s s.heap em (.object "java/lang/Object") 0 (fun _ => .null) := ⟨ce, Ae, e8, by decide, fun j hj => absurd hj (Nat.not_lt_zero _)⟩
  obtain ⟨n, o, h1, h2, h3, _, L, rfl, ⟨rfl, N, -⟩, hq⟩ := rm0 l s _ hw s.heap.size s.heap (Nat.le_refl _) i0 i1 i2 i3 em (fun _ => .null) A_em (Sta.start e1 (Or.inr ⟨(hw _ (List.mem_of_getElem? (i := 12) rfl)), (hsets _ (List.mem_of_getElem? (i := 2) rfl))⟩)) p e ha hc hk s m _ below hf ((Spec.applies_iff_loose hf).mp happ).1 ⟨rfl, State.Warmed39.refl s, rfl⟩ trivial
  refine ⟨n, _, h1, h2, h3, hpost _ _ _ _ _ _ ⟨Cond.after_iff.mpr rfl, Cond.after_iff.mpr (eq_i res_at (Term.int_eval (1)) rfl), trivial⟩ ⟨hq.1, hq.2.1, (hq.2.2.sift fun y hy => Or.inr (N y hy)).mono (by decide) (by decide)⟩⟩
theorem main_1_1 : Claimed_1_1 := comes_1 fun _ _ _ _ _ _ h hF => ⟨h.1, hF⟩
theorem main_1_2 : Claimed_1_2 := comes_1 fun _ _ _ _ _ _ h hF => ⟨h.2.1, hF⟩
end Jvm.Pilot.@@N@@
namespace Jvm.Pilot.@@N@@
open Jvm Jvm.ClassFile Sem Op Lib Jvm.Free Jvm.Stand Jvm.Pilot.@@N@@.Jvm.D
/-! MADE BY PROGRAM (witnessworld.py) out of the Statement's table words and the real class files: 35 classes; the members and pool entries that the words name. The judged class is class 1, her method 1. -/
namespace start1
open Jvm.ClassFile
def u (s : String) : CpInfo := .utf8 (stringToUtf16 s)
/-- a pool by its gaps: so many unusable entries, then the entry; so many at the end -/
def gap : Nat → List CpInfo → List CpInfo
  | 0, r => r
  | n + 1, r => .unusable :: gap n r
def poolList (es : List (Nat × CpInfo)) (last : Nat) : List CpInfo := es.foldr (fun e r => gap e.1 (e.2 :: r)) (gap last [])
def pool (es : List (Nat × CpInfo)) (last : Nat) : Array CpInfo := ⟨poolList es last⟩
def fileOf (pool : Array CpInfo) (this : Nat) (attrs : Array Attribute := #[]) (ms : Array MethodInfo := #[]) (fl : Nat := 33) (sup : Nat := 0) (ifs : Array Nat := #[]) (fds : Array FieldInfo := #[]) : ClassFile where
  minorVersion := 0
  majorVersion := 65
  constantPool := pool
  accessFlags := fl
  thisClass := this
  superClass := sup
  interfaces := ifs
  fields := fds
  methods := ms
  attributes := attrs
def plain (name : String) (sup : Option ClassId) : Class where
  name := name
  kind := .ordinary
  loader := none
  accessFlags := 33
  super := sup
  interfaces := #[]
  cf := none
  fields := #[]
  methods := #[]
  instanceTypes := #[]
  staticTypes := #[]
  resolved := #[]
  callSites := []
  init := .initialized
  statics := none
  mirror := none

def pool0 : Array CpInfo := pool [(5, u "<init>"), (0, u "()V"), (1, .class_ 10), (1, u "java/lang/Object")] 113

def k0c0 : Code := { maxStack := 0, maxLocals := 1, code := object_method_1_code, exceptionTable := #[], attributes := #[] }
def k0m0 : Method := { name := "<init>", desc := "()V", sig := { parameters := [], returnType := none }, accessFlags := 1, code := some k0c0 }
/-- java/lang/Object -/
def k0 : Class := { plain "java/lang/Object" none with
  accessFlags := 33
  interfaces := #[]
  cf := some (fileOf pool0 8 #[] #[{ accessFlags := 1, nameIndex := 5, descriptorIndex := 6, attributes := #[] }] 33 0 #[] #[])
  fields := #[]
  methods := #[k0m0]
  instanceTypes := #[]
  staticTypes := #[]
  resolved := Array.replicate 124 none
  statics := none }

def pool1 : Array CpInfo := pool [(2, .class_ 4), (1, u "java/lang/Object"), (0, u "<init>"), (0, u "()V"), (0, .class_ 8), (0, u "com/example/statera/statera/engine/ReachedStates"), (0, .methodref 7 10), (0, .nameAndType 5 11), (0, u "(I)V"), (0, .methodref 7 13), (0, .nameAndType 14 15), (0, u "hasUnexplored"), (0, u "()Z"), (0, .methodref 7 17), (0, .nameAndType 18 19), (0, u "add"), (0, u "([I)Z"), (0, .methodref 21 22), (0, .class_ 23), (0, .nameAndType 24 25), (0, u "java/lang/Math"), (0, u "min"), (0, u "(II)I"), (0, .methodref 7 27), (0, .nameAndType 28 29), (0, u "takeUnexplored"), (0, u "([I)V"), (0, .class_ 31), (0, u "com/example/statera/statera/engine/ReachedStatesHasUnexploredPinLaw"), (2, u "law"), (0, u "(IIII)Z")] 5

def k1m0 : Method := { name := "<init>", desc := "()V", sig := { parameters := [], returnType := none }, accessFlags := 1, code := none }
def k1c1 : Code := { maxStack := 4, maxLocals := 14, code := code, exceptionTable := #[], attributes := #[] }
def k1m1 : Method := { name := "law", desc := "(IIII)Z", sig := { parameters := [.int, .int, .int, .int], returnType := some .boolean }, accessFlags := 9, code := some k1c1 }
/-- com/example/statera/statera/engine/ReachedStatesHasUnexploredPinLaw -/
def k1 : Class := { plain "com/example/statera/statera/engine/ReachedStatesHasUnexploredPinLaw" (some 0) with
  accessFlags := 49
  interfaces := #[]
  cf := some (fileOf pool1 30 #[] #[{ accessFlags := 1, nameIndex := 5, descriptorIndex := 6, attributes := #[] }, { accessFlags := 9, nameIndex := 34, descriptorIndex := 35, attributes := #[] }] 49 2 #[] #[])
  fields := #[]
  methods := #[k1m0, k1m1]
  instanceTypes := #[]
  staticTypes := #[]
  resolved := Array.replicate 41 none
  statics := none }

def pool2 : Array CpInfo := pool [(1, .methodref 2 3), (0, .class_ 4), (0, .nameAndType 5 6), (0, u "java/lang/Object"), (0, u "<init>"), (0, u "()V"), (0, .class_ 8), (0, u "java/util/ArrayList"), (0, .methodref 7 3), (0, .fieldref 11 12), (0, .class_ 13), (0, .nameAndType 14 15), (0, u "com/example/statera/statera/engine/ReachedStates"), (0, u "blocks"), (0, u "Ljava/util/List;"), (0, .class_ 17), (0, u "com/example/statera/statera/engine/IdTable"), (0, .class_ 19), (0, u "com/example/statera/statera/engine/ReachedStates$States"), (0, .methodref 18 21), (0, .nameAndType 5 22), (0, u "(Lcom/example/statera/statera/engine/ReachedStates;)V"), (0, .methodref 16 24), (0, .nameAndType 5 25), (0, u "(Lcom/example/statera/statera/engine/IdTable$Items;)V"), (0, .fieldref 11 27), (0, .nameAndType 28 29), (0, u "table"), (0, u "Lcom/example/statera/statera/engine/IdTable;"), (0, .fieldref 11 31), (0, .nameAndType 32 33), (0, u "width"), (0, u "I"), (0, .fieldref 11 35), (0, .nameAndType 36 37), (0, u "adding"), (0, u "[B"), (0, .fieldref 11 39), (0, .nameAndType 40 41), (0, u "rehashing"), (0, u "[I"), (0, .methodref 11 43), (0, .nameAndType 44 45), (0, u "write"), (0, u "(II)I"), (0, .fieldref 11 47), (0, .nameAndType 48 33), (0, u "addingLength"), (0, .methodref 11 50), (0, .nameAndType 51 52), (0, u "hash"), (0, u "([I)J"), (0, .fieldref 11 54), (0, .nameAndType 55 56), (0, u "end"), (0, u "J"), (0, .methodref 16 58), (0, .nameAndType 59 60), (0, u "findOrAdd"), (0, u "(JJ)J"), (0, .methodref 11 62), (0, .nameAndType 63 64), (0, u "append"), (0, u "(I)V"), (0, .fieldref 11 66), (0, .nameAndType 67 33), (0, u "size"), (0, .interfaceMethodref 69 70), (0, .class_ 71), (0, .nameAndType 67 72), (0, u "java/util/List"), (0, u "()I"), (0, .fieldref 11 74), (0, .nameAndType 75 56), (0, u "explored"), (0, .methodref 11 77), (0, .nameAndType 78 79), (0, u "read"), (0, u "(J[I)J"), (0, .methodref 11 81), (0, .nameAndType 82 83), (0, u "byteAt"), (0, u "(J)B"), (0, .methodref 11 85), (0, .nameAndType 86 87), (0, u "blockOf"), (0, u "(J)I"), (0, .interfaceMethodref 69 89), (0, .nameAndType 90 91), (0, u "get"), (0, u "(I)Ljava/lang/Object;"), (0, .class_ 37), (0, .methodref 11 94), (0, .nameAndType 95 87), (0, u "offsetOf"), (0, .integer 65536), (0, .methodref 98 99), (0, .class_ 100), (0, .nameAndType 101 45), (0, u "java/lang/Math"), (0, u "min"), (0, .methodref 103 104), (0, .class_ 105), (0, .nameAndType 106 107), (0, u "java/util/Arrays"), (0, u "equals"), (0, u "([BII[BII)Z"), (0, .interfaceMethodref 69 109), (0, .nameAndType 110 111), (0, u "add"), (0, u "(Ljava/lang/Object;)Z"), (0, .methodref 113 114), (0, .class_ 115), (0, .nameAndType 116 117), (0, u "java/lang/System"), (0, u "arraycopy"), (0, u "(Ljava/lang/Object;ILjava/lang/Object;II)V"), (0, .long 65536), (1, .long 11400714819323198485), (1, .methodref 16 123), (0, .nameAndType 124 125), (0, u "mix"), (0, u "(J)J"), (0, u "BLOCK"), (1, u "MOST_BYTES_PER_INT"), (5, u "([I)Z"), (2, u "hasUnexplored"), (0, u "()Z"), (0, u "takeUnexplored"), (0, u "([I)V"), (0, u "holds"), (0, u "(JI)Z")] 8

def k2c0 : Code := { maxStack := 6, maxLocals := 2, code := prog_19_method_1_code, exceptionTable := #[], attributes := #[] }
def k2m0 : Method := { name := "<init>", desc := "(I)V", sig := { parameters := [.int], returnType := none }, accessFlags := 0, code := some k2c0 }
def k2c1 : Code := { maxStack := 5, maxLocals := 7, code := prog_19_method_2_code, exceptionTable := #[], attributes := #[] }
def k2m1 : Method := { name := "add", desc := "([I)Z", sig := { parameters := [(.array .int)], returnType := some .boolean }, accessFlags := 0, code := some k2c1 }
def k2c2 : Code := { maxStack := 4, maxLocals := 1, code := prog_19_method_6_code, exceptionTable := #[], attributes := #[] }
def k2m2 : Method := { name := "hasUnexplored", desc := "()Z", sig := { parameters := [], returnType := some .boolean }, accessFlags := 0, code := some k2c2 }
def k2c3 : Code := { maxStack := 5, maxLocals := 2, code := prog_19_method_7_code, exceptionTable := #[], attributes := #[] }
def k2m3 : Method := { name := "takeUnexplored", desc := "([I)V", sig := { parameters := [(.array .int)], returnType := none }, accessFlags := 0, code := some k2c3 }
def k2c4 : Code := { maxStack := 4, maxLocals := 5, code := prog_19_method_8_code, exceptionTable := #[], attributes := #[] }
def k2m4 : Method := { name := "write", desc := "(II)I", sig := { parameters := [.int, .int], returnType := some .int }, accessFlags := 2, code := some k2c4 }
def k2c5 : Code := { maxStack := 7, maxLocals := 10, code := prog_19_method_9_code, exceptionTable := #[], attributes := #[] }
def k2m5 : Method := { name := "read", desc := "(J[I)J", sig := { parameters := [.long, (.array .int)], returnType := some .long }, accessFlags := 2, code := some k2c5 }
def k2c6 : Code := { maxStack := 7, maxLocals := 10, code := prog_19_method_10_code, exceptionTable := #[], attributes := #[] }
def k2m6 : Method := { name := "holds", desc := "(JI)Z", sig := { parameters := [.long, .int], returnType := some .boolean }, accessFlags := 2, code := some k2c6 }
def k2c7 : Code := { maxStack := 5, maxLocals := 5, code := prog_19_method_11_code, exceptionTable := #[], attributes := #[] }
def k2m7 : Method := { name := "append", desc := "(I)V", sig := { parameters := [.int], returnType := none }, accessFlags := 2, code := some k2c7 }
def k2c8 : Code := { maxStack := 3, maxLocals := 3, code := prog_19_method_12_code, exceptionTable := #[], attributes := #[] }
def k2m8 : Method := { name := "byteAt", desc := "(J)B", sig := { parameters := [.long], returnType := some .byte }, accessFlags := 2, code := some k2c8 }
def k2c9 : Code := { maxStack := 4, maxLocals := 2, code := prog_19_method_13_code, exceptionTable := #[], attributes := #[] }
def k2m9 : Method := { name := "blockOf", desc := "(J)I", sig := { parameters := [.long], returnType := some .int }, accessFlags := 10, code := some k2c9 }
def k2c10 : Code := { maxStack := 4, maxLocals := 2, code := prog_19_method_14_code, exceptionTable := #[], attributes := #[] }
def k2m10 : Method := { name := "offsetOf", desc := "(J)I", sig := { parameters := [.long], returnType := some .int }, accessFlags := 10, code := some k2c10 }
def k2c11 : Code := { maxStack := 4, maxLocals := 7, code := prog_19_method_15_code, exceptionTable := #[], attributes := #[] }
def k2m11 : Method := { name := "hash", desc := "([I)J", sig := { parameters := [(.array .int)], returnType := some .long }, accessFlags := 8, code := some k2c11 }
/-- com/example/statera/statera/engine/ReachedStates -/
def k2 : Class := { plain "com/example/statera/statera/engine/ReachedStates" (some 0) with
  accessFlags := 48
  interfaces := #[]
  cf := some (fileOf pool2 11 #[.nestMembers #[18]] #[{ accessFlags := 0, nameIndex := 5, descriptorIndex := 64, attributes := #[] }, { accessFlags := 0, nameIndex := 110, descriptorIndex := 134, attributes := #[] }, { accessFlags := 0, nameIndex := 137, descriptorIndex := 138, attributes := #[] }, { accessFlags := 0, nameIndex := 139, descriptorIndex := 140, attributes := #[] }, { accessFlags := 2, nameIndex := 44, descriptorIndex := 45, attributes := #[] }, { accessFlags := 2, nameIndex := 78, descriptorIndex := 79, attributes := #[] }, { accessFlags := 2, nameIndex := 141, descriptorIndex := 142, attributes := #[] }, { accessFlags := 2, nameIndex := 63, descriptorIndex := 64, attributes := #[] }, { accessFlags := 2, nameIndex := 82, descriptorIndex := 83, attributes := #[] }, { accessFlags := 10, nameIndex := 86, descriptorIndex := 87, attributes := #[] }, { accessFlags := 10, nameIndex := 95, descriptorIndex := 87, attributes := #[] }, { accessFlags := 8, nameIndex := 51, descriptorIndex := 52, attributes := #[] }] 48 2 #[] #[{ accessFlags := 24, nameIndex := 126, descriptorIndex := 33, attributes := #[] }, { accessFlags := 24, nameIndex := 128, descriptorIndex := 33, attributes := #[] }, { accessFlags := 18, nameIndex := 32, descriptorIndex := 33, attributes := #[] }, { accessFlags := 18, nameIndex := 14, descriptorIndex := 15, attributes := #[] }, { accessFlags := 2, nameIndex := 55, descriptorIndex := 56, attributes := #[] }, { accessFlags := 2, nameIndex := 75, descriptorIndex := 56, attributes := #[] }, { accessFlags := 2, nameIndex := 67, descriptorIndex := 33, attributes := #[] }, { accessFlags := 18, nameIndex := 36, descriptorIndex := 37, attributes := #[] }, { accessFlags := 2, nameIndex := 48, descriptorIndex := 33, attributes := #[] }, { accessFlags := 18, nameIndex := 40, descriptorIndex := 41, attributes := #[] }, { accessFlags := 18, nameIndex := 28, descriptorIndex := 29, attributes := #[] }])
  fields := #[{ name := "BLOCK", type := .int, accessFlags := 24, slot := 0, constantValue := 0 }, { name := "MOST_BYTES_PER_INT", type := .int, accessFlags := 24, slot := 1, constantValue := 0 }, { name := "width", type := .int, accessFlags := 18, slot := 0, constantValue := 0 }, { name := "blocks", type := (.object "java/util/List"), accessFlags := 18, slot := 1, constantValue := 0 }, { name := "end", type := .long, accessFlags := 2, slot := 2, constantValue := 0 }, { name := "explored", type := .long, accessFlags := 2, slot := 3, constantValue := 0 }, { name := "size", type := .int, accessFlags := 2, slot := 4, constantValue := 0 }, { name := "adding", type := (.array .byte), accessFlags := 18, slot := 5, constantValue := 0 }, { name := "addingLength", type := .int, accessFlags := 2, slot := 6, constantValue := 0 }, { name := "rehashing", type := (.array .int), accessFlags := 18, slot := 7, constantValue := 0 }, { name := "table", type := (.object "com/example/statera/statera/engine/IdTable"), accessFlags := 18, slot := 8, constantValue := 0 }]
  methods := #[k2m0, k2m1, k2m2, k2m3, k2m4, k2m5, k2m6, k2m7, k2m8, k2m9, k2m10, k2m11]
  instanceTypes := #[.int, (.object "java/util/List"), .long, .long, .int, (.array .byte), .int, (.array .int), (.object "com/example/statera/statera/engine/IdTable")]
  staticTypes := #[.int, .int]
  resolved := ((Array.replicate 151 none).setIfInBounds 18 (some (.cls 15))).setIfInBounds 20 (some (.method ⟨15, 0⟩))
  statics := none }

def pool3 : Array CpInfo := pool [(8, .class_ 10), (1, u "java/lang/Iterable"), (24, .class_ 36), (0, u "java/lang/Object")] 25

/-- java/lang/Iterable -/
def k3 : Class := { plain "java/lang/Iterable" (some 0) with
  accessFlags := 1537
  interfaces := #[]
  cf := some (fileOf pool3 8 #[] #[] 1537 35 #[] #[])
  fields := #[]
  methods := #[]
  instanceTypes := #[]
  staticTypes := #[]
  resolved := Array.replicate 62 none
  statics := none }

def pool4 : Array CpInfo := pool [(10, .class_ 12), (1, u "java/util/Collection"), (47, .class_ 61), (0, u "java/lang/Object"), (0, .class_ 63), (0, u "java/lang/Iterable")] 51

/-- java/util/Collection -/
def k4 : Class := { plain "java/util/Collection" (some 0) with
  accessFlags := 1537
  interfaces := #[3]
  cf := some (fileOf pool4 10 #[] #[] 1537 60 #[62] #[])
  fields := #[]
  methods := #[]
  instanceTypes := #[]
  staticTypes := #[]
  resolved := Array.replicate 115 none
  statics := none }

def pool5 : Array CpInfo := pool [(1, .methodref 2 3), (0, .class_ 4), (0, .nameAndType 5 6), (0, u "java/lang/Object"), (0, u "<init>"), (0, u "()V"), (1, .class_ 10), (1, u "java/util/AbstractCollection"), (66, .class_ 78), (0, u "java/util/Collection")] 81

def k5c0 : Code := { maxStack := 1, maxLocals := 1, code := jdk_22_method_1_code, exceptionTable := #[], attributes := #[] }
def k5m0 : Method := { name := "<init>", desc := "()V", sig := { parameters := [], returnType := none }, accessFlags := 4, code := some k5c0 }
/-- java/util/AbstractCollection -/
def k5 : Class := { plain "java/util/AbstractCollection" (some 0) with
  accessFlags := 1057
  interfaces := #[4]
  cf := some (fileOf pool5 8 #[] #[{ accessFlags := 4, nameIndex := 5, descriptorIndex := 6, attributes := #[] }] 1057 2 #[77] #[])
  fields := #[]
  methods := #[k5m0]
  instanceTypes := #[]
  staticTypes := #[]
  resolved := Array.replicate 160 none
  statics := none }

def pool6 : Array CpInfo := pool [(8, .class_ 10), (1, u "java/util/SequencedCollection"), (15, .class_ 27), (0, u "java/lang/Object"), (0, .class_ 29), (0, u "java/util/Collection")] 27

/-- java/util/SequencedCollection -/
def k6 : Class := { plain "java/util/SequencedCollection" (some 0) with
  accessFlags := 1537
  interfaces := #[4]
  cf := some (fileOf pool6 8 #[] #[] 1537 26 #[28] #[])
  fields := #[]
  methods := #[]
  instanceTypes := #[]
  staticTypes := #[]
  resolved := Array.replicate 57 none
  statics := none }

def pool7 : Array CpInfo := pool [(8, .class_ 10), (1, u "java/util/List"), (49, u "add"), (3, u "(Ljava/lang/Object;)Z"), (10, u "get"), (0, u "(I)Ljava/lang/Object;"), (2, u "size"), (0, u "()I"), (22, .class_ 104), (0, u "java/lang/Object"), (15, .class_ 121), (0, u "java/util/SequencedCollection")] 129

def k7m0 : Method := { name := "size", desc := "()I", sig := { parameters := [], returnType := some .int }, accessFlags := 1025, code := none }
def k7m1 : Method := { name := "add", desc := "(Ljava/lang/Object;)Z", sig := { parameters := [(.object "java/lang/Object")], returnType := some .boolean }, accessFlags := 1025, code := none }
def k7m2 : Method := { name := "get", desc := "(I)Ljava/lang/Object;", sig := { parameters := [.int], returnType := some (.object "java/lang/Object") }, accessFlags := 1025, code := none }
/-- java/util/List -/
def k7 : Class := { plain "java/util/List" (some 0) with
  accessFlags := 1537
  interfaces := #[6]
  cf := some (fileOf pool7 8 #[] #[{ accessFlags := 1025, nameIndex := 79, descriptorIndex := 80, attributes := #[] }, { accessFlags := 1025, nameIndex := 60, descriptorIndex := 64, attributes := #[] }, { accessFlags := 1025, nameIndex := 75, descriptorIndex := 76, attributes := #[] }] 1537 103 #[120] #[])
  fields := #[]
  methods := #[k7m0, k7m1, k7m2]
  instanceTypes := #[]
  staticTypes := #[]
  resolved := Array.replicate 251 none
  statics := none }

def pool8 : Array CpInfo := pool [(1, .methodref 2 3), (0, .class_ 4), (0, .nameAndType 5 6), (0, u "java/util/AbstractCollection"), (0, u "<init>"), (0, u "()V"), (0, .fieldref 8 9), (0, .class_ 10), (0, .nameAndType 11 12), (0, u "java/util/AbstractList"), (0, u "modCount"), (0, u "I"), (64, .class_ 78), (0, u "java/util/AbstractList$Itr"), (3, .class_ 83), (0, u "java/util/AbstractList$ListItr"), (9, .class_ 94), (0, u "java/util/AbstractList$RandomAccessSubList"), (3, .class_ 99), (0, u "java/util/AbstractList$SubList"), (33, .class_ 134), (0, u "java/util/List"), (73, .class_ 209), (0, u "java/util/AbstractList$SubList$1"), (0, .class_ 211), (0, u "java/util/AbstractList$RandomAccessSpliterator")] 6

def k8c0 : Code := { maxStack := 2, maxLocals := 1, code := jdk_39_method_1_code, exceptionTable := #[], attributes := #[] }
def k8m0 : Method := { name := "<init>", desc := "()V", sig := { parameters := [], returnType := none }, accessFlags := 4, code := some k8c0 }
/-- java/util/AbstractList -/
def k8 : Class := { plain "java/util/AbstractList" (some 5) with
  accessFlags := 1057
  interfaces := #[7]
  cf := some (fileOf pool8 8 #[.nestMembers #[93, 98, 208, 210, 82, 77]] #[{ accessFlags := 4, nameIndex := 5, descriptorIndex := 6, attributes := #[] }] 1057 2 #[133] #[{ accessFlags := 132, nameIndex := 11, descriptorIndex := 12, attributes := #[] }])
  fields := #[{ name := "modCount", type := .int, accessFlags := 132, slot := 0, constantValue := 0 }]
  methods := #[k8m0]
  instanceTypes := #[.int]
  staticTypes := #[]
  resolved := Array.replicate 218 none
  statics := none }

def pool9 : Array CpInfo := pool [(1, .class_ 2), (0, u "java/util/RandomAccess"), (0, .class_ 4), (0, u "java/lang/Object")] 2

/-- java/util/RandomAccess -/
def k9 : Class := { plain "java/util/RandomAccess" (some 0) with
  accessFlags := 1537
  interfaces := #[]
  cf := some (fileOf pool9 1 #[] #[] 1537 3 #[] #[])
  fields := #[]
  methods := #[]
  instanceTypes := #[]
  staticTypes := #[]
  resolved := Array.replicate 7 none
  statics := none }

def pool10 : Array CpInfo := pool [(1, .class_ 2), (0, u "java/lang/Cloneable"), (0, .class_ 4), (0, u "java/lang/Object")] 2

/-- java/lang/Cloneable -/
def k10 : Class := { plain "java/lang/Cloneable" (some 0) with
  accessFlags := 1537
  interfaces := #[]
  cf := some (fileOf pool10 1 #[] #[] 1537 3 #[] #[])
  fields := #[]
  methods := #[]
  instanceTypes := #[]
  staticTypes := #[]
  resolved := Array.replicate 7 none
  statics := none }

def pool11 : Array CpInfo := pool [(1, .class_ 2), (0, u "java/io/Serializable"), (0, .class_ 4), (0, u "java/lang/Object")] 2

/-- java/io/Serializable -/
def k11 : Class := { plain "java/io/Serializable" (some 0) with
  accessFlags := 1537
  interfaces := #[]
  cf := some (fileOf pool11 1 #[] #[] 1537 3 #[] #[])
  fields := #[]
  methods := #[]
  instanceTypes := #[]
  staticTypes := #[]
  resolved := Array.replicate 7 none
  statics := none }

def pool12 : Array CpInfo := pool [(1, .methodref 2 3), (0, .class_ 4), (0, .nameAndType 5 6), (0, u "java/util/AbstractList"), (0, u "<init>"), (0, u "()V"), (0, .class_ 8), (0, u "java/lang/Object"), (0, .fieldref 10 11), (0, .class_ 12), (0, .nameAndType 13 14), (0, u "java/util/ArrayList"), (0, u "elementData"), (0, u "[Ljava/lang/Object;"), (2, u "EMPTY_ELEMENTDATA"), (21, .fieldref 10 40), (0, .nameAndType 41 14), (0, u "DEFAULTCAPACITY_EMPTY_ELEMENTDATA"), (5, u "()[Ljava/lang/Object;"), (0, .fieldref 10 49), (0, .nameAndType 50 51), (0, u "size"), (0, u "I"), (11, .fieldref 10 64), (0, .nameAndType 65 51), (0, u "modCount"), (3, .methodref 10 70), (0, .nameAndType 71 72), (0, u "grow"), (0, u "(I)[Ljava/lang/Object;"), (6, .methodref 80 81), (0, .class_ 82), (0, .nameAndType 83 84), (0, u "java/lang/Math"), (0, u "max"), (0, u "(II)I"), (11, u "(Ljava/lang/Object;)Z"), (21, .methodref 119 120), (0, .class_ 121), (0, .nameAndType 122 84), (0, u "java/util/Objects"), (0, u "checkIndex"), (0, .methodref 10 124), (0, .nameAndType 13 125), (0, u "(I)Ljava/lang/Object;"), (3, .methodref 10 130), (0, .nameAndType 71 47), (0, .methodref 10 132), (0, .nameAndType 133 134), (0, u "add"), (0, u "(Ljava/lang/Object;[Ljava/lang/Object;I)V"), (13, .class_ 149), (0, u "java/util/List"), (36, u "()I"), (75, .class_ 263), (0, u "java/util/ArrayList$ListItr"), (3, .class_ 268), (0, u "java/util/ArrayList$Itr"), (7, .class_ 277), (0, u "java/util/ArrayList$SubList"), (12, .class_ 291), (0, u "java/util/ArrayList$ArrayListSpliterator"), (37, .class_ 330), (0, u "java/util/RandomAccess"), (0, .class_ 332), (0, u "java/lang/Cloneable"), (0, .class_ 334), (0, u "java/io/Serializable"), (0, u "serialVersionUID"), (0, u "J"), (3, u "DEFAULT_CAPACITY"), (40, u "get"), (118, .class_ 501), (0, u "java/util/ArrayList$SubList$2"), (0, .class_ 503), (0, u "java/util/ArrayList$SubList$1")] 5

def k12c0 : Code := { maxStack := 2, maxLocals := 1, code := jdk_38_method_2_code, exceptionTable := #[], attributes := #[] }
def k12m0 : Method := { name := "<init>", desc := "()V", sig := { parameters := [], returnType := none }, accessFlags := 1, code := some k12c0 }
def k12c1 : Code := { maxStack := 4, maxLocals := 4, code := jdk_38_method_6_code, exceptionTable := #[], attributes := #[] }
def k12m1 : Method := { name := "grow", desc := "(I)[Ljava/lang/Object;", sig := { parameters := [.int], returnType := some (.array (.object "java/lang/Object")) }, accessFlags := 2, code := some k12c1 }
def k12c2 : Code := { maxStack := 3, maxLocals := 1, code := jdk_38_method_7_code, exceptionTable := #[], attributes := #[] }
def k12m2 : Method := { name := "grow", desc := "()[Ljava/lang/Object;", sig := { parameters := [], returnType := some (.array (.object "java/lang/Object")) }, accessFlags := 2, code := some k12c2 }
def k12c3 : Code := { maxStack := 1, maxLocals := 1, code := jdk_38_method_8_code, exceptionTable := #[], attributes := #[] }
def k12m3 : Method := { name := "size", desc := "()I", sig := { parameters := [], returnType := some .int }, accessFlags := 1, code := some k12c3 }
def k12c4 : Code := { maxStack := 2, maxLocals := 2, code := jdk_38_method_18_code, exceptionTable := #[], attributes := #[] }
def k12m4 : Method := { name := "elementData", desc := "(I)Ljava/lang/Object;", sig := { parameters := [.int], returnType := some (.object "java/lang/Object") }, accessFlags := 0, code := some k12c4 }
def k12c5 : Code := { maxStack := 2, maxLocals := 2, code := jdk_38_method_20_code, exceptionTable := #[], attributes := #[] }
def k12m5 : Method := { name := "get", desc := "(I)Ljava/lang/Object;", sig := { parameters := [.int], returnType := some (.object "java/lang/Object") }, accessFlags := 1, code := some k12c5 }
def k12c6 : Code := { maxStack := 3, maxLocals := 4, code := jdk_38_method_24_code, exceptionTable := #[], attributes := #[] }
def k12m6 : Method := { name := "add", desc := "(Ljava/lang/Object;[Ljava/lang/Object;I)V", sig := { parameters := [(.object "java/lang/Object"), (.array (.object "java/lang/Object")), .int], returnType := none }, accessFlags := 2, code := some k12c6 }
def k12c7 : Code := { maxStack := 4, maxLocals := 2, code := jdk_38_method_25_code, exceptionTable := #[], attributes := #[] }
def k12m7 : Method := { name := "add", desc := "(Ljava/lang/Object;)Z", sig := { parameters := [(.object "java/lang/Object")], returnType := some .boolean }, accessFlags := 1, code := some k12c7 }
/-- java/util/ArrayList -/
def k12 : Class := { plain "java/util/ArrayList" (some 8) with
  accessFlags := 33
  interfaces := #[7, 9, 10, 11]
  cf := some (fileOf pool12 10 #[.nestMembers #[290, 276, 500, 502, 262, 267]] #[{ accessFlags := 1, nameIndex := 5, descriptorIndex := 6, attributes := #[] }, { accessFlags := 2, nameIndex := 71, descriptorIndex := 72, attributes := #[] }, { accessFlags := 2, nameIndex := 71, descriptorIndex := 47, attributes := #[] }, { accessFlags := 1, nameIndex := 50, descriptorIndex := 186, attributes := #[] }, { accessFlags := 0, nameIndex := 13, descriptorIndex := 125, attributes := #[] }, { accessFlags := 1, nameIndex := 381, descriptorIndex := 125, attributes := #[] }, { accessFlags := 2, nameIndex := 133, descriptorIndex := 134, attributes := #[] }, { accessFlags := 1, nameIndex := 133, descriptorIndex := 96, attributes := #[] }] 33 2 #[148, 329, 331, 333] #[{ accessFlags := 26, nameIndex := 335, descriptorIndex := 336, attributes := #[] }, { accessFlags := 26, nameIndex := 340, descriptorIndex := 51, attributes := #[] }, { accessFlags := 26, nameIndex := 17, descriptorIndex := 14, attributes := #[] }, { accessFlags := 26, nameIndex := 41, descriptorIndex := 14, attributes := #[] }, { accessFlags := 128, nameIndex := 13, descriptorIndex := 14, attributes := #[] }, { accessFlags := 2, nameIndex := 50, descriptorIndex := 51, attributes := #[] }])
  fields := #[{ name := "serialVersionUID", type := .long, accessFlags := 26, slot := 0, constantValue := 0 }, { name := "DEFAULT_CAPACITY", type := .int, accessFlags := 26, slot := 1, constantValue := 0 }, { name := "EMPTY_ELEMENTDATA", type := (.array (.object "java/lang/Object")), accessFlags := 26, slot := 2, constantValue := 0 }, { name := "DEFAULTCAPACITY_EMPTY_ELEMENTDATA", type := (.array (.object "java/lang/Object")), accessFlags := 26, slot := 3, constantValue := 0 }, { name := "elementData", type := (.array (.object "java/lang/Object")), accessFlags := 128, slot := 1, constantValue := 0 }, { name := "size", type := .int, accessFlags := 2, slot := 2, constantValue := 0 }]
  methods := #[k12m0, k12m1, k12m2, k12m3, k12m4, k12m5, k12m6, k12m7]
  instanceTypes := #[.int, (.array (.object "java/lang/Object")), .int]
  staticTypes := #[.long, .int, (.array (.object "java/lang/Object")), (.array (.object "java/lang/Object"))]
  resolved := Array.replicate 509 none
  statics := some 0 }

def pool13 : Array CpInfo := pool [(1, .class_ 2), (0, u "java/lang/Long"), (0, .class_ 4), (0, u "com/example/statera/statera/engine/IdTable"), (0, .methodref 6 7), (0, .class_ 8), (0, .nameAndType 9 10), (0, u "java/lang/Object"), (0, u "<init>"), (0, u "()V"), (0, .fieldref 3 12), (0, .nameAndType 13 14), (0, u "places"), (0, u "[J"), (0, .long 15), (1, .methodref 1 18), (0, .nameAndType 19 20), (0, u "numberOfLeadingZeros"), (0, u "(J)I"), (0, .fieldref 3 22), (0, .nameAndType 23 24), (0, u "shift"), (0, u "I"), (0, .fieldref 3 26), (0, .nameAndType 27 28), (0, u "items"), (0, u "Lcom/example/statera/statera/engine/IdTable$Items;"), (0, .long 1099511627774), (10, .long 18446742974197923840), (1, .long 1099511627775), (1, .interfaceMethodref 45 46), (0, .class_ 47), (0, .nameAndType 48 49), (0, u "com/example/statera/statera/engine/IdTable$Items"), (0, u "matches"), (0, u "(J)Z"), (0, .fieldref 3 51), (0, .nameAndType 52 24), (0, u "size"), (16, u "(J)J"), (0, .long 11400714819323198485), (1, .long 13787848793156543929), (1, u "PLACES_PER_ID"), (2, u "FIRST_PLACES"), (1, u "HASH_BITS"), (1, u "ID_BITS"), (0, u "J"), (0, u "MOST_ID"), (0, u "MOST_PLACES"), (0, u "(Lcom/example/statera/statera/engine/IdTable$Items;)V"), (2, u "findOrAdd"), (0, u "(JJ)J"), (3, u "mix")] 21

def k13c0 : Code := { maxStack := 3, maxLocals := 2, code := prog_10_method_1_code, exceptionTable := #[], attributes := #[] }
def k13m0 : Method := { name := "<init>", desc := "(Lcom/example/statera/statera/engine/IdTable$Items;)V", sig := { parameters := [(.object "com/example/statera/statera/engine/IdTable$Items")], returnType := none }, accessFlags := 0, code := some k13c0 }
def k13c1 : Code := { maxStack := 8, maxLocals := 11, code := prog_10_method_2_code, exceptionTable := #[], attributes := #[] }
def k13m1 : Method := { name := "findOrAdd", desc := "(JJ)J", sig := { parameters := [.long, .long], returnType := some .long }, accessFlags := 0, code := some k13c1 }
def k13c2 : Code := { maxStack := 5, maxLocals := 4, code := prog_10_method_6_code, exceptionTable := #[], attributes := #[] }
def k13m2 : Method := { name := "mix", desc := "(J)J", sig := { parameters := [.long], returnType := some .long }, accessFlags := 8, code := some k13c2 }
/-- com/example/statera/statera/engine/IdTable -/
def k13 : Class := { plain "com/example/statera/statera/engine/IdTable" (some 0) with
  accessFlags := 48
  interfaces := #[]
  cf := some (fileOf pool13 3 #[.nestMembers #[45]] #[{ accessFlags := 0, nameIndex := 9, descriptorIndex := 85, attributes := #[] }, { accessFlags := 0, nameIndex := 88, descriptorIndex := 89, attributes := #[] }, { accessFlags := 8, nameIndex := 93, descriptorIndex := 69, attributes := #[] }] 48 6 #[] #[{ accessFlags := 24, nameIndex := 74, descriptorIndex := 24, attributes := #[] }, { accessFlags := 24, nameIndex := 77, descriptorIndex := 24, attributes := #[] }, { accessFlags := 26, nameIndex := 79, descriptorIndex := 24, attributes := #[] }, { accessFlags := 26, nameIndex := 81, descriptorIndex := 82, attributes := #[] }, { accessFlags := 24, nameIndex := 83, descriptorIndex := 82, attributes := #[] }, { accessFlags := 26, nameIndex := 84, descriptorIndex := 24, attributes := #[] }, { accessFlags := 18, nameIndex := 27, descriptorIndex := 28, attributes := #[] }, { accessFlags := 2, nameIndex := 13, descriptorIndex := 14, attributes := #[] }, { accessFlags := 2, nameIndex := 23, descriptorIndex := 24, attributes := #[] }, { accessFlags := 2, nameIndex := 52, descriptorIndex := 24, attributes := #[] }])
  fields := #[{ name := "PLACES_PER_ID", type := .int, accessFlags := 24, slot := 0, constantValue := 0 }, { name := "FIRST_PLACES", type := .int, accessFlags := 24, slot := 1, constantValue := 0 }, { name := "HASH_BITS", type := .int, accessFlags := 26, slot := 2, constantValue := 0 }, { name := "ID_BITS", type := .long, accessFlags := 26, slot := 3, constantValue := 0 }, { name := "MOST_ID", type := .long, accessFlags := 24, slot := 4, constantValue := 0 }, { name := "MOST_PLACES", type := .int, accessFlags := 26, slot := 5, constantValue := 0 }, { name := "items", type := (.object "com/example/statera/statera/engine/IdTable$Items"), accessFlags := 18, slot := 0, constantValue := 0 }, { name := "places", type := (.array .long), accessFlags := 2, slot := 1, constantValue := 0 }, { name := "shift", type := .int, accessFlags := 2, slot := 2, constantValue := 0 }, { name := "size", type := .int, accessFlags := 2, slot := 3, constantValue := 0 }]
  methods := #[k13m0, k13m1, k13m2]
  instanceTypes := #[(.object "com/example/statera/statera/engine/IdTable$Items"), (.array .long), .int, .int]
  staticTypes := #[.int, .int, .int, .long, .long, .int]
  resolved := Array.replicate 115 none
  statics := none }

def pool14 : Array CpInfo := pool [(1, .class_ 2), (0, u "com/example/statera/statera/engine/IdTable$Items"), (0, .class_ 4), (0, u "java/lang/Object"), (0, u "matches"), (0, u "(J)Z"), (5, .class_ 13), (0, u "com/example/statera/statera/engine/IdTable")] 2

def k14m0 : Method := { name := "matches", desc := "(J)Z", sig := { parameters := [.long], returnType := some .boolean }, accessFlags := 1025, code := none }
/-- com/example/statera/statera/engine/IdTable$Items -/
def k14 : Class := { plain "com/example/statera/statera/engine/IdTable$Items" (some 0) with
  accessFlags := 1536
  interfaces := #[]
  cf := some (fileOf pool14 1 #[.nestHost 12] #[{ accessFlags := 1025, nameIndex := 5, descriptorIndex := 6, attributes := #[] }] 1536 3 #[] #[])
  fields := #[]
  methods := #[k14m0]
  instanceTypes := #[]
  staticTypes := #[]
  resolved := Array.replicate 16 none
  statics := none }

def pool15 : Array CpInfo := pool [(1, .fieldref 2 3), (0, .class_ 4), (0, .nameAndType 5 6), (0, u "com/example/statera/statera/engine/ReachedStates$States"), (0, u "this$0"), (0, u "Lcom/example/statera/statera/engine/ReachedStates;"), (0, .methodref 8 9), (0, .class_ 10), (0, .nameAndType 11 12), (0, u "java/lang/Object"), (0, u "<init>"), (0, u "()V"), (0, .fieldref 14 15), (0, .class_ 16), (0, .nameAndType 17 18), (0, u "com/example/statera/statera/engine/ReachedStates"), (0, u "addingLength"), (0, u "I"), (0, .methodref 14 20), (0, .nameAndType 21 22), (0, u "holds"), (0, u "(JI)Z"), (12, .class_ 36), (0, u "com/example/statera/statera/engine/IdTable$Items"), (0, u "(Lcom/example/statera/statera/engine/ReachedStates;)V"), (3, u "matches"), (0, u "(J)Z")] 10

def k15c0 : Code := { maxStack := 2, maxLocals := 2, code := prog_20_method_1_code, exceptionTable := #[], attributes := #[] }
def k15m0 : Method := { name := "<init>", desc := "(Lcom/example/statera/statera/engine/ReachedStates;)V", sig := { parameters := [(.object "com/example/statera/statera/engine/ReachedStates")], returnType := none }, accessFlags := 2, code := some k15c0 }
def k15c1 : Code := { maxStack := 4, maxLocals := 3, code := prog_20_method_2_code, exceptionTable := #[], attributes := #[] }
def k15m1 : Method := { name := "matches", desc := "(J)Z", sig := { parameters := [.long], returnType := some .boolean }, accessFlags := 1, code := some k15c1 }
/-- com/example/statera/statera/engine/ReachedStates$States -/
def k15 : Class := { plain "com/example/statera/statera/engine/ReachedStates$States" (some 0) with
  accessFlags := 48
  interfaces := #[14]
  cf := some (fileOf pool15 2 #[.nestHost 14] #[{ accessFlags := 2, nameIndex := 11, descriptorIndex := 37, attributes := #[] }, { accessFlags := 1, nameIndex := 41, descriptorIndex := 42, attributes := #[] }] 48 8 #[35] #[{ accessFlags := 4112, nameIndex := 5, descriptorIndex := 6, attributes := #[] }])
  fields := #[{ name := "this$0", type := (.object "com/example/statera/statera/engine/ReachedStates"), accessFlags := 4112, slot := 0, constantValue := 0 }]
  methods := #[k15m0, k15m1]
  instanceTypes := #[(.object "com/example/statera/statera/engine/ReachedStates")]
  staticTypes := #[]
  resolved := Array.replicate 53 none
  statics := none }

def pool16 : Array CpInfo := pool [(2, .class_ 4), (1, u "java/lang/Object"), (0, u "<init>"), (0, u "()V"), (1, .class_ 10), (1, u "java/lang/Number"), (2, .class_ 14), (0, u "java/io/Serializable"), (0, u "serialVersionUID"), (0, u "J")] 20

def k16m0 : Method := { name := "<init>", desc := "()V", sig := { parameters := [], returnType := none }, accessFlags := 1, code := none }
/-- java/lang/Number -/
def k16 : Class := { plain "java/lang/Number" (some 0) with
  accessFlags := 1057
  interfaces := #[11]
  cf := some (fileOf pool16 8 #[] #[{ accessFlags := 1, nameIndex := 5, descriptorIndex := 6, attributes := #[] }] 1057 2 #[13] #[{ accessFlags := 26, nameIndex := 15, descriptorIndex := 16, attributes := #[] }])
  fields := #[{ name := "serialVersionUID", type := .long, accessFlags := 26, slot := 0, constantValue := 0 }]
  methods := #[k16m0]
  instanceTypes := #[]
  staticTypes := #[.long]
  resolved := Array.replicate 37 none
  statics := none }

def pool17 : Array CpInfo := pool [(1, .class_ 2), (0, u "java/lang/Comparable"), (0, .class_ 4), (0, u "java/lang/Object")] 7

/-- java/lang/Comparable -/
def k17 : Class := { plain "java/lang/Comparable" (some 0) with
  accessFlags := 1537
  interfaces := #[]
  cf := some (fileOf pool17 1 #[] #[] 1537 3 #[] #[])
  fields := #[]
  methods := #[]
  instanceTypes := #[]
  staticTypes := #[]
  resolved := Array.replicate 12 none
  statics := none }

def pool18 : Array CpInfo := pool [(1, .class_ 2), (0, u "java/lang/constant/Constable"), (0, .class_ 4), (0, u "java/lang/Object")] 6

/-- java/lang/constant/Constable -/
def k18 : Class := { plain "java/lang/constant/Constable" (some 0) with
  accessFlags := 1537
  interfaces := #[]
  cf := some (fileOf pool18 1 #[] #[] 1537 3 #[] #[])
  fields := #[]
  methods := #[]
  instanceTypes := #[]
  staticTypes := #[]
  resolved := Array.replicate 11 none
  statics := none }

def pool19 : Array CpInfo := pool [(1, .class_ 2), (0, u "java/lang/constant/ConstantDesc"), (0, .class_ 4), (0, u "java/lang/Object")] 32

/-- java/lang/constant/ConstantDesc -/
def k19 : Class := { plain "java/lang/constant/ConstantDesc" (some 0) with
  accessFlags := 1537
  interfaces := #[]
  cf := some (fileOf pool19 1 #[] #[] 1537 3 #[] #[])
  fields := #[]
  methods := #[]
  instanceTypes := #[]
  staticTypes := #[]
  resolved := Array.replicate 37 none
  statics := none }

def pool20 : Array CpInfo := pool [(1, .class_ 2), (0, u "java/lang/Long"), (15, .class_ 20), (1, u "java/lang/Integer"), (79, u "numberOfLeadingZeros"), (0, u "(J)I"), (133, .class_ 237), (1, u "java/lang/Long$LongCache"), (33, .class_ 272), (0, u "java/lang/Number"), (2, u "value"), (0, u "J"), (31, .methodref 18 309), (0, .nameAndType 100 310), (0, u "(I)I"), (50, u "TYPE"), (0, u "Ljava/lang/Class;"), (0, .class_ 364), (0, u "java/lang/Comparable"), (0, .class_ 366), (0, u "java/lang/constant/Constable"), (0, .class_ 368), (0, u "java/lang/constant/ConstantDesc"), (0, u "MIN_VALUE"), (1, u "MAX_VALUE"), (4, u "SIZE"), (0, u "I"), (1, u "BYTES"), (1, u "serialVersionUID")] 142

def k20c0 : Code := { maxStack := 3, maxLocals := 3, code := jdk_35_method_48_code, exceptionTable := #[], attributes := #[] }
def k20m0 : Method := { name := "numberOfLeadingZeros", desc := "(J)I", sig := { parameters := [.long], returnType := some .int }, accessFlags := 9, code := some k20c0 }
/-- java/lang/Long -/
def k20 : Class := { plain "java/lang/Long" (some 16) with
  accessFlags := 49
  interfaces := #[17, 18, 19]
  cf := some (fileOf pool20 1 #[.nestMembers #[235]] #[{ accessFlags := 9, nameIndex := 100, descriptorIndex := 101, attributes := #[] }] 49 271 #[363, 365, 367] #[{ accessFlags := 25, nameIndex := 369, descriptorIndex := 276, attributes := #[] }, { accessFlags := 25, nameIndex := 371, descriptorIndex := 276, attributes := #[] }, { accessFlags := 25, nameIndex := 361, descriptorIndex := 362, attributes := #[] }, { accessFlags := 18, nameIndex := 275, descriptorIndex := 276, attributes := #[] }, { accessFlags := 25, nameIndex := 376, descriptorIndex := 377, attributes := #[] }, { accessFlags := 25, nameIndex := 379, descriptorIndex := 377, attributes := #[] }, { accessFlags := 26, nameIndex := 381, descriptorIndex := 276, attributes := #[] }])
  fields := #[{ name := "MIN_VALUE", type := .long, accessFlags := 25, slot := 0, constantValue := 0 }, { name := "MAX_VALUE", type := .long, accessFlags := 25, slot := 1, constantValue := 0 }, { name := "TYPE", type := (.object "java/lang/Class"), accessFlags := 25, slot := 2, constantValue := 0 }, { name := "value", type := .long, accessFlags := 18, slot := 0, constantValue := 0 }, { name := "SIZE", type := .int, accessFlags := 25, slot := 3, constantValue := 0 }, { name := "BYTES", type := .int, accessFlags := 25, slot := 4, constantValue := 0 }, { name := "serialVersionUID", type := .long, accessFlags := 26, slot := 5, constantValue := 0 }]
  methods := #[k20m0]
  instanceTypes := #[.long]
  staticTypes := #[.long, .long, (.object "java/lang/Class"), .int, .int, .long]
  resolved := Array.replicate 524 none
  statics := none }

def pool21 : Array CpInfo := pool [(1, .class_ 2), (0, u "java/lang/Integer"), (16, u "digits"), (0, u "[C"), (32, u "numberOfLeadingZeros"), (0, u "(I)I"), (30, u "DigitOnes"), (0, u "[B"), (2, u "DigitTens"), (99, .class_ 190), (0, u "java/lang/Integer$IntegerCache"), (3, u "I"), (8, .class_ 204), (0, u "java/lang/Number"), (2, u "value"), (56, .integer 65536), (37, u "TYPE"), (0, u "Ljava/lang/Class;"), (0, .class_ 305), (0, u "java/lang/Comparable"), (0, .class_ 307), (0, u "java/lang/constant/Constable"), (0, .class_ 309), (0, u "java/lang/constant/ConstantDesc"), (0, u "MIN_VALUE"), (1, u "MAX_VALUE"), (3, u "SIZE"), (1, u "BYTES"), (1, u "serialVersionUID"), (0, u "J")] 131

def k21c0 : Code := { maxStack := 3, maxLocals := 2, code := jdk_33_method_47_code, exceptionTable := #[], attributes := #[] }
def k21m0 : Method := { name := "numberOfLeadingZeros", desc := "(I)I", sig := { parameters := [.int], returnType := some .int }, accessFlags := 9, code := some k21c0 }
/-- java/lang/Integer -/
def k21 : Class := { plain "java/lang/Integer" (some 16) with
  accessFlags := 49
  interfaces := #[17, 18, 19]
  cf := some (fileOf pool21 1 #[.nestMembers #[189]] #[{ accessFlags := 9, nameIndex := 53, descriptorIndex := 54, attributes := #[] }] 49 203 #[304, 306, 308] #[{ accessFlags := 25, nameIndex := 310, descriptorIndex := 194, attributes := #[] }, { accessFlags := 25, nameIndex := 312, descriptorIndex := 194, attributes := #[] }, { accessFlags := 25, nameIndex := 302, descriptorIndex := 303, attributes := #[] }, { accessFlags := 24, nameIndex := 19, descriptorIndex := 20, attributes := #[] }, { accessFlags := 24, nameIndex := 89, descriptorIndex := 86, attributes := #[] }, { accessFlags := 24, nameIndex := 85, descriptorIndex := 86, attributes := #[] }, { accessFlags := 18, nameIndex := 207, descriptorIndex := 194, attributes := #[] }, { accessFlags := 25, nameIndex := 316, descriptorIndex := 194, attributes := #[] }, { accessFlags := 25, nameIndex := 318, descriptorIndex := 194, attributes := #[] }, { accessFlags := 26, nameIndex := 320, descriptorIndex := 321, attributes := #[] }])
  fields := #[{ name := "MIN_VALUE", type := .int, accessFlags := 25, slot := 0, constantValue := 0 }, { name := "MAX_VALUE", type := .int, accessFlags := 25, slot := 1, constantValue := 0 }, { name := "TYPE", type := (.object "java/lang/Class"), accessFlags := 25, slot := 2, constantValue := 0 }, { name := "digits", type := (.array .char), accessFlags := 24, slot := 3, constantValue := 0 }, { name := "DigitTens", type := (.array .byte), accessFlags := 24, slot := 4, constantValue := 0 }, { name := "DigitOnes", type := (.array .byte), accessFlags := 24, slot := 5, constantValue := 0 }, { name := "value", type := .int, accessFlags := 18, slot := 0, constantValue := 0 }, { name := "SIZE", type := .int, accessFlags := 25, slot := 6, constantValue := 0 }, { name := "BYTES", type := .int, accessFlags := 25, slot := 7, constantValue := 0 }, { name := "serialVersionUID", type := .long, accessFlags := 26, slot := 8, constantValue := 0 }]
  methods := #[k21m0]
  instanceTypes := #[.int]
  staticTypes := #[.int, .int, (.object "java/lang/Class"), (.array .char), (.array .byte), (.array .byte), .int, .int, .long]
  resolved := Array.replicate 453 none
  statics := none }

def pool22 : Array CpInfo := pool [(1, .class_ 2), (0, u "java/lang/Math"), (1, .class_ 6), (1, u "java/lang/Object"), (0, u "<init>"), (0, u "()V"), (89, .class_ 100), (1, u "java/lang/Math$RandomNumberGeneratorHolder"), (71, u "negativeZeroFloatBits"), (0, u "J"), (2, u "negativeZeroDoubleBits"), (21, u "max"), (2, u "min"), (43, u "$assertionsDisabled"), (0, u "Z"), (88, u "(II)I"), (2, u "twoToTheDoubleScaleDown"), (0, u "D"), (4, u "twoToTheDoubleScaleUp"), (9, u "E"), (3, u "PI"), (2, u "TAU"), (2, u "DEGREES_TO_RADIANS"), (0, u "RADIANS_TO_DEGREES")] 94

def k22m0 : Method := { name := "<init>", desc := "()V", sig := { parameters := [], returnType := none }, accessFlags := 2, code := none }
def k22c1 : Code := { maxStack := 2, maxLocals := 2, code := jdk_29_method_65_code, exceptionTable := #[], attributes := #[] }
def k22m1 : Method := { name := "max", desc := "(II)I", sig := { parameters := [.int, .int], returnType := some .int }, accessFlags := 9, code := some k22c1 }
def k22c2 : Code := { maxStack := 2, maxLocals := 2, code := jdk_29_method_69_code, exceptionTable := #[], attributes := #[] }
def k22m2 : Method := { name := "min", desc := "(II)I", sig := { parameters := [.int, .int], returnType := some .int }, accessFlags := 9, code := some k22c2 }
/-- java/lang/Math -/
def k22 : Class := { plain "java/lang/Math" (some 0) with
  accessFlags := 49
  interfaces := #[]
  cf := some (fileOf pool22 1 #[.nestMembers #[98]] #[{ accessFlags := 2, nameIndex := 7, descriptorIndex := 8, attributes := #[] }, { accessFlags := 9, nameIndex := 198, descriptorIndex := 335, attributes := #[] }, { accessFlags := 9, nameIndex := 201, descriptorIndex := 335, attributes := #[] }] 49 4 #[] #[{ accessFlags := 25, nameIndex := 354, descriptorIndex := 339, attributes := #[] }, { accessFlags := 25, nameIndex := 358, descriptorIndex := 339, attributes := #[] }, { accessFlags := 25, nameIndex := 361, descriptorIndex := 339, attributes := #[] }, { accessFlags := 26, nameIndex := 364, descriptorIndex := 339, attributes := #[] }, { accessFlags := 26, nameIndex := 365, descriptorIndex := 339, attributes := #[] }, { accessFlags := 26, nameIndex := 172, descriptorIndex := 173, attributes := #[] }, { accessFlags := 26, nameIndex := 176, descriptorIndex := 173, attributes := #[] }, { accessFlags := 8, nameIndex := 344, descriptorIndex := 339, attributes := #[] }, { accessFlags := 8, nameIndex := 338, descriptorIndex := 339, attributes := #[] }, { accessFlags := 4120, nameIndex := 245, descriptorIndex := 246, attributes := #[] }])
  fields := #[{ name := "E", type := .double, accessFlags := 25, slot := 0, constantValue := 0 }, { name := "PI", type := .double, accessFlags := 25, slot := 1, constantValue := 0 }, { name := "TAU", type := .double, accessFlags := 25, slot := 2, constantValue := 0 }, { name := "DEGREES_TO_RADIANS", type := .double, accessFlags := 26, slot := 3, constantValue := 0 }, { name := "RADIANS_TO_DEGREES", type := .double, accessFlags := 26, slot := 4, constantValue := 0 }, { name := "negativeZeroFloatBits", type := .long, accessFlags := 26, slot := 5, constantValue := 0 }, { name := "negativeZeroDoubleBits", type := .long, accessFlags := 26, slot := 6, constantValue := 0 }, { name := "twoToTheDoubleScaleUp", type := .double, accessFlags := 8, slot := 7, constantValue := 0 }, { name := "twoToTheDoubleScaleDown", type := .double, accessFlags := 8, slot := 8, constantValue := 0 }, { name := "$assertionsDisabled", type := .boolean, accessFlags := 4120, slot := 9, constantValue := 0 }]
  methods := #[k22m0, k22m1, k22m2]
  instanceTypes := #[]
  staticTypes := #[.double, .double, .double, .double, .double, .long, .long, .double, .double, .boolean]
  resolved := Array.replicate 460 none
  statics := none }

def pool23 : Array CpInfo := pool [(2, .class_ 4), (1, u "java/lang/Object"), (0, u "<init>"), (0, u "()V"), (35, .class_ 44), (1, u "java/util/Objects"), (60, .methodref 106 107), (0, .class_ 108), (0, .nameAndType 109 110), (0, u "jdk/internal/util/Preconditions"), (0, u "checkIndex"), (0, u "(IILjava/util/function/BiFunction;)I"), (60, u "(II)I")] 12

def k23m0 : Method := { name := "<init>", desc := "()V", sig := { parameters := [], returnType := none }, accessFlags := 2, code := none }
def k23c1 : Code := { maxStack := 3, maxLocals := 2, code := jdk_31_method_17_code, exceptionTable := #[], attributes := #[] }
def k23m1 : Method := { name := "checkIndex", desc := "(II)I", sig := { parameters := [.int, .int], returnType := some .int }, accessFlags := 9, code := some k23c1 }
/-- java/util/Objects -/
def k23 : Class := { plain "java/util/Objects" (some 0) with
  accessFlags := 49
  interfaces := #[]
  cf := some (fileOf pool23 42 #[] #[{ accessFlags := 2, nameIndex := 5, descriptorIndex := 6, attributes := #[] }, { accessFlags := 9, nameIndex := 109, descriptorIndex := 171, attributes := #[] }] 49 2 #[] #[])
  fields := #[]
  methods := #[k23m0, k23m1]
  instanceTypes := #[]
  staticTypes := #[]
  resolved := Array.replicate 184 none
  statics := none }

def pool24 : Array CpInfo := pool [(2, .class_ 4), (1, u "java/lang/Object"), (0, u "<init>"), (0, u "()V"), (17, .class_ 26), (1, u "jdk/internal/util/Preconditions"), (6, u "checkIndex"), (21, .class_ 56), (0, u "jdk/internal/util/Preconditions$4"), (57, .class_ 115), (0, u "jdk/internal/util/Preconditions$1"), (7, u "SIOOBE_FORMATTER"), (0, u "Ljava/util/function/BiFunction;"), (0, .class_ 126), (0, u "jdk/internal/util/Preconditions$2"), (3, u "AIOOBE_FORMATTER"), (0, .class_ 132), (0, u "jdk/internal/util/Preconditions$3"), (3, u "IOOBE_FORMATTER"), (41, u "(IILjava/util/function/BiFunction;)I")] 15

def k24m0 : Method := { name := "<init>", desc := "()V", sig := { parameters := [], returnType := none }, accessFlags := 1, code := none }
def k24c1 : Code := { maxStack := 3, maxLocals := 3, code := jdk_41_method_11_code, exceptionTable := #[], attributes := #[] }
def k24m1 : Method := { name := "checkIndex", desc := "(IILjava/util/function/BiFunction;)I", sig := { parameters := [.int, .int, (.object "java/util/function/BiFunction")], returnType := some .int }, accessFlags := 9, code := some k24c1 }
/-- jdk/internal/util/Preconditions -/
def k24 : Class := { plain "jdk/internal/util/Preconditions" (some 0) with
  accessFlags := 33
  interfaces := #[]
  cf := some (fileOf pool24 24 #[.nestMembers #[55, 131, 125, 114]] #[{ accessFlags := 1, nameIndex := 5, descriptorIndex := 6, attributes := #[] }, { accessFlags := 9, nameIndex := 33, descriptorIndex := 178, attributes := #[] }] 33 2 #[] #[{ accessFlags := 25, nameIndex := 123, descriptorIndex := 124, attributes := #[] }, { accessFlags := 25, nameIndex := 130, descriptorIndex := 124, attributes := #[] }, { accessFlags := 25, nameIndex := 136, descriptorIndex := 124, attributes := #[] }])
  fields := #[{ name := "SIOOBE_FORMATTER", type := (.object "java/util/function/BiFunction"), accessFlags := 25, slot := 0, constantValue := 0 }, { name := "AIOOBE_FORMATTER", type := (.object "java/util/function/BiFunction"), accessFlags := 25, slot := 1, constantValue := 0 }, { name := "IOOBE_FORMATTER", type := (.object "java/util/function/BiFunction"), accessFlags := 25, slot := 2, constantValue := 0 }]
  methods := #[k24m0, k24m1]
  instanceTypes := #[]
  staticTypes := #[(.object "java/util/function/BiFunction"), (.object "java/util/function/BiFunction"), (.object "java/util/function/BiFunction")]
  resolved := Array.replicate 194 none
  statics := none }

def pool25 : Array CpInfo := pool [(2, .class_ 4), (1, u "java/lang/Object"), (0, u "<init>"), (0, u "()V"), (1, .class_ 10), (1, u "java/lang/System"), (0, u "allowSecurityManager"), (0, u "I"), (16, u "cons"), (0, u "Ljava/io/Console;"), (77, .class_ 110), (1, u "java/lang/System$CallersHolder"), (43, u "initialErrStream"), (0, u "Ljava/io/PrintStream;"), (19, u "security"), (0, u "Ljava/lang/SecurityManager;"), (31, .class_ 209), (0, u "java/lang/System$1"), (7, u "props"), (0, u "Ljava/util/Properties;"), (2, u "lineSeparator"), (0, u "Ljava/lang/String;"), (96, .class_ 321), (1, u "java/lang/System$LoggerFinder"), (5, .class_ 328), (0, u "java/lang/System$Logger"), (67, u "err"), (2, u "out"), (91, u "notSupportedJnuEncoding"), (15, u "in"), (17, u "initialIn"), (0, u "Ljava/io/InputStream;"), (35, u "bootLayer"), (0, u "Ljava/lang/ModuleLayer;"), (99, .class_ 664), (0, u "java/lang/System$2"), (9, u "NEVER"), (2, u "MAYBE"), (49, u "arraycopy"), (0, u "(Ljava/lang/Object;ILjava/lang/Object;II)V"), (72, .class_ 802), (0, u "java/lang/System$Logger$Level")] 31

def k25m0 : Method := { name := "<init>", desc := "()V", sig := { parameters := [], returnType := none }, accessFlags := 2, code := none }
def k25m1 : Method := { name := "arraycopy", desc := "(Ljava/lang/Object;ILjava/lang/Object;II)V", sig := { parameters := [(.object "java/lang/Object"), .int, (.object "java/lang/Object"), .int, .int], returnType := none }, accessFlags := 265, code := none }
/-- java/lang/System -/
def k25 : Class := { plain "java/lang/System" (some 0) with
  accessFlags := 49
  interfaces := #[]
  cf := some (fileOf pool25 8 #[.nestMembers #[319, 327, 801, 108, 663, 208]] #[{ accessFlags := 2, nameIndex := 5, descriptorIndex := 6, attributes := #[] }, { accessFlags := 265, nameIndex := 727, descriptorIndex := 728, attributes := #[] }] 49 2 #[] #[{ accessFlags := 25, nameIndex := 507, descriptorIndex := 526, attributes := #[] }, { accessFlags := 25, nameIndex := 399, descriptorIndex := 155, attributes := #[] }, { accessFlags := 25, nameIndex := 396, descriptorIndex := 155, attributes := #[] }, { accessFlags := 10, nameIndex := 525, descriptorIndex := 526, attributes := #[] }, { accessFlags := 26, nameIndex := 674, descriptorIndex := 12, attributes := #[] }, { accessFlags := 26, nameIndex := 677, descriptorIndex := 12, attributes := #[] }, { accessFlags := 10, nameIndex := 11, descriptorIndex := 12, attributes := #[] }, { accessFlags := 74, nameIndex := 175, descriptorIndex := 176, attributes := #[] }, { accessFlags := 10, nameIndex := 491, descriptorIndex := 222, attributes := #[] }, { accessFlags := 74, nameIndex := 29, descriptorIndex := 30, attributes := #[] }, { accessFlags := 74, nameIndex := 154, descriptorIndex := 155, attributes := #[] }, { accessFlags := 10, nameIndex := 217, descriptorIndex := 218, attributes := #[] }, { accessFlags := 10, nameIndex := 221, descriptorIndex := 222, attributes := #[] }, { accessFlags := 8, nameIndex := 562, descriptorIndex := 563, attributes := #[] }])
  fields := #[{ name := "in", type := (.object "java/io/InputStream"), accessFlags := 25, slot := 0, constantValue := 0 }, { name := "out", type := (.object "java/io/PrintStream"), accessFlags := 25, slot := 1, constantValue := 0 }, { name := "err", type := (.object "java/io/PrintStream"), accessFlags := 25, slot := 2, constantValue := 0 }, { name := "initialIn", type := (.object "java/io/InputStream"), accessFlags := 10, slot := 3, constantValue := 0 }, { name := "NEVER", type := .int, accessFlags := 26, slot := 4, constantValue := 0 }, { name := "MAYBE", type := .int, accessFlags := 26, slot := 5, constantValue := 0 }, { name := "allowSecurityManager", type := .int, accessFlags := 10, slot := 6, constantValue := 0 }, { name := "security", type := (.object "java/lang/SecurityManager"), accessFlags := 74, slot := 7, constantValue := 0 }, { name := "notSupportedJnuEncoding", type := (.object "java/lang/String"), accessFlags := 10, slot := 8, constantValue := 0 }, { name := "cons", type := (.object "java/io/Console"), accessFlags := 74, slot := 9, constantValue := 0 }, { name := "initialErrStream", type := (.object "java/io/PrintStream"), accessFlags := 74, slot := 10, constantValue := 0 }, { name := "props", type := (.object "java/util/Properties"), accessFlags := 10, slot := 11, constantValue := 0 }, { name := "lineSeparator", type := (.object "java/lang/String"), accessFlags := 10, slot := 12, constantValue := 0 }, { name := "bootLayer", type := (.object "java/lang/ModuleLayer"), accessFlags := 8, slot := 13, constantValue := 0 }]
  methods := #[k25m0, k25m1]
  instanceTypes := #[]
  staticTypes := #[(.object "java/io/InputStream"), (.object "java/io/PrintStream"), (.object "java/io/PrintStream"), (.object "java/io/InputStream"), .int, .int, .int, (.object "java/lang/SecurityManager"), (.object "java/lang/String"), (.object "java/io/Console"), (.object "java/io/PrintStream"), (.object "java/util/Properties"), (.object "java/lang/String"), (.object "java/lang/ModuleLayer")]
  resolved := Array.replicate 834 none
  statics := none }

def pool26 : Array CpInfo := pool [(2, .class_ 4), (1, u "java/lang/Object"), (0, u "<init>"), (0, u "()V"), (6, .methodref 14 15), (0, .class_ 16), (0, .nameAndType 17 18), (0, u "java/util/Arrays"), (0, u "rangeCheck"), (0, u "(III)V"), (55, .class_ 76), (1, u "java/util/Arrays$NaturalOrder"), (36, .class_ 115), (1, u "java/util/Arrays$LegacyMergeSort"), (1, u "Z"), (128, .class_ 248), (1, u "jdk/internal/util/ArraysSupport"), (0, u "mismatch"), (25, .methodref 246 276), (0, .nameAndType 249 277), (0, u "([BI[BII)I"), (20, u "equals"), (76, .class_ 376), (0, u "java/util/Arrays$ArrayList"), (68, u "$assertionsDisabled"), (269, u "MIN_ARRAY_SORT_GRAN"), (0, u "I"), (2, u "INSERTIONSORT_THRESHOLD"), (111, u "([BII[BII)Z"), (143, .class_ 976), (0, u "java/util/Arrays$ArrayItr")] 52

def k26m0 : Method := { name := "<init>", desc := "()V", sig := { parameters := [], returnType := none }, accessFlags := 2, code := none }
def k26c1 : Code := { maxStack := 4, maxLocals := 3, code := jdk_65_method_30_code, exceptionTable := #[], attributes := #[] }
def k26m1 : Method := { name := "rangeCheck", desc := "(III)V", sig := { parameters := [.int, .int, .int], returnType := none }, accessFlags := 8, code := some k26c1 }
def k26c2 : Code := { maxStack := 5, maxLocals := 8, code := jdk_65_method_90_code, exceptionTable := #[], attributes := #[] }
def k26m2 : Method := { name := "equals", desc := "([BII[BII)Z", sig := { parameters := [(.array .byte), .int, .int, (.array .byte), .int, .int], returnType := some .boolean }, accessFlags := 9, code := some k26c2 }
/-- java/util/Arrays -/
def k26 : Class := { plain "java/util/Arrays" (some 0) with
  accessFlags := 49
  interfaces := #[]
  cf := some (fileOf pool26 14 #[.nestMembers #[975, 375, 113, 74]] #[{ accessFlags := 2, nameIndex := 5, descriptorIndex := 6, attributes := #[] }, { accessFlags := 8, nameIndex := 17, descriptorIndex := 18, attributes := #[] }, { accessFlags := 9, nameIndex := 298, descriptorIndex := 831, attributes := #[] }] 49 2 #[] #[{ accessFlags := 26, nameIndex := 715, descriptorIndex := 716, attributes := #[] }, { accessFlags := 26, nameIndex := 719, descriptorIndex := 716, attributes := #[] }, { accessFlags := 4120, nameIndex := 445, descriptorIndex := 117, attributes := #[] }])
  fields := #[{ name := "MIN_ARRAY_SORT_GRAN", type := .int, accessFlags := 26, slot := 0, constantValue := 0 }, { name := "INSERTIONSORT_THRESHOLD", type := .int, accessFlags := 26, slot := 1, constantValue := 0 }, { name := "$assertionsDisabled", type := .boolean, accessFlags := 4120, slot := 2, constantValue := 0 }]
  methods := #[k26m0, k26m1, k26m2]
  instanceTypes := #[]
  staticTypes := #[.int, .int, .boolean]
  resolved := Array.replicate 1029 none
  statics := none }

def pool27 : Array CpInfo := pool [(9, u "<init>"), (6, .class_ 18), (1, u "java/lang/Object"), (0, u "()V"), (1, .class_ 23), (1, u "jdk/internal/util/ArraysSupport"), (0, u "LOG2_ARRAY_LONG_INDEX_SCALE"), (0, u "I"), (2, u "U"), (0, u "Ljdk/internal/misc/Unsafe;"), (8, u "BIG_ENDIAN"), (0, u "Z"), (8, u "LOG2_BYTE_BIT_SIZE"), (4, u "LOG2_ARRAY_INT_INDEX_SCALE"), (54, u "JLA"), (0, u "Ljdk/internal/access/JavaLangAccess;"), (11, u "LOG2_ARRAY_BOOLEAN_INDEX_SCALE"), (9, u "LOG2_ARRAY_BYTE_INDEX_SCALE"), (5, u "LOG2_ARRAY_CHAR_INDEX_SCALE"), (5, u "LOG2_ARRAY_SHORT_INDEX_SCALE"), (5, u "mismatch"), (12, u "LOG2_ARRAY_FLOAT_INDEX_SCALE"), (24, u "LOG2_ARRAY_DOUBLE_INDEX_SCALE"), (89, u "T_BOOLEAN"), (2, u "T_CHAR"), (1, u "T_FLOAT"), (1, u "T_DOUBLE"), (1, u "T_BYTE"), (1, u "T_SHORT"), (1, u "T_INT"), (1, u "T_LONG"), (1, u "SOFT_MAX_ARRAY_LENGTH"), (42, u "([BI[BII)I")] 40

def k27m0 : Method := { name := "<init>", desc := "()V", sig := { parameters := [], returnType := none }, accessFlags := 2, code := none }
def k27c1 : Code := { maxStack := 8, maxLocals := 8, code := jdk_48_method_14_code, exceptionTable := #[], attributes := #[] }
def k27m1 : Method := { name := "mismatch", desc := "([BI[BII)I", sig := { parameters := [(.array .byte), .int, (.array .byte), .int, .int], returnType := some .int }, accessFlags := 9, code := some k27c1 }
/-- jdk/internal/util/ArraysSupport -/
def k27 : Class := { plain "jdk/internal/util/ArraysSupport" (some 0) with
  accessFlags := 33
  interfaces := #[]
  cf := some (fileOf pool27 21 #[] #[{ accessFlags := 2, nameIndex := 9, descriptorIndex := 19, attributes := #[] }, { accessFlags := 9, nameIndex := 149, descriptorIndex := 337, attributes := #[] }] 33 16 #[] #[{ accessFlags := 24, nameIndex := 28, descriptorIndex := 29, attributes := #[] }, { accessFlags := 26, nameIndex := 38, descriptorIndex := 39, attributes := #[] }, { accessFlags := 25, nameIndex := 121, descriptorIndex := 25, attributes := #[] }, { accessFlags := 25, nameIndex := 131, descriptorIndex := 25, attributes := #[] }, { accessFlags := 25, nameIndex := 137, descriptorIndex := 25, attributes := #[] }, { accessFlags := 25, nameIndex := 143, descriptorIndex := 25, attributes := #[] }, { accessFlags := 25, nameIndex := 53, descriptorIndex := 25, attributes := #[] }, { accessFlags := 25, nameIndex := 24, descriptorIndex := 25, attributes := #[] }, { accessFlags := 25, nameIndex := 162, descriptorIndex := 25, attributes := #[] }, { accessFlags := 25, nameIndex := 187, descriptorIndex := 25, attributes := #[] }, { accessFlags := 26, nameIndex := 48, descriptorIndex := 25, attributes := #[] }, { accessFlags := 25, nameIndex := 277, descriptorIndex := 25, attributes := #[] }, { accessFlags := 25, nameIndex := 280, descriptorIndex := 25, attributes := #[] }, { accessFlags := 25, nameIndex := 282, descriptorIndex := 25, attributes := #[] }, { accessFlags := 25, nameIndex := 284, descriptorIndex := 25, attributes := #[] }, { accessFlags := 25, nameIndex := 286, descriptorIndex := 25, attributes := #[] }, { accessFlags := 25, nameIndex := 288, descriptorIndex := 25, attributes := #[] }, { accessFlags := 25, nameIndex := 290, descriptorIndex := 25, attributes := #[] }, { accessFlags := 25, nameIndex := 292, descriptorIndex := 25, attributes := #[] }, { accessFlags := 26, nameIndex := 108, descriptorIndex := 109, attributes := #[] }, { accessFlags := 25, nameIndex := 294, descriptorIndex := 25, attributes := #[] }])
  fields := #[{ name := "U", type := (.object "jdk/internal/misc/Unsafe"), accessFlags := 24, slot := 0, constantValue := 0 }, { name := "BIG_ENDIAN", type := .boolean, accessFlags := 26, slot := 1, constantValue := 0 }, { name := "LOG2_ARRAY_BOOLEAN_INDEX_SCALE", type := .int, accessFlags := 25, slot := 2, constantValue := 0 }, { name := "LOG2_ARRAY_BYTE_INDEX_SCALE", type := .int, accessFlags := 25, slot := 3, constantValue := 0 }, { name := "LOG2_ARRAY_CHAR_INDEX_SCALE", type := .int, accessFlags := 25, slot := 4, constantValue := 0 }, { name := "LOG2_ARRAY_SHORT_INDEX_SCALE", type := .int, accessFlags := 25, slot := 5, constantValue := 0 }, { name := "LOG2_ARRAY_INT_INDEX_SCALE", type := .int, accessFlags := 25, slot := 6, constantValue := 0 }, { name := "LOG2_ARRAY_LONG_INDEX_SCALE", type := .int, accessFlags := 25, slot := 7, constantValue := 0 }, { name := "LOG2_ARRAY_FLOAT_INDEX_SCALE", type := .int, accessFlags := 25, slot := 8, constantValue := 0 }, { name := "LOG2_ARRAY_DOUBLE_INDEX_SCALE", type := .int, accessFlags := 25, slot := 9, constantValue := 0 }, { name := "LOG2_BYTE_BIT_SIZE", type := .int, accessFlags := 26, slot := 10, constantValue := 0 }, { name := "T_BOOLEAN", type := .int, accessFlags := 25, slot := 11, constantValue := 0 }, { name := "T_CHAR", type := .int, accessFlags := 25, slot := 12, constantValue := 0 }, { name := "T_FLOAT", type := .int, accessFlags := 25, slot := 13, constantValue := 0 }, { name := "T_DOUBLE", type := .int, accessFlags := 25, slot := 14, constantValue := 0 }, { name := "T_BYTE", type := .int, accessFlags := 25, slot := 15, constantValue := 0 }, { name := "T_SHORT", type := .int, accessFlags := 25, slot := 16, constantValue := 0 }, { name := "T_INT", type := .int, accessFlags := 25, slot := 17, constantValue := 0 }, { name := "T_LONG", type := .int, accessFlags := 25, slot := 18, constantValue := 0 }, { name := "JLA", type := (.object "jdk/internal/access/JavaLangAccess"), accessFlags := 26, slot := 19, constantValue := 0 }, { name := "SOFT_MAX_ARRAY_LENGTH", type := .int, accessFlags := 25, slot := 20, constantValue := 0 }]
  methods := #[k27m0, k27m1]
  instanceTypes := #[]
  staticTypes := #[(.object "jdk/internal/misc/Unsafe"), .boolean, .int, .int, .int, .int, .int, .int, .int, .int, .int, .int, .int, .int, .int, .int, .int, .int, .int, (.object "jdk/internal/access/JavaLangAccess"), .int]
  resolved := Array.replicate 378 none
  statics := none }

/-- the primitive byte -/
def k28 : Class := { plain "byte" none with kind := .primitive 'B', accessFlags := 0x411 }
/-- [B -/
def k29 : Class := { plain "[B" (some 0) with kind := .array 28 .byte, interfaces := #[10, 11], accessFlags := 1041 }

/-- the primitive int -/
def k30 : Class := { plain "int" none with kind := .primitive 'I', accessFlags := 0x411 }
/-- [I -/
def k31 : Class := { plain "[I" (some 0) with kind := .array 30 .int, interfaces := #[10, 11], accessFlags := 1041 }

/-- the primitive long -/
def k32 : Class := { plain "long" none with kind := .primitive 'J', accessFlags := 0x411 }
/-- [J -/
def k33 : Class := { plain "[J" (some 0) with kind := .array 32 .long, interfaces := #[10, 11], accessFlags := 1041 }

/-- [Ljava/lang/Object; -/
def k34 : Class := { plain "[Ljava/lang/Object;" (some 0) with kind := .array 0 (.object "java/lang/Object"), interfaces := #[10, 11], accessFlags := 1041 }

def heap : Heap := #[{ cls := 12, slots := #[.long 0, .int 0, .ref 1, .ref 2], vm := .statics 12 },
  { cls := 34, slots := #[], vm := .none },
  { cls := 34, slots := #[], vm := .none }]
def classes : Array Class := #[k0, k1, k2, k3, k4, k5, k6, k7, k8, k9, k10, k11, k12, k13, k14, k15, k16, k17, k18, k19, k20, k21, k22, k23, k24, k25, k26, k27, k28, k29, k30, k31, k32, k33, k34]
def interned : List (Array UInt16 × Addr) := []
def slotsUsed : Nat := 4
def theMethod : MethodId := ⟨1, 1⟩
def args0 : Array Value := #[.int 5, .int 6, .int 7, .int 2]
def aboutOver (below : List Frame) : State where
  vm := { classes := classes, interned := interned.toArray }
  heap := heap
  slotsUsed := slotsUsed
  threads := #[{ frames := .invoking theMethod args0 :: below }]
def below0 : List Frame := [.native { method := ⟨0, 0⟩, args := #[] }]
def about1 : State := aboutOver below0
def p0 : Program := .bare "" "" ""
def e0 : Env := launch0.env 0 0 0
theorem w_frames : about1.frames = Frame.invoking theMethod args0 :: below0 := rfl
set_option maxRecDepth 65536 in
theorem w_args : argsFit about1.vm theMethod args0 = true := by decide +kernel
set_option maxRecDepth 65536 in
theorem w_heap : heapFits about1 = true := by decide +kernel
set_option maxRecDepth 65536 in
theorem w_runnable : about1.curStatus? = some .runnable := by decide +kernel
set_option maxRecDepth 65536 in
theorem w_alone : about1.alone = true := by decide +kernel
set_option maxRecDepth 65536 in
theorem w_named : about1.methodNamed? x = some theMethod := by decide +kernel
set_option maxRecDepth 65536 in
theorem w_hears : about1.hears theMethod below0 = true := by decide +kernel
set_option maxRecDepth 65536 in
theorem w_ripe : about1.ripe theMethod args0 below0 = true := by decide +kernel
theorem w_running : about1.status = .running := rfl
set_option maxRecDepth 65536 in
theorem w_room : about1.hasRoom e0.platform room_1 = true :=
  launch0.hasRoom_least _ room_1 (by decide +kernel) (by decide +kernel) (by decide +kernel) (by decide +kernel) (by decide +kernel) (by decide +kernel)
theorem allAtoms_all (ts : List Jvm.Cond) (a : Array Jvm.Value) (st : Jvm.State) : (allAtoms ts).before a st = ts.all (fun c => c.before a st) := by
  induction ts with
  | nil => rfl
  | cons c t ih =>
    show (Jvm.Cond.and c (allAtoms t)).before a st = _
    rw [Jvm.Cond.before_and, ih, List.all_cons]
def words1 : List Jvm.Cond := Jvm.Cond.code x code maxLocals ret :: tables_1
/-- a 'code' word, met by the world's own term for the bytes: nothing is compared byte by byte -/
theorem code_word {y : MethodName} {bytes : ByteArray} {mx : Nat} {rt : Option FieldType} {a : Array Value} {s : State} {m : MethodId} {meth : Method} {c : Code} (h1 : s.methodNamed? y = some m) (h2 : s.vm.method? m = some meth) (h3 : meth.code = some c) (h4 : c.code = bytes)
    (h5 : (c.maxLocals == mx && c.exceptionTable.isEmpty && decide (c.maxStack ≤ mostOperands) && decide (meth.sig.returnType = rt) && !meth.locks && decide (parseMethodDescriptor y.desc = some meth.sig)) = true) : (Jvm.Cond.code y bytes mx rt).before a s = true := by
  simp only [Bool.and_eq_true, beq_iff_eq, Bool.not_eq_true', decide_eq_true_eq] at h5
  obtain ⟨⟨⟨⟨⟨g1, g2⟩, g3⟩, g4⟩, g5⟩, g6⟩ := h5
  simp [Cond.before, Cond.holds, Cond.value, h1, h2, h3, h4, g1, g2, g3, g4, g5, g6]
def isCode : Jvm.Cond → Bool
  | .code _ _ _ _ => true
  | _ => false
theorem all_split {L : List Jvm.Cond} {P : Jvm.Cond → Bool} (h1 : L.all (fun c => isCode c || P c) = true) (h2 : ∀ c ∈ L.filter isCode, P c = true) : L.all P = true := by
  refine List.all_eq_true.mpr fun c hc => ?_
  have h := List.all_eq_true.mp h1 c hc
  rcases Bool.eq_false_or_eq_true (isCode c) with hi | hi
  · exact h2 c (List.mem_filter.mpr ⟨hc, hi⟩)
  · simpa [hi] using h
set_option maxRecDepth 65536 in
theorem w_c0 : (Jvm.Cond.code x code maxLocals ret).before args0 about1 = true := code_word (m := ⟨1, 1⟩) (meth := k1m1) (c := k1c1) (by decide +kernel) rfl rfl rfl (by decide +kernel)
set_option maxRecDepth 65536 in
theorem w_c1 : (Jvm.Cond.code ({ cls := "com/example/statera/statera/engine/ReachedStates", name := "<init>", desc := "(I)V" } : Jvm.MethodName) prog_19_method_1_code (2 : Nat) (Option.none : Option Jvm.ClassFile.FieldType)).before args0 about1 = true := code_word (m := ⟨2, 0⟩) (meth := k2m0) (c := k2c0) (by decide +kernel) rfl rfl rfl (by decide +kernel)
set_option maxRecDepth 65536 in
theorem w_c2 : (Jvm.Cond.code ({ cls := "java/lang/Object", name := "<init>", desc := "()V" } : Jvm.MethodName) object_method_1_code (1 : Nat) (Option.none : Option Jvm.ClassFile.FieldType)).before args0 about1 = true := code_word (m := ⟨0, 0⟩) (meth := k0m0) (c := k0c0) (by decide +kernel) rfl rfl rfl (by decide +kernel)
set_option maxRecDepth 65536 in
theorem w_c3 : (Jvm.Cond.code ({ cls := "java/util/ArrayList", name := "<init>", desc := "()V" } : Jvm.MethodName) jdk_38_method_2_code (1 : Nat) (Option.none : Option Jvm.ClassFile.FieldType)).before args0 about1 = true := code_word (m := ⟨12, 0⟩) (meth := k12m0) (c := k12c0) (by decide +kernel) rfl rfl rfl (by decide +kernel)
set_option maxRecDepth 65536 in
theorem w_c4 : (Jvm.Cond.code ({ cls := "java/util/AbstractList", name := "<init>", desc := "()V" } : Jvm.MethodName) jdk_39_method_1_code (1 : Nat) (Option.none : Option Jvm.ClassFile.FieldType)).before args0 about1 = true := code_word (m := ⟨8, 0⟩) (meth := k8m0) (c := k8c0) (by decide +kernel) rfl rfl rfl (by decide +kernel)
set_option maxRecDepth 65536 in
theorem w_c5 : (Jvm.Cond.code ({ cls := "java/util/AbstractCollection", name := "<init>", desc := "()V" } : Jvm.MethodName) jdk_22_method_1_code (1 : Nat) (Option.none : Option Jvm.ClassFile.FieldType)).before args0 about1 = true := code_word (m := ⟨5, 0⟩) (meth := k5m0) (c := k5c0) (by decide +kernel) rfl rfl rfl (by decide +kernel)
set_option maxRecDepth 65536 in
theorem w_c6 : (Jvm.Cond.code ({ cls := "com/example/statera/statera/engine/ReachedStates$States", name := "<init>", desc := "(Lcom/example/statera/statera/engine/ReachedStates;)V" } : Jvm.MethodName) prog_20_method_1_code (2 : Nat) (Option.none : Option Jvm.ClassFile.FieldType)).before args0 about1 = true := code_word (m := ⟨15, 0⟩) (meth := k15m0) (c := k15c0) (by decide +kernel) rfl rfl rfl (by decide +kernel)
set_option maxRecDepth 65536 in
theorem w_c7 : (Jvm.Cond.code ({ cls := "com/example/statera/statera/engine/IdTable", name := "<init>", desc := "(Lcom/example/statera/statera/engine/IdTable$Items;)V" } : Jvm.MethodName) prog_10_method_1_code (2 : Nat) (Option.none : Option Jvm.ClassFile.FieldType)).before args0 about1 = true := code_word (m := ⟨13, 0⟩) (meth := k13m0) (c := k13c0) (by decide +kernel) rfl rfl rfl (by decide +kernel)
set_option maxRecDepth 65536 in
theorem w_c8 : (Jvm.Cond.code ({ cls := "java/lang/Long", name := "numberOfLeadingZeros", desc := "(J)I" } : Jvm.MethodName) jdk_35_method_48_code (3 : Nat) (Option.some Jvm.ClassFile.FieldType.int)).before args0 about1 = true := code_word (m := ⟨20, 0⟩) (meth := k20m0) (c := k20c0) (by decide +kernel) rfl rfl rfl (by decide +kernel)
set_option maxRecDepth 65536 in
theorem w_c9 : (Jvm.Cond.code ({ cls := "java/lang/Integer", name := "numberOfLeadingZeros", desc := "(I)I" } : Jvm.MethodName) jdk_33_method_47_code (2 : Nat) (Option.some Jvm.ClassFile.FieldType.int)).before args0 about1 = true := code_word (m := ⟨21, 0⟩) (meth := k21m0) (c := k21c0) (by decide +kernel) rfl rfl rfl (by decide +kernel)
set_option maxRecDepth 65536 in
theorem w_c10 : (Jvm.Cond.code ({ cls := "com/example/statera/statera/engine/ReachedStates", name := "hasUnexplored", desc := "()Z" } : Jvm.MethodName) prog_19_method_6_code (1 : Nat) (Option.some Jvm.ClassFile.FieldType.boolean)).before args0 about1 = true := code_word (m := ⟨2, 2⟩) (meth := k2m2) (c := k2c2) (by decide +kernel) rfl rfl rfl (by decide +kernel)
set_option maxRecDepth 65536 in
theorem w_c11 : (Jvm.Cond.code ({ cls := "com/example/statera/statera/engine/ReachedStates", name := "add", desc := "([I)Z" } : Jvm.MethodName) prog_19_method_2_code (7 : Nat) (Option.some Jvm.ClassFile.FieldType.boolean)).before args0 about1 = true := code_word (m := ⟨2, 1⟩) (meth := k2m1) (c := k2c1) (by decide +kernel) rfl rfl rfl (by decide +kernel)
set_option maxRecDepth 65536 in
theorem w_c12 : (Jvm.Cond.code ({ cls := "com/example/statera/statera/engine/ReachedStates", name := "write", desc := "(II)I" } : Jvm.MethodName) prog_19_method_8_code (5 : Nat) (Option.some Jvm.ClassFile.FieldType.int)).before args0 about1 = true := code_word (m := ⟨2, 4⟩) (meth := k2m4) (c := k2c4) (by decide +kernel) rfl rfl rfl (by decide +kernel)
set_option maxRecDepth 65536 in
theorem w_c13 : (Jvm.Cond.code ({ cls := "com/example/statera/statera/engine/ReachedStates", name := "hash", desc := "([I)J" } : Jvm.MethodName) prog_19_method_15_code (7 : Nat) (Option.some Jvm.ClassFile.FieldType.long)).before args0 about1 = true := code_word (m := ⟨2, 11⟩) (meth := k2m11) (c := k2c11) (by decide +kernel) rfl rfl rfl (by decide +kernel)
set_option maxRecDepth 65536 in
theorem w_c14 : (Jvm.Cond.code ({ cls := "com/example/statera/statera/engine/IdTable", name := "mix", desc := "(J)J" } : Jvm.MethodName) prog_10_method_6_code (4 : Nat) (Option.some Jvm.ClassFile.FieldType.long)).before args0 about1 = true := code_word (m := ⟨13, 2⟩) (meth := k13m2) (c := k13c2) (by decide +kernel) rfl rfl rfl (by decide +kernel)
set_option maxRecDepth 65536 in
theorem w_c15 : (Jvm.Cond.code ({ cls := "com/example/statera/statera/engine/IdTable", name := "findOrAdd", desc := "(JJ)J" } : Jvm.MethodName) prog_10_method_2_code (11 : Nat) (Option.some Jvm.ClassFile.FieldType.long)).before args0 about1 = true := code_word (m := ⟨13, 1⟩) (meth := k13m1) (c := k13c1) (by decide +kernel) rfl rfl rfl (by decide +kernel)
set_option maxRecDepth 65536 in
theorem w_c16 : (Jvm.Cond.code ({ cls := "com/example/statera/statera/engine/ReachedStates", name := "append", desc := "(I)V" } : Jvm.MethodName) prog_19_method_11_code (5 : Nat) (Option.none : Option Jvm.ClassFile.FieldType)).before args0 about1 = true := code_word (m := ⟨2, 7⟩) (meth := k2m7) (c := k2c7) (by decide +kernel) rfl rfl rfl (by decide +kernel)
set_option maxRecDepth 65536 in
theorem w_c17 : (Jvm.Cond.code ({ cls := "com/example/statera/statera/engine/ReachedStates", name := "blockOf", desc := "(J)I" } : Jvm.MethodName) prog_19_method_13_code (2 : Nat) (Option.some Jvm.ClassFile.FieldType.int)).before args0 about1 = true := code_word (m := ⟨2, 9⟩) (meth := k2m9) (c := k2c9) (by decide +kernel) rfl rfl rfl (by decide +kernel)
set_option maxRecDepth 65536 in
theorem w_c18 : (Jvm.Cond.code ({ cls := "java/util/ArrayList", name := "size", desc := "()I" } : Jvm.MethodName) jdk_38_method_8_code (1 : Nat) (Option.some Jvm.ClassFile.FieldType.int)).before args0 about1 = true := code_word (m := ⟨12, 3⟩) (meth := k12m3) (c := k12c3) (by decide +kernel) rfl rfl rfl (by decide +kernel)
set_option maxRecDepth 65536 in
theorem w_c19 : (Jvm.Cond.code ({ cls := "java/util/ArrayList", name := "add", desc := "(Ljava/lang/Object;)Z" } : Jvm.MethodName) jdk_38_method_25_code (2 : Nat) (Option.some Jvm.ClassFile.FieldType.boolean)).before args0 about1 = true := code_word (m := ⟨12, 7⟩) (meth := k12m7) (c := k12c7) (by decide +kernel) rfl rfl rfl (by decide +kernel)
set_option maxRecDepth 65536 in
theorem w_c20 : (Jvm.Cond.code ({ cls := "java/util/ArrayList", name := "add", desc := "(Ljava/lang/Object;[Ljava/lang/Object;I)V" } : Jvm.MethodName) jdk_38_method_24_code (4 : Nat) (Option.none : Option Jvm.ClassFile.FieldType)).before args0 about1 = true := code_word (m := ⟨12, 6⟩) (meth := k12m6) (c := k12c6) (by decide +kernel) rfl rfl rfl (by decide +kernel)
set_option maxRecDepth 65536 in
theorem w_c21 : (Jvm.Cond.code ({ cls := "java/util/ArrayList", name := "grow", desc := "()[Ljava/lang/Object;" } : Jvm.MethodName) jdk_38_method_7_code (1 : Nat) (Option.some (Jvm.ClassFile.FieldType.array (Jvm.ClassFile.FieldType.object "java/lang/Object")))).before args0 about1 = true := code_word (m := ⟨12, 2⟩) (meth := k12m2) (c := k12c2) (by decide +kernel) rfl rfl rfl (by decide +kernel)
set_option maxRecDepth 65536 in
theorem w_c22 : (Jvm.Cond.code ({ cls := "java/util/ArrayList", name := "grow", desc := "(I)[Ljava/lang/Object;" } : Jvm.MethodName) jdk_38_method_6_code (4 : Nat) (Option.some (Jvm.ClassFile.FieldType.array (Jvm.ClassFile.FieldType.object "java/lang/Object")))).before args0 about1 = true := code_word (m := ⟨12, 1⟩) (meth := k12m1) (c := k12c1) (by decide +kernel) rfl rfl rfl (by decide +kernel)
set_option maxRecDepth 65536 in
theorem w_c23 : (Jvm.Cond.code ({ cls := "java/lang/Math", name := "max", desc := "(II)I" } : Jvm.MethodName) jdk_29_method_65_code (2 : Nat) (Option.some Jvm.ClassFile.FieldType.int)).before args0 about1 = true := code_word (m := ⟨22, 1⟩) (meth := k22m1) (c := k22c1) (by decide +kernel) rfl rfl rfl (by decide +kernel)
set_option maxRecDepth 65536 in
theorem w_c24 : (Jvm.Cond.code ({ cls := "com/example/statera/statera/engine/ReachedStates", name := "offsetOf", desc := "(J)I" } : Jvm.MethodName) prog_19_method_14_code (2 : Nat) (Option.some Jvm.ClassFile.FieldType.int)).before args0 about1 = true := code_word (m := ⟨2, 10⟩) (meth := k2m10) (c := k2c10) (by decide +kernel) rfl rfl rfl (by decide +kernel)
set_option maxRecDepth 65536 in
theorem w_c25 : (Jvm.Cond.code ({ cls := "java/lang/Math", name := "min", desc := "(II)I" } : Jvm.MethodName) jdk_29_method_69_code (2 : Nat) (Option.some Jvm.ClassFile.FieldType.int)).before args0 about1 = true := code_word (m := ⟨22, 2⟩) (meth := k22m2) (c := k22c2) (by decide +kernel) rfl rfl rfl (by decide +kernel)
set_option maxRecDepth 65536 in
theorem w_c26 : (Jvm.Cond.code ({ cls := "java/util/ArrayList", name := "get", desc := "(I)Ljava/lang/Object;" } : Jvm.MethodName) jdk_38_method_20_code (2 : Nat) (Option.some (Jvm.ClassFile.FieldType.object "java/lang/Object"))).before args0 about1 = true := code_word (m := ⟨12, 5⟩) (meth := k12m5) (c := k12c5) (by decide +kernel) rfl rfl rfl (by decide +kernel)
set_option maxRecDepth 65536 in
theorem w_c27 : (Jvm.Cond.code ({ cls := "java/util/Objects", name := "checkIndex", desc := "(II)I" } : Jvm.MethodName) jdk_31_method_17_code (2 : Nat) (Option.some Jvm.ClassFile.FieldType.int)).before args0 about1 = true := code_word (m := ⟨23, 1⟩) (meth := k23m1) (c := k23c1) (by decide +kernel) rfl rfl rfl (by decide +kernel)
set_option maxRecDepth 65536 in
theorem w_c28 : (Jvm.Cond.code ({ cls := "jdk/internal/util/Preconditions", name := "checkIndex", desc := "(IILjava/util/function/BiFunction;)I" } : Jvm.MethodName) jdk_41_method_11_code (3 : Nat) (Option.some Jvm.ClassFile.FieldType.int)).before args0 about1 = true := code_word (m := ⟨24, 1⟩) (meth := k24m1) (c := k24c1) (by decide +kernel) rfl rfl rfl (by decide +kernel)
set_option maxRecDepth 65536 in
theorem w_c29 : (Jvm.Cond.code ({ cls := "java/util/ArrayList", name := "elementData", desc := "(I)Ljava/lang/Object;" } : Jvm.MethodName) jdk_38_method_18_code (2 : Nat) (Option.some (Jvm.ClassFile.FieldType.object "java/lang/Object"))).before args0 about1 = true := code_word (m := ⟨12, 4⟩) (meth := k12m4) (c := k12c4) (by decide +kernel) rfl rfl rfl (by decide +kernel)
set_option maxRecDepth 65536 in
theorem w_c30 : (Jvm.Cond.code ({ cls := "com/example/statera/statera/engine/ReachedStates", name := "takeUnexplored", desc := "([I)V" } : Jvm.MethodName) prog_19_method_7_code (2 : Nat) (Option.none : Option Jvm.ClassFile.FieldType)).before args0 about1 = true := code_word (m := ⟨2, 3⟩) (meth := k2m3) (c := k2c3) (by decide +kernel) rfl rfl rfl (by decide +kernel)
set_option maxRecDepth 65536 in
theorem w_c31 : (Jvm.Cond.code ({ cls := "com/example/statera/statera/engine/ReachedStates", name := "read", desc := "(J[I)J" } : Jvm.MethodName) prog_19_method_9_code (10 : Nat) (Option.some Jvm.ClassFile.FieldType.long)).before args0 about1 = true := code_word (m := ⟨2, 5⟩) (meth := k2m5) (c := k2c5) (by decide +kernel) rfl rfl rfl (by decide +kernel)
set_option maxRecDepth 65536 in
theorem w_c32 : (Jvm.Cond.code ({ cls := "com/example/statera/statera/engine/ReachedStates", name := "byteAt", desc := "(J)B" } : Jvm.MethodName) prog_19_method_12_code (3 : Nat) (Option.some Jvm.ClassFile.FieldType.byte)).before args0 about1 = true := code_word (m := ⟨2, 8⟩) (meth := k2m8) (c := k2c8) (by decide +kernel) rfl rfl rfl (by decide +kernel)
set_option maxRecDepth 65536 in
theorem w_c33 : (Jvm.Cond.code ({ cls := "com/example/statera/statera/engine/ReachedStates$States", name := "matches", desc := "(J)Z" } : Jvm.MethodName) prog_20_method_2_code (3 : Nat) (Option.some Jvm.ClassFile.FieldType.boolean)).before args0 about1 = true := code_word (m := ⟨15, 1⟩) (meth := k15m1) (c := k15c1) (by decide +kernel) rfl rfl rfl (by decide +kernel)
set_option maxRecDepth 65536 in
theorem w_c34 : (Jvm.Cond.code ({ cls := "com/example/statera/statera/engine/ReachedStates", name := "holds", desc := "(JI)Z" } : Jvm.MethodName) prog_19_method_10_code (10 : Nat) (Option.some Jvm.ClassFile.FieldType.boolean)).before args0 about1 = true := code_word (m := ⟨2, 6⟩) (meth := k2m6) (c := k2c6) (by decide +kernel) rfl rfl rfl (by decide +kernel)
set_option maxRecDepth 65536 in
theorem w_c35 : (Jvm.Cond.code ({ cls := "java/util/Arrays", name := "equals", desc := "([BII[BII)Z" } : Jvm.MethodName) jdk_65_method_90_code (8 : Nat) (Option.some Jvm.ClassFile.FieldType.boolean)).before args0 about1 = true := code_word (m := ⟨26, 2⟩) (meth := k26m2) (c := k26c2) (by decide +kernel) rfl rfl rfl (by decide +kernel)
set_option maxRecDepth 65536 in
theorem w_c36 : (Jvm.Cond.code ({ cls := "java/util/Arrays", name := "rangeCheck", desc := "(III)V" } : Jvm.MethodName) jdk_65_method_30_code (3 : Nat) (Option.none : Option Jvm.ClassFile.FieldType)).before args0 about1 = true := code_word (m := ⟨26, 1⟩) (meth := k26m1) (c := k26c1) (by decide +kernel) rfl rfl rfl (by decide +kernel)
set_option maxRecDepth 65536 in
theorem w_c37 : (Jvm.Cond.code ({ cls := "jdk/internal/util/ArraysSupport", name := "mismatch", desc := "([BI[BII)I" } : Jvm.MethodName) jdk_48_method_14_code (8 : Nat) (Option.some Jvm.ClassFile.FieldType.int)).before args0 about1 = true := code_word (m := ⟨27, 1⟩) (meth := k27m1) (c := k27c1) (by decide +kernel) rfl rfl rfl (by decide +kernel)
def codes1 : List Jvm.Cond := [Jvm.Cond.code x code maxLocals ret, Jvm.Cond.code ({ cls := "com/example/statera/statera/engine/ReachedStates", name := "<init>", desc := "(I)V" } : Jvm.MethodName) prog_19_method_1_code (2 : Nat) (Option.none : Option Jvm.ClassFile.FieldType), Jvm.Cond.code ({ cls := "java/lang/Object", name := "<init>", desc := "()V" } : Jvm.MethodName) object_method_1_code (1 : Nat) (Option.none : Option Jvm.ClassFile.FieldType), Jvm.Cond.code ({ cls := "java/util/ArrayList", name := "<init>", desc := "()V" } : Jvm.MethodName) jdk_38_method_2_code (1 : Nat) (Option.none : Option Jvm.ClassFile.FieldType), Jvm.Cond.code ({ cls := "java/util/AbstractList", name := "<init>", desc := "()V" } : Jvm.MethodName) jdk_39_method_1_code (1 : Nat) (Option.none : Option Jvm.ClassFile.FieldType), Jvm.Cond.code ({ cls := "java/util/AbstractCollection", name := "<init>", desc := "()V" } : Jvm.MethodName) jdk_22_method_1_code (1 : Nat) (Option.none : Option Jvm.ClassFile.FieldType), Jvm.Cond.code ({ cls := "com/example/statera/statera/engine/ReachedStates$States", name := "<init>", desc := "(Lcom/example/statera/statera/engine/ReachedStates;)V" } : Jvm.MethodName) prog_20_method_1_code (2 : Nat) (Option.none : Option Jvm.ClassFile.FieldType), Jvm.Cond.code ({ cls := "com/example/statera/statera/engine/IdTable", name := "<init>", desc := "(Lcom/example/statera/statera/engine/IdTable$Items;)V" } : Jvm.MethodName) prog_10_method_1_code (2 : Nat) (Option.none : Option Jvm.ClassFile.FieldType), Jvm.Cond.code ({ cls := "java/lang/Long", name := "numberOfLeadingZeros", desc := "(J)I" } : Jvm.MethodName) jdk_35_method_48_code (3 : Nat) (Option.some Jvm.ClassFile.FieldType.int), Jvm.Cond.code ({ cls := "java/lang/Integer", name := "numberOfLeadingZeros", desc := "(I)I" } : Jvm.MethodName) jdk_33_method_47_code (2 : Nat) (Option.some Jvm.ClassFile.FieldType.int), Jvm.Cond.code ({ cls := "com/example/statera/statera/engine/ReachedStates", name := "hasUnexplored", desc := "()Z" } : Jvm.MethodName) prog_19_method_6_code (1 : Nat) (Option.some Jvm.ClassFile.FieldType.boolean), Jvm.Cond.code ({ cls := "com/example/statera/statera/engine/ReachedStates", name := "add", desc := "([I)Z" } : Jvm.MethodName) prog_19_method_2_code (7 : Nat) (Option.some Jvm.ClassFile.FieldType.boolean), Jvm.Cond.code ({ cls := "com/example/statera/statera/engine/ReachedStates", name := "write", desc := "(II)I" } : Jvm.MethodName) prog_19_method_8_code (5 : Nat) (Option.some Jvm.ClassFile.FieldType.int), Jvm.Cond.code ({ cls := "com/example/statera/statera/engine/ReachedStates", name := "hash", desc := "([I)J" } : Jvm.MethodName) prog_19_method_15_code (7 : Nat) (Option.some Jvm.ClassFile.FieldType.long), Jvm.Cond.code ({ cls := "com/example/statera/statera/engine/IdTable", name := "mix", desc := "(J)J" } : Jvm.MethodName) prog_10_method_6_code (4 : Nat) (Option.some Jvm.ClassFile.FieldType.long), Jvm.Cond.code ({ cls := "com/example/statera/statera/engine/IdTable", name := "findOrAdd", desc := "(JJ)J" } : Jvm.MethodName) prog_10_method_2_code (11 : Nat) (Option.some Jvm.ClassFile.FieldType.long), Jvm.Cond.code ({ cls := "com/example/statera/statera/engine/ReachedStates", name := "append", desc := "(I)V" } : Jvm.MethodName) prog_19_method_11_code (5 : Nat) (Option.none : Option Jvm.ClassFile.FieldType), Jvm.Cond.code ({ cls := "com/example/statera/statera/engine/ReachedStates", name := "blockOf", desc := "(J)I" } : Jvm.MethodName) prog_19_method_13_code (2 : Nat) (Option.some Jvm.ClassFile.FieldType.int), Jvm.Cond.code ({ cls := "java/util/ArrayList", name := "size", desc := "()I" } : Jvm.MethodName) jdk_38_method_8_code (1 : Nat) (Option.some Jvm.ClassFile.FieldType.int), Jvm.Cond.code ({ cls := "java/util/ArrayList", name := "add", desc := "(Ljava/lang/Object;)Z" } : Jvm.MethodName) jdk_38_method_25_code (2 : Nat) (Option.some Jvm.ClassFile.FieldType.boolean), Jvm.Cond.code ({ cls := "java/util/ArrayList", name := "add", desc := "(Ljava/lang/Object;[Ljava/lang/Object;I)V" } : Jvm.MethodName) jdk_38_method_24_code (4 : Nat) (Option.none : Option Jvm.ClassFile.FieldType), Jvm.Cond.code ({ cls := "java/util/ArrayList", name := "grow", desc := "()[Ljava/lang/Object;" } : Jvm.MethodName) jdk_38_method_7_code (1 : Nat) (Option.some (Jvm.ClassFile.FieldType.array (Jvm.ClassFile.FieldType.object "java/lang/Object"))), Jvm.Cond.code ({ cls := "java/util/ArrayList", name := "grow", desc := "(I)[Ljava/lang/Object;" } : Jvm.MethodName) jdk_38_method_6_code (4 : Nat) (Option.some (Jvm.ClassFile.FieldType.array (Jvm.ClassFile.FieldType.object "java/lang/Object"))), Jvm.Cond.code ({ cls := "java/lang/Math", name := "max", desc := "(II)I" } : Jvm.MethodName) jdk_29_method_65_code (2 : Nat) (Option.some Jvm.ClassFile.FieldType.int), Jvm.Cond.code ({ cls := "com/example/statera/statera/engine/ReachedStates", name := "offsetOf", desc := "(J)I" } : Jvm.MethodName) prog_19_method_14_code (2 : Nat) (Option.some Jvm.ClassFile.FieldType.int), Jvm.Cond.code ({ cls := "java/lang/Math", name := "min", desc := "(II)I" } : Jvm.MethodName) jdk_29_method_69_code (2 : Nat) (Option.some Jvm.ClassFile.FieldType.int), Jvm.Cond.code ({ cls := "java/util/ArrayList", name := "get", desc := "(I)Ljava/lang/Object;" } : Jvm.MethodName) jdk_38_method_20_code (2 : Nat) (Option.some (Jvm.ClassFile.FieldType.object "java/lang/Object")), Jvm.Cond.code ({ cls := "java/util/Objects", name := "checkIndex", desc := "(II)I" } : Jvm.MethodName) jdk_31_method_17_code (2 : Nat) (Option.some Jvm.ClassFile.FieldType.int), Jvm.Cond.code ({ cls := "jdk/internal/util/Preconditions", name := "checkIndex", desc := "(IILjava/util/function/BiFunction;)I" } : Jvm.MethodName) jdk_41_method_11_code (3 : Nat) (Option.some Jvm.ClassFile.FieldType.int), Jvm.Cond.code ({ cls := "java/util/ArrayList", name := "elementData", desc := "(I)Ljava/lang/Object;" } : Jvm.MethodName) jdk_38_method_18_code (2 : Nat) (Option.some (Jvm.ClassFile.FieldType.object "java/lang/Object")), Jvm.Cond.code ({ cls := "com/example/statera/statera/engine/ReachedStates", name := "takeUnexplored", desc := "([I)V" } : Jvm.MethodName) prog_19_method_7_code (2 : Nat) (Option.none : Option Jvm.ClassFile.FieldType), Jvm.Cond.code ({ cls := "com/example/statera/statera/engine/ReachedStates", name := "read", desc := "(J[I)J" } : Jvm.MethodName) prog_19_method_9_code (10 : Nat) (Option.some Jvm.ClassFile.FieldType.long), Jvm.Cond.code ({ cls := "com/example/statera/statera/engine/ReachedStates", name := "byteAt", desc := "(J)B" } : Jvm.MethodName) prog_19_method_12_code (3 : Nat) (Option.some Jvm.ClassFile.FieldType.byte), Jvm.Cond.code ({ cls := "com/example/statera/statera/engine/ReachedStates$States", name := "matches", desc := "(J)Z" } : Jvm.MethodName) prog_20_method_2_code (3 : Nat) (Option.some Jvm.ClassFile.FieldType.boolean), Jvm.Cond.code ({ cls := "com/example/statera/statera/engine/ReachedStates", name := "holds", desc := "(JI)Z" } : Jvm.MethodName) prog_19_method_10_code (10 : Nat) (Option.some Jvm.ClassFile.FieldType.boolean), Jvm.Cond.code ({ cls := "java/util/Arrays", name := "equals", desc := "([BII[BII)Z" } : Jvm.MethodName) jdk_65_method_90_code (8 : Nat) (Option.some Jvm.ClassFile.FieldType.boolean), Jvm.Cond.code ({ cls := "java/util/Arrays", name := "rangeCheck", desc := "(III)V" } : Jvm.MethodName) jdk_65_method_30_code (3 : Nat) (Option.none : Option Jvm.ClassFile.FieldType), Jvm.Cond.code ({ cls := "jdk/internal/util/ArraysSupport", name := "mismatch", desc := "([BI[BII)I" } : Jvm.MethodName) jdk_48_method_14_code (8 : Nat) (Option.some Jvm.ClassFile.FieldType.int)]
set_option maxRecDepth 65536 in
theorem codes_eq : words1.filter isCode = codes1 := rfl
theorem w_codes : ∀ c ∈ words1.filter isCode, c.before args0 about1 = true := by
  rw [codes_eq]
  intro c hc
  simp only [codes1, List.mem_cons, List.not_mem_nil, or_false] at hc
  rcases hc with rfl | rfl | rfl | rfl | rfl | rfl | rfl | rfl | rfl | rfl | rfl | rfl | rfl | rfl | rfl | rfl | rfl | rfl | rfl | rfl | rfl | rfl | rfl | rfl | rfl | rfl | rfl | rfl | rfl | rfl | rfl | rfl | rfl | rfl | rfl | rfl | rfl | rfl
  · exact w_c0
  · exact w_c1
  · exact w_c2
  · exact w_c3
  · exact w_c4
  · exact w_c5
  · exact w_c6
  · exact w_c7
  · exact w_c8
  · exact w_c9
  · exact w_c10
  · exact w_c11
  · exact w_c12
  · exact w_c13
  · exact w_c14
  · exact w_c15
  · exact w_c16
  · exact w_c17
  · exact w_c18
  · exact w_c19
  · exact w_c20
  · exact w_c21
  · exact w_c22
  · exact w_c23
  · exact w_c24
  · exact w_c25
  · exact w_c26
  · exact w_c27
  · exact w_c28
  · exact w_c29
  · exact w_c30
  · exact w_c31
  · exact w_c32
  · exact w_c33
  · exact w_c34
  · exact w_c35
  · exact w_c36
  · exact w_c37
set_option maxRecDepth 65536 in
theorem w_t1 : (words1.take 24).all (fun c => isCode c || c.before args0 about1) = true := by decide +kernel
set_option maxRecDepth 65536 in
theorem w_t2 : ((words1.drop 24).take 24).all (fun c => isCode c || c.before args0 about1) = true := by decide +kernel
set_option maxRecDepth 65536 in
theorem w_t3 : (((words1.drop 24).drop 24).take 24).all (fun c => isCode c || c.before args0 about1) = true := by decide +kernel
set_option maxRecDepth 65536 in
theorem w_t4 : ((((words1.drop 24).drop 24).drop 24).take 24).all (fun c => isCode c || c.before args0 about1) = true := by decide +kernel
set_option maxRecDepth 65536 in
theorem w_t5 : (((((words1.drop 24).drop 24).drop 24).drop 24).take 24).all (fun c => isCode c || c.before args0 about1) = true := by decide +kernel
set_option maxRecDepth 65536 in
theorem w_t6 : ((((((words1.drop 24).drop 24).drop 24).drop 24).drop 24).take 24).all (fun c => isCode c || c.before args0 about1) = true := by decide +kernel
set_option maxRecDepth 65536 in
theorem w_t7 : (((((((words1.drop 24).drop 24).drop 24).drop 24).drop 24).drop 24).take 24).all (fun c => isCode c || c.before args0 about1) = true := by decide +kernel
set_option maxRecDepth 65536 in
theorem w_t8 : ((((((((words1.drop 24).drop 24).drop 24).drop 24).drop 24).drop 24).drop 24).take 24).all (fun c => isCode c || c.before args0 about1) = true := by decide +kernel
set_option maxRecDepth 65536 in
theorem w_t9 : (((((((((words1.drop 24).drop 24).drop 24).drop 24).drop 24).drop 24).drop 24).drop 24).take 24).all (fun c => isCode c || c.before args0 about1) = true := by decide +kernel
set_option maxRecDepth 65536 in
theorem w_t10 : ((((((((((words1.drop 24).drop 24).drop 24).drop 24).drop 24).drop 24).drop 24).drop 24).drop 24).take 24).all (fun c => isCode c || c.before args0 about1) = true := by decide +kernel
set_option maxRecDepth 65536 in
theorem w_t11 : ((((((((((words1.drop 24).drop 24).drop 24).drop 24).drop 24).drop 24).drop 24).drop 24).drop 24).drop 24).all (fun c => isCode c || c.before args0 about1) = true := by decide +kernel
theorem w_tables : (allAtoms (Jvm.Cond.code x code maxLocals ret :: tables_1)).before args0 about1 = true := by
  rw [allAtoms_all]
  show words1.all (fun c => c.before args0 about1) = true
  refine all_split ?_ w_codes
  rw [← List.take_append_drop 24 words1, List.all_append, w_t1, ← List.take_append_drop 24 (words1.drop 24), List.all_append, w_t2, ← List.take_append_drop 24 ((words1.drop 24).drop 24), List.all_append, w_t3, ← List.take_append_drop 24 (((words1.drop 24).drop 24).drop 24), List.all_append, w_t4, ← List.take_append_drop 24 ((((words1.drop 24).drop 24).drop 24).drop 24), List.all_append, w_t5, ← List.take_append_drop 24 (((((words1.drop 24).drop 24).drop 24).drop 24).drop 24), List.all_append, w_t6, ← List.take_append_drop 24 ((((((words1.drop 24).drop 24).drop 24).drop 24).drop 24).drop 24), List.all_append, w_t7, ← List.take_append_drop 24 (((((((words1.drop 24).drop 24).drop 24).drop 24).drop 24).drop 24).drop 24), List.all_append, w_t8, ← List.take_append_drop 24 ((((((((words1.drop 24).drop 24).drop 24).drop 24).drop 24).drop 24).drop 24).drop 24), List.all_append, w_t9, ← List.take_append_drop 24 (((((((((words1.drop 24).drop 24).drop 24).drop 24).drop 24).drop 24).drop 24).drop 24).drop 24), List.all_append, w_t10, w_t11]
  rfl
set_option maxRecDepth 65536 in
theorem w_rest : rest_1_c.before args0 about1 = true := by decide +kernel
set_option maxRecDepth 65536 in
theorem w_case : (Jvm.Cond.and given_1 narrow_1).before args0 about1 = true := by decide +kernel
theorem w_applies : (headSpec (Jvm.Cond.code x code maxLocals ret :: tables_1) room_1).applies x e0.platform about1 = true :=
  (Spec.applies_iff w_frames).mpr ⟨w_running, w_runnable, w_alone, w_named, w_hears, w_ripe, w_room, w_tables⟩
theorem atStart : AtStart classFile x code maxLocals ret World_1 tables_1 room_1 Calls_1 rest_1 Pre_1 launch0 p0 e0 about1 theMethod args0 below0 :=
  ⟨lists_1, trivial, launch0.admits_env _ _ _, launch0.least_env, fairChoices_fair.cas, fairChoices_fair.clock, w_frames, w_args, w_heap, w_applies, trivial, w_rest, w_case⟩
end start1
theorem witness_1 : WitnessClaimed_1 := ⟨start1.p0, start1.e0, start1.about1, start1.theMethod, start1.args0, start1.below0, start1.atStart⟩
end Jvm.Pilot.@@N@@
