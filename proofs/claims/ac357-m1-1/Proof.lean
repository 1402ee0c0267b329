import JvmDerived
import JvmDerived.Pilot.@@N@@Statement
import JvmDerived.Pilot.@@N@@Code
set_option linter.unusedVariables false
set_option linter.unusedSimpArgs false
namespace Jvm.Pilot.@@N@@
open Jvm Jvm.ClassFile Sem Op Lib Jvm.Free Jvm.Stand Jvm.LawKit Jvm.RoadKit Bundle Jvm.Pilot.@@N@@.Jvm.D
/-! own kit (printed by wip/gen/kit.py) -/
/-- from here the walk comes to an end that K takes -/
def Run (p : Program) (e : Env) (below : List Frame) (m : MethodId) (K : State → Prop) (T : State) (pc : Nat) (L : Array Slot) (st : List Value) : Prop :=
  ∃ u, Steps p.tables e below (T.setTop (mkF m pc L st)) u ∧ K u
/-- what goes through a whole body -/
def Cx (p : Program) (l : Launch) (e : Env) (R : Room) (s : State) (m : MethodId) (args : Array Value) (below : List Frame) (meth : Method) (c : Code) (Z : State) (bytes : ByteArray) (ml : Nat) (own : String) (ret : Option FieldType) (mname : String) (n0 : Nat) (T : State) (h : Heap) (cells slots : Nat) : Prop :=
  (∃ locs, Stand p l e R s m args below meth c T locs cells slots ∧ Fr n0 locs) ∧ T.heap = h ∧ p.tables.exec = Jvm.exec ∧ c.code = bytes ∧ c.maxLocals = ml ∧ Z.Warmed39 s.vm ∧ s.vm.findClass own = some m.cls ∧ meth.sig.returnType = ret ∧ meth.name = mname ∧ meth.locks = false ∧ n0 ≤ h.size
/-- the end of a body: what it returns and leaves is Q's -/
def Fin1 (below : List Frame) (s : State) (n0 : Nat) (Q : Option Value → Heap → Prop) (cN sN : Nat) (u : State) : Prop :=
  u.status = .running ∧ ∃ o, Ended u below o ∧ ∃ v L, o = .returned v ∧ (Q v u.heap ∧ Fr n0 L ∧ n0 ≤ u.heap.size) ∧ FrameEnd s o u L cN sN
/-- a body's contract -/
def Met1 (l : Launch) (Z : State) (n0 : Nat) (ws : List Jvm.Cond) (y : MethodName) (bytes : ByteArray) (ml : Nat) (ret : Option FieldType) (rm : Room) (as : Array Value) (h0 : Heap) (Q : Option Value → Heap → Prop) : Prop :=
  MetFree l y (head1 (Jvm.Cond.code y bytes ml ret :: ws) rm) (fun a U => a = as ∧ Z.Warmed39 U.vm ∧ U.heap = h0) (fun _ _ _ _ _ => True) (fun _ U o U' => ∃ v L, o = .returned v ∧ (Q v U'.heap ∧ Fr n0 L ∧ n0 ≤ U'.heap.size) ∧ FrameEnd U o U' L rm.cells rm.slots)
/-- an array: its kind, its length, what each place holds -/
def AF (Z : State) (h : Heap) (a : Addr) (ty : FieldType) (n : Nat) (f : Nat → Value) : Prop := ∃ c : Cell, Arr Z h a c ty ∧ c.slots.size = n ∧ n < 2 ^ 31 ∧ ∀ j, j < n → c.slots[j]? = some (f j)
def upd (f : Nat → Value) (i : Nat) (v : Value) : Nat → Value := fun j => if j = i then v else f j
section Own
variable {p : Program} {l : Launch} {e : Env} {R : Room} {s : State} {m : MethodId} {args : Array Value} {below : List Frame} {meth : Method} {c : Code} {Z : State} {bytes : ByteArray} {ml : Nat} {own mname : String} {ret : Option FieldType} {n0 : Nat} {T : State} {h : Heap} {cells slots : Nat} {K : State → Prop} {pc : Nat} {L : Array Slot} {st : List Value}
theorem Cx.sz (X : Cx p l e R s m args below meth c Z bytes ml own ret mname n0 T h cells slots) : n0 ≤ h.size := X.2.2.2.2.2.2.2.2.2.2
theorem Run.of {T' : State} {pc' : Nat} {L' : Array Slot} {st' : List Value} (h : ∀ t, Steps p.tables e below (T'.setTop (mkF m pc' L' st')) t → Steps p.tables e below (T.setTop (mkF m pc L st)) t) (r : Run p e below m K T' pc' L' st') : Run p e below m K T pc L st :=
  r.imp fun u q => ⟨h u q.1, q.2⟩
theorem upd_hit {f : Nat → Value} {i : Nat} {v : Value} : upd f i v i = v := if_pos rfl
theorem upd_miss {f : Nat → Value} {i j : Nat} {v : Value} (q : j ≠ i) : upd f i v j = f j := if_neg q
theorem idx_of {j : Int32} {i n : Nat} (hj : j.toInt = (i : Int)) (hi : i < n) : ¬ (j < 0 ∨ n ≤ j.toNatClampNeg) ∧ j.toNatClampNeg = i := by
  have q : j.toNatClampNeg = i := by show j.toInt.toNat = i; omega
  refine ⟨?_, q⟩
  rw [q, Int32.lt_iff_toInt_lt]
  have : (0 : Int32).toInt = 0 := rfl
  omega
theorem AF.lt {a : Addr} {ty : FieldType} {n : Nat} {f : Nat → Value} (A : AF Z h a ty n f) : a < h.size := by obtain ⟨c, A, -⟩ := A; exact A.lt
theorem AF.small {a : Addr} {ty : FieldType} {n : Nat} {f : Nat → Value} (A : AF Z h a ty n f) : n < 2 ^ 31 := by obtain ⟨c, -, -, q, -⟩ := A; exact q
theorem AF.ext {a : Addr} {ty : FieldType} {n : Nat} {f : Nat → Value} {h' : Heap} (A : AF Z h a ty n f) (E : Ext h h') : AF Z h' a ty n f := by obtain ⟨c, A, r⟩ := A; exact ⟨c, A.ext E, r⟩
theorem AF.other {a b : Addr} {ty : FieldType} {n sl : Nat} {v : Value} {f : Nat → Value} {h' : Heap} (A : AF Z h b ty n f) (W : Wr h h' a sl v) (q : b ≠ a) : AF Z h' b ty n f := by obtain ⟨c, A, r⟩ := A; exact ⟨c, A.other W q, r⟩
theorem AF.keep {a : Addr} {ty : FieldType} {n : Nat} {f : Nat → Value} {h' : Heap} {ws : List Addr} (A : AF Z h a ty n f) (K : Keep h h' ws) (q : a ∉ ws) : AF Z h' a ty n f := by obtain ⟨c, A, r⟩ := A; exact ⟨c, ⟨K.2.1 a c A.1 q, A.2⟩, r⟩
theorem AF.set {a : Addr} {ty : FieldType} {n i : Nat} {v : Value} {f : Nat → Value} {h' : Heap} (A : AF Z h a ty n f) (W : Wr h h' a i v) : AF Z h' a ty n (upd f i v) := by
  obtain ⟨c, A, S, q, H⟩ := A
  refine ⟨_, A.same W, by rw [sz_set]; exact S, q, fun j hj => ?_⟩
  show (c.slots.setIfInBounds i v)[j]? = _
  rw [Array.getElem?_setIfInBounds, S]
  by_cases e : i = j
  · subst e; simp [hj, upd]
  · have e' : j ≠ i := fun q => e q.symm
    simp [e, upd, e', H j hj]
theorem AF.congr {a : Addr} {ty : FieldType} {n : Nat} {f g : Nat → Value} (A : AF Z h a ty n f) (q : ∀ j, j < n → f j = g j) : AF Z h a ty n g := by
  obtain ⟨c, A, S, r, H⟩ := A; exact ⟨c, A, S, r, fun j hj => by rw [H j hj, q j hj]⟩
theorem AF.ne_obj {a b : Addr} {ty : FieldType} {n k : Nat} {f : Nat → Value} {C : String} {a0 : Array Value} (A : AF Z h b ty n f) (E : Exa Z h a C) (wi : (Jvm.Cond.instantiable C k).before a0 Z = true) : a ≠ b := by obtain ⟨c, A, -⟩ := A; exact ne_arr E wi A
theorem r_topI {x x' : Int32} (q : x = x') (r : Run p e below m K T pc L (.int x' :: st)) : Run p e below m K T pc L (.int x :: st) := q ▸ r
theorem r_topJ {x x' : Int64} (q : x = x') (r : Run p e below m K T pc L (.long x' :: st)) : Run p e below m K T pc L (.long x :: st) := q ▸ r
theorem r_top {x x' : Value} (q : x = x') (r : Run p e below m K T pc L (x' :: st)) : Run p e below m K T pc L (x :: st) := q ▸ r
theorem r_loc {L' : Array Slot} (q : L = L') (r : Run p e below m K T pc L' st) : Run p e below m K T pc L st := q ▸ r
theorem r_iload (pc' : Nat) (X : Cx p l e R s m args below meth c Z bytes ml own ret mname n0 T h cells slots) {k : Nat} {v : Int32} (hd : decode bytes pc = .ok (.iload k, 2)) (hl : L[k]? = some (.val (.int v))) (r : Run p e below m K T pc' L (.int v :: st)) (q : pc + 2 = pc' := by rfl) : Run p e below m K T pc L st := by
  obtain ⟨⟨locs, X, -⟩, -, hx, hby, -⟩ := X
  subst q hby
  exact Run.of (fun t k => XS.iload X.here hx rfl hd hl k) r
theorem r_iloadN (pc' : Nat) (X : Cx p l e R s m args below meth c Z bytes ml own ret mname n0 T h cells slots) {k : Fin 4} {v : Int32} (hd : decode bytes pc = .ok (.iload_n k, 1)) (hl : L[k.val]? = some (.val (.int v))) (r : Run p e below m K T pc' L (.int v :: st)) (q : pc + 1 = pc' := by rfl) : Run p e below m K T pc L st := by
  obtain ⟨⟨locs, X, -⟩, -, hx, hby, -⟩ := X
  subst q hby
  exact Run.of (fun t k => XS.iloadN X.here hx rfl hd hl k) r
theorem r_istore (pc' : Nat) (X : Cx p l e R s m args below meth c Z bytes ml own ret mname n0 T h cells slots) {k : Nat} {v : Int32} (L' : Array Slot) (hd : decode bytes pc = .ok (.istore k, 2)) (hl : storeLocals L k (.int v) = some L') (r : Run p e below m K T pc' L' st) (q : pc + 2 = pc' := by rfl) : Run p e below m K T pc L (.int v :: st) := by
  obtain ⟨⟨locs, X, -⟩, -, hx, hby, -⟩ := X
  subst q hby
  exact Run.of (fun t k => XS.istore X.here hx rfl hd rfl hl k) r
theorem r_istoreN (pc' : Nat) (X : Cx p l e R s m args below meth c Z bytes ml own ret mname n0 T h cells slots) {k : Fin 4} {v : Int32} (L' : Array Slot) (hd : decode bytes pc = .ok (.istore_n k, 1)) (hl : storeLocals L k.val (.int v) = some L') (r : Run p e below m K T pc' L' st) (q : pc + 1 = pc' := by rfl) : Run p e below m K T pc L (.int v :: st) := by
  obtain ⟨⟨locs, X, -⟩, -, hx, hby, -⟩ := X
  subst q hby
  exact Run.of (fun t k => XS.istoreN X.here hx rfl hd rfl hl k) r
theorem r_lload (pc' : Nat) (X : Cx p l e R s m args below meth c Z bytes ml own ret mname n0 T h cells slots) {k : Nat} {v : Int64} (hd : decode bytes pc = .ok (.lload k, 2)) (hl : L[k]? = some (.val (.long v))) (r : Run p e below m K T pc' L (.long v :: st)) (q : pc + 2 = pc' := by rfl) : Run p e below m K T pc L st := by
  obtain ⟨⟨locs, X, -⟩, -, hx, hby, -⟩ := X
  subst q hby
  exact Run.of (fun t k => XS.lload X.here hx rfl hd hl k) r
theorem r_lloadN (pc' : Nat) (X : Cx p l e R s m args below meth c Z bytes ml own ret mname n0 T h cells slots) {k : Fin 4} {v : Int64} (hd : decode bytes pc = .ok (.lload_n k, 1)) (hl : L[k.val]? = some (.val (.long v))) (r : Run p e below m K T pc' L (.long v :: st)) (q : pc + 1 = pc' := by rfl) : Run p e below m K T pc L st := by
  obtain ⟨⟨locs, X, -⟩, -, hx, hby, -⟩ := X
  subst q hby
  exact Run.of (fun t k => XS.lloadN X.here hx rfl hd hl k) r
theorem r_lstore (pc' : Nat) (X : Cx p l e R s m args below meth c Z bytes ml own ret mname n0 T h cells slots) {k : Nat} {v : Int64} (L' : Array Slot) (hd : decode bytes pc = .ok (.lstore k, 2)) (hl : storeLocals L k (.long v) = some L') (r : Run p e below m K T pc' L' st) (q : pc + 2 = pc' := by rfl) : Run p e below m K T pc L (.long v :: st) := by
  obtain ⟨⟨locs, X, -⟩, -, hx, hby, -⟩ := X
  subst q hby
  exact Run.of (fun t k => XS.lstore X.here hx rfl hd rfl hl k) r
theorem r_lstoreN (pc' : Nat) (X : Cx p l e R s m args below meth c Z bytes ml own ret mname n0 T h cells slots) {k : Fin 4} {v : Int64} (L' : Array Slot) (hd : decode bytes pc = .ok (.lstore_n k, 1)) (hl : storeLocals L k.val (.long v) = some L') (r : Run p e below m K T pc' L' st) (q : pc + 1 = pc' := by rfl) : Run p e below m K T pc L (.long v :: st) := by
  obtain ⟨⟨locs, X, -⟩, -, hx, hby, -⟩ := X
  subst q hby
  exact Run.of (fun t k => XS.lstoreN X.here hx rfl hd rfl hl k) r
theorem r_dload (pc' : Nat) (X : Cx p l e R s m args below meth c Z bytes ml own ret mname n0 T h cells slots) {k : Nat} {v : UInt64} (hd : decode bytes pc = .ok (.dload k, 2)) (hl : L[k]? = some (.val (.double v))) (r : Run p e below m K T pc' L (.double v :: st)) (q : pc + 2 = pc' := by rfl) : Run p e below m K T pc L st := by
  obtain ⟨⟨locs, X, -⟩, -, hx, hby, -⟩ := X
  subst q hby
  exact Run.of (fun t k => XS.dload X.here hx rfl hd hl k) r
theorem r_dloadN (pc' : Nat) (X : Cx p l e R s m args below meth c Z bytes ml own ret mname n0 T h cells slots) {k : Fin 4} {v : UInt64} (hd : decode bytes pc = .ok (.dload_n k, 1)) (hl : L[k.val]? = some (.val (.double v))) (r : Run p e below m K T pc' L (.double v :: st)) (q : pc + 1 = pc' := by rfl) : Run p e below m K T pc L st := by
  obtain ⟨⟨locs, X, -⟩, -, hx, hby, -⟩ := X
  subst q hby
  exact Run.of (fun t k => XS.dloadN X.here hx rfl hd hl k) r
theorem r_dstore (pc' : Nat) (X : Cx p l e R s m args below meth c Z bytes ml own ret mname n0 T h cells slots) {k : Nat} {v : UInt64} (L' : Array Slot) (hd : decode bytes pc = .ok (.dstore k, 2)) (hl : storeLocals L k (.double v) = some L') (r : Run p e below m K T pc' L' st) (q : pc + 2 = pc' := by rfl) : Run p e below m K T pc L (.double v :: st) := by
  obtain ⟨⟨locs, X, -⟩, -, hx, hby, -⟩ := X
  subst q hby
  exact Run.of (fun t k => XS.dstore X.here hx rfl hd rfl hl k) r
theorem r_dstoreN (pc' : Nat) (X : Cx p l e R s m args below meth c Z bytes ml own ret mname n0 T h cells slots) {k : Fin 4} {v : UInt64} (L' : Array Slot) (hd : decode bytes pc = .ok (.dstore_n k, 1)) (hl : storeLocals L k.val (.double v) = some L') (r : Run p e below m K T pc' L' st) (q : pc + 1 = pc' := by rfl) : Run p e below m K T pc L (.double v :: st) := by
  obtain ⟨⟨locs, X, -⟩, -, hx, hby, -⟩ := X
  subst q hby
  exact Run.of (fun t k => XS.dstoreN X.here hx rfl hd rfl hl k) r
theorem r_aload (pc' : Nat) (X : Cx p l e R s m args below meth c Z bytes ml own ret mname n0 T h cells slots) {k : Nat} {v : Value} (hd : decode bytes pc = .ok (.aload k, 2)) (hl : L[k]? = some (.val v)) (hv : v.isRef = true) (r : Run p e below m K T pc' L (v :: st)) (q : pc + 2 = pc' := by rfl) : Run p e below m K T pc L st := by
  obtain ⟨⟨locs, X, -⟩, -, hx, hby, -⟩ := X
  subst q hby
  exact Run.of (fun t k => XS.aload X.here hx rfl hd hl hv k) r
theorem r_aloadN (pc' : Nat) (X : Cx p l e R s m args below meth c Z bytes ml own ret mname n0 T h cells slots) {k : Fin 4} {v : Value} (hd : decode bytes pc = .ok (.aload_n k, 1)) (hl : L[k.val]? = some (.val v)) (hv : v.isRef = true) (r : Run p e below m K T pc' L (v :: st)) (q : pc + 1 = pc' := by rfl) : Run p e below m K T pc L st := by
  obtain ⟨⟨locs, X, -⟩, -, hx, hby, -⟩ := X
  subst q hby
  exact Run.of (fun t k => XS.aloadN X.here hx rfl hd hl hv k) r
theorem r_astore (pc' : Nat) (X : Cx p l e R s m args below meth c Z bytes ml own ret mname n0 T h cells slots) {k : Nat} {v : Value} (L' : Array Slot) (hd : decode bytes pc = .ok (.astore k, 2)) (hv : v.isRef = true) (hl : storeLocals L k v = some L') (r : Run p e below m K T pc' L' st) (q : pc + 2 = pc' := by rfl) : Run p e below m K T pc L (v :: st) := by
  obtain ⟨⟨locs, X, -⟩, -, hx, hby, -⟩ := X
  subst q hby
  exact Run.of (fun t k => XS.astore X.here hx rfl hd rfl hv hl k) r
theorem r_astoreN (pc' : Nat) (X : Cx p l e R s m args below meth c Z bytes ml own ret mname n0 T h cells slots) {k : Fin 4} {v : Value} (L' : Array Slot) (hd : decode bytes pc = .ok (.astore_n k, 1)) (hv : v.isRef = true) (hl : storeLocals L k.val v = some L') (r : Run p e below m K T pc' L' st) (q : pc + 1 = pc' := by rfl) : Run p e below m K T pc L (v :: st) := by
  obtain ⟨⟨locs, X, -⟩, -, hx, hby, -⟩ := X
  subst q hby
  exact Run.of (fun t k => XS.astoreN X.here hx rfl hd rfl hv hl k) r
theorem r_iconst (pc' : Nat) (X : Cx p l e R s m args below meth c Z bytes ml own ret mname n0 T h cells slots) {i : Int} (z : Int32) (hd : decode bytes pc = .ok (.iconst i, 1)) (hz : Int32.ofInt i = z) (r : Run p e below m K T pc' L (.int z :: st)) (q : pc + 1 = pc' := by rfl) : Run p e below m K T pc L st := by
  obtain ⟨⟨locs, X, -⟩, -, hx, hby, -⟩ := X
  subst q hby hz
  exact Run.of (fun t k => XS.iconst X.here hx rfl hd  k) r
theorem r_bipush (pc' : Nat) (X : Cx p l e R s m args below meth c Z bytes ml own ret mname n0 T h cells slots) {i : Int} (z : Int32) (hd : decode bytes pc = .ok (.bipush i, 2)) (hz : (Int8.ofInt i).toInt32 = z) (r : Run p e below m K T pc' L (.int z :: st)) (q : pc + 2 = pc' := by rfl) : Run p e below m K T pc L st := by
  obtain ⟨⟨locs, X, -⟩, -, hx, hby, -⟩ := X
  subst q hby hz
  exact Run.of (fun t k => XS.bipush X.here hx rfl hd  k) r
theorem r_sipush (pc' : Nat) (X : Cx p l e R s m args below meth c Z bytes ml own ret mname n0 T h cells slots) {i : Int} (z : Int32) (hd : decode bytes pc = .ok (.sipush i, 3)) (hz : (Int16.ofInt i).toInt32 = z) (r : Run p e below m K T pc' L (.int z :: st)) (q : pc + 3 = pc' := by rfl) : Run p e below m K T pc L st := by
  obtain ⟨⟨locs, X, -⟩, -, hx, hby, -⟩ := X
  subst q hby hz
  exact Run.of (fun t k => XS.sipush X.here hx rfl hd  k) r
theorem r_lconst (pc' : Nat) (X : Cx p l e R s m args below meth c Z bytes ml own ret mname n0 T h cells slots) {i : Fin 2} (z : Int64) (hd : decode bytes pc = .ok (.lconst i, 1)) (hz : Int64.ofNat i = z) (r : Run p e below m K T pc' L (.long z :: st)) (q : pc + 1 = pc' := by rfl) : Run p e below m K T pc L st := by
  obtain ⟨⟨locs, X, -⟩, -, hx, hby, -⟩ := X
  subst q hby hz
  exact Run.of (fun t k => XS.lconst X.here hx rfl hd  k) r
theorem r_aconst_null (pc' : Nat) (X : Cx p l e R s m args below meth c Z bytes ml own ret mname n0 T h cells slots)  (hd : decode bytes pc = .ok (.aconst_null, 1))  (r : Run p e below m K T pc' L (.null :: st)) (q : pc + 1 = pc' := by rfl) : Run p e below m K T pc L st := by
  obtain ⟨⟨locs, X, -⟩, -, hx, hby, -⟩ := X
  subst q hby
  exact Run.of (fun t k => XS.aconstNull X.here hx rfl hd  k) r
theorem r_dconst0 (pc' : Nat) (X : Cx p l e R s m args below meth c Z bytes ml own ret mname n0 T h cells slots)  (hd : decode bytes pc = .ok (.dconst 0, 1))  (r : Run p e below m K T pc' L (.double FP.dconst0 :: st)) (q : pc + 1 = pc' := by rfl) : Run p e below m K T pc L st := by
  obtain ⟨⟨locs, X, -⟩, -, hx, hby, -⟩ := X
  subst q hby
  exact Run.of (fun t k => XS.dconst0 X.here hx rfl hd rfl k) r
theorem r_dconst1 (pc' : Nat) (X : Cx p l e R s m args below meth c Z bytes ml own ret mname n0 T h cells slots)  (hd : decode bytes pc = .ok (.dconst 1, 1))  (r : Run p e below m K T pc' L (.double FP.dconst1 :: st)) (q : pc + 1 = pc' := by rfl) : Run p e below m K T pc L st := by
  obtain ⟨⟨locs, X, -⟩, -, hx, hby, -⟩ := X
  subst q hby
  exact Run.of (fun t k => XS.dconst1 X.here hx rfl hd rfl k) r
theorem r_iadd (pc' : Nat) (X : Cx p l e R s m args below meth c Z bytes ml own ret mname n0 T h cells slots) {x y : Int32} (hd : decode bytes pc = .ok (.iadd, 1))  (r : Run p e below m K T pc' L (.int (x + y) :: st)) (q : pc + 1 = pc' := by rfl) : Run p e below m K T pc L (.int y :: .int x :: st) := by
  obtain ⟨⟨locs, X, -⟩, -, hx, hby, -⟩ := X
  subst q hby
  exact Run.of (fun t k => XS.iadd X.here hx rfl hd rfl k) r
theorem r_isub (pc' : Nat) (X : Cx p l e R s m args below meth c Z bytes ml own ret mname n0 T h cells slots) {x y : Int32} (hd : decode bytes pc = .ok (.isub, 1))  (r : Run p e below m K T pc' L (.int (x - y) :: st)) (q : pc + 1 = pc' := by rfl) : Run p e below m K T pc L (.int y :: .int x :: st) := by
  obtain ⟨⟨locs, X, -⟩, -, hx, hby, -⟩ := X
  subst q hby
  exact Run.of (fun t k => XS.isub X.here hx rfl hd rfl k) r
theorem r_imul (pc' : Nat) (X : Cx p l e R s m args below meth c Z bytes ml own ret mname n0 T h cells slots) {x y : Int32} (hd : decode bytes pc = .ok (.imul, 1))  (r : Run p e below m K T pc' L (.int (x * y) :: st)) (q : pc + 1 = pc' := by rfl) : Run p e below m K T pc L (.int y :: .int x :: st) := by
  obtain ⟨⟨locs, X, -⟩, -, hx, hby, -⟩ := X
  subst q hby
  exact Run.of (fun t k => XS.imul X.here hx rfl hd rfl k) r
theorem r_iand (pc' : Nat) (X : Cx p l e R s m args below meth c Z bytes ml own ret mname n0 T h cells slots) {x y : Int32} (hd : decode bytes pc = .ok (.iand, 1))  (r : Run p e below m K T pc' L (.int (x &&& y) :: st)) (q : pc + 1 = pc' := by rfl) : Run p e below m K T pc L (.int y :: .int x :: st) := by
  obtain ⟨⟨locs, X, -⟩, -, hx, hby, -⟩ := X
  subst q hby
  exact Run.of (fun t k => XS.iand X.here hx rfl hd rfl k) r
theorem r_ior (pc' : Nat) (X : Cx p l e R s m args below meth c Z bytes ml own ret mname n0 T h cells slots) {x y : Int32} (hd : decode bytes pc = .ok (.ior, 1))  (r : Run p e below m K T pc' L (.int (x ||| y) :: st)) (q : pc + 1 = pc' := by rfl) : Run p e below m K T pc L (.int y :: .int x :: st) := by
  obtain ⟨⟨locs, X, -⟩, -, hx, hby, -⟩ := X
  subst q hby
  exact Run.of (fun t k => XS.ior X.here hx rfl hd rfl k) r
theorem r_ixor (pc' : Nat) (X : Cx p l e R s m args below meth c Z bytes ml own ret mname n0 T h cells slots) {x y : Int32} (hd : decode bytes pc = .ok (.ixor, 1))  (r : Run p e below m K T pc' L (.int (x ^^^ y) :: st)) (q : pc + 1 = pc' := by rfl) : Run p e below m K T pc L (.int y :: .int x :: st) := by
  obtain ⟨⟨locs, X, -⟩, -, hx, hby, -⟩ := X
  subst q hby
  exact Run.of (fun t k => XS.ixor X.here hx rfl hd rfl k) r
theorem r_ishl (pc' : Nat) (X : Cx p l e R s m args below meth c Z bytes ml own ret mname n0 T h cells slots) {x y : Int32} (hd : decode bytes pc = .ok (.ishl, 1))  (r : Run p e below m K T pc' L (.int (x <<< (y &&& 31)) :: st)) (q : pc + 1 = pc' := by rfl) : Run p e below m K T pc L (.int y :: .int x :: st) := by
  obtain ⟨⟨locs, X, -⟩, -, hx, hby, -⟩ := X
  subst q hby
  exact Run.of (fun t k => XS.ishl X.here hx rfl hd rfl k) r
theorem r_ishr (pc' : Nat) (X : Cx p l e R s m args below meth c Z bytes ml own ret mname n0 T h cells slots) {x y : Int32} (hd : decode bytes pc = .ok (.ishr, 1))  (r : Run p e below m K T pc' L (.int (x >>> (y &&& 31)) :: st)) (q : pc + 1 = pc' := by rfl) : Run p e below m K T pc L (.int y :: .int x :: st) := by
  obtain ⟨⟨locs, X, -⟩, -, hx, hby, -⟩ := X
  subst q hby
  exact Run.of (fun t k => XS.ishr X.here hx rfl hd rfl k) r
theorem r_iushr (pc' : Nat) (X : Cx p l e R s m args below meth c Z bytes ml own ret mname n0 T h cells slots) {x y : Int32} (hd : decode bytes pc = .ok (.iushr, 1))  (r : Run p e below m K T pc' L (.int ((x.toUInt32 >>> (y &&& 31).toUInt32).toInt32) :: st)) (q : pc + 1 = pc' := by rfl) : Run p e below m K T pc L (.int y :: .int x :: st) := by
  obtain ⟨⟨locs, X, -⟩, -, hx, hby, -⟩ := X
  subst q hby
  exact Run.of (fun t k => XS.iushr X.here hx rfl hd rfl k) r
theorem r_ladd (pc' : Nat) (X : Cx p l e R s m args below meth c Z bytes ml own ret mname n0 T h cells slots) {x y : Int64} (hd : decode bytes pc = .ok (.ladd, 1))  (r : Run p e below m K T pc' L (.long (x + y) :: st)) (q : pc + 1 = pc' := by rfl) : Run p e below m K T pc L (.long y :: .long x :: st) := by
  obtain ⟨⟨locs, X, -⟩, -, hx, hby, -⟩ := X
  subst q hby
  exact Run.of (fun t k => XS.ladd X.here hx rfl hd rfl k) r
theorem r_lsub (pc' : Nat) (X : Cx p l e R s m args below meth c Z bytes ml own ret mname n0 T h cells slots) {x y : Int64} (hd : decode bytes pc = .ok (.lsub, 1))  (r : Run p e below m K T pc' L (.long (x - y) :: st)) (q : pc + 1 = pc' := by rfl) : Run p e below m K T pc L (.long y :: .long x :: st) := by
  obtain ⟨⟨locs, X, -⟩, -, hx, hby, -⟩ := X
  subst q hby
  exact Run.of (fun t k => XS.lsub X.here hx rfl hd rfl k) r
theorem r_lmul (pc' : Nat) (X : Cx p l e R s m args below meth c Z bytes ml own ret mname n0 T h cells slots) {x y : Int64} (hd : decode bytes pc = .ok (.lmul, 1))  (r : Run p e below m K T pc' L (.long (x * y) :: st)) (q : pc + 1 = pc' := by rfl) : Run p e below m K T pc L (.long y :: .long x :: st) := by
  obtain ⟨⟨locs, X, -⟩, -, hx, hby, -⟩ := X
  subst q hby
  exact Run.of (fun t k => XS.lmul X.here hx rfl hd rfl k) r
theorem r_land (pc' : Nat) (X : Cx p l e R s m args below meth c Z bytes ml own ret mname n0 T h cells slots) {x y : Int64} (hd : decode bytes pc = .ok (.land, 1))  (r : Run p e below m K T pc' L (.long (x &&& y) :: st)) (q : pc + 1 = pc' := by rfl) : Run p e below m K T pc L (.long y :: .long x :: st) := by
  obtain ⟨⟨locs, X, -⟩, -, hx, hby, -⟩ := X
  subst q hby
  exact Run.of (fun t k => XS.land X.here hx rfl hd rfl k) r
theorem r_lor (pc' : Nat) (X : Cx p l e R s m args below meth c Z bytes ml own ret mname n0 T h cells slots) {x y : Int64} (hd : decode bytes pc = .ok (.lor, 1))  (r : Run p e below m K T pc' L (.long (x ||| y) :: st)) (q : pc + 1 = pc' := by rfl) : Run p e below m K T pc L (.long y :: .long x :: st) := by
  obtain ⟨⟨locs, X, -⟩, -, hx, hby, -⟩ := X
  subst q hby
  exact Run.of (fun t k => XS.lor X.here hx rfl hd rfl k) r
theorem r_lxor (pc' : Nat) (X : Cx p l e R s m args below meth c Z bytes ml own ret mname n0 T h cells slots) {x y : Int64} (hd : decode bytes pc = .ok (.lxor, 1))  (r : Run p e below m K T pc' L (.long (x ^^^ y) :: st)) (q : pc + 1 = pc' := by rfl) : Run p e below m K T pc L (.long y :: .long x :: st) := by
  obtain ⟨⟨locs, X, -⟩, -, hx, hby, -⟩ := X
  subst q hby
  exact Run.of (fun t k => XS.lxor X.here hx rfl hd rfl k) r
theorem r_lshl (pc' : Nat) (X : Cx p l e R s m args below meth c Z bytes ml own ret mname n0 T h cells slots) {x : Int64} {y : Int32} (hd : decode bytes pc = .ok (.lshl, 1))  (r : Run p e below m K T pc' L (.long (x <<< (y &&& 0x3f).toInt64) :: st)) (q : pc + 1 = pc' := by rfl) : Run p e below m K T pc L (.int y :: .long x :: st) := by
  obtain ⟨⟨locs, X, -⟩, -, hx, hby, -⟩ := X
  subst q hby
  exact Run.of (fun t k => XS.lshl X.here hx rfl hd rfl k) r
theorem r_lshr (pc' : Nat) (X : Cx p l e R s m args below meth c Z bytes ml own ret mname n0 T h cells slots) {x : Int64} {y : Int32} (hd : decode bytes pc = .ok (.lshr, 1))  (r : Run p e below m K T pc' L (.long (x >>> (y &&& 0x3f).toInt64) :: st)) (q : pc + 1 = pc' := by rfl) : Run p e below m K T pc L (.int y :: .long x :: st) := by
  obtain ⟨⟨locs, X, -⟩, -, hx, hby, -⟩ := X
  subst q hby
  exact Run.of (fun t k => XS.lshr X.here hx rfl hd rfl k) r
theorem r_lushr (pc' : Nat) (X : Cx p l e R s m args below meth c Z bytes ml own ret mname n0 T h cells slots) {x : Int64} {y : Int32} (hd : decode bytes pc = .ok (.lushr, 1))  (r : Run p e below m K T pc' L (.long ((x.toUInt64 >>> (y &&& 0x3f).toInt64.toUInt64).toInt64) :: st)) (q : pc + 1 = pc' := by rfl) : Run p e below m K T pc L (.int y :: .long x :: st) := by
  obtain ⟨⟨locs, X, -⟩, -, hx, hby, -⟩ := X
  subst q hby
  exact Run.of (fun t k => XS.lushr X.here hx rfl hd rfl k) r
theorem r_lcmp (pc' : Nat) (X : Cx p l e R s m args below meth c Z bytes ml own ret mname n0 T h cells slots) {x y : Int64} (hd : decode bytes pc = .ok (.lcmp, 1))  (r : Run p e below m K T pc' L (.int (lcmpW x y) :: st)) (q : pc + 1 = pc' := by rfl) : Run p e below m K T pc L (.long y :: .long x :: st) := by
  obtain ⟨⟨locs, X, -⟩, -, hx, hby, -⟩ := X
  subst q hby
  exact Run.of (fun t k => XS.lcmp X.here hx rfl hd rfl k) r
theorem r_idiv (pc' : Nat) (X : Cx p l e R s m args below meth c Z bytes ml own ret mname n0 T h cells slots) {x y : Int32} (hd : decode bytes pc = .ok (.idiv, 1)) (hy : y ≠ 0) (r : Run p e below m K T pc' L (.int (x / y) :: st)) (q : pc + 1 = pc' := by rfl) : Run p e below m K T pc L (.int y :: .int x :: st) := by
  obtain ⟨⟨locs, X, -⟩, -, hx, hby, -⟩ := X
  subst q hby
  exact Run.of (fun t k => XS.idiv X.here hx rfl hd rfl hy k) r
theorem r_ldiv (pc' : Nat) (X : Cx p l e R s m args below meth c Z bytes ml own ret mname n0 T h cells slots) {x y : Int64} (hd : decode bytes pc = .ok (.ldiv, 1)) (hy : y ≠ 0) (r : Run p e below m K T pc' L (.long (x / y) :: st)) (q : pc + 1 = pc' := by rfl) : Run p e below m K T pc L (.long y :: .long x :: st) := by
  obtain ⟨⟨locs, X, -⟩, -, hx, hby, -⟩ := X
  subst q hby
  exact Run.of (fun t k => XS.ldiv X.here hx rfl hd rfl hy k) r
theorem r_irem (pc' : Nat) (X : Cx p l e R s m args below meth c Z bytes ml own ret mname n0 T h cells slots) {x y : Int32} (hd : decode bytes pc = .ok (.irem, 1)) (hy : y ≠ 0) (r : Run p e below m K T pc' L (.int (x % y) :: st)) (q : pc + 1 = pc' := by rfl) : Run p e below m K T pc L (.int y :: .int x :: st) := by
  obtain ⟨⟨locs, X, -⟩, -, hx, hby, -⟩ := X
  subst q hby
  exact Run.of (fun t k => iremM (g := mkF m pc L (.int y :: .int x :: st)) X hx rfl hd rfl hy k) r
theorem r_lrem (pc' : Nat) (X : Cx p l e R s m args below meth c Z bytes ml own ret mname n0 T h cells slots) {x y : Int64} (hd : decode bytes pc = .ok (.lrem, 1)) (hy : y ≠ 0) (r : Run p e below m K T pc' L (.long (x % y) :: st)) (q : pc + 1 = pc' := by rfl) : Run p e below m K T pc L (.long y :: .long x :: st) := by
  obtain ⟨⟨locs, X, -⟩, -, hx, hby, -⟩ := X
  subst q hby
  rw [← lrem_mod x y] at r
  exact Run.of (fun t k => XS.lrem X.here hx rfl hd rfl hy k) r
theorem r_ineg (pc' : Nat) (X : Cx p l e R s m args below meth c Z bytes ml own ret mname n0 T h cells slots) {x : Int32} (hd : decode bytes pc = .ok (.ineg, 1))  (r : Run p e below m K T pc' L (.int (-x) :: st)) (q : pc + 1 = pc' := by rfl) : Run p e below m K T pc L (.int x :: st) := by
  obtain ⟨⟨locs, X, -⟩, -, hx, hby, -⟩ := X
  subst q hby
  exact Run.of (fun t k => XS.ineg X.here hx rfl hd rfl k) r
theorem r_lneg (pc' : Nat) (X : Cx p l e R s m args below meth c Z bytes ml own ret mname n0 T h cells slots) {x : Int64} (hd : decode bytes pc = .ok (.lneg, 1))  (r : Run p e below m K T pc' L (.long (-x) :: st)) (q : pc + 1 = pc' := by rfl) : Run p e below m K T pc L (.long x :: st) := by
  obtain ⟨⟨locs, X, -⟩, -, hx, hby, -⟩ := X
  subst q hby
  exact Run.of (fun t k => XS.lneg X.here hx rfl hd rfl k) r
theorem r_i2l (pc' : Nat) (X : Cx p l e R s m args below meth c Z bytes ml own ret mname n0 T h cells slots) {x : Int32} (hd : decode bytes pc = .ok (.i2l, 1))  (r : Run p e below m K T pc' L (.long (x.toInt64) :: st)) (q : pc + 1 = pc' := by rfl) : Run p e below m K T pc L (.int x :: st) := by
  obtain ⟨⟨locs, X, -⟩, -, hx, hby, -⟩ := X
  subst q hby
  exact Run.of (fun t k => XS.i2l X.here hx rfl hd rfl k) r
theorem r_l2i (pc' : Nat) (X : Cx p l e R s m args below meth c Z bytes ml own ret mname n0 T h cells slots) {x : Int64} (hd : decode bytes pc = .ok (.l2i, 1))  (r : Run p e below m K T pc' L (.int (x.toInt32) :: st)) (q : pc + 1 = pc' := by rfl) : Run p e below m K T pc L (.long x :: st) := by
  obtain ⟨⟨locs, X, -⟩, -, hx, hby, -⟩ := X
  subst q hby
  exact Run.of (fun t k => XS.l2i X.here hx rfl hd rfl k) r
theorem r_i2b (pc' : Nat) (X : Cx p l e R s m args below meth c Z bytes ml own ret mname n0 T h cells slots) {x : Int32} (hd : decode bytes pc = .ok (.i2b, 1))  (r : Run p e below m K T pc' L (.int (x.toInt8.toInt32) :: st)) (q : pc + 1 = pc' := by rfl) : Run p e below m K T pc L (.int x :: st) := by
  obtain ⟨⟨locs, X, -⟩, -, hx, hby, -⟩ := X
  subst q hby
  exact Run.of (fun t k => XS.i2b X.here hx rfl hd rfl k) r
theorem r_i2s (pc' : Nat) (X : Cx p l e R s m args below meth c Z bytes ml own ret mname n0 T h cells slots) {x : Int32} (hd : decode bytes pc = .ok (.i2s, 1))  (r : Run p e below m K T pc' L (.int (x.toInt16.toInt32) :: st)) (q : pc + 1 = pc' := by rfl) : Run p e below m K T pc L (.int x :: st) := by
  obtain ⟨⟨locs, X, -⟩, -, hx, hby, -⟩ := X
  subst q hby
  exact Run.of (fun t k => XS.i2s X.here hx rfl hd rfl k) r
theorem r_i2c (pc' : Nat) (X : Cx p l e R s m args below meth c Z bytes ml own ret mname n0 T h cells slots) {x : Int32} (hd : decode bytes pc = .ok (.i2c, 1))  (r : Run p e below m K T pc' L (.int (x.toUInt32.toUInt16.toUInt32.toInt32) :: st)) (q : pc + 1 = pc' := by rfl) : Run p e below m K T pc L (.int x :: st) := by
  obtain ⟨⟨locs, X, -⟩, -, hx, hby, -⟩ := X
  subst q hby
  exact Run.of (fun t k => XS.i2c X.here hx rfl hd rfl k) r
theorem r_iinc (pc' : Nat) (X : Cx p l e R s m args below meth c Z bytes ml own ret mname n0 T h cells slots) {k : Nat} {cst : Int} {x : Int32} (z : Int32) (L' : Array Slot) (hd : decode bytes pc = .ok (.iinc k cst, 3)) (hl : L[k]? = some (.val (.int x))) (hz : Int32.ofInt cst = z) (hl' : storeLocals L k (.int (x + z)) = some L') (r : Run p e below m K T pc' L' st) (q : pc + 3 = pc' := by rfl) : Run p e below m K T pc L st := by
  obtain ⟨⟨locs, X, -⟩, -, hx, hby, -⟩ := X
  subst q hby
  exact Run.of (fun t k => XS.iinc X.here hx rfl hd hl (hz.symm ▸ hl') k) r
theorem r_dup (pc' : Nat) (X : Cx p l e R s m args below meth c Z bytes ml own ret mname n0 T h cells slots) {x : Value} (hd : decode bytes pc = .ok (.dup, 1)) (hc : x.category = 1) (r : Run p e below m K T pc' L (x :: x :: st)) (q : pc + 1 = pc' := by rfl) : Run p e below m K T pc L (x :: st) := by
  obtain ⟨⟨locs, X, -⟩, -, hx, hby, -⟩ := X
  subst q hby
  exact Run.of (fun t k => XS.dup X.here hx rfl hd rfl hc k) r
theorem r_pop (pc' : Nat) (X : Cx p l e R s m args below meth c Z bytes ml own ret mname n0 T h cells slots) {x : Value} (hd : decode bytes pc = .ok (.pop, 1)) (hc : x.category = 1) (r : Run p e below m K T pc' L st) (q : pc + 1 = pc' := by rfl) : Run p e below m K T pc L (x :: st) := by
  obtain ⟨⟨locs, X, -⟩, -, hx, hby, -⟩ := X
  subst q hby
  exact Run.of (fun t k => XS.pop X.here hx rfl hd rfl hc k) r
theorem r_swap (pc' : Nat) (X : Cx p l e R s m args below meth c Z bytes ml own ret mname n0 T h cells slots) {x y : Value} (hd : decode bytes pc = .ok (.swap, 1)) (hc : x.category = 1) (hc2 : y.category = 1) (r : Run p e below m K T pc' L (y :: x :: st)) (q : pc + 1 = pc' := by rfl) : Run p e below m K T pc L (x :: y :: st) := by
  obtain ⟨⟨locs, X, -⟩, -, hx, hby, -⟩ := X
  subst q hby
  exact Run.of (fun t k => XS.swap X.here hx rfl hd rfl hc hc2 k) r
theorem r_dup_x1 (pc' : Nat) (X : Cx p l e R s m args below meth c Z bytes ml own ret mname n0 T h cells slots) {x y : Value} (hd : decode bytes pc = .ok (.dup_x1, 1)) (hc : x.category = 1) (hc2 : y.category = 1) (r : Run p e below m K T pc' L (x :: y :: x :: st)) (q : pc + 1 = pc' := by rfl) : Run p e below m K T pc L (x :: y :: st) := by
  obtain ⟨⟨locs, X, -⟩, -, hx, hby, -⟩ := X
  subst q hby
  exact Run.of (fun t k => XS.dupX1 X.here hx rfl hd rfl hc hc2 k) r
theorem r_dup2_2 (pc' : Nat) (X : Cx p l e R s m args below meth c Z bytes ml own ret mname n0 T h cells slots) {x y : Value} (hd : decode bytes pc = .ok (.dup2, 1)) (hc : x.category = 1) (hc2 : y.category = 1) (r : Run p e below m K T pc' L (x :: y :: x :: y :: st)) (q : pc + 1 = pc' := by rfl) : Run p e below m K T pc L (x :: y :: st) := by
  obtain ⟨⟨locs, X, -⟩, -, hx, hby, -⟩ := X
  subst q hby
  refine Run.of (fun t k => ?_) r
  jvm_step X.here [X.here.top, hx, hd, hc, hc2]
  exact k
theorem r_dup2_1 (pc' : Nat) (X : Cx p l e R s m args below meth c Z bytes ml own ret mname n0 T h cells slots) {x : Value} (hd : decode bytes pc = .ok (.dup2, 1)) (hc : x.category = 2) (r : Run p e below m K T pc' L (x :: x :: st)) (q : pc + 1 = pc' := by rfl) : Run p e below m K T pc L (x :: st) := by
  obtain ⟨⟨locs, X, -⟩, -, hx, hby, -⟩ := X
  subst q hby
  refine Run.of (fun t k => ?_) r
  jvm_step X.here [X.here.top, hx, hd, hc]
  exact k
theorem r_dup_x2_111 (pc' : Nat) (X : Cx p l e R s m args below meth c Z bytes ml own ret mname n0 T h cells slots) {x y z : Value} (hd : decode bytes pc = .ok (.dup_x2, 1)) (hc : x.category = 1) (hc2 : y.category = 1) (hc3 : z.category = 1) (r : Run p e below m K T pc' L (x :: y :: z :: x :: st)) (q : pc + 1 = pc' := by rfl) : Run p e below m K T pc L (x :: y :: z :: st) := by
  obtain ⟨⟨locs, X, -⟩, -, hx, hby, -⟩ := X
  subst q hby
  refine Run.of (fun t k => ?_) r
  jvm_step X.here [X.here.top, hx, hd, hc, hc2, hc3]
  exact k
theorem r_dup2_x1_2 (pc' : Nat) (X : Cx p l e R s m args below meth c Z bytes ml own ret mname n0 T h cells slots) {x y : Value} (hd : decode bytes pc = .ok (.dup2_x1, 1)) (hc : x.category = 2) (hc2 : y.category = 1) (r : Run p e below m K T pc' L (x :: y :: x :: st)) (q : pc + 1 = pc' := by rfl) : Run p e below m K T pc L (x :: y :: st) := by
  obtain ⟨⟨locs, X, -⟩, -, hx, hby, -⟩ := X
  subst q hby
  refine Run.of (fun t k => ?_) r
  jvm_step X.here [X.here.top, hx, hd, hc, hc2]
  exact k
theorem r_dup2_x2_2 (pc' : Nat) (X : Cx p l e R s m args below meth c Z bytes ml own ret mname n0 T h cells slots) {x y z : Value} (hd : decode bytes pc = .ok (.dup2_x2, 1)) (hc : x.category = 2) (hc2 : y.category = 1) (hc3 : z.category = 1) (r : Run p e below m K T pc' L (x :: y :: z :: x :: st)) (q : pc + 1 = pc' := by rfl) : Run p e below m K T pc L (x :: y :: z :: st) := by
  obtain ⟨⟨locs, X, -⟩, -, hx, hby, -⟩ := X
  subst q hby
  refine Run.of (fun t k => ?_) r
  jvm_step X.here [X.here.top, hx, hd, hc, hc2, hc3]
  exact k
theorem r_pop2_1 (pc' : Nat) (X : Cx p l e R s m args below meth c Z bytes ml own ret mname n0 T h cells slots) {x : Value} (hd : decode bytes pc = .ok (.pop2, 1)) (hc : x.category = 2) (r : Run p e below m K T pc' L st) (q : pc + 1 = pc' := by rfl) : Run p e below m K T pc L (x :: st) := by
  obtain ⟨⟨locs, X, -⟩, -, hx, hby, -⟩ := X
  subst q hby
  refine Run.of (fun t k => ?_) r
  jvm_step X.here [X.here.top, hx, hd, hc]
  exact k
theorem r_goto (pc' : Nat) (X : Cx p l e R s m args below meth c Z bytes ml own ret mname n0 T h cells slots) {o : Int} (hd : decode bytes pc = .ok (.goto o, 3)) (r : Run p e below m K T pc' L st) (ho : 0 ≤ (pc : Int) + o := by decide) (hp : ((pc : Int) + o).toNat = pc' := by decide) : Run p e below m K T pc L st := by
  obtain ⟨⟨locs, X, -⟩, -, hx, hby, -⟩ := X
  subst hby
  exact Run.of (fun t k => XS.goto X.here hx rfl (pc0 := pc) (pc' := pc') rfl hd ho hp k) r
theorem r_ifY (pc' : Nat) (X : Cx p l e R s m args below meth c Z bytes ml own ret mname n0 T h cells slots) {cd : ClassFile.Cond} {o : Int} {x : Int32} (hd : decode bytes pc = .ok (.ifCond cd o, 3)) (hc : ifCond.holds cd x = true) (r : Run p e below m K T pc' L st) (ho : 0 ≤ (pc : Int) + o := by decide) (hp : ((pc : Int) + o).toNat = pc' := by decide) : Run p e below m K T pc L (.int x :: st) := by
  obtain ⟨⟨locs, X, -⟩, -, hx, hby, -⟩ := X
  subst hby
  exact Run.of (fun t k => XS.ifYes X.here hx rfl (pc0 := pc) (pc' := pc') rfl hd rfl hc ho hp k) r
theorem r_ifN (pc' : Nat) (X : Cx p l e R s m args below meth c Z bytes ml own ret mname n0 T h cells slots) {cd : ClassFile.Cond} {o : Int} {x : Int32} (hd : decode bytes pc = .ok (.ifCond cd o, 3)) (hc : ifCond.holds cd x = false) (r : Run p e below m K T pc' L st) (q : pc + 3 = pc' := by rfl) : Run p e below m K T pc L (.int x :: st) := by
  obtain ⟨⟨locs, X, -⟩, -, hx, hby, -⟩ := X
  subst q hby
  exact Run.of (fun t k => XS.ifNo X.here hx rfl hd rfl hc k) r
theorem r_icmpY (pc' : Nat) (X : Cx p l e R s m args below meth c Z bytes ml own ret mname n0 T h cells slots) {cd : ClassFile.Cond} {o : Int} {x y : Int32} (hd : decode bytes pc = .ok (.if_icmp cd o, 3)) (hc : if_icmp.holds cd x y = true) (r : Run p e below m K T pc' L st) (ho : 0 ≤ (pc : Int) + o := by decide) (hp : ((pc : Int) + o).toNat = pc' := by decide) : Run p e below m K T pc L (.int y :: .int x :: st) := by
  obtain ⟨⟨locs, X, -⟩, -, hx, hby, -⟩ := X
  subst hby
  exact Run.of (fun t k => XS.icmpYes X.here hx rfl (pc0 := pc) (pc' := pc') rfl hd rfl hc ho hp k) r
theorem r_icmpN (pc' : Nat) (X : Cx p l e R s m args below meth c Z bytes ml own ret mname n0 T h cells slots) {cd : ClassFile.Cond} {o : Int} {x y : Int32} (hd : decode bytes pc = .ok (.if_icmp cd o, 3)) (hc : if_icmp.holds cd x y = false) (r : Run p e below m K T pc' L st) (q : pc + 3 = pc' := by rfl) : Run p e below m K T pc L (.int y :: .int x :: st) := by
  obtain ⟨⟨locs, X, -⟩, -, hx, hby, -⟩ := X
  subst q hby
  exact Run.of (fun t k => XS.icmpNo X.here hx rfl hd rfl hc k) r
theorem r_ifnullY (pc' : Nat) (X : Cx p l e R s m args below meth c Z bytes ml own ret mname n0 T h cells slots) {o : Int}  (hd : decode bytes pc = .ok (.ifnull o, 3)) (r : Run p e below m K T pc' L st) (ho : 0 ≤ (pc : Int) + o := by decide) (hp : ((pc : Int) + o).toNat = pc' := by decide) : Run p e below m K T pc L (.null :: st) := by
  obtain ⟨⟨locs, X, -⟩, -, hx, hby, -⟩ := X
  subst hby
  exact Run.of (fun t k => XS.ifnullYes X.here hx rfl (pc0 := pc) (pc' := pc') rfl hd rfl ho hp k) r
theorem r_ifnullN (pc' : Nat) (X : Cx p l e R s m args below meth c Z bytes ml own ret mname n0 T h cells slots) {o : Int} {b : Addr} (hd : decode bytes pc = .ok (.ifnull o, 3)) (r : Run p e below m K T pc' L st) (q : pc + 3 = pc' := by rfl) : Run p e below m K T pc L (.ref b :: st) := by
  obtain ⟨⟨locs, X, -⟩, -, hx, hby, -⟩ := X
  subst q hby
  exact Run.of (fun t k => XS.ifnullNo X.here hx rfl hd rfl k) r
theorem r_ifnonnullY (pc' : Nat) (X : Cx p l e R s m args below meth c Z bytes ml own ret mname n0 T h cells slots) {o : Int} {b : Addr} (hd : decode bytes pc = .ok (.ifnonnull o, 3)) (r : Run p e below m K T pc' L st) (ho : 0 ≤ (pc : Int) + o := by decide) (hp : ((pc : Int) + o).toNat = pc' := by decide) : Run p e below m K T pc L (.ref b :: st) := by
  obtain ⟨⟨locs, X, -⟩, -, hx, hby, -⟩ := X
  subst hby
  exact Run.of (fun t k => XS.ifnonnullYes X.here hx rfl (pc0 := pc) (pc' := pc') rfl hd rfl ho hp k) r
theorem r_ifnonnullN (pc' : Nat) (X : Cx p l e R s m args below meth c Z bytes ml own ret mname n0 T h cells slots) {o : Int}  (hd : decode bytes pc = .ok (.ifnonnull o, 3)) (r : Run p e below m K T pc' L st) (q : pc + 3 = pc' := by rfl) : Run p e below m K T pc L (.null :: st) := by
  obtain ⟨⟨locs, X, -⟩, -, hx, hby, -⟩ := X
  subst q hby
  exact Run.of (fun t k => XS.ifnonnullNo X.here hx rfl hd rfl k) r
theorem r_acmpY (pc' : Nat) (X : Cx p l e R s m args below meth c Z bytes ml own ret mname n0 T h cells slots) {cd : ACond} {o : Int} {a b : Addr} (hd : decode bytes pc = .ok (.if_acmp cd o, 3)) (hc : if_acmp.holds cd (some a) (some b) = true) (r : Run p e below m K T pc' L st) (ho : 0 ≤ (pc : Int) + o := by decide) (hp : ((pc : Int) + o).toNat = pc' := by decide) : Run p e below m K T pc L (.ref b :: .ref a :: st) := by
  obtain ⟨⟨locs, X, -⟩, -, hx, hby, -⟩ := X
  subst hby
  exact Run.of (fun t k => XS.acmpYes X.here hx rfl (pc0 := pc) (pc' := pc') rfl hd rfl hc ho hp k) r
theorem r_acmpN (pc' : Nat) (X : Cx p l e R s m args below meth c Z bytes ml own ret mname n0 T h cells slots) {cd : ACond} {o : Int} {a b : Addr} (hd : decode bytes pc = .ok (.if_acmp cd o, 3)) (hc : if_acmp.holds cd (some a) (some b) = false) (r : Run p e below m K T pc' L st) (q : pc + 3 = pc' := by rfl) : Run p e below m K T pc L (.ref b :: .ref a :: st) := by
  obtain ⟨⟨locs, X, -⟩, -, hx, hby, -⟩ := X
  subst q hby
  exact Run.of (fun t k => XS.acmpNo X.here hx rfl hd rfl hc k) r
theorem r_ldcInt (pc' : Nat) (X : Cx p l e R s m args below meth c Z bytes ml own ret mname n0 T h cells slots) {a0 : Array Value} {i : Nat} {z : Int32} (w : (Jvm.Cond.constant own i z).before a0 Z = true) (hd : decode bytes pc = .ok (.ldc i, 2)) (r : Run p e below m K T pc' L (.int z :: st)) (q : pc + 2 = pc' := by rfl) : Run p e below m K T pc L st := by
  obtain ⟨⟨locs, X, -⟩, -, hx, hby, -, hZ, hown, -⟩ := X
  subst q hby
  exact Run.of (fun t k => X.ldcInt hx hown (mvT hZ w) (g := mkF m pc L st) rfl hd _ k) r
theorem r_ldcwInt (pc' : Nat) (X : Cx p l e R s m args below meth c Z bytes ml own ret mname n0 T h cells slots) {a0 : Array Value} {i : Nat} {z : Int32} (w : (Jvm.Cond.constant own i z).before a0 Z = true) (hd : decode bytes pc = .ok (.ldc_w i, 3)) (r : Run p e below m K T pc' L (.int z :: st)) (q : pc + 3 = pc' := by rfl) : Run p e below m K T pc L st := by
  obtain ⟨⟨locs, X, -⟩, -, hx, hby, -, hZ, hown, -⟩ := X
  subst q hby
  exact Run.of (fun t k => X.ldcwInt hx hown (mvT hZ w) (g := mkF m pc L st) rfl hd _ k) r
theorem r_ldc2Long (pc' : Nat) (X : Cx p l e R s m args below meth c Z bytes ml own ret mname n0 T h cells slots) {a0 : Array Value} {i : Nat} {z : Int64} (w : (Jvm.Cond.constantLong own i z).before a0 Z = true) (hd : decode bytes pc = .ok (.ldc2_w i, 3)) (r : Run p e below m K T pc' L (.long z :: st)) (q : pc + 3 = pc' := by rfl) : Run p e below m K T pc L st := by
  obtain ⟨⟨locs, X, -⟩, -, hx, hby, -, hZ, hown, -⟩ := X
  subst q hby
  exact Run.of (fun t k => X.ldc2Long hx hown (mvT hZ w) (g := mkF m pc L st) rfl hd _ k) r
theorem r_getfield (pc' : Nat) (X : Cx p l e R s m args below meth c Z bytes ml own ret mname n0 T h cells slots) {a0 : Array Value} {R0 O n d host : String} {index : Nat} (w : (Jvm.Cond.fieldLink own index R0 n d).before a0 Z = true ∨ (Jvm.Cond.fieldLinkNest own index R0 n d host).before a0 Z = true) (via : Via Z R0 O n d) {a : Addr} {v : Value} (F : Fld Z h a O n d v) (hd : decode bytes pc = .ok (.getfield index, 3)) (r : ∀ T', Cx p l e R s m args below meth c Z bytes ml own ret mname n0 T' h cells slots → Run p e below m K T' pc' L (v :: st)) (q : pc + 3 = pc' := by rfl) : Run p e below m K T pc L (.ref a :: st) := by
  obtain ⟨⟨locs, X, N⟩, e0, hx, hby, hml, hZ, hown, r1⟩ := X
  subst q
  obtain ⟨T', X', e', stp⟩ := getF X hx hZ hown w via e0 F (g := mkF m pc L (.ref a :: st)) rfl rfl (hb hby hd)
  exact Run.of stp (r T' ⟨⟨locs, X', N⟩, e', hx, hby, hml, hZ, hown, r1⟩)
theorem r_getstatic (pc' : Nat) (X : Cx p l e R s m args below meth c Z bytes ml own ret mname n0 T h cells slots) {a0 : Array Value} {R0 O n d host : String} {index : Nat} (w : (Jvm.Cond.fieldLink own index R0 n d).before a0 Z = true ∨ (Jvm.Cond.fieldLinkNest own index R0 n d host).before a0 Z = true) (via : Via Z R0 O n d) {v : Value} (F : Sta Z h O n d v) (hd : decode bytes pc = .ok (.getstatic index, 3)) (r : ∀ T', Cx p l e R s m args below meth c Z bytes ml own ret mname n0 T' h cells slots → Run p e below m K T' pc' L (v :: st)) (q : pc + 3 = pc' := by rfl) : Run p e below m K T pc L st := by
  obtain ⟨⟨locs, X, N⟩, e0, hx, hby, hml, hZ, hown, r1⟩ := X
  subst q
  obtain ⟨T', X', e', stp⟩ := getS2 X hx hZ hown w via e0 F (g := mkF m pc L st) rfl (hb hby hd)
  exact Run.of stp (r T' ⟨⟨locs, X', N⟩, e', hx, hby, hml, hZ, hown, r1⟩)
theorem r_putfield (pc' : Nat) (X : Cx p l e R s m args below meth c Z bytes ml own ret mname n0 T h cells slots) {a0 : Array Value} {R0 O n d host C : String} {index kk : Nat} {ty : FieldType} (w : (Jvm.Cond.fieldLink own index R0 n d).before a0 Z = true ∨ (Jvm.Cond.fieldLinkNest own index R0 n d host).before a0 Z = true) (via : Via Z R0 O n d) {a : Addr} {v old : Value} (F : Fld Z h a O n d old) (E : Exa Z h a C) (Lw : (Jvm.Cond.lays C O n d).before a0 Z = true ∨ ((Jvm.Cond.laysFinal C O n d).before a0 Z = true ∧ own = O ∧ mname = "<init>")) (wi : (Jvm.Cond.instantiable C kk).before a0 Z = true) (hty : parseFieldDescriptor d = some ty) (hn : narrow ty v = v) (hf : fits ty v = true) (ga : n0 ≤ a) (hd : decode bytes pc = .ok (.putfield index, 3)) (r : ∀ T' h', Wr h h' a (Jvm.RoadKit.slotOf Z O n d) v → Cx p l e R s m args below meth c Z bytes ml own ret mname n0 T' h' cells slots → Run p e below m K T' pc' L st) (q : pc + 3 = pc' := by rfl) : Run p e below m K T pc L (v :: .ref a :: st) := by
  obtain ⟨⟨locs, X, N⟩, e0, hx, hby, hml, hZ, hown, hret, hnm, hlk, hsz⟩ := X
  subst q
  obtain ⟨T', h', X', e', W', stp⟩ := putF X hx hZ hown w via e0 F E (Lw.imp id fun q => ⟨q.1, q.2.1, hnm.trans q.2.2⟩) wi hty hn hf (g := mkF m pc L (v :: .ref a :: st)) rfl rfl (hb hby hd)
  exact Run.of stp (r T' h' W' ⟨⟨_, X', Fr.snoc X' N ga⟩, e', hx, hby, hml, hZ, hown, hret, hnm, hlk, by rw [W'.size]; exact hsz⟩)
theorem r_putfieldN (pc' : Nat) (X : Cx p l e R s m args below meth c Z bytes ml own ret mname n0 T h cells slots) {a0 : Array Value} {R0 O n d C : String} {index kk : Nat} {ty : FieldType} (w : (Jvm.Cond.fieldLink own index R0 n d).before a0 Z = true) (via : Via Z R0 O n d) {a : Addr} {v v' old : Value} (F : Fld Z h a O n d old) (E : Exa Z h a C) (Lw : (Jvm.Cond.lays C O n d).before a0 Z = true ∨ ((Jvm.Cond.laysFinal C O n d).before a0 Z = true ∧ own = O ∧ mname = "<init>")) (wi : (Jvm.Cond.instantiable C kk).before a0 Z = true) (hty : parseFieldDescriptor d = some ty) (hn : narrow ty v = v') (hf : fits ty v' = true) (ga : n0 ≤ a) (hd : decode bytes pc = .ok (.putfield index, 3)) (r : ∀ T' h', Wr h h' a (Jvm.RoadKit.slotOf Z O n d) v' → Cx p l e R s m args below meth c Z bytes ml own ret mname n0 T' h' cells slots → Run p e below m K T' pc' L st) (q : pc + 3 = pc' := by rfl) : Run p e below m K T pc L (v :: .ref a :: st) := by
  obtain ⟨⟨locs, X, N⟩, e0, hx, hby, hml, hZ, hown, hret, hnm, hlk, hsz⟩ := X
  subst q
  obtain ⟨T', h', X', e', W', stp⟩ := putFN X hx hZ hown w via e0 F E (Lw.imp id fun q => ⟨q.1, q.2.1, hnm.trans q.2.2⟩) wi hty hn hf (g := mkF m pc L (v :: .ref a :: st)) rfl rfl (hb hby hd)
  exact Run.of stp (r T' h' W' ⟨⟨_, X', Fr.snoc X' N ga⟩, e', hx, hby, hml, hZ, hown, hret, hnm, hlk, by rw [W'.size]; exact hsz⟩)
theorem r_new (pc' : Nat) (X : Cx p l e R s m args below meth c Z bytes ml own ret mname n0 T h cells slots) {a0 : Array Value} {C : String} {index n : Nat} (w : (Jvm.Cond.classLink own index C).before a0 Z = true) (wi : (Jvm.Cond.instantiable C n).before a0 Z = true) (wz : (Jvm.Cond.initialized C).before a0 Z = true) (hd : decode bytes pc = .ok (.new index, 3)) (hc : cells + 1 ≤ R.cells) (hl : slots + n ≤ R.slots) (r : ∀ T' h' b, b = h.size → n0 ≤ b → Ext h h' → Exa Z h' b C → (∀ {O nm d : String} {ty : FieldType}, Laid Z a0 C O nm d → parseFieldDescriptor d = some ty → Fld Z h' b O nm d (defaultValue ty)) → Cx p l e R s m args below meth c Z bytes ml own ret mname n0 T' h' (cells + 1) (slots + n) → Run p e below m K T' pc' L (.ref b :: st)) (q : pc + 3 = pc' := by rfl) : Run p e below m K T pc L st := by
  obtain ⟨⟨locs, X, N⟩, e0, hx, hby, hml, hZ, hown, hret, hnm, hlk, hsz⟩ := X
  subst q
  obtain ⟨T', h', X', e', E', A', D', -, stp⟩ := newO X hx hZ hown w wi wz e0 (g := mkF m pc L st) rfl (hb hby hd) hc hl
  exact Run.of stp (r T' h' h.size rfl hsz E' A' D' ⟨⟨_, X', N⟩, e', hx, hby, hml, hZ, hown, hret, hnm, hlk, Nat.le_trans hsz E'.1⟩)
theorem r_newarray (pc' : Nat) (X : Cx p l e R s m args below meth c Z bytes ml own ret mname n0 T h cells slots) {a0 : Array Value} {aty : ArrayType} {z : Int32} (n cap : Nat) (w : (Jvm.Cond.arrayClass (newarray.typeOf aty)).before a0 Z = true) (hd : decode bytes pc = .ok (.newarray aty, 2)) (hz : z.toInt = (n : Int)) (hcap : n ≤ cap) (hb8 : cap * 8 ≤ 536870912) (hc : cells + 1 ≤ R.cells) (hl : slots + cap ≤ R.slots) (r : ∀ T' h' b, b = h.size → n0 ≤ b → Ext h h' → AF Z h' b (newarray.typeOf aty) n (fun _ => defaultValue (newarray.typeOf aty)) → Cx p l e R s m args below meth c Z bytes ml own ret mname n0 T' h' (cells + 1) (slots + cap) → Run p e below m K T' pc' L (.ref b :: st)) (q : pc + 2 = pc' := by rfl) : Run p e below m K T pc L (.int z :: st) := by
  obtain ⟨⟨locs, X, N⟩, e0, hx, hby, hml, hZ, hown, hret, hnm, hlk, hsz⟩ := X
  subst q
  have hz0 : ¬ z < 0 := by rw [Int32.lt_iff_toInt_lt]; have : (0 : Int32).toInt = 0 := rfl; omega
  have hzn : z.toNatClampNeg = n := by show z.toInt.toNat = n; omega
  have hzl := z.toInt_lt
  obtain ⟨T', h', cA, X', e', E', A', stp⟩ := newP X hx hZ w e0 (g := mkF m pc L (.int z :: st)) rfl (hb hby hd) rfl hz0 (cap := cap) (by rw [hzn]; exact hcap) hb8 hc hl
  refine Run.of stp (r T' h' h.size rfl hsz E' ⟨_, A', by rw [sz_new, hzn], by omega, fun j hj => ?_⟩ ⟨⟨_, X', N⟩, e', hx, hby, hml, hZ, hown, hret, hnm, hlk, Nat.le_trans hsz E'.1⟩)
  simp [newA, hzn, hj]
theorem r_arraylength (pc' : Nat) (X : Cx p l e R s m args below meth c Z bytes ml own ret mname n0 T h cells slots) {a : Addr} {ty : FieldType} {n : Nat} {f : Nat → Value} (A : AF Z h a ty n f) (z : Int32) (hz : z.toInt = (n : Int)) (hd : decode bytes pc = .ok (.arraylength, 1)) (r : Run p e below m K T pc' L (.int z :: st)) (q : pc + 1 = pc' := by rfl) : Run p e below m K T pc L (.ref a :: st) := by
  obtain ⟨⟨locs, X, N⟩, e0, hx, hby, hml, hZ, hown, r1⟩ := X
  subst q hby
  obtain ⟨cl, A, S, q, -⟩ := A
  have ez : cl.slots.size.toInt32 = z := by rw [S]; apply Int32.toInt_inj.mp; rw [hz]; exact len_toInt q
  rw [← ez] at r
  exact Run.of (fun t k => X.arraylength hx (by rw [e0]; exact A.1) (State.isArrayOf_alike hZ.alike A.2.1) (g := mkF m pc L (.ref a :: st)) rfl rfl hd _ k) r
theorem r_iaload (pc' : Nat) (X : Cx p l e R s m args below meth c Z bytes ml own ret mname n0 T h cells slots) {a : Addr} {n : Nat} {f : Nat → Value} (A : AF Z h a .int n f) {j : Int32} {i : Nat} {v : Value} (hj : j.toInt = (i : Int)) (hi : i < n) (hv : f i = v) (hd : decode bytes pc = .ok (.iaload, 1)) (r : Run p e below m K T pc' L (v :: st)) (q : pc + 1 = pc' := by rfl) : Run p e below m K T pc L (.int j :: .ref a :: st) := by
  obtain ⟨⟨locs, X, N⟩, e0, hx, hby, hml, hZ, hown, r1⟩ := X
  subst q hby
  obtain ⟨cl, A, S, -, H⟩ := A
  obtain ⟨h1, h2⟩ := idx_of hj (S ▸ hi)
  exact Run.of (fun t k => X.iaload hx (j := j) (v := v) (by rw [e0]; exact A.1) (State.isArrayOf_alike hZ.alike A.2.1) A.2.2 h1 (by rw [h2, H i hi, hv]) (g := mkF m pc L (.int j :: .ref a :: st)) rfl rfl hd _ k) r
theorem r_laload (pc' : Nat) (X : Cx p l e R s m args below meth c Z bytes ml own ret mname n0 T h cells slots) {a : Addr} {n : Nat} {f : Nat → Value} (A : AF Z h a .long n f) {j : Int32} {i : Nat} {v : Value} (hj : j.toInt = (i : Int)) (hi : i < n) (hv : f i = v) (hd : decode bytes pc = .ok (.laload, 1)) (r : Run p e below m K T pc' L (v :: st)) (q : pc + 1 = pc' := by rfl) : Run p e below m K T pc L (.int j :: .ref a :: st) := by
  obtain ⟨⟨locs, X, N⟩, e0, hx, hby, hml, hZ, hown, r1⟩ := X
  subst q hby
  obtain ⟨cl, A, S, -, H⟩ := A
  obtain ⟨h1, h2⟩ := idx_of hj (S ▸ hi)
  exact Run.of (fun t k => X.laload hx (j := j) (v := v) (by rw [e0]; exact A.1) (State.isArrayOf_alike hZ.alike A.2.1) A.2.2 h1 (by rw [h2, H i hi, hv]) (g := mkF m pc L (.int j :: .ref a :: st)) rfl rfl hd _ k) r
theorem r_caload (pc' : Nat) (X : Cx p l e R s m args below meth c Z bytes ml own ret mname n0 T h cells slots) {a : Addr} {n : Nat} {f : Nat → Value} (A : AF Z h a .char n f) {j : Int32} {i : Nat} {v : Value} (hj : j.toInt = (i : Int)) (hi : i < n) (hv : f i = v) (hd : decode bytes pc = .ok (.caload, 1)) (r : Run p e below m K T pc' L (v :: st)) (q : pc + 1 = pc' := by rfl) : Run p e below m K T pc L (.int j :: .ref a :: st) := by
  obtain ⟨⟨locs, X, N⟩, e0, hx, hby, hml, hZ, hown, r1⟩ := X
  subst q hby
  obtain ⟨cl, A, S, -, H⟩ := A
  obtain ⟨h1, h2⟩ := idx_of hj (S ▸ hi)
  exact Run.of (fun t k => X.caload hx (j := j) (v := v) (by rw [e0]; exact A.1) (State.isArrayOf_alike hZ.alike A.2.1) A.2.2 h1 (by rw [h2, H i hi, hv]) (g := mkF m pc L (.int j :: .ref a :: st)) rfl rfl hd _ k) r
theorem r_baloadB (pc' : Nat) (X : Cx p l e R s m args below meth c Z bytes ml own ret mname n0 T h cells slots) {a : Addr} {n : Nat} {f : Nat → Value} (A : AF Z h a .byte n f) {j : Int32} {i : Nat} {v : Value} (hj : j.toInt = (i : Int)) (hi : i < n) (hv : f i = v) (hd : decode bytes pc = .ok (.baload, 1)) (r : Run p e below m K T pc' L (v :: st)) (q : pc + 1 = pc' := by rfl) : Run p e below m K T pc L (.int j :: .ref a :: st) := by
  obtain ⟨⟨locs, X, N⟩, e0, hx, hby, hml, hZ, hown, r1⟩ := X
  subst q hby
  obtain ⟨cl, A, S, -, H⟩ := A
  obtain ⟨h1, h2⟩ := idx_of hj (S ▸ hi)
  exact Run.of (fun t k => X.baloadBytes hx (j := j) (v := v) (by rw [e0]; exact A.1) (State.isArrayOf_alike hZ.alike A.2.1) A.2.2 h1 (by rw [h2, H i hi, hv]) (g := mkF m pc L (.int j :: .ref a :: st)) rfl rfl hd _ k) r
theorem r_baloadZ (pc' : Nat) (X : Cx p l e R s m args below meth c Z bytes ml own ret mname n0 T h cells slots) {a : Addr} {n : Nat} {f : Nat → Value} (A : AF Z h a .boolean n f) {j : Int32} {i : Nat} {v : Value} (hj : j.toInt = (i : Int)) (hi : i < n) (hv : f i = v) (hd : decode bytes pc = .ok (.baload, 1)) (r : Run p e below m K T pc' L (v :: st)) (q : pc + 1 = pc' := by rfl) : Run p e below m K T pc L (.int j :: .ref a :: st) := by
  obtain ⟨⟨locs, X, N⟩, e0, hx, hby, hml, hZ, hown, r1⟩ := X
  subst q hby
  obtain ⟨cl, A, S, -, H⟩ := A
  obtain ⟨h1, h2⟩ := idx_of hj (S ▸ hi)
  exact Run.of (fun t k => X.baloadBooleans hx (j := j) (v := v) (by rw [e0]; exact A.1) (State.isArrayOf_alike hZ.alike A.2.1) A.2.2 h1 (by rw [h2, H i hi, hv]) (g := mkF m pc L (.int j :: .ref a :: st)) rfl rfl hd _ k) r
theorem r_daload (pc' : Nat) (X : Cx p l e R s m args below meth c Z bytes ml own ret mname n0 T h cells slots) {a : Addr} {n : Nat} {f : Nat → Value} (A : AF Z h a .double n f) {j : Int32} {i : Nat} {v : Value} (hj : j.toInt = (i : Int)) (hi : i < n) (hv : f i = v) (hd : decode bytes pc = .ok (.daload, 1)) (r : Run p e below m K T pc' L (v :: st)) (q : pc + 1 = pc' := by rfl) : Run p e below m K T pc L (.int j :: .ref a :: st) := by
  obtain ⟨⟨locs, X, N⟩, e0, hx, hby, hml, hZ, hown, r1⟩ := X
  subst q hby
  obtain ⟨cl, A, S, -, H⟩ := A
  obtain ⟨h1, h2⟩ := idx_of hj (S ▸ hi)
  exact Run.of (fun t k => X.daload hx (j := j) (v := v) (by rw [e0]; exact A.1) (State.isArrayOf_alike hZ.alike A.2.1) A.2.2 h1 (by rw [h2, H i hi, hv]) (g := mkF m pc L (.int j :: .ref a :: st)) rfl rfl hd _ k) r
theorem r_iastore (pc' : Nat) (X : Cx p l e R s m args below meth c Z bytes ml own ret mname n0 T h cells slots) {a : Addr} {n : Nat} {f : Nat → Value} (A : AF Z h a .int n f) {j : Int32} {i : Nat} {x : Int32} {v : Value} (hj : j.toInt = (i : Int)) (hi : i < n) (hv : (.int x) = v) (ga : n0 ≤ a) (hd : decode bytes pc = .ok (.iastore, 1)) (r : ∀ T' h', Wr h h' a i v → Cx p l e R s m args below meth c Z bytes ml own ret mname n0 T' h' cells slots → Run p e below m K T' pc' L st) (q : pc + 1 = pc' := by rfl) : Run p e below m K T pc L ((.int x) :: .int j :: .ref a :: st) := by
  obtain ⟨⟨locs, X, N⟩, e0, hx, hby, hml, hZ, hown, hret, hnm, hlk, hsz⟩ := X
  subst q hv
  obtain ⟨cl, A, S, -, H⟩ := A
  obtain ⟨h1, h2⟩ := idx_of hj (S ▸ hi)
  obtain ⟨T', h', X', e', W', stp⟩ := stI X hx hZ e0 A (j := j) h1 (g := mkF m pc L ((.int x) :: .int j :: .ref a :: st)) rfl rfl (hb hby hd)
  exact Run.of stp (r T' h' (h2 ▸ W') ⟨⟨_, X', Fr.snoc X' N ga⟩, e', hx, hby, hml, hZ, hown, hret, hnm, hlk, by rw [W'.size]; exact hsz⟩)
theorem r_lastore (pc' : Nat) (X : Cx p l e R s m args below meth c Z bytes ml own ret mname n0 T h cells slots) {a : Addr} {n : Nat} {f : Nat → Value} (A : AF Z h a .long n f) {j : Int32} {i : Nat} {x : Int64} {v : Value} (hj : j.toInt = (i : Int)) (hi : i < n) (hv : (.long x) = v) (ga : n0 ≤ a) (hd : decode bytes pc = .ok (.lastore, 1)) (r : ∀ T' h', Wr h h' a i v → Cx p l e R s m args below meth c Z bytes ml own ret mname n0 T' h' cells slots → Run p e below m K T' pc' L st) (q : pc + 1 = pc' := by rfl) : Run p e below m K T pc L ((.long x) :: .int j :: .ref a :: st) := by
  obtain ⟨⟨locs, X, N⟩, e0, hx, hby, hml, hZ, hown, hret, hnm, hlk, hsz⟩ := X
  subst q hv
  obtain ⟨cl, A, S, -, H⟩ := A
  obtain ⟨h1, h2⟩ := idx_of hj (S ▸ hi)
  obtain ⟨T', h', X', e', W', stp⟩ := stJ X hx hZ e0 A (j := j) h1 (g := mkF m pc L ((.long x) :: .int j :: .ref a :: st)) rfl rfl (hb hby hd)
  exact Run.of stp (r T' h' (h2 ▸ W') ⟨⟨_, X', Fr.snoc X' N ga⟩, e', hx, hby, hml, hZ, hown, hret, hnm, hlk, by rw [W'.size]; exact hsz⟩)
theorem r_castore (pc' : Nat) (X : Cx p l e R s m args below meth c Z bytes ml own ret mname n0 T h cells slots) {a : Addr} {n : Nat} {f : Nat → Value} (A : AF Z h a .char n f) {j : Int32} {i : Nat} {x : Int32} {v : Value} (hj : j.toInt = (i : Int)) (hi : i < n) (hv : (.int (nar .char x)) = v) (ga : n0 ≤ a) (hd : decode bytes pc = .ok (.castore, 1)) (r : ∀ T' h', Wr h h' a i v → Cx p l e R s m args below meth c Z bytes ml own ret mname n0 T' h' cells slots → Run p e below m K T' pc' L st) (q : pc + 1 = pc' := by rfl) : Run p e below m K T pc L ((.int x) :: .int j :: .ref a :: st) := by
  obtain ⟨⟨locs, X, N⟩, e0, hx, hby, hml, hZ, hown, hret, hnm, hlk, hsz⟩ := X
  subst q hv
  obtain ⟨cl, A, S, -, H⟩ := A
  obtain ⟨h1, h2⟩ := idx_of hj (S ▸ hi)
  obtain ⟨T', h', X', e', W', stp⟩ := stC X hx hZ e0 A (j := j) h1 (g := mkF m pc L ((.int x) :: .int j :: .ref a :: st)) rfl rfl (hb hby hd)
  exact Run.of stp (r T' h' (h2 ▸ W') ⟨⟨_, X', Fr.snoc X' N ga⟩, e', hx, hby, hml, hZ, hown, hret, hnm, hlk, by rw [W'.size]; exact hsz⟩)
theorem r_bastoreB (pc' : Nat) (X : Cx p l e R s m args below meth c Z bytes ml own ret mname n0 T h cells slots) {a : Addr} {n : Nat} {f : Nat → Value} (A : AF Z h a .byte n f) {j : Int32} {i : Nat} {x : Int32} {v : Value} (hj : j.toInt = (i : Int)) (hi : i < n) (hv : (.int (nar .byte x)) = v) (ga : n0 ≤ a) (hd : decode bytes pc = .ok (.bastore, 1)) (r : ∀ T' h', Wr h h' a i v → Cx p l e R s m args below meth c Z bytes ml own ret mname n0 T' h' cells slots → Run p e below m K T' pc' L st) (q : pc + 1 = pc' := by rfl) : Run p e below m K T pc L ((.int x) :: .int j :: .ref a :: st) := by
  obtain ⟨⟨locs, X, N⟩, e0, hx, hby, hml, hZ, hown, hret, hnm, hlk, hsz⟩ := X
  subst q hv
  obtain ⟨cl, A, S, -, H⟩ := A
  obtain ⟨h1, h2⟩ := idx_of hj (S ▸ hi)
  obtain ⟨T', h', X', e', W', stp⟩ := stB X hx hZ e0 A (j := j) h1 (g := mkF m pc L ((.int x) :: .int j :: .ref a :: st)) rfl rfl (hb hby hd)
  exact Run.of stp (r T' h' (h2 ▸ W') ⟨⟨_, X', Fr.snoc X' N ga⟩, e', hx, hby, hml, hZ, hown, hret, hnm, hlk, by rw [W'.size]; exact hsz⟩)
theorem r_bastoreZ (pc' : Nat) (X : Cx p l e R s m args below meth c Z bytes ml own ret mname n0 T h cells slots) {a : Addr} {n : Nat} {f : Nat → Value} (A : AF Z h a .boolean n f) {j : Int32} {i : Nat} {x : Int32} {v : Value} (hj : j.toInt = (i : Int)) (hi : i < n) (hv : (.int (nar .boolean x)) = v) (ga : n0 ≤ a) (hd : decode bytes pc = .ok (.bastore, 1)) (r : ∀ T' h', Wr h h' a i v → Cx p l e R s m args below meth c Z bytes ml own ret mname n0 T' h' cells slots → Run p e below m K T' pc' L st) (q : pc + 1 = pc' := by rfl) : Run p e below m K T pc L ((.int x) :: .int j :: .ref a :: st) := by
  obtain ⟨⟨locs, X, N⟩, e0, hx, hby, hml, hZ, hown, hret, hnm, hlk, hsz⟩ := X
  subst q hv
  obtain ⟨cl, A, S, -, H⟩ := A
  obtain ⟨h1, h2⟩ := idx_of hj (S ▸ hi)
  obtain ⟨T', h', X', e', W', stp⟩ := stZ X hx hZ e0 A (j := j) h1 (g := mkF m pc L ((.int x) :: .int j :: .ref a :: st)) rfl rfl (hb hby hd)
  exact Run.of stp (r T' h' (h2 ▸ W') ⟨⟨_, X', Fr.snoc X' N ga⟩, e', hx, hby, hml, hZ, hown, hret, hnm, hlk, by rw [W'.size]; exact hsz⟩)
theorem r_dastore (pc' : Nat) (X : Cx p l e R s m args below meth c Z bytes ml own ret mname n0 T h cells slots) {a : Addr} {n : Nat} {f : Nat → Value} (A : AF Z h a .double n f) {j : Int32} {i : Nat} {x : UInt64} {v : Value} (hj : j.toInt = (i : Int)) (hi : i < n) (hv : (.double x) = v) (ga : n0 ≤ a) (hd : decode bytes pc = .ok (.dastore, 1)) (r : ∀ T' h', Wr h h' a i v → Cx p l e R s m args below meth c Z bytes ml own ret mname n0 T' h' cells slots → Run p e below m K T' pc' L st) (q : pc + 1 = pc' := by rfl) : Run p e below m K T pc L ((.double x) :: .int j :: .ref a :: st) := by
  obtain ⟨⟨locs, X, N⟩, e0, hx, hby, hml, hZ, hown, hret, hnm, hlk, hsz⟩ := X
  subst q hv
  obtain ⟨cl, A, S, -, H⟩ := A
  obtain ⟨h1, h2⟩ := idx_of hj (S ▸ hi)
  obtain ⟨T', h', X', e', W', stp⟩ := stD X hx hZ e0 A (j := j) h1 (g := mkF m pc L ((.double x) :: .int j :: .ref a :: st)) rfl rfl (hb hby hd)
  exact Run.of stp (r T' h' (h2 ▸ W') ⟨⟨_, X', Fr.snoc X' N ga⟩, e', hx, hby, hml, hZ, hown, hret, hnm, hlk, by rw [W'.size]; exact hsz⟩)
theorem r_initO (pc' : Nat) (X : Cx p l e R s m args below meth c Z bytes ml own ret mname n0 T h cells slots) {a0 : Array Value} {idx : Nat} (w1 : (Jvm.Cond.methodLink own idx Lib.objectInit).before a0 Z = true) (w2 : (Jvm.Cond.instanceMethod Lib.objectInit).before a0 Z = true) (w3 : (Jvm.Cond.code Lib.objectInit ⟨#[0xb1]⟩ 1 none).before a0 Z = true) {a : Addr} (hd : decode bytes pc = .ok (.invokespecial idx, 3)) (hsize : L.size = ml) (hf : 1 ≤ R.frames) (W : Nat) (hW : (st.map fun v => v.category).sum ≤ W) (hl : W + 12 ≤ R.locals) (r : ∀ T', Cx p l e R s m args below meth c Z bytes ml own ret mname n0 T' h cells slots → Run p e below m K T' pc' L st) (q : pc + 3 = pc' := by rfl) : Run p e below m K T pc L (.ref a :: st) := by
  obtain ⟨⟨locs, X, N⟩, e0, hx, hby, hml, hZ, hown, r1⟩ := X
  subst q
  obtain ⟨T', X', e', stp⟩ := initO X hx hZ hown w1 w2 w3 e0 (g := mkF m pc L (.ref a :: st)) rfl (by rw [hml]; exact hsize) rfl (hb hby hd) hf (W := W) (by show 2 * 0 + _ ≤ _; omega) hl
  exact Run.of stp (r T' ⟨⟨_, X', N⟩, e', hx, hby, hml, hZ, hown, r1⟩)
theorem met_of {l : Launch} {Z : State} {n0 : Nat} {ws : List Jvm.Cond} {y : MethodName} {bytes : ByteArray} {ml : Nat} {ret : Option FieldType} {rm : Room} {as : Array Value} {h0 : Heap} {Q : Option Value → Heap → Prop} {L0 : Array Slot} (hpl : plainFor y = true) (hn0 : n0 ≤ h0.size) (ef : ∀ m, entryFrame m as ml = mkF m 0 L0 [])
    (body : ∀ p e s m below meth c T, s.heap = h0 → Cx p l e rm s m as below meth c Z bytes ml y.cls ret y.name n0 T h0 0 0 → Run p e below m (Fin1 below s n0 Q rm.cells rm.slots) T 0 L0 []) : Met1 l Z n0 ws y bytes ml ret rm as h0 Q := by
  refine MetFree.of_bodySF hpl hisR ?_
  intro p e s m args below meth c s₁ Bd hml0 hP hK
  obtain ⟨rfl, hZ, hh⟩ := hP
  have hlk : meth.locks = false := BodyLoose.notSynchronized Bd
  obtain ⟨u, h1, h2, o, h3, h4⟩ := body p e s m below meth c s₁ hh ⟨⟨[], Stand.of_body Bd, Fr.nil n0⟩, by rw [← hh, Bd.state]; rfl, Bd.exec, Bd.bytes, hml0, hZ, findClass_of_methodNamed Bd.named, Bd.returns, (name_of_methodNamed Bd.named Bd.method).1, hlk, hn0⟩
  exact ⟨u, o, castTop (ef m) h1, h2, h3, h4⟩
theorem fin_of {Q : Option Value → Heap → Prop} {cN sN : Nat} {v : Option Value} (X : Cx p l e R s m args below meth c Z bytes ml own ret mname n0 T h cells slots) (hc : cells ≤ cN) (hs : slots ≤ sN) (hQ : Q v h) (hv : ret = none → v = none) (stp : ∀ {T : State} {locs : List Loc} (X : Stand p l e R s m args below meth c T locs cells slots) (hx : p.tables.exec = Jvm.exec) (hret : meth.sig.returnType = ret) {fs : List Frame}, (∀ (f : JFrame) (acts : List Action), f.method = m → f.locked = none → f.entered = [] → (doReturn e (T.setTop f) acts v).1 = T.setFrames fs) → Steps p.tables e below (T.setTop (mkF m pc L st)) (T.setFrames fs)) : Run p e below m (Fin1 below s n0 Q cN sN) T pc L st := by
  obtain ⟨⟨locs, X, N⟩, e0, hx, hby, hml, hZ, hown, hret, hnm, hlk, hsz⟩ := X
  obtain ⟨fs, hr, hrun, hended, hW, hsame⟩ := X.leave (v := v) (fun q => hv (hret.symm.trans q)) hlk
  refine ⟨_, stp X hx hret hr, hrun, _, hended, v, locs, rfl, ⟨?_, N, ?_⟩, ⟨_, rfl⟩, hW, hsame.mono hc hs⟩
  · show Q v T.heap; rw [e0]; exact hQ
  · show n0 ≤ T.heap.size; rw [e0]; exact hsz
theorem r_retZ {Q : Option Value → Heap → Prop} {cN sN : Nat} (X : Cx p l e R s m args below meth c Z bytes ml own (some .boolean) mname n0 T h cells slots) {x z : Int32} (hd : decode bytes pc = .ok (.ireturn, 1)) (hz : nar .boolean x = z) (hc : cells ≤ cN) (hs : slots ≤ sN) (hQ : Q (some (.int z)) h) : Run p e below m (Fin1 below s n0 Q cN sN) T pc L (.int x :: st) := by
  have hby := X.2.2.2.1
  subst hz
  exact fin_of X hc hs hQ (fun q => by cases q) (fun X hx hret fs hr => retN X hx (t := .boolean) hret (by simp) (hb hby hd) hr)
theorem r_retB {Q : Option Value → Heap → Prop} {cN sN : Nat} (X : Cx p l e R s m args below meth c Z bytes ml own (some .byte) mname n0 T h cells slots) {x z : Int32} (hd : decode bytes pc = .ok (.ireturn, 1)) (hz : nar .byte x = z) (hc : cells ≤ cN) (hs : slots ≤ sN) (hQ : Q (some (.int z)) h) : Run p e below m (Fin1 below s n0 Q cN sN) T pc L (.int x :: st) := by
  have hby := X.2.2.2.1
  subst hz
  exact fin_of X hc hs hQ (fun q => by cases q) (fun X hx hret fs hr => retN X hx (t := .byte) hret (by simp) (hb hby hd) hr)
theorem r_retC {Q : Option Value → Heap → Prop} {cN sN : Nat} (X : Cx p l e R s m args below meth c Z bytes ml own (some .char) mname n0 T h cells slots) {x z : Int32} (hd : decode bytes pc = .ok (.ireturn, 1)) (hz : nar .char x = z) (hc : cells ≤ cN) (hs : slots ≤ sN) (hQ : Q (some (.int z)) h) : Run p e below m (Fin1 below s n0 Q cN sN) T pc L (.int x :: st) := by
  have hby := X.2.2.2.1
  subst hz
  exact fin_of X hc hs hQ (fun q => by cases q) (fun X hx hret fs hr => retN X hx (t := .char) hret (by simp) (hb hby hd) hr)
theorem r_retS {Q : Option Value → Heap → Prop} {cN sN : Nat} (X : Cx p l e R s m args below meth c Z bytes ml own (some .short) mname n0 T h cells slots) {x z : Int32} (hd : decode bytes pc = .ok (.ireturn, 1)) (hz : nar .short x = z) (hc : cells ≤ cN) (hs : slots ≤ sN) (hQ : Q (some (.int z)) h) : Run p e below m (Fin1 below s n0 Q cN sN) T pc L (.int x :: st) := by
  have hby := X.2.2.2.1
  subst hz
  exact fin_of X hc hs hQ (fun q => by cases q) (fun X hx hret fs hr => retN X hx (t := .short) hret (by simp) (hb hby hd) hr)
theorem r_retI {Q : Option Value → Heap → Prop} {cN sN : Nat} (X : Cx p l e R s m args below meth c Z bytes ml own (some .int) mname n0 T h cells slots) {x : Int32} (hd : decode bytes pc = .ok (.ireturn, 1)) (hc : cells ≤ cN) (hs : slots ≤ sN) (hQ : Q (some (.int x)) h) : Run p e below m (Fin1 below s n0 Q cN sN) T pc L (.int x :: st) := by
  have hby := X.2.2.2.1
  exact fin_of X hc hs hQ (fun q => by cases q) (fun X hx hret fs hr => retOut X hx (t := .int) hret rfl (Or.inl ⟨rfl, Or.inl rfl, _, rfl⟩) (hb hby hd) hr)
theorem r_retJ {Q : Option Value → Heap → Prop} {cN sN : Nat} (X : Cx p l e R s m args below meth c Z bytes ml own (some .long) mname n0 T h cells slots) {x : Int64} (hd : decode bytes pc = .ok (.lreturn, 1)) (hc : cells ≤ cN) (hs : slots ≤ sN) (hQ : Q (some (.long x)) h) : Run p e below m (Fin1 below s n0 Q cN sN) T pc L (.long x :: st) := by
  have hby := X.2.2.2.1
  exact fin_of X hc hs hQ (fun q => by cases q) (fun X hx hret fs hr => retOut X hx (t := .long) hret rfl (Or.inr (Or.inl ⟨rfl, rfl, _, rfl⟩)) (hb hby hd) hr)
theorem r_retA {Q : Option Value → Heap → Prop} {cN sN : Nat} {t : FieldType} (X : Cx p l e R s m args below meth c Z bytes ml own (some t) mname n0 T h cells slots) {x : Value} (hd : decode bytes pc = .ok (.areturn, 1)) (ht : t.isReference = true) (hn : narrow t x = x) (hx : x.isRef = true) (hc : cells ≤ cN) (hs : slots ≤ sN) (hQ : Q (some x) h) : Run p e below m (Fin1 below s n0 Q cN sN) T pc L (x :: st) := by
  have hby := X.2.2.2.1
  exact fin_of X hc hs hQ (fun q => by cases q) (fun X hx' hret fs hr => retOut X hx' (t := t) hret hn (Or.inr (Or.inr (Or.inr (Or.inr ⟨rfl, ht, hx⟩)))) (hb hby hd) hr)
theorem r_retV {Q : Option Value → Heap → Prop} {cN sN : Nat} (X : Cx p l e R s m args below meth c Z bytes ml own none mname n0 T h cells slots) (hd : decode bytes pc = .ok (.return_, 1)) (hc : cells ≤ cN) (hs : slots ≤ sN) (hQ : Q none h) : Run p e below m (Fin1 below s n0 Q cN sN) T pc L [] := by
  have hby := X.2.2.2.1
  exact fin_of X hc hs hQ (fun _ => rfl) (fun X hx hret fs hr => X.returnOut hx hret (hb hby hd) hr)
theorem r_callS (pc' : Nat) (X : Cx p l e R s m args below meth c Z bytes ml own ret mname n0 T h cells slots) {a0 : Array Value} {y : MethodName} {by' : ByteArray} {ml' : Nat} {ret' : Option FieldType} {rm : Room} {as : Array Value} {Q : Option Value → Heap → Prop} {index : Nat}  (hM : Met1 l Z n0 [] y by' ml' ret' rm as h Q) (w1 : (Jvm.Cond.methodLink own index y).before a0 Z = true) (w2 : (Jvm.Cond.static y).before a0 Z = true) (wc : (Jvm.Cond.code y by' ml' ret').before a0 Z = true) (wz : (Jvm.Cond.initialized y.cls).before a0 Z = true) (hy : y.cls ≠ "java/lang/invoke/MethodHandle" ∧ y.cls ≠ "java/lang/invoke/VarHandle") {ps : List FieldType} {rt : Option FieldType} (pd : parseMethodDescriptor y.desc = some ⟨ps, rt⟩) (argsL : List Value) (has : argsL.toArray = as) (hln : argsL.length = ps.length) (W : Nat) (hW : (st.map fun v => v.category).sum ≤ W) (hsize : L.size = ml) (hf : rm.frames + 1 ≤ R.frames) (hl : W + (ml' + 11) + rm.locals ≤ R.locals) (hc : cells + rm.cells ≤ R.cells) (hs : slots + rm.slots ≤ R.slots) (hd : decode bytes pc = .ok (.invokestatic index, 3)) (r : ∀ T' h' v, Q v h' → Cx p l e R s m args below meth c Z bytes ml own ret mname n0 T' h' (cells + rm.cells) (slots + rm.slots) → Run p e below m K T' pc' L (v.toList ++ st)) (q : pc + 3 = pc' := by rfl) {S : List Value} (hS : S = argsL.reverse ++ st := by rfl) : Run p e below m K T pc L S := by
  obtain ⟨⟨locs, X, N⟩, e0, hx, hby, hml, hZ, hown, hret, hnm, hlk, hsz⟩ := X
  subst q has hS
  obtain ⟨v, _, ⟨T', L', k', n'⟩, -, X', ⟨Lc, hQ', l', y', z'⟩, stp⟩ := Jvm.LawKit.callS X hx (y := y) hown (mvT hZ w1) (mvT hZ w2) (mvT hZ wz) (mvT hZ wc) hy (backOf (W := W) (Q := fun v h' L => Q v h' ∧ Fr n0 L ∧ n0 ≤ h'.size) hM hZ wc wz hf hl) (g := mkF m pc L (argsL.reverse ++ st)) rfl (by rw [hml]; exact hsize) (argsL := argsL) (rest := st) (lenOf pd hln) rfl (by show 2 * 0 + _ ≤ _; omega) (hb hby hd) (fun _ _ => ⟨rfl, e0, hc, hs⟩)
  dsimp only [Pt.U, Pt.locs, Pt.cells, Pt.slots] at X' l' y' z' stp hQ'
  subst l' y' z'
  obtain ⟨hQ1, N1, hs1⟩ := hQ'
  exact Run.of stp (r T' _ v hQ1 ⟨⟨_, X', Fr.app N N1⟩, rfl, hx, hby, hml, hZ, hown, hret, hnm, hlk, hs1⟩)
theorem r_special (pc' : Nat) (X : Cx p l e R s m args below meth c Z bytes ml own ret mname n0 T h cells slots) {a0 : Array Value} {y : MethodName} {by' : ByteArray} {ml' : Nat} {ret' : Option FieldType} {rm : Room} {as : Array Value} {Q : Option Value → Heap → Prop} {index : Nat} {a : Addr} (hM : Met1 l Z n0 [] y by' ml' ret' rm as h Q) (hyn : y.name = "<init>") (hr0 : ret' = none) (w1 : (Jvm.Cond.methodLink own index y).before a0 Z = true) (w2 : (Jvm.Cond.instanceMethod y).before a0 Z = true) (wc : (Jvm.Cond.code y by' ml' ret').before a0 Z = true) (wz : (Jvm.Cond.initialized y.cls).before a0 Z = true) (hy : y.cls ≠ "java/lang/invoke/MethodHandle" ∧ y.cls ≠ "java/lang/invoke/VarHandle") {ps : List FieldType} {rt : Option FieldType} (pd : parseMethodDescriptor y.desc = some ⟨ps, rt⟩) (argsL : List Value) (has : (Value.ref a :: argsL).toArray = as) (hln : argsL.length = ps.length) (W : Nat) (hW : (st.map fun v => v.category).sum ≤ W) (hsize : L.size = ml) (hf : rm.frames + 1 ≤ R.frames) (hl : W + (ml' + 11) + rm.locals ≤ R.locals) (hc : cells + rm.cells ≤ R.cells) (hs : slots + rm.slots ≤ R.slots) (hd : decode bytes pc = .ok (.invokespecial index, 3)) (r : ∀ T' h' v, Q v h' → Cx p l e R s m args below meth c Z bytes ml own ret mname n0 T' h' (cells + rm.cells) (slots + rm.slots) → Run p e below m K T' pc' L (v.toList ++ st)) (q : pc + 3 = pc' := by rfl) {S : List Value} (hS : S = argsL.reverse ++ Value.ref a :: st := by rfl) : Run p e below m K T pc L S := by
  obtain ⟨⟨locs, X, N⟩, e0, hx, hby, hml, hZ, hown, hret, hnm, hlk, hsz⟩ := X
  subst q has hS
  subst hr0
  obtain ⟨v, _, ⟨T', L', k', n'⟩, -, X', ⟨Lc, hQ', l', y', z'⟩, stp⟩ := X.specialBack hx (y := y) hyn hown (mvT hZ w1) (mvT hZ w2) (mvT hZ wc) hy (backOf (W := W) (Q := fun v h' L => Q v h' ∧ Fr n0 L ∧ n0 ≤ h'.size) hM hZ wc wz hf hl) (g := mkF m pc L (argsL.reverse ++ .ref a :: st)) rfl (by rw [hml]; exact hsize) (Steps.refl _) (a := a) (argsL := argsL) (rest := st) (lenOf pd hln) rfl (by show 2 * 0 + _ ≤ _; omega) (hb hby hd) (fun _ _ => ⟨rfl, e0, hc, hs⟩)
  dsimp only [Pt.U, Pt.locs, Pt.cells, Pt.slots] at X' l' y' z' stp hQ'
  subst l' y' z'
  obtain ⟨hQ1, N1, hs1⟩ := hQ'
  exact Run.of (fun t k => stp.trans k) (r T' _ v hQ1 ⟨⟨_, X', Fr.app N N1⟩, rfl, hx, hby, hml, hZ, hown, hret, hnm, hlk, hs1⟩)
theorem r_virtual (pc' : Nat) (X : Cx p l e R s m args below meth c Z bytes ml own ret mname n0 T h cells slots) {a0 : Array Value} {y : MethodName} {by' : ByteArray} {ml' : Nat} {ret' : Option FieldType} {rm : Room} {as : Array Value} {Q : Option Value → Heap → Prop} {index : Nat} {a : Addr} {C : String} (hM : Met1 l Z n0 [] y by' ml' ret' rm as h Q) (E : Exa Z h a C) (w1 : (Jvm.Cond.methodLink own index y).before a0 Z = true) (w3 : (Jvm.Cond.declares y).before a0 Z = true) (wf : (Jvm.Cond.selects y.cls y y).before a0 Z = true) (w4 : (Jvm.Cond.selects C y y).before a0 Z = true) (w2 : (Jvm.Cond.instanceMethod y).before a0 Z = true) (wc : (Jvm.Cond.code y by' ml' ret').before a0 Z = true) (wz : (Jvm.Cond.initialized y.cls).before a0 Z = true) (hy : y.cls ≠ "java/lang/invoke/MethodHandle" ∧ y.cls ≠ "java/lang/invoke/VarHandle") {ps : List FieldType} {rt : Option FieldType} (pd : parseMethodDescriptor y.desc = some ⟨ps, rt⟩) (argsL : List Value) (has : (Value.ref a :: argsL).toArray = as) (hln : argsL.length = ps.length) (W : Nat) (hW : (st.map fun v => v.category).sum ≤ W) (hsize : L.size = ml) (hf : rm.frames + 1 ≤ R.frames) (hl : W + (ml' + 11) + rm.locals ≤ R.locals) (hc : cells + rm.cells ≤ R.cells) (hs : slots + rm.slots ≤ R.slots) (hd : decode bytes pc = .ok (.invokevirtual index, 3)) (r : ∀ T' h' v, Q v h' → Cx p l e R s m args below meth c Z bytes ml own ret mname n0 T' h' (cells + rm.cells) (slots + rm.slots) → Run p e below m K T' pc' L (v.toList ++ st)) (q : pc + 3 = pc' := by rfl) {S : List Value} (hS : S = argsL.reverse ++ Value.ref a :: st := by rfl) : Run p e below m K T pc L S := by
  obtain ⟨⟨locs, X, N⟩, e0, hx, hby, hml, hZ, hown, hret, hnm, hlk, hsz⟩ := X
  subst q has hS
  obtain ⟨cq, kq, qa, qb, qc⟩ := isOf hZ e0 E
  obtain ⟨v, _, ⟨T', L', k', n'⟩, -, X', ⟨Lc, hQ', l', y', z'⟩, stp⟩ := X.virtualBack hx (C := C) (y := y) (z := y) hown (mvT hZ w1) (mvT hZ w3) (notFace_of_selects (args := #[]) (mvT hZ wf)) (mvT hZ w4) (mvT hZ w2) hy (backOf (W := W) (Q := fun v h' L => Q v h' ∧ Fr n0 L ∧ n0 ≤ h'.size) hM hZ wc wz hf hl) qa qc (g := mkF m pc L (argsL.reverse ++ .ref a :: st)) rfl (by rw [hml]; exact hsize) (Steps.refl _) (argsL := argsL) (rest := st) (lenOf pd hln) rfl (by show 2 * 0 + _ ≤ _; omega) (hb hby hd) (fun _ _ => ⟨rfl, e0, hc, hs⟩)
  dsimp only [Pt.U, Pt.locs, Pt.cells, Pt.slots] at X' l' y' z' stp hQ'
  subst l' y' z'
  obtain ⟨hQ1, N1, hs1⟩ := hQ'
  exact Run.of (fun t k => stp.trans k) (r T' _ v hQ1 ⟨⟨_, X', Fr.app N N1⟩, rfl, hx, hby, hml, hZ, hown, hret, hnm, hlk, hs1⟩)
theorem r_private (pc' : Nat) (X : Cx p l e R s m args below meth c Z bytes ml own ret mname n0 T h cells slots) {a0 : Array Value} {y : MethodName} {by' : ByteArray} {ml' : Nat} {ret' : Option FieldType} {rm : Room} {as : Array Value} {Q : Option Value → Heap → Prop} {index : Nat} {a : Addr} {C : String} {ins : Instr} (hM : Met1 l Z n0 [] y by' ml' ret' rm as h Q) (E : Exa Z h a C) (w1 : (Jvm.Cond.methodLink own index y).before a0 Z = true) (w2 : (Jvm.Cond.instanceMethod y).before a0 Z = true) {kk : Nat} (wi : (Jvm.Cond.instantiable y.cls kk).before a0 Z = true) (w4 : (Jvm.Cond.privateMethod y).before a0 Z = true) (wc : (Jvm.Cond.code y by' ml' ret').before a0 Z = true) (wz : (Jvm.Cond.initialized y.cls).before a0 Z = true) (hy : y.cls ≠ "java/lang/invoke/MethodHandle" ∧ y.cls ≠ "java/lang/invoke/VarHandle") {ps : List FieldType} {rt : Option FieldType} (pd : parseMethodDescriptor y.desc = some ⟨ps, rt⟩) (argsL : List Value) (has : (Value.ref a :: argsL).toArray = as) (hln : argsL.length = ps.length) (W : Nat) (hW : (st.map fun v => v.category).sum ≤ W) (hsize : L.size = ml) (hf : rm.frames + 1 ≤ R.frames) (hl : W + (ml' + 11) + rm.locals ≤ R.locals) (hc : cells + rm.cells ≤ R.cells) (hs : slots + rm.slots ≤ R.slots) (hd : decode bytes pc = .ok (.invokevirtual index, 3)) (r : ∀ T' h' v, Q v h' → Cx p l e R s m args below meth c Z bytes ml own ret mname n0 T' h' (cells + rm.cells) (slots + rm.slots) → Run p e below m K T' pc' L (v.toList ++ st)) (q : pc + 3 = pc' := by rfl) {S : List Value} (hS : S = argsL.reverse ++ Value.ref a :: st := by rfl) : Run p e below m K T pc L S := by
  obtain ⟨⟨locs, X, N⟩, e0, hx, hby, hml, hZ, hown, hret, hnm, hlk, hsz⟩ := X
  subst q has hS
  obtain ⟨cq, qq, qq'⟩ := E.cell
  obtain ⟨ci, ki, hi1, hi2, -, hi3, -⟩ := Cond.instantiable_spec (mvT hZ wi (args := #[]) : (Jvm.Cond.instantiable y.cls kk).before #[] s = true)
  have hpv := Cond.privateMethod_at (mvP hZ w4 (args := #[]))
  obtain ⟨v, _, ⟨T', L', k', n'⟩, -, X', ⟨Lc, hQ', l', y', z'⟩, stp⟩ := X.privateBack hx (y := y) hown (mvT hZ w1) (mvT hZ w2) (selects_self_of_private hi1 hi2 (Bool.or_eq_false_iff.mp hi3).1 hpv (mvT hZ w2) hy) hpv (mvT hZ wc) hy (backOf (W := W) (Q := fun v h' L => Q v h' ∧ Fr n0 L ∧ n0 ≤ h'.size) hM hZ wc wz hf hl) (g := mkF m pc L (argsL.reverse ++ .ref a :: st)) rfl (by rw [hml]; exact hsize) (Steps.refl _) (a := a) (by rw [e0]; exact qq) qq' (argsL := argsL) (rest := st) (lenOf pd hln) rfl (by show 2 * 0 + _ ≤ _; omega) (hb hby hd) (fun _ _ => ⟨rfl, e0, hc, hs⟩)
  dsimp only [Pt.U, Pt.locs, Pt.cells, Pt.slots] at X' l' y' z' stp hQ'
  subst l' y' z'
  obtain ⟨hQ1, N1, hs1⟩ := hQ'
  exact Run.of (fun t k => stp.trans k) (r T' _ v hQ1 ⟨⟨_, X', Fr.app N N1⟩, rfl, hx, hby, hml, hZ, hown, hret, hnm, hlk, hs1⟩)
theorem r_newarrayE (pc' : Nat) (X : Cx p l e R s m args below meth c Z bytes ml own ret mname n0 T h cells slots) {a0 : Array Value} {aty : ArrayType} {z : Int32} (n cap : Nat) (ad : String) (had : "[" ++ (newarray.typeOf aty).toString = ad) (w : (Jvm.Cond.arrayClass (newarray.typeOf aty)).before a0 Z = true) (hd : decode bytes pc = .ok (.newarray aty, 2)) (hz : z.toInt = (n : Int)) (hcap : n ≤ cap) (hb8 : cap * 8 ≤ 536870912) (hc : cells + 1 ≤ R.cells) (hl : slots + cap ≤ R.slots) (r : ∀ T' h' b, b = h.size → n0 ≤ b → Ext h h' → Exa Z h' b ad → AF Z h' b (newarray.typeOf aty) n (fun _ => defaultValue (newarray.typeOf aty)) → Cx p l e R s m args below meth c Z bytes ml own ret mname n0 T' h' (cells + 1) (slots + cap) → Run p e below m K T' pc' L (.ref b :: st)) (q : pc + 2 = pc' := by rfl) : Run p e below m K T pc L (.int z :: st) := by
  obtain ⟨⟨locs, X, N⟩, e0, hx, hby, hml, hZ, hown, hret, hnm, hlk, hsz⟩ := X
  subst q
  have hz0 : ¬ z < 0 := by rw [Int32.lt_iff_toInt_lt]; have : (0 : Int32).toInt = 0 := rfl; omega
  have hzn : z.toNatClampNeg = n := by show z.toInt.toNat = n; omega
  have hzl := z.toInt_lt
  obtain ⟨T', h', cA, X', e', E', A', Ex', stp⟩ := newPE X hx hZ w e0 (g := mkF m pc L (.int z :: st)) rfl (hb hby hd) rfl hz0 (cap := cap) (by rw [hzn]; exact hcap) hb8 hc hl had
  refine Run.of stp (r T' h' h.size rfl hsz E' Ex' ⟨_, A', by rw [sz_new, hzn], by omega, fun j hj => ?_⟩ ⟨⟨_, X', N⟩, e', hx, hby, hml, hZ, hown, hret, hnm, hlk, Nat.le_trans hsz E'.1⟩)
  simp [newA, hzn, hj]
theorem r_clone (pc' : Nat) (X : Cx p l e R s m args below meth c Z bytes ml own ret mname n0 T h cells slots) {a0 : Array Value} {ad : String} {index : Nat} (w1 : (Jvm.Cond.methodLink own index ⟨ad, "clone", "()Ljava/lang/Object;"⟩).before a0 Z = true) (w2 : (Jvm.Cond.sameMethod ad "java/lang/Object" "clone" "()Ljava/lang/Object;").before a0 Z = true) (w3 : (Jvm.Cond.native ⟨"java/lang/Object", "clone", "()Ljava/lang/Object;"⟩).before a0 Z = true) (w4 : (Jvm.Cond.instanceMethod ⟨"java/lang/Object", "clone", "()Ljava/lang/Object;"⟩).before a0 Z = true) (w5 : (Jvm.Cond.selects ad ⟨ad, "clone", "()Ljava/lang/Object;"⟩ ⟨"java/lang/Object", "clone", "()Ljava/lang/Object;"⟩).before a0 Z = true) (w6 : (Jvm.Cond.castable ad "java/lang/Cloneable").before a0 Z = true) {a : Addr} {ty : FieldType} {n : Nat} {f : Nat → Value} (A : AF Z h a ty n f) (E : Exa Z h a ad) (hfit : ∀ j, j < n → fits ty (f j) = true) (cap : Nat) (hcap : n ≤ cap) (W : Nat) (hW : (st.map fun v => v.category).sum ≤ W) (hsize : L.size = ml) (hf : 1 ≤ R.frames) (hl : W + 14 ≤ R.locals) (hc : cells + 1 ≤ R.cells) (hs : slots + cap ≤ R.slots) (hd : decode bytes pc = .ok (.invokevirtual index, 3)) (r : ∀ T' h' b, b = h.size → n0 ≤ b → Ext h h' → Exa Z h' b ad → AF Z h' b ty n f → Cx p l e R s m args below meth c Z bytes ml own ret mname n0 T' h' (cells + 1) (slots + cap) → Run p e below m K T' pc' L (.ref b :: st)) (q : pc + 3 = pc' := by rfl) : Run p e below m K T pc L (.ref a :: st) := by
  obtain ⟨⟨locs, X, N⟩, e0, hx, hby, hml, hZ, hown, hret, hnm, hlk, hsz⟩ := X
  subst q
  obtain ⟨cl, A, S, q, H⟩ := A
  have FC : FitC Z cl := fitC_of A fun i hi v hv => by rw [S] at hi; rw [H i hi] at hv; cases hv; exact hfit i hi
  obtain ⟨T', h', X', e', E', A', Ex', stp⟩ := cloneA X hx hZ hown w1 w2 w3 w4 w5 w6 e0 A E FC (g := mkF m pc L (.ref a :: st)) rfl (by rw [hml]; exact hsize) rfl (hb hby hd) hf (W := W) (cap := cap) (by show 2 * 0 + _ ≤ _; omega) hl (by rw [S]; exact hcap) hc hs
  exact Run.of stp (r T' h' h.size rfl hsz E' Ex' ⟨_, A', S, q, H⟩ ⟨⟨_, X', N⟩, e', hx, hby, hml, hZ, hown, hret, hnm, hlk, Nat.le_trans hsz E'.1⟩)
theorem r_castY (pc' : Nat) (X : Cx p l e R s m args below meth c Z bytes ml own ret mname n0 T h cells slots) {a0 : Array Value} {K0 : String} {index : Nat} (w : (Jvm.Cond.classLink own index K0).before a0 Z = true) {a : Addr} (F : Ins Z h a K0 true) (hd : decode bytes pc = .ok (.checkcast index, 3)) (r : ∀ T', Cx p l e R s m args below meth c Z bytes ml own ret mname n0 T' h cells slots → Run p e below m K T' pc' L (.ref a :: st)) (q : pc + 3 = pc' := by rfl) : Run p e below m K T pc L (.ref a :: st) := by
  obtain ⟨⟨locs, X, N⟩, e0, hx, hby, hml, hZ, hown, r1⟩ := X
  subst q
  obtain ⟨T', X', e', stp⟩ := castY X hx hZ hown w e0 F (g := mkF m pc L (.ref a :: st)) rfl rfl (hb hby hd)
  exact Run.of stp (r T' ⟨⟨locs, X', N⟩, e', hx, hby, hml, hZ, hown, r1⟩)
theorem r_instY (pc' : Nat) (X : Cx p l e R s m args below meth c Z bytes ml own ret mname n0 T h cells slots) {a0 : Array Value} {K0 : String} {index : Nat} (w : (Jvm.Cond.classLink own index K0).before a0 Z = true) {a : Addr} (F : Ins Z h a K0 true) (hd : decode bytes pc = .ok (.instanceof index, 3)) (r : ∀ T', Cx p l e R s m args below meth c Z bytes ml own ret mname n0 T' h cells slots → Run p e below m K T' pc' L (.int 1 :: st)) (q : pc + 3 = pc' := by rfl) : Run p e below m K T pc L (.ref a :: st) := by
  obtain ⟨⟨locs, X, N⟩, e0, hx, hby, hml, hZ, hown, r1⟩ := X
  subst q
  obtain ⟨T', X', e', stp⟩ := instY X hx hZ hown w e0 F (g := mkF m pc L (.ref a :: st)) rfl rfl (hb hby hd)
  exact Run.of stp (r T' ⟨⟨locs, X', N⟩, e', hx, hby, hml, hZ, hown, r1⟩)
theorem r_instN (pc' : Nat) (X : Cx p l e R s m args below meth c Z bytes ml own ret mname n0 T h cells slots) {a0 : Array Value} {K0 C : String} {index : Nat} (w : (Jvm.Cond.classLink own index K0).before a0 Z = true) {a : Addr} (F : Ins Z s.heap a K0 false) (E : Exa Z s.heap a C) (hd : decode bytes pc = .ok (.instanceof index, 3)) (r : ∀ T', Cx p l e R s m args below meth c Z bytes ml own ret mname n0 T' h cells slots → Run p e below m K T' pc' L (.int 0 :: st)) (q : pc + 3 = pc' := by rfl) : Run p e below m K T pc L (.ref a :: st) := by
  obtain ⟨⟨locs, X, N⟩, e0, hx, hby, hml, hZ, hown, r1⟩ := X
  subst q
  obtain ⟨T', X', e', stp⟩ := instN X hx hZ hown w e0 F E (g := mkF m pc L (.ref a :: st)) rfl rfl (hb hby hd)
  exact Run.of stp (r T' ⟨⟨locs, X', N⟩, e', hx, hby, hml, hZ, hown, r1⟩)
theorem r_instNull (pc' : Nat) (X : Cx p l e R s m args below meth c Z bytes ml own ret mname n0 T h cells slots) {index : Nat} (hd : decode bytes pc = .ok (.instanceof index, 3)) (r : Run p e below m K T pc' L (.int 0 :: st)) (q : pc + 3 = pc' := by rfl) : Run p e below m K T pc L (.null :: st) := by
  obtain ⟨⟨locs, X, -⟩, -, hx, hby, -⟩ := X
  subst q hby
  exact Run.of (fun t k => X.instanceofNull hx (g := mkF m pc L (.null :: st)) rfl rfl hd _ k) r
def b2i (P : Prop) [Decidable P] : Int32 := if P then 1 else 0
theorem b2i_t {P : Prop} [Decidable P] (h : P) : b2i P = 1 := if_pos h
theorem b2i_f {P : Prop} [Decidable P] (h : ¬ P) : b2i P = 0 := if_neg h
theorem b2i_eq0 {P : Prop} [Decidable P] (h : ¬ P) : b2i P = 0 := if_neg h
theorem b2i_ne0 {P : Prop} [Decidable P] (h : P) : ¬ b2i P = 0 := by rw [b2i_t h]; decide
theorem b2i_01 {P : Prop} [Decidable P] : b2i P = 0 ∨ b2i P = 1 := by by_cases h : P; exact Or.inr (b2i_t h); exact Or.inl (b2i_f h)
theorem b2i_nar {P : Prop} [Decidable P] : nar .boolean (b2i P) = b2i P := by by_cases h : P; (rw [b2i_t h]; rfl); (rw [b2i_f h]; rfl)
theorem b2i_congr {P Q : Prop} [Decidable P] [Decidable Q] (h : P ↔ Q) : b2i P = b2i Q := by by_cases q : P; (rw [b2i_t q, b2i_t (h.mp q)]); (rw [b2i_f q, b2i_f (fun z => q (h.mpr z))])
theorem ltI {x y : Int32} {a b : Int} (hx : x.toInt = a) (hy : y.toInt = b) : x < y ↔ a < b := by rw [Int32.lt_iff_toInt_lt, hx, hy]
theorem eqI {x y : Int32} {a b : Int} (hx : x.toInt = a) (hy : y.toInt = b) : x = y ↔ a = b := by rw [← Int32.toInt_inj, hx, hy]
theorem ltJ {x y : Int64} {a b : Int} (hx : x.toInt = a) (hy : y.toInt = b) : x < y ↔ a < b := by rw [Int64.lt_iff_toInt_lt, hx, hy]
theorem eqJ {x y : Int64} {a b : Int} (hx : x.toInt = a) (hy : y.toInt = b) : x = y ↔ a = b := by rw [← Int64.toInt_inj, hx, hy]
theorem addI {x y : Int32} {a b : Int} (hx : x.toInt = a) (hy : y.toInt = b) (h1 : -2147483648 ≤ a + b) (h2 : a + b < 2147483648) : (x + y).toInt = a + b := by have h := c_iadd x y; have r := rng32 (x + y); rw [hx, hy] at h; omega
theorem subI {x y : Int32} {a b : Int} (hx : x.toInt = a) (hy : y.toInt = b) (h1 : -2147483648 ≤ a - b) (h2 : a - b < 2147483648) : (x - y).toInt = a - b := by have h := c_isub x y; have r := rng32 (x - y); rw [hx, hy] at h; omega
theorem addJ {x y : Int64} {a b : Int} (hx : x.toInt = a) (hy : y.toInt = b) (h1 : -9223372036854775808 ≤ a + b) (h2 : a + b < 9223372036854775808) : (x + y).toInt = a + b := by have h := c_ladd x y; have r := rng64 (x + y); rw [hx, hy] at h; omega
theorem subJ {x y : Int64} {a b : Int} (hx : x.toInt = a) (hy : y.toInt = b) (h1 : -9223372036854775808 ≤ a - b) (h2 : a - b < 9223372036854775808) : (x - y).toInt = a - b := by have h := c_lsub x y; have r := rng64 (x - y); rw [hx, hy] at h; omega
theorem natI (n : Nat) (h : n < 2147483648) : (Int32.ofNat n).toInt = n := Int32.toInt_ofNat_small h
def updI (g : Nat → Int32) (i : Nat) (x : Int32) : Nat → Int32 := fun j => if j = i then x else g j
theorem updI_hit {g : Nat → Int32} {i : Nat} {x : Int32} : updI g i x i = x := if_pos rfl
theorem updI_miss {g : Nat → Int32} {i j : Nat} {x : Int32} (q : j ≠ i) : updI g i x j = g j := if_neg q
theorem AF.setI {a : Addr} {ty : FieldType} {n i : Nat} {x : Int32} {g : Nat → Int32} {h' : Heap} (A : AF Z h a ty n (fun j => .int (g j))) (W : Wr h h' a i (.int x)) : AF Z h' a ty n (fun j => .int (updI g i x j)) := (A.set W).congr fun j _ => by by_cases q : j = i <;> simp [upd, updI, q]
def updJ (g : Nat → Int64) (i : Nat) (x : Int64) : Nat → Int64 := fun j => if j = i then x else g j
theorem updJ_hit {g : Nat → Int64} {i : Nat} {x : Int64} : updJ g i x i = x := if_pos rfl
theorem updJ_miss {g : Nat → Int64} {i j : Nat} {x : Int64} (q : j ≠ i) : updJ g i x j = g j := if_neg q
theorem AF.setJ {a : Addr} {ty : FieldType} {n i : Nat} {x : Int64} {g : Nat → Int64} {h' : Heap} (A : AF Z h a ty n (fun j => .long (g j))) (W : Wr h h' a i (.long x)) : AF Z h' a ty n (fun j => .long (updJ g i x j)) := (A.set W).congr fun j _ => by by_cases q : j = i <;> simp [upd, updJ, q]
end Own
theorem pd_0 : parseMethodDescriptor "([B)I" = some ⟨[(.array .byte)], some .int⟩ := by decide +kernel
theorem pd_1 : parseMethodDescriptor "([BII)Z" = some ⟨[(.array .byte), .int, .int], some .boolean⟩ := by decide +kernel
theorem pd_2 : parseMethodDescriptor "(JII)B" = some ⟨[.long, .int, .int], some .byte⟩ := by decide +kernel
theorem d3_0 : decode method_3_code 0 = .ok (.iload_n 2, 1) := by decide +kernel
theorem d3_1 : decode method_3_code 1 = .ok (.iload_n 3, 1) := by decide +kernel
theorem d3_2 : decode method_3_code 2 = .ok (.iushr, 1) := by decide +kernel
theorem d3_3 : decode method_3_code 3 = .ok (.iconst 1, 1) := by decide +kernel
theorem d3_4 : decode method_3_code 4 = .ok (.iand, 1) := by decide +kernel
theorem d3_5 : decode method_3_code 5 = .ok (.ifCond .eq 6, 3) := by decide +kernel
theorem d3_8 : decode method_3_code 8 = .ok (.bipush 10, 2) := by decide +kernel
theorem d3_10 : decode method_3_code 10 = .ok (.ireturn, 1) := by decide +kernel
theorem d3_11 : decode method_3_code 11 = .ok (.lload_n 0, 1) := by decide +kernel
theorem d3_12 : decode method_3_code 12 = .ok (.bipush 8, 2) := by decide +kernel
theorem d3_14 : decode method_3_code 14 = .ok (.iload_n 3, 1) := by decide +kernel
theorem d3_15 : decode method_3_code 15 = .ok (.imul, 1) := by decide +kernel
theorem d3_16 : decode method_3_code 16 = .ok (.lushr, 1) := by decide +kernel
theorem d3_17 : decode method_3_code 17 = .ok (.l2i, 1) := by decide +kernel
theorem d3_18 : decode method_3_code 18 = .ok (.i2b, 1) := by decide +kernel
theorem d3_19 : decode method_3_code 19 = .ok (.ireturn, 1) := by decide +kernel
theorem pn_3 : plainName "com/example/covenant_ledger/covenantledger/JournalFileWholeLinesPinLaw" = true := by first | (simp [plainName, overriddenIn]; done) | decide +kernel
theorem ef_3 (m : MethodId) (x0 : Int64) (x1 : Int32) (x2 : Int32) : entryFrame m #[(.long x0), (.int x1), (.int x2)] 4 = mkF m 0 #[.val (.long x0), .second, .val (.int x1), .val (.int x2)] [] := by first | (simp [entryFrame, mkF, argsToLocals, Value.category]; done) | rfl
set_option maxRecDepth 65536 in
set_option maxHeartbeats 40000000 in
theorem rmPick (l : Launch) (Z : State) (a0 : Array Value) (hw : ∀ d ∈ tables_1, d.before a0 Z = true) (n0 : Nat) (h : Heap) (Z0 : n0 ≤ h.size) (q1 : Int64) (p2 : Int32) (p3 : Int32)  :
    Met1 l Z n0 [] (⟨"com/example/covenant_ledger/covenantledger/JournalFileWholeLinesPinLaw", "pick", "(JII)B"⟩ : MethodName) method_3_code 4 (some .byte) ({ frames := 0, cells := 0, slots := 0, locals := 0 } : Room) #[(.long q1), (.int p2), (.int p3)] h (fun v h' => ∃ x, v = some (.int x) ∧ h = h') := by
  refine met_of (plainFor_of_name pn_3) Z0 (fun m => ef_3 m q1 p2 p3) ?_
  intro p e s m below meth c T hs0 X
  refine r_iloadN 1 X d3_0 rfl ?_
  refine r_iloadN 2 X d3_1 rfl ?_
  refine r_iushr 3 X d3_2 ?_
  refine r_iconst 4 X (1 : Int32) d3_3 rfl ?_
  refine r_iand 5 X d3_4 ?_
  by_cases h5_1 : (((p2.toUInt32 >>> (p3 &&& 31).toUInt32).toInt32) &&& (1 : Int32)) = (0 : Int32)
  · refine r_ifY 11 X d3_5 ((if0 _ _).trans (teq h5_1).1) ?_
    refine r_lloadN 12 X d3_11 rfl ?_
    refine r_bipush 14 X (8 : Int32) d3_12 rfl ?_
    refine r_iloadN 15 X d3_14 rfl ?_
    refine r_imul 16 X d3_15 ?_
    refine r_lushr 17 X d3_16 ?_
    refine r_l2i 18 X d3_17 ?_
    refine r_i2b 19 X d3_18 ?_
    refine r_retB X d3_19 rfl (by decide) (by decide) ?_
    exact ⟨_, rfl, rfl⟩
  · refine r_ifN 8 X d3_5 ((if0 _ _).trans (feq h5_1).1) ?_
    refine r_bipush 10 X (10 : Int32) d3_8 rfl ?_
    refine r_retB (z := (10 : Int32)) X d3_10 rfl (by decide) (by decide) ?_
    exact ⟨_, rfl, rfl⟩
theorem d1_0 : decode prog_27_method_5_code 0 = .ok (.aload_n 0, 1) := by decide +kernel
theorem d1_1 : decode prog_27_method_5_code 1 = .ok (.arraylength, 1) := by decide +kernel
theorem d1_2 : decode prog_27_method_5_code 2 = .ok (.istore_n 1, 1) := by decide +kernel
theorem d1_3 : decode prog_27_method_5_code 3 = .ok (.iload_n 1, 1) := by decide +kernel
theorem d1_4 : decode prog_27_method_5_code 4 = .ok (.ifCond .le 19, 3) := by decide +kernel
theorem d1_7 : decode prog_27_method_5_code 7 = .ok (.aload_n 0, 1) := by decide +kernel
theorem d1_8 : decode prog_27_method_5_code 8 = .ok (.iload_n 1, 1) := by decide +kernel
theorem d1_9 : decode prog_27_method_5_code 9 = .ok (.iconst 1, 1) := by decide +kernel
theorem d1_10 : decode prog_27_method_5_code 10 = .ok (.isub, 1) := by decide +kernel
theorem d1_11 : decode prog_27_method_5_code 11 = .ok (.baload, 1) := by decide +kernel
theorem d1_12 : decode prog_27_method_5_code 12 = .ok (.bipush 10, 2) := by decide +kernel
theorem d1_14 : decode prog_27_method_5_code 14 = .ok (.if_icmp .eq 9, 3) := by decide +kernel
theorem d1_17 : decode prog_27_method_5_code 17 = .ok (.iinc 1 (-1), 3) := by decide +kernel
theorem d1_20 : decode prog_27_method_5_code 20 = .ok (.goto (-17), 3) := by decide +kernel
theorem d1_23 : decode prog_27_method_5_code 23 = .ok (.iload_n 1, 1) := by decide +kernel
theorem d1_24 : decode prog_27_method_5_code 24 = .ok (.ireturn, 1) := by decide +kernel
theorem pn_1 : plainName "com/example/covenant_ledger/covenantledger/JournalFile" = true := by first | (simp [plainName, overriddenIn]; done) | decide +kernel
theorem ef_1 (m : MethodId) (x0 : Addr) : entryFrame m #[(.ref x0)] 2 = mkF m 0 #[.val (.ref x0), .unset] [] := by first | (simp [entryFrame, mkF, argsToLocals, Value.category]; done) | rfl
set_option maxRecDepth 65536 in
set_option maxHeartbeats 40000000 in
theorem rmWhole (l : Launch) (Z : State) (a0 : Array Value) (hw : ∀ d ∈ tables_1, d.before a0 Z = true) (n0 : Nat) (h : Heap) (Z0 : n0 ≤ h.size) (a1 : Addr) (n : Nat) (g : Nat → Int32) (z : Int32) (hz : z.toInt = (n : Int)) (hn : n < 2147483648) (A_a1 : AF Z h a1 .byte n (fun j => .int (g j))) :
    Met1 l Z n0 [] (⟨"com/example/covenant_ledger/covenantledger/JournalFile", "wholeLines", "([B)I"⟩ : MethodName) prog_27_method_5_code 2 (some .int) ({ frames := 0, cells := 0, slots := 0, locals := 0 } : Room) #[(.ref a1)] h (fun v h' => ∃ (r : Int32) (k : Nat), v = some (.int r) ∧ r.toInt = (k : Int) ∧ k ≤ n ∧ (0 < k → g (k - 1) = 10) ∧ (∀ j, k ≤ j → j < n → g j ≠ 10) ∧ h = h') := by
  refine met_of (plainFor_of_name pn_1) Z0 (fun m => ef_1 m a1) ?_
  intro p e s m below meth c T hs0 X
  refine r_aloadN 1 X d1_0 rfl rfl ?_
  refine r_arraylength 2 X A_a1 z hz d1_1 ?_
  refine r_istoreN 3 X #[.val (.ref a1), .val (.int z)] d1_2 rfl ?_
  have loop : ∀ (k : Nat), k ≤ n → (∀ j, k ≤ j → j < n → g j ≠ 10) → ∀ (T : State) (i : Int32), i.toInt = (k : Int) → Cx p l e ({ frames := 0, cells := 0, slots := 0, locals := 0 } : Room) s m #[(.ref a1)] below meth c Z prog_27_method_5_code 2 "com/example/covenant_ledger/covenantledger/JournalFile" (some .int) "wholeLines" n0 T h 0 0 → Run p e below m (Fin1 below s n0 (fun v h' => ∃ (r : Int32) (k : Nat), v = some (.int r) ∧ r.toInt = (k : Int) ∧ k ≤ n ∧ (0 < k → g (k - 1) = 10) ∧ (∀ j, k ≤ j → j < n → g j ≠ 10) ∧ h = h') ({ frames := 0, cells := 0, slots := 0, locals := 0 } : Room).cells ({ frames := 0, cells := 0, slots := 0, locals := 0 } : Room).slots) T 3 #[.val (.ref a1), .val (.int i)] [] := by
    intro k
    induction k with
    | zero =>
      intro hk hg T i hi X
      refine r_iloadN 4 X d1_3 rfl ?_
      refine r_ifY 23 X d1_4 ((if0 _ _).trans (flt (by rw [ltI (a := 0) rfl hi]; omega)).2.2.2) ?_
      refine r_iloadN 24 X d1_23 rfl ?_
      refine r_retI X d1_24 (by decide) (by decide) ?_
      exact ⟨i, 0, rfl, hi, hk, fun q => absurd q (by omega), hg, rfl⟩
    | succ k ih =>
      intro hk hg T i hi X
      have hi1 : (i - 1).toInt = (k : Int) := (subI hi (b := 1) rfl (by omega) (by omega)).trans (by omega)
      have hi2 : (i + (-1 : Int32)).toInt = (k : Int) := (addI hi (b := -1) rfl (by omega) (by omega)).trans (by omega)
      refine r_iloadN 4 X d1_3 rfl ?_
      refine r_ifN 7 X d1_4 ((if0 _ _).trans (tlt (by rw [ltI (a := 0) rfl hi]; omega)).2.2.2) ?_
      refine r_aloadN 8 X d1_7 rfl rfl ?_
      refine r_iloadN 9 X d1_8 rfl ?_
      refine r_iconst 10 X (1 : Int32) d1_9 rfl ?_
      refine r_isub 11 X d1_10 ?_
      refine r_baloadB 12 X A_a1 (i := k) (v := (.int (g k))) hi1 (by omega) rfl d1_11 ?_
      refine r_bipush 14 X (10 : Int32) d1_12 rfl ?_
      by_cases h14_1 : (g k) = (10 : Int32)
      · refine r_icmpY 23 X d1_14 (teq h14_1).1 ?_
        refine r_iloadN 24 X d1_23 rfl ?_
        refine r_retI X d1_24 (by decide) (by decide) ?_
        exact ⟨i, k + 1, rfl, hi, hk, fun _ => h14_1, hg, rfl⟩
      · refine r_icmpN 17 X d1_14 (feq h14_1).1 ?_
        refine r_iinc 20 X (-1 : Int32) #[.val (.ref a1), .val (.int (i + (-1 : Int32)))] d1_17 rfl rfl rfl ?_
        refine r_goto 3 X d1_20 ?_
        exact ih (by omega) (fun j h1 h2 => by by_cases q : j = k; (subst q; exact h14_1); exact hg j (by omega) h2) _ _ hi2 X
  exact loop n (Nat.le_refl n) (fun j h1 h2 => absurd h1 (by omega)) _ _ hz X
theorem d2_0 : decode method_4_code 0 = .ok (.iload_n 2, 1) := by decide +kernel
theorem d2_1 : decode method_4_code 1 = .ok (.iload_n 1, 1) := by decide +kernel
theorem d2_2 : decode method_4_code 2 = .ok (.if_icmp .lt 17, 3) := by decide +kernel
theorem d2_5 : decode method_4_code 5 = .ok (.iload_n 2, 1) := by decide +kernel
theorem d2_6 : decode method_4_code 6 = .ok (.aload_n 0, 1) := by decide +kernel
theorem d2_7 : decode method_4_code 7 = .ok (.arraylength, 1) := by decide +kernel
theorem d2_8 : decode method_4_code 8 = .ok (.if_icmp .ge 11, 3) := by decide +kernel
theorem d2_11 : decode method_4_code 11 = .ok (.aload_n 0, 1) := by decide +kernel
theorem d2_12 : decode method_4_code 12 = .ok (.iload_n 2, 1) := by decide +kernel
theorem d2_13 : decode method_4_code 13 = .ok (.baload, 1) := by decide +kernel
theorem d2_14 : decode method_4_code 14 = .ok (.bipush 10, 2) := by decide +kernel
theorem d2_16 : decode method_4_code 16 = .ok (.if_icmp .eq 7, 3) := by decide +kernel
theorem d2_19 : decode method_4_code 19 = .ok (.iconst 1, 1) := by decide +kernel
theorem d2_20 : decode method_4_code 20 = .ok (.goto 4, 3) := by decide +kernel
theorem d2_24 : decode method_4_code 24 = .ok (.ireturn, 1) := by decide +kernel
theorem pn_2 : plainName "com/example/covenant_ledger/covenantledger/JournalFileWholeLinesPinLaw" = true := by first | (simp [plainName, overriddenIn]; done) | decide +kernel
theorem ef_2 (m : MethodId) (x0 : Addr) (x1 : Int32) (x2 : Int32) : entryFrame m #[(.ref x0), (.int x1), (.int x2)] 3 = mkF m 0 #[.val (.ref x0), .val (.int x1), .val (.int x2)] [] := by first | (simp [entryFrame, mkF, argsToLocals, Value.category]; done) | rfl
set_option maxRecDepth 65536 in
set_option maxHeartbeats 40000000 in
theorem rmNo (l : Launch) (Z : State) (a0 : Array Value) (hw : ∀ d ∈ tables_1, d.before a0 Z = true) (n0 : Nat) (h : Heap) (Z0 : n0 ≤ h.size) (a1 : Addr) (n : Nat) (g : Nat → Int32) (z r jj : Int32) (k i : Nat) (hz : z.toInt = (n : Int)) (hr : r.toInt = (k : Int)) (hj : jj.toInt = (i : Int)) (hg : ∀ j, k ≤ j → j < n → g j ≠ 10) (A_a1 : AF Z h a1 .byte n (fun j => .int (g j))) :
    Met1 l Z n0 [] (⟨"com/example/covenant_ledger/covenantledger/JournalFileWholeLinesPinLaw", "noLf", "([BII)Z"⟩ : MethodName) method_4_code 3 (some .boolean) ({ frames := 0, cells := 0, slots := 0, locals := 0 } : Room) #[(.ref a1), (.int r), (.int jj)] h (fun v h' => v = some (.int 1) ∧ h = h') := by
  refine met_of (plainFor_of_name pn_2) Z0 (fun m => ef_2 m a1 r jj) ?_
  intro p e s m below meth c T hs0 X
  refine r_iloadN 1 X d2_0 rfl ?_
  refine r_iloadN 2 X d2_1 rfl ?_
  by_cases h2_1 : jj < r
  · refine r_icmpY 19 X d2_2 (tlt h2_1).1 ?_
    refine r_iconst 20 X (1 : Int32) d2_19 rfl ?_
    refine r_goto 24 X d2_20 ?_
    refine r_retZ (z := (1 : Int32)) X d2_24 rfl (by decide) (by decide) ?_
    exact ⟨rfl, rfl⟩
  · refine r_icmpN 5 X d2_2 (flt h2_1).1 ?_
    refine r_iloadN 6 X d2_5 rfl ?_
    refine r_aloadN 7 X d2_6 rfl rfl ?_
    refine r_arraylength 8 X A_a1 z hz d2_7 ?_
    by_cases h8_2 : jj < z
    · refine r_icmpN 11 X d2_8 (tlt h8_2).2.1 ?_
      refine r_aloadN 12 X d2_11 rfl rfl ?_
      refine r_iloadN 13 X d2_12 rfl ?_
      refine r_baloadB 14 X A_a1 (i := i) (v := (.int (g i))) hj (by have := (ltI hj hz).mp h8_2; omega) rfl d2_13 ?_
      refine r_bipush 16 X (10 : Int32) d2_14 rfl ?_
      refine r_icmpN 19 X d2_16 (feq (hg i (by have := mt (ltI hj hr).mpr h2_1; omega) (by have := (ltI hj hz).mp h8_2; omega))).1 ?_
      refine r_iconst 20 X (1 : Int32) d2_19 rfl ?_
      refine r_goto 24 X d2_20 ?_
      refine r_retZ (z := (1 : Int32)) X d2_24 rfl (by decide) (by decide) ?_
      exact ⟨rfl, rfl⟩
    · refine r_icmpY 19 X d2_8 (flt h8_2).2.1 ?_
      refine r_iconst 20 X (1 : Int32) d2_19 rfl ?_
      refine r_goto 24 X d2_20 ?_
      refine r_retZ (z := (1 : Int32)) X d2_24 rfl (by decide) (by decide) ?_
      exact ⟨rfl, rfl⟩
theorem pn_0 : plainName "com/example/covenant_ledger/covenantledger/JournalFileWholeLinesPinLaw" = true := by first | (simp [plainName, overriddenIn]; done) | decide +kernel
theorem ef_0 (m : MethodId) (x0 : Int32) (x1 : Int64) (x2 : Int32) : entryFrame m #[(.int x0), (.long x1), (.int x2)] maxLocals = mkF m 0 #[.val (.int x0), .val (.long x1), .second, .val (.int x2), .unset, .unset, .unset] [] := by first | (simp [entryFrame, mkF, argsToLocals, Value.category, maxLocals]; done) | rfl
set_option maxRecDepth 65536 in
set_option maxHeartbeats 40000000 in
theorem rm0 (l : Launch) (Z : State) (a0 : Array Value) (hw : ∀ d ∈ tables_1, d.before a0 Z = true) (n0 : Nat) (h : Heap) (Z0 : n0 ≤ h.size) (p1 : Int32) (q2 : Int64) (p3 : Int32)  :
    Met1 l Z n0 tables_1 x code maxLocals ret room_1 #[(.int p1), (.long q2), (.int p3)] h (fun v h' => v = some (.int 1)) := by
  refine met_of (plainFor_of_name pn_0) Z0 (fun m => ef_0 m p1 q2 p3) ?_
  intro p e s m below meth c T hs0 X
  have hm := c_mask p1 7 3 (by decide) (by decide)
  obtain ⟨z, ez⟩ : ∃ z, p1 &&& 7 = z := ⟨_, rfl⟩
  rw [ez] at hm
  obtain ⟨n, hn⟩ : ∃ n : Nat, z.toInt = (n : Int) := ⟨z.toInt.toNat, by omega⟩
  have hn7 : n ≤ 7 := by omega
  refine r_iloadN 1 X at_0 rfl ?_
  refine r_bipush 3 X (7 : Int32) at_1 rfl ?_
  refine r_iand 4 X at_3 ?_
  refine r_topI (x' := z) ez ?_
  refine r_istore 6 X #[.val (.int p1), .val (.long q2), .second, .val (.int p3), .val (.int z), .unset, .unset] at_4 rfl ?_
  refine r_iload 8 X at_6 rfl ?_
  refine r_newarray 10 X n 7 (hw _ (List.mem_of_getElem? (i := 0) rfl)) at_8 hn hn7 (by decide) (by decide) (by decide) ?_
  intro T h1 b1 g1 gn_b1 E1 A_b1 X
  replace A_b1 : AF Z h1 b1 .byte n (fun j => .int ((fun _ => (0 : Int32)) j)) := A_b1
  refine r_astore 12 X #[.val (.int p1), .val (.long q2), .second, .val (.int p3), .val (.int z), .val (.ref b1), .unset] at_10 rfl rfl ?_
  have J126 : ∀ (T : State) (h : Heap) (g : Nat → Int32), Cx p l e room_1 s m #[(.int p1), (.long q2), (.int p3)] below meth c Z code maxLocals x.cls ret x.name n0 T h 1 7 → AF Z h b1 .byte n (fun j => .int (g j)) → Run p e below m (Fin1 below s n0 (fun v h' => v = some (.int 1)) room_1.cells room_1.slots) T 126 #[.val (.int p1), .val (.long q2), .second, .val (.int p3), .val (.int z), .val (.ref b1), .unset] [] := by
    intro T h g X A_b1
    refine r_aload 128 X at_126 rfl rfl ?_
    refine r_callS 131 X (st := []) (rmWhole l Z a0 hw n0 _ X.sz b1 n g z hn (by omega) A_b1) (hw _ (List.mem_of_getElem? (i := 1) rfl)) (hw _ (List.mem_of_getElem? (i := 2) rfl)) (hw _ (List.mem_of_getElem? (i := 4) rfl)) (hw _ (List.mem_of_getElem? (i := 3) rfl)) (by decide) pd_0 [(.ref b1)] rfl rfl 0 (Nat.le_of_eq rfl) rfl (by decide) (by decide) (by decide) (by decide) at_128 ?_
    rintro T h2 v2 ⟨r, k, rfl, hr, hk, hl, hg, rfl⟩ X
    change Run _ _ _ _ _ _ _ _ [(.int r)]
    refine r_istore 133 X #[.val (.int p1), .val (.long q2), .second, .val (.int p3), .val (.int z), .val (.ref b1), .val (.int r)] at_131 rfl ?_
    refine r_iload 135 X at_133 rfl ?_
    refine r_ifN 138 X at_135 ((if0 _ _).trans (flt (by rw [ltI hr (b := 0) rfl]; omega)).1) ?_
    refine r_iload 140 X at_138 rfl ?_
    refine r_iload 142 X at_140 rfl ?_
    refine r_icmpY 147 X at_142 (flt (by rw [ltI hn hr]; omega)).2.2.2 ?_
    refine r_iload 149 X at_147 rfl ?_
    by_cases h149_3 : (0 : Int32) < r
    · refine r_ifN 152 X at_149 ((if0 _ _).trans (tlt h149_3).2.2.2) ?_
      refine r_aload 154 X at_152 rfl rfl ?_
      refine r_iload 156 X at_154 rfl ?_
      refine r_iconst 157 X (1 : Int32) at_156 rfl ?_
      refine r_isub 158 X at_157 ?_
      refine r_baloadB 159 X A_b1 (i := (k - 1)) (v := (.int (10 : Int32))) ((subI hr (b := 1) rfl (by omega) (by omega)).trans (by have := (ltI (a := 0) rfl hr).mp h149_3; omega)) (by have := (ltI (a := 0) rfl hr).mp h149_3; omega) (congrArg Value.int (hl (by have := (ltI (a := 0) rfl hr).mp h149_3; omega))) at_158 ?_
      refine r_bipush 161 X (10 : Int32) at_159 rfl ?_
      refine r_icmpY 166 X at_161 (teq (by decide)).1 ?_
      refine r_aload 168 X at_166 rfl rfl ?_
      refine r_iload 170 X at_168 rfl ?_
      refine r_iconst 171 X (0 : Int32) at_170 rfl ?_
      refine r_callS 174 X (st := []) (rmNo l Z a0 hw n0 _ X.sz b1 n g z r (0 : Int32) k 0 hn hr (by decide) hg A_b1) (hw _ (List.mem_of_getElem? (i := 5) rfl)) (hw _ (List.mem_of_getElem? (i := 6) rfl)) (hw _ (List.mem_of_getElem? (i := 8) rfl)) (hw _ (List.mem_of_getElem? (i := 7) rfl)) (by decide) pd_1 [(.ref b1), (.int r), (.int (0 : Int32))] rfl rfl 0 (Nat.le_of_eq rfl) rfl (by decide) (by decide) (by decide) (by decide) at_171 ?_
      rintro T h4 v4 ⟨rfl, rfl⟩ X
      change Run _ _ _ _ _ _ _ _ [(.int (1 : Int32))]
      refine r_ifN 177 X at_174 ((if0 _ _).trans (feq (by decide)).1) ?_
      refine r_aload 179 X at_177 rfl rfl ?_
      refine r_iload 181 X at_179 rfl ?_
      refine r_iconst 182 X (1 : Int32) at_181 rfl ?_
      refine r_callS 185 X (st := []) (rmNo l Z a0 hw n0 _ X.sz b1 n g z r (1 : Int32) k 1 hn hr (by decide) hg A_b1) (hw _ (List.mem_of_getElem? (i := 5) rfl)) (hw _ (List.mem_of_getElem? (i := 6) rfl)) (hw _ (List.mem_of_getElem? (i := 8) rfl)) (hw _ (List.mem_of_getElem? (i := 7) rfl)) (by decide) pd_1 [(.ref b1), (.int r), (.int (1 : Int32))] rfl rfl 0 (Nat.le_of_eq rfl) rfl (by decide) (by decide) (by decide) (by decide) at_182 ?_
      rintro T h5 v5 ⟨rfl, rfl⟩ X
      change Run _ _ _ _ _ _ _ _ [(.int (1 : Int32))]
      refine r_ifN 188 X at_185 ((if0 _ _).trans (feq (by decide)).1) ?_
      refine r_aload 190 X at_188 rfl rfl ?_
      refine r_iload 192 X at_190 rfl ?_
      refine r_iconst 193 X (2 : Int32) at_192 rfl ?_
      refine r_callS 196 X (st := []) (rmNo l Z a0 hw n0 _ X.sz b1 n g z r (2 : Int32) k 2 hn hr (by decide) hg A_b1) (hw _ (List.mem_of_getElem? (i := 5) rfl)) (hw _ (List.mem_of_getElem? (i := 6) rfl)) (hw _ (List.mem_of_getElem? (i := 8) rfl)) (hw _ (List.mem_of_getElem? (i := 7) rfl)) (by decide) pd_1 [(.ref b1), (.int r), (.int (2 : Int32))] rfl rfl 0 (Nat.le_of_eq rfl) rfl (by decide) (by decide) (by decide) (by decide) at_193 ?_
      rintro T h6 v6 ⟨rfl, rfl⟩ X
      change Run _ _ _ _ _ _ _ _ [(.int (1 : Int32))]
      refine r_ifN 199 X at_196 ((if0 _ _).trans (feq (by decide)).1) ?_
      refine r_aload 201 X at_199 rfl rfl ?_
      refine r_iload 203 X at_201 rfl ?_
      refine r_iconst 204 X (3 : Int32) at_203 rfl ?_
      refine r_callS 207 X (st := []) (rmNo l Z a0 hw n0 _ X.sz b1 n g z r (3 : Int32) k 3 hn hr (by decide) hg A_b1) (hw _ (List.mem_of_getElem? (i := 5) rfl)) (hw _ (List.mem_of_getElem? (i := 6) rfl)) (hw _ (List.mem_of_getElem? (i := 8) rfl)) (hw _ (List.mem_of_getElem? (i := 7) rfl)) (by decide) pd_1 [(.ref b1), (.int r), (.int (3 : Int32))] rfl rfl 0 (Nat.le_of_eq rfl) rfl (by decide) (by decide) (by decide) (by decide) at_204 ?_
      rintro T h7 v7 ⟨rfl, rfl⟩ X
      change Run _ _ _ _ _ _ _ _ [(.int (1 : Int32))]
      refine r_ifN 210 X at_207 ((if0 _ _).trans (feq (by decide)).1) ?_
      refine r_aload 212 X at_210 rfl rfl ?_
      refine r_iload 214 X at_212 rfl ?_
      refine r_iconst 215 X (4 : Int32) at_214 rfl ?_
      refine r_callS 218 X (st := []) (rmNo l Z a0 hw n0 _ X.sz b1 n g z r (4 : Int32) k 4 hn hr (by decide) hg A_b1) (hw _ (List.mem_of_getElem? (i := 5) rfl)) (hw _ (List.mem_of_getElem? (i := 6) rfl)) (hw _ (List.mem_of_getElem? (i := 8) rfl)) (hw _ (List.mem_of_getElem? (i := 7) rfl)) (by decide) pd_1 [(.ref b1), (.int r), (.int (4 : Int32))] rfl rfl 0 (Nat.le_of_eq rfl) rfl (by decide) (by decide) (by decide) (by decide) at_215 ?_
      rintro T h8 v8 ⟨rfl, rfl⟩ X
      change Run _ _ _ _ _ _ _ _ [(.int (1 : Int32))]
      refine r_ifN 221 X at_218 ((if0 _ _).trans (feq (by decide)).1) ?_
      refine r_aload 223 X at_221 rfl rfl ?_
      refine r_iload 225 X at_223 rfl ?_
      refine r_iconst 226 X (5 : Int32) at_225 rfl ?_
      refine r_callS 229 X (st := []) (rmNo l Z a0 hw n0 _ X.sz b1 n g z r (5 : Int32) k 5 hn hr (by decide) hg A_b1) (hw _ (List.mem_of_getElem? (i := 5) rfl)) (hw _ (List.mem_of_getElem? (i := 6) rfl)) (hw _ (List.mem_of_getElem? (i := 8) rfl)) (hw _ (List.mem_of_getElem? (i := 7) rfl)) (by decide) pd_1 [(.ref b1), (.int r), (.int (5 : Int32))] rfl rfl 0 (Nat.le_of_eq rfl) rfl (by decide) (by decide) (by decide) (by decide) at_226 ?_
      rintro T h9 v9 ⟨rfl, rfl⟩ X
      change Run _ _ _ _ _ _ _ _ [(.int (1 : Int32))]
      refine r_ifN 232 X at_229 ((if0 _ _).trans (feq (by decide)).1) ?_
      refine r_aload 234 X at_232 rfl rfl ?_
      refine r_iload 236 X at_234 rfl ?_
      refine r_bipush 238 X (6 : Int32) at_236 rfl ?_
      refine r_callS 241 X (st := []) (rmNo l Z a0 hw n0 _ X.sz b1 n g z r (6 : Int32) k 6 hn hr (by decide) hg A_b1) (hw _ (List.mem_of_getElem? (i := 5) rfl)) (hw _ (List.mem_of_getElem? (i := 6) rfl)) (hw _ (List.mem_of_getElem? (i := 8) rfl)) (hw _ (List.mem_of_getElem? (i := 7) rfl)) (by decide) pd_1 [(.ref b1), (.int r), (.int (6 : Int32))] rfl rfl 0 (Nat.le_of_eq rfl) rfl (by decide) (by decide) (by decide) (by decide) at_238 ?_
      rintro T h10 v10 ⟨rfl, rfl⟩ X
      change Run _ _ _ _ _ _ _ _ [(.int (1 : Int32))]
      refine r_ifN 244 X at_241 ((if0 _ _).trans (feq (by decide)).1) ?_
      refine r_iconst 245 X (1 : Int32) at_244 rfl ?_
      refine r_goto 249 X at_245 ?_
      refine r_retZ (z := (1 : Int32)) X at_249 rfl (by decide) (by decide) ?_
      exact rfl
    · refine r_ifY 166 X at_149 ((if0 _ _).trans (flt h149_3).2.2.2) ?_
      refine r_aload 168 X at_166 rfl rfl ?_
      refine r_iload 170 X at_168 rfl ?_
      refine r_iconst 171 X (0 : Int32) at_170 rfl ?_
      refine r_callS 174 X (st := []) (rmNo l Z a0 hw n0 _ X.sz b1 n g z r (0 : Int32) k 0 hn hr (by decide) hg A_b1) (hw _ (List.mem_of_getElem? (i := 5) rfl)) (hw _ (List.mem_of_getElem? (i := 6) rfl)) (hw _ (List.mem_of_getElem? (i := 8) rfl)) (hw _ (List.mem_of_getElem? (i := 7) rfl)) (by decide) pd_1 [(.ref b1), (.int r), (.int (0 : Int32))] rfl rfl 0 (Nat.le_of_eq rfl) rfl (by decide) (by decide) (by decide) (by decide) at_171 ?_
      rintro T h11 v11 ⟨rfl, rfl⟩ X
      change Run _ _ _ _ _ _ _ _ [(.int (1 : Int32))]
      refine r_ifN 177 X at_174 ((if0 _ _).trans (feq (by decide)).1) ?_
      refine r_aload 179 X at_177 rfl rfl ?_
      refine r_iload 181 X at_179 rfl ?_
      refine r_iconst 182 X (1 : Int32) at_181 rfl ?_
      refine r_callS 185 X (st := []) (rmNo l Z a0 hw n0 _ X.sz b1 n g z r (1 : Int32) k 1 hn hr (by decide) hg A_b1) (hw _ (List.mem_of_getElem? (i := 5) rfl)) (hw _ (List.mem_of_getElem? (i := 6) rfl)) (hw _ (List.mem_of_getElem? (i := 8) rfl)) (hw _ (List.mem_of_getElem? (i := 7) rfl)) (by decide) pd_1 [(.ref b1), (.int r), (.int (1 : Int32))] rfl rfl 0 (Nat.le_of_eq rfl) rfl (by decide) (by decide) (by decide) (by decide) at_182 ?_
      rintro T h12 v12 ⟨rfl, rfl⟩ X
      change Run _ _ _ _ _ _ _ _ [(.int (1 : Int32))]
      refine r_ifN 188 X at_185 ((if0 _ _).trans (feq (by decide)).1) ?_
      refine r_aload 190 X at_188 rfl rfl ?_
      refine r_iload 192 X at_190 rfl ?_
      refine r_iconst 193 X (2 : Int32) at_192 rfl ?_
      refine r_callS 196 X (st := []) (rmNo l Z a0 hw n0 _ X.sz b1 n g z r (2 : Int32) k 2 hn hr (by decide) hg A_b1) (hw _ (List.mem_of_getElem? (i := 5) rfl)) (hw _ (List.mem_of_getElem? (i := 6) rfl)) (hw _ (List.mem_of_getElem? (i := 8) rfl)) (hw _ (List.mem_of_getElem? (i := 7) rfl)) (by decide) pd_1 [(.ref b1), (.int r), (.int (2 : Int32))] rfl rfl 0 (Nat.le_of_eq rfl) rfl (by decide) (by decide) (by decide) (by decide) at_193 ?_
      rintro T h13 v13 ⟨rfl, rfl⟩ X
      change Run _ _ _ _ _ _ _ _ [(.int (1 : Int32))]
      refine r_ifN 199 X at_196 ((if0 _ _).trans (feq (by decide)).1) ?_
      refine r_aload 201 X at_199 rfl rfl ?_
      refine r_iload 203 X at_201 rfl ?_
      refine r_iconst 204 X (3 : Int32) at_203 rfl ?_
      refine r_callS 207 X (st := []) (rmNo l Z a0 hw n0 _ X.sz b1 n g z r (3 : Int32) k 3 hn hr (by decide) hg A_b1) (hw _ (List.mem_of_getElem? (i := 5) rfl)) (hw _ (List.mem_of_getElem? (i := 6) rfl)) (hw _ (List.mem_of_getElem? (i := 8) rfl)) (hw _ (List.mem_of_getElem? (i := 7) rfl)) (by decide) pd_1 [(.ref b1), (.int r), (.int (3 : Int32))] rfl rfl 0 (Nat.le_of_eq rfl) rfl (by decide) (by decide) (by decide) (by decide) at_204 ?_
      rintro T h14 v14 ⟨rfl, rfl⟩ X
      change Run _ _ _ _ _ _ _ _ [(.int (1 : Int32))]
      refine r_ifN 210 X at_207 ((if0 _ _).trans (feq (by decide)).1) ?_
      refine r_aload 212 X at_210 rfl rfl ?_
      refine r_iload 214 X at_212 rfl ?_
      refine r_iconst 215 X (4 : Int32) at_214 rfl ?_
      refine r_callS 218 X (st := []) (rmNo l Z a0 hw n0 _ X.sz b1 n g z r (4 : Int32) k 4 hn hr (by decide) hg A_b1) (hw _ (List.mem_of_getElem? (i := 5) rfl)) (hw _ (List.mem_of_getElem? (i := 6) rfl)) (hw _ (List.mem_of_getElem? (i := 8) rfl)) (hw _ (List.mem_of_getElem? (i := 7) rfl)) (by decide) pd_1 [(.ref b1), (.int r), (.int (4 : Int32))] rfl rfl 0 (Nat.le_of_eq rfl) rfl (by decide) (by decide) (by decide) (by decide) at_215 ?_
      rintro T h15 v15 ⟨rfl, rfl⟩ X
      change Run _ _ _ _ _ _ _ _ [(.int (1 : Int32))]
      refine r_ifN 221 X at_218 ((if0 _ _).trans (feq (by decide)).1) ?_
      refine r_aload 223 X at_221 rfl rfl ?_
      refine r_iload 225 X at_223 rfl ?_
      refine r_iconst 226 X (5 : Int32) at_225 rfl ?_
      refine r_callS 229 X (st := []) (rmNo l Z a0 hw n0 _ X.sz b1 n g z r (5 : Int32) k 5 hn hr (by decide) hg A_b1) (hw _ (List.mem_of_getElem? (i := 5) rfl)) (hw _ (List.mem_of_getElem? (i := 6) rfl)) (hw _ (List.mem_of_getElem? (i := 8) rfl)) (hw _ (List.mem_of_getElem? (i := 7) rfl)) (by decide) pd_1 [(.ref b1), (.int r), (.int (5 : Int32))] rfl rfl 0 (Nat.le_of_eq rfl) rfl (by decide) (by decide) (by decide) (by decide) at_226 ?_
      rintro T h16 v16 ⟨rfl, rfl⟩ X
      change Run _ _ _ _ _ _ _ _ [(.int (1 : Int32))]
      refine r_ifN 232 X at_229 ((if0 _ _).trans (feq (by decide)).1) ?_
      refine r_aload 234 X at_232 rfl rfl ?_
      refine r_iload 236 X at_234 rfl ?_
      refine r_bipush 238 X (6 : Int32) at_236 rfl ?_
      refine r_callS 241 X (st := []) (rmNo l Z a0 hw n0 _ X.sz b1 n g z r (6 : Int32) k 6 hn hr (by decide) hg A_b1) (hw _ (List.mem_of_getElem? (i := 5) rfl)) (hw _ (List.mem_of_getElem? (i := 6) rfl)) (hw _ (List.mem_of_getElem? (i := 8) rfl)) (hw _ (List.mem_of_getElem? (i := 7) rfl)) (by decide) pd_1 [(.ref b1), (.int r), (.int (6 : Int32))] rfl rfl 0 (Nat.le_of_eq rfl) rfl (by decide) (by decide) (by decide) (by decide) at_238 ?_
      rintro T h17 v17 ⟨rfl, rfl⟩ X
      change Run _ _ _ _ _ _ _ _ [(.int (1 : Int32))]
      refine r_ifN 244 X at_241 ((if0 _ _).trans (feq (by decide)).1) ?_
      refine r_iconst 245 X (1 : Int32) at_244 rfl ?_
      refine r_goto 249 X at_245 ?_
      refine r_retZ (z := (1 : Int32)) X at_249 rfl (by decide) (by decide) ?_
      exact rfl
  have J107 : ∀ (T : State) (h : Heap) (g : Nat → Int32), Cx p l e room_1 s m #[(.int p1), (.long q2), (.int p3)] below meth c Z code maxLocals x.cls ret x.name n0 T h 1 7 → AF Z h b1 .byte n (fun j => .int (g j)) → Run p e below m (Fin1 below s n0 (fun v h' => v = some (.int 1)) room_1.cells room_1.slots) T 107 #[.val (.int p1), .val (.long q2), .second, .val (.int p3), .val (.int z), .val (.ref b1), .unset] [] := by
    intro T h g X A_b1
    refine r_iload 109 X at_107 rfl ?_
    refine r_bipush 111 X (6 : Int32) at_109 rfl ?_
    by_cases h111_18 : (6 : Int32) < z
    · refine r_icmpN 114 X at_111 (tlt h111_18).2.2.2 ?_
      refine r_aload 116 X at_114 rfl rfl ?_
      refine r_bipush 118 X (6 : Int32) at_116 rfl ?_
      refine r_lloadN 119 X at_118 rfl ?_
      refine r_iloadN 120 X at_119 rfl ?_
      refine r_bipush 122 X (6 : Int32) at_120 rfl ?_
      refine r_callS 125 X (st := [(.int (6 : Int32)), (.ref b1)]) (rmPick l Z a0 hw n0 _ X.sz q2 p3 (6 : Int32)) (hw _ (List.mem_of_getElem? (i := 9) rfl)) (hw _ (List.mem_of_getElem? (i := 10) rfl)) (hw _ (List.mem_of_getElem? (i := 11) rfl)) (hw _ (List.mem_of_getElem? (i := 7) rfl)) (by decide) pd_2 [(.long q2), (.int p3), (.int (6 : Int32))] rfl rfl 2 (Nat.le_of_eq rfl) rfl (by decide) (by decide) (by decide) (by decide) at_122 ?_
      rintro T h19 v19 ⟨x19, rfl, rfl⟩ X
      change Run _ _ _ _ _ _ _ _ [(.int x19), (.int (6 : Int32)), (.ref b1)]
      refine r_bastoreB 126 X A_b1 (i := 6) (v := (.int (nar .byte x19))) (by decide) (by have := (ltI (a := 6) rfl hn).mp h111_18; omega) rfl gn_b1 at_125 ?_
      intro T h20 W20 X
      have A_b1 := A_b1.setI W20
      exact J126 _ _ _ X A_b1
    · refine r_icmpY 126 X at_111 (flt h111_18).2.2.2 ?_
      exact J126 _ _ _ X A_b1
  have J91 : ∀ (T : State) (h : Heap) (g : Nat → Int32), Cx p l e room_1 s m #[(.int p1), (.long q2), (.int p3)] below meth c Z code maxLocals x.cls ret x.name n0 T h 1 7 → AF Z h b1 .byte n (fun j => .int (g j)) → Run p e below m (Fin1 below s n0 (fun v h' => v = some (.int 1)) room_1.cells room_1.slots) T 91 #[.val (.int p1), .val (.long q2), .second, .val (.int p3), .val (.int z), .val (.ref b1), .unset] [] := by
    intro T h g X A_b1
    refine r_iload 93 X at_91 rfl ?_
    refine r_iconst 94 X (5 : Int32) at_93 rfl ?_
    by_cases h94_21 : (5 : Int32) < z
    · refine r_icmpN 97 X at_94 (tlt h94_21).2.2.2 ?_
      refine r_aload 99 X at_97 rfl rfl ?_
      refine r_iconst 100 X (5 : Int32) at_99 rfl ?_
      refine r_lloadN 101 X at_100 rfl ?_
      refine r_iloadN 102 X at_101 rfl ?_
      refine r_iconst 103 X (5 : Int32) at_102 rfl ?_
      refine r_callS 106 X (st := [(.int (5 : Int32)), (.ref b1)]) (rmPick l Z a0 hw n0 _ X.sz q2 p3 (5 : Int32)) (hw _ (List.mem_of_getElem? (i := 9) rfl)) (hw _ (List.mem_of_getElem? (i := 10) rfl)) (hw _ (List.mem_of_getElem? (i := 11) rfl)) (hw _ (List.mem_of_getElem? (i := 7) rfl)) (by decide) pd_2 [(.long q2), (.int p3), (.int (5 : Int32))] rfl rfl 2 (Nat.le_of_eq rfl) rfl (by decide) (by decide) (by decide) (by decide) at_103 ?_
      rintro T h22 v22 ⟨x22, rfl, rfl⟩ X
      change Run _ _ _ _ _ _ _ _ [(.int x22), (.int (5 : Int32)), (.ref b1)]
      refine r_bastoreB 107 X A_b1 (i := 5) (v := (.int (nar .byte x22))) (by decide) (by have := (ltI (a := 5) rfl hn).mp h94_21; omega) rfl gn_b1 at_106 ?_
      intro T h23 W23 X
      have A_b1 := A_b1.setI W23
      exact J107 _ _ _ X A_b1
    · refine r_icmpY 107 X at_94 (flt h94_21).2.2.2 ?_
      exact J107 _ _ _ X A_b1
  have J75 : ∀ (T : State) (h : Heap) (g : Nat → Int32), Cx p l e room_1 s m #[(.int p1), (.long q2), (.int p3)] below meth c Z code maxLocals x.cls ret x.name n0 T h 1 7 → AF Z h b1 .byte n (fun j => .int (g j)) → Run p e below m (Fin1 below s n0 (fun v h' => v = some (.int 1)) room_1.cells room_1.slots) T 75 #[.val (.int p1), .val (.long q2), .second, .val (.int p3), .val (.int z), .val (.ref b1), .unset] [] := by
    intro T h g X A_b1
    refine r_iload 77 X at_75 rfl ?_
    refine r_iconst 78 X (4 : Int32) at_77 rfl ?_
    by_cases h78_24 : (4 : Int32) < z
    · refine r_icmpN 81 X at_78 (tlt h78_24).2.2.2 ?_
      refine r_aload 83 X at_81 rfl rfl ?_
      refine r_iconst 84 X (4 : Int32) at_83 rfl ?_
      refine r_lloadN 85 X at_84 rfl ?_
      refine r_iloadN 86 X at_85 rfl ?_
      refine r_iconst 87 X (4 : Int32) at_86 rfl ?_
      refine r_callS 90 X (st := [(.int (4 : Int32)), (.ref b1)]) (rmPick l Z a0 hw n0 _ X.sz q2 p3 (4 : Int32)) (hw _ (List.mem_of_getElem? (i := 9) rfl)) (hw _ (List.mem_of_getElem? (i := 10) rfl)) (hw _ (List.mem_of_getElem? (i := 11) rfl)) (hw _ (List.mem_of_getElem? (i := 7) rfl)) (by decide) pd_2 [(.long q2), (.int p3), (.int (4 : Int32))] rfl rfl 2 (Nat.le_of_eq rfl) rfl (by decide) (by decide) (by decide) (by decide) at_87 ?_
      rintro T h25 v25 ⟨x25, rfl, rfl⟩ X
      change Run _ _ _ _ _ _ _ _ [(.int x25), (.int (4 : Int32)), (.ref b1)]
      refine r_bastoreB 91 X A_b1 (i := 4) (v := (.int (nar .byte x25))) (by decide) (by have := (ltI (a := 4) rfl hn).mp h78_24; omega) rfl gn_b1 at_90 ?_
      intro T h26 W26 X
      have A_b1 := A_b1.setI W26
      exact J91 _ _ _ X A_b1
    · refine r_icmpY 91 X at_78 (flt h78_24).2.2.2 ?_
      exact J91 _ _ _ X A_b1
  have J59 : ∀ (T : State) (h : Heap) (g : Nat → Int32), Cx p l e room_1 s m #[(.int p1), (.long q2), (.int p3)] below meth c Z code maxLocals x.cls ret x.name n0 T h 1 7 → AF Z h b1 .byte n (fun j => .int (g j)) → Run p e below m (Fin1 below s n0 (fun v h' => v = some (.int 1)) room_1.cells room_1.slots) T 59 #[.val (.int p1), .val (.long q2), .second, .val (.int p3), .val (.int z), .val (.ref b1), .unset] [] := by
    intro T h g X A_b1
    refine r_iload 61 X at_59 rfl ?_
    refine r_iconst 62 X (3 : Int32) at_61 rfl ?_
    by_cases h62_27 : (3 : Int32) < z
    · refine r_icmpN 65 X at_62 (tlt h62_27).2.2.2 ?_
      refine r_aload 67 X at_65 rfl rfl ?_
      refine r_iconst 68 X (3 : Int32) at_67 rfl ?_
      refine r_lloadN 69 X at_68 rfl ?_
      refine r_iloadN 70 X at_69 rfl ?_
      refine r_iconst 71 X (3 : Int32) at_70 rfl ?_
      refine r_callS 74 X (st := [(.int (3 : Int32)), (.ref b1)]) (rmPick l Z a0 hw n0 _ X.sz q2 p3 (3 : Int32)) (hw _ (List.mem_of_getElem? (i := 9) rfl)) (hw _ (List.mem_of_getElem? (i := 10) rfl)) (hw _ (List.mem_of_getElem? (i := 11) rfl)) (hw _ (List.mem_of_getElem? (i := 7) rfl)) (by decide) pd_2 [(.long q2), (.int p3), (.int (3 : Int32))] rfl rfl 2 (Nat.le_of_eq rfl) rfl (by decide) (by decide) (by decide) (by decide) at_71 ?_
      rintro T h28 v28 ⟨x28, rfl, rfl⟩ X
      change Run _ _ _ _ _ _ _ _ [(.int x28), (.int (3 : Int32)), (.ref b1)]
      refine r_bastoreB 75 X A_b1 (i := 3) (v := (.int (nar .byte x28))) (by decide) (by have := (ltI (a := 3) rfl hn).mp h62_27; omega) rfl gn_b1 at_74 ?_
      intro T h29 W29 X
      have A_b1 := A_b1.setI W29
      exact J75 _ _ _ X A_b1
    · refine r_icmpY 75 X at_62 (flt h62_27).2.2.2 ?_
      exact J75 _ _ _ X A_b1
  have J43 : ∀ (T : State) (h : Heap) (g : Nat → Int32), Cx p l e room_1 s m #[(.int p1), (.long q2), (.int p3)] below meth c Z code maxLocals x.cls ret x.name n0 T h 1 7 → AF Z h b1 .byte n (fun j => .int (g j)) → Run p e below m (Fin1 below s n0 (fun v h' => v = some (.int 1)) room_1.cells room_1.slots) T 43 #[.val (.int p1), .val (.long q2), .second, .val (.int p3), .val (.int z), .val (.ref b1), .unset] [] := by
    intro T h g X A_b1
    refine r_iload 45 X at_43 rfl ?_
    refine r_iconst 46 X (2 : Int32) at_45 rfl ?_
    by_cases h46_30 : (2 : Int32) < z
    · refine r_icmpN 49 X at_46 (tlt h46_30).2.2.2 ?_
      refine r_aload 51 X at_49 rfl rfl ?_
      refine r_iconst 52 X (2 : Int32) at_51 rfl ?_
      refine r_lloadN 53 X at_52 rfl ?_
      refine r_iloadN 54 X at_53 rfl ?_
      refine r_iconst 55 X (2 : Int32) at_54 rfl ?_
      refine r_callS 58 X (st := [(.int (2 : Int32)), (.ref b1)]) (rmPick l Z a0 hw n0 _ X.sz q2 p3 (2 : Int32)) (hw _ (List.mem_of_getElem? (i := 9) rfl)) (hw _ (List.mem_of_getElem? (i := 10) rfl)) (hw _ (List.mem_of_getElem? (i := 11) rfl)) (hw _ (List.mem_of_getElem? (i := 7) rfl)) (by decide) pd_2 [(.long q2), (.int p3), (.int (2 : Int32))] rfl rfl 2 (Nat.le_of_eq rfl) rfl (by decide) (by decide) (by decide) (by decide) at_55 ?_
      rintro T h31 v31 ⟨x31, rfl, rfl⟩ X
      change Run _ _ _ _ _ _ _ _ [(.int x31), (.int (2 : Int32)), (.ref b1)]
      refine r_bastoreB 59 X A_b1 (i := 2) (v := (.int (nar .byte x31))) (by decide) (by have := (ltI (a := 2) rfl hn).mp h46_30; omega) rfl gn_b1 at_58 ?_
      intro T h32 W32 X
      have A_b1 := A_b1.setI W32
      exact J59 _ _ _ X A_b1
    · refine r_icmpY 59 X at_46 (flt h46_30).2.2.2 ?_
      exact J59 _ _ _ X A_b1
  have J27 : ∀ (T : State) (h : Heap) (g : Nat → Int32), Cx p l e room_1 s m #[(.int p1), (.long q2), (.int p3)] below meth c Z code maxLocals x.cls ret x.name n0 T h 1 7 → AF Z h b1 .byte n (fun j => .int (g j)) → Run p e below m (Fin1 below s n0 (fun v h' => v = some (.int 1)) room_1.cells room_1.slots) T 27 #[.val (.int p1), .val (.long q2), .second, .val (.int p3), .val (.int z), .val (.ref b1), .unset] [] := by
    intro T h g X A_b1
    refine r_iload 29 X at_27 rfl ?_
    refine r_iconst 30 X (1 : Int32) at_29 rfl ?_
    by_cases h30_33 : (1 : Int32) < z
    · refine r_icmpN 33 X at_30 (tlt h30_33).2.2.2 ?_
      refine r_aload 35 X at_33 rfl rfl ?_
      refine r_iconst 36 X (1 : Int32) at_35 rfl ?_
      refine r_lloadN 37 X at_36 rfl ?_
      refine r_iloadN 38 X at_37 rfl ?_
      refine r_iconst 39 X (1 : Int32) at_38 rfl ?_
      refine r_callS 42 X (st := [(.int (1 : Int32)), (.ref b1)]) (rmPick l Z a0 hw n0 _ X.sz q2 p3 (1 : Int32)) (hw _ (List.mem_of_getElem? (i := 9) rfl)) (hw _ (List.mem_of_getElem? (i := 10) rfl)) (hw _ (List.mem_of_getElem? (i := 11) rfl)) (hw _ (List.mem_of_getElem? (i := 7) rfl)) (by decide) pd_2 [(.long q2), (.int p3), (.int (1 : Int32))] rfl rfl 2 (Nat.le_of_eq rfl) rfl (by decide) (by decide) (by decide) (by decide) at_39 ?_
      rintro T h34 v34 ⟨x34, rfl, rfl⟩ X
      change Run _ _ _ _ _ _ _ _ [(.int x34), (.int (1 : Int32)), (.ref b1)]
      refine r_bastoreB 43 X A_b1 (i := 1) (v := (.int (nar .byte x34))) (by decide) (by have := (ltI (a := 1) rfl hn).mp h30_33; omega) rfl gn_b1 at_42 ?_
      intro T h35 W35 X
      have A_b1 := A_b1.setI W35
      exact J43 _ _ _ X A_b1
    · refine r_icmpY 43 X at_30 (flt h30_33).2.2.2 ?_
      exact J43 _ _ _ X A_b1
  have J12 : ∀ (T : State) (h : Heap) (g : Nat → Int32), Cx p l e room_1 s m #[(.int p1), (.long q2), (.int p3)] below meth c Z code maxLocals x.cls ret x.name n0 T h 1 7 → AF Z h b1 .byte n (fun j => .int (g j)) → Run p e below m (Fin1 below s n0 (fun v h' => v = some (.int 1)) room_1.cells room_1.slots) T 12 #[.val (.int p1), .val (.long q2), .second, .val (.int p3), .val (.int z), .val (.ref b1), .unset] [] := by
    intro T h g X A_b1
    refine r_iload 14 X at_12 rfl ?_
    by_cases h14_36 : (0 : Int32) < z
    · refine r_ifN 17 X at_14 ((if0 _ _).trans (tlt h14_36).2.2.2) ?_
      refine r_aload 19 X at_17 rfl rfl ?_
      refine r_iconst 20 X (0 : Int32) at_19 rfl ?_
      refine r_lloadN 21 X at_20 rfl ?_
      refine r_iloadN 22 X at_21 rfl ?_
      refine r_iconst 23 X (0 : Int32) at_22 rfl ?_
      refine r_callS 26 X (st := [(.int (0 : Int32)), (.ref b1)]) (rmPick l Z a0 hw n0 _ X.sz q2 p3 (0 : Int32)) (hw _ (List.mem_of_getElem? (i := 9) rfl)) (hw _ (List.mem_of_getElem? (i := 10) rfl)) (hw _ (List.mem_of_getElem? (i := 11) rfl)) (hw _ (List.mem_of_getElem? (i := 7) rfl)) (by decide) pd_2 [(.long q2), (.int p3), (.int (0 : Int32))] rfl rfl 2 (Nat.le_of_eq rfl) rfl (by decide) (by decide) (by decide) (by decide) at_23 ?_
      rintro T h37 v37 ⟨x37, rfl, rfl⟩ X
      change Run _ _ _ _ _ _ _ _ [(.int x37), (.int (0 : Int32)), (.ref b1)]
      refine r_bastoreB 27 X A_b1 (i := 0) (v := (.int (nar .byte x37))) (by decide) (by have := (ltI (a := 0) rfl hn).mp h14_36; omega) rfl gn_b1 at_26 ?_
      intro T h38 W38 X
      have A_b1 := A_b1.setI W38
      exact J27 _ _ _ X A_b1
    · refine r_ifY 27 X at_14 ((if0 _ _).trans (flt h14_36).2.2.2) ?_
      exact J27 _ _ _ X A_b1
  exact J12 _ _ _ X A_b1
set_option maxRecDepth 65536 in
set_option maxHeartbeats 40000000 in
theorem comes_1 {Post : Tables → Env → Array Value → State → Outcome → State → Prop} (hpost : ∀ tb e args s v u, (limb_1_1.after args s (.returned v) u = true ∧ limb_1_2.after args s (.returned v) u = true ∧ True) → FrameEnd s (.returned v) u (Jvm.fieldLocs frame_1_writes args s ++ Jvm.arrayLocs frame_1_arrays args s ++ Jvm.staticLocs frame_1_statics s) 16 128 → Post tb e args s (.returned v) u) :
    ArmFor flags0 classFile x code maxLocals ret World_1 tables_1 room_1 Calls_1 rest_1 Pre_1 Post := by
  intro l hfl _ _ p e ha hc hk s m args below hf hA hF happ hP
  obtain ⟨hcalls, hrest, hpre⟩ := hP
  obtain ⟨-, -, -, hnamed, -, -, -, hat⟩ := (Spec.applies_iff hf).mp happ
  obtain ⟨hg, hn⟩ := and_e (Cond.before_iff.mp (show (Jvm.Cond.and given_1 narrow_1).before args s = true from hpre))
  obtain ⟨g1, g2⟩ := and_e hg
  obtain ⟨g3, g4⟩ := and_e g2
  obtain ⟨g5, g6⟩ := and_e g4
  obtain ⟨w0, w1, w2, rfl⟩ : ∃ w0 w1 w2 : Value, args = #[w0, w1, w2] := by
    have hs : args.size = 3 := by simpa [Cond.value, given_1] using g1
    obtain ⟨L⟩ := args
    match L, hs with
    | [w0, w1, w2], _ => exact ⟨w0, w1, w2, rfl⟩
  have hw := fun d (hd : d ∈ tables_1) => atoms_spec (ws := Jvm.Cond.code x code maxLocals ret :: tables_1) hat d (List.mem_cons_of_mem _ hd)
  have hfit : Fit s := fun {y c} hc i hi => by
    obtain ⟨ha, rfl⟩ := Array.getElem?_eq_some_iff.mp hc
    have q := List.all_eq_true.mp ((Array.all_eq_true_iff_forall_mem.mp hF) _ (Array.getElem_mem ha)) i (List.mem_range.mpr hi)
    simpa [Array.getElem?_eq_getElem hi] using q
  obtain ⟨i0, ei0⟩ := is_v g3
  obtain rfl : w0 = (.int i0) := Option.some.inj ei0
  obtain ⟨i1, ei1⟩ := isL_v g5
  obtain rfl : w1 = (.long i1) := Option.some.inj ei1
  obtain ⟨i2, ei2⟩ := is_v g6
  obtain rfl : w2 = (.int i2) := Option.some.inj ei2
  obtain ⟨n, o, h1, h2, h3, _, L, rfl, ⟨rfl, N, -⟩, hq⟩ := rm0 l s _ hw s.heap.size s.heap (Nat.le_refl _) i0 i1 i2  p e ha hc hk s m _ below hf ((Spec.applies_iff_loose hf).mp happ).1 ⟨rfl, State.Warmed39.refl s, rfl⟩ trivial
  refine ⟨n, _, h1, h2, h3, hpost _ _ _ _ _ _ ⟨Cond.after_iff.mpr rfl, Cond.after_iff.mpr (eq_i res_at (Term.int_eval (1)) rfl), trivial⟩ ⟨hq.1, hq.2.1, (hq.2.2.sift fun y hy => Or.inr (N y hy)).mono (by decide) (by decide)⟩⟩
theorem main_1_1 : Claimed_1_1 := comes_1 fun _ _ _ _ _ _ h hF => ⟨h.1, hF⟩
theorem main_1_2 : Claimed_1_2 := comes_1 fun _ _ _ _ _ _ h hF => ⟨h.2.1, hF⟩
end Jvm.Pilot.@@N@@
namespace Jvm.Pilot.@@N@@
open Jvm Jvm.ClassFile Sem Op Lib Jvm.Free Jvm.Stand Jvm.Pilot.@@N@@.Jvm.D
/-! MADE BY PROGRAM (witnessworld.py) out of the Statement's table words and the real class files: 9 classes; the members and pool entries that the words name. The judged class is class 1, her method 1. -/
namespace start1
open Jvm.ClassFile
def u (s : String) : CpInfo := .utf8 (stringToUtf16 s)
/-- a pool by its gaps: so many unusable entries, then the entry; so many at the end -/
def gap : Nat → List CpInfo → List CpInfo
  | 0, r => r
  | n + 1, r => .unusable :: gap n r
def poolList (es : List (Nat × CpInfo)) (last : Nat) : List CpInfo := es.foldr (fun e r => gap e.1 (e.2 :: r)) (gap last [])
def pool (es : List (Nat × CpInfo)) (last : Nat) : Array CpInfo := ⟨poolList es last⟩
def fileOf (pool : Array CpInfo) (this : Nat) (attrs : Array Attribute := #[]) (ms : Array MethodInfo := #[]) (fl : Nat := 33) (sup : Nat := 0) (ifs : Array Nat := #[]) (fds : Array FieldInfo := #[]) : ClassFile where
  minorVersion := 0
  majorVersion := 65
  constantPool := pool
  accessFlags := fl
  thisClass := this
  superClass := sup
  interfaces := ifs
  fields := fds
  methods := ms
  attributes := attrs
def plain (name : String) (sup : Option ClassId) : Class where
  name := name
  kind := .ordinary
  loader := none
  accessFlags := 33
  super := sup
  interfaces := #[]
  cf := none
  fields := #[]
  methods := #[]
  instanceTypes := #[]
  staticTypes := #[]
  resolved := #[]
  callSites := []
  init := .initialized
  statics := none
  mirror := none

def pool0 : Array CpInfo := pool [(5, u "<init>"), (0, u "()V"), (1, .class_ 10), (1, u "java/lang/Object")] 113

def k0m0 : Method := { name := "<init>", desc := "()V", sig := { parameters := [], returnType := none }, accessFlags := 1, code := none }
/-- java/lang/Object -/
def k0 : Class := { plain "java/lang/Object" none with
  accessFlags := 33
  interfaces := #[]
  cf := some (fileOf pool0 8 #[] #[{ accessFlags := 1, nameIndex := 5, descriptorIndex := 6, attributes := #[] }] 33 0 #[] #[])
  fields := #[]
  methods := #[k0m0]
  instanceTypes := #[]
  staticTypes := #[]
  resolved := Array.replicate 124 none
  statics := none }

def pool1 : Array CpInfo := pool [(2, .class_ 4), (1, u "java/lang/Object"), (0, u "<init>"), (0, u "()V"), (0, .methodref 8 9), (0, .class_ 10), (0, .nameAndType 11 12), (0, u "com/example/covenant_ledger/covenantledger/JournalFileWholeLinesPinLaw"), (0, u "pick"), (0, u "(JII)B"), (0, .methodref 14 15), (0, .class_ 16), (0, .nameAndType 17 18), (0, u "com/example/covenant_ledger/covenantledger/JournalFile"), (0, u "wholeLines"), (0, u "([B)I"), (0, .methodref 8 20), (0, .nameAndType 21 22), (0, u "noLf"), (0, u "([BII)Z"), (2, u "law"), (0, u "(IJI)Z")] 5

def k1m0 : Method := { name := "<init>", desc := "()V", sig := { parameters := [], returnType := none }, accessFlags := 2, code := none }
def k1c1 : Code := { maxStack := 6, maxLocals := 7, code := code, exceptionTable := #[], attributes := #[] }
def k1m1 : Method := { name := "law", desc := "(IJI)Z", sig := { parameters := [.int, .long, .int], returnType := some .boolean }, accessFlags := 9, code := some k1c1 }
def k1c2 : Code := { maxStack := 4, maxLocals := 4, code := method_3_code, exceptionTable := #[], attributes := #[] }
def k1m2 : Method := { name := "pick", desc := "(JII)B", sig := { parameters := [.long, .int, .int], returnType := some .byte }, accessFlags := 10, code := some k1c2 }
def k1c3 : Code := { maxStack := 2, maxLocals := 3, code := method_4_code, exceptionTable := #[], attributes := #[] }
def k1m3 : Method := { name := "noLf", desc := "([BII)Z", sig := { parameters := [(.array .byte), .int, .int], returnType := some .boolean }, accessFlags := 10, code := some k1c3 }
/-- com/example/covenant_ledger/covenantledger/JournalFileWholeLinesPinLaw -/
def k1 : Class := { plain "com/example/covenant_ledger/covenantledger/JournalFileWholeLinesPinLaw" (some 0) with
  accessFlags := 49
  interfaces := #[]
  cf := some (fileOf pool1 8 #[] #[{ accessFlags := 2, nameIndex := 5, descriptorIndex := 6, attributes := #[] }, { accessFlags := 9, nameIndex := 25, descriptorIndex := 26, attributes := #[] }, { accessFlags := 10, nameIndex := 11, descriptorIndex := 12, attributes := #[] }, { accessFlags := 10, nameIndex := 21, descriptorIndex := 22, attributes := #[] }] 49 2 #[] #[])
  fields := #[]
  methods := #[k1m0, k1m1, k1m2, k1m3]
  instanceTypes := #[]
  staticTypes := #[]
  resolved := Array.replicate 32 none
  statics := none }

def pool2 : Array CpInfo := pool [(2, .class_ 4), (1, u "java/lang/Object"), (3, .class_ 10), (1, u "com/example/covenant_ledger/covenantledger/JournalFile"), (0, u "channel"), (0, u "Ljava/nio/channels/FileChannel;"), (2, u "file"), (0, u "Ljava/nio/file/Path;"), (2, u "bytes"), (0, u "[B"), (2, u "TURNS"), (0, u "Ljava/lang/Object;"), (64, .class_ 91), (1, u "com/example/covenant_ledger/covenantledger/JournalFile$Writer"), (138, u "wholeLines"), (0, u "([B)I")] 29

def k2c0 : Code := { maxStack := 3, maxLocals := 2, code := prog_27_method_5_code, exceptionTable := #[], attributes := #[] }
def k2m0 : Method := { name := "wholeLines", desc := "([B)I", sig := { parameters := [(.array .byte)], returnType := some .int }, accessFlags := 8, code := some k2c0 }
/-- com/example/covenant_ledger/covenantledger/JournalFile -/
def k2 : Class := { plain "com/example/covenant_ledger/covenantledger/JournalFile" (some 0) with
  accessFlags := 48
  interfaces := #[]
  cf := some (fileOf pool2 8 #[.nestMembers #[89]] #[{ accessFlags := 8, nameIndex := 230, descriptorIndex := 231, attributes := #[] }] 48 2 #[] #[{ accessFlags := 26, nameIndex := 23, descriptorIndex := 24, attributes := #[] }, { accessFlags := 18, nameIndex := 11, descriptorIndex := 12, attributes := #[] }, { accessFlags := 18, nameIndex := 15, descriptorIndex := 16, attributes := #[] }, { accessFlags := 18, nameIndex := 19, descriptorIndex := 20, attributes := #[] }])
  fields := #[{ name := "TURNS", type := (.object "java/lang/Object"), accessFlags := 26, slot := 0, constantValue := 0 }, { name := "channel", type := (.object "java/nio/channels/FileChannel"), accessFlags := 18, slot := 0, constantValue := 0 }, { name := "file", type := (.object "java/nio/file/Path"), accessFlags := 18, slot := 1, constantValue := 0 }, { name := "bytes", type := (.array .byte), accessFlags := 18, slot := 2, constantValue := 0 }]
  methods := #[k2m0]
  instanceTypes := #[(.object "java/nio/channels/FileChannel"), (.object "java/nio/file/Path"), (.array .byte)]
  staticTypes := #[(.object "java/lang/Object")]
  resolved := Array.replicate 261 none
  statics := none }

def pool3 : Array CpInfo := pool [(1, u "java/lang/Cloneable"), (0, .class_ 1), (0, u "java/lang/Object"), (0, .class_ 3)] 3

/-- java/lang/Cloneable -/
def k3 : Class := { plain "java/lang/Cloneable" (some 0) with
  accessFlags := 1537
  interfaces := #[]
  cf := some (fileOf pool3 2 #[] #[] 1537 4 #[] #[])
  fields := #[]
  methods := #[]
  instanceTypes := #[]
  staticTypes := #[]
  resolved := Array.replicate 8 none
  statics := none }

def pool4 : Array CpInfo := pool [(1, u "java/io/Serializable"), (0, .class_ 1), (0, u "java/lang/Object"), (0, .class_ 3)] 3

/-- java/io/Serializable -/
def k4 : Class := { plain "java/io/Serializable" (some 0) with
  accessFlags := 1537
  interfaces := #[]
  cf := some (fileOf pool4 2 #[] #[] 1537 4 #[] #[])
  fields := #[]
  methods := #[]
  instanceTypes := #[]
  staticTypes := #[]
  resolved := Array.replicate 8 none
  statics := none }

/-- the primitive byte -/
def k5 : Class := { plain "byte" none with kind := .primitive 'B', accessFlags := 0x411 }
/-- [B -/
def k6 : Class := { plain "[B" (some 0) with kind := .array 5 .byte, interfaces := #[3, 4], accessFlags := 1041 }

/-- the primitive int -/
def k7 : Class := { plain "int" none with kind := .primitive 'I', accessFlags := 0x411 }
/-- [I -/
def k8 : Class := { plain "[I" (some 0) with kind := .array 7 .int, interfaces := #[3, 4], accessFlags := 1041 }

def heap : Heap := #[]
def classes : Array Class := #[k0, k1, k2, k3, k4, k5, k6, k7, k8]
def interned : List (Array UInt16 × Addr) := []
def slotsUsed : Nat := 0
def theMethod : MethodId := ⟨1, 1⟩
def args0 : Array Value := #[.int 5, .long 7, .int 3]
def aboutOver (below : List Frame) : State where
  vm := { classes := classes, interned := interned.toArray }
  heap := heap
  slotsUsed := slotsUsed
  threads := #[{ frames := .invoking theMethod args0 :: below }]
def below0 : List Frame := [.native { method := ⟨0, 0⟩, args := #[] }]
def about1 : State := aboutOver below0
def p0 : Program := .bare "" "" ""
def e0 : Env := launch0.env 0 0 0
theorem w_frames : about1.frames = Frame.invoking theMethod args0 :: below0 := rfl
set_option maxRecDepth 65536 in
theorem w_args : argsFit about1.vm theMethod args0 = true := by decide +kernel
set_option maxRecDepth 65536 in
theorem w_heap : heapFits about1 = true := by decide +kernel
set_option maxRecDepth 65536 in
theorem w_runnable : about1.curStatus? = some .runnable := by decide +kernel
set_option maxRecDepth 65536 in
theorem w_alone : about1.alone = true := by decide +kernel
set_option maxRecDepth 65536 in
theorem w_named : about1.methodNamed? x = some theMethod := by decide +kernel
set_option maxRecDepth 65536 in
theorem w_hears : about1.hears theMethod below0 = true := by decide +kernel
set_option maxRecDepth 65536 in
theorem w_ripe : about1.ripe theMethod args0 below0 = true := by decide +kernel
theorem w_running : about1.status = .running := rfl
set_option maxRecDepth 65536 in
theorem w_room : about1.hasRoom e0.platform room_1 = true :=
  launch0.hasRoom_least _ room_1 (by decide +kernel) (by decide +kernel) (by decide +kernel) (by decide +kernel) (by decide +kernel) (by decide +kernel)
theorem allAtoms_all (ts : List Jvm.Cond) (a : Array Jvm.Value) (st : Jvm.State) : (allAtoms ts).before a st = ts.all (fun c => c.before a st) := by
  induction ts with
  | nil => rfl
  | cons c t ih =>
    show (Jvm.Cond.and c (allAtoms t)).before a st = _
    rw [Jvm.Cond.before_and, ih, List.all_cons]
def words1 : List Jvm.Cond := Jvm.Cond.code x code maxLocals ret :: tables_1
/-- a 'code' word, met by the world's own term for the bytes: nothing is compared byte by byte -/
theorem code_word {y : MethodName} {bytes : ByteArray} {mx : Nat} {rt : Option FieldType} {a : Array Value} {s : State} {m : MethodId} {meth : Method} {c : Code} (h1 : s.methodNamed? y = some m) (h2 : s.vm.method? m = some meth) (h3 : meth.code = some c) (h4 : c.code = bytes)
    (h5 : (c.maxLocals == mx && c.exceptionTable.isEmpty && decide (c.maxStack ≤ mostOperands) && decide (meth.sig.returnType = rt) && !meth.locks && decide (parseMethodDescriptor y.desc = some meth.sig)) = true) : (Jvm.Cond.code y bytes mx rt).before a s = true := by
  simp only [Bool.and_eq_true, beq_iff_eq, Bool.not_eq_true', decide_eq_true_eq] at h5
  obtain ⟨⟨⟨⟨⟨g1, g2⟩, g3⟩, g4⟩, g5⟩, g6⟩ := h5
  simp [Cond.before, Cond.holds, Cond.value, h1, h2, h3, h4, g1, g2, g3, g4, g5, g6]
def isCode : Jvm.Cond → Bool
  | .code _ _ _ _ => true
  | _ => false
theorem all_split {L : List Jvm.Cond} {P : Jvm.Cond → Bool} (h1 : L.all (fun c => isCode c || P c) = true) (h2 : ∀ c ∈ L.filter isCode, P c = true) : L.all P = true := by
  refine List.all_eq_true.mpr fun c hc => ?_
  have h := List.all_eq_true.mp h1 c hc
  rcases Bool.eq_false_or_eq_true (isCode c) with hi | hi
  · exact h2 c (List.mem_filter.mpr ⟨hc, hi⟩)
  · simpa [hi] using h
set_option maxRecDepth 65536 in
theorem w_c0 : (Jvm.Cond.code x code maxLocals ret).before args0 about1 = true := code_word (m := ⟨1, 1⟩) (meth := k1m1) (c := k1c1) (by decide +kernel) rfl rfl rfl (by decide +kernel)
set_option maxRecDepth 65536 in
theorem w_c1 : (Jvm.Cond.code ({ cls := "com/example/covenant_ledger/covenantledger/JournalFile", name := "wholeLines", desc := "([B)I" } : Jvm.MethodName) prog_27_method_5_code (2 : Nat) (Option.some Jvm.ClassFile.FieldType.int)).before args0 about1 = true := code_word (m := ⟨2, 0⟩) (meth := k2m0) (c := k2c0) (by decide +kernel) rfl rfl rfl (by decide +kernel)
set_option maxRecDepth 65536 in
theorem w_c2 : (Jvm.Cond.code ({ cls := "com/example/covenant_ledger/covenantledger/JournalFileWholeLinesPinLaw", name := "noLf", desc := "([BII)Z" } : Jvm.MethodName) method_4_code (3 : Nat) (Option.some Jvm.ClassFile.FieldType.boolean)).before args0 about1 = true := code_word (m := ⟨1, 3⟩) (meth := k1m3) (c := k1c3) (by decide +kernel) rfl rfl rfl (by decide +kernel)
set_option maxRecDepth 65536 in
theorem w_c3 : (Jvm.Cond.code ({ cls := "com/example/covenant_ledger/covenantledger/JournalFileWholeLinesPinLaw", name := "pick", desc := "(JII)B" } : Jvm.MethodName) method_3_code (4 : Nat) (Option.some Jvm.ClassFile.FieldType.byte)).before args0 about1 = true := code_word (m := ⟨1, 2⟩) (meth := k1m2) (c := k1c2) (by decide +kernel) rfl rfl rfl (by decide +kernel)
def codes1 : List Jvm.Cond := [Jvm.Cond.code x code maxLocals ret, Jvm.Cond.code ({ cls := "com/example/covenant_ledger/covenantledger/JournalFile", name := "wholeLines", desc := "([B)I" } : Jvm.MethodName) prog_27_method_5_code (2 : Nat) (Option.some Jvm.ClassFile.FieldType.int), Jvm.Cond.code ({ cls := "com/example/covenant_ledger/covenantledger/JournalFileWholeLinesPinLaw", name := "noLf", desc := "([BII)Z" } : Jvm.MethodName) method_4_code (3 : Nat) (Option.some Jvm.ClassFile.FieldType.boolean), Jvm.Cond.code ({ cls := "com/example/covenant_ledger/covenantledger/JournalFileWholeLinesPinLaw", name := "pick", desc := "(JII)B" } : Jvm.MethodName) method_3_code (4 : Nat) (Option.some Jvm.ClassFile.FieldType.byte)]
set_option maxRecDepth 65536 in
theorem codes_eq : words1.filter isCode = codes1 := rfl
theorem w_codes : ∀ c ∈ words1.filter isCode, c.before args0 about1 = true := by
  rw [codes_eq]
  intro c hc
  simp only [codes1, List.mem_cons, List.not_mem_nil, or_false] at hc
  rcases hc with rfl | rfl | rfl | rfl
  · exact w_c0
  · exact w_c1
  · exact w_c2
  · exact w_c3
set_option maxRecDepth 65536 in
theorem w_t1 : words1.all (fun c => isCode c || c.before args0 about1) = true := by decide +kernel
theorem w_tables : (allAtoms (Jvm.Cond.code x code maxLocals ret :: tables_1)).before args0 about1 = true := by
  rw [allAtoms_all]
  show words1.all (fun c => c.before args0 about1) = true
  refine all_split ?_ w_codes
  rw [w_t1]
set_option maxRecDepth 65536 in
theorem w_case : (Jvm.Cond.and given_1 narrow_1).before args0 about1 = true := by decide +kernel
theorem w_applies : (headSpec (Jvm.Cond.code x code maxLocals ret :: tables_1) room_1).applies x e0.platform about1 = true :=
  (Spec.applies_iff w_frames).mpr ⟨w_running, w_runnable, w_alone, w_named, w_hears, w_ripe, w_room, w_tables⟩
theorem atStart : AtStart classFile x code maxLocals ret World_1 tables_1 room_1 Calls_1 rest_1 Pre_1 launch0 p0 e0 about1 theMethod args0 below0 :=
  ⟨lists_1, trivial, launch0.admits_env _ _ _, launch0.least_env, fairChoices_fair.cas, fairChoices_fair.clock, w_frames, w_args, w_heap, w_applies, trivial, trivial, w_case⟩
end start1
theorem witness_1 : WitnessClaimed_1 := ⟨start1.p0, start1.e0, start1.about1, start1.theMethod, start1.args0, start1.below0, start1.atStart⟩
end Jvm.Pilot.@@N@@
