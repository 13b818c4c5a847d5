import JvmDerived
import JvmDerived.Pilot.@@N@@Statement
import JvmDerived.Pilot.@@N@@Code
set_option linter.unusedVariables false
set_option linter.unusedSimpArgs false
namespace Jvm.Pilot.@@N@@
open Jvm Jvm.ClassFile Sem Op Lib Jvm.Free Jvm.Stand Jvm.LawKit Jvm.RoadKit Bundle Jvm.Pilot.@@N@@.Jvm.D

/-! ### the own kit: a walk's goal in continuation form -/
def Go (p : Program) (e : Env) (below : List Frame) (Φ : Outcome → State → Prop) (U : State) : Prop :=
  ∃ s₂ o, Steps p.tables e below U s₂ ∧ s₂.status = .running ∧ Ended s₂ below o ∧ Φ o s₂
def Fin0 (s : State) (rm : Room) (Q : Option Value → Heap → List Loc → Prop) : Outcome → State → Prop :=
  fun o U' => ∃ v L, o = .returned v ∧ Q v U'.heap L ∧ FrameEnd s o U' L rm.cells rm.slots
abbrev Ctr (l : Launch) (Z : State) (y : MethodName) (bytes : ByteArray) (ml : Nat) (rt : Option FieldType) (rm : Room) (ws : List Jvm.Cond) (as' : Array Value) (h0 : Heap) (Q : Option Value → Heap → List Loc → Prop) : Prop :=
  MetFree l y (head1 (Jvm.Cond.code y bytes ml rt :: ws) rm) (fun a U => a = as' ∧ Z.Warmed39 U.vm ∧ U.heap = h0) (fun _ _ _ _ _ => True) (fun _ U o U' => ∃ v L, o = .returned v ∧ Q v U'.heap L ∧ FrameEnd U o U' L rm.cells rm.slots)
def b2i (b : Bool) : Int32 := if b then 1 else 0
theorem b2i_t : b2i true = 1 := rfl
theorem b2i_f : b2i false = 0 := rfl
theorem b2i_nar (b : Bool) : nar .boolean (b2i b) = b2i b := by cases b <;> rfl
theorem b2i_or (b : Bool) : (b = true ∧ (b2i b).toInt = 1) ∨ (b = false ∧ (b2i b).toInt = 0) := by cases b <;> decide
theorem b2i_dec {P : Prop} [Decidable P] : (P ∧ (b2i (decide P)).toInt = 1) ∨ (¬ P ∧ (b2i (decide P)).toInt = 0) := by
  by_cases h : P
  · exact Or.inl ⟨h, by rw [decide_eq_true h]; rfl⟩
  · exact Or.inr ⟨h, by rw [decide_eq_false h]; rfl⟩
theorem b2i_inj {a b : Bool} : b2i a = b2i b ↔ a = b := by cases a <;> cases b <;> decide
theorem i32e {x y : Int32} : x = y ↔ x.toInt = y.toInt := Int32.toInt_inj.symm
theorem i64e {x y : Int64} : x = y ↔ x.toInt = y.toInt := Int64.toInt_inj.symm
theorem okB {b : Bool} (h : b = true) : some (Value.int (b2i b)) = some (Value.int 1) := by rw [h]; rfl
theorem eqT {P : Prop} [Decidable P] (h : P) : some (Value.int (b2i true)) = some (Value.int (b2i (decide P))) := by rw [decide_eq_true h]
theorem eqF {P : Prop} [Decidable P] (h : ¬ P) : some (Value.int (b2i false)) = some (Value.int (b2i (decide P))) := by rw [decide_eq_false h]
theorem eqD {P Q : Prop} [Decidable P] [Decidable Q] (h : Q ↔ P) : some (Value.int (b2i (decide Q))) = some (Value.int (b2i (decide P))) := by rw [decide_eq_decide.mpr h]
theorem eqB {P : Prop} [Decidable P] {b : Bool} (h : b = true ↔ P) : some (Value.int (b2i b)) = some (Value.int (b2i (decide P))) := by
  rw [show b = decide P from by by_cases q : P <;> simp [q, h] <;> (cases b <;> simp_all)]
/-- what a pure callee leaves that returns an int (a long) of which P is said -/
def IQ (P : Int32 → Prop) (h0 : Heap) : Option Value → Heap → List Loc → Prop := fun v h L => ∃ r, v = some (.int r) ∧ P r ∧ h = h0 ∧ L = []
def JQ (P : Int64 → Prop) (h0 : Heap) : Option Value → Heap → List Loc → Prop := fun v h L => ∃ r, v = some (.long r) ∧ P r ∧ h = h0 ∧ L = []
/-- what a pure callee leaves -/
def PQ (r : Value) (h0 : Heap) : Option Value → Heap → List Loc → Prop := fun v h L => v = some r ∧ h = h0 ∧ L = []
theorem Ctr.of {l : Launch} {Z : State} {y : MethodName} {bytes : ByteArray} {ml : Nat} {rt : Option FieldType} {rm : Room} {ws : List Jvm.Cond} {as' : Array Value} {h0 : Heap} {Q : Option Value → Heap → List Loc → Prop} (hp : plainFor y = true)
    (body : ∀ (p : Program) (e : Env) (s : State) (m : MethodId) (below : List Frame) (meth : Method) (c : Code) (s₁ : State), p.tables.exec = Jvm.exec → c.code = bytes → c.maxLocals = ml → meth.sig.returnType = rt → meth.locks = false → meth.name = y.name → s.vm.findClass y.cls = some m.cls → Z.Warmed39 s.vm → Stand p l e rm s m as' below meth c s₁ [] 0 0 → s₁.heap = h0 →
      Go p e below (Fin0 s rm Q) (s₁.setTop (entryFrame m as' ml))) : Ctr l Z y bytes ml rt rm ws as' h0 Q := by
  refine MetFree.of_bodySF hp hisR ?_
  intro p e s m args below meth c s₁ Bd hml0 hP hK
  obtain ⟨rfl, hZ, hh⟩ := hP
  obtain ⟨s₂, o, g1, g2, g3, v, L, g4, g5, g6⟩ := body p e s m below meth c s₁ Bd.exec Bd.bytes hml0 Bd.returns Bd.notSynchronized (name_of_methodNamed Bd.named Bd.method).1 (findClass_of_methodNamed Bd.named) hZ (Stand.of_body Bd) (by rw [← hh, Bd.state]; rfl)
  exact ⟨s₂, o, g1, g2, g3, v, L, g4, g5, g6⟩
theorem st_one {L L' : Array Slot} {i : Nat} {o : Slot} {v : Value} (h : L[i]? = some o) (ho : One o) (hv : v.category = 1) (hL : L.setIfInBounds i (.val v) = L') : storeLocals L i v = some L' := by
  rw [XS.store1 h ho hv, hL]
section OwnKit
variable {p : Program} {l : Launch} {e : Env} {R : Room} {s : State} {m : MethodId} {args : Array Value} {below : List Frame} {meth : Method} {c : Code} {T : State} {locs : List Loc} {cells slots : Nat} {Z : State} {a0 : Array Value} {h : Heap} {Φ : Outcome → State → Prop} {pc q : Nat} {L : Array Slot} {S : List Value}
theorem Go.by {U U' : State} (h : ∀ t, Steps p.tables e below U' t → Steps p.tables e below U t) (k : Go p e below Φ U') : Go p e below Φ U := by
  obtain ⟨s₂, o, h1, r⟩ := k; exact ⟨s₂, o, h _ h1, r⟩
theorem Go.cast {g g' : JFrame} (q : g = g') (k : Go p e below Φ (T.setTop g')) : Go p e below Φ (T.setTop g) := q ▸ k
theorem g_iloadN (X : Stand p l e R s m args below meth c T locs cells slots) (hx : p.tables.exec = Jvm.exec) {j : Fin 4} {v : Int32} (hd : decode c.code pc = .ok (.iload_n j, 1)) (hl : L[j.val]? = some (.val (.int v))) (hq : pc + 1 = q) (k : Go p e below Φ (T.setTop (mkF m q L (.int v :: S)))) : Go p e below Φ (T.setTop (mkF m pc L S)) := by
  subst hq; exact Go.by (fun _ => XS.iloadN X.here hx rfl hd hl) k
theorem g_iload (X : Stand p l e R s m args below meth c T locs cells slots) (hx : p.tables.exec = Jvm.exec) {j : Nat} {v : Int32} (hd : decode c.code pc = .ok (.iload j, 2)) (hl : L[j]? = some (.val (.int v))) (hq : pc + 2 = q) (k : Go p e below Φ (T.setTop (mkF m q L (.int v :: S)))) : Go p e below Φ (T.setTop (mkF m pc L S)) := by
  subst hq; exact Go.by (fun _ => XS.iload X.here hx rfl hd hl) k
theorem g_istoreN (X : Stand p l e R s m args below meth c T locs cells slots) (hx : p.tables.exec = Jvm.exec) {j : Fin 4} {v : Int32} {L' : Array Slot} (hd : decode c.code pc = .ok (.istore_n j, 1)) (hl : storeLocals L j.val (.int v) = some L') (hq : pc + 1 = q) (k : Go p e below Φ (T.setTop (mkF m q L' S))) : Go p e below Φ (T.setTop (mkF m pc L (.int v :: S))) := by
  subst hq; exact Go.by (fun _ => XS.istoreN X.here hx rfl hd rfl hl) k
theorem g_istore (X : Stand p l e R s m args below meth c T locs cells slots) (hx : p.tables.exec = Jvm.exec) {j : Nat} {v : Int32} {L' : Array Slot} (hd : decode c.code pc = .ok (.istore j, 2)) (hl : storeLocals L j (.int v) = some L') (hq : pc + 2 = q) (k : Go p e below Φ (T.setTop (mkF m q L' S))) : Go p e below Φ (T.setTop (mkF m pc L (.int v :: S))) := by
  subst hq; exact Go.by (fun _ => XS.istore X.here hx rfl hd rfl hl) k
theorem g_lloadN (X : Stand p l e R s m args below meth c T locs cells slots) (hx : p.tables.exec = Jvm.exec) {j : Fin 4} {v : Int64} (hd : decode c.code pc = .ok (.lload_n j, 1)) (hl : L[j.val]? = some (.val (.long v))) (hq : pc + 1 = q) (k : Go p e below Φ (T.setTop (mkF m q L (.long v :: S)))) : Go p e below Φ (T.setTop (mkF m pc L S)) := by
  subst hq; exact Go.by (fun _ => XS.lloadN X.here hx rfl hd hl) k
theorem g_lload (X : Stand p l e R s m args below meth c T locs cells slots) (hx : p.tables.exec = Jvm.exec) {j : Nat} {v : Int64} (hd : decode c.code pc = .ok (.lload j, 2)) (hl : L[j]? = some (.val (.long v))) (hq : pc + 2 = q) (k : Go p e below Φ (T.setTop (mkF m q L (.long v :: S)))) : Go p e below Φ (T.setTop (mkF m pc L S)) := by
  subst hq; exact Go.by (fun _ => XS.lload X.here hx rfl hd hl) k
theorem g_lstoreN (X : Stand p l e R s m args below meth c T locs cells slots) (hx : p.tables.exec = Jvm.exec) {j : Fin 4} {v : Int64} {L' : Array Slot} (hd : decode c.code pc = .ok (.lstore_n j, 1)) (hl : storeLocals L j.val (.long v) = some L') (hq : pc + 1 = q) (k : Go p e below Φ (T.setTop (mkF m q L' S))) : Go p e below Φ (T.setTop (mkF m pc L (.long v :: S))) := by
  subst hq; exact Go.by (fun _ => XS.lstoreN X.here hx rfl hd rfl hl) k
theorem g_lstore (X : Stand p l e R s m args below meth c T locs cells slots) (hx : p.tables.exec = Jvm.exec) {j : Nat} {v : Int64} {L' : Array Slot} (hd : decode c.code pc = .ok (.lstore j, 2)) (hl : storeLocals L j (.long v) = some L') (hq : pc + 2 = q) (k : Go p e below Φ (T.setTop (mkF m q L' S))) : Go p e below Φ (T.setTop (mkF m pc L (.long v :: S))) := by
  subst hq; exact Go.by (fun _ => XS.lstore X.here hx rfl hd rfl hl) k
theorem g_aloadN (X : Stand p l e R s m args below meth c T locs cells slots) (hx : p.tables.exec = Jvm.exec) {j : Fin 4} {v : Value} (hd : decode c.code pc = .ok (.aload_n j, 1)) (hl : L[j.val]? = some (.val v)) (hv : v.isRef = true) (hq : pc + 1 = q) (k : Go p e below Φ (T.setTop (mkF m q L (v :: S)))) : Go p e below Φ (T.setTop (mkF m pc L S)) := by
  subst hq; exact Go.by (fun _ => XS.aloadN X.here hx rfl hd hl hv) k
theorem g_aload (X : Stand p l e R s m args below meth c T locs cells slots) (hx : p.tables.exec = Jvm.exec) {j : Nat} {v : Value} (hd : decode c.code pc = .ok (.aload j, 2)) (hl : L[j]? = some (.val v)) (hv : v.isRef = true) (hq : pc + 2 = q) (k : Go p e below Φ (T.setTop (mkF m q L (v :: S)))) : Go p e below Φ (T.setTop (mkF m pc L S)) := by
  subst hq; exact Go.by (fun _ => XS.aload X.here hx rfl hd hl hv) k
theorem g_astoreN (X : Stand p l e R s m args below meth c T locs cells slots) (hx : p.tables.exec = Jvm.exec) {j : Fin 4} {v : Value} {L' : Array Slot} (hd : decode c.code pc = .ok (.astore_n j, 1)) (hv : v.isRef = true) (hl : storeLocals L j.val v = some L') (hq : pc + 1 = q) (k : Go p e below Φ (T.setTop (mkF m q L' S))) : Go p e below Φ (T.setTop (mkF m pc L (v :: S))) := by
  subst hq; exact Go.by (fun _ => XS.astoreN X.here hx rfl hd rfl hv hl) k
theorem g_astore (X : Stand p l e R s m args below meth c T locs cells slots) (hx : p.tables.exec = Jvm.exec) {j : Nat} {v : Value} {L' : Array Slot} (hd : decode c.code pc = .ok (.astore j, 2)) (hv : v.isRef = true) (hl : storeLocals L j v = some L') (hq : pc + 2 = q) (k : Go p e below Φ (T.setTop (mkF m q L' S))) : Go p e below Φ (T.setTop (mkF m pc L (v :: S))) := by
  subst hq; exact Go.by (fun _ => XS.astore X.here hx rfl hd rfl hv hl) k
theorem g_iconst (X : Stand p l e R s m args below meth c T locs cells slots) (hx : p.tables.exec = Jvm.exec) {i : Int} {v : Int32} (hd : decode c.code pc = .ok (.iconst i, 1)) (hv : Int32.ofInt i = v) (hq : pc + 1 = q) (k : Go p e below Φ (T.setTop (mkF m q L (.int v :: S)))) : Go p e below Φ (T.setTop (mkF m pc L S)) := by
  subst hq hv; exact Go.by (fun _ => XS.iconst X.here hx rfl hd) k
theorem g_lconst0 (X : Stand p l e R s m args below meth c T locs cells slots) (hx : p.tables.exec = Jvm.exec) (hd : decode c.code pc = .ok (.lconst 0, 1)) (hq : pc + 1 = q) (k : Go p e below Φ (T.setTop (mkF m q L (.long 0 :: S)))) : Go p e below Φ (T.setTop (mkF m pc L S)) := by
  subst hq; exact Go.by (fun _ => XS.lconst X.here hx rfl hd) k
theorem g_iadd (X : Stand p l e R s m args below meth c T locs cells slots) (hx : p.tables.exec = Jvm.exec) {x y : Int32} (hd : decode c.code pc = .ok (.iadd, 1)) (hq : pc + 1 = q) (k : Go p e below Φ (T.setTop (mkF m q L (.int (x + y) :: S)))) : Go p e below Φ (T.setTop (mkF m pc L (.int y :: .int x :: S))) := by
  subst hq; exact Go.by (fun _ => XS.iadd X.here hx rfl hd rfl) k
theorem g_isub (X : Stand p l e R s m args below meth c T locs cells slots) (hx : p.tables.exec = Jvm.exec) {x y : Int32} (hd : decode c.code pc = .ok (.isub, 1)) (hq : pc + 1 = q) (k : Go p e below Φ (T.setTop (mkF m q L (.int (x - y) :: S)))) : Go p e below Φ (T.setTop (mkF m pc L (.int y :: .int x :: S))) := by
  subst hq; exact Go.by (fun _ => XS.isub X.here hx rfl hd rfl) k
theorem g_imul (X : Stand p l e R s m args below meth c T locs cells slots) (hx : p.tables.exec = Jvm.exec) {x y : Int32} (hd : decode c.code pc = .ok (.imul, 1)) (hq : pc + 1 = q) (k : Go p e below Φ (T.setTop (mkF m q L (.int (x * y) :: S)))) : Go p e below Φ (T.setTop (mkF m pc L (.int y :: .int x :: S))) := by
  subst hq; exact Go.by (fun _ => XS.imul X.here hx rfl hd rfl) k
theorem g_iand (X : Stand p l e R s m args below meth c T locs cells slots) (hx : p.tables.exec = Jvm.exec) {x y : Int32} (hd : decode c.code pc = .ok (.iand, 1)) (hq : pc + 1 = q) (k : Go p e below Φ (T.setTop (mkF m q L (.int (x &&& y) :: S)))) : Go p e below Φ (T.setTop (mkF m pc L (.int y :: .int x :: S))) := by
  subst hq; exact Go.by (fun _ => XS.iand X.here hx rfl hd rfl) k
theorem g_iushr (X : Stand p l e R s m args below meth c T locs cells slots) (hx : p.tables.exec = Jvm.exec) {x y : Int32} (hd : decode c.code pc = .ok (.iushr, 1)) (hq : pc + 1 = q) (k : Go p e below Φ (T.setTop (mkF m q L (.int ((x.toUInt32 >>> (y &&& 31).toUInt32).toInt32) :: S)))) : Go p e below Φ (T.setTop (mkF m pc L (.int y :: .int x :: S))) := by
  subst hq; exact Go.by (fun _ => XS.iushr X.here hx rfl hd rfl) k
theorem g_ladd (X : Stand p l e R s m args below meth c T locs cells slots) (hx : p.tables.exec = Jvm.exec) {x y : Int64} (hd : decode c.code pc = .ok (.ladd, 1)) (hq : pc + 1 = q) (k : Go p e below Φ (T.setTop (mkF m q L (.long (x + y) :: S)))) : Go p e below Φ (T.setTop (mkF m pc L (.long y :: .long x :: S))) := by
  subst hq; exact Go.by (fun _ => XS.ladd X.here hx rfl hd rfl) k
theorem g_lsub (X : Stand p l e R s m args below meth c T locs cells slots) (hx : p.tables.exec = Jvm.exec) {x y : Int64} (hd : decode c.code pc = .ok (.lsub, 1)) (hq : pc + 1 = q) (k : Go p e below Φ (T.setTop (mkF m q L (.long (x - y) :: S)))) : Go p e below Φ (T.setTop (mkF m pc L (.long y :: .long x :: S))) := by
  subst hq; exact Go.by (fun _ => XS.lsub X.here hx rfl hd rfl) k
theorem g_idiv (X : Stand p l e R s m args below meth c T locs cells slots) (hx : p.tables.exec = Jvm.exec) {x y : Int32} (hd : decode c.code pc = .ok (.idiv, 1)) (hy : y ≠ 0) (hq : pc + 1 = q) (k : Go p e below Φ (T.setTop (mkF m q L (.int (x / y) :: S)))) : Go p e below Φ (T.setTop (mkF m pc L (.int y :: .int x :: S))) := by
  subst hq; exact Go.by (fun _ => XS.idiv X.here hx rfl hd rfl hy) k
theorem g_irem (X : Stand p l e R s m args below meth c T locs cells slots) (hx : p.tables.exec = Jvm.exec) {x y : Int32} (hd : decode c.code pc = .ok (.irem, 1)) (hy : y ≠ 0) (hq : pc + 1 = q) (k : Go p e below Φ (T.setTop (mkF m q L (.int (x % y) :: S)))) : Go p e below Φ (T.setTop (mkF m pc L (.int y :: .int x :: S))) := by
  subst hq; exact Go.by (fun _ => fun r => XS.irem X.here hx rfl hd rfl hy (by rw [irem_eq_mod x y]; exact r)) k
theorem g_i2l (X : Stand p l e R s m args below meth c T locs cells slots) (hx : p.tables.exec = Jvm.exec) {x : Int32} (hd : decode c.code pc = .ok (.i2l, 1)) (hq : pc + 1 = q) (k : Go p e below Φ (T.setTop (mkF m q L (.long x.toInt64 :: S)))) : Go p e below Φ (T.setTop (mkF m pc L (.int x :: S))) := by
  subst hq; exact Go.by (fun _ => XS.i2l X.here hx rfl hd rfl) k
theorem g_lcmp (X : Stand p l e R s m args below meth c T locs cells slots) (hx : p.tables.exec = Jvm.exec) {x y : Int64} (hd : decode c.code pc = .ok (.lcmp, 1)) (hq : pc + 1 = q) (k : Go p e below Φ (T.setTop (mkF m q L (.int (lcmpW x y) :: S)))) : Go p e below Φ (T.setTop (mkF m pc L (.long y :: .long x :: S))) := by
  subst hq; exact Go.by (fun _ => XS.lcmp X.here hx rfl hd rfl) k
theorem g_iinc (X : Stand p l e R s m args below meth c T locs cells slots) (hx : p.tables.exec = Jvm.exec) {j : Nat} {i : Int} {x v : Int32} {L' : Array Slot} (hd : decode c.code pc = .ok (.iinc j i, 3)) (hl : L[j]? = some (.val (.int x))) (hv : x + Int32.ofInt i = v) (hl' : storeLocals L j (.int v) = some L') (hq : pc + 3 = q) (k : Go p e below Φ (T.setTop (mkF m q L' S))) : Go p e below Φ (T.setTop (mkF m pc L S)) := by
  subst hq; exact Go.by (fun _ => XS.iinc X.here hx rfl hd hl (by rw [hv]; exact hl')) k
theorem g_dup (X : Stand p l e R s m args below meth c T locs cells slots) (hx : p.tables.exec = Jvm.exec) {v : Value} (hd : decode c.code pc = .ok (.dup, 1)) (hv : v.category = 1) (hq : pc + 1 = q) (k : Go p e below Φ (T.setTop (mkF m q L (v :: v :: S)))) : Go p e below Φ (T.setTop (mkF m pc L (v :: S))) := by
  subst hq; exact Go.by (fun _ => XS.dup X.here hx rfl hd rfl hv) k
theorem g_dupX1 (X : Stand p l e R s m args below meth c T locs cells slots) (hx : p.tables.exec = Jvm.exec) {v w : Value} (hd : decode c.code pc = .ok (.dup_x1, 1)) (hv : v.category = 1) (hw' : w.category = 1) (hq : pc + 1 = q) (k : Go p e below Φ (T.setTop (mkF m q L (v :: w :: v :: S)))) : Go p e below Φ (T.setTop (mkF m pc L (v :: w :: S))) := by
  subst hq; exact Go.by (fun _ => XS.dupX1 X.here hx rfl hd rfl hv hw') k
theorem g_dup2 (X : Stand p l e R s m args below meth c T locs cells slots) (hx : p.tables.exec = Jvm.exec) {v w : Value} (hd : decode c.code pc = .ok (.dup2, 1)) (hv : v.category = 1) (hw' : w.category = 1) (hq : pc + 1 = q) (k : Go p e below Φ (T.setTop (mkF m q L (v :: w :: v :: w :: S)))) : Go p e below Φ (T.setTop (mkF m pc L (v :: w :: S))) := by
  subst hq; exact Go.by (fun _ => Jvm.Free.XT.dup2 X.here hx rfl hd rfl hv hw') k
theorem g_goto (X : Stand p l e R s m args below meth c T locs cells slots) (hx : p.tables.exec = Jvm.exec) {o : Int} (hd : decode c.code pc = .ok (.goto o, 3)) (ho : 0 ≤ (pc : Int) + o) (hq : ((pc : Int) + o).toNat = q) (k : Go p e below Φ (T.setTop (mkF m q L S))) : Go p e below Φ (T.setTop (mkF m pc L S)) := Go.by (fun _ => XS.goto X.here hx rfl rfl hd ho hq) k
theorem g_icmp (X : Stand p l e R s m args below meth c T locs cells slots) (hx : p.tables.exec = Jvm.exec) {cd : ClassFile.Cond} {o : Int} {q0 : Nat} {x y : Int32} (hd : decode c.code pc = .ok (.if_icmp cd o, 3)) (ho : 0 ≤ (pc : Int) + o) (hq : ((pc : Int) + o).toNat = q) (hq0 : pc + 3 = q0) (k1 : if_icmp.holds cd x y = true → Go p e below Φ (T.setTop (mkF m q L S))) (k0 : if_icmp.holds cd x y = false → Go p e below Φ (T.setTop (mkF m q0 L S))) : Go p e below Φ (T.setTop (mkF m pc L (.int y :: .int x :: S))) := by
  subst hq0
  cases hb : if_icmp.holds cd x y
  · exact Go.by (fun _ => XS.icmpNo X.here hx rfl hd rfl hb) (k0 hb)
  · exact Go.by (fun _ => XS.icmpYes X.here hx rfl rfl hd rfl hb ho hq) (k1 hb)
theorem g_if0 (X : Stand p l e R s m args below meth c T locs cells slots) (hx : p.tables.exec = Jvm.exec) {cd : ClassFile.Cond} {o : Int} {q0 : Nat} {x : Int32} (hd : decode c.code pc = .ok (.ifCond cd o, 3)) (ho : 0 ≤ (pc : Int) + o) (hq : ((pc : Int) + o).toNat = q) (hq0 : pc + 3 = q0) (k1 : if_icmp.holds cd x 0 = true → Go p e below Φ (T.setTop (mkF m q L S))) (k0 : if_icmp.holds cd x 0 = false → Go p e below Φ (T.setTop (mkF m q0 L S))) : Go p e below Φ (T.setTop (mkF m pc L (.int x :: S))) := by
  subst hq0
  cases hb : if_icmp.holds cd x 0
  · exact Go.by (fun _ => XS.ifNo X.here hx rfl hd rfl ((if0 _ _).trans hb)) (k0 hb)
  · exact Go.by (fun _ => XS.ifYes X.here hx rfl rfl hd rfl ((if0 _ _).trans hb) ho hq) (k1 hb)
theorem rel_eq {x y : Int32} : (if_icmp.holds .eq x y = true → x.toInt = y.toInt) ∧ (if_icmp.holds .eq x y = false → x.toInt ≠ y.toInt) := by
  constructor <;> intro h <;> simp [if_icmp.holds, Int32.lt_iff_toInt_lt, Int32.le_iff_toInt_le, ← Int32.toInt_inj] at h <;> omega
theorem g_icmp_eq (X : Stand p l e R s m args below meth c T locs cells slots) (hx : p.tables.exec = Jvm.exec) {o : Int} {q0 : Nat} {x y : Int32} (hd : decode c.code pc = .ok (.if_icmp .eq o, 3)) (ho : 0 ≤ (pc : Int) + o) (hq : ((pc : Int) + o).toNat = q) (hq0 : pc + 3 = q0) (k1 : x.toInt = y.toInt → Go p e below Φ (T.setTop (mkF m q L S))) (k0 : x.toInt ≠ y.toInt → Go p e below Φ (T.setTop (mkF m q0 L S))) : Go p e below Φ (T.setTop (mkF m pc L (.int y :: .int x :: S))) := g_icmp X hx hd ho hq hq0 (fun h => k1 (rel_eq.1 h)) (fun h => k0 (rel_eq.2 h))
theorem g_if_eq (X : Stand p l e R s m args below meth c T locs cells slots) (hx : p.tables.exec = Jvm.exec) {o : Int} {q0 : Nat} {x : Int32} (hd : decode c.code pc = .ok (.ifCond .eq o, 3)) (ho : 0 ≤ (pc : Int) + o) (hq : ((pc : Int) + o).toNat = q) (hq0 : pc + 3 = q0) (k1 : x.toInt = 0 → Go p e below Φ (T.setTop (mkF m q L S))) (k0 : x.toInt ≠ 0 → Go p e below Φ (T.setTop (mkF m q0 L S))) : Go p e below Φ (T.setTop (mkF m pc L (.int x :: S))) := g_if0 X hx hd ho hq hq0 (fun h => k1 (rel_eq.1 h)) (fun h => k0 (rel_eq.2 h))
theorem rel_ne {x y : Int32} : (if_icmp.holds .ne x y = true → x.toInt ≠ y.toInt) ∧ (if_icmp.holds .ne x y = false → x.toInt = y.toInt) := by
  constructor <;> intro h <;> simp [if_icmp.holds, Int32.lt_iff_toInt_lt, Int32.le_iff_toInt_le, ← Int32.toInt_inj] at h <;> omega
theorem g_icmp_ne (X : Stand p l e R s m args below meth c T locs cells slots) (hx : p.tables.exec = Jvm.exec) {o : Int} {q0 : Nat} {x y : Int32} (hd : decode c.code pc = .ok (.if_icmp .ne o, 3)) (ho : 0 ≤ (pc : Int) + o) (hq : ((pc : Int) + o).toNat = q) (hq0 : pc + 3 = q0) (k1 : x.toInt ≠ y.toInt → Go p e below Φ (T.setTop (mkF m q L S))) (k0 : x.toInt = y.toInt → Go p e below Φ (T.setTop (mkF m q0 L S))) : Go p e below Φ (T.setTop (mkF m pc L (.int y :: .int x :: S))) := g_icmp X hx hd ho hq hq0 (fun h => k1 (rel_ne.1 h)) (fun h => k0 (rel_ne.2 h))
theorem g_if_ne (X : Stand p l e R s m args below meth c T locs cells slots) (hx : p.tables.exec = Jvm.exec) {o : Int} {q0 : Nat} {x : Int32} (hd : decode c.code pc = .ok (.ifCond .ne o, 3)) (ho : 0 ≤ (pc : Int) + o) (hq : ((pc : Int) + o).toNat = q) (hq0 : pc + 3 = q0) (k1 : x.toInt ≠ 0 → Go p e below Φ (T.setTop (mkF m q L S))) (k0 : x.toInt = 0 → Go p e below Φ (T.setTop (mkF m q0 L S))) : Go p e below Φ (T.setTop (mkF m pc L (.int x :: S))) := g_if0 X hx hd ho hq hq0 (fun h => k1 (rel_ne.1 h)) (fun h => k0 (rel_ne.2 h))
theorem rell_ne {x y : Int64} : (if_icmp.holds .ne (lcmpW x y) 0 = true → x.toInt ≠ y.toInt) ∧ (if_icmp.holds .ne (lcmpW x y) 0 = false → x.toInt = y.toInt) := by
  have q := c_lcmp x y
  constructor <;> intro h
  · have h' := (rel_ne (x := lcmpW x y) (y := 0)).1 h; rw [show (0 : Int32).toInt = 0 from rfl] at h'; generalize lcmpW x y = w at *; omega
  · have h' := (rel_ne (x := lcmpW x y) (y := 0)).2 h; rw [show (0 : Int32).toInt = 0 from rfl] at h'; generalize lcmpW x y = w at *; omega
theorem g_lcmp_ne (X : Stand p l e R s m args below meth c T locs cells slots) (hx : p.tables.exec = Jvm.exec) {o : Int} {q1 q0 : Nat} {x y : Int64} (hd : decode c.code pc = .ok (.lcmp, 1)) (hq1 : pc + 1 = q1) (hd' : decode c.code q1 = .ok (.ifCond .ne o, 3)) (ho : 0 ≤ (q1 : Int) + o) (hq : ((q1 : Int) + o).toNat = q) (hq0 : q1 + 3 = q0) (k1 : x.toInt ≠ y.toInt → Go p e below Φ (T.setTop (mkF m q L S))) (k0 : x.toInt = y.toInt → Go p e below Φ (T.setTop (mkF m q0 L S))) : Go p e below Φ (T.setTop (mkF m pc L (.long y :: .long x :: S))) := g_lcmp X hx hd hq1 (g_if0 X hx hd' ho hq hq0 (fun h => k1 (rell_ne.1 h)) (fun h => k0 (rell_ne.2 h)))
theorem rel_lt {x y : Int32} : (if_icmp.holds .lt x y = true → x.toInt < y.toInt) ∧ (if_icmp.holds .lt x y = false → y.toInt ≤ x.toInt) := by
  constructor <;> intro h <;> simp [if_icmp.holds, Int32.lt_iff_toInt_lt, Int32.le_iff_toInt_le, ← Int32.toInt_inj] at h <;> omega
theorem g_icmp_lt (X : Stand p l e R s m args below meth c T locs cells slots) (hx : p.tables.exec = Jvm.exec) {o : Int} {q0 : Nat} {x y : Int32} (hd : decode c.code pc = .ok (.if_icmp .lt o, 3)) (ho : 0 ≤ (pc : Int) + o) (hq : ((pc : Int) + o).toNat = q) (hq0 : pc + 3 = q0) (k1 : x.toInt < y.toInt → Go p e below Φ (T.setTop (mkF m q L S))) (k0 : y.toInt ≤ x.toInt → Go p e below Φ (T.setTop (mkF m q0 L S))) : Go p e below Φ (T.setTop (mkF m pc L (.int y :: .int x :: S))) := g_icmp X hx hd ho hq hq0 (fun h => k1 (rel_lt.1 h)) (fun h => k0 (rel_lt.2 h))
theorem rell_lt {x y : Int64} : (if_icmp.holds .lt (lcmpW x y) 0 = true → x.toInt < y.toInt) ∧ (if_icmp.holds .lt (lcmpW x y) 0 = false → y.toInt ≤ x.toInt) := by
  have q := c_lcmp x y
  constructor <;> intro h
  · have h' := (rel_lt (x := lcmpW x y) (y := 0)).1 h; rw [show (0 : Int32).toInt = 0 from rfl] at h'; generalize lcmpW x y = w at *; omega
  · have h' := (rel_lt (x := lcmpW x y) (y := 0)).2 h; rw [show (0 : Int32).toInt = 0 from rfl] at h'; generalize lcmpW x y = w at *; omega
theorem g_lcmp_lt (X : Stand p l e R s m args below meth c T locs cells slots) (hx : p.tables.exec = Jvm.exec) {o : Int} {q1 q0 : Nat} {x y : Int64} (hd : decode c.code pc = .ok (.lcmp, 1)) (hq1 : pc + 1 = q1) (hd' : decode c.code q1 = .ok (.ifCond .lt o, 3)) (ho : 0 ≤ (q1 : Int) + o) (hq : ((q1 : Int) + o).toNat = q) (hq0 : q1 + 3 = q0) (k1 : x.toInt < y.toInt → Go p e below Φ (T.setTop (mkF m q L S))) (k0 : y.toInt ≤ x.toInt → Go p e below Φ (T.setTop (mkF m q0 L S))) : Go p e below Φ (T.setTop (mkF m pc L (.long y :: .long x :: S))) := g_lcmp X hx hd hq1 (g_if0 X hx hd' ho hq hq0 (fun h => k1 (rell_lt.1 h)) (fun h => k0 (rell_lt.2 h)))
theorem rel_ge {x y : Int32} : (if_icmp.holds .ge x y = true → y.toInt ≤ x.toInt) ∧ (if_icmp.holds .ge x y = false → x.toInt < y.toInt) := by
  constructor <;> intro h <;> simp [if_icmp.holds, Int32.lt_iff_toInt_lt, Int32.le_iff_toInt_le, ← Int32.toInt_inj] at h <;> omega
theorem g_icmp_ge (X : Stand p l e R s m args below meth c T locs cells slots) (hx : p.tables.exec = Jvm.exec) {o : Int} {q0 : Nat} {x y : Int32} (hd : decode c.code pc = .ok (.if_icmp .ge o, 3)) (ho : 0 ≤ (pc : Int) + o) (hq : ((pc : Int) + o).toNat = q) (hq0 : pc + 3 = q0) (k1 : y.toInt ≤ x.toInt → Go p e below Φ (T.setTop (mkF m q L S))) (k0 : x.toInt < y.toInt → Go p e below Φ (T.setTop (mkF m q0 L S))) : Go p e below Φ (T.setTop (mkF m pc L (.int y :: .int x :: S))) := g_icmp X hx hd ho hq hq0 (fun h => k1 (rel_ge.1 h)) (fun h => k0 (rel_ge.2 h))
theorem rell_ge {x y : Int64} : (if_icmp.holds .ge (lcmpW x y) 0 = true → y.toInt ≤ x.toInt) ∧ (if_icmp.holds .ge (lcmpW x y) 0 = false → x.toInt < y.toInt) := by
  have q := c_lcmp x y
  constructor <;> intro h
  · have h' := (rel_ge (x := lcmpW x y) (y := 0)).1 h; rw [show (0 : Int32).toInt = 0 from rfl] at h'; generalize lcmpW x y = w at *; omega
  · have h' := (rel_ge (x := lcmpW x y) (y := 0)).2 h; rw [show (0 : Int32).toInt = 0 from rfl] at h'; generalize lcmpW x y = w at *; omega
theorem g_lcmp_ge (X : Stand p l e R s m args below meth c T locs cells slots) (hx : p.tables.exec = Jvm.exec) {o : Int} {q1 q0 : Nat} {x y : Int64} (hd : decode c.code pc = .ok (.lcmp, 1)) (hq1 : pc + 1 = q1) (hd' : decode c.code q1 = .ok (.ifCond .ge o, 3)) (ho : 0 ≤ (q1 : Int) + o) (hq : ((q1 : Int) + o).toNat = q) (hq0 : q1 + 3 = q0) (k1 : y.toInt ≤ x.toInt → Go p e below Φ (T.setTop (mkF m q L S))) (k0 : x.toInt < y.toInt → Go p e below Φ (T.setTop (mkF m q0 L S))) : Go p e below Φ (T.setTop (mkF m pc L (.long y :: .long x :: S))) := g_lcmp X hx hd hq1 (g_if0 X hx hd' ho hq hq0 (fun h => k1 (rell_ge.1 h)) (fun h => k0 (rell_ge.2 h)))
theorem rel_gt {x y : Int32} : (if_icmp.holds .gt x y = true → y.toInt < x.toInt) ∧ (if_icmp.holds .gt x y = false → x.toInt ≤ y.toInt) := by
  constructor <;> intro h <;> simp [if_icmp.holds, Int32.lt_iff_toInt_lt, Int32.le_iff_toInt_le, ← Int32.toInt_inj] at h <;> omega
theorem g_icmp_gt (X : Stand p l e R s m args below meth c T locs cells slots) (hx : p.tables.exec = Jvm.exec) {o : Int} {q0 : Nat} {x y : Int32} (hd : decode c.code pc = .ok (.if_icmp .gt o, 3)) (ho : 0 ≤ (pc : Int) + o) (hq : ((pc : Int) + o).toNat = q) (hq0 : pc + 3 = q0) (k1 : y.toInt < x.toInt → Go p e below Φ (T.setTop (mkF m q L S))) (k0 : x.toInt ≤ y.toInt → Go p e below Φ (T.setTop (mkF m q0 L S))) : Go p e below Φ (T.setTop (mkF m pc L (.int y :: .int x :: S))) := g_icmp X hx hd ho hq hq0 (fun h => k1 (rel_gt.1 h)) (fun h => k0 (rel_gt.2 h))
theorem rell_gt {x y : Int64} : (if_icmp.holds .gt (lcmpW x y) 0 = true → y.toInt < x.toInt) ∧ (if_icmp.holds .gt (lcmpW x y) 0 = false → x.toInt ≤ y.toInt) := by
  have q := c_lcmp x y
  constructor <;> intro h
  · have h' := (rel_gt (x := lcmpW x y) (y := 0)).1 h; rw [show (0 : Int32).toInt = 0 from rfl] at h'; generalize lcmpW x y = w at *; omega
  · have h' := (rel_gt (x := lcmpW x y) (y := 0)).2 h; rw [show (0 : Int32).toInt = 0 from rfl] at h'; generalize lcmpW x y = w at *; omega
theorem g_lcmp_gt (X : Stand p l e R s m args below meth c T locs cells slots) (hx : p.tables.exec = Jvm.exec) {o : Int} {q1 q0 : Nat} {x y : Int64} (hd : decode c.code pc = .ok (.lcmp, 1)) (hq1 : pc + 1 = q1) (hd' : decode c.code q1 = .ok (.ifCond .gt o, 3)) (ho : 0 ≤ (q1 : Int) + o) (hq : ((q1 : Int) + o).toNat = q) (hq0 : q1 + 3 = q0) (k1 : y.toInt < x.toInt → Go p e below Φ (T.setTop (mkF m q L S))) (k0 : x.toInt ≤ y.toInt → Go p e below Φ (T.setTop (mkF m q0 L S))) : Go p e below Φ (T.setTop (mkF m pc L (.long y :: .long x :: S))) := g_lcmp X hx hd hq1 (g_if0 X hx hd' ho hq hq0 (fun h => k1 (rell_gt.1 h)) (fun h => k0 (rell_gt.2 h)))
theorem rel_le {x y : Int32} : (if_icmp.holds .le x y = true → x.toInt ≤ y.toInt) ∧ (if_icmp.holds .le x y = false → y.toInt < x.toInt) := by
  constructor <;> intro h <;> simp [if_icmp.holds, Int32.lt_iff_toInt_lt, Int32.le_iff_toInt_le, ← Int32.toInt_inj] at h <;> omega
theorem g_if_le (X : Stand p l e R s m args below meth c T locs cells slots) (hx : p.tables.exec = Jvm.exec) {o : Int} {q0 : Nat} {x : Int32} (hd : decode c.code pc = .ok (.ifCond .le o, 3)) (ho : 0 ≤ (pc : Int) + o) (hq : ((pc : Int) + o).toNat = q) (hq0 : pc + 3 = q0) (k1 : x.toInt ≤ 0 → Go p e below Φ (T.setTop (mkF m q L S))) (k0 : 0 < x.toInt → Go p e below Φ (T.setTop (mkF m q0 L S))) : Go p e below Φ (T.setTop (mkF m pc L (.int x :: S))) := g_if0 X hx hd ho hq hq0 (fun h => k1 (rel_le.1 h)) (fun h => k0 (rel_le.2 h))
theorem g_ifB_ne (X : Stand p l e R s m args below meth c T locs cells slots) (hx : p.tables.exec = Jvm.exec) {o : Int} {q0 : Nat} {b : Bool} (hd : decode c.code pc = .ok (.ifCond .ne o, 3)) (ho : 0 ≤ (pc : Int) + o) (hq : ((pc : Int) + o).toNat = q) (hq0 : pc + 3 = q0) (k1 : b = true → Go p e below Φ (T.setTop (mkF m q L S))) (k0 : b = false → Go p e below Φ (T.setTop (mkF m q0 L S))) : Go p e below Φ (T.setTop (mkF m pc L (.int (b2i b) :: S))) := g_if0 X hx hd ho hq hq0 (fun h => k1 (by cases b <;> first | rfl | exact Bool.noConfusion h)) (fun h => k0 (by cases b <;> first | rfl | exact Bool.noConfusion h))
theorem g_ifB_eq (X : Stand p l e R s m args below meth c T locs cells slots) (hx : p.tables.exec = Jvm.exec) {o : Int} {q0 : Nat} {b : Bool} (hd : decode c.code pc = .ok (.ifCond .eq o, 3)) (ho : 0 ≤ (pc : Int) + o) (hq : ((pc : Int) + o).toNat = q) (hq0 : pc + 3 = q0) (k1 : b = false → Go p e below Φ (T.setTop (mkF m q L S))) (k0 : b = true → Go p e below Φ (T.setTop (mkF m q0 L S))) : Go p e below Φ (T.setTop (mkF m pc L (.int (b2i b) :: S))) := g_if0 X hx hd ho hq hq0 (fun h => k1 (by cases b <;> first | rfl | exact Bool.noConfusion h)) (fun h => k0 (by cases b <;> first | rfl | exact Bool.noConfusion h))
theorem g_sel_icmp_ne (X : Stand p l e R s m args below meth c T locs cells slots) (hx : p.tables.exec = Jvm.exec) {o o' : Int} {z t t' : Nat} {x y : Int32} (hd : decode c.code pc = .ok (.if_icmp .ne o, 3)) (ho : 0 ≤ (pc : Int) + o) (hz' : ((pc : Int) + o).toNat = z) (ht0 : pc + 3 = t) (hz : decode c.code z = .ok (.iconst 0, 1)) (ht : decode c.code t = .ok (.iconst 1, 1)) (hg : decode c.code t' = .ok (.goto o', 3)) (ht' : t + 1 = t') (hog : 0 ≤ (t' : Int) + o') (hj : ((t' : Int) + o').toNat = q) (hj' : z + 1 = q) (k : Go p e below Φ (T.setTop (mkF m q L (.int (b2i (decide (x.toInt = y.toInt))) :: S)))) : Go p e below Φ (T.setTop (mkF m pc L (.int y :: .int x :: S))) :=
  g_icmp_ne X hx hd ho hz' ht0 (fun h => g_iconst X hx hz rfl hj' (by rw [show decide (x.toInt = y.toInt) = false from decide_eq_false (by omega)] at k; exact k)) (fun h => g_iconst X hx ht rfl ht' (g_goto X hx hg hog hj (by rw [show decide (x.toInt = y.toInt) = true from decide_eq_true (by omega)] at k; exact k)))
theorem g_sel_if_eq (X : Stand p l e R s m args below meth c T locs cells slots) (hx : p.tables.exec = Jvm.exec) {o o' : Int} {z t t' : Nat} {x : Int32} (hd : decode c.code pc = .ok (.ifCond .eq o, 3)) (ho : 0 ≤ (pc : Int) + o) (hz' : ((pc : Int) + o).toNat = z) (ht0 : pc + 3 = t) (hz : decode c.code z = .ok (.iconst 0, 1)) (ht : decode c.code t = .ok (.iconst 1, 1)) (hg : decode c.code t' = .ok (.goto o', 3)) (ht' : t + 1 = t') (hog : 0 ≤ (t' : Int) + o') (hj : ((t' : Int) + o').toNat = q) (hj' : z + 1 = q) (k : Go p e below Φ (T.setTop (mkF m q L (.int (b2i (decide (x.toInt ≠ 0))) :: S)))) : Go p e below Φ (T.setTop (mkF m pc L (.int x :: S))) :=
  g_if_eq X hx hd ho hz' ht0 (fun h => g_iconst X hx hz rfl hj' (by rw [show decide (x.toInt ≠ 0) = false from decide_eq_false (by omega)] at k; exact k)) (fun h => g_iconst X hx ht rfl ht' (g_goto X hx hg hog hj (by rw [show decide (x.toInt ≠ 0) = true from decide_eq_true (by omega)] at k; exact k)))
theorem g_sel_if_ne (X : Stand p l e R s m args below meth c T locs cells slots) (hx : p.tables.exec = Jvm.exec) {o o' : Int} {z t t' : Nat} {x : Int32} (hd : decode c.code pc = .ok (.ifCond .ne o, 3)) (ho : 0 ≤ (pc : Int) + o) (hz' : ((pc : Int) + o).toNat = z) (ht0 : pc + 3 = t) (hz : decode c.code z = .ok (.iconst 0, 1)) (ht : decode c.code t = .ok (.iconst 1, 1)) (hg : decode c.code t' = .ok (.goto o', 3)) (ht' : t + 1 = t') (hog : 0 ≤ (t' : Int) + o') (hj : ((t' : Int) + o').toNat = q) (hj' : z + 1 = q) (k : Go p e below Φ (T.setTop (mkF m q L (.int (b2i (decide (x.toInt = 0))) :: S)))) : Go p e below Φ (T.setTop (mkF m pc L (.int x :: S))) :=
  g_if_ne X hx hd ho hz' ht0 (fun h => g_iconst X hx hz rfl hj' (by rw [show decide (x.toInt = 0) = false from decide_eq_false (by omega)] at k; exact k)) (fun h => g_iconst X hx ht rfl ht' (g_goto X hx hg hog hj (by rw [show decide (x.toInt = 0) = true from decide_eq_true (by omega)] at k; exact k)))
theorem g_sel_lcmp_ne (X : Stand p l e R s m args below meth c T locs cells slots) (hx : p.tables.exec = Jvm.exec) {o o' : Int} {q1 z t t' : Nat} {x y : Int64} (hd : decode c.code pc = .ok (.lcmp, 1)) (hq1 : pc + 1 = q1) (hd' : decode c.code q1 = .ok (.ifCond .ne o, 3)) (ho : 0 ≤ (q1 : Int) + o) (hz' : ((q1 : Int) + o).toNat = z) (ht0 : q1 + 3 = t) (hz : decode c.code z = .ok (.iconst 0, 1)) (ht : decode c.code t = .ok (.iconst 1, 1)) (hg : decode c.code t' = .ok (.goto o', 3)) (ht' : t + 1 = t') (hog : 0 ≤ (t' : Int) + o') (hj : ((t' : Int) + o').toNat = q) (hj' : z + 1 = q) (k : Go p e below Φ (T.setTop (mkF m q L (.int (b2i (decide (x.toInt = y.toInt))) :: S)))) : Go p e below Φ (T.setTop (mkF m pc L (.long y :: .long x :: S))) :=
  g_lcmp_ne X hx hd hq1 hd' ho hz' ht0 (fun h => g_iconst X hx hz rfl hj' (by rw [show decide (x.toInt = y.toInt) = false from decide_eq_false (by omega)] at k; exact k)) (fun h => g_iconst X hx ht rfl ht' (g_goto X hx hg hog hj (by rw [show decide (x.toInt = y.toInt) = true from decide_eq_true (by omega)] at k; exact k)))
theorem g_sel_lcmp_ge (X : Stand p l e R s m args below meth c T locs cells slots) (hx : p.tables.exec = Jvm.exec) {o o' : Int} {q1 z t t' : Nat} {x y : Int64} (hd : decode c.code pc = .ok (.lcmp, 1)) (hq1 : pc + 1 = q1) (hd' : decode c.code q1 = .ok (.ifCond .ge o, 3)) (ho : 0 ≤ (q1 : Int) + o) (hz' : ((q1 : Int) + o).toNat = z) (ht0 : q1 + 3 = t) (hz : decode c.code z = .ok (.iconst 0, 1)) (ht : decode c.code t = .ok (.iconst 1, 1)) (hg : decode c.code t' = .ok (.goto o', 3)) (ht' : t + 1 = t') (hog : 0 ≤ (t' : Int) + o') (hj : ((t' : Int) + o').toNat = q) (hj' : z + 1 = q) (k : Go p e below Φ (T.setTop (mkF m q L (.int (b2i (decide (x.toInt < y.toInt))) :: S)))) : Go p e below Φ (T.setTop (mkF m pc L (.long y :: .long x :: S))) :=
  g_lcmp_ge X hx hd hq1 hd' ho hz' ht0 (fun h => g_iconst X hx hz rfl hj' (by rw [show decide (x.toInt < y.toInt) = false from decide_eq_false (by omega)] at k; exact k)) (fun h => g_iconst X hx ht rfl ht' (g_goto X hx hg hog hj (by rw [show decide (x.toInt < y.toInt) = true from decide_eq_true (by omega)] at k; exact k)))
theorem g_ldc2J (X : Stand p l e R s m args below meth c T locs cells slots) (hx : p.tables.exec = Jvm.exec) (hZ : Z.Warmed39 s.vm) {own : String} {index : Nat} {v : Int64} (hown : s.vm.findClass own = some m.cls) (w : (Jvm.Cond.constantLong own index v).before a0 Z = true) (hd : decode c.code pc = .ok (.ldc2_w index, 3)) (hq : pc + 3 = q) (k : Go p e below Φ (T.setTop (mkF m q L (.long v :: S)))) : Go p e below Φ (T.setTop (mkF m pc L S)) := by
  subst hq; exact Go.by (X.ldc2Long hx hown (mvT hZ w) rfl hd) k
theorem g_ireturn (X : Stand p l e R s m args below meth c T locs cells slots) (hx : p.tables.exec = Jvm.exec) {Q : Option Value → Heap → List Loc → Prop} {rm : Room} (hlk : meth.locks = false) {z : Int32} (hrt : meth.sig.returnType = some .int) (hd : decode c.code pc = .ok (.ireturn, 1)) (hc : cells ≤ rm.cells) (hs : slots ≤ rm.slots) (hQ : Q (some (.int z)) T.heap locs) : Go p e below (Fin0 s rm Q) (T.setTop (mkF m pc L (.int z :: S))) := by
  obtain ⟨fs, hr, hrun, hended, hW, hsame⟩ := X.leave (v := (some (.int z))) (fun h => by rw [hrt] at h; cases h) hlk
  exact ⟨_, _, retOut X hx hrt rfl (Or.inl ⟨rfl, Or.inl rfl, z, rfl⟩) hd hr, hrun, hended, _, _, rfl, hQ, ⟨_, rfl⟩, hW, hsame.mono hc hs⟩
theorem g_lreturn (X : Stand p l e R s m args below meth c T locs cells slots) (hx : p.tables.exec = Jvm.exec) {Q : Option Value → Heap → List Loc → Prop} {rm : Room} (hlk : meth.locks = false) {z : Int64} (hrt : meth.sig.returnType = some .long) (hd : decode c.code pc = .ok (.lreturn, 1)) (hc : cells ≤ rm.cells) (hs : slots ≤ rm.slots) (hQ : Q (some (.long z)) T.heap locs) : Go p e below (Fin0 s rm Q) (T.setTop (mkF m pc L (.long z :: S))) := by
  obtain ⟨fs, hr, hrun, hended, hW, hsame⟩ := X.leave (v := (some (.long z))) (fun h => by rw [hrt] at h; cases h) hlk
  exact ⟨_, _, retOut X hx hrt rfl (Or.inr (Or.inl ⟨rfl, rfl, z, rfl⟩)) hd hr, hrun, hended, _, _, rfl, hQ, ⟨_, rfl⟩, hW, hsame.mono hc hs⟩
theorem g_areturn (X : Stand p l e R s m args below meth c T locs cells slots) (hx : p.tables.exec = Jvm.exec) {Q : Option Value → Heap → List Loc → Prop} {rm : Room} (hlk : meth.locks = false) {w : Value} {t : FieldType} (hw : w.isRef = true) (hrt : meth.sig.returnType = some t) (ht : t.isReference = true) (hd : decode c.code pc = .ok (.areturn, 1)) (hc : cells ≤ rm.cells) (hs : slots ≤ rm.slots) (hQ : Q (some w) T.heap locs) : Go p e below (Fin0 s rm Q) (T.setTop (mkF m pc L (w :: S))) := by
  obtain ⟨fs, hr, hrun, hended, hW, hsame⟩ := X.leave (v := (some w)) (fun h => by rw [hrt] at h; cases h) hlk
  exact ⟨_, _, retOut X hx hrt (by cases t <;> first | rfl | cases ht) (Or.inr (Or.inr (Or.inr (Or.inr ⟨rfl, ht, hw⟩)))) hd hr, hrun, hended, _, _, rfl, hQ, ⟨_, rfl⟩, hW, hsame.mono hc hs⟩
theorem g_zreturn (X : Stand p l e R s m args below meth c T locs cells slots) (hx : p.tables.exec = Jvm.exec) {Q : Option Value → Heap → List Loc → Prop} {rm : Room} (hlk : meth.locks = false) {b : Bool} (hrt : meth.sig.returnType = some .boolean) (hd : decode c.code pc = .ok (.ireturn, 1)) (hc : cells ≤ rm.cells) (hs : slots ≤ rm.slots) (hQ : Q (some (.int (b2i b))) T.heap locs) : Go p e below (Fin0 s rm Q) (T.setTop (mkF m pc L (.int (b2i b) :: S))) := by
  obtain ⟨fs, hr, hrun, hended, hW, hsame⟩ := X.leave (v := (some (.int (b2i b)))) (fun h => by rw [hrt] at h; cases h) hlk
  exact ⟨_, _, retOut X hx hrt (by cases b <;> rfl) (Or.inl ⟨rfl, Or.inr (Or.inl rfl), _, rfl⟩) hd hr, hrun, hended, _, _, rfl, hQ, ⟨_, rfl⟩, hW, hsame.mono hc hs⟩
theorem g_ret (X : Stand p l e R s m args below meth c T locs cells slots) (hx : p.tables.exec = Jvm.exec) {Q : Option Value → Heap → List Loc → Prop} {rm : Room} (hlk : meth.locks = false) (hrt : meth.sig.returnType = none) (hd : decode c.code pc = .ok (.return_, 1)) (hc : cells ≤ rm.cells) (hs : slots ≤ rm.slots) (hQ : Q none T.heap locs) : Go p e below (Fin0 s rm Q) (T.setTop (mkF m pc L [])) := by
  obtain ⟨fs, hr, hrun, hended, hW, hsame⟩ := X.leave (v := none) (fun _ => rfl) hlk
  exact ⟨_, _, X.returnOut hx hrt hd hr, hrun, hended, _, _, rfl, hQ, ⟨_, rfl⟩, hW, hsame.mono hc hs⟩
theorem g_callS (X : Stand p l e R s m args below meth c T locs cells slots) (hx : p.tables.exec = Jvm.exec) (hZ : Z.Warmed39 s.vm) {own : String} {index : Nat} {y : MethodName} {bytes : ByteArray} {maxL : Nat} {ret : Option FieldType} (hown : s.vm.findClass own = some m.cls) (w1 : (Jvm.Cond.methodLink own index y).before a0 Z = true) (w2 : (Jvm.Cond.static y).before a0 Z = true) (w3 : (Jvm.Cond.initialized y.cls).before a0 Z = true) (w4 : (Jvm.Cond.code y bytes maxL ret).before a0 Z = true) (hy : y.cls ≠ "java/lang/invoke/MethodHandle" ∧ y.cls ≠ "java/lang/invoke/VarHandle")
    {rm : Room} {as' : Array Value} {Q : Option Value → Heap → List Loc → Prop} (C : Ctr l Z y bytes maxL ret rm [] as' h Q) {argsL rest : List Value} {ps : List FieldType} {rt : Option FieldType} (hpd : parseMethodDescriptor y.desc = some ⟨ps, rt⟩) (hlen : argsL.length = ps.length) (hst : S = argsL.reverse ++ rest) (has : argsL.toArray = as') (hd : decode c.code pc = .ok (.invokestatic index, 3)) (hq : pc + 3 = q) (hsz : L.size = c.maxLocals) (eT : T.heap = h)
    (hf : rm.frames + 1 ≤ R.frames) {W : Nat} (hW : (rest.map fun v => v.category).sum = W) (hl : W + (maxL + 11) + rm.locals ≤ R.locals) (hc : cells + rm.cells ≤ R.cells) (hs : slots + rm.slots ≤ R.slots)
    (k : ∀ v T' Lc, Stand p l e R s m args below meth c T' (locs ++ Lc) (cells + rm.cells) (slots + rm.slots) → Q v T'.heap Lc → Go p e below Φ (T'.setTop (mkF m q L (v.toList ++ rest)))) : Go p e below Φ (T.setTop (mkF m pc L S)) := by
  subst hq has
  obtain ⟨v, _, ⟨T', L', k', n'⟩, -, X', ⟨Lc, hQ, l1, y1, z1⟩, st⟩ := Jvm.LawKit.callS X hx (y := y) hown (mvT hZ w1) (mvT hZ w2) (mvT hZ w3) (mvT hZ w4) hy (backOf (W := W) C hZ w4 w3 hf hl) (g := mkF m pc L S) rfl hsz (argsL := argsL) (rest := rest) (lenOf hpd hlen) hst (by show 2 * 0 + _ ≤ _; omega) hd (fun _ _ => ⟨rfl, eT, hc, hs⟩)
  dsimp only [Pt.U, Pt.locs, Pt.cells, Pt.slots] at X' l1 y1 z1 st hQ
  subst l1 y1 z1
  exact Go.by st (k v T' Lc X' hQ)
theorem g_callSI (X : Stand p l e R s m args below meth c T locs cells slots) (hx : p.tables.exec = Jvm.exec) (hZ : Z.Warmed39 s.vm) {own : String} {index : Nat} {y : MethodName} {bytes : ByteArray} {maxL : Nat} {ret : Option FieldType} (hown : s.vm.findClass own = some m.cls) (w1 : (Jvm.Cond.methodLink own index y).before a0 Z = true) (w2 : (Jvm.Cond.static y).before a0 Z = true) (w3 : (Jvm.Cond.initialized y.cls).before a0 Z = true) (w4 : (Jvm.Cond.code y bytes maxL ret).before a0 Z = true) (hy : y.cls ≠ "java/lang/invoke/MethodHandle" ∧ y.cls ≠ "java/lang/invoke/VarHandle")
    {rm : Room} {as' : Array Value} {P : Int32 → Prop} (C : Ctr l Z y bytes maxL ret rm [] as' h (IQ P h)) {argsL rest : List Value} {ps : List FieldType} {rt : Option FieldType} (hpd : parseMethodDescriptor y.desc = some ⟨ps, rt⟩) (hlen : argsL.length = ps.length) (hst : S = argsL.reverse ++ rest) (has : argsL.toArray = as') (hd : decode c.code pc = .ok (.invokestatic index, 3)) (hq : pc + 3 = q) (hsz : L.size = c.maxLocals) (eT : T.heap = h)
    (hf : rm.frames + 1 ≤ R.frames) {W : Nat} (hW : (rest.map fun v => v.category).sum = W) (hl : W + (maxL + 11) + rm.locals ≤ R.locals) (hc : rm.cells = 0) (hs : rm.slots = 0) (hc' : cells ≤ R.cells) (hs' : slots ≤ R.slots)
    (k : ∀ T' r, Stand p l e R s m args below meth c T' locs cells slots → T'.heap = h → P r → Go p e below Φ (T'.setTop (mkF m q L (.int r :: rest)))) : Go p e below Φ (T.setTop (mkF m pc L S)) := by
  refine g_callS X hx hZ hown w1 w2 w3 w4 hy C hpd hlen hst has hd hq hsz eT hf hW hl (by omega) (by omega) ?_
  intro v T' Lc X' hQ
  obtain ⟨r, rfl, hP, e1, rfl⟩ := hQ
  rw [hc, hs, List.append_nil] at X'
  exact k T' r X' e1 hP
theorem g_callSJ (X : Stand p l e R s m args below meth c T locs cells slots) (hx : p.tables.exec = Jvm.exec) (hZ : Z.Warmed39 s.vm) {own : String} {index : Nat} {y : MethodName} {bytes : ByteArray} {maxL : Nat} {ret : Option FieldType} (hown : s.vm.findClass own = some m.cls) (w1 : (Jvm.Cond.methodLink own index y).before a0 Z = true) (w2 : (Jvm.Cond.static y).before a0 Z = true) (w3 : (Jvm.Cond.initialized y.cls).before a0 Z = true) (w4 : (Jvm.Cond.code y bytes maxL ret).before a0 Z = true) (hy : y.cls ≠ "java/lang/invoke/MethodHandle" ∧ y.cls ≠ "java/lang/invoke/VarHandle")
    {rm : Room} {as' : Array Value} {P : Int64 → Prop} (C : Ctr l Z y bytes maxL ret rm [] as' h (JQ P h)) {argsL rest : List Value} {ps : List FieldType} {rt : Option FieldType} (hpd : parseMethodDescriptor y.desc = some ⟨ps, rt⟩) (hlen : argsL.length = ps.length) (hst : S = argsL.reverse ++ rest) (has : argsL.toArray = as') (hd : decode c.code pc = .ok (.invokestatic index, 3)) (hq : pc + 3 = q) (hsz : L.size = c.maxLocals) (eT : T.heap = h)
    (hf : rm.frames + 1 ≤ R.frames) {W : Nat} (hW : (rest.map fun v => v.category).sum = W) (hl : W + (maxL + 11) + rm.locals ≤ R.locals) (hc : rm.cells = 0) (hs : rm.slots = 0) (hc' : cells ≤ R.cells) (hs' : slots ≤ R.slots)
    (k : ∀ T' r, Stand p l e R s m args below meth c T' locs cells slots → T'.heap = h → P r → Go p e below Φ (T'.setTop (mkF m q L (.long r :: rest)))) : Go p e below Φ (T.setTop (mkF m pc L S)) := by
  refine g_callS X hx hZ hown w1 w2 w3 w4 hy C hpd hlen hst has hd hq hsz eT hf hW hl (by omega) (by omega) ?_
  intro v T' Lc X' hQ
  obtain ⟨r, rfl, hP, e1, rfl⟩ := hQ
  rw [hc, hs, List.append_nil] at X'
  exact k T' r X' e1 hP
end OwnKit

/-! ### the own kit, heap part -/
def ArrL (Z : State) (h : Heap) (a : Addr) (ty : FieldType) (vals : List Value) : Prop := ∃ c : Cell, Arr Z h a c ty ∧ c.slots = vals.toArray ∧ vals.length < 2 ^ 31
abbrev IA (Z : State) (h : Heap) (a : Addr) (vs : List Int32) : Prop := ArrL Z h a .int (vs.map Value.int)
abbrev LA (Z : State) (h : Heap) (a : Addr) (vs : List Int64) : Prop := ArrL Z h a .long (vs.map Value.long)
abbrev ZA (Z : State) (h : Heap) (a : Addr) (vs : List Bool) : Prop := ArrL Z h a .boolean (vs.map fun b => Value.int (b2i b))
theorem own_clamp (j : Int32) : j.toNatClampNeg = j.toInt.toNat := rfl
theorem idxN {j : Int32} {i : Nat} (hj : j.toInt = (i : Int)) : ¬ j < 0 ∧ j.toNatClampNeg = i := by
  rw [own_clamp, Int32.lt_iff_toInt_lt, show (0 : Int32).toInt = 0 from rfl, hj]; omega
theorem idxIn {j : Int32} {i n : Nat} (hj : j.toInt = (i : Int)) (hi : i < n) : ¬ (j < 0 ∨ n ≤ j.toNatClampNeg) := by
  obtain ⟨h1, h2⟩ := idxN hj; exact fun h => h.elim h1 fun h => by rw [h2] at h; omega
section OwnHeap
variable {p : Program} {l : Launch} {e : Env} {R : Room} {s : State} {m : MethodId} {args : Array Value} {below : List Frame} {meth : Method} {c : Code} {T : State} {locs : List Loc} {cells slots : Nat} {Z : State} {a0 : Array Value} {h : Heap} {Φ : Outcome → State → Prop} {pc q : Nat} {L : Array Slot} {S : List Value}
variable {h' : Heap} {a b o : Addr} {ty : FieldType} {vals : List Value} {sl : Nat} {v w : Value} {ws : List Addr}
theorem ArrL.lt (F : ArrL Z h a ty vals) : a < h.size := by obtain ⟨c, A, -⟩ := F; exact A.lt
theorem ArrL.ext (F : ArrL Z h a ty vals) (E : Ext h h') : ArrL Z h' a ty vals := by obtain ⟨c, A, r⟩ := F; exact ⟨c, A.ext E, r⟩
theorem ArrL.other (F : ArrL Z h a ty vals) (W : Wr h h' b sl v) (q : a ≠ b) : ArrL Z h' a ty vals := by obtain ⟨c, A, r⟩ := F; exact ⟨c, A.other W q, r⟩
theorem ArrL.keep (F : ArrL Z h a ty vals) (K : Keep h h' ws) (q : a ∉ ws) : ArrL Z h' a ty vals := by obtain ⟨c, A, r⟩ := F; exact ⟨c, ⟨K.2.1 a c A.1 q, A.2⟩, r⟩
theorem ArrL.len (F : ArrL Z h a ty vals) : vals.length < 2 ^ 31 := by obtain ⟨c, A, -, r⟩ := F; exact r
theorem ArrL.set (F : ArrL Z h a ty vals) {i : Nat} (W : Wr h h' a i v) : ArrL Z h' a ty (vals.set i v) := by
  obtain ⟨c, A, e1, r⟩ := F
  refine ⟨_, A.same W, ?_, by rw [List.length_set]; exact r⟩
  show c.slots.setIfInBounds i v = _
  rw [e1]; simp
theorem ArrL.new {k : ClassId} {z : Int32} {n : Nat} (A : Arr Z h a (newA k ty z) ty) (hz : z.toInt = (n : Int)) : ArrL Z h a ty (List.replicate n (defaultValue ty)) := by
  refine ⟨_, A, ?_, ?_⟩
  · show Array.replicate z.toNatClampNeg (defaultValue ty) = _
    rw [(idxN hz).2]; simp
  · have := rng32 z; rw [List.length_replicate]; omega
theorem IA.eq {us vs : List Int32} (F : IA Z h a us) (q : us = vs) : IA Z h a vs := q ▸ F
theorem LA.eq {us vs : List Int64} (F : LA Z h a us) (q : us = vs) : LA Z h a vs := q ▸ F
theorem ZA.eq {us vs : List Bool} (F : ZA Z h a us) (q : us = vs) : ZA Z h a vs := q ▸ F
theorem ne_new (h1 : a < h.size) (q : o = h.size) : a ≠ o := by subst q; exact Nat.ne_of_lt h1
theorem ne_ge (h1 : a < h.size) (q : h.size ≤ o) : a ≠ o := Nat.ne_of_lt (Nat.lt_of_lt_of_le h1 q)
theorem ge_new {n0 : Nat} (h1 : n0 ≤ h.size) (q : o = h.size) : n0 ≤ o := by subst q; exact h1
theorem Fr.wr {n0 i : Nat} (N : Fr n0 locs) (q : n0 ≤ a) : Fr n0 (locs ++ [⟨a, i⟩]) := N.app fun y hy => by cases List.mem_singleton.mp hy; exact q
theorem g_iload_ (X : Stand p l e R s m args below meth c T locs cells slots) (hx : p.tables.exec = Jvm.exec) (hZ : Z.Warmed39 s.vm) (eT : T.heap = h) {vs : List Int32} (F : IA Z h a vs) {j : Int32} {i : Nat} {v : Int32} (hj : j.toInt = (i : Int)) (hv : vs[i]? = some v) (hd : decode c.code pc = .ok (.iaload, 1)) (hq : pc + 1 = q) (k : Go p e below Φ (T.setTop (mkF m q L (.int v :: S)))) : Go p e below Φ (T.setTop (mkF m pc L (.int j :: .ref a :: S))) := by
  subst hq
  obtain ⟨cl, A, e1, r⟩ := F
  have hi : i < vs.length := (List.getElem?_eq_some_iff.mp hv).1
  have hs : cl.slots.size = vs.length := by rw [e1]; simp
  refine Go.by (X.iaload hx (cell := cl) (j := j) (v := (.int v)) (by rw [eT]; exact A.1) (State.isArrayOf_alike hZ.alike A.2.1) A.2.2 (idxIn hj (by rw [hs]; exact hi)) (by rw [(idxN hj).2, e1]; simp [hv]) rfl rfl hd) k
theorem g_istore_ (X : Stand p l e R s m args below meth c T locs cells slots) (hx : p.tables.exec = Jvm.exec) (hZ : Z.Warmed39 s.vm) (eT : T.heap = h) {vs : List Int32} (F : IA Z h a vs) {j : Int32} {i : Nat} {v : Int32} (hj : j.toInt = (i : Int)) (hi : i < vs.length) (hd : decode c.code pc = .ok (.iastore, 1)) (hq : pc + 1 = q) (k : ∀ T' h', Stand p l e R s m args below meth c T' (locs ++ [⟨a, i⟩]) cells slots → T'.heap = h' → Wr h h' a i (.int v) → IA Z h' a (vs.set i v) → Go p e below Φ (T'.setTop (mkF m q L S))) : Go p e below Φ (T.setTop (mkF m pc L (.int v :: .int j :: .ref a :: S))) := by
  subst hq
  have F0 := F
  obtain ⟨cl, A, e1, r⟩ := F
  have hs : cl.slots.size = vs.length := by rw [e1]; simp
  obtain ⟨T', h', X', e', W, st⟩ := stI X hx hZ eT A (j := j) (x := v) (idxIn hj (by rw [hs]; exact hi)) (g := mkF m pc L ((.int v) :: .int j :: .ref a :: S)) rfl rfl hd
  rw [(idxN hj).2] at X' W
  refine Go.by st (k T' h' X' e' W ?_)
  have := F0.set W
  show ArrL Z h' a .int ((vs.set i v).map Value.int)
  rw [List.map_set]; exact this
theorem g_inew_ (X : Stand p l e R s m args below meth c T locs cells slots) (hx : p.tables.exec = Jvm.exec) (hZ : Z.Warmed39 s.vm) (w : (Jvm.Cond.arrayClass .int).before a0 Z = true) (eT : T.heap = h) {z : Int32} {n cap : Nat} (hz : z.toInt = (n : Int)) (hn : n ≤ cap) (hb : cap * 8 ≤ 536870912) (hd : decode c.code pc = .ok (.newarray .int, 2)) (hq : pc + 2 = q) (hc : cells + 1 ≤ R.cells) (hl : slots + cap ≤ R.slots) (k : ∀ T' h' o, Stand p l e R s m args below meth c T' locs (cells + 1) (slots + cap) → T'.heap = h' → Ext h h' → o = h.size → IA Z h' o (List.replicate n 0) → Go p e below Φ (T'.setTop (mkF m q L (.ref o :: S)))) : Go p e below Φ (T.setTop (mkF m pc L (.int z :: S))) := by
  subst hq
  obtain ⟨T', h', cA, X', e', E, A, st⟩ := newP X hx hZ (aty := .int) w eT (g := mkF m pc L (.int z :: S)) rfl hd rfl (idxN hz).1 (cap := cap) (by rw [(idxN hz).2]; exact hn) hb hc hl
  refine Go.by st (k T' h' h.size X' e' E rfl ?_)
  have := ArrL.new A hz
  show ArrL Z h' h.size .int _
  rw [List.map_replicate]; exact this
theorem g_lload_ (X : Stand p l e R s m args below meth c T locs cells slots) (hx : p.tables.exec = Jvm.exec) (hZ : Z.Warmed39 s.vm) (eT : T.heap = h) {vs : List Int64} (F : LA Z h a vs) {j : Int32} {i : Nat} {v : Int64} (hj : j.toInt = (i : Int)) (hv : vs[i]? = some v) (hd : decode c.code pc = .ok (.laload, 1)) (hq : pc + 1 = q) (k : Go p e below Φ (T.setTop (mkF m q L (.long v :: S)))) : Go p e below Φ (T.setTop (mkF m pc L (.int j :: .ref a :: S))) := by
  subst hq
  obtain ⟨cl, A, e1, r⟩ := F
  have hi : i < vs.length := (List.getElem?_eq_some_iff.mp hv).1
  have hs : cl.slots.size = vs.length := by rw [e1]; simp
  refine Go.by (X.laload hx (cell := cl) (j := j) (v := (.long v)) (by rw [eT]; exact A.1) (State.isArrayOf_alike hZ.alike A.2.1) A.2.2 (idxIn hj (by rw [hs]; exact hi)) (by rw [(idxN hj).2, e1]; simp [hv]) rfl rfl hd) k
theorem g_lstore_ (X : Stand p l e R s m args below meth c T locs cells slots) (hx : p.tables.exec = Jvm.exec) (hZ : Z.Warmed39 s.vm) (eT : T.heap = h) {vs : List Int64} (F : LA Z h a vs) {j : Int32} {i : Nat} {v : Int64} (hj : j.toInt = (i : Int)) (hi : i < vs.length) (hd : decode c.code pc = .ok (.lastore, 1)) (hq : pc + 1 = q) (k : ∀ T' h', Stand p l e R s m args below meth c T' (locs ++ [⟨a, i⟩]) cells slots → T'.heap = h' → Wr h h' a i (.long v) → LA Z h' a (vs.set i v) → Go p e below Φ (T'.setTop (mkF m q L S))) : Go p e below Φ (T.setTop (mkF m pc L (.long v :: .int j :: .ref a :: S))) := by
  subst hq
  have F0 := F
  obtain ⟨cl, A, e1, r⟩ := F
  have hs : cl.slots.size = vs.length := by rw [e1]; simp
  obtain ⟨T', h', X', e', W, st⟩ := stJ X hx hZ eT A (j := j) (x := v) (idxIn hj (by rw [hs]; exact hi)) (g := mkF m pc L ((.long v) :: .int j :: .ref a :: S)) rfl rfl hd
  rw [(idxN hj).2] at X' W
  refine Go.by st (k T' h' X' e' W ?_)
  have := F0.set W
  show ArrL Z h' a .long ((vs.set i v).map Value.long)
  rw [List.map_set]; exact this
theorem g_lnew_ (X : Stand p l e R s m args below meth c T locs cells slots) (hx : p.tables.exec = Jvm.exec) (hZ : Z.Warmed39 s.vm) (w : (Jvm.Cond.arrayClass .long).before a0 Z = true) (eT : T.heap = h) {z : Int32} {n cap : Nat} (hz : z.toInt = (n : Int)) (hn : n ≤ cap) (hb : cap * 8 ≤ 536870912) (hd : decode c.code pc = .ok (.newarray .long, 2)) (hq : pc + 2 = q) (hc : cells + 1 ≤ R.cells) (hl : slots + cap ≤ R.slots) (k : ∀ T' h' o, Stand p l e R s m args below meth c T' locs (cells + 1) (slots + cap) → T'.heap = h' → Ext h h' → o = h.size → LA Z h' o (List.replicate n 0) → Go p e below Φ (T'.setTop (mkF m q L (.ref o :: S)))) : Go p e below Φ (T.setTop (mkF m pc L (.int z :: S))) := by
  subst hq
  obtain ⟨T', h', cA, X', e', E, A, st⟩ := newP X hx hZ (aty := .long) w eT (g := mkF m pc L (.int z :: S)) rfl hd rfl (idxN hz).1 (cap := cap) (by rw [(idxN hz).2]; exact hn) hb hc hl
  refine Go.by st (k T' h' h.size X' e' E rfl ?_)
  have := ArrL.new A hz
  show ArrL Z h' h.size .long _
  rw [List.map_replicate]; exact this
theorem g_zload_ (X : Stand p l e R s m args below meth c T locs cells slots) (hx : p.tables.exec = Jvm.exec) (hZ : Z.Warmed39 s.vm) (eT : T.heap = h) {vs : List Bool} (F : ZA Z h a vs) {j : Int32} {i : Nat} {v : Bool} (hj : j.toInt = (i : Int)) (hv : vs[i]? = some v) (hd : decode c.code pc = .ok (.baload, 1)) (hq : pc + 1 = q) (k : Go p e below Φ (T.setTop (mkF m q L (.int (b2i v) :: S)))) : Go p e below Φ (T.setTop (mkF m pc L (.int j :: .ref a :: S))) := by
  subst hq
  obtain ⟨cl, A, e1, r⟩ := F
  have hi : i < vs.length := (List.getElem?_eq_some_iff.mp hv).1
  have hs : cl.slots.size = vs.length := by rw [e1]; simp
  refine Go.by (X.baloadBooleans hx (cell := cl) (j := j) (v := (.int (b2i v))) (by rw [eT]; exact A.1) (State.isArrayOf_alike hZ.alike A.2.1) A.2.2 (idxIn hj (by rw [hs]; exact hi)) (by rw [(idxN hj).2, e1]; simp [hv]) rfl rfl hd) k
theorem g_zstore_ (X : Stand p l e R s m args below meth c T locs cells slots) (hx : p.tables.exec = Jvm.exec) (hZ : Z.Warmed39 s.vm) (eT : T.heap = h) {vs : List Bool} (F : ZA Z h a vs) {j : Int32} {i : Nat} {v : Bool} (hj : j.toInt = (i : Int)) (hi : i < vs.length) (hd : decode c.code pc = .ok (.bastore, 1)) (hq : pc + 1 = q) (k : ∀ T' h', Stand p l e R s m args below meth c T' (locs ++ [⟨a, i⟩]) cells slots → T'.heap = h' → Wr h h' a i (.int (b2i v)) → ZA Z h' a (vs.set i v) → Go p e below Φ (T'.setTop (mkF m q L S))) : Go p e below Φ (T.setTop (mkF m pc L (.int (b2i v) :: .int j :: .ref a :: S))) := by
  subst hq
  have F0 := F
  obtain ⟨cl, A, e1, r⟩ := F
  have hs : cl.slots.size = vs.length := by rw [e1]; simp
  obtain ⟨T', h', X', e', W, st⟩ := stZ X hx hZ eT A (j := j) (x := b2i v) (idxIn hj (by rw [hs]; exact hi)) (g := mkF m pc L ((.int (b2i v)) :: .int j :: .ref a :: S)) rfl rfl hd
  have W : Wr h h' a j.toNatClampNeg (.int (b2i v)) := by have W' := W; rw [b2i_nar] at W'; exact W'
  rw [(idxN hj).2] at X' W
  refine Go.by st (k T' h' X' e' W ?_)
  have := F0.set W
  show ArrL Z h' a .boolean ((vs.set i v).map (fun b => Value.int (b2i b)))
  rw [List.map_set]; exact this
theorem g_znew_ (X : Stand p l e R s m args below meth c T locs cells slots) (hx : p.tables.exec = Jvm.exec) (hZ : Z.Warmed39 s.vm) (w : (Jvm.Cond.arrayClass .boolean).before a0 Z = true) (eT : T.heap = h) {z : Int32} {n cap : Nat} (hz : z.toInt = (n : Int)) (hn : n ≤ cap) (hb : cap * 8 ≤ 536870912) (hd : decode c.code pc = .ok (.newarray .boolean, 2)) (hq : pc + 2 = q) (hc : cells + 1 ≤ R.cells) (hl : slots + cap ≤ R.slots) (k : ∀ T' h' o, Stand p l e R s m args below meth c T' locs (cells + 1) (slots + cap) → T'.heap = h' → Ext h h' → o = h.size → ZA Z h' o (List.replicate n false) → Go p e below Φ (T'.setTop (mkF m q L (.ref o :: S)))) : Go p e below Φ (T.setTop (mkF m pc L (.int z :: S))) := by
  subst hq
  obtain ⟨T', h', cA, X', e', E, A, st⟩ := newP X hx hZ (aty := .boolean) w eT (g := mkF m pc L (.int z :: S)) rfl hd rfl (idxN hz).1 (cap := cap) (by rw [(idxN hz).2]; exact hn) hb hc hl
  refine Go.by st (k T' h' h.size X' e' E rfl ?_)
  have := ArrL.new A hz
  show ArrL Z h' h.size .boolean _
  rw [List.map_replicate]; exact this
theorem g_alen (X : Stand p l e R s m args below meth c T locs cells slots) (hx : p.tables.exec = Jvm.exec) (hZ : Z.Warmed39 s.vm) (eT : T.heap = h) (F : ArrL Z h a ty vals) {v : Int32} (hv : v.toInt = (vals.length : Int)) (hd : decode c.code pc = .ok (.arraylength, 1)) (hq : pc + 1 = q) (k : Go p e below Φ (T.setTop (mkF m q L (.int v :: S)))) : Go p e below Φ (T.setTop (mkF m pc L (.ref a :: S))) := by
  subst hq
  obtain ⟨cl, A, e1, r⟩ := F
  have hs : cl.slots.size = vals.length := by rw [e1]; simp
  have hz : cl.slots.size.toInt32 = v := Int32.toInt_inj.mp (by rw [hs, len_toInt r]; exact hv.symm)
  refine Go.by (X.arraylength hx (cell := cl) (by rw [eT]; exact A.1) (State.isArrayOf_alike hZ.alike A.2.1) rfl rfl hd) ?_
  rw [hz]; exact k
theorem g_getF (X : Stand p l e R s m args below meth c T locs cells slots) (hx : p.tables.exec = Jvm.exec) (hZ : Z.Warmed39 s.vm) {own R0 n d : String} {index : Nat} (hown : s.vm.findClass own = some m.cls) (w : (Jvm.Cond.fieldLink own index R0 n d).before a0 Z = true) (eT : T.heap = h) (F : Fld Z h a R0 n d v) (hd : decode c.code pc = .ok (.getfield index, 3)) (hq : pc + 3 = q) (k : ∀ T', Stand p l e R s m args below meth c T' locs cells slots → T'.heap = h → Go p e below Φ (T'.setTop (mkF m q L (v :: S)))) : Go p e below Φ (T.setTop (mkF m pc L (.ref a :: S))) := by
  subst hq
  obtain ⟨T', X', e', st⟩ := getF X hx hZ hown (host := "") (Or.inl w) Via.refl eT F (g := mkF m pc L (.ref a :: S)) rfl rfl hd
  exact Go.by st (k T' X' e')
theorem g_putF (X : Stand p l e R s m args below meth c T locs cells slots) (hx : p.tables.exec = Jvm.exec) (hZ : Z.Warmed39 s.vm) {own R0 n d C : String} {index kk : Nat} {ty : FieldType} (hown : s.vm.findClass own = some m.cls) (wl : (Jvm.Cond.fieldLink own index R0 n d).before a0 Z = true) (eT : T.heap = h) (F : Fld Z h a R0 n d w) (E : Exa Z h a C) (Ly : (Jvm.Cond.lays C R0 n d).before a0 Z = true ∨ ((Jvm.Cond.laysFinal C R0 n d).before a0 Z = true ∧ own = R0 ∧ meth.name = "<init>")) (wi : (Jvm.Cond.instantiable C kk).before a0 Z = true) (hty : parseFieldDescriptor d = some ty) (hn : narrow ty v = v) (hf : fits ty v = true) (hd : decode c.code pc = .ok (.putfield index, 3)) (hq : pc + 3 = q) (k : ∀ T' h', Stand p l e R s m args below meth c T' (locs ++ [⟨a, Jvm.RoadKit.slotOf Z R0 n d⟩]) cells slots → T'.heap = h' → Wr h h' a (Jvm.RoadKit.slotOf Z R0 n d) v → Fld Z h' a R0 n d v → Go p e below Φ (T'.setTop (mkF m q L S))) : Go p e below Φ (T.setTop (mkF m pc L (v :: .ref a :: S))) := by
  subst hq
  obtain ⟨T', h', X', e', W, st⟩ := putF X hx hZ hown (host := "") (Or.inl wl) Via.refl eT F E Ly wi hty hn hf (g := mkF m pc L (v :: .ref a :: S)) rfl rfl hd
  exact Go.by st (k T' h' X' e' W (F.same W))
theorem g_newO (X : Stand p l e R s m args below meth c T locs cells slots) (hx : p.tables.exec = Jvm.exec) (hZ : Z.Warmed39 s.vm) {own C : String} {index n : Nat} (hown : s.vm.findClass own = some m.cls) (w : (Jvm.Cond.classLink own index C).before a0 Z = true) (wi : (Jvm.Cond.instantiable C n).before a0 Z = true) (wz : (Jvm.Cond.initialized C).before a0 Z = true) (eT : T.heap = h) (hd : decode c.code pc = .ok (.new index, 3)) (hq : pc + 3 = q) (hc : cells + 1 ≤ R.cells) (hl : slots + n ≤ R.slots) (k : ∀ T' h' o, Stand p l e R s m args below meth c T' locs (cells + 1) (slots + n) → T'.heap = h' → Ext h h' → o = h.size → Exa Z h' o C → (∀ {O nm d : String} {ty : FieldType}, Laid Z a0 C O nm d → parseFieldDescriptor d = some ty → Fld Z h' o O nm d (defaultValue ty)) → Go p e below Φ (T'.setTop (mkF m q L (.ref o :: S)))) : Go p e below Φ (T.setTop (mkF m pc L S)) := by
  subst hq
  obtain ⟨T', h', X', e', E, A, D, -, st⟩ := newO X hx hZ hown w wi wz eT (g := mkF m pc L S) rfl hd hc hl
  exact Go.by st (k T' h' h.size X' e' E rfl A D)
theorem g_initO (X : Stand p l e R s m args below meth c T locs cells slots) (hx : p.tables.exec = Jvm.exec) (hZ : Z.Warmed39 s.vm) {own : String} {index : Nat} (hown : s.vm.findClass own = some m.cls) (w1 : (Jvm.Cond.methodLink own index Lib.objectInit).before a0 Z = true) (w2 : (Jvm.Cond.instanceMethod Lib.objectInit).before a0 Z = true) (w3 : (Jvm.Cond.code Lib.objectInit ⟨#[0xb1]⟩ 1 none).before a0 Z = true) (eT : T.heap = h) (hsz : L.size = c.maxLocals) (hd : decode c.code pc = .ok (.invokespecial index, 3)) (hq : pc + 3 = q) (hf : 1 ≤ R.frames) {W : Nat} (hW : (S.map fun v => v.category).sum = W) (hl : W + 12 ≤ R.locals) (k : ∀ T', Stand p l e R s m args below meth c T' locs cells slots → T'.heap = h → Go p e below Φ (T'.setTop (mkF m q L S))) : Go p e below Φ (T.setTop (mkF m pc L (.ref a :: S))) := by
  subst hq
  obtain ⟨T', X', e', st⟩ := initO X hx hZ hown w1 w2 w3 eT (g := mkF m pc L (.ref a :: S)) rfl hsz rfl hd hf (W := W) (by show 2 * 0 + _ ≤ _; omega) hl
  exact Go.by st (k T' X' e')
theorem g_special (X : Stand p l e R s m args below meth c T locs cells slots) (hx : p.tables.exec = Jvm.exec) (hZ : Z.Warmed39 s.vm) {own : String} {index : Nat} {y : MethodName} {bytes : ByteArray} {maxL : Nat} (hy1 : y.name = "<init>") (hown : s.vm.findClass own = some m.cls) (w1 : (Jvm.Cond.methodLink own index y).before a0 Z = true) (w2 : (Jvm.Cond.instanceMethod y).before a0 Z = true) (w3 : (Jvm.Cond.initialized y.cls).before a0 Z = true) (w4 : (Jvm.Cond.code y bytes maxL none).before a0 Z = true) (hy : y.cls ≠ "java/lang/invoke/MethodHandle" ∧ y.cls ≠ "java/lang/invoke/VarHandle")
    {rm : Room} {as' : Array Value} {Q : Option Value → Heap → List Loc → Prop} (C : Ctr l Z y bytes maxL none rm [] as' h Q) {argsL rest : List Value} {ps : List FieldType} {rt : Option FieldType} (hpd : parseMethodDescriptor y.desc = some ⟨ps, rt⟩) (hlen : argsL.length = ps.length) (hst : S = argsL.reverse ++ .ref a :: rest) (has : (.ref a :: argsL).toArray = as') (hd : decode c.code pc = .ok (.invokespecial index, 3)) (hq : pc + 3 = q) (hsz : L.size = c.maxLocals) (eT : T.heap = h)
    (hf : rm.frames + 1 ≤ R.frames) {W : Nat} (hW : (rest.map fun v => v.category).sum = W) (hl : W + (maxL + 11) + rm.locals ≤ R.locals) (hc : cells + rm.cells ≤ R.cells) (hs : slots + rm.slots ≤ R.slots)
    (k : ∀ v T' Lc, Stand p l e R s m args below meth c T' (locs ++ Lc) (cells + rm.cells) (slots + rm.slots) → Q v T'.heap Lc → Go p e below Φ (T'.setTop (mkF m q L (v.toList ++ rest)))) : Go p e below Φ (T.setTop (mkF m pc L S)) := by
  subst hq has
  obtain ⟨v, _, ⟨T', L', k', n'⟩, -, X', ⟨Lc, hQ, l1, y1, z1⟩, st⟩ := X.specialBack hx (y := y) hy1 hown (mvT hZ w1) (mvT hZ w2) (mvT hZ w4) hy (backOf (W := W) C hZ w4 w3 hf hl) (g := mkF m pc L S) rfl hsz (Steps.refl _) (a := a) (argsL := argsL) (rest := rest) (lenOf hpd hlen) hst (by show 2 * 0 + _ ≤ _; omega) hd (fun _ _ => ⟨rfl, eT, hc, hs⟩)
  dsimp only [Pt.U, Pt.locs, Pt.cells, Pt.slots] at X' l1 y1 z1 st hQ
  subst l1 y1 z1
  exact Go.by (fun _ r => st.trans r) (k v T' Lc X' hQ)
theorem g_virtual (X : Stand p l e R s m args below meth c T locs cells slots) (hx : p.tables.exec = Jvm.exec) (hZ : Z.Warmed39 s.vm) {own C0 : String} {index : Nat} {y : MethodName} {bytes : ByteArray} {maxL : Nat} {ret : Option FieldType} (hown : s.vm.findClass own = some m.cls) (w1 : (Jvm.Cond.methodLink own index y).before a0 Z = true) (w2 : (Jvm.Cond.declares y).before a0 Z = true) (w3 : (Jvm.Cond.selects C0 y y).before a0 Z = true) (w4 : (Jvm.Cond.instanceMethod y).before a0 Z = true) (w5 : (Jvm.Cond.initialized y.cls).before a0 Z = true) (w6 : (Jvm.Cond.code y bytes maxL ret).before a0 Z = true) (hy : y.cls ≠ "java/lang/invoke/MethodHandle" ∧ y.cls ≠ "java/lang/invoke/VarHandle")
    {rm : Room} {as' : Array Value} {Q : Option Value → Heap → List Loc → Prop} (C : Ctr l Z y bytes maxL ret rm [] as' h Q) (Ex : Exa Z h a C0) {argsL rest : List Value} {ps : List FieldType} {rt : Option FieldType} (hpd : parseMethodDescriptor y.desc = some ⟨ps, rt⟩) (hlen : argsL.length = ps.length) (hst : S = argsL.reverse ++ .ref a :: rest) (has : (.ref a :: argsL).toArray = as') (hd : decode c.code pc = .ok (.invokevirtual index, 3)) (hq : pc + 3 = q) (hsz : L.size = c.maxLocals) (eT : T.heap = h)
    (hf : rm.frames + 1 ≤ R.frames) {W : Nat} (hW : (rest.map fun v => v.category).sum = W) (hl : W + (maxL + 11) + rm.locals ≤ R.locals) (hc : cells + rm.cells ≤ R.cells) (hs : slots + rm.slots ≤ R.slots)
    (k : ∀ v T' Lc, Stand p l e R s m args below meth c T' (locs ++ Lc) (cells + rm.cells) (slots + rm.slots) → Q v T'.heap Lc → Go p e below Φ (T'.setTop (mkF m q L (v.toList ++ rest)))) : Go p e below Φ (T.setTop (mkF m pc L S)) := by
  subst hq has
  obtain ⟨cq, kq, qa, qb, qc⟩ := isOf hZ eT Ex
  obtain ⟨v, _, ⟨T', L', k', n'⟩, -, X', ⟨Lc, hQ, l1, y1, z1⟩, st⟩ := X.virtualBack hx (y := y) (z := y) hown (mvT hZ w1) (mvT hZ w2) (notFace_of_selects (args := #[]) (mvT hZ w3)) (mvT hZ w3) (mvT hZ w4) hy (backOf (W := W) C hZ w6 w5 hf hl) qa qc (g := mkF m pc L S) rfl hsz (Steps.refl _) (argsL := argsL) (rest := rest) (lenOf hpd hlen) hst (by show 2 * 0 + _ ≤ _; omega) hd (fun _ _ => ⟨rfl, eT, hc, hs⟩)
  dsimp only [Pt.U, Pt.locs, Pt.cells, Pt.slots] at X' l1 y1 z1 st hQ
  subst l1 y1 z1
  exact Go.by (fun _ r => st.trans r) (k v T' Lc X' hQ)
theorem g_private (X : Stand p l e R s m args below meth c T locs cells slots) (hx : p.tables.exec = Jvm.exec) (hZ : Z.Warmed39 s.vm) {own : String} {index kI : Nat} {y : MethodName} {bytes : ByteArray} {maxL : Nat} {ret : Option FieldType} (hown : s.vm.findClass own = some m.cls) (w1 : (Jvm.Cond.methodLink own index y).before a0 Z = true) (w2 : (Jvm.Cond.instanceMethod y).before a0 Z = true) (w3 : (Jvm.Cond.privateMethod y).before a0 Z = true) (w4 : (Jvm.Cond.instantiable y.cls kI).before a0 Z = true) (w5 : (Jvm.Cond.initialized y.cls).before a0 Z = true) (w6 : (Jvm.Cond.code y bytes maxL ret).before a0 Z = true) (hy : y.cls ≠ "java/lang/invoke/MethodHandle" ∧ y.cls ≠ "java/lang/invoke/VarHandle")
    {rm : Room} {as' : Array Value} {Q : Option Value → Heap → List Loc → Prop} (C : Ctr l Z y bytes maxL ret rm [] as' h Q) (Ex : Exa Z h a y.cls) {argsL rest : List Value} {ps : List FieldType} {rt : Option FieldType} (hpd : parseMethodDescriptor y.desc = some ⟨ps, rt⟩) (hlen : argsL.length = ps.length) (hst : S = argsL.reverse ++ .ref a :: rest) (has : (.ref a :: argsL).toArray = as') (hd : decode c.code pc = .ok (.invokevirtual index, 3)) (hq : pc + 3 = q) (hsz : L.size = c.maxLocals) (eT : T.heap = h)
    (hf : rm.frames + 1 ≤ R.frames) {W : Nat} (hW : (rest.map fun v => v.category).sum = W) (hl : W + (maxL + 11) + rm.locals ≤ R.locals) (hc : cells + rm.cells ≤ R.cells) (hs : slots + rm.slots ≤ R.slots)
    (k : ∀ v T' Lc, Stand p l e R s m args below meth c T' (locs ++ Lc) (cells + rm.cells) (slots + rm.slots) → Q v T'.heap Lc → Go p e below Φ (T'.setTop (mkF m q L (v.toList ++ rest)))) : Go p e below Φ (T.setTop (mkF m pc L S)) := by
  subst hq has
  obtain ⟨cq, q1, q2⟩ := Ex.cell
  have hp : s.PrivateAt y := Cond.privateMethod_at (mvP hZ w3 (args := args))
  obtain ⟨c1, k1, i1, i2, i3, i4, -⟩ := Cond.instantiable_spec (mvT (args := args) hZ w4)
  have hsel : (Jvm.Cond.selects y.cls y y).before args s = true := selects_self_of_private i1 i2 (Bool.or_eq_false_iff.mp i4).1 hp (mvT hZ w2) hy
  obtain ⟨v, _, ⟨T', L', k', n'⟩, -, X', ⟨Lc, hQ, l1, y1, z1⟩, st⟩ := X.privateBack hx (y := y) hown (mvT hZ w1) (mvT hZ w2) hsel hp (mvT hZ w6) hy (backOf (W := W) C hZ w6 w5 hf hl) (g := mkF m pc L S) rfl hsz (Steps.refl _) (a := a) (cell := cq) (by rw [eT]; exact q1) q2 (argsL := argsL) (rest := rest) (lenOf hpd hlen) hst (by show 2 * 0 + _ ≤ _; omega) hd (fun _ _ => ⟨rfl, eT, hc, hs⟩)
  dsimp only [Pt.U, Pt.locs, Pt.cells, Pt.slots] at X' l1 y1 z1 st hQ
  subst l1 y1 z1
  exact Go.by (fun _ r => st.trans r) (k v T' Lc X' hQ)
theorem g_ifnull_no (X : Stand p l e R s m args below meth c T locs cells slots) (hx : p.tables.exec = Jvm.exec) {o : Int} {y : Addr} (hd : decode c.code pc = .ok (.ifnull o, 3)) (hq : pc + 3 = q) (k : Go p e below Φ (T.setTop (mkF m q L S))) : Go p e below Φ (T.setTop (mkF m pc L (.ref y :: S))) := by
  subst hq; exact Go.by (fun _ => XS.ifnullNo X.here hx rfl hd rfl) k
theorem g_ifnonnull_yes (X : Stand p l e R s m args below meth c T locs cells slots) (hx : p.tables.exec = Jvm.exec) {o : Int} {y : Addr} (hd : decode c.code pc = .ok (.ifnonnull o, 3)) (ho : 0 ≤ (pc : Int) + o) (hq : ((pc : Int) + o).toNat = q) (k : Go p e below Φ (T.setTop (mkF m q L S))) : Go p e below Φ (T.setTop (mkF m pc L (.ref y :: S))) := Go.by (fun _ => XS.ifnonnullYes X.here hx rfl rfl hd rfl ho hq) k
theorem g_virtualP (X : Stand p l e R s m args below meth c T locs cells slots) (hx : p.tables.exec = Jvm.exec) (hZ : Z.Warmed39 s.vm) {own C0 : String} {index : Nat} {y : MethodName} {bytes : ByteArray} {maxL : Nat} {ret : Option FieldType} (hown : s.vm.findClass own = some m.cls) (w1 : (Jvm.Cond.methodLink own index y).before a0 Z = true) (w2 : (Jvm.Cond.declares y).before a0 Z = true) (w3 : (Jvm.Cond.selects C0 y y).before a0 Z = true) (w4 : (Jvm.Cond.instanceMethod y).before a0 Z = true) (w5 : (Jvm.Cond.initialized y.cls).before a0 Z = true) (w6 : (Jvm.Cond.code y bytes maxL ret).before a0 Z = true) (hy : y.cls ≠ "java/lang/invoke/MethodHandle" ∧ y.cls ≠ "java/lang/invoke/VarHandle")
    {rm : Room} {as' : Array Value} {r : Value} (C : Ctr l Z y bytes maxL ret rm [] as' h (PQ r h)) (Ex : Exa Z h a C0) {argsL rest : List Value} {ps : List FieldType} {rt : Option FieldType} (hpd : parseMethodDescriptor y.desc = some ⟨ps, rt⟩) (hlen : argsL.length = ps.length) (hst : S = argsL.reverse ++ .ref a :: rest) (has : (.ref a :: argsL).toArray = as') (hd : decode c.code pc = .ok (.invokevirtual index, 3)) (hq : pc + 3 = q) (hsz : L.size = c.maxLocals) (eT : T.heap = h)
    (hf : rm.frames + 1 ≤ R.frames) {W : Nat} (hW : (rest.map fun v => v.category).sum = W) (hl : W + (maxL + 11) + rm.locals ≤ R.locals) (hc : rm.cells = 0) (hs : rm.slots = 0) (hc' : cells ≤ R.cells) (hs' : slots ≤ R.slots)
    (k : ∀ T', Stand p l e R s m args below meth c T' locs cells slots → T'.heap = h → Go p e below Φ (T'.setTop (mkF m q L (r :: rest)))) : Go p e below Φ (T.setTop (mkF m pc L S)) := by
  refine g_virtual X hx hZ hown w1 w2 w3 w4 w5 w6 hy C Ex hpd hlen hst has hd hq hsz eT hf hW hl (by omega) (by omega) ?_
  intro v T' Lc X' hQ
  obtain ⟨rfl, e1, rfl⟩ := hQ
  rw [hc, hs, List.append_nil] at X'
  exact k T' X' e1
theorem g_privateP (X : Stand p l e R s m args below meth c T locs cells slots) (hx : p.tables.exec = Jvm.exec) (hZ : Z.Warmed39 s.vm) {own : String} {index kI : Nat} {y : MethodName} {bytes : ByteArray} {maxL : Nat} {ret : Option FieldType} (hown : s.vm.findClass own = some m.cls) (w1 : (Jvm.Cond.methodLink own index y).before a0 Z = true) (w2 : (Jvm.Cond.instanceMethod y).before a0 Z = true) (w3 : (Jvm.Cond.privateMethod y).before a0 Z = true) (w4 : (Jvm.Cond.instantiable y.cls kI).before a0 Z = true) (w5 : (Jvm.Cond.initialized y.cls).before a0 Z = true) (w6 : (Jvm.Cond.code y bytes maxL ret).before a0 Z = true) (hy : y.cls ≠ "java/lang/invoke/MethodHandle" ∧ y.cls ≠ "java/lang/invoke/VarHandle")
    {rm : Room} {as' : Array Value} {r : Value} (C : Ctr l Z y bytes maxL ret rm [] as' h (PQ r h)) (Ex : Exa Z h a y.cls) {argsL rest : List Value} {ps : List FieldType} {rt : Option FieldType} (hpd : parseMethodDescriptor y.desc = some ⟨ps, rt⟩) (hlen : argsL.length = ps.length) (hst : S = argsL.reverse ++ .ref a :: rest) (has : (.ref a :: argsL).toArray = as') (hd : decode c.code pc = .ok (.invokevirtual index, 3)) (hq : pc + 3 = q) (hsz : L.size = c.maxLocals) (eT : T.heap = h)
    (hf : rm.frames + 1 ≤ R.frames) {W : Nat} (hW : (rest.map fun v => v.category).sum = W) (hl : W + (maxL + 11) + rm.locals ≤ R.locals) (hc : rm.cells = 0) (hs : rm.slots = 0) (hc' : cells ≤ R.cells) (hs' : slots ≤ R.slots)
    (k : ∀ T', Stand p l e R s m args below meth c T' locs cells slots → T'.heap = h → Go p e below Φ (T'.setTop (mkF m q L (r :: rest)))) : Go p e below Φ (T.setTop (mkF m pc L S)) := by
  refine g_private X hx hZ hown w1 w2 w3 w4 w5 w6 hy C Ex hpd hlen hst has hd hq hsz eT hf hW hl (by omega) (by omega) ?_
  intro v T' Lc X' hQ
  obtain ⟨rfl, e1, rfl⟩ := hQ
  rw [hc, hs, List.append_nil] at X'
  exact k T' X' e1
end OwnHeap
abbrev kQ : String := "com/example/hedged_dispatch/hedgeddispatch/stn/NodeQueue"
abbrev kA : String := "com/example/hedged_dispatch/hedgeddispatch/stn/Adjacency"
abbrev kV : String := "com/example/hedged_dispatch/hedgeddispatch/stn/VeePaths"
abbrev u0 : Slot := .unset
abbrev s2 : Slot := .second
abbrev vI (x : Int32) : Slot := .val (.int x)
abbrev vJ (x : Int64) : Slot := .val (.long x)
abbrev vR (x : Addr) : Slot := .val (.ref x)
theorem zW {n0 : Nat} {h h' : Heap} {a : Addr} {i : Nat} {v : Value} (z : n0 ≤ h.size) (W : Wr h h' a i v) : n0 ≤ h'.size := Nat.le_trans z (Nat.le_of_eq W.size.symm)
theorem zE {n0 : Nat} {h h' : Heap} (z : n0 ≤ h.size) (E : Ext h h') : n0 ≤ h'.size := Nat.le_trans z E.1
theorem zK {n0 : Nat} {h h' : Heap} {ws : List Addr} (z : n0 ≤ h.size) (K : Keep h h' ws) : n0 ≤ h'.size := Nat.le_trans z K.1
theorem hW {Z : State} {a0 : Array Value} (hw : ∀ d ∈ tables_1, d.before a0 Z = true) (i : Nat) {d : Jvm.Cond} (h : tables_1[i]? = some d) : d.before a0 Z = true := hw d (List.mem_of_getElem? h)

section OwnCopy
variable {p : Program} {l : Launch} {e : Env} {R : Room} {s : State} {m : MethodId} {args : Array Value} {below : List Frame} {meth : Method} {c : Code} {T : State} {locs : List Loc} {cells slots : Nat} {Z : State} {a0 : Array Value} {h : Heap} {Φ : Outcome → State → Prop} {pc q : Nat} {L : Array Slot} {S : List Value}
theorem own_arv {a : Addr} {vs : List Int32} (F : IA Z h a vs) : ∃ (k : ClassId) (z : Int32), z.toInt = (vs.length : Int) ∧ Arv Z h a k .int z (vs.map Value.int) (.int 0) := by
  obtain ⟨cl, A, e1, r⟩ := F
  rw [List.length_map] at r
  have hz : (Int32.ofNat vs.length).toInt = (vs.length : Int) := Int32.toInt_ofNat_of_lt r
  have hs : cl.slots.size = vs.length := by rw [e1]; simp
  refine ⟨cl.cls, Int32.ofNat vs.length, hz, cl, A, rfl, ?_, (idxN hz).1, ?_, ?_⟩
  · rw [hs, (idxN hz).2]
  · intro i hi
    rw [hs] at hi
    rw [e1]
    simp [List.getElem?_eq_getElem, hi, List.getD]
  · intro i hi
    rw [hs] at hi
    simp [List.getElem?_eq_getElem, hi, List.getD, fits]
theorem own_vra {a : Addr} {k : ClassId} {z : Int32} {us : List Int32} {d : Value} (F : Arv Z h a k .int z (us.map Value.int) d) (hz : z.toInt = (us.length : Int)) (hl : us.length < 2 ^ 31) : IA Z h a us := by
  obtain ⟨cl, A, -, hs, -, H, -⟩ := F
  rw [(idxN hz).2] at hs
  refine ⟨cl, A, ?_, by rw [List.length_map]; exact hl⟩
  apply Array.ext_getElem?
  intro i
  by_cases hi : i < cl.slots.size
  · have h1 := H i hi
    rw [h1]
    rw [hs] at hi
    simp [List.getElem?_eq_getElem, hi, List.getD]
  · rw [Array.getElem?_eq_none (by omega), Array.getElem?_eq_none (by simp; omega)]
theorem g_cpI (X : Stand p l e R s m args below meth c T locs cells slots) (hx : p.tables.exec = Jvm.exec) (hZ : Z.Warmed39 s.vm) {own : String} {index : Nat} (hown : s.vm.findClass own = some m.cls)
    (w1 : (Cond.methodLink own index Jvm.Stand.acN).before a0 Z = true) (w2 : (Cond.native Jvm.Stand.acN).before a0 Z = true) (w3 : (Cond.static Jvm.Stand.acN).before a0 Z = true) (w4 : (Cond.initialized "java/lang/System").before a0 Z = true) (eT : T.heap = h)
    {a b : Addr} {vs us : List Int32} (A : IA Z h a vs) (B : IA Z h b us) {nn : Int32} {k : Nat} (hn : nn.toInt = (k : Int)) (h1 : k ≤ vs.length) (h2 : k ≤ us.length) {n0 : Nat} (N : Fr n0 locs) (ge : n0 ≤ b)
    (hd : decode c.code pc = .ok (.invokestatic index, 3)) (hq : pc + 3 = q) (hsize : L.size = c.maxLocals) (hf : 1 ≤ R.frames) {W : Nat} (hW : (S.map fun v => v.category).sum ≤ W) (hlo : W + (nativeFrameWords "java/lang/System" "arraycopy" 5 + 11) ≤ R.locals)
    (kk : ∀ T' h' L', Stand p l e R s m args below meth c T' L' cells slots → T'.heap = h' → Fr n0 L' → Keep h h' [b] → IA Z h' b (vs.take k ++ us.drop k) → Go p e below Φ (T'.setTop (mkF m q L S))) : Go p e below Φ (T.setTop (mkF m pc L (.int nn :: .int 0 :: .ref b :: .int 0 :: .ref a :: S))) := by
  subst hq
  obtain ⟨ka, za, ea, A'⟩ := own_arv A
  obtain ⟨kb, zb, eb, B'⟩ := own_arv B
  have hlb : us.length < 2 ^ 31 := by have := B.len; rwa [List.length_map] at this
  have z0 : (0 : Int32).toNatClampNeg = 0 := rfl
  have hk := (idxN hn).2
  obtain ⟨T', h', L', X', e', N', K', F', st⟩ := cpA X hx hZ hown w1 w2 w3 w4 eT A' B' (sp := 0) (dp := 0) (nn := nn) (Or.inl ⟨rfl, rfl⟩) (by decide) (by decide) (idxN hn).1
    (by rw [z0, hk, (idxN ea).2]; omega) (by rw [z0, hk, (idxN eb).2]; omega) rfl (by rw [z0, hk, List.length_map]; omega) N ge (g := mkF m pc L (.int nn :: .int 0 :: .ref b :: .int 0 :: .ref a :: S)) rfl hsize rfl hd hf (W := W) (by simpa [mkF, JFrame.monitorRoom] using hW) hlo
  refine Go.by st (kk T' h' L' X' e' N' K' (own_vra (k := kb) (z := zb) (d := .int 0) ?_ ?_ ?_))
  · rw [z0, hk] at F'
    have e : (List.range k).map (fun i => (vs.map Value.int).getD (0 + i) (.int 0)) = (vs.take k).map Value.int := by
      apply List.ext_getElem?
      intro i
      by_cases hi : i < k
      · simp [hi, List.getD, List.getElem?_take, List.getElem?_eq_getElem (show i < vs.length by omega)]
      · simp [List.getElem?_take, hi]
    rw [e] at F'
    rw [List.map_append, List.map_drop]
    simpa using F'
  · rw [eb]; simp; omega
  · simp; omega
end OwnCopy


theorem own_dupX2 {tb : Tables} [Ours tb] {e : Env} {below : List Frame} {T target : State} {m : MethodId} {c : Code} {g : JFrame} (h : At T m c below) (hx : tb.exec = Jvm.exec) (hg : g.method = m) {x y z : Value} {rest : List Value} (hd : decode c.code g.pc = .ok (.dup_x2, 1)) (hs : g.stack = x :: y :: z :: rest) (hc : x.category = 1) (hc' : y.category = 1) (hc'' : z.category = 1)
    (hr : Steps tb e below (T.setTop { g with pc := g.pc + 1, stack := x :: y :: z :: x :: rest }) target) : Steps tb e below (T.setTop g) target := by
  subst hg
  jvm_step h [h.top, hx, hd, hs, hc, hc', hc'']
  exact hr
section OwnDup
variable {p : Program} {l : Launch} {e : Env} {R : Room} {s : State} {m : MethodId} {args : Array Value} {below : List Frame} {meth : Method} {c : Code} {T : State} {locs : List Loc} {cells slots : Nat} {Z : State} {a0 : Array Value} {h : Heap} {Φ : Outcome → State → Prop} {pc q : Nat} {L : Array Slot} {S : List Value}
theorem g_dupX2 (X : Stand p l e R s m args below meth c T locs cells slots) (hx : p.tables.exec = Jvm.exec) {x y z : Value} (hd : decode c.code pc = .ok (.dup_x2, 1)) (h1 : x.category = 1) (h2 : y.category = 1) (h3 : z.category = 1) (hq : pc + 1 = q) (k : Go p e below Φ (T.setTop (mkF m q L (x :: y :: z :: x :: S)))) : Go p e below Φ (T.setTop (mkF m pc L (x :: y :: z :: S))) := by
  subst hq; exact Go.by (fun _ => own_dupX2 X.here hx rfl hd rfl h1 h2 h3) k
end OwnDup
def tI (r : Fin 3) (a b c : Int32) : Int32 := match r.val with | 0 => a | 1 => b | _ => c
def tJ (r : Fin 3) (a b c : Int64) : Int64 := match r.val with | 0 => a | 1 => b | _ => c
def tN (r : Fin 3) (a b c : Nat) : Nat := match r.val with | 0 => a | 1 => b | _ => c
def tZ (r : Fin 3) (a b c : Bool) : Bool := match r.val with | 0 => a | 1 => b | _ => c
theorem tri3 {P : Fin 3 → Prop} (r : Fin 3) (h0 : P 0) (h1 : P 1) (h2 : P 2) : P r := match r with | ⟨0, _⟩ => h0 | ⟨1, _⟩ => h1 | ⟨2, _⟩ => h2
theorem trd3 {P : Fin 3 → Prop} (r : Fin 3) (h : P 0 ∧ P 1 ∧ P 2) : P r := tri3 r h.1 h.2.1 h.2.2
def QK (ky : List Int64) (a : Int32) : Int := (ky.getD a.toInt.toNat 0).toInt
abbrev Bef (ky : List Int64) (u a : Int32) : Prop := QK ky u < QK ky a ∨ (QK ky u = QK ky a ∧ u.toInt < a.toInt)
def fk (dd : Int64) (n : Nat) : Int64 := if n = 0 then 0 else if n = 1 then dd else 9223372036854775807
abbrev DD (dd : Int64) : Prop := 0 < dd.toInt ∧ dd.toInt < 9223372036854775807
theorem own_fk {dd : Int64} (h : DD dd) {a b : Nat} (ha : a ≤ 2) (hb : b ≤ 2) : ((fk dd a).toInt < (fk dd b).toInt ↔ a < b) ∧ ((fk dd a).toInt = (fk dd b).toInt ↔ a = b) := by
  have e : (9223372036854775807 : Int64).toInt = 9223372036854775807 := by decide
  have z : (0 : Int64).toInt = 0 := rfl
  have a3 : a = 0 ∨ a = 1 ∨ a = 2 := by omega
  have b3 : b = 0 ∨ b = 1 ∨ b = 2 := by omega
  rcases a3 with rfl | rfl | rfl <;> rcases b3 with rfl | rfl | rfl <;> simp [fk, e, z] <;> omega
def ltA (cs : List Nat) (u v : Nat) : Bool := decide (cs.getD u 0 < cs.getD v 0) || (decide (cs.getD u 0 = cs.getD v 0) && decide (u < v))
def putA (cs A : List Nat) (s : Nat) : List Nat :=
  match A with
  | [] => [s]
  | [a] => if s = a then [s] else if ltA cs s a then [s, a] else [a, s]
  | [a, b] => if s = a then [s, b] else if s = b then (if ltA cs s a then [s, a] else [a, s]) else if ltA cs s a then [s, b, a] else [a, b, s]
  | [a, b, d] => if s = a then [s, b, d] else if s = b then (if ltA cs s a then [s, a, d] else [a, s, d]) else if ltA cs s a then [s, b, a] else [a, b, s]
  | _ => A
def pollF (cs A : List Nat) : Nat × List Nat :=
  match A with
  | [a] => (a, [])
  | [a, b] => (a, [b])
  | [a, b, d] => (a, if ltA cs b d then [b, d] else [d, b])
  | _ => (0, [])
def reachF (p : List Nat × List Nat) (s c : Nat) : Option (List Nat × List Nat) :=
  if c < p.1.getD s 0 then (if s ∈ p.2 ∨ p.2.length ≤ 2 then some (p.1.set s c, putA (p.1.set s c) p.2 s) else none) else some p
def edgeF (b : Bool) (s c : Nat) (p : List Nat × List Nat) : Option (List Nat × List Nat) := if b then reachF p s c else some p
def stepF (T M F : Nat) (n1 n2 n3 oM oF : Bool) (l1 l3 : Nat) (a : Nat) (p : List Nat × List Nat) : Option (List Nat × List Nat) :=
  if a = 2 * T then (if p.1.getD a 0 = 0 then (reachF p (2 * T + 1) (p.1.getD a 0)).bind fun p => if p.1.getD a 0 = 0 then (edgeF (!n1 && !oM) (2 * M) l1 p).bind fun p => if p.1.getD a 0 = 0 then edgeF (!n3 && !oF) (2 * F) l3 p else none else none else none)
  else if a = 2 * T + 1 then (if p.1.getD a 0 = 0 then (edgeF (n1 && !oM) (2 * M + 1) l1 p).bind fun p => if p.1.getD a 0 = 0 then edgeF (n3 && !oF) (2 * F + 1) l3 p else none else none)
  else if a = 2 * M then (if p.1.getD a 0 ≤ 1 then (reachF p (2 * M + 1) (p.1.getD a 0)).bind fun p => if p.1.getD a 0 ≤ 1 then edgeF (!n2) (2 * F) (p.1.getD a 0) p else none else none)
  else if a = 2 * M + 1 then (if p.1.getD a 0 ≤ 1 then edgeF n2 (2 * F + 1) (p.1.getD a 0) p else none)
  else if a = 2 * F then (if p.1.getD a 0 ≤ 1 then reachF p (2 * F + 1) (p.1.getD a 0) else none)
  else some p
def runF (T M F : Nat) (n1 n2 n3 oM oF : Bool) (l1 l3 : Nat) : Nat → List Nat → List Nat → Option (List Nat)
  | 0, cs, A => if A = [] then some cs else none
  | n + 1, cs, A => if A = [] then some cs else (stepF T M F n1 n2 n3 oM oF l1 l3 (pollF cs A).1 (cs, (pollF cs A).2)).bind fun p => runF T M F n1 n2 n3 oM oF l1 l3 n p.1 p.2
def finF (T M F : Nat) (oM oF n1 n2 : Bool) (l1 l3 : Nat) (cs : List Nat) : Bool :=
  cs.length == 6 && cs.getD (2 * T + 1) 0 == 0 && cs.getD (2 * M + 1) 0 == (if oM then 2 else l1) && cs.getD (2 * F + 1) 0 == (if !oM && !(!n2 && n1) then (if oF then l1 else if l1 < l3 then l1 else l3) else (if oF then 2 else l3))
def okF (T M F : Nat) (n1 n2 n3 oM oF : Bool) (l1 l3 : Nat) : Bool :=
  match reachF ([2, 2, 2, 2, 2, 2], []) (2 * T) 0 with
  | some p => match runF T M F n1 n2 n3 oM oF l1 l3 6 p.1 p.2 with
    | some cs => finF T M F oM oF n1 n2 l1 l3 cs
    | none => false
  | none => false
theorem own_ok : ∀ (n1 n2 n3 oM oF : Bool), (okF 0 1 2 n1 n2 n3 oM oF 0 0 && okF 0 1 2 n1 n2 n3 oM oF 0 1 && okF 0 1 2 n1 n2 n3 oM oF 1 0 && okF 1 2 0 n1 n2 n3 oM oF 0 0 && okF 1 2 0 n1 n2 n3 oM oF 0 1 && okF 1 2 0 n1 n2 n3 oM oF 1 0 && okF 2 0 1 n1 n2 n3 oM oF 0 0 && okF 2 0 1 n1 n2 n3 oM oF 0 1 && okF 2 0 1 n1 n2 n3 oM oF 1 0) = true := by decide +kernel
abbrev QE (dd : Int64) (hp pl : List Int32) (ky : List Int64) (cs : List Nat) (i a : Nat) : Prop := (∃ w, hp[i]? = some w ∧ w.toInt = (a : Int)) ∧ a < 6 ∧ ky[a]? = some (fk dd (cs.getD a 0)) ∧ pl[a]? = some (Int32.ofNat i)
def QI (dd : Int64) (hp pl : List Int32) (ky : List Int64) (cn : Int32) (A cs : List Nat) : Prop :=
  hp.length = 6 ∧ pl.length = 6 ∧ ky.length = 6 ∧ cn.toInt = (A.length : Int) ∧ A.length ≤ 3 ∧ (∀ i a, A[i]? = some a → QE dd hp pl ky cs i a) ∧ (∀ v, v < 6 → v ∉ A → pl[v]? = some (-1))
theorem own_mk0 {dd : Int64} {hp pl : List Int32} {ky : List Int64} {cs : List Nat} (h1 : hp.length = 6) (h2 : pl.length = 6) (h3 : ky.length = 6) (h7 : ∀ v : Nat, v < 6 → pl[v]? = some (-1 : Int32)) : QI dd hp pl ky 0 [] cs :=
  ⟨h1, h2, h3, rfl, by decide, fun i a h => by simp at h, fun v hv _ => h7 v hv⟩
theorem own_mk1 {dd : Int64} {hp pl : List Int32} {ky : List Int64} {cs : List Nat} {a : Nat} (h1 : hp.length = 6) (h2 : pl.length = 6) (h3 : ky.length = 6) (e0 : QE dd hp pl ky cs 0 a) (h7 : ∀ v, v < 6 → v ≠ a → pl[v]? = some (-1)) : QI dd hp pl ky 1 [a] cs :=
  ⟨h1, h2, h3, rfl, by simp, fun i x h => by
    rcases i with _ | i
    · simp at h; subst h; exact e0
    · simp at h, fun v hv h => h7 v hv (by simpa using h)⟩
theorem own_mk2 {dd : Int64} {hp pl : List Int32} {ky : List Int64} {cs : List Nat} {a b : Nat} (h1 : hp.length = 6) (h2 : pl.length = 6) (h3 : ky.length = 6) (e0 : QE dd hp pl ky cs 0 a) (e1 : QE dd hp pl ky cs 1 b) (h7 : ∀ v, v < 6 → v ≠ a → v ≠ b → pl[v]? = some (-1)) : QI dd hp pl ky 2 [a, b] cs :=
  ⟨h1, h2, h3, rfl, by simp, fun i x h => by
    rcases i with _ | _ | i
    · simp at h; subst h; exact e0
    · simp at h; subst h; exact e1
    · simp at h, fun v hv h => by
      have h' : v ≠ a ∧ v ≠ b := by simpa using h
      exact h7 v hv h'.1 h'.2⟩
theorem own_mk3 {dd : Int64} {hp pl : List Int32} {ky : List Int64} {cs : List Nat} {a b d : Nat} (h1 : hp.length = 6) (h2 : pl.length = 6) (h3 : ky.length = 6) (e0 : QE dd hp pl ky cs 0 a) (e1 : QE dd hp pl ky cs 1 b) (e2 : QE dd hp pl ky cs 2 d) (h7 : ∀ v, v < 6 → v ≠ a → v ≠ b → v ≠ d → pl[v]? = some (-1)) : QI dd hp pl ky 3 [a, b, d] cs :=
  ⟨h1, h2, h3, rfl, by simp, fun i x h => by
    rcases i with _ | _ | _ | i
    · simp at h; subst h; exact e0
    · simp at h; subst h; exact e1
    · simp at h; subst h; exact e2
    · simp at h, fun v hv h => by
      have h' : v ≠ a ∧ v ≠ b ∧ v ≠ d := by simpa using h
      exact h7 v hv h'.1 h'.2.1 h'.2.2⟩
theorem own_l6 {l : List Int32} (h : l.length = 6) : ∃ a b c d e f, l = [a, b, c, d, e, f] := by
  match l, h with
  | [a, b, c, d, e, f], _ => exact ⟨a, b, c, d, e, f, rfl⟩
theorem own_pd {pl : List Int32} {i j a b : Nat} (h : pl[a]? = some (Int32.ofNat i)) (g : pl[b]? = some (Int32.ofNat j)) (hij : i < 3 ∧ j < 3 ∧ i ≠ j) : a ≠ b := by
  intro e; subst e; rw [h] at g
  have g' := congrArg Int32.toInt (Option.some.inj g)
  rw [Int32.toInt_ofNat_of_lt (by omega), Int32.toInt_ofNat_of_lt (by omega)] at g'
  omega
theorem own_as {A : List Nat} (h : A.length ≤ 3) : A = [] ∨ (∃ a, A = [a]) ∨ (∃ a b, A = [a, b]) ∨ (∃ a b d, A = [a, b, d]) := by
  match A, h with
  | [], _ => exact Or.inl rfl
  | [a], _ => exact Or.inr (Or.inl ⟨a, rfl⟩)
  | [a, b], _ => exact Or.inr (Or.inr (Or.inl ⟨a, b, rfl⟩))
  | [a, b, d], _ => exact Or.inr (Or.inr (Or.inr ⟨a, b, d, rfl⟩))
  | _ :: _ :: _ :: _ :: _, h => simp at h
theorem own_q1 {dd : Int64} {hp pl : List Int32} {ky : List Int64} {cn : Int32} {cs : List Nat} {a : Nat} (I : QI dd hp pl ky cn [a] cs) : cn = 1 ∧ QE dd hp pl ky cs 0 a :=
  ⟨Int32.toInt_inj.mp I.2.2.2.1, I.2.2.2.2.2.1 0 a rfl⟩
theorem own_q2 {dd : Int64} {hp pl : List Int32} {ky : List Int64} {cn : Int32} {cs : List Nat} {a b : Nat} (I : QI dd hp pl ky cn [a, b] cs) : cn = 2 ∧ QE dd hp pl ky cs 0 a ∧ QE dd hp pl ky cs 1 b ∧ a ≠ b :=
  ⟨Int32.toInt_inj.mp I.2.2.2.1, I.2.2.2.2.2.1 0 a rfl, I.2.2.2.2.2.1 1 b rfl, own_pd (I.2.2.2.2.2.1 0 a rfl).2.2.2 (I.2.2.2.2.2.1 1 b rfl).2.2.2 (by decide)⟩
theorem own_q3 {dd : Int64} {hp pl : List Int32} {ky : List Int64} {cn : Int32} {cs : List Nat} {a b d : Nat} (I : QI dd hp pl ky cn [a, b, d] cs) : cn = 3 ∧ QE dd hp pl ky cs 0 a ∧ QE dd hp pl ky cs 1 b ∧ QE dd hp pl ky cs 2 d ∧ a ≠ b ∧ a ≠ d ∧ b ≠ d :=
  ⟨Int32.toInt_inj.mp I.2.2.2.1, I.2.2.2.2.2.1 0 a rfl, I.2.2.2.2.2.1 1 b rfl, I.2.2.2.2.2.1 2 d rfl, own_pd (I.2.2.2.2.2.1 0 a rfl).2.2.2 (I.2.2.2.2.2.1 1 b rfl).2.2.2 (by decide), own_pd (I.2.2.2.2.2.1 0 a rfl).2.2.2 (I.2.2.2.2.2.1 2 d rfl).2.2.2 (by decide), own_pd (I.2.2.2.2.2.1 1 b rfl).2.2.2 (I.2.2.2.2.2.1 2 d rfl).2.2.2 (by decide)⟩
/-- an element that stays -/
theorem own_qe {dd : Int64} {hp pl hp' pl' : List Int32} {ky : List Int64} {cs : List Nat} {i j a u c : Nat} (E : QE dd hp pl ky cs i a) (hu : a ≠ u) (w : ∃ w, hp'[j]? = some w ∧ w.toInt = (a : Int)) (p : pl'[a]? = some (Int32.ofNat j)) : QE dd hp' pl' (ky.set u (fk dd c)) (cs.set u c) j a := by
  refine ⟨w, E.2.1, ?_, p⟩
  rw [List.getElem?_set_ne (Ne.symm hu), E.2.2.1, List.getD_eq_getElem?_getD, List.getD_eq_getElem?_getD, List.getElem?_set_ne (Ne.symm hu)]
/-- the element that is put -/
theorem own_qu {dd : Int64} {hp' pl' : List Int32} {ky : List Int64} {cs : List Nat} {j u c : Nat} (hk : ky.length = 6) (hc : cs.length = 6) (hu : u < 6) (w : ∃ w, hp'[j]? = some w ∧ w.toInt = (u : Int)) (p : pl'[u]? = some (Int32.ofNat j)) : QE dd hp' pl' (ky.set u (fk dd c)) (cs.set u c) j u := by
  refine ⟨w, hu, ?_, p⟩
  rw [List.getElem?_set_self (by omega), List.getD_eq_getElem?_getD, List.getElem?_set_self (by omega)]; rfl
def UpR0 (ky : List Int64) (v : Int32) (iv a : Nat) (w0 w1 w2 w3 w4 w5 : Int32) (pl hp' pl' : List Int32) : Prop := hp' = [v, w1, w2, w3, w4, w5] ∧ pl' = pl.set iv 0
def UpR1 (ky : List Int64) (v : Int32) (iv a : Nat) (w0 w1 w2 w3 w4 w5 : Int32) (pl hp' pl' : List Int32) : Prop := (Bef ky v w0 ∧ hp' = [v, w0, w2, w3, w4, w5] ∧ pl' = (pl.set a 1).set iv 0) ∨ (¬ Bef ky v w0 ∧ hp' = [w0, v, w2, w3, w4, w5] ∧ pl' = pl.set iv 1)
def UpR2 (ky : List Int64) (v : Int32) (iv a : Nat) (w0 w1 w2 w3 w4 w5 : Int32) (pl hp' pl' : List Int32) : Prop := (Bef ky v w0 ∧ hp' = [v, w1, w0, w3, w4, w5] ∧ pl' = (pl.set a 2).set iv 0) ∨ (¬ Bef ky v w0 ∧ hp' = [w0, w1, v, w3, w4, w5] ∧ pl' = pl.set iv 2)
theorem own_bef {dd : Int64} (hD : DD dd) {ky : List Int64} {cs : List Nat} {x y : Int32} {u a : Nat} (hx : x.toInt = (u : Int)) (hy : y.toInt = (a : Int)) (ku : ky[u]? = some (fk dd (cs.getD u 0))) (ka : ky[a]? = some (fk dd (cs.getD a 0))) (hc : ∀ i, cs.getD i 0 ≤ 2) : Bef ky x y ↔ ltA cs u a = true := by
  have q := own_fk hD (hc u) (hc a)
  have e1 : QK ky x = (fk dd (cs.getD u 0)).toInt := by unfold QK; rw [hx, Int.toNat_natCast, List.getD_eq_getElem?_getD, ku]; rfl
  have e2 : QK ky y = (fk dd (cs.getD a 0)).toInt := by unfold QK; rw [hy, Int.toNat_natCast, List.getD_eq_getElem?_getD, ka]; rfl
  unfold Bef ltA
  rw [e1, e2, hx, hy, q.1, q.2]
  simp
section
variable {dd : Int64} {w0 w1 w2 w3 w4 w5 nd : Int32} {hp pl hp' pl' : List Int32} {ky : List Int64} {cn : Int32} {cs : List Nat} {u a b d c z : Nat}
theorem own_pa0 (I : QI dd [w0, w1, w2, w3, w4, w5] pl ky 0 [] cs) (hv : nd.toInt = (u : Int)) (hu : u < 6) (hcl : cs.length = 6) (U : UpR0 (ky.set u (fk dd c)) nd u z nd w1 w2 w3 w4 w5 (pl.set u 0) hp' pl') : QI dd hp' pl' (ky.set u (fk dd c)) 1 (putA (cs.set u c) [] u) (cs.set u c) := by
  obtain ⟨i1, i2, i3, i4, i5, i6, i7⟩ := I
  obtain ⟨rfl, rfl⟩ := U
  refine own_mk1 rfl (by simp [i2]) (by simp [i3]) (own_qu i3 hcl hu ⟨nd, rfl, hv⟩ (by simp [List.getElem?_set, i2, hu])) ?_
  intro v hv2 hne
  have := i7 v hv2 (by simp)
  simp [List.getElem?_set, i2, Ne.symm hne, this]
theorem own_pa1 (hD : DD dd) (I : QI dd [w0, w1, w2, w3, w4, w5] pl ky 1 [a] cs) (hv : nd.toInt = (u : Int)) (hu : u < 6) (hcl : cs.length = 6) (hc2 : ∀ i, (cs.set u c).getD i 0 ≤ 2) (nua : u ≠ a) (h0 : w0.toInt = (a : Int)) (U : UpR1 (ky.set u (fk dd c)) nd u a w0 nd w2 w3 w4 w5 (pl.set u 1) hp' pl') : QI dd hp' pl' (ky.set u (fk dd c)) 2 (putA (cs.set u c) [a] u) (cs.set u c) := by
  obtain ⟨-, Ea⟩ := own_q1 I
  obtain ⟨i1, i2, i3, i4, i5, i6, i7⟩ := I
  have hB := own_bef hD (ky := ky.set u (fk dd c)) (cs := cs.set u c) hv h0 (by rw [List.getElem?_set_self (by omega), List.getD_eq_getElem?_getD, List.getElem?_set_self (by omega)]; rfl) (own_qe (hp' := [w0]) (pl' := pl) (j := 0) Ea (Ne.symm nua) ⟨w0, rfl, h0⟩ Ea.2.2.2).2.2.1 hc2
  rcases U with ⟨u1, rfl, rfl⟩ | ⟨u1, rfl, rfl⟩
  · have hL : ltA (cs.set u c) u a = true := hB.mp u1
    have hP : putA (cs.set u c) [a] u = [u, a] := by simp [putA, hL, nua, (Ne.symm nua)]
    rw [hP]
    refine own_mk2 rfl (by simp [i2]) (by simp [i3]) (own_qu i3 hcl hu ⟨nd, rfl, hv⟩ (by  exact List.getElem?_set_self (by (try simp only [List.length_set]); rw [i2]; exact hu))) (own_qe Ea (Ne.symm nua) ⟨w0, rfl, h0⟩ (by rw [List.getElem?_set_ne nua];  exact List.getElem?_set_self (by (try simp only [List.length_set]); rw [i2]; exact Ea.2.1))) ?_
    intro v hv2 n0 n1
    have h7 := i7 v hv2 (by simp [n1])
    rw [List.getElem?_set_ne (Ne.symm n0)]; rw [List.getElem?_set_ne (Ne.symm n1)]; rw [List.getElem?_set_ne (Ne.symm n0)]; exact h7
  · have hL : ltA (cs.set u c) u a = false := by cases h : ltA (cs.set u c) u a; rfl; exact absurd (hB.mpr h) u1
    have hP : putA (cs.set u c) [a] u = [a, u] := by simp [putA, hL, nua, (Ne.symm nua)]
    rw [hP]
    refine own_mk2 rfl (by simp [i2]) (by simp [i3]) (own_qe Ea (Ne.symm nua) ⟨w0, rfl, h0⟩ (by rw [List.getElem?_set_ne nua]; rw [List.getElem?_set_ne nua];  exact Ea.2.2.2)) (own_qu i3 hcl hu ⟨nd, rfl, hv⟩ (by  exact List.getElem?_set_self (by (try simp only [List.length_set]); rw [i2]; exact hu))) ?_
    intro v hv2 n0 n1
    have h7 := i7 v hv2 (by simp [n0])
    rw [List.getElem?_set_ne (Ne.symm n1)]; rw [List.getElem?_set_ne (Ne.symm n1)]; exact h7
theorem own_pa2 (hD : DD dd) (I : QI dd [w0, w1, w2, w3, w4, w5] pl ky 2 [a, b] cs) (hv : nd.toInt = (u : Int)) (hu : u < 6) (hcl : cs.length = 6) (hc2 : ∀ i, (cs.set u c).getD i 0 ≤ 2) (nua : u ≠ a) (nub : u ≠ b) (h0 : w0.toInt = (a : Int)) (U : UpR2 (ky.set u (fk dd c)) nd u a w0 w1 nd w3 w4 w5 (pl.set u 2) hp' pl') : QI dd hp' pl' (ky.set u (fk dd c)) 3 (putA (cs.set u c) [a, b] u) (cs.set u c) := by
  obtain ⟨-, Ea, Eb, nab⟩ := own_q2 I
  obtain ⟨i1, i2, i3, i4, i5, i6, i7⟩ := I
  have hwb : w1.toInt = (b : Int) := by obtain ⟨w, q1, q2⟩ := Eb.1; cases q1; exact q2
  have hB := own_bef hD (ky := ky.set u (fk dd c)) (cs := cs.set u c) hv h0 (by rw [List.getElem?_set_self (by omega), List.getD_eq_getElem?_getD, List.getElem?_set_self (by omega)]; rfl) (own_qe (hp' := [w0]) (pl' := pl) (j := 0) Ea (Ne.symm nua) ⟨w0, rfl, h0⟩ Ea.2.2.2).2.2.1 hc2
  rcases U with ⟨u1, rfl, rfl⟩ | ⟨u1, rfl, rfl⟩
  · have hL : ltA (cs.set u c) u a = true := hB.mp u1
    have hP : putA (cs.set u c) [a, b] u = [u, b, a] := by simp [putA, hL, nua, (Ne.symm nua), nub, (Ne.symm nub), nab, (Ne.symm nab)]
    rw [hP]
    refine own_mk3 rfl (by simp [i2]) (by simp [i3]) (own_qu i3 hcl hu ⟨nd, rfl, hv⟩ (by  exact List.getElem?_set_self (by (try simp only [List.length_set]); rw [i2]; exact hu))) (own_qe Eb (Ne.symm nub) ⟨_, rfl, hwb⟩ (by rw [List.getElem?_set_ne nub]; rw [List.getElem?_set_ne nab]; rw [List.getElem?_set_ne nub];  exact Eb.2.2.2)) (own_qe Ea (Ne.symm nua) ⟨w0, rfl, h0⟩ (by rw [List.getElem?_set_ne nua];  exact List.getElem?_set_self (by (try simp only [List.length_set]); rw [i2]; exact Ea.2.1))) ?_
    intro v hv2 n0 n1 n2
    have h7 := i7 v hv2 (by simp [n2, n1])
    rw [List.getElem?_set_ne (Ne.symm n0)]; rw [List.getElem?_set_ne (Ne.symm n2)]; rw [List.getElem?_set_ne (Ne.symm n0)]; exact h7
  · have hL : ltA (cs.set u c) u a = false := by cases h : ltA (cs.set u c) u a; rfl; exact absurd (hB.mpr h) u1
    have hP : putA (cs.set u c) [a, b] u = [a, b, u] := by simp [putA, hL, nua, (Ne.symm nua), nub, (Ne.symm nub), nab, (Ne.symm nab)]
    rw [hP]
    refine own_mk3 rfl (by simp [i2]) (by simp [i3]) (own_qe Ea (Ne.symm nua) ⟨w0, rfl, h0⟩ (by rw [List.getElem?_set_ne nua]; rw [List.getElem?_set_ne nua];  exact Ea.2.2.2)) (own_qe Eb (Ne.symm nub) ⟨_, rfl, hwb⟩ (by rw [List.getElem?_set_ne nub]; rw [List.getElem?_set_ne nub];  exact Eb.2.2.2)) (own_qu i3 hcl hu ⟨nd, rfl, hv⟩ (by  exact List.getElem?_set_self (by (try simp only [List.length_set]); rw [i2]; exact hu))) ?_
    intro v hv2 n0 n1 n2
    have h7 := i7 v hv2 (by simp [n0, n1])
    rw [List.getElem?_set_ne (Ne.symm n2)]; rw [List.getElem?_set_ne (Ne.symm n2)]; exact h7
theorem own_pp10 (hD : DD dd) (I : QI dd [w0, w1, w2, w3, w4, w5] pl ky 1 [a] cs) (hv : nd.toInt = (u : Int)) (hu : u < 6) (hcl : cs.length = 6) (hc2 : ∀ i, (cs.set u c).getD i 0 ≤ 2) (hue : u = a) (h0 : w0.toInt = (a : Int)) (U : UpR0 (ky.set u (fk dd c)) nd u a w0 w1 w2 w3 w4 w5 pl hp' pl') : QI dd hp' pl' (ky.set u (fk dd c)) 1 (putA (cs.set u c) [a] u) (cs.set u c) := by
  obtain ⟨-, Ea⟩ := own_q1 I
  obtain ⟨i1, i2, i3, i4, i5, i6, i7⟩ := I
  subst hue
  obtain ⟨rfl, rfl⟩ := U
  have hP : putA (cs.set u c) [u] u = [u] := by simp [putA]
  rw [hP]
  refine own_mk1 rfl (by simp [i2]) (by simp [i3]) (own_qu i3 hcl hu ⟨nd, rfl, hv⟩ (by  exact List.getElem?_set_self (by (try simp only [List.length_set]); rw [i2]; exact hu))) ?_
  intro v hv2 n0
  have h7 := i7 v hv2 (by simp [n0])
  rw [List.getElem?_set_ne (Ne.symm n0)]; exact h7
theorem own_pp20 (hD : DD dd) (I : QI dd [w0, w1, w2, w3, w4, w5] pl ky 2 [a, b] cs) (hv : nd.toInt = (u : Int)) (hu : u < 6) (hcl : cs.length = 6) (hc2 : ∀ i, (cs.set u c).getD i 0 ≤ 2) (hue : u = a) (h0 : w0.toInt = (a : Int)) (U : UpR0 (ky.set u (fk dd c)) nd u a w0 w1 w2 w3 w4 w5 pl hp' pl') : QI dd hp' pl' (ky.set u (fk dd c)) 2 (putA (cs.set u c) [a, b] u) (cs.set u c) := by
  obtain ⟨-, Ea, Eb, nab⟩ := own_q2 I
  obtain ⟨i1, i2, i3, i4, i5, i6, i7⟩ := I
  subst hue
  have hwb : w1.toInt = (b : Int) := by obtain ⟨w, q1, q2⟩ := Eb.1; cases q1; exact q2
  obtain ⟨rfl, rfl⟩ := U
  have hP : putA (cs.set u c) [u, b] u = [u, b] := by simp [putA]
  rw [hP]
  refine own_mk2 rfl (by simp [i2]) (by simp [i3]) (own_qu i3 hcl hu ⟨nd, rfl, hv⟩ (by  exact List.getElem?_set_self (by (try simp only [List.length_set]); rw [i2]; exact hu))) (own_qe Eb (Ne.symm nab) ⟨_, rfl, hwb⟩ (by rw [List.getElem?_set_ne nab];  exact Eb.2.2.2)) ?_
  intro v hv2 n0 n1
  have h7 := i7 v hv2 (by simp [n0, n1])
  rw [List.getElem?_set_ne (Ne.symm n0)]; exact h7
theorem own_pp21 (hD : DD dd) (I : QI dd [w0, w1, w2, w3, w4, w5] pl ky 2 [a, b] cs) (hv : nd.toInt = (u : Int)) (hu : u < 6) (hcl : cs.length = 6) (hc2 : ∀ i, (cs.set u c).getD i 0 ≤ 2) (hue : u = b) (h0 : w0.toInt = (a : Int)) (U : UpR1 (ky.set u (fk dd c)) nd u a w0 w1 w2 w3 w4 w5 pl hp' pl') : QI dd hp' pl' (ky.set u (fk dd c)) 2 (putA (cs.set u c) [a, b] u) (cs.set u c) := by
  obtain ⟨-, Ea, Eb, nab⟩ := own_q2 I
  obtain ⟨i1, i2, i3, i4, i5, i6, i7⟩ := I
  subst hue
  have hwb : w1.toInt = (u : Int) := by obtain ⟨w, q1, q2⟩ := Eb.1; cases q1; exact q2
  have hB := own_bef hD (ky := ky.set u (fk dd c)) (cs := cs.set u c) hv h0 (by rw [List.getElem?_set_self (by omega), List.getD_eq_getElem?_getD, List.getElem?_set_self (by omega)]; rfl) (own_qe (hp' := [w0]) (pl' := pl) (j := 0) Ea nab ⟨w0, rfl, h0⟩ Ea.2.2.2).2.2.1 hc2
  rcases U with ⟨u1, rfl, rfl⟩ | ⟨u1, rfl, rfl⟩
  · have hL : ltA (cs.set u c) u a = true := hB.mp u1
    have hP : putA (cs.set u c) [a, u] u = [u, a] := by simp [putA, hL, nab, (Ne.symm nab)]
    rw [hP]
    refine own_mk2 rfl (by simp [i2]) (by simp [i3]) (own_qu i3 hcl hu ⟨nd, rfl, hv⟩ (by  exact List.getElem?_set_self (by (try simp only [List.length_set]); rw [i2]; exact hu))) (own_qe Ea nab ⟨w0, rfl, h0⟩ (by rw [List.getElem?_set_ne (Ne.symm nab)];  exact List.getElem?_set_self (by (try simp only [List.length_set]); rw [i2]; exact Ea.2.1))) ?_
    intro v hv2 n0 n1
    have h7 := i7 v hv2 (by simp [n1, n0])
    rw [List.getElem?_set_ne (Ne.symm n0)]; rw [List.getElem?_set_ne (Ne.symm n1)]; exact h7
  · have hL : ltA (cs.set u c) u a = false := by cases h : ltA (cs.set u c) u a; rfl; exact absurd (hB.mpr h) u1
    have hP : putA (cs.set u c) [a, u] u = [a, u] := by simp [putA, hL, nab, (Ne.symm nab)]
    rw [hP]
    refine own_mk2 rfl (by simp [i2]) (by simp [i3]) (own_qe Ea nab ⟨w0, rfl, h0⟩ (by rw [List.getElem?_set_ne (Ne.symm nab)];  exact Ea.2.2.2)) (own_qu i3 hcl hu ⟨nd, rfl, hv⟩ (by  exact List.getElem?_set_self (by (try simp only [List.length_set]); rw [i2]; exact hu))) ?_
    intro v hv2 n0 n1
    have h7 := i7 v hv2 (by simp [n0, n1])
    rw [List.getElem?_set_ne (Ne.symm n1)]; exact h7
theorem own_pp30 (hD : DD dd) (I : QI dd [w0, w1, w2, w3, w4, w5] pl ky 3 [a, b, d] cs) (hv : nd.toInt = (u : Int)) (hu : u < 6) (hcl : cs.length = 6) (hc2 : ∀ i, (cs.set u c).getD i 0 ≤ 2) (hue : u = a) (h0 : w0.toInt = (a : Int)) (U : UpR0 (ky.set u (fk dd c)) nd u a w0 w1 w2 w3 w4 w5 pl hp' pl') : QI dd hp' pl' (ky.set u (fk dd c)) 3 (putA (cs.set u c) [a, b, d] u) (cs.set u c) := by
  obtain ⟨-, Ea, Eb, Ed, nab, nad, nbd⟩ := own_q3 I
  obtain ⟨i1, i2, i3, i4, i5, i6, i7⟩ := I
  subst hue
  have hwb : w1.toInt = (b : Int) := by obtain ⟨w, q1, q2⟩ := Eb.1; cases q1; exact q2
  have hwd : w2.toInt = (d : Int) := by obtain ⟨w, q1, q2⟩ := Ed.1; cases q1; exact q2
  obtain ⟨rfl, rfl⟩ := U
  have hP : putA (cs.set u c) [u, b, d] u = [u, b, d] := by simp [putA]
  rw [hP]
  refine own_mk3 rfl (by simp [i2]) (by simp [i3]) (own_qu i3 hcl hu ⟨nd, rfl, hv⟩ (by  exact List.getElem?_set_self (by (try simp only [List.length_set]); rw [i2]; exact hu))) (own_qe Eb (Ne.symm nab) ⟨_, rfl, hwb⟩ (by rw [List.getElem?_set_ne nab];  exact Eb.2.2.2)) (own_qe Ed (Ne.symm nad) ⟨_, rfl, hwd⟩ (by rw [List.getElem?_set_ne nad];  exact Ed.2.2.2)) ?_
  intro v hv2 n0 n1 n2
  have h7 := i7 v hv2 (by simp [n0, n1, n2])
  rw [List.getElem?_set_ne (Ne.symm n0)]; exact h7
theorem own_pp31 (hD : DD dd) (I : QI dd [w0, w1, w2, w3, w4, w5] pl ky 3 [a, b, d] cs) (hv : nd.toInt = (u : Int)) (hu : u < 6) (hcl : cs.length = 6) (hc2 : ∀ i, (cs.set u c).getD i 0 ≤ 2) (hue : u = b) (h0 : w0.toInt = (a : Int)) (U : UpR1 (ky.set u (fk dd c)) nd u a w0 w1 w2 w3 w4 w5 pl hp' pl') : QI dd hp' pl' (ky.set u (fk dd c)) 3 (putA (cs.set u c) [a, b, d] u) (cs.set u c) := by
  obtain ⟨-, Ea, Eb, Ed, nab, nad, nbd⟩ := own_q3 I
  obtain ⟨i1, i2, i3, i4, i5, i6, i7⟩ := I
  subst hue
  have hwb : w1.toInt = (u : Int) := by obtain ⟨w, q1, q2⟩ := Eb.1; cases q1; exact q2
  have hwd : w2.toInt = (d : Int) := by obtain ⟨w, q1, q2⟩ := Ed.1; cases q1; exact q2
  have hB := own_bef hD (ky := ky.set u (fk dd c)) (cs := cs.set u c) hv h0 (by rw [List.getElem?_set_self (by omega), List.getD_eq_getElem?_getD, List.getElem?_set_self (by omega)]; rfl) (own_qe (hp' := [w0]) (pl' := pl) (j := 0) Ea nab ⟨w0, rfl, h0⟩ Ea.2.2.2).2.2.1 hc2
  rcases U with ⟨u1, rfl, rfl⟩ | ⟨u1, rfl, rfl⟩
  · have hL : ltA (cs.set u c) u a = true := hB.mp u1
    have hP : putA (cs.set u c) [a, u, d] u = [u, a, d] := by simp [putA, hL, nab, (Ne.symm nab), nad, (Ne.symm nad), nbd, (Ne.symm nbd)]
    rw [hP]
    refine own_mk3 rfl (by simp [i2]) (by simp [i3]) (own_qu i3 hcl hu ⟨nd, rfl, hv⟩ (by  exact List.getElem?_set_self (by (try simp only [List.length_set]); rw [i2]; exact hu))) (own_qe Ea nab ⟨w0, rfl, h0⟩ (by rw [List.getElem?_set_ne (Ne.symm nab)];  exact List.getElem?_set_self (by (try simp only [List.length_set]); rw [i2]; exact Ea.2.1))) (own_qe Ed (Ne.symm nbd) ⟨_, rfl, hwd⟩ (by rw [List.getElem?_set_ne nbd]; rw [List.getElem?_set_ne nad];  exact Ed.2.2.2)) ?_
    intro v hv2 n0 n1 n2
    have h7 := i7 v hv2 (by simp [n1, n0, n2])
    rw [List.getElem?_set_ne (Ne.symm n0)]; rw [List.getElem?_set_ne (Ne.symm n1)]; exact h7
  · have hL : ltA (cs.set u c) u a = false := by cases h : ltA (cs.set u c) u a; rfl; exact absurd (hB.mpr h) u1
    have hP : putA (cs.set u c) [a, u, d] u = [a, u, d] := by simp [putA, hL, nab, (Ne.symm nab), nad, (Ne.symm nad), nbd, (Ne.symm nbd)]
    rw [hP]
    refine own_mk3 rfl (by simp [i2]) (by simp [i3]) (own_qe Ea nab ⟨w0, rfl, h0⟩ (by rw [List.getElem?_set_ne (Ne.symm nab)];  exact Ea.2.2.2)) (own_qu i3 hcl hu ⟨nd, rfl, hv⟩ (by  exact List.getElem?_set_self (by (try simp only [List.length_set]); rw [i2]; exact hu))) (own_qe Ed (Ne.symm nbd) ⟨_, rfl, hwd⟩ (by rw [List.getElem?_set_ne nbd];  exact Ed.2.2.2)) ?_
    intro v hv2 n0 n1 n2
    have h7 := i7 v hv2 (by simp [n0, n1, n2])
    rw [List.getElem?_set_ne (Ne.symm n1)]; exact h7
theorem own_pp32 (hD : DD dd) (I : QI dd [w0, w1, w2, w3, w4, w5] pl ky 3 [a, b, d] cs) (hv : nd.toInt = (u : Int)) (hu : u < 6) (hcl : cs.length = 6) (hc2 : ∀ i, (cs.set u c).getD i 0 ≤ 2) (hue : u = d) (h0 : w0.toInt = (a : Int)) (U : UpR2 (ky.set u (fk dd c)) nd u a w0 w1 w2 w3 w4 w5 pl hp' pl') : QI dd hp' pl' (ky.set u (fk dd c)) 3 (putA (cs.set u c) [a, b, d] u) (cs.set u c) := by
  obtain ⟨-, Ea, Eb, Ed, nab, nad, nbd⟩ := own_q3 I
  obtain ⟨i1, i2, i3, i4, i5, i6, i7⟩ := I
  subst hue
  have hwb : w1.toInt = (b : Int) := by obtain ⟨w, q1, q2⟩ := Eb.1; cases q1; exact q2
  have hwd : w2.toInt = (u : Int) := by obtain ⟨w, q1, q2⟩ := Ed.1; cases q1; exact q2
  have hB := own_bef hD (ky := ky.set u (fk dd c)) (cs := cs.set u c) hv h0 (by rw [List.getElem?_set_self (by omega), List.getD_eq_getElem?_getD, List.getElem?_set_self (by omega)]; rfl) (own_qe (hp' := [w0]) (pl' := pl) (j := 0) Ea nad ⟨w0, rfl, h0⟩ Ea.2.2.2).2.2.1 hc2
  rcases U with ⟨u1, rfl, rfl⟩ | ⟨u1, rfl, rfl⟩
  · have hL : ltA (cs.set u c) u a = true := hB.mp u1
    have hP : putA (cs.set u c) [a, b, u] u = [u, b, a] := by simp [putA, hL, nab, (Ne.symm nab), nad, (Ne.symm nad), nbd, (Ne.symm nbd)]
    rw [hP]
    refine own_mk3 rfl (by simp [i2]) (by simp [i3]) (own_qu i3 hcl hu ⟨nd, rfl, hv⟩ (by  exact List.getElem?_set_self (by (try simp only [List.length_set]); rw [i2]; exact hu))) (own_qe Eb nbd ⟨_, rfl, hwb⟩ (by rw [List.getElem?_set_ne (Ne.symm nbd)]; rw [List.getElem?_set_ne nab];  exact Eb.2.2.2)) (own_qe Ea nad ⟨w0, rfl, h0⟩ (by rw [List.getElem?_set_ne (Ne.symm nad)];  exact List.getElem?_set_self (by (try simp only [List.length_set]); rw [i2]; exact Ea.2.1))) ?_
    intro v hv2 n0 n1 n2
    have h7 := i7 v hv2 (by simp [n2, n1, n0])
    rw [List.getElem?_set_ne (Ne.symm n0)]; rw [List.getElem?_set_ne (Ne.symm n2)]; exact h7
  · have hL : ltA (cs.set u c) u a = false := by cases h : ltA (cs.set u c) u a; rfl; exact absurd (hB.mpr h) u1
    have hP : putA (cs.set u c) [a, b, u] u = [a, b, u] := by simp [putA, hL, nab, (Ne.symm nab), nad, (Ne.symm nad), nbd, (Ne.symm nbd)]
    rw [hP]
    refine own_mk3 rfl (by simp [i2]) (by simp [i3]) (own_qe Ea nad ⟨w0, rfl, h0⟩ (by rw [List.getElem?_set_ne (Ne.symm nad)];  exact Ea.2.2.2)) (own_qe Eb nbd ⟨_, rfl, hwb⟩ (by rw [List.getElem?_set_ne (Ne.symm nbd)];  exact Eb.2.2.2)) (own_qu i3 hcl hu ⟨nd, rfl, hv⟩ (by  exact List.getElem?_set_self (by (try simp only [List.length_set]); rw [i2]; exact hu))) ?_
    intro v hv2 n0 n1 n2
    have h7 := i7 v hv2 (by simp [n0, n1, n2])
    rw [List.getElem?_set_ne (Ne.symm n2)]; exact h7
end
def DnR1 (ky : List Int64) (v : Int32) (iv b : Nat) (w0 w1 w2 w3 w4 w5 : Int32) (pl hp' pl' : List Int32) : Prop := hp' = [v, w1, w2, w3, w4, w5] ∧ pl' = pl.set iv 0
def DnR2 (ky : List Int64) (v : Int32) (iv b : Nat) (w0 w1 w2 w3 w4 w5 : Int32) (pl hp' pl' : List Int32) : Prop := (Bef ky w1 v ∧ hp' = [w1, v, w2, w3, w4, w5] ∧ pl' = (pl.set b 0).set iv 1) ∨ (¬ Bef ky w1 v ∧ hp' = [v, w1, w2, w3, w4, w5] ∧ pl' = pl.set iv 0)
section
variable {dd : Int64} {w0 w1 w2 w3 w4 w5 nd : Int32} {hp pl hp' pl' : List Int32} {ky : List Int64} {cn : Int32} {cs : List Nat} {u a b d c z : Nat}
theorem own_rm1 (I : QI dd hp pl ky 1 [a] cs) : QI dd hp (pl.set a (-1)) ky 0 (pollF cs [a]).2 cs := by
  obtain ⟨-, Ea⟩ := own_q1 I
  obtain ⟨i1, i2, i3, i4, i5, i6, i7⟩ := I
  refine own_mk0 i1 (by simp [i2]) i3 ?_
  intro v hv
  by_cases h : v = a
  · subst h; exact List.getElem?_set_self (by rw [i2]; exact hv)
  · rw [List.getElem?_set_ne (Ne.symm h)]; exact i7 v hv (by simp [h])
theorem own_rm2 (I : QI dd [w0, w1, w2, w3, w4, w5] pl ky 2 [a, b] cs) (U : DnR1 ky w1 b z w1 w1 w2 w3 w4 w5 (((pl.set a (-1)).set b 0).set b 0) hp' pl') : QI dd hp' pl' ky 1 (pollF cs [a, b]).2 cs := by
  obtain ⟨-, Ea, Eb, nab⟩ := own_q2 I
  obtain ⟨i1, i2, i3, i4, i5, i6, i7⟩ := I
  obtain ⟨rfl, rfl⟩ := U
  have hwb : w1.toInt = (b : Int) := by obtain ⟨w, q1, q2⟩ := Eb.1; cases q1; exact q2
  refine own_mk1 rfl (by simp [i2]) i3 ⟨⟨w1, rfl, hwb⟩, Eb.2.1, Eb.2.2.1, List.getElem?_set_self (by simp [i2]; exact Eb.2.1)⟩ ?_
  intro v hv hb
  rw [List.getElem?_set_ne (Ne.symm hb), List.getElem?_set_ne (Ne.symm hb), List.getElem?_set_ne (Ne.symm hb)]
  by_cases h : v = a
  · subst h; exact List.getElem?_set_self (by rw [i2]; exact hv)
  · rw [List.getElem?_set_ne (Ne.symm h)]; exact i7 v hv (by simp [h, hb])
theorem own_rm3 (hD : DD dd) (I : QI dd [w0, w1, w2, w3, w4, w5] pl ky 3 [a, b, d] cs) (hc : ∀ i, cs.getD i 0 ≤ 2) (U : DnR2 ky w2 d b w2 w1 w2 w3 w4 w5 (((pl.set a (-1)).set d 0).set d 0) hp' pl') : QI dd hp' pl' ky 2 (pollF cs [a, b, d]).2 cs := by
  obtain ⟨-, Ea, Eb, Ed, nab, nad, nbd⟩ := own_q3 I
  obtain ⟨i1, i2, i3, i4, i5, i6, i7⟩ := I
  have hwb : w1.toInt = (b : Int) := by obtain ⟨w, q1, q2⟩ := Eb.1; cases q1; exact q2
  have hwd : w2.toInt = (d : Int) := by obtain ⟨w, q1, q2⟩ := Ed.1; cases q1; exact q2
  have hB := own_bef hD hwb hwd Eb.2.2.1 Ed.2.2.1 hc
  rcases U with ⟨u1, rfl, rfl⟩ | ⟨u1, rfl, rfl⟩
  · have hP : (pollF cs [a, b, d]).2 = [b, d] := by simp [pollF, hB.mp u1]
    rw [hP]
    refine own_mk2 rfl (by simp [i2]) i3 ⟨⟨w1, rfl, hwb⟩, Eb.2.1, Eb.2.2.1, ?_⟩ ⟨⟨w2, rfl, hwd⟩, Ed.2.1, Ed.2.2.1, ?_⟩ ?_
    · rw [List.getElem?_set_ne (Ne.symm nbd)]; exact List.getElem?_set_self (by simp [i2]; exact Eb.2.1)
    · exact List.getElem?_set_self (by simp [i2]; exact Ed.2.1)
    · intro v hv hb hd
      rw [List.getElem?_set_ne (Ne.symm hd), List.getElem?_set_ne (Ne.symm hb), List.getElem?_set_ne (Ne.symm hd), List.getElem?_set_ne (Ne.symm hd)]
      by_cases h : v = a
      · subst h; exact List.getElem?_set_self (by rw [i2]; exact hv)
      · rw [List.getElem?_set_ne (Ne.symm h)]; exact i7 v hv (by simp [h, hb, hd])
  · have hL : ltA cs b d = false := by cases h : ltA cs b d; rfl; exact absurd (hB.mpr h) u1
    have hP : (pollF cs [a, b, d]).2 = [d, b] := by simp [pollF, hL]
    rw [hP]
    refine own_mk2 rfl (by simp [i2]) i3 ⟨⟨w2, rfl, hwd⟩, Ed.2.1, Ed.2.2.1, ?_⟩ ⟨⟨w1, rfl, hwb⟩, Eb.2.1, Eb.2.2.1, ?_⟩ ?_
    · exact List.getElem?_set_self (by simp [i2]; exact Ed.2.1)
    · rw [List.getElem?_set_ne (Ne.symm nbd), List.getElem?_set_ne (Ne.symm nbd), List.getElem?_set_ne (Ne.symm nbd), List.getElem?_set_ne nab]; exact Eb.2.2.2
    · intro v hv hd hb
      rw [List.getElem?_set_ne (Ne.symm hd), List.getElem?_set_ne (Ne.symm hd), List.getElem?_set_ne (Ne.symm hd)]
      by_cases h : v = a
      · subst h; exact List.getElem?_set_self (by rw [i2]; exact hv)
      · rw [List.getElem?_set_ne (Ne.symm h)]; exact i7 v hv (by simp [h, hb, hd])
/-- the cases of a put -/
theorem own_pc (I : QI dd hp pl ky cn A cs) (hu : u < 6) (hok : u ∈ A ∨ A.length ≤ 2) : ∃ w0 w1 w2 w3 w4 w5, hp = [w0, w1, w2, w3, w4, w5] ∧
    ((A = [] ∧ cn = 0 ∧ pl[u]? = some (-1)) ∨
     (∃ a, A = [a] ∧ cn = 1 ∧ w0.toInt = (a : Int) ∧ a < 6 ∧ u ≠ a ∧ pl[u]? = some (-1)) ∨
     (∃ a b, A = [a, b] ∧ cn = 2 ∧ w0.toInt = (a : Int) ∧ a < 6 ∧ u ≠ a ∧ u ≠ b ∧ pl[u]? = some (-1)) ∨
     (∃ a, A = [a] ∧ cn = 1 ∧ w0.toInt = (a : Int) ∧ a < 6 ∧ u = a ∧ pl[u]? = some 0 ∧ ky[u]? = some (fk dd (cs.getD u 0))) ∨
     (∃ a b, A = [a, b] ∧ cn = 2 ∧ w0.toInt = (a : Int) ∧ a < 6 ∧ u = a ∧ pl[u]? = some 0 ∧ ky[u]? = some (fk dd (cs.getD u 0))) ∨
     (∃ a b, A = [a, b] ∧ cn = 2 ∧ w0.toInt = (a : Int) ∧ a < 6 ∧ u = b ∧ pl[u]? = some 1 ∧ ky[u]? = some (fk dd (cs.getD u 0))) ∨
     (∃ a b d, A = [a, b, d] ∧ cn = 3 ∧ w0.toInt = (a : Int) ∧ a < 6 ∧ u = a ∧ pl[u]? = some 0 ∧ ky[u]? = some (fk dd (cs.getD u 0))) ∨
     (∃ a b d, A = [a, b, d] ∧ cn = 3 ∧ w0.toInt = (a : Int) ∧ a < 6 ∧ u = b ∧ pl[u]? = some 1 ∧ ky[u]? = some (fk dd (cs.getD u 0))) ∨
     (∃ a b d, A = [a, b, d] ∧ cn = 3 ∧ w0.toInt = (a : Int) ∧ a < 6 ∧ u = d ∧ pl[u]? = some 2 ∧ ky[u]? = some (fk dd (cs.getD u 0)))) := by
  obtain ⟨w0, w1, w2, w3, w4, w5, rfl⟩ := own_l6 I.1
  refine ⟨w0, w1, w2, w3, w4, w5, rfl, ?_⟩
  have i7 := I.2.2.2.2.2.2
  rcases own_as I.2.2.2.2.1 with rfl | ⟨a, rfl⟩ | ⟨a, b, rfl⟩ | ⟨a, b, d, rfl⟩
  · exact Or.inl ⟨rfl, Int32.toInt_inj.mp I.2.2.2.1, i7 u hu (by simp)⟩
  · obtain ⟨q, Ea⟩ := own_q1 I
    have h0 : w0.toInt = (a : Int) := by obtain ⟨w, q1, q2⟩ := Ea.1; cases q1; exact q2
    by_cases h : u = a
    · exact Or.inr (Or.inr (Or.inr (Or.inl ⟨a, rfl, q, h0, Ea.2.1, h, h ▸ Ea.2.2.2, h ▸ Ea.2.2.1⟩)))
    · exact Or.inr (Or.inl ⟨a, rfl, q, h0, Ea.2.1, h, i7 u hu (by simp [h])⟩)
  · obtain ⟨q, Ea, Eb, nab⟩ := own_q2 I
    have h0 : w0.toInt = (a : Int) := by obtain ⟨w, q1, q2⟩ := Ea.1; cases q1; exact q2
    by_cases h : u = a
    · exact Or.inr (Or.inr (Or.inr (Or.inr (Or.inl ⟨a, b, rfl, q, h0, Ea.2.1, h, h ▸ Ea.2.2.2, h ▸ Ea.2.2.1⟩))))
    · by_cases g : u = b
      · exact Or.inr (Or.inr (Or.inr (Or.inr (Or.inr (Or.inl ⟨a, b, rfl, q, h0, Ea.2.1, g, g ▸ Eb.2.2.2, g ▸ Eb.2.2.1⟩)))))
      · exact Or.inr (Or.inr (Or.inl ⟨a, b, rfl, q, h0, Ea.2.1, h, g, i7 u hu (by simp [h, g])⟩))
  · obtain ⟨q, Ea, Eb, Ed, nab, nad, nbd⟩ := own_q3 I
    have h0 : w0.toInt = (a : Int) := by obtain ⟨w, q1, q2⟩ := Ea.1; cases q1; exact q2
    have hm : u ∈ [a, b, d] := hok.resolve_right (by simp)
    rcases (by simpa using hm : u = a ∨ u = b ∨ u = d) with h | h | h
    · exact Or.inr (Or.inr (Or.inr (Or.inr (Or.inr (Or.inr (Or.inl ⟨a, b, d, rfl, q, h0, Ea.2.1, h, h ▸ Ea.2.2.2, h ▸ Ea.2.2.1⟩))))))
    · exact Or.inr (Or.inr (Or.inr (Or.inr (Or.inr (Or.inr (Or.inr (Or.inl ⟨a, b, d, rfl, q, h0, Ea.2.1, h, h ▸ Eb.2.2.2, h ▸ Eb.2.2.1⟩)))))))
    · exact Or.inr (Or.inr (Or.inr (Or.inr (Or.inr (Or.inr (Or.inr (Or.inr ⟨a, b, d, rfl, q, h0, Ea.2.1, h, h ▸ Ed.2.2.2, h ▸ Ed.2.2.1⟩)))))))
/-- the cases of a poll -/
theorem own_rc (I : QI dd hp pl ky cn A cs) (hA : A ≠ []) : ∃ w0 w1 w2 w3 w4 w5, hp = [w0, w1, w2, w3, w4, w5] ∧
    ((∃ a, A = [a] ∧ cn = 1 ∧ w0.toInt = (a : Int) ∧ a < 6 ∧ pl[a]? = some 0) ∨
     (∃ a b, A = [a, b] ∧ cn = 2 ∧ w0.toInt = (a : Int) ∧ a < 6 ∧ pl[a]? = some 0 ∧ w1.toInt = (b : Int) ∧ b < 6 ∧ a ≠ b) ∨
     (∃ a b d, A = [a, b, d] ∧ cn = 3 ∧ w0.toInt = (a : Int) ∧ a < 6 ∧ pl[a]? = some 0 ∧ w1.toInt = (b : Int) ∧ b < 6 ∧ w2.toInt = (d : Int) ∧ d < 6 ∧ a ≠ d)) := by
  obtain ⟨w0, w1, w2, w3, w4, w5, rfl⟩ := own_l6 I.1
  refine ⟨w0, w1, w2, w3, w4, w5, rfl, ?_⟩
  rcases own_as I.2.2.2.2.1 with rfl | ⟨a, rfl⟩ | ⟨a, b, rfl⟩ | ⟨a, b, d, rfl⟩
  · exact absurd rfl hA
  · obtain ⟨q, Ea⟩ := own_q1 I
    have h0 : w0.toInt = (a : Int) := by obtain ⟨w, q1, q2⟩ := Ea.1; cases q1; exact q2
    exact Or.inl ⟨a, rfl, q, h0, Ea.2.1, Ea.2.2.2⟩
  · obtain ⟨q, Ea, Eb, nab⟩ := own_q2 I
    have h0 : w0.toInt = (a : Int) := by obtain ⟨w, q1, q2⟩ := Ea.1; cases q1; exact q2
    have h1 : w1.toInt = (b : Int) := by obtain ⟨w, q1, q2⟩ := Eb.1; cases q1; exact q2
    exact Or.inr (Or.inl ⟨a, b, rfl, q, h0, Ea.2.1, Ea.2.2.2, h1, Eb.2.1, nab⟩)
  · obtain ⟨q, Ea, Eb, Ed, nab, nad, nbd⟩ := own_q3 I
    have h0 : w0.toInt = (a : Int) := by obtain ⟨w, q1, q2⟩ := Ea.1; cases q1; exact q2
    have h1 : w1.toInt = (b : Int) := by obtain ⟨w, q1, q2⟩ := Eb.1; cases q1; exact q2
    have h2 : w2.toInt = (d : Int) := by obtain ⟨w, q1, q2⟩ := Ed.1; cases q1; exact q2
    exact Or.inr (Or.inr ⟨a, b, d, rfl, q, h0, Ea.2.1, Ea.2.2.2, h1, Eb.2.1, h2, Ed.2.1, nad⟩)
end
/-! reach -/
theorem own_cp {p : Nat → Bool} {c x : Nat} : ∀ {l : List Nat} {u : Nat}, l[u]? = some x → (l.set u c).countP p + (if p x then 1 else 0) = l.countP p + (if p c then 1 else 0)
  | [], u, h => by simp at h
  | y :: l, 0, h => by simp at h; subst h; simp [List.countP_cons]; omega
  | y :: l, u + 1, h => by
    have := own_cp (p := p) (c := c) (x := x) (l := l) (u := u) (by simpa using h)
    simp [List.countP_cons]; omega
def RI (rc : Int32) (rl : List Int32) (cs : List Nat) : Prop := rl.length = 6 ∧ rc.toInt + (cs.countP (· == 2) : Int) = 6
def CI (cs : List Nat) : Prop := cs.length = 6 ∧ ∀ i, cs.getD i 0 ≤ 2
theorem own_cg {cs : List Nat} {u : Nat} (h : CI cs) (hu : u < 6) : cs[u]? = some (cs.getD u 0) := by
  rw [List.getD_eq_getElem?_getD, List.getElem?_eq_getElem (by rw [h.1]; exact hu)]; rfl
theorem own_cm {dd : Int64} {cs : List Nat} {u : Nat} (h : CI cs) (hu : u < 6) : (cs.map (fk dd))[u]? = some (fk dd (cs.getD u 0)) := by
  rw [List.getElem?_map, own_cg h hu]; rfl
theorem own_cs {cs : List Nat} {u c : Nat} (h : CI cs) (hc : c ≤ 2) : CI (cs.set u c) := by
  refine ⟨by rw [List.length_set]; exact h.1, fun i => ?_⟩
  rw [List.getD_eq_getElem?_getD, List.getElem?_set]
  have := h.2 i
  rw [List.getD_eq_getElem?_getD] at this
  split
  · split
    · exact hc
    · simp
  · exact this
theorem own_rcb {rc : Int32} {rl : List Int32} {cs : List Nat} {u : Nat} (R : RI rc rl cs) (h : CI cs) (hu : u < 6) (h2 : cs.getD u 0 = 2) : 0 ≤ rc.toInt ∧ rc.toInt < 6 := by
  have e := own_cg h hu
  have hp : 0 < cs.countP (· == 2) := List.countP_pos_iff.mpr ⟨cs.getD u 0, List.mem_of_getElem? e, by rw [h2]; rfl⟩
  have hl : cs.countP (· == 2) ≤ cs.length := List.countP_le_length
  have := R.2; rw [h.1] at hl; omega
theorem own_rs1 {rc : Int32} {rl rl' : List Int32} {cs : List Nat} {u c : Nat} (R : RI rc rl cs) (h : CI cs) (hu : u < 6) (h2 : cs.getD u 0 = 2) (hc : c ≤ 1) (hl : rl'.length = 6) : RI (rc + (1 : Int32)) rl' (cs.set u c) := by
  have b := own_rcb R h hu h2
  have q := own_cp (p := (· == 2)) (c := c) (own_cg h hu)
  rw [h2] at q
  have e : (c == 2) = false := by simp; omega
  simp [e] at q
  refine ⟨hl, ?_⟩
  have r := R.2
  have s : (rc + (1 : Int32)).toInt = rc.toInt + 1 := by
    rw [Int32.toInt_add, show (1 : Int32).toInt = 1 from rfl]
    exact Int.bmod_eq_of_le (by omega) (by omega)
  rw [s]; omega
theorem own_rs0 {rc : Int32} {rl : List Int32} {cs : List Nat} {u c : Nat} (R : RI rc rl cs) (h : CI cs) (hu : u < 6) (h2 : cs.getD u 0 ≠ 2) (hc : c ≤ 1) : RI rc rl (cs.set u c) := by
  have q := own_cp (p := (· == 2)) (c := c) (own_cg h hu)
  have e : (c == 2) = false := by simp; omega
  have f : (cs.getD u 0 == 2) = false := by rw [beq_eq_false_iff_ne]; exact h2
  simp only [e, f, Bool.false_eq_true, if_false, Nat.add_zero] at q
  refine ⟨R.1, ?_⟩
  have r := R.2
  omega
theorem own_rf0 {p q : List Nat × List Nat} {s c : Nat} (h : reachF p s c = some q) (hc : ¬ c < p.1.getD s 0) : q = p := by
  unfold reachF at h; rw [if_neg hc] at h; exact (Option.some.inj h).symm
theorem own_rf1 {p q : List Nat × List Nat} {s c : Nat} (h : reachF p s c = some q) (hc : c < p.1.getD s 0) : (s ∈ p.2 ∨ p.2.length ≤ 2) ∧ q = (p.1.set s c, putA (p.1.set s c) p.2 s) := by
  unfold reachF at h; rw [if_pos hc] at h
  split at h
  · rename_i g; exact ⟨g, (Option.some.inj h).symm⟩
  · cases h
/-! the run -/
theorem own_bind {α β : Type} {x : Option α} {f : α → Option β} {y : β} (h : x.bind f = some y) : ∃ p, x = some p ∧ f p = some y := by
  cases x with
  | none => cases h
  | some p => exact ⟨p, rfl, h⟩
theorem own_ite {α : Type} {P : Prop} [Decidable P] {x : Option α} {y : α} (h : (if P then x else none) = some y) : P ∧ x = some y := by
  split at h
  · rename_i g; exact ⟨g, h⟩
  · cases h
theorem own_e0 {b : Bool} {s c : Nat} {p q : List Nat × List Nat} (hb : b = false) (h : edgeF b s c p = some q) : p = q := by
  subst hb; exact Option.some.inj h
theorem own_e1 {b : Bool} {s c : Nat} {p q : List Nat × List Nat} (hb : b = true) (h : edgeF b s c p = some q) : reachF p s c = some q := by
  subst hb; exact h
section
variable {T M F : Nat} {n1 n2 n3 oM oF : Bool} {l1 l3 : Nat}
theorem own_run0 {n : Nat} {cs y : List Nat} (h : runF T M F n1 n2 n3 oM oF l1 l3 n cs [] = some y) : y = cs := by
  cases n <;> exact (Option.some.inj h).symm
theorem own_runS {n : Nat} {cs A y : List Nat} (hA : A ≠ []) (h : runF T M F n1 n2 n3 oM oF l1 l3 n cs A = some y) : ∃ n', n = n' + 1 ∧ ∃ q, stepF T M F n1 n2 n3 oM oF l1 l3 (pollF cs A).1 (cs, (pollF cs A).2) = some q ∧ runF T M F n1 n2 n3 oM oF l1 l3 n' q.1 q.2 = some y := by
  cases n with
  | zero => unfold runF at h; rw [if_neg hA] at h; cases h
  | succ n =>
    unfold runF at h; rw [if_neg hA] at h
    obtain ⟨q, h1, h2⟩ := own_bind h
    exact ⟨n, rfl, q, h1, h2⟩
end
abbrev LL (l1 l3 : Nat) : Prop := (l1 = 0 ∧ l3 = 0) ∨ (l1 = 0 ∧ l3 = 1) ∨ (l1 = 1 ∧ l3 = 0)
theorem own_okx {T M F : Nat} {n1 n2 n3 oM oF : Bool} {l1 l3 : Nat} (h : okF T M F n1 n2 n3 oM oF l1 l3 = true) : ∃ p0 csF, reachF ([2, 2, 2, 2, 2, 2], []) (2 * T) 0 = some p0 ∧ runF T M F n1 n2 n3 oM oF l1 l3 6 p0.1 p0.2 = some csF ∧ finF T M F oM oF n1 n2 l1 l3 csF = true := by
  unfold okF at h
  split at h
  · rename_i p hp
    split at h
    · rename_i cs hc; exact ⟨p, cs, hp, hc, h⟩
    · cases h
  · cases h
theorem own_ok0 (n1 n2 n3 oM oF : Bool) {l1 l3 : Nat} (h : LL l1 l3) : okF 0 1 2 n1 n2 n3 oM oF l1 l3 = true := by
  have q := own_ok n1 n2 n3 oM oF
  simp only [Bool.and_eq_true] at q
  rcases h with ⟨rfl, rfl⟩ | ⟨rfl, rfl⟩ | ⟨rfl, rfl⟩
  · exact q.1.1.1.1.1.1.1.1
  · exact q.1.1.1.1.1.1.1.2
  · exact q.1.1.1.1.1.1.2
theorem own_ok1 (n1 n2 n3 oM oF : Bool) {l1 l3 : Nat} (h : LL l1 l3) : okF 1 2 0 n1 n2 n3 oM oF l1 l3 = true := by
  have q := own_ok n1 n2 n3 oM oF
  simp only [Bool.and_eq_true] at q
  rcases h with ⟨rfl, rfl⟩ | ⟨rfl, rfl⟩ | ⟨rfl, rfl⟩
  · exact q.1.1.1.1.1.2
  · exact q.1.1.1.1.2
  · exact q.1.1.1.2
theorem own_ok2 (n1 n2 n3 oM oF : Bool) {l1 l3 : Nat} (h : LL l1 l3) : okF 2 0 1 n1 n2 n3 oM oF l1 l3 = true := by
  have q := own_ok n1 n2 n3 oM oF
  simp only [Bool.and_eq_true] at q
  rcases h with ⟨rfl, rfl⟩ | ⟨rfl, rfl⟩ | ⟨rfl, rfl⟩
  · exact q.1.1.2
  · exact q.1.2
  · exact q.2

/-! the law's numbers -/
def lenF (k x y : Int64) : Int64 := if k.toInt = (9223372036854775807 : Int64).toInt then 9223372036854775807 else (k - x) + y
theorem own_lx {dd : Int64} (hD : DD dd) {c : Nat} (hc : c ≤ 1) : ¬ (fk dd c).toInt = (9223372036854775807 : Int64).toInt := by
  have e : (9223372036854775807 : Int64).toInt = 9223372036854775807 := by decide
  have z : (0 : Int64).toInt = 0 := rfl
  have a3 : c = 0 ∨ c = 1 := by omega
  rw [e]
  rcases a3 with rfl | rfl <;> simp [fk, z] <;> omega
theorem own_lm {dd x y : Int64} : lenF (fk dd 2) x y = 9223372036854775807 := by
  unfold lenF; rw [if_pos]; rfl
theorem own_l0 {dd x : Int64} (hD : DD dd) : lenF (fk dd 0) x x = 0 := by
  unfold lenF; rw [if_neg (own_lx hD (by decide))]
  show (0 - x) + x = 0
  rw [Int64.sub_add_cancel]
theorem own_lc {dd x y v : Int64} {c : Nat} (hD : DD dd) (hc : c ≤ 1) (h : (v + x) - y = fk dd c) : lenF (fk dd c) x y = v := by
  unfold lenF; rw [if_neg (own_lx hD hc), ← h]
  rw [Int64.sub_eq_add_neg, Int64.sub_eq_add_neg, Int64.add_assoc v x, Int64.add_comm x, ← Int64.add_assoc v, Int64.add_assoc _ x, Int64.add_right_neg, Int64.add_zero, Int64.add_assoc, Int64.add_left_neg, Int64.add_zero]
theorem own_hL2 {w2 sc : Int64} (x : Int64) : ((x + w2) + sc) - (sc + w2) = x := by
  rw [Int64.add_assoc, Int64.add_comm w2 sc, Int64.add_sub_cancel]
theorem own_a64 {x y : Int64} (h : -4611686018427387904 ≤ x.toInt ∧ x.toInt ≤ 4611686018427387903) (g : -4611686018427387904 ≤ y.toInt ∧ y.toInt ≤ 4611686018427387903) : (x + y).toInt = x.toInt + y.toInt ∧ (x - y).toInt = x.toInt - y.toInt := by
  rw [Int64.toInt_add, Int64.toInt_sub]
  exact ⟨Int.bmod_eq_of_le (by omega) (by omega), Int.bmod_eq_of_le (by omega) (by omega)⟩
abbrev B32 (x : Int64) : Prop := -2147483648 ≤ x.toInt ∧ x.toInt ≤ 2147483647
theorem own_D {w1 w2 w3 sc mn : Int64} (b1 : B32 w1) (b2 : B32 w2) (b3 : B32 w3) (b4 : B32 sc) (hm : mn.toInt ≤ (w2 + w1).toInt ∧ mn.toInt ≤ w3.toInt ∧ (mn.toInt = (w2 + w1).toInt ∨ mn.toInt = w3.toInt)) :
    ∃ (dd : Int64) (l1 l3 : Nat), DD dd ∧ LL l1 l3 ∧ ((fk dd 0 + w1) + (sc + w2)) - (sc + mn) = fk dd l1 ∧ ((fk dd 0 + w3) + sc) - (sc + mn) = fk dd l3 := by
  have e1 := (own_a64 (x := w2) (y := w1) (by omega) (by omega)).1
  rw [e1] at hm
  have bm : -4294967296 ≤ mn.toInt ∧ mn.toInt ≤ 4294967296 := by omega
  have e2 := (own_a64 (x := sc) (y := w2) (by omega) (by omega)).1
  have e3 := (own_a64 (x := sc) (y := mn) (by omega) (by omega)).1
  have z : (0 : Int64).toInt = 0 := rfl
  have e4 : ((0 : Int64) + w1) = w1 := Int64.zero_add _
  have e5 : ((0 : Int64) + w3) = w3 := Int64.zero_add _
  have e6 := (own_a64 (x := w1) (y := sc + w2) (by omega) (by omega)).1
  have e7 := (own_a64 (x := w3) (y := sc) (by omega) (by omega)).1
  have e8 := (own_a64 (x := w1 + (sc + w2)) (y := sc + mn) (by omega) (by omega)).2
  have e9 := (own_a64 (x := w3 + sc) (y := sc + mn) (by omega) (by omega)).2
  have f0 : ∀ d, fk d 0 = 0 := fun _ => rfl
  have f1 : ∀ d, fk d 1 = d := fun _ => rfl
  rcases Int.lt_or_le 0 ((w1 + (sc + w2)) - (sc + mn)).toInt with h | h
  · refine ⟨(w1 + (sc + w2)) - (sc + mn), 1, 0, ⟨h, by omega⟩, Or.inr (Or.inr ⟨rfl, rfl⟩), ?_, ?_⟩
    · rw [f0, f1, e4]
    · rw [f0, e5]; exact Int64.toInt_inj.mp (by rw [z]; omega)
  · rcases Int.lt_or_le 0 ((w3 + sc) - (sc + mn)).toInt with g | g
    · refine ⟨(w3 + sc) - (sc + mn), 0, 1, ⟨g, by omega⟩, Or.inr (Or.inl ⟨rfl, rfl⟩), ?_, ?_⟩
      · rw [f0, e4]; exact Int64.toInt_inj.mp (by rw [z]; omega)
      · rw [f0, f1, e5]
    · refine ⟨1, 0, 0, ⟨by decide, by decide⟩, Or.inl ⟨rfl, rfl⟩, ?_, ?_⟩
      · rw [f0, e4]; exact Int64.toInt_inj.mp (by rw [z]; omega)
      · rw [f0, e5]; exact Int64.toInt_inj.mp (by rw [z]; omega)
section
variable {T M F : Nat} {n1 n2 oM oF : Bool} {l1 l3 : Nat} {cs : List Nat} {dd w1 w2 w3 sc mn : Int64}
theorem own_f0 (h : finF T M F oM oF n1 n2 l1 l3 cs = true) : cs.length = 6 ∧ cs.getD (2 * T + 1) 0 = 0 ∧ cs.getD (2 * M + 1) 0 = (if oM then 2 else l1) ∧ cs.getD (2 * F + 1) 0 = (if !oM && !(!n2 && n1) then (if oF then l1 else if l1 < l3 then l1 else l3) else (if oF then 2 else l3)) := by
  unfold finF at h
  have h1 := Bool.and_eq_true_iff.mp h
  have h2 := Bool.and_eq_true_iff.mp h1.1
  have h3 := Bool.and_eq_true_iff.mp h2.1
  exact ⟨eq_of_beq h3.1, eq_of_beq h3.2, eq_of_beq h2.2, eq_of_beq h1.2⟩
theorem own_ll (h : LL l1 l3) : l1 ≤ 1 ∧ l3 ≤ 1 ∧ (if l1 < l3 then l1 else l3) = 0 := by
  rcases h with ⟨rfl, rfl⟩ | ⟨rfl, rfl⟩ | ⟨rfl, rfl⟩ <;> decide
theorem own_vT (hD : DD dd) (h : finF T M F oM oF n1 n2 l1 l3 cs = true) : lenF (fk dd (cs.getD (2 * T + 1) 0)) (sc + mn) (sc + mn) = 0 := by
  rw [(own_f0 h).2.1]; exact own_l0 hD
theorem own_vM1 (h : finF T M F true oF n1 n2 l1 l3 cs = true) {x y : Int64} : lenF (fk dd (cs.getD (2 * M + 1) 0)) x y = 9223372036854775807 := by
  rw [(own_f0 h).2.2.1]; exact own_lm
theorem own_vM0 (hD : DD dd) (hl : LL l1 l3) (h : finF T M F false oF n1 n2 l1 l3 cs = true) (h1 : ((fk dd 0 + w1) + (sc + w2)) - (sc + mn) = fk dd l1) : lenF (fk dd (cs.getD (2 * M + 1) 0)) (sc + w2) (sc + mn) = w1 := by
  rw [(own_f0 h).2.2.1]
  refine own_lc hD (own_ll hl).1 ?_
  rw [show fk dd 0 = 0 from rfl, Int64.zero_add] at h1; exact h1
theorem own_vFn1 (h : finF T M F oM true n1 n2 l1 l3 cs = true) (hv : (!oM && !(!n2 && n1)) = false) {x y : Int64} : lenF (fk dd (cs.getD (2 * F + 1) 0)) x y = 9223372036854775807 := by
  rw [(own_f0 h).2.2.2, hv]; exact own_lm
theorem own_vFn0 (hD : DD dd) (hl : LL l1 l3) (h : finF T M F oM false n1 n2 l1 l3 cs = true) (hv : (!oM && !(!n2 && n1)) = false) (h3 : ((fk dd 0 + w3) + sc) - (sc + mn) = fk dd l3) : lenF (fk dd (cs.getD (2 * F + 1) 0)) sc (sc + mn) = w3 := by
  rw [(own_f0 h).2.2.2, hv]
  refine own_lc hD (own_ll hl).2.1 ?_
  rw [show fk dd 0 = 0 from rfl, Int64.zero_add] at h3; exact h3
theorem own_vFv1 (hD : DD dd) (hl : LL l1 l3) (h : finF T M F oM true n1 n2 l1 l3 cs = true) (hv : (!oM && !(!n2 && n1)) = true) (h1 : ((fk dd 0 + w1) + (sc + w2)) - (sc + mn) = fk dd l1) : lenF (fk dd (cs.getD (2 * F + 1) 0)) sc (sc + mn) = w2 + w1 := by
  rw [(own_f0 h).2.2.2, hv]
  refine own_lc hD (own_ll hl).1 ?_
  rw [show fk dd 0 = 0 from rfl, Int64.zero_add, ← Int64.add_assoc, Int64.add_comm (w1 + sc), ← Int64.add_assoc] at h1; exact h1
theorem own_vFv0 (hD : DD dd) (hl : LL l1 l3) (h : finF T M F oM false n1 n2 l1 l3 cs = true) (hv : (!oM && !(!n2 && n1)) = true) : lenF (fk dd (cs.getD (2 * F + 1) 0)) sc (sc + mn) = mn := by
  rw [(own_f0 h).2.2.2, hv]
  show lenF (fk dd (if l1 < l3 then l1 else l3)) sc (sc + mn) = mn
  rw [(own_ll hl).2.2]
  refine own_lc hD (by decide) ?_
  rw [Int64.add_comm mn sc, Int64.sub_self]; rfl
theorem own_mx {x r : Int64} (h : r.toInt ≤ (9223372036854775807 : Int64).toInt ∧ r.toInt ≤ x.toInt ∧ (r.toInt = (9223372036854775807 : Int64).toInt ∨ r.toInt = x.toInt)) : r = x := by
  have e : (9223372036854775807 : Int64).toInt = 9223372036854775807 := by decide
  have q : x.toInt ≤ 9223372036854775807 := e ▸ Int64.toInt_le x
  exact Int64.toInt_inj.mp (by rw [e] at h; omega)
theorem own_mm {x y r m : Int64} (h : r.toInt ≤ y.toInt ∧ r.toInt ≤ x.toInt ∧ (r.toInt = y.toInt ∨ r.toInt = x.toInt)) (g : m.toInt ≤ x.toInt ∧ m.toInt ≤ y.toInt ∧ (m.toInt = x.toInt ∨ m.toInt = y.toInt)) : r = m := Int64.toInt_inj.mp (by omega)
end
theorem own_tnn {z : Int} {i : Nat} (h : z = (i : Int)) : z = (z.toNat : Int) := by omega
theorem own_lt6 {z : Int} {i n : Nat} (h : z = (i : Int)) (h6 : i < 6) (hl : n = 6) : z.toNat < n := by omega
theorem own_gdJ {vs : List Int64} {i : Nat} (h : i < vs.length) : vs[i]? = some (vs.getD i 0) := by
  rw [List.getD_eq_getElem?_getD, List.getElem?_eq_getElem h]; rfl
theorem own_sg {l : List Int32} {i : Nat} {x : Int32} (h : i < l.length) : (l.set i x)[i]? = some x := List.getElem?_set_self h
theorem own_fn {a b n : Nat} (h : a = b + 1) (g : a < n + 1) : b < n := by omega
theorem own_bb (b : Bool) : b = true ∨ b = false := by cases b <;> simp
theorem own_lp {k x y : Int64} (h : k.toInt = (9223372036854775807 : Int64).toInt) : lenF k x y = 9223372036854775807 := by unfold lenF; rw [if_pos h]
theorem own_lq {k x y : Int64} (h : k.toInt ≠ (9223372036854775807 : Int64).toInt) : lenF k x y = (k - x) + y := by unfold lenF; rw [if_neg h]
theorem own_ae {dd : Int64} {hp pl : List Int32} {ky : List Int64} {cn : Int32} {A cs : List Nat} (I : QI dd hp pl ky cn A cs) (h : decide (cn.toInt = 0) = true) : A = [] := by
  have := of_decide_eq_true h; have q := I.2.2.2.1
  exact List.length_eq_zero_iff.mp (by omega)
theorem own_ane {dd : Int64} {hp pl : List Int32} {ky : List Int64} {cn : Int32} {A cs : List Nat} (I : QI dd hp pl ky cn A cs) (h : decide (cn.toInt = 0) = false) : A ≠ [] := by
  intro e; subst e; exact absurd I.2.2.2.1 (of_decide_eq_false h)
theorem own_h0 {dd : Int64} {hp pl : List Int32} {ky : List Int64} {cn : Int32} {A cs : List Nat} (I : QI dd hp pl ky cn A cs) (hA : A ≠ []) : ∃ w, hp[0]? = some w ∧ w.toInt = ((pollF cs A).1 : Int) ∧ (pollF cs A).1 < 6 := by
  rcases own_as I.2.2.2.2.1 with rfl | ⟨a, rfl⟩ | ⟨a, b, rfl⟩ | ⟨a, b, d, rfl⟩
  · exact absurd rfl hA
  · obtain ⟨⟨w, h1, h2⟩, h6, -⟩ := I.2.2.2.2.2.1 0 a rfl; exact ⟨w, h1, h2, h6⟩
  · obtain ⟨⟨w, h1, h2⟩, h6, -⟩ := I.2.2.2.2.2.1 0 a rfl; exact ⟨w, h1, h2, h6⟩
  · obtain ⟨⟨w, h1, h2⟩, h6, -⟩ := I.2.2.2.2.2.1 0 a rfl; exact ⟨w, h1, h2, h6⟩
theorem own_i0 {dd : Int64} : QI dd [0, 0, 0, 0, 0, 0] [-1, -1, -1, -1, -1, -1] [0, 0, 0, 0, 0, 0] 0 [] [2, 2, 2, 2, 2, 2] := by
  refine own_mk0 rfl rfl rfl ?_
  intro v hv
  have : v = 0 ∨ v = 1 ∨ v = 2 ∨ v = 3 ∨ v = 4 ∨ v = 5 := by omega
  rcases this with rfl | rfl | rfl | rfl | rfl | rfl <;> rfl
theorem own_r0 : RI 0 [0, 0, 0, 0, 0, 0] [2, 2, 2, 2, 2, 2] := ⟨rfl, by decide⟩
theorem own_ci0 : CI [2, 2, 2, 2, 2, 2] := by
  refine ⟨rfl, fun i => ?_⟩
  rcases Nat.lt_or_ge i 6 with h | h
  · have : i = 0 ∨ i = 1 ∨ i = 2 ∨ i = 3 ∨ i = 4 ∨ i = 5 := by omega
    rcases this with rfl | rfl | rfl | rfl | rfl | rfl <;> decide
  · rw [List.getD_eq_getElem?_getD, List.getElem?_eq_none (by simpa using h)]; simp
theorem own_stT0 {rr : Fin 3} {n1 n2 n3 oM oF : Bool} {l1 l3 : Nat} (p : List Nat × List Nat) : stepF (tN rr 0 1 2) (tN rr 1 2 0) (tN rr 2 0 1) n1 n2 n3 oM oF l1 l3 (tN rr 0 2 4) p = (if p.1.getD (tN rr 0 2 4) 0 = 0 then (reachF p (tN rr 1 3 5) (p.1.getD (tN rr 0 2 4) 0)).bind fun p => if p.1.getD (tN rr 0 2 4) 0 = 0 then (edgeF (!n1 && !oM) (tN rr 2 4 0) l1 p).bind fun p => if p.1.getD (tN rr 0 2 4) 0 = 0 then edgeF (!n3 && !oF) (tN rr 4 0 2) l3 p else none else none else none) := by apply tri3 rr <;> rfl
theorem own_stT1 {rr : Fin 3} {n1 n2 n3 oM oF : Bool} {l1 l3 : Nat} (p : List Nat × List Nat) : stepF (tN rr 0 1 2) (tN rr 1 2 0) (tN rr 2 0 1) n1 n2 n3 oM oF l1 l3 (tN rr 1 3 5) p = (if p.1.getD (tN rr 1 3 5) 0 = 0 then (edgeF (n1 && !oM) (tN rr 3 5 1) l1 p).bind fun p => if p.1.getD (tN rr 1 3 5) 0 = 0 then edgeF (n3 && !oF) (tN rr 5 1 3) l3 p else none else none) := by apply tri3 rr <;> rfl
theorem own_stM0 {rr : Fin 3} {n1 n2 n3 oM oF : Bool} {l1 l3 : Nat} (p : List Nat × List Nat) : stepF (tN rr 0 1 2) (tN rr 1 2 0) (tN rr 2 0 1) n1 n2 n3 oM oF l1 l3 (tN rr 2 4 0) p = (if p.1.getD (tN rr 2 4 0) 0 ≤ 1 then (reachF p (tN rr 3 5 1) (p.1.getD (tN rr 2 4 0) 0)).bind fun p => if p.1.getD (tN rr 2 4 0) 0 ≤ 1 then edgeF (!n2) (tN rr 4 0 2) (p.1.getD (tN rr 2 4 0) 0) p else none else none) := by apply tri3 rr <;> rfl
theorem own_stM1 {rr : Fin 3} {n1 n2 n3 oM oF : Bool} {l1 l3 : Nat} (p : List Nat × List Nat) : stepF (tN rr 0 1 2) (tN rr 1 2 0) (tN rr 2 0 1) n1 n2 n3 oM oF l1 l3 (tN rr 3 5 1) p = (if p.1.getD (tN rr 3 5 1) 0 ≤ 1 then edgeF n2 (tN rr 5 1 3) (p.1.getD (tN rr 3 5 1) 0) p else none) := by apply tri3 rr <;> rfl
theorem own_stF0 {rr : Fin 3} {n1 n2 n3 oM oF : Bool} {l1 l3 : Nat} (p : List Nat × List Nat) : stepF (tN rr 0 1 2) (tN rr 1 2 0) (tN rr 2 0 1) n1 n2 n3 oM oF l1 l3 (tN rr 4 0 2) p = (if p.1.getD (tN rr 4 0 2) 0 ≤ 1 then reachF p (tN rr 5 1 3) (p.1.getD (tN rr 4 0 2) 0) else none) := by apply tri3 rr <;> rfl
theorem own_stF1 {rr : Fin 3} {n1 n2 n3 oM oF : Bool} {l1 l3 : Nat} (p : List Nat × List Nat) : stepF (tN rr 0 1 2) (tN rr 1 2 0) (tN rr 2 0 1) n1 n2 n3 oM oF l1 l3 (tN rr 5 1 3) p = (some p) := by apply tri3 rr <;> rfl
theorem own_c6r {a : Nat} (rr : Fin 3) (h : a < 6) : a = tN rr 0 2 4 ∨ a = tN rr 1 3 5 ∨ a = tN rr 2 4 0 ∨ a = tN rr 3 5 1 ∨ a = tN rr 4 0 2 ∨ a = tN rr 5 1 3 := by
  have h : a = 0 ∨ a = 1 ∨ a = 2 ∨ a = 3 ∨ a = 4 ∨ a = 5 := by omega
  rcases h with rfl | rfl | rfl | rfl | rfl | rfl <;> (apply trd3 rr; decide)
theorem own_okr (rr : Fin 3) (n1 n2 n3 oM oF : Bool) {l1 l3 : Nat} (h : LL l1 l3) : okF (tN rr 0 1 2) (tN rr 1 2 0) (tN rr 2 0 1) n1 n2 n3 oM oF l1 l3 = true := by
  apply tri3 rr
  · exact own_ok0 _ _ _ _ _ h
  · exact own_ok1 _ _ _ _ _ h
  · exact own_ok2 _ _ _ _ _ h

def RM_rm1 : Room := ({ frames := 0, cells := 0, slots := 0, locals := 0 } : Room)
abbrev b1 := jdk_29_method_70_code
theorem d1_0 : decode b1 0 = .ok (.lload_n 0, 1) := by decide +kernel
theorem d1_1 : decode b1 1 = .ok (.lload_n 2, 1) := by decide +kernel
theorem d1_2 : decode b1 2 = .ok (.lcmp, 1) := by decide +kernel
theorem d1_3 : decode b1 3 = .ok (.ifCond .gt 7, 3) := by decide +kernel
theorem d1_6 : decode b1 6 = .ok (.lload_n 0, 1) := by decide +kernel
theorem d1_7 : decode b1 7 = .ok (.goto 4, 3) := by decide +kernel
theorem d1_10 : decode b1 10 = .ok (.lload_n 2, 1) := by decide +kernel
theorem d1_11 : decode b1 11 = .ok (.lreturn, 1) := by decide +kernel
theorem ef_1 (m : MethodId) (z0 : Int64) (z1 : Int64) : entryFrame m #[.long z0, .long z1] 4 = mkF m 0 #[vJ z0, s2, vJ z1, s2] [] := by first | (simp [entryFrame, mkF, argsToLocals, Value.category]; done) | rfl
theorem pn_0 : plainFor (⟨"java/lang/Math", "min", "(JJ)J"⟩ : MethodName) = true := by exact (Jvm.Free.JP.mathPlain rfl (by decide +kernel))
set_option maxRecDepth 65536 in
set_option maxHeartbeats 40000000 in
theorem rm1 (l : Launch) (Z : State) (a0 : Array Value) (hw : ∀ d ∈ tables_1, d.before a0 Z = true) (ws : List Jvm.Cond) (ma : Int64) (mb : Int64) (h0 : Heap) (n0 : Nat) (Z0 : n0 ≤ h0.size) :
    Ctr l Z (⟨"java/lang/Math", "min", "(JJ)J"⟩ : MethodName) jdk_29_method_70_code 4 (some .long) RM_rm1 ws #[.long ma, .long mb] h0 (JQ (fun r => r.toInt ≤ ma.toInt ∧ r.toInt ≤ mb.toInt ∧ (r.toInt = ma.toInt ∨ r.toInt = mb.toInt)) h0) := by
  refine Ctr.of pn_0 ?_
  intro p e s m below meth c s₁ hx hby hml hrt hlk hnm hown hZ X0 e0
  have N0 := Fr.nil n0
  have D := @hb _ _ hby
  refine Go.cast (ef_1 m ma mb) ?_
  refine g_lloadN X0 hx (D d1_0) rfl rfl (g_lloadN X0 hx (D d1_1) rfl rfl ?_)
  refine g_lcmp_gt (q := 10) (q1 := 3) (q0 := 6) X0 hx (D d1_2) rfl (D d1_3) (by decide) (by decide) rfl ?_ ?_
  ·intro c1
   refine g_lloadN X0 hx (D d1_10) rfl rfl ?_
   exact g_lreturn X0 hx hlk hrt (D d1_11) (by decide) (by decide) ⟨_, rfl, (show mb.toInt ≤ ma.toInt ∧ mb.toInt ≤ mb.toInt ∧ (mb.toInt = ma.toInt ∨ mb.toInt = mb.toInt) by (try simp only [Int32.reduceToInt, Int64.reduceToInt, true_and, and_true, not_true_eq_false, not_false_eq_true, false_and, or_false, false_or] at c1); have f1 := rng64 mb; (try simp only [Int32.reduceToInt, Int64.reduceToInt] at f1); have f3 := rng64 ma; (try simp only [Int32.reduceToInt, Int64.reduceToInt] at f3); (try simp only [Int32.reduceToInt, Int64.reduceToInt, and_true, true_and, or_true, true_or]); (first | done | omega)), e0, rfl⟩
  intro c1
  refine g_lloadN X0 hx (D d1_6) rfl rfl (g_goto (q := 11) X0 hx (D d1_7) (by decide) (by decide) ?_)
  exact g_lreturn X0 hx hlk hrt (D d1_11) (by decide) (by decide) ⟨_, rfl, (show ma.toInt ≤ ma.toInt ∧ ma.toInt ≤ mb.toInt ∧ (ma.toInt = ma.toInt ∨ ma.toInt = mb.toInt) by (try simp only [Int32.reduceToInt, Int64.reduceToInt, true_and, and_true, not_true_eq_false, not_false_eq_true, false_and, or_false, false_or] at c1); have f1 := rng64 mb; (try simp only [Int32.reduceToInt, Int64.reduceToInt] at f1); have f3 := rng64 ma; (try simp only [Int32.reduceToInt, Int64.reduceToInt] at f3); (try simp only [Int32.reduceToInt, Int64.reduceToInt, and_true, true_and, or_true, true_or]); (first | done | omega)), e0, rfl⟩
def RM_rm5 : Room := ({ frames := 0, cells := 0, slots := 0, locals := 0 } : Room)
abbrev b5 := jdk_29_method_69_code
theorem d5_0 : decode b5 0 = .ok (.iload_n 0, 1) := by decide +kernel
theorem d5_1 : decode b5 1 = .ok (.iload_n 1, 1) := by decide +kernel
theorem d5_2 : decode b5 2 = .ok (.if_icmp .gt 7, 3) := by decide +kernel
theorem d5_5 : decode b5 5 = .ok (.iload_n 0, 1) := by decide +kernel
theorem d5_6 : decode b5 6 = .ok (.goto 4, 3) := by decide +kernel
theorem d5_9 : decode b5 9 = .ok (.iload_n 1, 1) := by decide +kernel
theorem d5_10 : decode b5 10 = .ok (.ireturn, 1) := by decide +kernel
theorem ef_5 (m : MethodId) (z0 : Int32) (z1 : Int32) : entryFrame m #[.int z0, .int z1] 2 = mkF m 0 #[vI z0, vI z1] [] := by first | (simp [entryFrame, mkF, argsToLocals, Value.category]; done) | rfl
theorem pn_1 : plainFor (⟨"java/lang/Math", "min", "(II)I"⟩ : MethodName) = true := by exact (Jvm.Free.JP.mathPlain rfl (by decide +kernel))
set_option maxRecDepth 65536 in
set_option maxHeartbeats 40000000 in
theorem rm5 (l : Launch) (Z : State) (a0 : Array Value) (hw : ∀ d ∈ tables_1, d.before a0 Z = true) (ws : List Jvm.Cond) (ma : Int32) (mb : Int32) (h0 : Heap) (n0 : Nat) (Z0 : n0 ≤ h0.size) :
    Ctr l Z (⟨"java/lang/Math", "min", "(II)I"⟩ : MethodName) jdk_29_method_69_code 2 (some .int) RM_rm5 ws #[.int ma, .int mb] h0 (IQ (fun r => r.toInt ≤ ma.toInt ∧ r.toInt ≤ mb.toInt ∧ (r.toInt = ma.toInt ∨ r.toInt = mb.toInt)) h0) := by
  refine Ctr.of pn_1 ?_
  intro p e s m below meth c s₁ hx hby hml hrt hlk hnm hown hZ X0 e0
  have N0 := Fr.nil n0
  have D := @hb _ _ hby
  refine Go.cast (ef_5 m ma mb) ?_
  refine g_iloadN X0 hx (D d5_0) rfl rfl (g_iloadN X0 hx (D d5_1) rfl rfl ?_)
  refine g_icmp_gt (q := 9) (q0 := 5) X0 hx (D d5_2) (by decide) (by decide) rfl ?_ ?_
  ·intro c1
   refine g_iloadN X0 hx (D d5_9) rfl rfl ?_
   exact g_ireturn X0 hx hlk hrt (D d5_10) (by decide) (by decide) ⟨_, rfl, (show mb.toInt ≤ ma.toInt ∧ mb.toInt ≤ mb.toInt ∧ (mb.toInt = ma.toInt ∨ mb.toInt = mb.toInt) by (try simp only [Int32.reduceToInt, Int64.reduceToInt, true_and, and_true, not_true_eq_false, not_false_eq_true, false_and, or_false, false_or] at c1); have f1 := rng32 mb; (try simp only [Int32.reduceToInt, Int64.reduceToInt] at f1); have f3 := rng32 ma; (try simp only [Int32.reduceToInt, Int64.reduceToInt] at f3); (try simp only [Int32.reduceToInt, Int64.reduceToInt, and_true, true_and, or_true, true_or]); (first | done | omega)), e0, rfl⟩
  intro c1
  refine g_iloadN X0 hx (D d5_5) rfl rfl (g_goto (q := 10) X0 hx (D d5_6) (by decide) (by decide) ?_)
  exact g_ireturn X0 hx hlk hrt (D d5_10) (by decide) (by decide) ⟨_, rfl, (show ma.toInt ≤ ma.toInt ∧ ma.toInt ≤ mb.toInt ∧ (ma.toInt = ma.toInt ∨ ma.toInt = mb.toInt) by (try simp only [Int32.reduceToInt, Int64.reduceToInt, true_and, and_true, not_true_eq_false, not_false_eq_true, false_and, or_false, false_or] at c1); have f1 := rng32 mb; (try simp only [Int32.reduceToInt, Int64.reduceToInt] at f1); have f3 := rng32 ma; (try simp only [Int32.reduceToInt, Int64.reduceToInt] at f3); (try simp only [Int32.reduceToInt, Int64.reduceToInt, and_true, true_and, or_true, true_or]); (first | done | omega)), e0, rfl⟩
def RM_rm9 : Room := ({ frames := 0, cells := 0, slots := 0, locals := 0 } : Room)
abbrev b9 := jdk_65_method_103_code
theorem d9_0 : decode b9 0 = .ok (.iconst 0, 1) := by decide +kernel
theorem d9_1 : decode b9 1 = .ok (.istore_n 2, 1) := by decide +kernel
theorem d9_2 : decode b9 2 = .ok (.aload_n 0, 1) := by decide +kernel
theorem d9_3 : decode b9 3 = .ok (.arraylength, 1) := by decide +kernel
theorem d9_4 : decode b9 4 = .ok (.istore_n 3, 1) := by decide +kernel
theorem d9_5 : decode b9 5 = .ok (.iload_n 2, 1) := by decide +kernel
theorem d9_6 : decode b9 6 = .ok (.iload_n 3, 1) := by decide +kernel
theorem d9_7 : decode b9 7 = .ok (.if_icmp .ge 13, 3) := by decide +kernel
theorem d9_10 : decode b9 10 = .ok (.aload_n 0, 1) := by decide +kernel
theorem d9_11 : decode b9 11 = .ok (.iload_n 2, 1) := by decide +kernel
theorem d9_12 : decode b9 12 = .ok (.iload_n 1, 1) := by decide +kernel
theorem d9_13 : decode b9 13 = .ok (.iastore, 1) := by decide +kernel
theorem d9_14 : decode b9 14 = .ok (.iinc 2 1, 3) := by decide +kernel
theorem d9_17 : decode b9 17 = .ok (.goto (-12), 3) := by decide +kernel
theorem d9_20 : decode b9 20 = .ok (.return_, 1) := by decide +kernel
theorem ef_9 (m : MethodId) (z0 : Addr) (z1 : Int32) : entryFrame m #[.ref z0, .int z1] 4 = mkF m 0 #[vR z0, vI z1, u0, u0] [] := by first | (simp [entryFrame, mkF, argsToLocals, Value.category]; done) | rfl
theorem pn_2 : plainName "java/util/Arrays" = true := by first | (simp [plainName, overriddenIn]; done) | decide +kernel
set_option maxRecDepth 65536 in
set_option maxHeartbeats 40000000 in
theorem rm9 (l : Launch) (Z : State) (a0 : Array Value) (hw : ∀ d ∈ tables_1, d.before a0 Z = true) (ws : List Jvm.Cond) (o : Addr) (h0 : Heap) (n0 : Nat) (Z0 : n0 ≤ h0.size) (A0_ : IA Z h0 o ([0, 0, 0, 0, 0, 0] : List Int32)) (go_ : n0 ≤ o) :
    Ctr l Z (⟨"java/util/Arrays", "fill", "([II)V"⟩ : MethodName) jdk_65_method_103_code 4 none RM_rm9 ws #[.ref o, .int (-1)] h0 (fun v h L => v = none ∧ Fr n0 L ∧ Keep h0 h [o] ∧ IA Z h o ([-1, -1, -1, -1, -1, -1] : List Int32)) := by
  refine Ctr.of (plainFor_of_name pn_2) ?_
  intro p e s m below meth c s₁ hx hby hml hrt hlk hnm hown hZ X0 e0
  have N0 := Fr.nil n0
  have D := @hb _ _ hby
  refine Go.cast (ef_9 m o (-1 : Int32)) ?_
  refine g_iconst (v := (0 : Int32)) X0 hx (D d9_0) rfl rfl (g_istoreN (L' := #[vR o, vI (-1), vI 0, u0]) X0 hx (D d9_1) rfl rfl (g_aloadN X0 hx (D d9_2) rfl rfl rfl (g_alen (v := (6 : Int32)) X0 hx hZ e0 A0_ rfl (D d9_3) rfl (g_istoreN (L' := #[vR o, vI (-1), vI 0, vI 6]) X0 hx (D d9_4) rfl rfl (g_iloadN X0 hx (D d9_5) rfl rfl (g_iloadN X0 hx (D d9_6) rfl rfl (g_icmp_ge (q := 20) (q0 := 10) X0 hx (D d9_7) (by decide) (by decide) rfl (fun h => absurd h (by decide)) fun c1 => (g_aloadN X0 hx (D d9_10) rfl rfl rfl (g_iloadN X0 hx (D d9_11) rfl rfl (g_iloadN X0 hx (D d9_12) rfl rfl (g_istore_ (i := 0) (v := (-1 : Int32)) X0 hx hZ e0 A0_ rfl (by show 0 < 6; decide) (D d9_13) rfl fun T2 h2 X2 e2 W2 A2 => ?_)))))))))))
  replace A2 : IA Z h2 o ([-1, 0, 0, 0, 0, 0] : List Int32) := A2
  have K3 := Keep.wr (Keep.refl h0 [o]) W2 (Or.inl (by simp))
  have N5 := Fr.snoc X2 N0 go_
  have Z6 := zW Z0 W2
  refine g_iinc (v := (1 : Int32)) (L' := #[vR o, vI (-1), vI 1, vI 6]) X2 hx (D d9_14) rfl rfl rfl rfl (g_goto (q := 5) X2 hx (D d9_17) (by decide) (by decide) (g_iloadN X2 hx (D d9_5) rfl rfl (g_iloadN X2 hx (D d9_6) rfl rfl (g_icmp_ge (q := 20) (q0 := 10) X2 hx (D d9_7) (by decide) (by decide) rfl (fun h => absurd h (by decide)) fun c7 => (g_aloadN X2 hx (D d9_10) rfl rfl rfl (g_iloadN X2 hx (D d9_11) rfl rfl (g_iloadN X2 hx (D d9_12) rfl rfl (g_istore_ (i := 1) (v := (-1 : Int32)) X2 hx hZ e2 A2 rfl (by show 1 < 6; decide) (D d9_13) rfl fun T8 h8 X8 e8 W8 A8 => ?_))))))))
  replace A8 : IA Z h8 o ([-1, -1, 0, 0, 0, 0] : List Int32) := A8
  have K9 := Keep.wr K3 W8 (Or.inl (by simp))
  have N11 := Fr.snoc X8 N5 go_
  have Z12 := zW Z6 W8
  refine g_iinc (v := (2 : Int32)) (L' := #[vR o, vI (-1), vI 2, vI 6]) X8 hx (D d9_14) rfl rfl rfl rfl (g_goto (q := 5) X8 hx (D d9_17) (by decide) (by decide) (g_iloadN X8 hx (D d9_5) rfl rfl (g_iloadN X8 hx (D d9_6) rfl rfl (g_icmp_ge (q := 20) (q0 := 10) X8 hx (D d9_7) (by decide) (by decide) rfl (fun h => absurd h (by decide)) fun c13 => (g_aloadN X8 hx (D d9_10) rfl rfl rfl (g_iloadN X8 hx (D d9_11) rfl rfl (g_iloadN X8 hx (D d9_12) rfl rfl (g_istore_ (i := 2) (v := (-1 : Int32)) X8 hx hZ e8 A8 rfl (by show 2 < 6; decide) (D d9_13) rfl fun T14 h14 X14 e14 W14 A14 => ?_))))))))
  replace A14 : IA Z h14 o ([-1, -1, -1, 0, 0, 0] : List Int32) := A14
  have K15 := Keep.wr K9 W14 (Or.inl (by simp))
  have N17 := Fr.snoc X14 N11 go_
  have Z18 := zW Z12 W14
  refine g_iinc (v := (3 : Int32)) (L' := #[vR o, vI (-1), vI 3, vI 6]) X14 hx (D d9_14) rfl rfl rfl rfl (g_goto (q := 5) X14 hx (D d9_17) (by decide) (by decide) (g_iloadN X14 hx (D d9_5) rfl rfl (g_iloadN X14 hx (D d9_6) rfl rfl (g_icmp_ge (q := 20) (q0 := 10) X14 hx (D d9_7) (by decide) (by decide) rfl (fun h => absurd h (by decide)) fun c19 => (g_aloadN X14 hx (D d9_10) rfl rfl rfl (g_iloadN X14 hx (D d9_11) rfl rfl (g_iloadN X14 hx (D d9_12) rfl rfl (g_istore_ (i := 3) (v := (-1 : Int32)) X14 hx hZ e14 A14 rfl (by show 3 < 6; decide) (D d9_13) rfl fun T20 h20 X20 e20 W20 A20 => ?_))))))))
  replace A20 : IA Z h20 o ([-1, -1, -1, -1, 0, 0] : List Int32) := A20
  have K21 := Keep.wr K15 W20 (Or.inl (by simp))
  have N23 := Fr.snoc X20 N17 go_
  have Z24 := zW Z18 W20
  refine g_iinc (v := (4 : Int32)) (L' := #[vR o, vI (-1), vI 4, vI 6]) X20 hx (D d9_14) rfl rfl rfl rfl (g_goto (q := 5) X20 hx (D d9_17) (by decide) (by decide) (g_iloadN X20 hx (D d9_5) rfl rfl (g_iloadN X20 hx (D d9_6) rfl rfl (g_icmp_ge (q := 20) (q0 := 10) X20 hx (D d9_7) (by decide) (by decide) rfl (fun h => absurd h (by decide)) fun c25 => (g_aloadN X20 hx (D d9_10) rfl rfl rfl (g_iloadN X20 hx (D d9_11) rfl rfl (g_iloadN X20 hx (D d9_12) rfl rfl (g_istore_ (i := 4) (v := (-1 : Int32)) X20 hx hZ e20 A20 rfl (by show 4 < 6; decide) (D d9_13) rfl fun T26 h26 X26 e26 W26 A26 => ?_))))))))
  replace A26 : IA Z h26 o ([-1, -1, -1, -1, -1, 0] : List Int32) := A26
  have K27 := Keep.wr K21 W26 (Or.inl (by simp))
  have N29 := Fr.snoc X26 N23 go_
  have Z30 := zW Z24 W26
  refine g_iinc (v := (5 : Int32)) (L' := #[vR o, vI (-1), vI 5, vI 6]) X26 hx (D d9_14) rfl rfl rfl rfl (g_goto (q := 5) X26 hx (D d9_17) (by decide) (by decide) (g_iloadN X26 hx (D d9_5) rfl rfl (g_iloadN X26 hx (D d9_6) rfl rfl (g_icmp_ge (q := 20) (q0 := 10) X26 hx (D d9_7) (by decide) (by decide) rfl (fun h => absurd h (by decide)) fun c31 => (g_aloadN X26 hx (D d9_10) rfl rfl rfl (g_iloadN X26 hx (D d9_11) rfl rfl (g_iloadN X26 hx (D d9_12) rfl rfl (g_istore_ (i := 5) (v := (-1 : Int32)) X26 hx hZ e26 A26 rfl (by show 5 < 6; decide) (D d9_13) rfl fun T32 h32 X32 e32 W32 A32 => ?_))))))))
  replace A32 : IA Z h32 o ([-1, -1, -1, -1, -1, -1] : List Int32) := A32
  have K33 := Keep.wr K27 W32 (Or.inl (by simp))
  have N35 := Fr.snoc X32 N29 go_
  have Z36 := zW Z30 W32
  refine g_iinc (v := (6 : Int32)) (L' := #[vR o, vI (-1), vI 6, vI 6]) X32 hx (D d9_14) rfl rfl rfl rfl (g_goto (q := 5) X32 hx (D d9_17) (by decide) (by decide) (g_iloadN X32 hx (D d9_5) rfl rfl (g_iloadN X32 hx (D d9_6) rfl rfl ?_)))
  refine g_icmp_ge (q := 20) (q0 := 10) X32 hx (D d9_7) (by decide) (by decide) rfl ?_ (fun h => absurd h (by decide))
  intro c37
  exact g_ret X32 hx hlk hrt (D d9_20) (by decide) (by decide) (by rw [e32]; exact ⟨rfl, N35, K33, A32⟩)
def RM_rm10 : Room := ({ frames := 0, cells := 0, slots := 0, locals := 0 } : Room)
abbrev b10 := jdk_65_method_101_code
theorem d10_0 : decode b10 0 = .ok (.iconst 0, 1) := by decide +kernel
theorem d10_1 : decode b10 1 = .ok (.istore_n 3, 1) := by decide +kernel
theorem d10_2 : decode b10 2 = .ok (.aload_n 0, 1) := by decide +kernel
theorem d10_3 : decode b10 3 = .ok (.arraylength, 1) := by decide +kernel
theorem d10_4 : decode b10 4 = .ok (.istore 4, 2) := by decide +kernel
theorem d10_6 : decode b10 6 = .ok (.iload_n 3, 1) := by decide +kernel
theorem d10_7 : decode b10 7 = .ok (.iload 4, 2) := by decide +kernel
theorem d10_9 : decode b10 9 = .ok (.if_icmp .ge 13, 3) := by decide +kernel
theorem d10_12 : decode b10 12 = .ok (.aload_n 0, 1) := by decide +kernel
theorem d10_13 : decode b10 13 = .ok (.iload_n 3, 1) := by decide +kernel
theorem d10_14 : decode b10 14 = .ok (.lload_n 1, 1) := by decide +kernel
theorem d10_15 : decode b10 15 = .ok (.lastore, 1) := by decide +kernel
theorem d10_16 : decode b10 16 = .ok (.iinc 3 1, 3) := by decide +kernel
theorem d10_19 : decode b10 19 = .ok (.goto (-13), 3) := by decide +kernel
theorem d10_22 : decode b10 22 = .ok (.return_, 1) := by decide +kernel
theorem ef_10 (m : MethodId) (z0 : Addr) (z1 : Int64) : entryFrame m #[.ref z0, .long z1] 5 = mkF m 0 #[vR z0, vJ z1, s2, u0, u0] [] := by first | (simp [entryFrame, mkF, argsToLocals, Value.category]; done) | rfl
set_option maxRecDepth 65536 in
set_option maxHeartbeats 40000000 in
theorem rm10 (l : Launch) (Z : State) (a0 : Array Value) (hw : ∀ d ∈ tables_1, d.before a0 Z = true) (ws : List Jvm.Cond) (o : Addr) (h0 : Heap) (n0 : Nat) (Z0 : n0 ≤ h0.size) (A0_ : LA Z h0 o ([0, 0, 0, 0, 0, 0] : List Int64)) (go_ : n0 ≤ o) :
    Ctr l Z (⟨"java/util/Arrays", "fill", "([JJ)V"⟩ : MethodName) jdk_65_method_101_code 5 none RM_rm10 ws #[.ref o, .long 9223372036854775807] h0 (fun v h L => v = none ∧ Fr n0 L ∧ Keep h0 h [o] ∧ LA Z h o ([9223372036854775807, 9223372036854775807, 9223372036854775807, 9223372036854775807, 9223372036854775807, 9223372036854775807] : List Int64)) := by
  refine Ctr.of (plainFor_of_name pn_2) ?_
  intro p e s m below meth c s₁ hx hby hml hrt hlk hnm hown hZ X0 e0
  have N0 := Fr.nil n0
  have D := @hb _ _ hby
  refine Go.cast (ef_10 m o (9223372036854775807 : Int64)) ?_
  refine g_iconst (v := (0 : Int32)) X0 hx (D d10_0) rfl rfl (g_istoreN (L' := #[vR o, vJ 9223372036854775807, s2, vI 0, u0]) X0 hx (D d10_1) rfl rfl (g_aloadN X0 hx (D d10_2) rfl rfl rfl (g_alen (v := (6 : Int32)) X0 hx hZ e0 A0_ rfl (D d10_3) rfl (g_istore (L' := #[vR o, vJ 9223372036854775807, s2, vI 0, vI 6]) X0 hx (D d10_4) rfl rfl (g_iloadN X0 hx (D d10_6) rfl rfl (g_iload X0 hx (D d10_7) rfl rfl (g_icmp_ge (q := 22) (q0 := 12) X0 hx (D d10_9) (by decide) (by decide) rfl (fun h => absurd h (by decide)) fun c1 => (g_aloadN X0 hx (D d10_12) rfl rfl rfl (g_iloadN X0 hx (D d10_13) rfl rfl (g_lloadN X0 hx (D d10_14) rfl rfl (g_lstore_ (i := 0) (v := (9223372036854775807 : Int64)) X0 hx hZ e0 A0_ rfl (by show 0 < 6; decide) (D d10_15) rfl fun T2 h2 X2 e2 W2 A2 => ?_)))))))))))
  replace A2 : LA Z h2 o ([9223372036854775807, 0, 0, 0, 0, 0] : List Int64) := A2
  have K3 := Keep.wr (Keep.refl h0 [o]) W2 (Or.inl (by simp))
  have N5 := Fr.snoc X2 N0 go_
  have Z6 := zW Z0 W2
  refine g_iinc (v := (1 : Int32)) (L' := #[vR o, vJ 9223372036854775807, s2, vI 1, vI 6]) X2 hx (D d10_16) rfl rfl rfl rfl (g_goto (q := 6) X2 hx (D d10_19) (by decide) (by decide) (g_iloadN X2 hx (D d10_6) rfl rfl (g_iload X2 hx (D d10_7) rfl rfl (g_icmp_ge (q := 22) (q0 := 12) X2 hx (D d10_9) (by decide) (by decide) rfl (fun h => absurd h (by decide)) fun c7 => (g_aloadN X2 hx (D d10_12) rfl rfl rfl (g_iloadN X2 hx (D d10_13) rfl rfl (g_lloadN X2 hx (D d10_14) rfl rfl (g_lstore_ (i := 1) (v := (9223372036854775807 : Int64)) X2 hx hZ e2 A2 rfl (by show 1 < 6; decide) (D d10_15) rfl fun T8 h8 X8 e8 W8 A8 => ?_))))))))
  replace A8 : LA Z h8 o ([9223372036854775807, 9223372036854775807, 0, 0, 0, 0] : List Int64) := A8
  have K9 := Keep.wr K3 W8 (Or.inl (by simp))
  have N11 := Fr.snoc X8 N5 go_
  have Z12 := zW Z6 W8
  refine g_iinc (v := (2 : Int32)) (L' := #[vR o, vJ 9223372036854775807, s2, vI 2, vI 6]) X8 hx (D d10_16) rfl rfl rfl rfl (g_goto (q := 6) X8 hx (D d10_19) (by decide) (by decide) (g_iloadN X8 hx (D d10_6) rfl rfl (g_iload X8 hx (D d10_7) rfl rfl (g_icmp_ge (q := 22) (q0 := 12) X8 hx (D d10_9) (by decide) (by decide) rfl (fun h => absurd h (by decide)) fun c13 => (g_aloadN X8 hx (D d10_12) rfl rfl rfl (g_iloadN X8 hx (D d10_13) rfl rfl (g_lloadN X8 hx (D d10_14) rfl rfl (g_lstore_ (i := 2) (v := (9223372036854775807 : Int64)) X8 hx hZ e8 A8 rfl (by show 2 < 6; decide) (D d10_15) rfl fun T14 h14 X14 e14 W14 A14 => ?_))))))))
  replace A14 : LA Z h14 o ([9223372036854775807, 9223372036854775807, 9223372036854775807, 0, 0, 0] : List Int64) := A14
  have K15 := Keep.wr K9 W14 (Or.inl (by simp))
  have N17 := Fr.snoc X14 N11 go_
  have Z18 := zW Z12 W14
  refine g_iinc (v := (3 : Int32)) (L' := #[vR o, vJ 9223372036854775807, s2, vI 3, vI 6]) X14 hx (D d10_16) rfl rfl rfl rfl (g_goto (q := 6) X14 hx (D d10_19) (by decide) (by decide) (g_iloadN X14 hx (D d10_6) rfl rfl (g_iload X14 hx (D d10_7) rfl rfl (g_icmp_ge (q := 22) (q0 := 12) X14 hx (D d10_9) (by decide) (by decide) rfl (fun h => absurd h (by decide)) fun c19 => (g_aloadN X14 hx (D d10_12) rfl rfl rfl (g_iloadN X14 hx (D d10_13) rfl rfl (g_lloadN X14 hx (D d10_14) rfl rfl (g_lstore_ (i := 3) (v := (9223372036854775807 : Int64)) X14 hx hZ e14 A14 rfl (by show 3 < 6; decide) (D d10_15) rfl fun T20 h20 X20 e20 W20 A20 => ?_))))))))
  replace A20 : LA Z h20 o ([9223372036854775807, 9223372036854775807, 9223372036854775807, 9223372036854775807, 0, 0] : List Int64) := A20
  have K21 := Keep.wr K15 W20 (Or.inl (by simp))
  have N23 := Fr.snoc X20 N17 go_
  have Z24 := zW Z18 W20
  refine g_iinc (v := (4 : Int32)) (L' := #[vR o, vJ 9223372036854775807, s2, vI 4, vI 6]) X20 hx (D d10_16) rfl rfl rfl rfl (g_goto (q := 6) X20 hx (D d10_19) (by decide) (by decide) (g_iloadN X20 hx (D d10_6) rfl rfl (g_iload X20 hx (D d10_7) rfl rfl (g_icmp_ge (q := 22) (q0 := 12) X20 hx (D d10_9) (by decide) (by decide) rfl (fun h => absurd h (by decide)) fun c25 => (g_aloadN X20 hx (D d10_12) rfl rfl rfl (g_iloadN X20 hx (D d10_13) rfl rfl (g_lloadN X20 hx (D d10_14) rfl rfl (g_lstore_ (i := 4) (v := (9223372036854775807 : Int64)) X20 hx hZ e20 A20 rfl (by show 4 < 6; decide) (D d10_15) rfl fun T26 h26 X26 e26 W26 A26 => ?_))))))))
  replace A26 : LA Z h26 o ([9223372036854775807, 9223372036854775807, 9223372036854775807, 9223372036854775807, 9223372036854775807, 0] : List Int64) := A26
  have K27 := Keep.wr K21 W26 (Or.inl (by simp))
  have N29 := Fr.snoc X26 N23 go_
  have Z30 := zW Z24 W26
  refine g_iinc (v := (5 : Int32)) (L' := #[vR o, vJ 9223372036854775807, s2, vI 5, vI 6]) X26 hx (D d10_16) rfl rfl rfl rfl (g_goto (q := 6) X26 hx (D d10_19) (by decide) (by decide) (g_iloadN X26 hx (D d10_6) rfl rfl (g_iload X26 hx (D d10_7) rfl rfl (g_icmp_ge (q := 22) (q0 := 12) X26 hx (D d10_9) (by decide) (by decide) rfl (fun h => absurd h (by decide)) fun c31 => (g_aloadN X26 hx (D d10_12) rfl rfl rfl (g_iloadN X26 hx (D d10_13) rfl rfl (g_lloadN X26 hx (D d10_14) rfl rfl (g_lstore_ (i := 5) (v := (9223372036854775807 : Int64)) X26 hx hZ e26 A26 rfl (by show 5 < 6; decide) (D d10_15) rfl fun T32 h32 X32 e32 W32 A32 => ?_))))))))
  replace A32 : LA Z h32 o ([9223372036854775807, 9223372036854775807, 9223372036854775807, 9223372036854775807, 9223372036854775807, 9223372036854775807] : List Int64) := A32
  have K33 := Keep.wr K27 W32 (Or.inl (by simp))
  have N35 := Fr.snoc X32 N29 go_
  have Z36 := zW Z30 W32
  refine g_iinc (v := (6 : Int32)) (L' := #[vR o, vJ 9223372036854775807, s2, vI 6, vI 6]) X32 hx (D d10_16) rfl rfl rfl rfl (g_goto (q := 6) X32 hx (D d10_19) (by decide) (by decide) (g_iloadN X32 hx (D d10_6) rfl rfl (g_iload X32 hx (D d10_7) rfl rfl ?_)))
  refine g_icmp_ge (q := 22) (q0 := 12) X32 hx (D d10_9) (by decide) (by decide) rfl ?_ (fun h => absurd h (by decide))
  intro c37
  exact g_ret X32 hx hlk hrt (D d10_22) (by decide) (by decide) (by rw [e32]; exact ⟨rfl, N35, K33, A32⟩)
theorem pd_0 : parseMethodDescriptor "(II)I" = some ⟨[.int, .int], some .int⟩ := by decide +kernel
def RM_rm4 : Room := ({ frames := 1, cells := 1, slots := 3, locals := 30 } : Room)
abbrev b4 := jdk_65_method_123_code
theorem d4_0 : decode b4 0 = .ok (.iload_n 1, 1) := by decide +kernel
theorem d4_1 : decode b4 1 = .ok (.aload_n 0, 1) := by decide +kernel
theorem d4_2 : decode b4 2 = .ok (.arraylength, 1) := by decide +kernel
theorem d4_3 : decode b4 3 = .ok (.if_icmp .ne 11, 3) := by decide +kernel
theorem d4_14 : decode b4 14 = .ok (.iload_n 1, 1) := by decide +kernel
theorem d4_15 : decode b4 15 = .ok (.newarray .int, 2) := by decide +kernel
theorem d4_17 : decode b4 17 = .ok (.astore_n 2, 1) := by decide +kernel
theorem d4_18 : decode b4 18 = .ok (.aload_n 0, 1) := by decide +kernel
theorem d4_19 : decode b4 19 = .ok (.iconst 0, 1) := by decide +kernel
theorem d4_20 : decode b4 20 = .ok (.aload_n 2, 1) := by decide +kernel
theorem d4_21 : decode b4 21 = .ok (.iconst 0, 1) := by decide +kernel
theorem d4_22 : decode b4 22 = .ok (.aload_n 0, 1) := by decide +kernel
theorem d4_23 : decode b4 23 = .ok (.arraylength, 1) := by decide +kernel
theorem d4_24 : decode b4 24 = .ok (.iload_n 1, 1) := by decide +kernel
theorem d4_25 : decode b4 25 = .ok (.invokestatic 304, 3) := by decide +kernel
theorem d4_28 : decode b4 28 = .ok (.invokestatic 150, 3) := by decide +kernel
theorem d4_31 : decode b4 31 = .ok (.aload_n 2, 1) := by decide +kernel
theorem d4_32 : decode b4 32 = .ok (.areturn, 1) := by decide +kernel
theorem ef_4 (m : MethodId) (z0 : Addr) (z1 : Int32) : entryFrame m #[.ref z0, .int z1] 3 = mkF m 0 #[vR z0, vI z1, u0] [] := by first | (simp [entryFrame, mkF, argsToLocals, Value.category]; done) | rfl
set_option maxRecDepth 65536 in
set_option maxHeartbeats 40000000 in
theorem rm4 (l : Launch) (Z : State) (a0 : Array Value) (hw : ∀ d ∈ tables_1, d.before a0 Z = true) (ws : List Jvm.Cond) (o : Addr) (h0 : Heap) (n0 : Nat) (Z0 : n0 ≤ h0.size) (s0_ s1_ s2_ s3_ : Int32) (A0_ : IA Z h0 o [s0_, s1_, s2_, s3_]) :
    Ctr l Z (⟨"java/util/Arrays", "copyOf", "([II)[I"⟩ : MethodName) jdk_65_method_123_code 3 (some (.array .int)) RM_rm4 ws #[.ref o, .int 3] h0 (fun v h L => Fr n0 L ∧ ∃ o2 : Addr, v = some (.ref o2) ∧ h0.size ≤ o2 ∧ Keep h0 h [] ∧ IA Z h o2 [s0_, s1_, s2_]) := by
  refine Ctr.of (plainFor_of_name pn_2) ?_
  intro p e s m below meth c s₁ hx hby hml hrt hlk hnm hown hZ X0 e0
  have N0 := Fr.nil n0
  have D := @hb _ _ hby
  refine Go.cast (ef_4 m o (3 : Int32)) ?_
  refine g_iloadN X0 hx (D d4_0) rfl rfl (g_aloadN X0 hx (D d4_1) rfl rfl rfl (g_alen (v := (4 : Int32)) X0 hx hZ e0 A0_ rfl (D d4_2) rfl ?_))
  refine g_icmp_ne (q := 14) (q0 := 6) X0 hx (D d4_3) (by decide) (by decide) rfl ?_ (fun h => absurd h (by decide))
  intro c1
  refine g_iloadN X0 hx (D d4_14) rfl rfl (g_inew_ (n := 3) (cap := 3) X0 hx hZ (hW hw 0 rfl) e0 rfl (by decide) (by decide) (D d4_15) rfl (by decide) (by decide) fun T2 h2 o2 X2 e2 E2 q2 A2 => ?_)
  replace A2 : IA Z h2 o2 ([0, 0, 0] : List Int32) := A2
  have n3 : o ≠ o2 := ne_new A0_.lt q2
  have g4 : n0 ≤ o2 := ge_new Z0 q2
  have g5 : h0.size ≤ o2 := ge_new (Keep.refl h0 []).1 q2
  have K6 := Keep.ext (Keep.refl h0 []) E2
  have F7 := ArrL.ext A0_ E2
  have Z8 := zE Z0 E2
  refine g_astoreN (L' := #[vR o, vI 3, vR o2]) X2 hx (D d4_17) rfl rfl rfl (g_aloadN X2 hx (D d4_18) rfl rfl rfl (g_iconst (v := (0 : Int32)) X2 hx (D d4_19) rfl rfl (g_aloadN X2 hx (D d4_20) rfl rfl rfl (g_iconst (v := (0 : Int32)) X2 hx (D d4_21) rfl rfl (g_aloadN X2 hx (D d4_22) rfl rfl rfl (g_alen (v := (4 : Int32)) X2 hx hZ e2 F7 rfl (D d4_23) rfl (g_iloadN X2 hx (D d4_24) rfl rfl (g_callSI X2 hx hZ hown (hW hw 22 rfl) (hW hw 23 rfl) (hW hw 4 rfl) (hW hw 24 rfl) (by decide) (rm5 l Z a0 hw [] (4 : Int32) (3 : Int32) h2 n0 Z8) (argsL := [.int 4, .int 3]) (rest := [.int 0, .ref o2, .int 0, .ref o]) pd_0 rfl rfl rfl (D d4_25) rfl (by rw [hml]; rfl) e2 (by decide) (W := 4) rfl (by decide) rfl rfl (by decide) (by decide) fun T9 r10 X9 e9 hr10 => (g_cpI X9 hx hZ hown (hW hw 25 rfl) (hW hw 28 rfl) (hW hw 26 rfl) (hW hw 27 rfl) e9 F7 A2 (nn := r10) (k := 3) (by have h := hr10; simp only [Int32.reduceToInt, Int64.reduceToInt] at h; omega) (by simp) (by simp) N0 g4 (D d4_28) rfl (by rw [hml]; rfl) (by decide) (W := 0) (by decide) (by decide) fun T11 h11 Lq11 X11 e11 Nq11 Kq11 A11 => ?_)))))))))
  replace A11 : IA Z h11 o2 [s0_, s1_, s2_] := A11
  have K12 := Keep.trans K6 Kq11 (allS (Or.inr g5) all0)
  have F13 := ArrL.keep F7 Kq11 (ninS n3 nin0)
  have Z15 := zK Z8 Kq11
  refine g_aloadN X11 hx (D d4_31) rfl rfl rfl ?_
  exact g_areturn X11 hx hlk rfl hrt rfl (D d4_32) (by decide) (by decide) (by rw [e11]; exact ⟨Nq11, o2, rfl, g5, K12, A11⟩)
theorem pd_1 : parseMethodDescriptor "([II)[I" = some ⟨[(.array .int), .int], some (.array .int)⟩ := by decide +kernel
def RM_rm2 : Room := ({ frames := 2, cells := 4, slots := 13, locals := 44 } : Room)
abbrev b2 := prog_71_method_1_code
theorem d2_0 : decode b2 0 = .ok (.aload_n 0, 1) := by decide +kernel
theorem d2_1 : decode b2 1 = .ok (.invokespecial 1, 3) := by decide +kernel
theorem d2_4 : decode b2 4 = .ok (.aload_n 0, 1) := by decide +kernel
theorem d2_5 : decode b2 5 = .ok (.iload_n 1, 1) := by decide +kernel
theorem d2_6 : decode b2 6 = .ok (.iconst 1, 1) := by decide +kernel
theorem d2_7 : decode b2 7 = .ok (.iadd, 1) := by decide +kernel
theorem d2_8 : decode b2 8 = .ok (.newarray .int, 2) := by decide +kernel
theorem d2_10 : decode b2 10 = .ok (.putfield 7, 3) := by decide +kernel
theorem d2_13 : decode b2 13 = .ok (.aload_n 2, 1) := by decide +kernel
theorem d2_14 : decode b2 14 = .ok (.astore 5, 2) := by decide +kernel
theorem d2_16 : decode b2 16 = .ok (.aload 5, 2) := by decide +kernel
theorem d2_18 : decode b2 18 = .ok (.arraylength, 1) := by decide +kernel
theorem d2_19 : decode b2 19 = .ok (.istore 6, 2) := by decide +kernel
theorem d2_21 : decode b2 21 = .ok (.iconst 0, 1) := by decide +kernel
theorem d2_22 : decode b2 22 = .ok (.istore 7, 2) := by decide +kernel
theorem d2_24 : decode b2 24 = .ok (.iload 7, 2) := by decide +kernel
theorem d2_26 : decode b2 26 = .ok (.iload 6, 2) := by decide +kernel
theorem d2_28 : decode b2 28 = .ok (.if_icmp .ge 29, 3) := by decide +kernel
theorem d2_31 : decode b2 31 = .ok (.aload 5, 2) := by decide +kernel
theorem d2_33 : decode b2 33 = .ok (.iload 7, 2) := by decide +kernel
theorem d2_35 : decode b2 35 = .ok (.iaload, 1) := by decide +kernel
theorem d2_36 : decode b2 36 = .ok (.istore 8, 2) := by decide +kernel
theorem d2_38 : decode b2 38 = .ok (.aload_n 0, 1) := by decide +kernel
theorem d2_39 : decode b2 39 = .ok (.getfield 7, 3) := by decide +kernel
theorem d2_42 : decode b2 42 = .ok (.iload 8, 2) := by decide +kernel
theorem d2_44 : decode b2 44 = .ok (.iconst 1, 1) := by decide +kernel
theorem d2_45 : decode b2 45 = .ok (.iadd, 1) := by decide +kernel
theorem d2_46 : decode b2 46 = .ok (.dup2, 1) := by decide +kernel
theorem d2_47 : decode b2 47 = .ok (.iaload, 1) := by decide +kernel
theorem d2_48 : decode b2 48 = .ok (.iconst 1, 1) := by decide +kernel
theorem d2_49 : decode b2 49 = .ok (.iadd, 1) := by decide +kernel
theorem d2_50 : decode b2 50 = .ok (.iastore, 1) := by decide +kernel
theorem d2_51 : decode b2 51 = .ok (.iinc 7 1, 3) := by decide +kernel
theorem d2_54 : decode b2 54 = .ok (.goto (-30), 3) := by decide +kernel
theorem d2_57 : decode b2 57 = .ok (.iconst 0, 1) := by decide +kernel
theorem d2_58 : decode b2 58 = .ok (.istore 5, 2) := by decide +kernel
theorem d2_60 : decode b2 60 = .ok (.iload 5, 2) := by decide +kernel
theorem d2_62 : decode b2 62 = .ok (.iload_n 1, 1) := by decide +kernel
theorem d2_63 : decode b2 63 = .ok (.if_icmp .ge 28, 3) := by decide +kernel
theorem d2_66 : decode b2 66 = .ok (.aload_n 0, 1) := by decide +kernel
theorem d2_67 : decode b2 67 = .ok (.getfield 7, 3) := by decide +kernel
theorem d2_70 : decode b2 70 = .ok (.iload 5, 2) := by decide +kernel
theorem d2_72 : decode b2 72 = .ok (.iconst 1, 1) := by decide +kernel
theorem d2_73 : decode b2 73 = .ok (.iadd, 1) := by decide +kernel
theorem d2_74 : decode b2 74 = .ok (.dup2, 1) := by decide +kernel
theorem d2_75 : decode b2 75 = .ok (.iaload, 1) := by decide +kernel
theorem d2_76 : decode b2 76 = .ok (.aload_n 0, 1) := by decide +kernel
theorem d2_77 : decode b2 77 = .ok (.getfield 7, 3) := by decide +kernel
theorem d2_80 : decode b2 80 = .ok (.iload 5, 2) := by decide +kernel
theorem d2_82 : decode b2 82 = .ok (.iaload, 1) := by decide +kernel
theorem d2_83 : decode b2 83 = .ok (.iadd, 1) := by decide +kernel
theorem d2_84 : decode b2 84 = .ok (.iastore, 1) := by decide +kernel
theorem d2_85 : decode b2 85 = .ok (.iinc 5 1, 3) := by decide +kernel
theorem d2_88 : decode b2 88 = .ok (.goto (-28), 3) := by decide +kernel
theorem d2_91 : decode b2 91 = .ok (.aload_n 0, 1) := by decide +kernel
theorem d2_92 : decode b2 92 = .ok (.getfield 7, 3) := by decide +kernel
theorem d2_95 : decode b2 95 = .ok (.iload_n 1, 1) := by decide +kernel
theorem d2_96 : decode b2 96 = .ok (.invokestatic 13, 3) := by decide +kernel
theorem d2_99 : decode b2 99 = .ok (.astore 5, 2) := by decide +kernel
theorem d2_101 : decode b2 101 = .ok (.aload_n 0, 1) := by decide +kernel
theorem d2_102 : decode b2 102 = .ok (.aload_n 2, 1) := by decide +kernel
theorem d2_103 : decode b2 103 = .ok (.arraylength, 1) := by decide +kernel
theorem d2_104 : decode b2 104 = .ok (.newarray .int, 2) := by decide +kernel
theorem d2_106 : decode b2 106 = .ok (.putfield 19, 3) := by decide +kernel
theorem d2_109 : decode b2 109 = .ok (.aload_n 0, 1) := by decide +kernel
theorem d2_110 : decode b2 110 = .ok (.aload 4, 2) := by decide +kernel
theorem d2_112 : decode b2 112 = .ok (.ifnonnull 7, 3) := by decide +kernel
theorem d2_119 : decode b2 119 = .ok (.aload_n 2, 1) := by decide +kernel
theorem d2_120 : decode b2 120 = .ok (.arraylength, 1) := by decide +kernel
theorem d2_121 : decode b2 121 = .ok (.newarray .long, 2) := by decide +kernel
theorem d2_123 : decode b2 123 = .ok (.putfield 22, 3) := by decide +kernel
theorem d2_126 : decode b2 126 = .ok (.iconst 0, 1) := by decide +kernel
theorem d2_127 : decode b2 127 = .ok (.istore 6, 2) := by decide +kernel
theorem d2_129 : decode b2 129 = .ok (.iload 6, 2) := by decide +kernel
theorem d2_131 : decode b2 131 = .ok (.aload_n 2, 1) := by decide +kernel
theorem d2_132 : decode b2 132 = .ok (.arraylength, 1) := by decide +kernel
theorem d2_133 : decode b2 133 = .ok (.if_icmp .ge 51, 3) := by decide +kernel
theorem d2_136 : decode b2 136 = .ok (.aload 5, 2) := by decide +kernel
theorem d2_138 : decode b2 138 = .ok (.aload_n 2, 1) := by decide +kernel
theorem d2_139 : decode b2 139 = .ok (.iload 6, 2) := by decide +kernel
theorem d2_141 : decode b2 141 = .ok (.iaload, 1) := by decide +kernel
theorem d2_142 : decode b2 142 = .ok (.dup2, 1) := by decide +kernel
theorem d2_143 : decode b2 143 = .ok (.iaload, 1) := by decide +kernel
theorem d2_144 : decode b2 144 = .ok (.dup_x2, 1) := by decide +kernel
theorem d2_145 : decode b2 145 = .ok (.iconst 1, 1) := by decide +kernel
theorem d2_146 : decode b2 146 = .ok (.iadd, 1) := by decide +kernel
theorem d2_147 : decode b2 147 = .ok (.iastore, 1) := by decide +kernel
theorem d2_148 : decode b2 148 = .ok (.istore 7, 2) := by decide +kernel
theorem d2_150 : decode b2 150 = .ok (.aload_n 0, 1) := by decide +kernel
theorem d2_151 : decode b2 151 = .ok (.getfield 19, 3) := by decide +kernel
theorem d2_154 : decode b2 154 = .ok (.iload 7, 2) := by decide +kernel
theorem d2_156 : decode b2 156 = .ok (.aload_n 3, 1) := by decide +kernel
theorem d2_157 : decode b2 157 = .ok (.iload 6, 2) := by decide +kernel
theorem d2_159 : decode b2 159 = .ok (.iaload, 1) := by decide +kernel
theorem d2_160 : decode b2 160 = .ok (.iastore, 1) := by decide +kernel
theorem d2_161 : decode b2 161 = .ok (.aload 4, 2) := by decide +kernel
theorem d2_163 : decode b2 163 = .ok (.ifnull 15, 3) := by decide +kernel
theorem d2_166 : decode b2 166 = .ok (.aload_n 0, 1) := by decide +kernel
theorem d2_167 : decode b2 167 = .ok (.getfield 22, 3) := by decide +kernel
theorem d2_170 : decode b2 170 = .ok (.iload 7, 2) := by decide +kernel
theorem d2_172 : decode b2 172 = .ok (.aload 4, 2) := by decide +kernel
theorem d2_174 : decode b2 174 = .ok (.iload 6, 2) := by decide +kernel
theorem d2_176 : decode b2 176 = .ok (.laload, 1) := by decide +kernel
theorem d2_177 : decode b2 177 = .ok (.lastore, 1) := by decide +kernel
theorem d2_178 : decode b2 178 = .ok (.iinc 6 1, 3) := by decide +kernel
theorem d2_181 : decode b2 181 = .ok (.goto (-52), 3) := by decide +kernel
theorem d2_184 : decode b2 184 = .ok (.return_, 1) := by decide +kernel
theorem ef_2 (m : MethodId) (z0 : Addr) (z1 : Int32) (z2 : Addr) (z3 : Addr) (z4 : Addr) : entryFrame m #[.ref z0, .int z1, .ref z2, .ref z3, .ref z4] 9 = mkF m 0 #[vR z0, vI z1, vR z2, vR z3, vR z4, u0, u0, u0, u0] [] := by first | (simp [entryFrame, mkF, argsToLocals, Value.category]; done) | rfl
theorem pn_3 : plainName kA = true := by first | (simp [plainName, overriddenIn]; done) | decide +kernel
set_option maxRecDepth 65536 in
set_option maxHeartbeats 40000000 in
theorem rm2 (l : Launch) (Z : State) (a0 : Array Value) (hw : ∀ d ∈ tables_1, d.before a0 Z = true) (ws : List Jvm.Cond) (t : Addr) (ks : Addr) (ns : Addr) (wz : Addr) (h0 : Heap) (n0 : Nat) (Z0 : n0 ≤ h0.size) (rr : Fin 3) (F0_ : Fld Z h0 t kA "starts" "[I" (.null)) (F1_ : Fld Z h0 t kA "nodes" "[I" (.null)) (F2_ : Fld Z h0 t kA "weights" "[J" (.null)) (E_ : Exa Z h0 t kA) (gt_ : n0 ≤ t) (w1_ w2_ w3_ : Int64) (A0_ : IA Z h0 ks [(tI rr 0 1 2), (tI rr 1 2 0), (tI rr 0 1 2)]) (A1_ : IA Z h0 ns [(tI rr 1 2 0), (tI rr 2 0 1), (tI rr 2 0 1)]) (A2_ : LA Z h0 wz [w1_, w2_, w3_]) (ne0_ : t ≠ ks) (ne1_ : t ≠ ns) (ne2_ : t ≠ wz) :
    Ctr l Z (⟨kA, "<init>", "(I[I[I[J)V"⟩ : MethodName) prog_71_method_1_code 9 none RM_rm2 ws #[.ref t, .int 3, .ref ks, .ref ns, .ref wz] h0 (fun v h L => v = none ∧ Fr n0 L ∧ Keep h0 h [t] ∧ ∃ xs xn xw : Addr, h0.size ≤ xs ∧ h0.size ≤ xn ∧ h0.size ≤ xw ∧ Fld Z h t kA "starts" "[I" (.ref xs) ∧ Fld Z h t kA "nodes" "[I" (.ref xn) ∧ Fld Z h t kA "weights" "[J" (.ref xw) ∧ IA Z h xs [(0 : Int32), (tI rr 2 0 1), (tI rr 3 2 1), (3 : Int32)] ∧ IA Z h xn [(tI rr 1 2 1), (tI rr 2 0 0), (tI rr 2 0 1)] ∧ LA Z h xw [(tJ rr w1_ w1_ w2_), (tJ rr w3_ w3_ w1_), (tJ rr w2_ w2_ w3_)]) := by
  refine Ctr.of (plainFor_of_name pn_3) ?_
  intro p e s m below meth c s₁ hx hby hml hrt hlk hnm hown hZ X0 e0
  have N0 := Fr.nil n0
  have D := @hb _ _ hby
  refine Go.cast (ef_2 m t (3 : Int32) ks ns wz) ?_
  refine g_aloadN X0 hx (D d2_0) rfl rfl rfl (g_initO X0 hx hZ hown (hW hw 13 rfl) (hW hw 14 rfl) (hW hw 15 rfl) e0 (by rw [hml]; rfl) (D d2_1) rfl (by decide) (W := 0) rfl (by decide) fun T1 X1 e1 => (g_aloadN X1 hx (D d2_4) rfl rfl rfl (g_iloadN X1 hx (D d2_5) rfl rfl (g_iconst (v := (1 : Int32)) X1 hx (D d2_6) rfl rfl (g_iadd X1 hx (D d2_7) rfl ?_)))))
  rw [show ((3 : Int32) + (1 : Int32)) = (4 : Int32) from by decide]
  refine g_inew_ (n := 4) (cap := 4) X1 hx hZ (hW hw 0 rfl) e1 rfl (by decide) (by decide) (D d2_8) rfl (by decide) (by decide) fun T2 h2 o2 X2 e2 E2 q2 A2 => ?_
  replace A2 : IA Z h2 o2 ([0, 0, 0, 0] : List Int32) := A2
  have n3 : t ≠ o2 := ne_new E_.lt q2
  have n4 : ks ≠ o2 := ne_new A0_.lt q2
  have n5 : ns ≠ o2 := ne_new A1_.lt q2
  have n6 : wz ≠ o2 := ne_new A2_.lt q2
  have g7 : n0 ≤ o2 := ge_new Z0 q2
  have g8 : h0.size ≤ o2 := ge_new (Keep.refl h0 [t]).1 q2
  have K9 := Keep.ext (Keep.refl h0 [t]) E2
  have F10 := Exa.ext E2 E_
  have F11 := Fld.ext E2 F0_
  have F12 := Fld.ext E2 F1_
  have F13 := Fld.ext E2 F2_
  have F14 := ArrL.ext A0_ E2
  have F15 := ArrL.ext A1_ E2
  have F16 := ArrL.ext A2_ E2
  have Z17 := zE Z0 E2
  refine g_putF (ty := (.array .int)) X2 hx hZ hown (hW hw 16 rfl) e2 F11 F10 (Or.inr ⟨(hW hw 17 rfl), rfl, hnm⟩) (hW hw 8 rfl) (by decide) rfl rfl (D d2_10) rfl fun T18 h18 X18 e18 W18 F18 => ?_
  have K19 := Keep.wr K9 W18 (Or.inl (by simp))
  have F20 := Exa.wr W18 F10
  have F22 := Fld.other W18 F12 (Or.inr (slot_ne (a0 := a0) (Or.inr (hW hw 30 rfl)) (Or.inr (hW hw 17 rfl)) (by decide) (t := (.array .int)) (t' := (.array .int)) (by decide) (by decide)))
  have F23 := Fld.other W18 F13 (Or.inr (slot_ne (a0 := a0) (Or.inr (hW hw 32 rfl)) (Or.inr (hW hw 17 rfl)) (by decide) (t := (.array .long)) (t' := (.array .int)) (by decide) (by decide)))
  have F24 := ArrL.other F14 W18 (Ne.symm ne0_)
  have F25 := ArrL.other F15 W18 (Ne.symm ne1_)
  have F26 := ArrL.other F16 W18 (Ne.symm ne2_)
  have F27 := ArrL.other A2 W18 (Ne.symm n3)
  have N28 := Fr.snoc X18 N0 gt_
  have Z29 := zW Z17 W18
  refine g_aloadN X18 hx (D d2_13) rfl rfl rfl (g_astore (L' := #[vR t, vI 3, vR ks, vR ns, vR wz, vR ks, u0, u0, u0]) X18 hx (D d2_14) rfl rfl rfl (g_aload X18 hx (D d2_16) rfl rfl rfl (g_alen (v := (3 : Int32)) X18 hx hZ e18 F24 rfl (D d2_18) rfl (g_istore (L' := #[vR t, vI 3, vR ks, vR ns, vR wz, vR ks, vI 3, u0, u0]) X18 hx (D d2_19) rfl rfl (g_iconst (v := (0 : Int32)) X18 hx (D d2_21) rfl rfl (g_istore (L' := #[vR t, vI 3, vR ks, vR ns, vR wz, vR ks, vI 3, vI 0, u0]) X18 hx (D d2_22) rfl rfl (g_iload X18 hx (D d2_24) rfl rfl (g_iload X18 hx (D d2_26) rfl rfl (g_icmp_ge (q := 57) (q0 := 31) X18 hx (D d2_28) (by decide) (by decide) rfl (fun h => absurd h (by decide)) fun c30 => (g_aload X18 hx (D d2_31) rfl rfl rfl (g_iload X18 hx (D d2_33) rfl rfl (g_iload_ (i := 0) (v := (tI rr 0 1 2)) X18 hx hZ e18 F24 rfl rfl (D d2_35) rfl (g_istore (L' := #[vR t, vI 3, vR ks, vR ns, vR wz, vR ks, vI 3, vI 0, vI (tI rr 0 1 2)]) X18 hx (D d2_36) rfl rfl (g_aloadN X18 hx (D d2_38) rfl rfl rfl ?_))))))))))))))
  refine g_getF X18 hx hZ hown (hW hw 16 rfl) e18 F18 (D d2_39) rfl fun T31 X31 e31 => (g_iload X31 hx (D d2_42) rfl rfl (g_iconst (v := (1 : Int32)) X31 hx (D d2_44) rfl rfl (g_iadd X31 hx (D d2_45) rfl ?_)))
  rw [show ((tI rr 0 1 2) + (1 : Int32)) = (tI rr 1 2 3) from by apply trd3 rr; decide]
  refine g_dup2 X31 hx (D d2_46) rfl rfl rfl (g_iload_ (i := (tN rr 1 2 3)) (v := (0 : Int32)) X31 hx hZ e31 F27 (by apply tri3 rr <;> rfl) (by apply tri3 rr <;> rfl) (D d2_47) rfl (g_iconst (v := (1 : Int32)) X31 hx (D d2_48) rfl rfl (g_iadd X31 hx (D d2_49) rfl ?_)))
  rw [show ((0 : Int32) + (1 : Int32)) = (1 : Int32) from by decide]
  refine g_istore_ (i := (tN rr 1 2 3)) (v := (1 : Int32)) X31 hx hZ e31 F27 (by apply tri3 rr <;> rfl) (show (tN rr 1 2 3) < 4 from by apply trd3 rr; decide) (D d2_50) rfl fun T32 h32 X32 e32 W32 A32 => ?_
  replace A32 : IA Z h32 o2 ([(0 : Int32), (tI rr 1 0 0), (tI rr 0 1 0), (tI rr 0 0 1)] : List Int32) := IA.eq A32 (by apply tri3 rr <;> rfl)
  have K33 := Keep.wr K19 W32 (Or.inr g8)
  have F34 := Exa.wr W32 F20
  have F35 := Fld.other W32 F18 (Or.inl n3)
  have F36 := Fld.other W32 F22 (Or.inl n3)
  have F37 := Fld.other W32 F23 (Or.inl n3)
  have F38 := ArrL.other F24 W32 n4
  have F39 := ArrL.other F25 W32 n5
  have F40 := ArrL.other F26 W32 n6
  have N42 := Fr.snoc X32 N28 g7
  have Z43 := zW Z29 W32
  refine g_iinc (v := (1 : Int32)) (L' := #[vR t, vI 3, vR ks, vR ns, vR wz, vR ks, vI 3, vI 1, vI (tI rr 0 1 2)]) X32 hx (D d2_51) rfl rfl rfl rfl (g_goto (q := 24) X32 hx (D d2_54) (by decide) (by decide) (g_iload X32 hx (D d2_24) rfl rfl (g_iload X32 hx (D d2_26) rfl rfl (g_icmp_ge (q := 57) (q0 := 31) X32 hx (D d2_28) (by decide) (by decide) rfl (fun h => absurd h (by decide)) fun c44 => (g_aload X32 hx (D d2_31) rfl rfl rfl (g_iload X32 hx (D d2_33) rfl rfl (g_iload_ (i := 1) (v := (tI rr 1 2 0)) X32 hx hZ e32 F38 rfl rfl (D d2_35) rfl (g_istore (L' := #[vR t, vI 3, vR ks, vR ns, vR wz, vR ks, vI 3, vI 1, vI (tI rr 1 2 0)]) X32 hx (D d2_36) rfl rfl (g_aloadN X32 hx (D d2_38) rfl rfl rfl (g_getF X32 hx hZ hown (hW hw 16 rfl) e32 F35 (D d2_39) rfl fun T45 X45 e45 => (g_iload X45 hx (D d2_42) rfl rfl (g_iconst (v := (1 : Int32)) X45 hx (D d2_44) rfl rfl (g_iadd X45 hx (D d2_45) rfl ?_)))))))))))))
  rw [show ((tI rr 1 2 0) + (1 : Int32)) = (tI rr 2 3 1) from by apply trd3 rr; decide]
  refine g_dup2 X45 hx (D d2_46) rfl rfl rfl (g_iload_ (i := (tN rr 2 3 1)) (v := (0 : Int32)) X45 hx hZ e45 A32 (by apply tri3 rr <;> rfl) (by apply tri3 rr <;> rfl) (D d2_47) rfl (g_iconst (v := (1 : Int32)) X45 hx (D d2_48) rfl rfl (g_iadd X45 hx (D d2_49) rfl ?_)))
  rw [show ((0 : Int32) + (1 : Int32)) = (1 : Int32) from by decide]
  refine g_istore_ (i := (tN rr 2 3 1)) (v := (1 : Int32)) X45 hx hZ e45 A32 (by apply tri3 rr <;> rfl) (show (tN rr 2 3 1) < 4 from by apply trd3 rr; decide) (D d2_50) rfl fun T46 h46 X46 e46 W46 A46 => ?_
  replace A46 : IA Z h46 o2 ([(0 : Int32), (tI rr 1 0 1), (tI rr 1 1 0), (tI rr 0 1 1)] : List Int32) := IA.eq A46 (by apply tri3 rr <;> rfl)
  have K47 := Keep.wr K33 W46 (Or.inr g8)
  have F48 := Exa.wr W46 F34
  have F49 := Fld.other W46 F35 (Or.inl n3)
  have F50 := Fld.other W46 F36 (Or.inl n3)
  have F51 := Fld.other W46 F37 (Or.inl n3)
  have F52 := ArrL.other F38 W46 n4
  have F53 := ArrL.other F39 W46 n5
  have F54 := ArrL.other F40 W46 n6
  have N56 := Fr.snoc X46 N42 g7
  have Z57 := zW Z43 W46
  refine g_iinc (v := (2 : Int32)) (L' := #[vR t, vI 3, vR ks, vR ns, vR wz, vR ks, vI 3, vI 2, vI (tI rr 1 2 0)]) X46 hx (D d2_51) rfl rfl rfl rfl (g_goto (q := 24) X46 hx (D d2_54) (by decide) (by decide) (g_iload X46 hx (D d2_24) rfl rfl (g_iload X46 hx (D d2_26) rfl rfl (g_icmp_ge (q := 57) (q0 := 31) X46 hx (D d2_28) (by decide) (by decide) rfl (fun h => absurd h (by decide)) fun c58 => (g_aload X46 hx (D d2_31) rfl rfl rfl (g_iload X46 hx (D d2_33) rfl rfl (g_iload_ (i := 2) (v := (tI rr 0 1 2)) X46 hx hZ e46 F52 rfl rfl (D d2_35) rfl (g_istore (L' := #[vR t, vI 3, vR ks, vR ns, vR wz, vR ks, vI 3, vI 2, vI (tI rr 0 1 2)]) X46 hx (D d2_36) rfl rfl (g_aloadN X46 hx (D d2_38) rfl rfl rfl (g_getF X46 hx hZ hown (hW hw 16 rfl) e46 F49 (D d2_39) rfl fun T59 X59 e59 => (g_iload X59 hx (D d2_42) rfl rfl (g_iconst (v := (1 : Int32)) X59 hx (D d2_44) rfl rfl (g_iadd X59 hx (D d2_45) rfl ?_)))))))))))))
  rw [show ((tI rr 0 1 2) + (1 : Int32)) = (tI rr 1 2 3) from by apply trd3 rr; decide]
  refine g_dup2 X59 hx (D d2_46) rfl rfl rfl (g_iload_ (i := (tN rr 1 2 3)) (v := (1 : Int32)) X59 hx hZ e59 A46 (by apply tri3 rr <;> rfl) (by apply tri3 rr <;> rfl) (D d2_47) rfl (g_iconst (v := (1 : Int32)) X59 hx (D d2_48) rfl rfl (g_iadd X59 hx (D d2_49) rfl ?_)))
  rw [show ((1 : Int32) + (1 : Int32)) = (2 : Int32) from by decide]
  refine g_istore_ (i := (tN rr 1 2 3)) (v := (2 : Int32)) X59 hx hZ e59 A46 (by apply tri3 rr <;> rfl) (show (tN rr 1 2 3) < 4 from by apply trd3 rr; decide) (D d2_50) rfl fun T60 h60 X60 e60 W60 A60 => ?_
  replace A60 : IA Z h60 o2 ([(0 : Int32), (tI rr 2 0 1), (tI rr 1 2 0), (tI rr 0 1 2)] : List Int32) := IA.eq A60 (by apply tri3 rr <;> rfl)
  have K61 := Keep.wr K47 W60 (Or.inr g8)
  have F62 := Exa.wr W60 F48
  have F63 := Fld.other W60 F49 (Or.inl n3)
  have F64 := Fld.other W60 F50 (Or.inl n3)
  have F65 := Fld.other W60 F51 (Or.inl n3)
  have F66 := ArrL.other F52 W60 n4
  have F67 := ArrL.other F53 W60 n5
  have F68 := ArrL.other F54 W60 n6
  have N70 := Fr.snoc X60 N56 g7
  have Z71 := zW Z57 W60
  refine g_iinc (v := (3 : Int32)) (L' := #[vR t, vI 3, vR ks, vR ns, vR wz, vR ks, vI 3, vI 3, vI (tI rr 0 1 2)]) X60 hx (D d2_51) rfl rfl rfl rfl (g_goto (q := 24) X60 hx (D d2_54) (by decide) (by decide) (g_iload X60 hx (D d2_24) rfl rfl (g_iload X60 hx (D d2_26) rfl rfl ?_)))
  refine g_icmp_ge (q := 57) (q0 := 31) X60 hx (D d2_28) (by decide) (by decide) rfl ?_ (fun h => absurd h (by decide))
  intro c72
  refine g_iconst (v := (0 : Int32)) X60 hx (D d2_57) rfl rfl (g_istore (L' := #[vR t, vI 3, vR ks, vR ns, vR wz, vI 0, vI 3, vI 3, vI (tI rr 0 1 2)]) X60 hx (D d2_58) rfl rfl (g_iload X60 hx (D d2_60) rfl rfl (g_iloadN X60 hx (D d2_62) rfl rfl (g_icmp_ge (q := 91) (q0 := 66) X60 hx (D d2_63) (by decide) (by decide) rfl (fun h => absurd h (by decide)) fun c73 => (g_aloadN X60 hx (D d2_66) rfl rfl rfl (g_getF X60 hx hZ hown (hW hw 16 rfl) e60 F63 (D d2_67) rfl fun T74 X74 e74 => (g_iload X74 hx (D d2_70) rfl rfl (g_iconst (v := (1 : Int32)) X74 hx (D d2_72) rfl rfl (g_iadd X74 hx (D d2_73) rfl ?_)))))))))
  rw [show ((0 : Int32) + (1 : Int32)) = (1 : Int32) from by decide]
  refine g_dup2 X74 hx (D d2_74) rfl rfl rfl (g_iload_ (i := 1) (v := (tI rr 2 0 1)) X74 hx hZ e74 A60 rfl rfl (D d2_75) rfl (g_aloadN X74 hx (D d2_76) rfl rfl rfl (g_getF X74 hx hZ hown (hW hw 16 rfl) e74 F63 (D d2_77) rfl fun T75 X75 e75 => (g_iload X75 hx (D d2_80) rfl rfl (g_iload_ (i := 0) (v := (0 : Int32)) X75 hx hZ e75 A60 rfl rfl (D d2_82) rfl (g_iadd X75 hx (D d2_83) rfl ?_))))))
  rw [show ((tI rr 2 0 1) + (0 : Int32)) = (tI rr 2 0 1) from by apply trd3 rr; decide]
  refine g_istore_ (i := 1) (v := (tI rr 2 0 1)) X75 hx hZ e75 A60 rfl (by show 1 < 4; decide) (D d2_84) rfl fun T76 h76 X76 e76 W76 A76 => ?_
  replace A76 : IA Z h76 o2 ([(0 : Int32), (tI rr 2 0 1), (tI rr 1 2 0), (tI rr 0 1 2)] : List Int32) := A76
  have K77 := Keep.wr K61 W76 (Or.inr g8)
  have F78 := Exa.wr W76 F62
  have F79 := Fld.other W76 F63 (Or.inl n3)
  have F80 := Fld.other W76 F64 (Or.inl n3)
  have F81 := Fld.other W76 F65 (Or.inl n3)
  have F82 := ArrL.other F66 W76 n4
  have F83 := ArrL.other F67 W76 n5
  have F84 := ArrL.other F68 W76 n6
  have N86 := Fr.snoc X76 N70 g7
  have Z87 := zW Z71 W76
  refine g_iinc (v := (1 : Int32)) (L' := #[vR t, vI 3, vR ks, vR ns, vR wz, vI 1, vI 3, vI 3, vI (tI rr 0 1 2)]) X76 hx (D d2_85) rfl rfl rfl rfl (g_goto (q := 60) X76 hx (D d2_88) (by decide) (by decide) (g_iload X76 hx (D d2_60) rfl rfl (g_iloadN X76 hx (D d2_62) rfl rfl (g_icmp_ge (q := 91) (q0 := 66) X76 hx (D d2_63) (by decide) (by decide) rfl (fun h => absurd h (by decide)) fun c88 => (g_aloadN X76 hx (D d2_66) rfl rfl rfl (g_getF X76 hx hZ hown (hW hw 16 rfl) e76 F79 (D d2_67) rfl fun T89 X89 e89 => (g_iload X89 hx (D d2_70) rfl rfl (g_iconst (v := (1 : Int32)) X89 hx (D d2_72) rfl rfl (g_iadd X89 hx (D d2_73) rfl ?_)))))))))
  rw [show ((1 : Int32) + (1 : Int32)) = (2 : Int32) from by decide]
  refine g_dup2 X89 hx (D d2_74) rfl rfl rfl (g_iload_ (i := 2) (v := (tI rr 1 2 0)) X89 hx hZ e89 A76 rfl rfl (D d2_75) rfl (g_aloadN X89 hx (D d2_76) rfl rfl rfl (g_getF X89 hx hZ hown (hW hw 16 rfl) e89 F79 (D d2_77) rfl fun T90 X90 e90 => (g_iload X90 hx (D d2_80) rfl rfl (g_iload_ (i := 1) (v := (tI rr 2 0 1)) X90 hx hZ e90 A76 rfl rfl (D d2_82) rfl (g_iadd X90 hx (D d2_83) rfl ?_))))))
  rw [show ((tI rr 1 2 0) + (tI rr 2 0 1)) = (tI rr 3 2 1) from by apply trd3 rr; decide]
  refine g_istore_ (i := 2) (v := (tI rr 3 2 1)) X90 hx hZ e90 A76 rfl (by show 2 < 4; decide) (D d2_84) rfl fun T91 h91 X91 e91 W91 A91 => ?_
  replace A91 : IA Z h91 o2 ([(0 : Int32), (tI rr 2 0 1), (tI rr 3 2 1), (tI rr 0 1 2)] : List Int32) := A91
  have K92 := Keep.wr K77 W91 (Or.inr g8)
  have F93 := Exa.wr W91 F78
  have F94 := Fld.other W91 F79 (Or.inl n3)
  have F95 := Fld.other W91 F80 (Or.inl n3)
  have F96 := Fld.other W91 F81 (Or.inl n3)
  have F97 := ArrL.other F82 W91 n4
  have F98 := ArrL.other F83 W91 n5
  have F99 := ArrL.other F84 W91 n6
  have N101 := Fr.snoc X91 N86 g7
  have Z102 := zW Z87 W91
  refine g_iinc (v := (2 : Int32)) (L' := #[vR t, vI 3, vR ks, vR ns, vR wz, vI 2, vI 3, vI 3, vI (tI rr 0 1 2)]) X91 hx (D d2_85) rfl rfl rfl rfl (g_goto (q := 60) X91 hx (D d2_88) (by decide) (by decide) (g_iload X91 hx (D d2_60) rfl rfl (g_iloadN X91 hx (D d2_62) rfl rfl (g_icmp_ge (q := 91) (q0 := 66) X91 hx (D d2_63) (by decide) (by decide) rfl (fun h => absurd h (by decide)) fun c103 => (g_aloadN X91 hx (D d2_66) rfl rfl rfl (g_getF X91 hx hZ hown (hW hw 16 rfl) e91 F94 (D d2_67) rfl fun T104 X104 e104 => (g_iload X104 hx (D d2_70) rfl rfl (g_iconst (v := (1 : Int32)) X104 hx (D d2_72) rfl rfl (g_iadd X104 hx (D d2_73) rfl ?_)))))))))
  rw [show ((2 : Int32) + (1 : Int32)) = (3 : Int32) from by decide]
  refine g_dup2 X104 hx (D d2_74) rfl rfl rfl (g_iload_ (i := 3) (v := (tI rr 0 1 2)) X104 hx hZ e104 A91 rfl rfl (D d2_75) rfl (g_aloadN X104 hx (D d2_76) rfl rfl rfl (g_getF X104 hx hZ hown (hW hw 16 rfl) e104 F94 (D d2_77) rfl fun T105 X105 e105 => (g_iload X105 hx (D d2_80) rfl rfl (g_iload_ (i := 2) (v := (tI rr 3 2 1)) X105 hx hZ e105 A91 rfl rfl (D d2_82) rfl (g_iadd X105 hx (D d2_83) rfl ?_))))))
  rw [show ((tI rr 0 1 2) + (tI rr 3 2 1)) = (3 : Int32) from by apply trd3 rr; decide]
  refine g_istore_ (i := 3) (v := (3 : Int32)) X105 hx hZ e105 A91 rfl (by show 3 < 4; decide) (D d2_84) rfl fun T106 h106 X106 e106 W106 A106 => ?_
  replace A106 : IA Z h106 o2 ([(0 : Int32), (tI rr 2 0 1), (tI rr 3 2 1), (3 : Int32)] : List Int32) := A106
  have K107 := Keep.wr K92 W106 (Or.inr g8)
  have F108 := Exa.wr W106 F93
  have F109 := Fld.other W106 F94 (Or.inl n3)
  have F110 := Fld.other W106 F95 (Or.inl n3)
  have F111 := Fld.other W106 F96 (Or.inl n3)
  have F112 := ArrL.other F97 W106 n4
  have F113 := ArrL.other F98 W106 n5
  have F114 := ArrL.other F99 W106 n6
  have N116 := Fr.snoc X106 N101 g7
  have Z117 := zW Z102 W106
  refine g_iinc (v := (3 : Int32)) (L' := #[vR t, vI 3, vR ks, vR ns, vR wz, vI 3, vI 3, vI 3, vI (tI rr 0 1 2)]) X106 hx (D d2_85) rfl rfl rfl rfl (g_goto (q := 60) X106 hx (D d2_88) (by decide) (by decide) (g_iload X106 hx (D d2_60) rfl rfl (g_iloadN X106 hx (D d2_62) rfl rfl ?_)))
  refine g_icmp_ge (q := 91) (q0 := 66) X106 hx (D d2_63) (by decide) (by decide) rfl ?_ (fun h => absurd h (by decide))
  intro c118
  refine g_aloadN X106 hx (D d2_91) rfl rfl rfl (g_getF X106 hx hZ hown (hW hw 16 rfl) e106 F109 (D d2_92) rfl fun T119 X119 e119 => (g_iloadN X119 hx (D d2_95) rfl rfl (g_callS X119 hx hZ hown (hW hw 18 rfl) (hW hw 19 rfl) (hW hw 20 rfl) (hW hw 21 rfl) (by decide) (rm4 l Z a0 hw [] o2 h106 n0 Z117 (0 : Int32) (tI rr 2 0 1) (tI rr 3 2 1) (3 : Int32) A106) (argsL := [.ref o2, .int 3]) (rest := []) pd_1 rfl rfl rfl (D d2_96) rfl (by rw [hml]; rfl) e119 (by decide) (W := 0) rfl (by decide) (by decide) (by decide) fun v120 T120 Lc120 X120 Q120 => ?_)))
  obtain ⟨Nq120, o120, rfl, q120, Kq120, A120⟩ := Q120
  have N121 := Fr.app N116 Nq120
  have K122 := Keep.trans K107 Kq120 all0
  have F123 := Exa.keep F108 Kq120
  have F124 := Fld.keep F109 Kq120 nin0
  have F125 := Fld.keep F110 Kq120 nin0
  have F126 := Fld.keep F111 Kq120 nin0
  have F127 := ArrL.keep F112 Kq120 nin0
  have F128 := ArrL.keep F113 Kq120 nin0
  have F129 := ArrL.keep F114 Kq120 nin0
  have F130 := ArrL.keep A106 Kq120 nin0
  have Z131 := zK Z117 Kq120
  have n132 : t ≠ o120 := ne_ge F111.lt q120
  have n133 : ks ≠ o120 := ne_ge F112.lt q120
  have n134 : ns ≠ o120 := ne_ge F113.lt q120
  have n135 : wz ≠ o120 := ne_ge F114.lt q120
  have n136 : o2 ≠ o120 := ne_ge A106.lt q120
  have g137 : h0.size ≤ o120 := Nat.le_trans K107.1 q120
  have g138 : n0 ≤ o120 := Nat.le_trans Z117 q120
  refine g_astore (L' := #[vR t, vI 3, vR ks, vR ns, vR wz, vR o120, vI 3, vI 3, vI (tI rr 0 1 2)]) X120 hx (D d2_99) rfl rfl rfl (g_aloadN X120 hx (D d2_101) rfl rfl rfl (g_aloadN X120 hx (D d2_102) rfl rfl rfl (g_alen (v := (3 : Int32)) X120 hx hZ rfl F127 rfl (D d2_103) rfl (g_inew_ (n := 3) (cap := 3) X120 hx hZ (hW hw 0 rfl) rfl rfl (by decide) (by decide) (D d2_104) rfl (by decide) (by decide) fun T139 h139 o139 X139 e139 E139 q139 A139 => ?_))))
  replace A139 : IA Z h139 o139 ([0, 0, 0] : List Int32) := A139
  have n140 : t ≠ o139 := ne_new F123.lt q139
  have n141 : ks ≠ o139 := ne_new F127.lt q139
  have n142 : ns ≠ o139 := ne_new F128.lt q139
  have n143 : wz ≠ o139 := ne_new F129.lt q139
  have n144 : o2 ≠ o139 := ne_new F130.lt q139
  have n145 : o120 ≠ o139 := ne_new A120.lt q139
  have g146 : n0 ≤ o139 := ge_new Z131 q139
  have g147 : h0.size ≤ o139 := ge_new K122.1 q139
  have K148 := Keep.ext K122 E139
  have F149 := Exa.ext E139 F123
  have F150 := Fld.ext E139 F124
  have F151 := Fld.ext E139 F125
  have F152 := Fld.ext E139 F126
  have F153 := ArrL.ext F127 E139
  have F154 := ArrL.ext F128 E139
  have F155 := ArrL.ext F129 E139
  have F156 := ArrL.ext F130 E139
  have F157 := ArrL.ext A120 E139
  have Z158 := zE Z131 E139
  refine g_putF (ty := (.array .int)) X139 hx hZ hown (hW hw 29 rfl) e139 F151 F149 (Or.inr ⟨(hW hw 30 rfl), rfl, hnm⟩) (hW hw 8 rfl) (by decide) rfl rfl (D d2_106) rfl fun T159 h159 X159 e159 W159 F159 => ?_
  have K160 := Keep.wr K148 W159 (Or.inl (by simp))
  have F161 := Exa.wr W159 F149
  have F162 := Fld.other W159 F150 (Or.inr (slot_ne (a0 := a0) (Or.inr (hW hw 17 rfl)) (Or.inr (hW hw 30 rfl)) (by decide) (t := (.array .int)) (t' := (.array .int)) (by decide) (by decide)))
  have F164 := Fld.other W159 F152 (Or.inr (slot_ne (a0 := a0) (Or.inr (hW hw 32 rfl)) (Or.inr (hW hw 30 rfl)) (by decide) (t := (.array .long)) (t' := (.array .int)) (by decide) (by decide)))
  have F165 := ArrL.other F153 W159 (Ne.symm ne0_)
  have F166 := ArrL.other F154 W159 (Ne.symm ne1_)
  have F167 := ArrL.other F155 W159 (Ne.symm ne2_)
  have F168 := ArrL.other F156 W159 (Ne.symm n3)
  have F169 := ArrL.other F157 W159 (Ne.symm n132)
  have F170 := ArrL.other A139 W159 (Ne.symm n140)
  have N171 := Fr.snoc X159 N121 gt_
  have Z172 := zW Z158 W159
  refine g_aloadN X159 hx (D d2_109) rfl rfl rfl (g_aload X159 hx (D d2_110) rfl rfl rfl (g_ifnonnull_yes (q := 119) X159 hx (D d2_112) (by decide) (by decide) (g_aloadN X159 hx (D d2_119) rfl rfl rfl (g_alen (v := (3 : Int32)) X159 hx hZ e159 F165 rfl (D d2_120) rfl (g_lnew_ (n := 3) (cap := 3) X159 hx hZ (hW hw 1 rfl) e159 rfl (by decide) (by decide) (D d2_121) rfl (by decide) (by decide) fun T173 h173 o173 X173 e173 E173 q173 A173 => ?_)))))
  replace A173 : LA Z h173 o173 ([0, 0, 0] : List Int64) := A173
  have n174 : t ≠ o173 := ne_new F161.lt q173
  have n175 : ks ≠ o173 := ne_new F165.lt q173
  have n176 : ns ≠ o173 := ne_new F166.lt q173
  have n177 : wz ≠ o173 := ne_new F167.lt q173
  have n178 : o2 ≠ o173 := ne_new F168.lt q173
  have n179 : o120 ≠ o173 := ne_new F169.lt q173
  have n180 : o139 ≠ o173 := ne_new F170.lt q173
  have g181 : n0 ≤ o173 := ge_new Z172 q173
  have g182 : h0.size ≤ o173 := ge_new K160.1 q173
  have K183 := Keep.ext K160 E173
  have F184 := Exa.ext E173 F161
  have F185 := Fld.ext E173 F162
  have F186 := Fld.ext E173 F159
  have F187 := Fld.ext E173 F164
  have F188 := ArrL.ext F165 E173
  have F189 := ArrL.ext F166 E173
  have F190 := ArrL.ext F167 E173
  have F191 := ArrL.ext F168 E173
  have F192 := ArrL.ext F169 E173
  have F193 := ArrL.ext F170 E173
  have Z194 := zE Z172 E173
  refine g_putF (ty := (.array .long)) X173 hx hZ hown (hW hw 31 rfl) e173 F187 F184 (Or.inr ⟨(hW hw 32 rfl), rfl, hnm⟩) (hW hw 8 rfl) (by decide) rfl rfl (D d2_123) rfl fun T195 h195 X195 e195 W195 F195 => ?_
  have K196 := Keep.wr K183 W195 (Or.inl (by simp))
  have F197 := Exa.wr W195 F184
  have F198 := Fld.other W195 F185 (Or.inr (slot_ne (a0 := a0) (Or.inr (hW hw 17 rfl)) (Or.inr (hW hw 32 rfl)) (by decide) (t := (.array .int)) (t' := (.array .long)) (by decide) (by decide)))
  have F199 := Fld.other W195 F186 (Or.inr (slot_ne (a0 := a0) (Or.inr (hW hw 30 rfl)) (Or.inr (hW hw 32 rfl)) (by decide) (t := (.array .int)) (t' := (.array .long)) (by decide) (by decide)))
  have F201 := ArrL.other F188 W195 (Ne.symm ne0_)
  have F202 := ArrL.other F189 W195 (Ne.symm ne1_)
  have F203 := ArrL.other F190 W195 (Ne.symm ne2_)
  have F204 := ArrL.other F191 W195 (Ne.symm n3)
  have F205 := ArrL.other F192 W195 (Ne.symm n132)
  have F206 := ArrL.other F193 W195 (Ne.symm n140)
  have F207 := ArrL.other A173 W195 (Ne.symm n174)
  have N208 := Fr.snoc X195 N171 gt_
  have Z209 := zW Z194 W195
  refine g_iconst (v := (0 : Int32)) X195 hx (D d2_126) rfl rfl (g_istore (L' := #[vR t, vI 3, vR ks, vR ns, vR wz, vR o120, vI 0, vI 3, vI (tI rr 0 1 2)]) X195 hx (D d2_127) rfl rfl (g_iload X195 hx (D d2_129) rfl rfl (g_aloadN X195 hx (D d2_131) rfl rfl rfl (g_alen (v := (3 : Int32)) X195 hx hZ e195 F201 rfl (D d2_132) rfl (g_icmp_ge (q := 184) (q0 := 136) X195 hx (D d2_133) (by decide) (by decide) rfl (fun h => absurd h (by decide)) fun c210 => (g_aload X195 hx (D d2_136) rfl rfl rfl (g_aloadN X195 hx (D d2_138) rfl rfl rfl (g_iload X195 hx (D d2_139) rfl rfl (g_iload_ (i := 0) (v := (tI rr 0 1 2)) X195 hx hZ e195 F201 rfl rfl (D d2_141) rfl (g_dup2 X195 hx (D d2_142) rfl rfl rfl (g_iload_ (i := (tN rr 0 1 2)) (v := (tI rr 0 0 1)) X195 hx hZ e195 F205 (by apply tri3 rr <;> rfl) (by apply tri3 rr <;> rfl) (D d2_143) rfl (g_dupX2 X195 hx (D d2_144) rfl rfl rfl rfl (g_iconst (v := (1 : Int32)) X195 hx (D d2_145) rfl rfl (g_iadd X195 hx (D d2_146) rfl ?_))))))))))))))
  rw [show ((tI rr 0 0 1) + (1 : Int32)) = (tI rr 1 1 2) from by apply trd3 rr; decide]
  refine g_istore_ (i := (tN rr 0 1 2)) (v := (tI rr 1 1 2)) X195 hx hZ e195 F205 (by apply tri3 rr <;> rfl) (show (tN rr 0 1 2) < 3 from by apply trd3 rr; decide) (D d2_147) rfl fun T211 h211 X211 e211 W211 A211 => ?_
  replace A211 : IA Z h211 o120 ([(tI rr 1 0 0), (tI rr 2 1 1), (tI rr 3 2 2)] : List Int32) := IA.eq A211 (by apply tri3 rr <;> rfl)
  have K212 := Keep.wr K196 W211 (Or.inr g137)
  have F213 := Exa.wr W211 F197
  have F214 := Fld.other W211 F198 (Or.inl n132)
  have F215 := Fld.other W211 F199 (Or.inl n132)
  have F216 := Fld.other W211 F195 (Or.inl n132)
  have F217 := ArrL.other F201 W211 n133
  have F218 := ArrL.other F202 W211 n134
  have F219 := ArrL.other F203 W211 n135
  have F220 := ArrL.other F204 W211 n136
  have F222 := ArrL.other F206 W211 (Ne.symm n145)
  have F223 := ArrL.other F207 W211 (Ne.symm n179)
  have N224 := Fr.snoc X211 N208 g138
  have Z225 := zW Z209 W211
  refine g_istore (L' := #[vR t, vI 3, vR ks, vR ns, vR wz, vR o120, vI 0, vI (tI rr 0 0 1), vI (tI rr 0 1 2)]) X211 hx (D d2_148) rfl rfl (g_aloadN X211 hx (D d2_150) rfl rfl rfl (g_getF X211 hx hZ hown (hW hw 29 rfl) e211 F215 (D d2_151) rfl fun T226 X226 e226 => (g_iload X226 hx (D d2_154) rfl rfl (g_aloadN X226 hx (D d2_156) rfl rfl rfl (g_iload X226 hx (D d2_157) rfl rfl (g_iload_ (i := 0) (v := (tI rr 1 2 0)) X226 hx hZ e226 F218 rfl rfl (D d2_159) rfl (g_istore_ (i := (tN rr 0 0 1)) (v := (tI rr 1 2 0)) X226 hx hZ e226 F222 (by apply tri3 rr <;> rfl) (show (tN rr 0 0 1) < 3 from by apply trd3 rr; decide) (D d2_160) rfl fun T227 h227 X227 e227 W227 A227 => ?_)))))))
  replace A227 : IA Z h227 o139 ([(tI rr 1 2 0), (0 : Int32), (0 : Int32)] : List Int32) := IA.eq A227 (by apply tri3 rr <;> rfl)
  have K228 := Keep.wr K212 W227 (Or.inr g147)
  have F229 := Exa.wr W227 F213
  have F230 := Fld.other W227 F214 (Or.inl n140)
  have F231 := Fld.other W227 F215 (Or.inl n140)
  have F232 := Fld.other W227 F216 (Or.inl n140)
  have F233 := ArrL.other F217 W227 n141
  have F234 := ArrL.other F218 W227 n142
  have F235 := ArrL.other F219 W227 n143
  have F236 := ArrL.other F220 W227 n144
  have F237 := ArrL.other A211 W227 n145
  have F239 := ArrL.other F223 W227 (Ne.symm n180)
  have N240 := Fr.snoc X227 N224 g146
  have Z241 := zW Z225 W227
  refine g_aload X227 hx (D d2_161) rfl rfl rfl (g_ifnull_no (q := 166) X227 hx (D d2_163) rfl (g_aloadN X227 hx (D d2_166) rfl rfl rfl (g_getF X227 hx hZ hown (hW hw 31 rfl) e227 F232 (D d2_167) rfl fun T242 X242 e242 => (g_iload X242 hx (D d2_170) rfl rfl (g_aload X242 hx (D d2_172) rfl rfl rfl (g_iload X242 hx (D d2_174) rfl rfl (g_lload_ (i := 0) (v := w1_) X242 hx hZ e242 F235 rfl rfl (D d2_176) rfl (g_lstore_ (i := (tN rr 0 0 1)) (v := w1_) X242 hx hZ e242 F239 (by apply tri3 rr <;> rfl) (show (tN rr 0 0 1) < 3 from by apply trd3 rr; decide) (D d2_177) rfl fun T243 h243 X243 e243 W243 A243 => ?_))))))))
  replace A243 : LA Z h243 o173 ([(tJ rr w1_ w1_ 0), (tJ rr 0 0 w1_), (0 : Int64)] : List Int64) := LA.eq A243 (by apply tri3 rr <;> rfl)
  have K244 := Keep.wr K228 W243 (Or.inr g182)
  have F245 := Exa.wr W243 F229
  have F246 := Fld.other W243 F230 (Or.inl n174)
  have F247 := Fld.other W243 F231 (Or.inl n174)
  have F248 := Fld.other W243 F232 (Or.inl n174)
  have F249 := ArrL.other F233 W243 n175
  have F250 := ArrL.other F234 W243 n176
  have F251 := ArrL.other F235 W243 n177
  have F252 := ArrL.other F236 W243 n178
  have F253 := ArrL.other F237 W243 n179
  have F254 := ArrL.other A227 W243 n180
  have N256 := Fr.snoc X243 N240 g181
  have Z257 := zW Z241 W243
  refine g_iinc (v := (1 : Int32)) (L' := #[vR t, vI 3, vR ks, vR ns, vR wz, vR o120, vI 1, vI (tI rr 0 0 1), vI (tI rr 0 1 2)]) X243 hx (D d2_178) rfl rfl rfl rfl (g_goto (q := 129) X243 hx (D d2_181) (by decide) (by decide) (g_iload X243 hx (D d2_129) rfl rfl (g_aloadN X243 hx (D d2_131) rfl rfl rfl (g_alen (v := (3 : Int32)) X243 hx hZ e243 F249 rfl (D d2_132) rfl (g_icmp_ge (q := 184) (q0 := 136) X243 hx (D d2_133) (by decide) (by decide) rfl (fun h => absurd h (by decide)) fun c258 => (g_aload X243 hx (D d2_136) rfl rfl rfl (g_aloadN X243 hx (D d2_138) rfl rfl rfl (g_iload X243 hx (D d2_139) rfl rfl (g_iload_ (i := 1) (v := (tI rr 1 2 0)) X243 hx hZ e243 F249 rfl rfl (D d2_141) rfl (g_dup2 X243 hx (D d2_142) rfl rfl rfl (g_iload_ (i := (tN rr 1 2 0)) (v := (tI rr 2 2 0)) X243 hx hZ e243 F253 (by apply tri3 rr <;> rfl) (by apply tri3 rr <;> rfl) (D d2_143) rfl (g_dupX2 X243 hx (D d2_144) rfl rfl rfl rfl (g_iconst (v := (1 : Int32)) X243 hx (D d2_145) rfl rfl (g_iadd X243 hx (D d2_146) rfl ?_))))))))))))))
  rw [show ((tI rr 2 2 0) + (1 : Int32)) = (tI rr 3 3 1) from by apply trd3 rr; decide]
  refine g_istore_ (i := (tN rr 1 2 0)) (v := (tI rr 3 3 1)) X243 hx hZ e243 F253 (by apply tri3 rr <;> rfl) (show (tN rr 1 2 0) < 3 from by apply trd3 rr; decide) (D d2_147) rfl fun T259 h259 X259 e259 W259 A259 => ?_
  replace A259 : IA Z h259 o120 ([(tI rr 1 0 1), (tI rr 3 1 1), (tI rr 3 3 2)] : List Int32) := IA.eq A259 (by apply tri3 rr <;> rfl)
  have K260 := Keep.wr K244 W259 (Or.inr g137)
  have F261 := Exa.wr W259 F245
  have F262 := Fld.other W259 F246 (Or.inl n132)
  have F263 := Fld.other W259 F247 (Or.inl n132)
  have F264 := Fld.other W259 F248 (Or.inl n132)
  have F265 := ArrL.other F249 W259 n133
  have F266 := ArrL.other F250 W259 n134
  have F267 := ArrL.other F251 W259 n135
  have F268 := ArrL.other F252 W259 n136
  have F270 := ArrL.other F254 W259 (Ne.symm n145)
  have F271 := ArrL.other A243 W259 (Ne.symm n179)
  have N272 := Fr.snoc X259 N256 g138
  have Z273 := zW Z257 W259
  refine g_istore (L' := #[vR t, vI 3, vR ks, vR ns, vR wz, vR o120, vI 1, vI (tI rr 2 2 0), vI (tI rr 0 1 2)]) X259 hx (D d2_148) rfl rfl (g_aloadN X259 hx (D d2_150) rfl rfl rfl (g_getF X259 hx hZ hown (hW hw 29 rfl) e259 F263 (D d2_151) rfl fun T274 X274 e274 => (g_iload X274 hx (D d2_154) rfl rfl (g_aloadN X274 hx (D d2_156) rfl rfl rfl (g_iload X274 hx (D d2_157) rfl rfl (g_iload_ (i := 1) (v := (tI rr 2 0 1)) X274 hx hZ e274 F266 rfl rfl (D d2_159) rfl (g_istore_ (i := (tN rr 2 2 0)) (v := (tI rr 2 0 1)) X274 hx hZ e274 F270 (by apply tri3 rr <;> rfl) (show (tN rr 2 2 0) < 3 from by apply trd3 rr; decide) (D d2_160) rfl fun T275 h275 X275 e275 W275 A275 => ?_)))))))
  replace A275 : IA Z h275 o139 ([(tI rr 1 2 1), (0 : Int32), (tI rr 2 0 0)] : List Int32) := IA.eq A275 (by apply tri3 rr <;> rfl)
  have K276 := Keep.wr K260 W275 (Or.inr g147)
  have F277 := Exa.wr W275 F261
  have F278 := Fld.other W275 F262 (Or.inl n140)
  have F279 := Fld.other W275 F263 (Or.inl n140)
  have F280 := Fld.other W275 F264 (Or.inl n140)
  have F281 := ArrL.other F265 W275 n141
  have F282 := ArrL.other F266 W275 n142
  have F283 := ArrL.other F267 W275 n143
  have F284 := ArrL.other F268 W275 n144
  have F285 := ArrL.other A259 W275 n145
  have F287 := ArrL.other F271 W275 (Ne.symm n180)
  have N288 := Fr.snoc X275 N272 g146
  have Z289 := zW Z273 W275
  refine g_aload X275 hx (D d2_161) rfl rfl rfl (g_ifnull_no (q := 166) X275 hx (D d2_163) rfl (g_aloadN X275 hx (D d2_166) rfl rfl rfl (g_getF X275 hx hZ hown (hW hw 31 rfl) e275 F280 (D d2_167) rfl fun T290 X290 e290 => (g_iload X290 hx (D d2_170) rfl rfl (g_aload X290 hx (D d2_172) rfl rfl rfl (g_iload X290 hx (D d2_174) rfl rfl (g_lload_ (i := 1) (v := w2_) X290 hx hZ e290 F283 rfl rfl (D d2_176) rfl (g_lstore_ (i := (tN rr 2 2 0)) (v := w2_) X290 hx hZ e290 F287 (by apply tri3 rr <;> rfl) (show (tN rr 2 2 0) < 3 from by apply trd3 rr; decide) (D d2_177) rfl fun T291 h291 X291 e291 W291 A291 => ?_))))))))
  replace A291 : LA Z h291 o173 ([(tJ rr w1_ w1_ w2_), (tJ rr 0 0 w1_), (tJ rr w2_ w2_ 0)] : List Int64) := LA.eq A291 (by apply tri3 rr <;> rfl)
  have K292 := Keep.wr K276 W291 (Or.inr g182)
  have F293 := Exa.wr W291 F277
  have F294 := Fld.other W291 F278 (Or.inl n174)
  have F295 := Fld.other W291 F279 (Or.inl n174)
  have F296 := Fld.other W291 F280 (Or.inl n174)
  have F297 := ArrL.other F281 W291 n175
  have F298 := ArrL.other F282 W291 n176
  have F299 := ArrL.other F283 W291 n177
  have F300 := ArrL.other F284 W291 n178
  have F301 := ArrL.other F285 W291 n179
  have F302 := ArrL.other A275 W291 n180
  have N304 := Fr.snoc X291 N288 g181
  have Z305 := zW Z289 W291
  refine g_iinc (v := (2 : Int32)) (L' := #[vR t, vI 3, vR ks, vR ns, vR wz, vR o120, vI 2, vI (tI rr 2 2 0), vI (tI rr 0 1 2)]) X291 hx (D d2_178) rfl rfl rfl rfl (g_goto (q := 129) X291 hx (D d2_181) (by decide) (by decide) (g_iload X291 hx (D d2_129) rfl rfl (g_aloadN X291 hx (D d2_131) rfl rfl rfl (g_alen (v := (3 : Int32)) X291 hx hZ e291 F297 rfl (D d2_132) rfl (g_icmp_ge (q := 184) (q0 := 136) X291 hx (D d2_133) (by decide) (by decide) rfl (fun h => absurd h (by decide)) fun c306 => (g_aload X291 hx (D d2_136) rfl rfl rfl (g_aloadN X291 hx (D d2_138) rfl rfl rfl (g_iload X291 hx (D d2_139) rfl rfl (g_iload_ (i := 2) (v := (tI rr 0 1 2)) X291 hx hZ e291 F297 rfl rfl (D d2_141) rfl (g_dup2 X291 hx (D d2_142) rfl rfl rfl (g_iload_ (i := (tN rr 0 1 2)) (v := (tI rr 1 1 2)) X291 hx hZ e291 F301 (by apply tri3 rr <;> rfl) (by apply tri3 rr <;> rfl) (D d2_143) rfl (g_dupX2 X291 hx (D d2_144) rfl rfl rfl rfl (g_iconst (v := (1 : Int32)) X291 hx (D d2_145) rfl rfl (g_iadd X291 hx (D d2_146) rfl ?_))))))))))))))
  rw [show ((tI rr 1 1 2) + (1 : Int32)) = (tI rr 2 2 3) from by apply trd3 rr; decide]
  refine g_istore_ (i := (tN rr 0 1 2)) (v := (tI rr 2 2 3)) X291 hx hZ e291 F301 (by apply tri3 rr <;> rfl) (show (tN rr 0 1 2) < 3 from by apply trd3 rr; decide) (D d2_147) rfl fun T307 h307 X307 e307 W307 A307 => ?_
  replace A307 : IA Z h307 o120 ([(tI rr 2 0 1), (tI rr 3 2 1), (3 : Int32)] : List Int32) := IA.eq A307 (by apply tri3 rr <;> rfl)
  have K308 := Keep.wr K292 W307 (Or.inr g137)
  have F309 := Exa.wr W307 F293
  have F310 := Fld.other W307 F294 (Or.inl n132)
  have F311 := Fld.other W307 F295 (Or.inl n132)
  have F312 := Fld.other W307 F296 (Or.inl n132)
  have F313 := ArrL.other F297 W307 n133
  have F314 := ArrL.other F298 W307 n134
  have F315 := ArrL.other F299 W307 n135
  have F316 := ArrL.other F300 W307 n136
  have F318 := ArrL.other F302 W307 (Ne.symm n145)
  have F319 := ArrL.other A291 W307 (Ne.symm n179)
  have N320 := Fr.snoc X307 N304 g138
  have Z321 := zW Z305 W307
  refine g_istore (L' := #[vR t, vI 3, vR ks, vR ns, vR wz, vR o120, vI 2, vI (tI rr 1 1 2), vI (tI rr 0 1 2)]) X307 hx (D d2_148) rfl rfl (g_aloadN X307 hx (D d2_150) rfl rfl rfl (g_getF X307 hx hZ hown (hW hw 29 rfl) e307 F311 (D d2_151) rfl fun T322 X322 e322 => (g_iload X322 hx (D d2_154) rfl rfl (g_aloadN X322 hx (D d2_156) rfl rfl rfl (g_iload X322 hx (D d2_157) rfl rfl (g_iload_ (i := 2) (v := (tI rr 2 0 1)) X322 hx hZ e322 F314 rfl rfl (D d2_159) rfl (g_istore_ (i := (tN rr 1 1 2)) (v := (tI rr 2 0 1)) X322 hx hZ e322 F318 (by apply tri3 rr <;> rfl) (show (tN rr 1 1 2) < 3 from by apply trd3 rr; decide) (D d2_160) rfl fun T323 h323 X323 e323 W323 A323 => ?_)))))))
  replace A323 : IA Z h323 o139 ([(tI rr 1 2 1), (tI rr 2 0 0), (tI rr 2 0 1)] : List Int32) := IA.eq A323 (by apply tri3 rr <;> rfl)
  have K324 := Keep.wr K308 W323 (Or.inr g147)
  have F325 := Exa.wr W323 F309
  have F326 := Fld.other W323 F310 (Or.inl n140)
  have F327 := Fld.other W323 F311 (Or.inl n140)
  have F328 := Fld.other W323 F312 (Or.inl n140)
  have F329 := ArrL.other F313 W323 n141
  have F330 := ArrL.other F314 W323 n142
  have F331 := ArrL.other F315 W323 n143
  have F332 := ArrL.other F316 W323 n144
  have F333 := ArrL.other A307 W323 n145
  have F335 := ArrL.other F319 W323 (Ne.symm n180)
  have N336 := Fr.snoc X323 N320 g146
  have Z337 := zW Z321 W323
  refine g_aload X323 hx (D d2_161) rfl rfl rfl (g_ifnull_no (q := 166) X323 hx (D d2_163) rfl (g_aloadN X323 hx (D d2_166) rfl rfl rfl (g_getF X323 hx hZ hown (hW hw 31 rfl) e323 F328 (D d2_167) rfl fun T338 X338 e338 => (g_iload X338 hx (D d2_170) rfl rfl (g_aload X338 hx (D d2_172) rfl rfl rfl (g_iload X338 hx (D d2_174) rfl rfl (g_lload_ (i := 2) (v := w3_) X338 hx hZ e338 F331 rfl rfl (D d2_176) rfl (g_lstore_ (i := (tN rr 1 1 2)) (v := w3_) X338 hx hZ e338 F335 (by apply tri3 rr <;> rfl) (show (tN rr 1 1 2) < 3 from by apply trd3 rr; decide) (D d2_177) rfl fun T339 h339 X339 e339 W339 A339 => ?_))))))))
  replace A339 : LA Z h339 o173 ([(tJ rr w1_ w1_ w2_), (tJ rr w3_ w3_ w1_), (tJ rr w2_ w2_ w3_)] : List Int64) := LA.eq A339 (by apply tri3 rr <;> rfl)
  have K340 := Keep.wr K324 W339 (Or.inr g182)
  have F341 := Exa.wr W339 F325
  have F342 := Fld.other W339 F326 (Or.inl n174)
  have F343 := Fld.other W339 F327 (Or.inl n174)
  have F344 := Fld.other W339 F328 (Or.inl n174)
  have F345 := ArrL.other F329 W339 n175
  have F346 := ArrL.other F330 W339 n176
  have F347 := ArrL.other F331 W339 n177
  have F348 := ArrL.other F332 W339 n178
  have F349 := ArrL.other F333 W339 n179
  have F350 := ArrL.other A323 W339 n180
  have N352 := Fr.snoc X339 N336 g181
  have Z353 := zW Z337 W339
  refine g_iinc (v := (3 : Int32)) (L' := #[vR t, vI 3, vR ks, vR ns, vR wz, vR o120, vI 3, vI (tI rr 1 1 2), vI (tI rr 0 1 2)]) X339 hx (D d2_178) rfl rfl rfl rfl (g_goto (q := 129) X339 hx (D d2_181) (by decide) (by decide) (g_iload X339 hx (D d2_129) rfl rfl (g_aloadN X339 hx (D d2_131) rfl rfl rfl (g_alen (v := (3 : Int32)) X339 hx hZ e339 F345 rfl (D d2_132) rfl ?_))))
  refine g_icmp_ge (q := 184) (q0 := 136) X339 hx (D d2_133) (by decide) (by decide) rfl ?_ (fun h => absurd h (by decide))
  intro c354
  exact g_ret X339 hx hlk hrt (D d2_184) (by decide) (by decide) (by rw [e339]; exact ⟨rfl, N352, K340, o2, o139, o173, g8, g147, g182, F342, F343, F344, F348, F350, A339⟩)
def RM_rm7 : Room := ({ frames := 0, cells := 0, slots := 0, locals := 0 } : Room)
abbrev b7 := prog_71_method_2_code
theorem d7_0 : decode b7 0 = .ok (.aload_n 0, 1) := by decide +kernel
theorem d7_1 : decode b7 1 = .ok (.getfield 7, 3) := by decide +kernel
theorem d7_4 : decode b7 4 = .ok (.arraylength, 1) := by decide +kernel
theorem d7_5 : decode b7 5 = .ok (.iconst 1, 1) := by decide +kernel
theorem d7_6 : decode b7 6 = .ok (.isub, 1) := by decide +kernel
theorem d7_7 : decode b7 7 = .ok (.ireturn, 1) := by decide +kernel
theorem ef_7 (m : MethodId) (z0 : Addr) : entryFrame m #[.ref z0] 1 = mkF m 0 #[vR z0] [] := by first | (simp [entryFrame, mkF, argsToLocals, Value.category]; done) | rfl
set_option maxRecDepth 65536 in
set_option maxHeartbeats 40000000 in
theorem rm7 (l : Launch) (Z : State) (a0 : Array Value) (hw : ∀ d ∈ tables_1, d.before a0 Z = true) (ws : List Jvm.Cond) (t : Addr) (h0 : Heap) (n0 : Nat) (Z0 : n0 ≤ h0.size) (xs : Addr) (s0_ s1_ s2_ s3_ : Int32) (F0_ : Fld Z h0 t kA "starts" "[I" (.ref xs)) (A0_ : IA Z h0 xs [s0_, s1_, s2_, s3_]) :
    Ctr l Z (⟨kA, "size", "()I"⟩ : MethodName) prog_71_method_2_code 1 (some .int) RM_rm7 ws #[.ref t] h0 (PQ (.int (3 : Int32)) h0) := by
  refine Ctr.of (plainFor_of_name pn_3) ?_
  intro p e s m below meth c s₁ hx hby hml hrt hlk hnm hown hZ X0 e0
  have N0 := Fr.nil n0
  have D := @hb _ _ hby
  refine Go.cast (ef_7 m t) ?_
  refine g_aloadN X0 hx (D d7_0) rfl rfl rfl (g_getF X0 hx hZ hown (hW hw 16 rfl) e0 F0_ (D d7_1) rfl fun T1 X1 e1 => (g_alen (v := (4 : Int32)) X1 hx hZ e1 A0_ rfl (D d7_4) rfl (g_iconst (v := (1 : Int32)) X1 hx (D d7_5) rfl rfl (g_isub X1 hx (D d7_6) rfl ?_))))
  rw [show ((4 : Int32) - (1 : Int32)) = (3 : Int32) from by decide]
  exact g_ireturn X1 hx hlk hrt (D d7_7) (by decide) (by decide) ⟨rfl, e1, rfl⟩
def RM_rm18 : Room := ({ frames := 0, cells := 0, slots := 0, locals := 0 } : Room)
abbrev b18 := prog_71_method_4_code
theorem d18_0 : decode b18 0 = .ok (.aload_n 0, 1) := by decide +kernel
theorem d18_1 : decode b18 1 = .ok (.getfield 7, 3) := by decide +kernel
theorem d18_4 : decode b18 4 = .ok (.iload_n 1, 1) := by decide +kernel
theorem d18_5 : decode b18 5 = .ok (.iaload, 1) := by decide +kernel
theorem d18_6 : decode b18 6 = .ok (.ireturn, 1) := by decide +kernel
theorem ef_18 (m : MethodId) (z0 : Addr) (z1 : Int32) : entryFrame m #[.ref z0, .int z1] 2 = mkF m 0 #[vR z0, vI z1] [] := by first | (simp [entryFrame, mkF, argsToLocals, Value.category]; done) | rfl
set_option maxRecDepth 65536 in
set_option maxHeartbeats 40000000 in
theorem rm18 (l : Launch) (Z : State) (a0 : Array Value) (hw : ∀ d ∈ tables_1, d.before a0 Z = true) (ws : List Jvm.Cond) (t : Addr) (tt : Int32) (h0 : Heap) (n0 : Nat) (Z0 : n0 ≤ h0.size) (xs : Addr) (vs : List Int32) (rv : Int32) (ii : Nat) (F0_ : Fld Z h0 t kA "starts" "[I" (.ref xs)) (A0_ : IA Z h0 xs vs) (hi : tt.toInt = (ii : Int)) (hr : vs[ii]? = some rv) :
    Ctr l Z (⟨kA, "start", "(I)I"⟩ : MethodName) prog_71_method_4_code 2 (some .int) RM_rm18 ws #[.ref t, .int tt] h0 (PQ (.int rv) h0) := by
  refine Ctr.of (plainFor_of_name pn_3) ?_
  intro p e s m below meth c s₁ hx hby hml hrt hlk hnm hown hZ X0 e0
  have N0 := Fr.nil n0
  have D := @hb _ _ hby
  refine Go.cast (ef_18 m t tt) ?_
  refine g_aloadN X0 hx (D d18_0) rfl rfl rfl (g_getF X0 hx hZ hown (hW hw 16 rfl) e0 F0_ (D d18_1) rfl fun T1 X1 e1 => (g_iloadN X1 hx (D d18_4) rfl rfl (g_iload_ (i := ii) (v := rv) X1 hx hZ e1 A0_ hi hr (D d18_5) rfl ?_)))
  exact g_ireturn X1 hx hlk hrt (D d18_6) (by decide) (by decide) ⟨rfl, e1, rfl⟩
def RM_rm19 : Room := ({ frames := 0, cells := 0, slots := 0, locals := 0 } : Room)
abbrev b19 := prog_71_method_5_code
theorem d19_0 : decode b19 0 = .ok (.aload_n 0, 1) := by decide +kernel
theorem d19_1 : decode b19 1 = .ok (.getfield 7, 3) := by decide +kernel
theorem d19_4 : decode b19 4 = .ok (.iload_n 1, 1) := by decide +kernel
theorem d19_5 : decode b19 5 = .ok (.iconst 1, 1) := by decide +kernel
theorem d19_6 : decode b19 6 = .ok (.iadd, 1) := by decide +kernel
theorem d19_7 : decode b19 7 = .ok (.iaload, 1) := by decide +kernel
theorem d19_8 : decode b19 8 = .ok (.ireturn, 1) := by decide +kernel
theorem ef_19 (m : MethodId) (z0 : Addr) (z1 : Int32) : entryFrame m #[.ref z0, .int z1] 2 = mkF m 0 #[vR z0, vI z1] [] := by first | (simp [entryFrame, mkF, argsToLocals, Value.category]; done) | rfl
set_option maxRecDepth 65536 in
set_option maxHeartbeats 40000000 in
theorem rm19 (l : Launch) (Z : State) (a0 : Array Value) (hw : ∀ d ∈ tables_1, d.before a0 Z = true) (ws : List Jvm.Cond) (t : Addr) (tt : Int32) (h0 : Heap) (n0 : Nat) (Z0 : n0 ≤ h0.size) (xs : Addr) (vs : List Int32) (rv : Int32) (ii : Nat) (F0_ : Fld Z h0 t kA "starts" "[I" (.ref xs)) (A0_ : IA Z h0 xs vs) (hi : (tt + (1 : Int32)).toInt = (ii : Int)) (hr : vs[ii]? = some rv) :
    Ctr l Z (⟨kA, "end", "(I)I"⟩ : MethodName) prog_71_method_5_code 2 (some .int) RM_rm19 ws #[.ref t, .int tt] h0 (PQ (.int rv) h0) := by
  refine Ctr.of (plainFor_of_name pn_3) ?_
  intro p e s m below meth c s₁ hx hby hml hrt hlk hnm hown hZ X0 e0
  have N0 := Fr.nil n0
  have D := @hb _ _ hby
  refine Go.cast (ef_19 m t tt) ?_
  refine g_aloadN X0 hx (D d19_0) rfl rfl rfl (g_getF X0 hx hZ hown (hW hw 16 rfl) e0 F0_ (D d19_1) rfl fun T1 X1 e1 => (g_iloadN X1 hx (D d19_4) rfl rfl (g_iconst (v := (1 : Int32)) X1 hx (D d19_5) rfl rfl (g_iadd X1 hx (D d19_6) rfl (g_iload_ (i := ii) (v := rv) X1 hx hZ e1 A0_ hi hr (D d19_7) rfl ?_)))))
  exact g_ireturn X1 hx hlk hrt (D d19_8) (by decide) (by decide) ⟨rfl, e1, rfl⟩
def RM_rm20 : Room := ({ frames := 0, cells := 0, slots := 0, locals := 0 } : Room)
abbrev b20 := prog_71_method_6_code
theorem d20_0 : decode b20 0 = .ok (.aload_n 0, 1) := by decide +kernel
theorem d20_1 : decode b20 1 = .ok (.getfield 19, 3) := by decide +kernel
theorem d20_4 : decode b20 4 = .ok (.iload_n 1, 1) := by decide +kernel
theorem d20_5 : decode b20 5 = .ok (.iaload, 1) := by decide +kernel
theorem d20_6 : decode b20 6 = .ok (.ireturn, 1) := by decide +kernel
theorem ef_20 (m : MethodId) (z0 : Addr) (z1 : Int32) : entryFrame m #[.ref z0, .int z1] 2 = mkF m 0 #[vR z0, vI z1] [] := by first | (simp [entryFrame, mkF, argsToLocals, Value.category]; done) | rfl
set_option maxRecDepth 65536 in
set_option maxHeartbeats 40000000 in
theorem rm20 (l : Launch) (Z : State) (a0 : Array Value) (hw : ∀ d ∈ tables_1, d.before a0 Z = true) (ws : List Jvm.Cond) (t : Addr) (tt : Int32) (h0 : Heap) (n0 : Nat) (Z0 : n0 ≤ h0.size) (xs : Addr) (vs : List Int32) (rv : Int32) (ii : Nat) (F0_ : Fld Z h0 t kA "nodes" "[I" (.ref xs)) (A0_ : IA Z h0 xs vs) (hi : tt.toInt = (ii : Int)) (hr : vs[ii]? = some rv) :
    Ctr l Z (⟨kA, "node", "(I)I"⟩ : MethodName) prog_71_method_6_code 2 (some .int) RM_rm20 ws #[.ref t, .int tt] h0 (PQ (.int rv) h0) := by
  refine Ctr.of (plainFor_of_name pn_3) ?_
  intro p e s m below meth c s₁ hx hby hml hrt hlk hnm hown hZ X0 e0
  have N0 := Fr.nil n0
  have D := @hb _ _ hby
  refine Go.cast (ef_20 m t tt) ?_
  refine g_aloadN X0 hx (D d20_0) rfl rfl rfl (g_getF X0 hx hZ hown (hW hw 29 rfl) e0 F0_ (D d20_1) rfl fun T1 X1 e1 => (g_iloadN X1 hx (D d20_4) rfl rfl (g_iload_ (i := ii) (v := rv) X1 hx hZ e1 A0_ hi hr (D d20_5) rfl ?_)))
  exact g_ireturn X1 hx hlk hrt (D d20_6) (by decide) (by decide) ⟨rfl, e1, rfl⟩
def RM_rm21 : Room := ({ frames := 0, cells := 0, slots := 0, locals := 0 } : Room)
abbrev b21 := prog_71_method_7_code
theorem d21_0 : decode b21 0 = .ok (.aload_n 0, 1) := by decide +kernel
theorem d21_1 : decode b21 1 = .ok (.getfield 22, 3) := by decide +kernel
theorem d21_4 : decode b21 4 = .ok (.iload_n 1, 1) := by decide +kernel
theorem d21_5 : decode b21 5 = .ok (.laload, 1) := by decide +kernel
theorem d21_6 : decode b21 6 = .ok (.lreturn, 1) := by decide +kernel
theorem ef_21 (m : MethodId) (z0 : Addr) (z1 : Int32) : entryFrame m #[.ref z0, .int z1] 2 = mkF m 0 #[vR z0, vI z1] [] := by first | (simp [entryFrame, mkF, argsToLocals, Value.category]; done) | rfl
set_option maxRecDepth 65536 in
set_option maxHeartbeats 40000000 in
theorem rm21 (l : Launch) (Z : State) (a0 : Array Value) (hw : ∀ d ∈ tables_1, d.before a0 Z = true) (ws : List Jvm.Cond) (t : Addr) (tt : Int32) (h0 : Heap) (n0 : Nat) (Z0 : n0 ≤ h0.size) (xs : Addr) (vs : List Int64) (rv : Int64) (ii : Nat) (F0_ : Fld Z h0 t kA "weights" "[J" (.ref xs)) (A0_ : LA Z h0 xs vs) (hi : tt.toInt = (ii : Int)) (hr : vs[ii]? = some rv) :
    Ctr l Z (⟨kA, "weight", "(I)J"⟩ : MethodName) prog_71_method_7_code 2 (some .long) RM_rm21 ws #[.ref t, .int tt] h0 (PQ (.long rv) h0) := by
  refine Ctr.of (plainFor_of_name pn_3) ?_
  intro p e s m below meth c s₁ hx hby hml hrt hlk hnm hown hZ X0 e0
  have N0 := Fr.nil n0
  have D := @hb _ _ hby
  refine Go.cast (ef_21 m t tt) ?_
  refine g_aloadN X0 hx (D d21_0) rfl rfl rfl (g_getF X0 hx hZ hown (hW hw 31 rfl) e0 F0_ (D d21_1) rfl fun T1 X1 e1 => (g_iloadN X1 hx (D d21_4) rfl rfl (g_lload_ (i := ii) (v := rv) X1 hx hZ e1 A0_ hi hr (D d21_5) rfl ?_)))
  exact g_lreturn X1 hx hlk hrt (D d21_6) (by decide) (by decide) ⟨rfl, e1, rfl⟩
theorem pd_2 : parseMethodDescriptor "([II)V" = some ⟨[(.array .int), .int], none⟩ := by decide +kernel
def RM_rm8 : Room := ({ frames := 1, cells := 3, slots := 18, locals := 15 } : Room)
abbrev b8 := prog_77_method_1_code
theorem d8_0 : decode b8 0 = .ok (.aload_n 0, 1) := by decide +kernel
theorem d8_1 : decode b8 1 = .ok (.invokespecial 1, 3) := by decide +kernel
theorem d8_4 : decode b8 4 = .ok (.aload_n 0, 1) := by decide +kernel
theorem d8_5 : decode b8 5 = .ok (.iload_n 1, 1) := by decide +kernel
theorem d8_6 : decode b8 6 = .ok (.newarray .int, 2) := by decide +kernel
theorem d8_8 : decode b8 8 = .ok (.putfield 7, 3) := by decide +kernel
theorem d8_11 : decode b8 11 = .ok (.aload_n 0, 1) := by decide +kernel
theorem d8_12 : decode b8 12 = .ok (.iload_n 1, 1) := by decide +kernel
theorem d8_13 : decode b8 13 = .ok (.newarray .int, 2) := by decide +kernel
theorem d8_15 : decode b8 15 = .ok (.putfield 13, 3) := by decide +kernel
theorem d8_18 : decode b8 18 = .ok (.aload_n 0, 1) := by decide +kernel
theorem d8_19 : decode b8 19 = .ok (.iload_n 1, 1) := by decide +kernel
theorem d8_20 : decode b8 20 = .ok (.newarray .long, 2) := by decide +kernel
theorem d8_22 : decode b8 22 = .ok (.putfield 16, 3) := by decide +kernel
theorem d8_25 : decode b8 25 = .ok (.aload_n 0, 1) := by decide +kernel
theorem d8_26 : decode b8 26 = .ok (.getfield 13, 3) := by decide +kernel
theorem d8_29 : decode b8 29 = .ok (.iconst (-1), 1) := by decide +kernel
theorem d8_30 : decode b8 30 = .ok (.invokestatic 20, 3) := by decide +kernel
theorem d8_33 : decode b8 33 = .ok (.return_, 1) := by decide +kernel
theorem ef_8 (m : MethodId) (z0 : Addr) (z1 : Int32) : entryFrame m #[.ref z0, .int z1] 2 = mkF m 0 #[vR z0, vI z1] [] := by first | (simp [entryFrame, mkF, argsToLocals, Value.category]; done) | rfl
theorem pn_4 : plainName kQ = true := by first | (simp [plainName, overriddenIn]; done) | decide +kernel
set_option maxRecDepth 65536 in
set_option maxHeartbeats 40000000 in
theorem rm8 (l : Launch) (Z : State) (a0 : Array Value) (hw : ∀ d ∈ tables_1, d.before a0 Z = true) (ws : List Jvm.Cond) (t : Addr) (h0 : Heap) (n0 : Nat) (Z0 : n0 ≤ h0.size) (F0_ : Fld Z h0 t kQ "heap" "[I" (.null)) (F1_ : Fld Z h0 t kQ "place" "[I" (.null)) (F2_ : Fld Z h0 t kQ "key" "[J" (.null)) (F3_ : Fld Z h0 t kQ "count" "I" (.int 0)) (E_ : Exa Z h0 t kQ) (gt_ : n0 ≤ t) :
    Ctr l Z (⟨kQ, "<init>", "(I)V"⟩ : MethodName) prog_77_method_1_code 2 none RM_rm8 ws #[.ref t, .int 6] h0 (fun v h L => v = none ∧ Fr n0 L ∧ Keep h0 h [t] ∧ ∃ ah ap ak : Addr, h0.size ≤ ah ∧ h0.size ≤ ap ∧ h0.size ≤ ak ∧ ah ≠ ap ∧ ah ≠ ak ∧ ap ≠ ak ∧ Fld Z h t kQ "heap" "[I" (.ref ah) ∧ Fld Z h t kQ "place" "[I" (.ref ap) ∧ Fld Z h t kQ "key" "[J" (.ref ak) ∧ Fld Z h t kQ "count" "I" (.int 0) ∧ IA Z h ah ([0, 0, 0, 0, 0, 0] : List Int32) ∧ IA Z h ap ([-1, -1, -1, -1, -1, -1] : List Int32) ∧ LA Z h ak ([0, 0, 0, 0, 0, 0] : List Int64)) := by
  refine Ctr.of (plainFor_of_name pn_4) ?_
  intro p e s m below meth c s₁ hx hby hml hrt hlk hnm hown hZ X0 e0
  have N0 := Fr.nil n0
  have D := @hb _ _ hby
  refine Go.cast (ef_8 m t (6 : Int32)) ?_
  refine g_aloadN X0 hx (D d8_0) rfl rfl rfl (g_initO X0 hx hZ hown (hW hw 59 rfl) (hW hw 14 rfl) (hW hw 15 rfl) e0 (by rw [hml]; rfl) (D d8_1) rfl (by decide) (W := 0) rfl (by decide) fun T1 X1 e1 => (g_aloadN X1 hx (D d8_4) rfl rfl rfl (g_iloadN X1 hx (D d8_5) rfl rfl (g_inew_ (n := 6) (cap := 6) X1 hx hZ (hW hw 0 rfl) e1 rfl (by decide) (by decide) (D d8_6) rfl (by decide) (by decide) fun T2 h2 o2 X2 e2 E2 q2 A2 => ?_))))
  replace A2 : IA Z h2 o2 ([0, 0, 0, 0, 0, 0] : List Int32) := A2
  have n3 : t ≠ o2 := ne_new E_.lt q2
  have g4 : n0 ≤ o2 := ge_new Z0 q2
  have g5 : h0.size ≤ o2 := ge_new (Keep.refl h0 [t]).1 q2
  have K6 := Keep.ext (Keep.refl h0 [t]) E2
  have F7 := Exa.ext E2 E_
  have F8 := Fld.ext E2 F0_
  have F9 := Fld.ext E2 F1_
  have F10 := Fld.ext E2 F2_
  have F11 := Fld.ext E2 F3_
  have Z12 := zE Z0 E2
  refine g_putF (ty := (.array .int)) X2 hx hZ hown (hW hw 60 rfl) e2 F8 F7 (Or.inr ⟨(hW hw 61 rfl), rfl, hnm⟩) (hW hw 54 rfl) (by decide) rfl rfl (D d8_8) rfl fun T13 h13 X13 e13 W13 F13 => ?_
  have K14 := Keep.wr K6 W13 (Or.inl (by simp))
  have F15 := Exa.wr W13 F7
  have F17 := Fld.other W13 F9 (Or.inr (slot_ne (a0 := a0) (Or.inr (hW hw 63 rfl)) (Or.inr (hW hw 61 rfl)) (by decide) (t := (.array .int)) (t' := (.array .int)) (by decide) (by decide)))
  have F18 := Fld.other W13 F10 (Or.inr (slot_ne (a0 := a0) (Or.inr (hW hw 65 rfl)) (Or.inr (hW hw 61 rfl)) (by decide) (t := (.array .long)) (t' := (.array .int)) (by decide) (by decide)))
  have F19 := Fld.other W13 F11 (Or.inr (slot_ne (a0 := a0) (Or.inl (hW hw 94 rfl)) (Or.inr (hW hw 61 rfl)) (by decide) (t := .int) (t' := (.array .int)) (by decide) (by decide)))
  have F20 := ArrL.other A2 W13 (Ne.symm n3)
  have N21 := Fr.snoc X13 N0 gt_
  have Z22 := zW Z12 W13
  refine g_aloadN X13 hx (D d8_11) rfl rfl rfl (g_iloadN X13 hx (D d8_12) rfl rfl (g_inew_ (n := 6) (cap := 6) X13 hx hZ (hW hw 0 rfl) e13 rfl (by decide) (by decide) (D d8_13) rfl (by decide) (by decide) fun T23 h23 o23 X23 e23 E23 q23 A23 => ?_))
  replace A23 : IA Z h23 o23 ([0, 0, 0, 0, 0, 0] : List Int32) := A23
  have n24 : t ≠ o23 := ne_new F15.lt q23
  have n25 : o2 ≠ o23 := ne_new F20.lt q23
  have g26 : n0 ≤ o23 := ge_new Z22 q23
  have g27 : h0.size ≤ o23 := ge_new K14.1 q23
  have K28 := Keep.ext K14 E23
  have F29 := Exa.ext E23 F15
  have F30 := Fld.ext E23 F13
  have F31 := Fld.ext E23 F17
  have F32 := Fld.ext E23 F18
  have F33 := Fld.ext E23 F19
  have F34 := ArrL.ext F20 E23
  have Z35 := zE Z22 E23
  refine g_putF (ty := (.array .int)) X23 hx hZ hown (hW hw 62 rfl) e23 F31 F29 (Or.inr ⟨(hW hw 63 rfl), rfl, hnm⟩) (hW hw 54 rfl) (by decide) rfl rfl (D d8_15) rfl fun T36 h36 X36 e36 W36 F36 => ?_
  have K37 := Keep.wr K28 W36 (Or.inl (by simp))
  have F38 := Exa.wr W36 F29
  have F39 := Fld.other W36 F30 (Or.inr (slot_ne (a0 := a0) (Or.inr (hW hw 61 rfl)) (Or.inr (hW hw 63 rfl)) (by decide) (t := (.array .int)) (t' := (.array .int)) (by decide) (by decide)))
  have F41 := Fld.other W36 F32 (Or.inr (slot_ne (a0 := a0) (Or.inr (hW hw 65 rfl)) (Or.inr (hW hw 63 rfl)) (by decide) (t := (.array .long)) (t' := (.array .int)) (by decide) (by decide)))
  have F42 := Fld.other W36 F33 (Or.inr (slot_ne (a0 := a0) (Or.inl (hW hw 94 rfl)) (Or.inr (hW hw 63 rfl)) (by decide) (t := .int) (t' := (.array .int)) (by decide) (by decide)))
  have F43 := ArrL.other F34 W36 (Ne.symm n3)
  have F44 := ArrL.other A23 W36 (Ne.symm n24)
  have N45 := Fr.snoc X36 N21 gt_
  have Z46 := zW Z35 W36
  refine g_aloadN X36 hx (D d8_18) rfl rfl rfl (g_iloadN X36 hx (D d8_19) rfl rfl (g_lnew_ (n := 6) (cap := 6) X36 hx hZ (hW hw 1 rfl) e36 rfl (by decide) (by decide) (D d8_20) rfl (by decide) (by decide) fun T47 h47 o47 X47 e47 E47 q47 A47 => ?_))
  replace A47 : LA Z h47 o47 ([0, 0, 0, 0, 0, 0] : List Int64) := A47
  have n48 : t ≠ o47 := ne_new F38.lt q47
  have n49 : o2 ≠ o47 := ne_new F43.lt q47
  have n50 : o23 ≠ o47 := ne_new F44.lt q47
  have g51 : n0 ≤ o47 := ge_new Z46 q47
  have g52 : h0.size ≤ o47 := ge_new K37.1 q47
  have K53 := Keep.ext K37 E47
  have F54 := Exa.ext E47 F38
  have F55 := Fld.ext E47 F39
  have F56 := Fld.ext E47 F36
  have F57 := Fld.ext E47 F41
  have F58 := Fld.ext E47 F42
  have F59 := ArrL.ext F43 E47
  have F60 := ArrL.ext F44 E47
  have Z61 := zE Z46 E47
  refine g_putF (ty := (.array .long)) X47 hx hZ hown (hW hw 64 rfl) e47 F57 F54 (Or.inr ⟨(hW hw 65 rfl), rfl, hnm⟩) (hW hw 54 rfl) (by decide) rfl rfl (D d8_22) rfl fun T62 h62 X62 e62 W62 F62 => ?_
  have K63 := Keep.wr K53 W62 (Or.inl (by simp))
  have F64 := Exa.wr W62 F54
  have F65 := Fld.other W62 F55 (Or.inr (slot_ne (a0 := a0) (Or.inr (hW hw 61 rfl)) (Or.inr (hW hw 65 rfl)) (by decide) (t := (.array .int)) (t' := (.array .long)) (by decide) (by decide)))
  have F66 := Fld.other W62 F56 (Or.inr (slot_ne (a0 := a0) (Or.inr (hW hw 63 rfl)) (Or.inr (hW hw 65 rfl)) (by decide) (t := (.array .int)) (t' := (.array .long)) (by decide) (by decide)))
  have F68 := Fld.other W62 F58 (Or.inr (slot_ne (a0 := a0) (Or.inl (hW hw 94 rfl)) (Or.inr (hW hw 65 rfl)) (by decide) (t := .int) (t' := (.array .long)) (by decide) (by decide)))
  have F69 := ArrL.other F59 W62 (Ne.symm n3)
  have F70 := ArrL.other F60 W62 (Ne.symm n24)
  have F71 := ArrL.other A47 W62 (Ne.symm n48)
  have N72 := Fr.snoc X62 N45 gt_
  have Z73 := zW Z61 W62
  refine g_aloadN X62 hx (D d8_25) rfl rfl rfl (g_getF X62 hx hZ hown (hW hw 62 rfl) e62 F66 (D d8_26) rfl fun T74 X74 e74 => (g_iconst (v := (-1 : Int32)) X74 hx (D d8_29) rfl rfl (g_callS X74 hx hZ hown (hW hw 66 rfl) (hW hw 67 rfl) (hW hw 20 rfl) (hW hw 68 rfl) (by decide) (rm9 l Z a0 hw [] o23 h62 n0 Z73 F70 g26) (argsL := [.ref o23, .int (-1)]) (rest := []) pd_2 rfl rfl rfl (D d8_30) rfl (by rw [hml]; rfl) e74 (by decide) (W := 0) rfl (by decide) (by decide) (by decide) fun v75 T75 Lc75 X75 Q75 => ?_)))
  obtain ⟨rfl, Nq75, Kq75, A76⟩ := Q75
  have N77 := Fr.app N72 Nq75
  have K78 := Keep.trans K63 Kq75 (allS (Or.inr g27) all0)
  have F79 := Exa.keep F64 Kq75
  have F80 := Fld.keep F65 Kq75 (ninS n24 nin0)
  have F81 := Fld.keep F66 Kq75 (ninS n24 nin0)
  have F82 := Fld.keep F62 Kq75 (ninS n24 nin0)
  have F83 := Fld.keep F68 Kq75 (ninS n24 nin0)
  have F84 := ArrL.keep F69 Kq75 (ninS n25 nin0)
  have F86 := ArrL.keep F71 Kq75 (ninS (Ne.symm n50) nin0)
  have Z87 := zK Z73 Kq75
  exact g_ret X75 hx hlk hrt (D d8_33) (by decide) (by decide) (by skip; exact ⟨rfl, N77, K78, o2, o23, o47, g5, g27, g52, n25, n49, n50, F80, F81, F82, F83, F84, A76, F86⟩)
def RM_rm22 : Room := ({ frames := 0, cells := 0, slots := 0, locals := 0 } : Room)
abbrev b22 := prog_77_method_11_code
theorem d22_0 : decode b22 0 = .ok (.aload_n 0, 1) := by decide +kernel
theorem d22_1 : decode b22 1 = .ok (.getfield 16, 3) := by decide +kernel
theorem d22_4 : decode b22 4 = .ok (.iload_n 1, 1) := by decide +kernel
theorem d22_5 : decode b22 5 = .ok (.laload, 1) := by decide +kernel
theorem d22_6 : decode b22 6 = .ok (.aload_n 0, 1) := by decide +kernel
theorem d22_7 : decode b22 7 = .ok (.getfield 16, 3) := by decide +kernel
theorem d22_10 : decode b22 10 = .ok (.iload_n 2, 1) := by decide +kernel
theorem d22_11 : decode b22 11 = .ok (.laload, 1) := by decide +kernel
theorem d22_12 : decode b22 12 = .ok (.lcmp, 1) := by decide +kernel
theorem d22_13 : decode b22 13 = .ok (.ifCond .lt 24, 3) := by decide +kernel
theorem d22_16 : decode b22 16 = .ok (.aload_n 0, 1) := by decide +kernel
theorem d22_17 : decode b22 17 = .ok (.getfield 16, 3) := by decide +kernel
theorem d22_20 : decode b22 20 = .ok (.iload_n 1, 1) := by decide +kernel
theorem d22_21 : decode b22 21 = .ok (.laload, 1) := by decide +kernel
theorem d22_22 : decode b22 22 = .ok (.aload_n 0, 1) := by decide +kernel
theorem d22_23 : decode b22 23 = .ok (.getfield 16, 3) := by decide +kernel
theorem d22_26 : decode b22 26 = .ok (.iload_n 2, 1) := by decide +kernel
theorem d22_27 : decode b22 27 = .ok (.laload, 1) := by decide +kernel
theorem d22_28 : decode b22 28 = .ok (.lcmp, 1) := by decide +kernel
theorem d22_29 : decode b22 29 = .ok (.ifCond .ne 12, 3) := by decide +kernel
theorem d22_32 : decode b22 32 = .ok (.iload_n 1, 1) := by decide +kernel
theorem d22_33 : decode b22 33 = .ok (.iload_n 2, 1) := by decide +kernel
theorem d22_34 : decode b22 34 = .ok (.if_icmp .ge 7, 3) := by decide +kernel
theorem d22_37 : decode b22 37 = .ok (.iconst 1, 1) := by decide +kernel
theorem d22_38 : decode b22 38 = .ok (.goto 4, 3) := by decide +kernel
theorem d22_41 : decode b22 41 = .ok (.iconst 0, 1) := by decide +kernel
theorem d22_42 : decode b22 42 = .ok (.ireturn, 1) := by decide +kernel
theorem ef_22 (m : MethodId) (z0 : Addr) (z1 : Int32) (z2 : Int32) : entryFrame m #[.ref z0, .int z1, .int z2] 3 = mkF m 0 #[vR z0, vI z1, vI z2] [] := by first | (simp [entryFrame, mkF, argsToLocals, Value.category]; done) | rfl
set_option maxRecDepth 65536 in
set_option maxHeartbeats 40000000 in
theorem rm22 (l : Launch) (Z : State) (a0 : Array Value) (hw : ∀ d ∈ tables_1, d.before a0 Z = true) (ws : List Jvm.Cond) (t : Addr) (on : Int32) (ot : Int32) (h0 : Heap) (n0 : Nat) (Z0 : n0 ≤ h0.size) (ak : Addr) (ky : List Int64) (i_ j_ : Nat) (F2_ : Fld Z h0 t kQ "key" "[J" (.ref ak)) (A2_ : LA Z h0 ak ky) (hkl : ky.length = 6) (hi_ : on.toInt = (i_ : Int)) (hi6 : i_ < 6) (hj_ : ot.toInt = (j_ : Int)) (hj6 : j_ < 6) :
    Ctr l Z (⟨kQ, "before", "(II)Z"⟩ : MethodName) prog_77_method_11_code 3 (some .boolean) RM_rm22 ws #[.ref t, .int on, .int ot] h0 (PQ (.int (b2i (decide (Bef ky on ot)))) h0) := by
  refine Ctr.of (plainFor_of_name pn_4) ?_
  intro p e s m below meth c s₁ hx hby hml hrt hlk hnm hown hZ X0 e0
  have N0 := Fr.nil n0
  have D := @hb _ _ hby
  refine Go.cast (ef_22 m t on ot) ?_
  refine g_aloadN X0 hx (D d22_0) rfl rfl rfl (g_getF X0 hx hZ hown (hW hw 64 rfl) e0 F2_ (D d22_1) rfl fun T1 X1 e1 => (g_iloadN X1 hx (D d22_4) rfl rfl (g_lload_ (i := on.toInt.toNat) (v := (ky.getD on.toInt.toNat 0)) X1 hx hZ e1 A2_ (own_tnn hi_) (own_gdJ (own_lt6 hi_ hi6 hkl)) (D d22_5) rfl (g_aloadN X1 hx (D d22_6) rfl rfl rfl (g_getF X1 hx hZ hown (hW hw 64 rfl) e1 F2_ (D d22_7) rfl fun T2 X2 e2 => (g_iloadN X2 hx (D d22_10) rfl rfl (g_lload_ (i := ot.toInt.toNat) (v := (ky.getD ot.toInt.toNat 0)) X2 hx hZ e2 A2_ (own_tnn hj_) (own_gdJ (own_lt6 hj_ hj6 hkl)) (D d22_11) rfl ?_)))))))
  refine g_lcmp_lt (q := 37) (q1 := 13) (q0 := 16) X2 hx (D d22_12) rfl (D d22_13) (by decide) (by decide) rfl ?_ ?_
  ·intro c3
   refine g_iconst (v := (1 : Int32)) X2 hx (D d22_37) rfl rfl (g_goto (q := 42) X2 hx (D d22_38) (by decide) (by decide) ?_)
   exact g_zreturn (b := true) X2 hx hlk hrt (D d22_42) (by decide) (by decide) ⟨eqT (Or.inl c3), e2, rfl⟩
  intro c3
  refine g_aloadN X2 hx (D d22_16) rfl rfl rfl (g_getF X2 hx hZ hown (hW hw 64 rfl) e2 F2_ (D d22_17) rfl fun T4 X4 e4 => (g_iloadN X4 hx (D d22_20) rfl rfl (g_lload_ (i := on.toInt.toNat) (v := (ky.getD on.toInt.toNat 0)) X4 hx hZ e4 A2_ (own_tnn hi_) (own_gdJ (own_lt6 hi_ hi6 hkl)) (D d22_21) rfl (g_aloadN X4 hx (D d22_22) rfl rfl rfl (g_getF X4 hx hZ hown (hW hw 64 rfl) e4 F2_ (D d22_23) rfl fun T5 X5 e5 => (g_iloadN X5 hx (D d22_26) rfl rfl (g_lload_ (i := ot.toInt.toNat) (v := (ky.getD ot.toInt.toNat 0)) X5 hx hZ e5 A2_ (own_tnn hj_) (own_gdJ (own_lt6 hj_ hj6 hkl)) (D d22_27) rfl ?_)))))))
  refine g_lcmp_ne (q := 41) (q1 := 29) (q0 := 32) X5 hx (D d22_28) rfl (D d22_29) (by decide) (by decide) rfl ?_ ?_
  ·intro c6
   refine g_iconst (v := (0 : Int32)) X5 hx (D d22_41) rfl rfl ?_
   exact g_zreturn (b := false) X5 hx hlk hrt (D d22_42) (by decide) (by decide) ⟨eqF (fun h => h.elim (fun a => absurd a (Int.not_lt.mpr c3)) (fun a => c6 a.1)), e5, rfl⟩
  intro c6
  refine g_iloadN X5 hx (D d22_32) rfl rfl (g_iloadN X5 hx (D d22_33) rfl rfl ?_)
  refine g_icmp_ge (q := 41) (q0 := 37) X5 hx (D d22_34) (by decide) (by decide) rfl ?_ ?_
  ·intro c7
   refine g_iconst (v := (0 : Int32)) X5 hx (D d22_41) rfl rfl ?_
   exact g_zreturn (b := false) X5 hx hlk hrt (D d22_42) (by decide) (by decide) ⟨eqF (fun h => h.elim (fun a => absurd a (Int.not_lt.mpr c3)) (fun a => absurd a.2 (Int.not_lt.mpr c7))), e5, rfl⟩
  intro c7
  refine g_iconst (v := (1 : Int32)) X5 hx (D d22_37) rfl rfl (g_goto (q := 42) X5 hx (D d22_38) (by decide) (by decide) ?_)
  exact g_zreturn (b := true) X5 hx hlk hrt (D d22_42) (by decide) (by decide) ⟨eqT (Or.inr ⟨c6, c7⟩), e5, rfl⟩
def RM_rm14_0 : Room := ({ frames := 0, cells := 0, slots := 0, locals := 0 } : Room)
abbrev b14 := prog_77_method_9_code
theorem d14_0 : decode b14 0 = .ok (.aload_n 0, 1) := by decide +kernel
theorem d14_1 : decode b14 1 = .ok (.getfield 13, 3) := by decide +kernel
theorem d14_4 : decode b14 4 = .ok (.iload_n 1, 1) := by decide +kernel
theorem d14_5 : decode b14 5 = .ok (.iaload, 1) := by decide +kernel
theorem d14_6 : decode b14 6 = .ok (.istore_n 2, 1) := by decide +kernel
theorem d14_7 : decode b14 7 = .ok (.iload_n 2, 1) := by decide +kernel
theorem d14_8 : decode b14 8 = .ok (.ifCond .le 51, 3) := by decide +kernel
theorem d14_59 : decode b14 59 = .ok (.aload_n 0, 1) := by decide +kernel
theorem d14_60 : decode b14 60 = .ok (.getfield 7, 3) := by decide +kernel
theorem d14_63 : decode b14 63 = .ok (.iload_n 2, 1) := by decide +kernel
theorem d14_64 : decode b14 64 = .ok (.iload_n 1, 1) := by decide +kernel
theorem d14_65 : decode b14 65 = .ok (.iastore, 1) := by decide +kernel
theorem d14_66 : decode b14 66 = .ok (.aload_n 0, 1) := by decide +kernel
theorem d14_67 : decode b14 67 = .ok (.getfield 13, 3) := by decide +kernel
theorem d14_70 : decode b14 70 = .ok (.iload_n 1, 1) := by decide +kernel
theorem d14_71 : decode b14 71 = .ok (.iload_n 2, 1) := by decide +kernel
theorem d14_72 : decode b14 72 = .ok (.iastore, 1) := by decide +kernel
theorem d14_73 : decode b14 73 = .ok (.return_, 1) := by decide +kernel
theorem ef_14 (m : MethodId) (z0 : Addr) (z1 : Int32) : entryFrame m #[.ref z0, .int z1] 5 = mkF m 0 #[vR z0, vI z1, u0, u0, u0] [] := by first | (simp [entryFrame, mkF, argsToLocals, Value.category]; done) | rfl
set_option maxRecDepth 65536 in
set_option maxHeartbeats 40000000 in
theorem rm14_0 (l : Launch) (Z : State) (a0 : Array Value) (hw : ∀ d ∈ tables_1, d.before a0 Z = true) (ws : List Jvm.Cond) (t : Addr) (nd : Int32) (h0 : Heap) (n0 : Nat) (Z0 : n0 ≤ h0.size) (ah ap ak : Addr) (v0_ v1_ v2_ v3_ v4_ v5_ : Int32) (pl : List Int32) (ky : List Int64) (iv a_ : Nat) (F0_ : Fld Z h0 t kQ "heap" "[I" (.ref ah)) (F1_ : Fld Z h0 t kQ "place" "[I" (.ref ap)) (F2_ : Fld Z h0 t kQ "key" "[J" (.ref ak)) (A0_ : IA Z h0 ah [v0_, v1_, v2_, v3_, v4_, v5_]) (A1_ : IA Z h0 ap pl) (A2_ : LA Z h0 ak ky) (E_ : Exa Z h0 t kQ) (ne0_ : t ≠ ah) (ne1_ : t ≠ ap) (ne2_ : t ≠ ak) (ne3_ : ah ≠ ap) (ne4_ : ah ≠ ak) (ne5_ : ap ≠ ak) (gh_ : n0 ≤ ah) (gp_ : n0 ≤ ap) (hv : nd.toInt = (iv : Int)) (hv6 : iv < 6) (hkl : ky.length = 6) (hpl : pl.length = 6) (hpv : pl[iv]? = some (0 : Int32)) :
    Ctr l Z (⟨kQ, "siftUp", "(I)V"⟩ : MethodName) prog_77_method_9_code 5 none RM_rm14_0 ws #[.ref t, .int nd] h0 (fun v h L => v = none ∧ Fr n0 L ∧ Keep h0 h [ah, ap] ∧ ∃ hp' pl' : List Int32, IA Z h ah hp' ∧ IA Z h ap pl' ∧ UpR0 ky nd iv a_ v0_ v1_ v2_ v3_ v4_ v5_ pl hp' pl') := by
  refine Ctr.of (plainFor_of_name pn_4) ?_
  intro p e s m below meth c s₁ hx hby hml hrt hlk hnm hown hZ X0 e0
  have N0 := Fr.nil n0
  have D := @hb _ _ hby
  refine Go.cast (ef_14 m t nd) ?_
  refine g_aloadN X0 hx (D d14_0) rfl rfl rfl (g_getF X0 hx hZ hown (hW hw 62 rfl) e0 F1_ (D d14_1) rfl fun T1 X1 e1 => (g_iloadN X1 hx (D d14_4) rfl rfl (g_iload_ (i := iv) (v := (0 : Int32)) X1 hx hZ e1 A1_ hv hpv (D d14_5) rfl (g_istoreN (L' := #[vR t, vI nd, vI 0, u0, u0]) X1 hx (D d14_6) rfl rfl (g_iloadN X1 hx (D d14_7) rfl rfl ?_)))))
  refine g_if_le (q := 59) (q0 := 11) X1 hx (D d14_8) (by decide) (by decide) rfl ?_ (fun h => absurd h (by decide))
  intro c2
  refine g_aloadN X1 hx (D d14_59) rfl rfl rfl (g_getF X1 hx hZ hown (hW hw 60 rfl) e1 F0_ (D d14_60) rfl fun T3 X3 e3 => (g_iloadN X3 hx (D d14_63) rfl rfl (g_iloadN X3 hx (D d14_64) rfl rfl (g_istore_ (i := 0) (v := nd) X3 hx hZ e3 A0_ rfl (by show 0 < 6; decide) (D d14_65) rfl fun T4 h4 X4 e4 W4 A4 => ?_))))
  replace A4 : IA Z h4 ah ([nd, v1_, v2_, v3_, v4_, v5_] : List Int32) := A4
  have K5 := Keep.wr (Keep.refl h0 [ah, ap]) W4 (Or.inl (by simp))
  have F6 := Exa.wr W4 E_
  have F7 := Fld.other W4 F0_ (Or.inl ne0_)
  have F8 := Fld.other W4 F1_ (Or.inl ne0_)
  have F9 := Fld.other W4 F2_ (Or.inl ne0_)
  have F11 := ArrL.other A1_ W4 (Ne.symm ne3_)
  have F12 := ArrL.other A2_ W4 (Ne.symm ne4_)
  have N13 := Fr.snoc X4 N0 gh_
  have Z14 := zW Z0 W4
  refine g_aloadN X4 hx (D d14_66) rfl rfl rfl (g_getF X4 hx hZ hown (hW hw 62 rfl) e4 F8 (D d14_67) rfl fun T15 X15 e15 => (g_iloadN X15 hx (D d14_70) rfl rfl (g_iloadN X15 hx (D d14_71) rfl rfl (g_istore_ (i := iv) (v := (0 : Int32)) X15 hx hZ e15 F11 hv (by (try simp only [List.length_set]); rw [hpl]; exact hv6) (D d14_72) rfl fun T16 h16 X16 e16 W16 A16 => ?_))))
  have K17 := Keep.wr K5 W16 (Or.inl (by simp))
  have F18 := Exa.wr W16 F6
  have F19 := Fld.other W16 F7 (Or.inl ne1_)
  have F20 := Fld.other W16 F8 (Or.inl ne1_)
  have F21 := Fld.other W16 F9 (Or.inl ne1_)
  have F22 := ArrL.other A4 W16 ne3_
  have F24 := ArrL.other F12 W16 (Ne.symm ne5_)
  have N25 := Fr.snoc X16 N13 gp_
  have Z26 := zW Z14 W16
  exact g_ret X16 hx hlk hrt (D d14_73) (by decide) (by decide) (by rw [e16]; exact ⟨rfl, N25, K17, [nd, v1_, v2_, v3_, v4_, v5_], (pl.set iv (0 : Int32)), F22, A16, ⟨rfl, rfl⟩⟩)
theorem pd_3 : parseMethodDescriptor "(II)Z" = some ⟨[.int, .int], some .boolean⟩ := by decide +kernel
def RM_rm14_1 : Room := ({ frames := 1, cells := 0, slots := 0, locals := 14 } : Room)
theorem d14_11 : decode b14 11 = .ok (.iload_n 2, 1) := by decide +kernel
theorem d14_12 : decode b14 12 = .ok (.iconst 1, 1) := by decide +kernel
theorem d14_13 : decode b14 13 = .ok (.isub, 1) := by decide +kernel
theorem d14_14 : decode b14 14 = .ok (.iconst 2, 1) := by decide +kernel
theorem d14_15 : decode b14 15 = .ok (.idiv, 1) := by decide +kernel
theorem d14_16 : decode b14 16 = .ok (.istore_n 3, 1) := by decide +kernel
theorem d14_17 : decode b14 17 = .ok (.aload_n 0, 1) := by decide +kernel
theorem d14_18 : decode b14 18 = .ok (.getfield 7, 3) := by decide +kernel
theorem d14_21 : decode b14 21 = .ok (.iload_n 3, 1) := by decide +kernel
theorem d14_22 : decode b14 22 = .ok (.iaload, 1) := by decide +kernel
theorem d14_23 : decode b14 23 = .ok (.istore 4, 2) := by decide +kernel
theorem d14_25 : decode b14 25 = .ok (.aload_n 0, 1) := by decide +kernel
theorem d14_26 : decode b14 26 = .ok (.iload_n 1, 1) := by decide +kernel
theorem d14_27 : decode b14 27 = .ok (.iload 4, 2) := by decide +kernel
theorem d14_29 : decode b14 29 = .ok (.invokevirtual 40, 3) := by decide +kernel
theorem d14_32 : decode b14 32 = .ok (.ifCond .ne 6, 3) := by decide +kernel
theorem d14_35 : decode b14 35 = .ok (.goto 24, 3) := by decide +kernel
theorem d14_38 : decode b14 38 = .ok (.aload_n 0, 1) := by decide +kernel
theorem d14_39 : decode b14 39 = .ok (.getfield 7, 3) := by decide +kernel
theorem d14_42 : decode b14 42 = .ok (.iload_n 2, 1) := by decide +kernel
theorem d14_43 : decode b14 43 = .ok (.iload 4, 2) := by decide +kernel
theorem d14_45 : decode b14 45 = .ok (.iastore, 1) := by decide +kernel
theorem d14_46 : decode b14 46 = .ok (.aload_n 0, 1) := by decide +kernel
theorem d14_47 : decode b14 47 = .ok (.getfield 13, 3) := by decide +kernel
theorem d14_50 : decode b14 50 = .ok (.iload 4, 2) := by decide +kernel
theorem d14_52 : decode b14 52 = .ok (.iload_n 2, 1) := by decide +kernel
theorem d14_53 : decode b14 53 = .ok (.iastore, 1) := by decide +kernel
theorem d14_54 : decode b14 54 = .ok (.iload_n 3, 1) := by decide +kernel
theorem d14_55 : decode b14 55 = .ok (.istore_n 2, 1) := by decide +kernel
theorem d14_56 : decode b14 56 = .ok (.goto (-49), 3) := by decide +kernel
set_option maxRecDepth 65536 in
set_option maxHeartbeats 40000000 in
theorem rm14_1 (l : Launch) (Z : State) (a0 : Array Value) (hw : ∀ d ∈ tables_1, d.before a0 Z = true) (ws : List Jvm.Cond) (t : Addr) (nd : Int32) (h0 : Heap) (n0 : Nat) (Z0 : n0 ≤ h0.size) (ah ap ak : Addr) (v0_ v1_ v2_ v3_ v4_ v5_ : Int32) (pl : List Int32) (ky : List Int64) (iv a_ : Nat) (F0_ : Fld Z h0 t kQ "heap" "[I" (.ref ah)) (F1_ : Fld Z h0 t kQ "place" "[I" (.ref ap)) (F2_ : Fld Z h0 t kQ "key" "[J" (.ref ak)) (A0_ : IA Z h0 ah [v0_, v1_, v2_, v3_, v4_, v5_]) (A1_ : IA Z h0 ap pl) (A2_ : LA Z h0 ak ky) (E_ : Exa Z h0 t kQ) (ne0_ : t ≠ ah) (ne1_ : t ≠ ap) (ne2_ : t ≠ ak) (ne3_ : ah ≠ ap) (ne4_ : ah ≠ ak) (ne5_ : ap ≠ ak) (gh_ : n0 ≤ ah) (gp_ : n0 ≤ ap) (hv : nd.toInt = (iv : Int)) (hv6 : iv < 6) (hkl : ky.length = 6) (hpl : pl.length = 6) (hpv : pl[iv]? = some (1 : Int32)) (hwa : v0_.toInt = (a_ : Int)) (ha6 : a_ < 6) :
    Ctr l Z (⟨kQ, "siftUp", "(I)V"⟩ : MethodName) prog_77_method_9_code 5 none RM_rm14_1 ws #[.ref t, .int nd] h0 (fun v h L => v = none ∧ Fr n0 L ∧ Keep h0 h [ah, ap] ∧ ∃ hp' pl' : List Int32, IA Z h ah hp' ∧ IA Z h ap pl' ∧ UpR1 ky nd iv a_ v0_ v1_ v2_ v3_ v4_ v5_ pl hp' pl') := by
  refine Ctr.of (plainFor_of_name pn_4) ?_
  intro p e s m below meth c s₁ hx hby hml hrt hlk hnm hown hZ X0 e0
  have N0 := Fr.nil n0
  have D := @hb _ _ hby
  refine Go.cast (ef_14 m t nd) ?_
  refine g_aloadN X0 hx (D d14_0) rfl rfl rfl (g_getF X0 hx hZ hown (hW hw 62 rfl) e0 F1_ (D d14_1) rfl fun T1 X1 e1 => (g_iloadN X1 hx (D d14_4) rfl rfl (g_iload_ (i := iv) (v := (1 : Int32)) X1 hx hZ e1 A1_ hv hpv (D d14_5) rfl (g_istoreN (L' := #[vR t, vI nd, vI 1, u0, u0]) X1 hx (D d14_6) rfl rfl (g_iloadN X1 hx (D d14_7) rfl rfl (g_if_le (q := 59) (q0 := 11) X1 hx (D d14_8) (by decide) (by decide) rfl (fun h => absurd h (by decide)) fun c2 => (g_iloadN X1 hx (D d14_11) rfl rfl (g_iconst (v := (1 : Int32)) X1 hx (D d14_12) rfl rfl (g_isub X1 hx (D d14_13) rfl ?_)))))))))
  rw [show ((1 : Int32) - (1 : Int32)) = (0 : Int32) from by decide]
  refine g_iconst (v := (2 : Int32)) X1 hx (D d14_14) rfl rfl (g_idiv X1 hx (D d14_15) (by decide) rfl ?_)
  rw [show ((0 : Int32) / (2 : Int32)) = (0 : Int32) from by decide]
  refine g_istoreN (L' := #[vR t, vI nd, vI 1, vI 0, u0]) X1 hx (D d14_16) rfl rfl (g_aloadN X1 hx (D d14_17) rfl rfl rfl (g_getF X1 hx hZ hown (hW hw 60 rfl) e1 F0_ (D d14_18) rfl fun T3 X3 e3 => (g_iloadN X3 hx (D d14_21) rfl rfl (g_iload_ (i := 0) (v := v0_) X3 hx hZ e3 A0_ rfl rfl (D d14_22) rfl (g_istore (L' := #[vR t, vI nd, vI 1, vI 0, vI v0_]) X3 hx (D d14_23) rfl rfl (g_aloadN X3 hx (D d14_25) rfl rfl rfl (g_iloadN X3 hx (D d14_26) rfl rfl (g_iload X3 hx (D d14_27) rfl rfl (g_privateP X3 hx hZ hown (hW hw 134 rfl) (hW hw 135 rfl) (hW hw 136 rfl) (hW hw 54 rfl) (hW hw 55 rfl) (hW hw 137 rfl) (by decide) (rm22 l Z a0 hw [] t nd v0_ h0 n0 Z0 ak ky iv a_ F2_ A2_ hkl hv hv6 hwa ha6) E_ (argsL := [.int nd, .int v0_]) (rest := []) pd_3 rfl rfl rfl (D d14_29) rfl (by rw [hml]; rfl) e3 (by decide) (W := 0) rfl (by decide) rfl rfl (by decide) (by decide) fun T4 X4 e4 => ?_)))))))))
  refine g_ifB_ne (q := 38) (q0 := 35) X4 hx (D d14_32) (by decide) (by decide) rfl ?_ ?_
  ·intro c5
   refine g_aloadN X4 hx (D d14_38) rfl rfl rfl (g_getF X4 hx hZ hown (hW hw 60 rfl) e4 F0_ (D d14_39) rfl fun T6 X6 e6 => (g_iloadN X6 hx (D d14_42) rfl rfl (g_iload X6 hx (D d14_43) rfl rfl (g_istore_ (i := 1) (v := v0_) X6 hx hZ e6 A0_ rfl (by show 1 < 6; decide) (D d14_45) rfl fun T7 h7 X7 e7 W7 A7 => ?_))))
   replace A7 : IA Z h7 ah ([v0_, v0_, v2_, v3_, v4_, v5_] : List Int32) := A7
   have K8 := Keep.wr (Keep.refl h0 [ah, ap]) W7 (Or.inl (by simp))
   have F9 := Exa.wr W7 E_
   have F10 := Fld.other W7 F0_ (Or.inl ne0_)
   have F11 := Fld.other W7 F1_ (Or.inl ne0_)
   have F12 := Fld.other W7 F2_ (Or.inl ne0_)
   have F14 := ArrL.other A1_ W7 (Ne.symm ne3_)
   have F15 := ArrL.other A2_ W7 (Ne.symm ne4_)
   have N16 := Fr.snoc X7 N0 gh_
   have Z17 := zW Z0 W7
   refine g_aloadN X7 hx (D d14_46) rfl rfl rfl (g_getF X7 hx hZ hown (hW hw 62 rfl) e7 F11 (D d14_47) rfl fun T18 X18 e18 => (g_iload X18 hx (D d14_50) rfl rfl (g_iloadN X18 hx (D d14_52) rfl rfl (g_istore_ (i := a_) (v := (1 : Int32)) X18 hx hZ e18 F14 hwa (by (try simp only [List.length_set]); rw [hpl]; exact ha6) (D d14_53) rfl fun T19 h19 X19 e19 W19 A19 => ?_))))
   have K20 := Keep.wr K8 W19 (Or.inl (by simp))
   have F21 := Exa.wr W19 F9
   have F22 := Fld.other W19 F10 (Or.inl ne1_)
   have F23 := Fld.other W19 F11 (Or.inl ne1_)
   have F24 := Fld.other W19 F12 (Or.inl ne1_)
   have F25 := ArrL.other A7 W19 ne3_
   have F27 := ArrL.other F15 W19 (Ne.symm ne5_)
   have N28 := Fr.snoc X19 N16 gp_
   have Z29 := zW Z17 W19
   refine g_iloadN X19 hx (D d14_54) rfl rfl (g_istoreN (L' := #[vR t, vI nd, vI 0, vI 0, vI v0_]) X19 hx (D d14_55) rfl rfl (g_goto (q := 7) X19 hx (D d14_56) (by decide) (by decide) (g_iloadN X19 hx (D d14_7) rfl rfl ?_)))
   refine g_if_le (q := 59) (q0 := 11) X19 hx (D d14_8) (by decide) (by decide) rfl ?_ (fun h => absurd h (by decide))
   intro c30
   refine g_aloadN X19 hx (D d14_59) rfl rfl rfl (g_getF X19 hx hZ hown (hW hw 60 rfl) e19 F22 (D d14_60) rfl fun T31 X31 e31 => (g_iloadN X31 hx (D d14_63) rfl rfl (g_iloadN X31 hx (D d14_64) rfl rfl (g_istore_ (i := 0) (v := nd) X31 hx hZ e31 F25 rfl (by show 0 < 6; decide) (D d14_65) rfl fun T32 h32 X32 e32 W32 A32 => ?_))))
   replace A32 : IA Z h32 ah ([nd, v0_, v2_, v3_, v4_, v5_] : List Int32) := A32
   have K33 := Keep.wr K20 W32 (Or.inl (by simp))
   have F34 := Exa.wr W32 F21
   have F35 := Fld.other W32 F22 (Or.inl ne0_)
   have F36 := Fld.other W32 F23 (Or.inl ne0_)
   have F37 := Fld.other W32 F24 (Or.inl ne0_)
   have F39 := ArrL.other A19 W32 (Ne.symm ne3_)
   have F40 := ArrL.other F27 W32 (Ne.symm ne4_)
   have N41 := Fr.snoc X32 N28 gh_
   have Z42 := zW Z29 W32
   refine g_aloadN X32 hx (D d14_66) rfl rfl rfl (g_getF X32 hx hZ hown (hW hw 62 rfl) e32 F36 (D d14_67) rfl fun T43 X43 e43 => (g_iloadN X43 hx (D d14_70) rfl rfl (g_iloadN X43 hx (D d14_71) rfl rfl (g_istore_ (i := iv) (v := (0 : Int32)) X43 hx hZ e43 F39 hv (by (try simp only [List.length_set]); rw [hpl]; exact hv6) (D d14_72) rfl fun T44 h44 X44 e44 W44 A44 => ?_))))
   have K45 := Keep.wr K33 W44 (Or.inl (by simp))
   have F46 := Exa.wr W44 F34
   have F47 := Fld.other W44 F35 (Or.inl ne1_)
   have F48 := Fld.other W44 F36 (Or.inl ne1_)
   have F49 := Fld.other W44 F37 (Or.inl ne1_)
   have F50 := ArrL.other A32 W44 ne3_
   have F52 := ArrL.other F40 W44 (Ne.symm ne5_)
   have N53 := Fr.snoc X44 N41 gp_
   have Z54 := zW Z42 W44
   exact g_ret X44 hx hlk hrt (D d14_73) (by decide) (by decide) (by rw [e44]; exact ⟨rfl, N53, K45, [nd, v0_, v2_, v3_, v4_, v5_], ((pl.set a_ (1 : Int32)).set iv (0 : Int32)), F50, A44, Or.inl ⟨of_decide_eq_true c5, rfl, rfl⟩⟩)
  intro c5
  refine g_goto (q := 59) X4 hx (D d14_35) (by decide) (by decide) (g_aloadN X4 hx (D d14_59) rfl rfl rfl (g_getF X4 hx hZ hown (hW hw 60 rfl) e4 F0_ (D d14_60) rfl fun T55 X55 e55 => (g_iloadN X55 hx (D d14_63) rfl rfl (g_iloadN X55 hx (D d14_64) rfl rfl (g_istore_ (i := 1) (v := nd) X55 hx hZ e55 A0_ rfl (by show 1 < 6; decide) (D d14_65) rfl fun T56 h56 X56 e56 W56 A56 => ?_)))))
  replace A56 : IA Z h56 ah ([v0_, nd, v2_, v3_, v4_, v5_] : List Int32) := A56
  have K57 := Keep.wr (Keep.refl h0 [ah, ap]) W56 (Or.inl (by simp))
  have F58 := Exa.wr W56 E_
  have F59 := Fld.other W56 F0_ (Or.inl ne0_)
  have F60 := Fld.other W56 F1_ (Or.inl ne0_)
  have F61 := Fld.other W56 F2_ (Or.inl ne0_)
  have F63 := ArrL.other A1_ W56 (Ne.symm ne3_)
  have F64 := ArrL.other A2_ W56 (Ne.symm ne4_)
  have N65 := Fr.snoc X56 N0 gh_
  have Z66 := zW Z0 W56
  refine g_aloadN X56 hx (D d14_66) rfl rfl rfl (g_getF X56 hx hZ hown (hW hw 62 rfl) e56 F60 (D d14_67) rfl fun T67 X67 e67 => (g_iloadN X67 hx (D d14_70) rfl rfl (g_iloadN X67 hx (D d14_71) rfl rfl (g_istore_ (i := iv) (v := (1 : Int32)) X67 hx hZ e67 F63 hv (by (try simp only [List.length_set]); rw [hpl]; exact hv6) (D d14_72) rfl fun T68 h68 X68 e68 W68 A68 => ?_))))
  have K69 := Keep.wr K57 W68 (Or.inl (by simp))
  have F70 := Exa.wr W68 F58
  have F71 := Fld.other W68 F59 (Or.inl ne1_)
  have F72 := Fld.other W68 F60 (Or.inl ne1_)
  have F73 := Fld.other W68 F61 (Or.inl ne1_)
  have F74 := ArrL.other A56 W68 ne3_
  have F76 := ArrL.other F64 W68 (Ne.symm ne5_)
  have N77 := Fr.snoc X68 N65 gp_
  have Z78 := zW Z66 W68
  exact g_ret X68 hx hlk hrt (D d14_73) (by decide) (by decide) (by rw [e68]; exact ⟨rfl, N77, K69, [v0_, nd, v2_, v3_, v4_, v5_], (pl.set iv (1 : Int32)), F74, A68, Or.inr ⟨of_decide_eq_false c5, rfl, rfl⟩⟩)
def RM_rm14_2 : Room := ({ frames := 1, cells := 0, slots := 0, locals := 14 } : Room)
set_option maxRecDepth 65536 in
set_option maxHeartbeats 40000000 in
theorem rm14_2 (l : Launch) (Z : State) (a0 : Array Value) (hw : ∀ d ∈ tables_1, d.before a0 Z = true) (ws : List Jvm.Cond) (t : Addr) (nd : Int32) (h0 : Heap) (n0 : Nat) (Z0 : n0 ≤ h0.size) (ah ap ak : Addr) (v0_ v1_ v2_ v3_ v4_ v5_ : Int32) (pl : List Int32) (ky : List Int64) (iv a_ : Nat) (F0_ : Fld Z h0 t kQ "heap" "[I" (.ref ah)) (F1_ : Fld Z h0 t kQ "place" "[I" (.ref ap)) (F2_ : Fld Z h0 t kQ "key" "[J" (.ref ak)) (A0_ : IA Z h0 ah [v0_, v1_, v2_, v3_, v4_, v5_]) (A1_ : IA Z h0 ap pl) (A2_ : LA Z h0 ak ky) (E_ : Exa Z h0 t kQ) (ne0_ : t ≠ ah) (ne1_ : t ≠ ap) (ne2_ : t ≠ ak) (ne3_ : ah ≠ ap) (ne4_ : ah ≠ ak) (ne5_ : ap ≠ ak) (gh_ : n0 ≤ ah) (gp_ : n0 ≤ ap) (hv : nd.toInt = (iv : Int)) (hv6 : iv < 6) (hkl : ky.length = 6) (hpl : pl.length = 6) (hpv : pl[iv]? = some (2 : Int32)) (hwa : v0_.toInt = (a_ : Int)) (ha6 : a_ < 6) :
    Ctr l Z (⟨kQ, "siftUp", "(I)V"⟩ : MethodName) prog_77_method_9_code 5 none RM_rm14_2 ws #[.ref t, .int nd] h0 (fun v h L => v = none ∧ Fr n0 L ∧ Keep h0 h [ah, ap] ∧ ∃ hp' pl' : List Int32, IA Z h ah hp' ∧ IA Z h ap pl' ∧ UpR2 ky nd iv a_ v0_ v1_ v2_ v3_ v4_ v5_ pl hp' pl') := by
  refine Ctr.of (plainFor_of_name pn_4) ?_
  intro p e s m below meth c s₁ hx hby hml hrt hlk hnm hown hZ X0 e0
  have N0 := Fr.nil n0
  have D := @hb _ _ hby
  refine Go.cast (ef_14 m t nd) ?_
  refine g_aloadN X0 hx (D d14_0) rfl rfl rfl (g_getF X0 hx hZ hown (hW hw 62 rfl) e0 F1_ (D d14_1) rfl fun T1 X1 e1 => (g_iloadN X1 hx (D d14_4) rfl rfl (g_iload_ (i := iv) (v := (2 : Int32)) X1 hx hZ e1 A1_ hv hpv (D d14_5) rfl (g_istoreN (L' := #[vR t, vI nd, vI 2, u0, u0]) X1 hx (D d14_6) rfl rfl (g_iloadN X1 hx (D d14_7) rfl rfl (g_if_le (q := 59) (q0 := 11) X1 hx (D d14_8) (by decide) (by decide) rfl (fun h => absurd h (by decide)) fun c2 => (g_iloadN X1 hx (D d14_11) rfl rfl (g_iconst (v := (1 : Int32)) X1 hx (D d14_12) rfl rfl (g_isub X1 hx (D d14_13) rfl ?_)))))))))
  rw [show ((2 : Int32) - (1 : Int32)) = (1 : Int32) from by decide]
  refine g_iconst (v := (2 : Int32)) X1 hx (D d14_14) rfl rfl (g_idiv X1 hx (D d14_15) (by decide) rfl ?_)
  rw [show ((1 : Int32) / (2 : Int32)) = (0 : Int32) from by decide]
  refine g_istoreN (L' := #[vR t, vI nd, vI 2, vI 0, u0]) X1 hx (D d14_16) rfl rfl (g_aloadN X1 hx (D d14_17) rfl rfl rfl (g_getF X1 hx hZ hown (hW hw 60 rfl) e1 F0_ (D d14_18) rfl fun T3 X3 e3 => (g_iloadN X3 hx (D d14_21) rfl rfl (g_iload_ (i := 0) (v := v0_) X3 hx hZ e3 A0_ rfl rfl (D d14_22) rfl (g_istore (L' := #[vR t, vI nd, vI 2, vI 0, vI v0_]) X3 hx (D d14_23) rfl rfl (g_aloadN X3 hx (D d14_25) rfl rfl rfl (g_iloadN X3 hx (D d14_26) rfl rfl (g_iload X3 hx (D d14_27) rfl rfl (g_privateP X3 hx hZ hown (hW hw 134 rfl) (hW hw 135 rfl) (hW hw 136 rfl) (hW hw 54 rfl) (hW hw 55 rfl) (hW hw 137 rfl) (by decide) (rm22 l Z a0 hw [] t nd v0_ h0 n0 Z0 ak ky iv a_ F2_ A2_ hkl hv hv6 hwa ha6) E_ (argsL := [.int nd, .int v0_]) (rest := []) pd_3 rfl rfl rfl (D d14_29) rfl (by rw [hml]; rfl) e3 (by decide) (W := 0) rfl (by decide) rfl rfl (by decide) (by decide) fun T4 X4 e4 => ?_)))))))))
  refine g_ifB_ne (q := 38) (q0 := 35) X4 hx (D d14_32) (by decide) (by decide) rfl ?_ ?_
  ·intro c5
   refine g_aloadN X4 hx (D d14_38) rfl rfl rfl (g_getF X4 hx hZ hown (hW hw 60 rfl) e4 F0_ (D d14_39) rfl fun T6 X6 e6 => (g_iloadN X6 hx (D d14_42) rfl rfl (g_iload X6 hx (D d14_43) rfl rfl (g_istore_ (i := 2) (v := v0_) X6 hx hZ e6 A0_ rfl (by show 2 < 6; decide) (D d14_45) rfl fun T7 h7 X7 e7 W7 A7 => ?_))))
   replace A7 : IA Z h7 ah ([v0_, v1_, v0_, v3_, v4_, v5_] : List Int32) := A7
   have K8 := Keep.wr (Keep.refl h0 [ah, ap]) W7 (Or.inl (by simp))
   have F9 := Exa.wr W7 E_
   have F10 := Fld.other W7 F0_ (Or.inl ne0_)
   have F11 := Fld.other W7 F1_ (Or.inl ne0_)
   have F12 := Fld.other W7 F2_ (Or.inl ne0_)
   have F14 := ArrL.other A1_ W7 (Ne.symm ne3_)
   have F15 := ArrL.other A2_ W7 (Ne.symm ne4_)
   have N16 := Fr.snoc X7 N0 gh_
   have Z17 := zW Z0 W7
   refine g_aloadN X7 hx (D d14_46) rfl rfl rfl (g_getF X7 hx hZ hown (hW hw 62 rfl) e7 F11 (D d14_47) rfl fun T18 X18 e18 => (g_iload X18 hx (D d14_50) rfl rfl (g_iloadN X18 hx (D d14_52) rfl rfl (g_istore_ (i := a_) (v := (2 : Int32)) X18 hx hZ e18 F14 hwa (by (try simp only [List.length_set]); rw [hpl]; exact ha6) (D d14_53) rfl fun T19 h19 X19 e19 W19 A19 => ?_))))
   have K20 := Keep.wr K8 W19 (Or.inl (by simp))
   have F21 := Exa.wr W19 F9
   have F22 := Fld.other W19 F10 (Or.inl ne1_)
   have F23 := Fld.other W19 F11 (Or.inl ne1_)
   have F24 := Fld.other W19 F12 (Or.inl ne1_)
   have F25 := ArrL.other A7 W19 ne3_
   have F27 := ArrL.other F15 W19 (Ne.symm ne5_)
   have N28 := Fr.snoc X19 N16 gp_
   have Z29 := zW Z17 W19
   refine g_iloadN X19 hx (D d14_54) rfl rfl (g_istoreN (L' := #[vR t, vI nd, vI 0, vI 0, vI v0_]) X19 hx (D d14_55) rfl rfl (g_goto (q := 7) X19 hx (D d14_56) (by decide) (by decide) (g_iloadN X19 hx (D d14_7) rfl rfl ?_)))
   refine g_if_le (q := 59) (q0 := 11) X19 hx (D d14_8) (by decide) (by decide) rfl ?_ (fun h => absurd h (by decide))
   intro c30
   refine g_aloadN X19 hx (D d14_59) rfl rfl rfl (g_getF X19 hx hZ hown (hW hw 60 rfl) e19 F22 (D d14_60) rfl fun T31 X31 e31 => (g_iloadN X31 hx (D d14_63) rfl rfl (g_iloadN X31 hx (D d14_64) rfl rfl (g_istore_ (i := 0) (v := nd) X31 hx hZ e31 F25 rfl (by show 0 < 6; decide) (D d14_65) rfl fun T32 h32 X32 e32 W32 A32 => ?_))))
   replace A32 : IA Z h32 ah ([nd, v1_, v0_, v3_, v4_, v5_] : List Int32) := A32
   have K33 := Keep.wr K20 W32 (Or.inl (by simp))
   have F34 := Exa.wr W32 F21
   have F35 := Fld.other W32 F22 (Or.inl ne0_)
   have F36 := Fld.other W32 F23 (Or.inl ne0_)
   have F37 := Fld.other W32 F24 (Or.inl ne0_)
   have F39 := ArrL.other A19 W32 (Ne.symm ne3_)
   have F40 := ArrL.other F27 W32 (Ne.symm ne4_)
   have N41 := Fr.snoc X32 N28 gh_
   have Z42 := zW Z29 W32
   refine g_aloadN X32 hx (D d14_66) rfl rfl rfl (g_getF X32 hx hZ hown (hW hw 62 rfl) e32 F36 (D d14_67) rfl fun T43 X43 e43 => (g_iloadN X43 hx (D d14_70) rfl rfl (g_iloadN X43 hx (D d14_71) rfl rfl (g_istore_ (i := iv) (v := (0 : Int32)) X43 hx hZ e43 F39 hv (by (try simp only [List.length_set]); rw [hpl]; exact hv6) (D d14_72) rfl fun T44 h44 X44 e44 W44 A44 => ?_))))
   have K45 := Keep.wr K33 W44 (Or.inl (by simp))
   have F46 := Exa.wr W44 F34
   have F47 := Fld.other W44 F35 (Or.inl ne1_)
   have F48 := Fld.other W44 F36 (Or.inl ne1_)
   have F49 := Fld.other W44 F37 (Or.inl ne1_)
   have F50 := ArrL.other A32 W44 ne3_
   have F52 := ArrL.other F40 W44 (Ne.symm ne5_)
   have N53 := Fr.snoc X44 N41 gp_
   have Z54 := zW Z42 W44
   exact g_ret X44 hx hlk hrt (D d14_73) (by decide) (by decide) (by rw [e44]; exact ⟨rfl, N53, K45, [nd, v1_, v0_, v3_, v4_, v5_], ((pl.set a_ (2 : Int32)).set iv (0 : Int32)), F50, A44, Or.inl ⟨of_decide_eq_true c5, rfl, rfl⟩⟩)
  intro c5
  refine g_goto (q := 59) X4 hx (D d14_35) (by decide) (by decide) (g_aloadN X4 hx (D d14_59) rfl rfl rfl (g_getF X4 hx hZ hown (hW hw 60 rfl) e4 F0_ (D d14_60) rfl fun T55 X55 e55 => (g_iloadN X55 hx (D d14_63) rfl rfl (g_iloadN X55 hx (D d14_64) rfl rfl (g_istore_ (i := 2) (v := nd) X55 hx hZ e55 A0_ rfl (by show 2 < 6; decide) (D d14_65) rfl fun T56 h56 X56 e56 W56 A56 => ?_)))))
  replace A56 : IA Z h56 ah ([v0_, v1_, nd, v3_, v4_, v5_] : List Int32) := A56
  have K57 := Keep.wr (Keep.refl h0 [ah, ap]) W56 (Or.inl (by simp))
  have F58 := Exa.wr W56 E_
  have F59 := Fld.other W56 F0_ (Or.inl ne0_)
  have F60 := Fld.other W56 F1_ (Or.inl ne0_)
  have F61 := Fld.other W56 F2_ (Or.inl ne0_)
  have F63 := ArrL.other A1_ W56 (Ne.symm ne3_)
  have F64 := ArrL.other A2_ W56 (Ne.symm ne4_)
  have N65 := Fr.snoc X56 N0 gh_
  have Z66 := zW Z0 W56
  refine g_aloadN X56 hx (D d14_66) rfl rfl rfl (g_getF X56 hx hZ hown (hW hw 62 rfl) e56 F60 (D d14_67) rfl fun T67 X67 e67 => (g_iloadN X67 hx (D d14_70) rfl rfl (g_iloadN X67 hx (D d14_71) rfl rfl (g_istore_ (i := iv) (v := (2 : Int32)) X67 hx hZ e67 F63 hv (by (try simp only [List.length_set]); rw [hpl]; exact hv6) (D d14_72) rfl fun T68 h68 X68 e68 W68 A68 => ?_))))
  have K69 := Keep.wr K57 W68 (Or.inl (by simp))
  have F70 := Exa.wr W68 F58
  have F71 := Fld.other W68 F59 (Or.inl ne1_)
  have F72 := Fld.other W68 F60 (Or.inl ne1_)
  have F73 := Fld.other W68 F61 (Or.inl ne1_)
  have F74 := ArrL.other A56 W68 ne3_
  have F76 := ArrL.other F64 W68 (Ne.symm ne5_)
  have N77 := Fr.snoc X68 N65 gp_
  have Z78 := zW Z66 W68
  exact g_ret X68 hx hlk hrt (D d14_73) (by decide) (by decide) (by rw [e68]; exact ⟨rfl, N77, K69, [v0_, v1_, nd, v3_, v4_, v5_], (pl.set iv (2 : Int32)), F74, A68, Or.inr ⟨of_decide_eq_false c5, rfl, rfl⟩⟩)
def RM_rm23_1 : Room := ({ frames := 0, cells := 0, slots := 0, locals := 0 } : Room)
abbrev b23 := prog_77_method_10_code
theorem d23_0 : decode b23 0 = .ok (.aload_n 0, 1) := by decide +kernel
theorem d23_1 : decode b23 1 = .ok (.getfield 13, 3) := by decide +kernel
theorem d23_4 : decode b23 4 = .ok (.iload_n 1, 1) := by decide +kernel
theorem d23_5 : decode b23 5 = .ok (.iaload, 1) := by decide +kernel
theorem d23_6 : decode b23 6 = .ok (.istore_n 2, 1) := by decide +kernel
theorem d23_7 : decode b23 7 = .ok (.iconst 2, 1) := by decide +kernel
theorem d23_8 : decode b23 8 = .ok (.iload_n 2, 1) := by decide +kernel
theorem d23_9 : decode b23 9 = .ok (.imul, 1) := by decide +kernel
theorem d23_10 : decode b23 10 = .ok (.iconst 1, 1) := by decide +kernel
theorem d23_11 : decode b23 11 = .ok (.iadd, 1) := by decide +kernel
theorem d23_12 : decode b23 12 = .ok (.istore_n 3, 1) := by decide +kernel
theorem d23_13 : decode b23 13 = .ok (.iload_n 3, 1) := by decide +kernel
theorem d23_14 : decode b23 14 = .ok (.aload_n 0, 1) := by decide +kernel
theorem d23_15 : decode b23 15 = .ok (.getfield 26, 3) := by decide +kernel
theorem d23_18 : decode b23 18 = .ok (.if_icmp .lt 6, 3) := by decide +kernel
theorem d23_21 : decode b23 21 = .ok (.goto 79, 3) := by decide +kernel
theorem d23_100 : decode b23 100 = .ok (.aload_n 0, 1) := by decide +kernel
theorem d23_101 : decode b23 101 = .ok (.getfield 7, 3) := by decide +kernel
theorem d23_104 : decode b23 104 = .ok (.iload_n 2, 1) := by decide +kernel
theorem d23_105 : decode b23 105 = .ok (.iload_n 1, 1) := by decide +kernel
theorem d23_106 : decode b23 106 = .ok (.iastore, 1) := by decide +kernel
theorem d23_107 : decode b23 107 = .ok (.aload_n 0, 1) := by decide +kernel
theorem d23_108 : decode b23 108 = .ok (.getfield 13, 3) := by decide +kernel
theorem d23_111 : decode b23 111 = .ok (.iload_n 1, 1) := by decide +kernel
theorem d23_112 : decode b23 112 = .ok (.iload_n 2, 1) := by decide +kernel
theorem d23_113 : decode b23 113 = .ok (.iastore, 1) := by decide +kernel
theorem d23_114 : decode b23 114 = .ok (.return_, 1) := by decide +kernel
theorem ef_23 (m : MethodId) (z0 : Addr) (z1 : Int32) : entryFrame m #[.ref z0, .int z1] 5 = mkF m 0 #[vR z0, vI z1, u0, u0, u0] [] := by first | (simp [entryFrame, mkF, argsToLocals, Value.category]; done) | rfl
set_option maxRecDepth 65536 in
set_option maxHeartbeats 40000000 in
theorem rm23_1 (l : Launch) (Z : State) (a0 : Array Value) (hw : ∀ d ∈ tables_1, d.before a0 Z = true) (ws : List Jvm.Cond) (t : Addr) (nd : Int32) (h0 : Heap) (n0 : Nat) (Z0 : n0 ≤ h0.size) (ah ap ak : Addr) (v0_ v1_ v2_ v3_ v4_ v5_ : Int32) (pl : List Int32) (ky : List Int64) (iv a_ : Nat) (F0_ : Fld Z h0 t kQ "heap" "[I" (.ref ah)) (F1_ : Fld Z h0 t kQ "place" "[I" (.ref ap)) (F2_ : Fld Z h0 t kQ "key" "[J" (.ref ak)) (F3_ : Fld Z h0 t kQ "count" "I" (.int 1)) (A0_ : IA Z h0 ah [v0_, v1_, v2_, v3_, v4_, v5_]) (A1_ : IA Z h0 ap pl) (A2_ : LA Z h0 ak ky) (E_ : Exa Z h0 t kQ) (ne0_ : t ≠ ah) (ne1_ : t ≠ ap) (ne2_ : t ≠ ak) (ne3_ : ah ≠ ap) (ne4_ : ah ≠ ak) (ne5_ : ap ≠ ak) (gh_ : n0 ≤ ah) (gp_ : n0 ≤ ap) (hv : nd.toInt = (iv : Int)) (hv6 : iv < 6) (hkl : ky.length = 6) (hpl : pl.length = 6) (hpv : pl[iv]? = some (0 : Int32)) :
    Ctr l Z (⟨kQ, "siftDown", "(I)V"⟩ : MethodName) prog_77_method_10_code 5 none RM_rm23_1 ws #[.ref t, .int nd] h0 (fun v h L => v = none ∧ Fr n0 L ∧ Keep h0 h [ah, ap] ∧ ∃ hp' pl' : List Int32, IA Z h ah hp' ∧ IA Z h ap pl' ∧ DnR1 ky nd iv a_ v0_ v1_ v2_ v3_ v4_ v5_ pl hp' pl') := by
  refine Ctr.of (plainFor_of_name pn_4) ?_
  intro p e s m below meth c s₁ hx hby hml hrt hlk hnm hown hZ X0 e0
  have N0 := Fr.nil n0
  have D := @hb _ _ hby
  refine Go.cast (ef_23 m t nd) ?_
  refine g_aloadN X0 hx (D d23_0) rfl rfl rfl (g_getF X0 hx hZ hown (hW hw 62 rfl) e0 F1_ (D d23_1) rfl fun T1 X1 e1 => (g_iloadN X1 hx (D d23_4) rfl rfl (g_iload_ (i := iv) (v := (0 : Int32)) X1 hx hZ e1 A1_ hv hpv (D d23_5) rfl (g_istoreN (L' := #[vR t, vI nd, vI 0, u0, u0]) X1 hx (D d23_6) rfl rfl (g_iconst (v := (2 : Int32)) X1 hx (D d23_7) rfl rfl (g_iloadN X1 hx (D d23_8) rfl rfl (g_imul X1 hx (D d23_9) rfl ?_)))))))
  rw [show ((2 : Int32) * (0 : Int32)) = (0 : Int32) from by decide]
  refine g_iconst (v := (1 : Int32)) X1 hx (D d23_10) rfl rfl (g_iadd X1 hx (D d23_11) rfl ?_)
  rw [show ((0 : Int32) + (1 : Int32)) = (1 : Int32) from by decide]
  refine g_istoreN (L' := #[vR t, vI nd, vI 0, vI 1, u0]) X1 hx (D d23_12) rfl rfl (g_iloadN X1 hx (D d23_13) rfl rfl (g_aloadN X1 hx (D d23_14) rfl rfl rfl (g_getF X1 hx hZ hown (hW hw 93 rfl) e1 F3_ (D d23_15) rfl fun T2 X2 e2 => (g_icmp_lt (q := 24) (q0 := 21) X2 hx (D d23_18) (by decide) (by decide) rfl (fun h => absurd h (by decide)) fun c3 => (g_goto (q := 100) X2 hx (D d23_21) (by decide) (by decide) (g_aloadN X2 hx (D d23_100) rfl rfl rfl (g_getF X2 hx hZ hown (hW hw 60 rfl) e2 F0_ (D d23_101) rfl fun T4 X4 e4 => (g_iloadN X4 hx (D d23_104) rfl rfl (g_iloadN X4 hx (D d23_105) rfl rfl (g_istore_ (i := 0) (v := nd) X4 hx hZ e4 A0_ rfl (by show 0 < 6; decide) (D d23_106) rfl fun T5 h5 X5 e5 W5 A5 => ?_))))))))))
  replace A5 : IA Z h5 ah ([nd, v1_, v2_, v3_, v4_, v5_] : List Int32) := A5
  have K6 := Keep.wr (Keep.refl h0 [ah, ap]) W5 (Or.inl (by simp))
  have F7 := Exa.wr W5 E_
  have F8 := Fld.other W5 F0_ (Or.inl ne0_)
  have F9 := Fld.other W5 F1_ (Or.inl ne0_)
  have F10 := Fld.other W5 F2_ (Or.inl ne0_)
  have F11 := Fld.other W5 F3_ (Or.inl ne0_)
  have F13 := ArrL.other A1_ W5 (Ne.symm ne3_)
  have F14 := ArrL.other A2_ W5 (Ne.symm ne4_)
  have N15 := Fr.snoc X5 N0 gh_
  have Z16 := zW Z0 W5
  refine g_aloadN X5 hx (D d23_107) rfl rfl rfl (g_getF X5 hx hZ hown (hW hw 62 rfl) e5 F9 (D d23_108) rfl fun T17 X17 e17 => (g_iloadN X17 hx (D d23_111) rfl rfl (g_iloadN X17 hx (D d23_112) rfl rfl (g_istore_ (i := iv) (v := (0 : Int32)) X17 hx hZ e17 F13 hv (by (try simp only [List.length_set]); rw [hpl]; exact hv6) (D d23_113) rfl fun T18 h18 X18 e18 W18 A18 => ?_))))
  have K19 := Keep.wr K6 W18 (Or.inl (by simp))
  have F20 := Exa.wr W18 F7
  have F21 := Fld.other W18 F8 (Or.inl ne1_)
  have F22 := Fld.other W18 F9 (Or.inl ne1_)
  have F23 := Fld.other W18 F10 (Or.inl ne1_)
  have F24 := Fld.other W18 F11 (Or.inl ne1_)
  have F25 := ArrL.other A5 W18 ne3_
  have F27 := ArrL.other F14 W18 (Ne.symm ne5_)
  have N28 := Fr.snoc X18 N15 gp_
  have Z29 := zW Z16 W18
  exact g_ret X18 hx hlk hrt (D d23_114) (by decide) (by decide) (by rw [e18]; exact ⟨rfl, N28, K19, [nd, v1_, v2_, v3_, v4_, v5_], (pl.set iv (0 : Int32)), F25, A18, ⟨rfl, rfl⟩⟩)
def RM_rm23_2 : Room := ({ frames := 1, cells := 0, slots := 0, locals := 14 } : Room)
theorem d23_24 : decode b23 24 = .ok (.iload_n 3, 1) := by decide +kernel
theorem d23_25 : decode b23 25 = .ok (.iconst 1, 1) := by decide +kernel
theorem d23_26 : decode b23 26 = .ok (.iadd, 1) := by decide +kernel
theorem d23_27 : decode b23 27 = .ok (.aload_n 0, 1) := by decide +kernel
theorem d23_28 : decode b23 28 = .ok (.getfield 26, 3) := by decide +kernel
theorem d23_31 : decode b23 31 = .ok (.if_icmp .ge 27, 3) := by decide +kernel
theorem d23_58 : decode b23 58 = .ok (.aload_n 0, 1) := by decide +kernel
theorem d23_59 : decode b23 59 = .ok (.getfield 7, 3) := by decide +kernel
theorem d23_62 : decode b23 62 = .ok (.iload_n 3, 1) := by decide +kernel
theorem d23_63 : decode b23 63 = .ok (.iaload, 1) := by decide +kernel
theorem d23_64 : decode b23 64 = .ok (.istore 4, 2) := by decide +kernel
theorem d23_66 : decode b23 66 = .ok (.aload_n 0, 1) := by decide +kernel
theorem d23_67 : decode b23 67 = .ok (.iload 4, 2) := by decide +kernel
theorem d23_69 : decode b23 69 = .ok (.iload_n 1, 1) := by decide +kernel
theorem d23_70 : decode b23 70 = .ok (.invokevirtual 40, 3) := by decide +kernel
theorem d23_73 : decode b23 73 = .ok (.ifCond .ne 6, 3) := by decide +kernel
theorem d23_76 : decode b23 76 = .ok (.goto 24, 3) := by decide +kernel
theorem d23_79 : decode b23 79 = .ok (.aload_n 0, 1) := by decide +kernel
theorem d23_80 : decode b23 80 = .ok (.getfield 7, 3) := by decide +kernel
theorem d23_83 : decode b23 83 = .ok (.iload_n 2, 1) := by decide +kernel
theorem d23_84 : decode b23 84 = .ok (.iload 4, 2) := by decide +kernel
theorem d23_86 : decode b23 86 = .ok (.iastore, 1) := by decide +kernel
theorem d23_87 : decode b23 87 = .ok (.aload_n 0, 1) := by decide +kernel
theorem d23_88 : decode b23 88 = .ok (.getfield 13, 3) := by decide +kernel
theorem d23_91 : decode b23 91 = .ok (.iload 4, 2) := by decide +kernel
theorem d23_93 : decode b23 93 = .ok (.iload_n 2, 1) := by decide +kernel
theorem d23_94 : decode b23 94 = .ok (.iastore, 1) := by decide +kernel
theorem d23_95 : decode b23 95 = .ok (.iload_n 3, 1) := by decide +kernel
theorem d23_96 : decode b23 96 = .ok (.istore_n 2, 1) := by decide +kernel
theorem d23_97 : decode b23 97 = .ok (.goto (-90), 3) := by decide +kernel
set_option maxRecDepth 65536 in
set_option maxHeartbeats 40000000 in
theorem rm23_2 (l : Launch) (Z : State) (a0 : Array Value) (hw : ∀ d ∈ tables_1, d.before a0 Z = true) (ws : List Jvm.Cond) (t : Addr) (nd : Int32) (h0 : Heap) (n0 : Nat) (Z0 : n0 ≤ h0.size) (ah ap ak : Addr) (v0_ v1_ v2_ v3_ v4_ v5_ : Int32) (pl : List Int32) (ky : List Int64) (iv a_ : Nat) (F0_ : Fld Z h0 t kQ "heap" "[I" (.ref ah)) (F1_ : Fld Z h0 t kQ "place" "[I" (.ref ap)) (F2_ : Fld Z h0 t kQ "key" "[J" (.ref ak)) (F3_ : Fld Z h0 t kQ "count" "I" (.int 2)) (A0_ : IA Z h0 ah [v0_, v1_, v2_, v3_, v4_, v5_]) (A1_ : IA Z h0 ap pl) (A2_ : LA Z h0 ak ky) (E_ : Exa Z h0 t kQ) (ne0_ : t ≠ ah) (ne1_ : t ≠ ap) (ne2_ : t ≠ ak) (ne3_ : ah ≠ ap) (ne4_ : ah ≠ ak) (ne5_ : ap ≠ ak) (gh_ : n0 ≤ ah) (gp_ : n0 ≤ ap) (hv : nd.toInt = (iv : Int)) (hv6 : iv < 6) (hkl : ky.length = 6) (hpl : pl.length = 6) (hpv : pl[iv]? = some (0 : Int32)) (hwa : v1_.toInt = (a_ : Int)) (ha6 : a_ < 6) :
    Ctr l Z (⟨kQ, "siftDown", "(I)V"⟩ : MethodName) prog_77_method_10_code 5 none RM_rm23_2 ws #[.ref t, .int nd] h0 (fun v h L => v = none ∧ Fr n0 L ∧ Keep h0 h [ah, ap] ∧ ∃ hp' pl' : List Int32, IA Z h ah hp' ∧ IA Z h ap pl' ∧ DnR2 ky nd iv a_ v0_ v1_ v2_ v3_ v4_ v5_ pl hp' pl') := by
  refine Ctr.of (plainFor_of_name pn_4) ?_
  intro p e s m below meth c s₁ hx hby hml hrt hlk hnm hown hZ X0 e0
  have N0 := Fr.nil n0
  have D := @hb _ _ hby
  refine Go.cast (ef_23 m t nd) ?_
  refine g_aloadN X0 hx (D d23_0) rfl rfl rfl (g_getF X0 hx hZ hown (hW hw 62 rfl) e0 F1_ (D d23_1) rfl fun T1 X1 e1 => (g_iloadN X1 hx (D d23_4) rfl rfl (g_iload_ (i := iv) (v := (0 : Int32)) X1 hx hZ e1 A1_ hv hpv (D d23_5) rfl (g_istoreN (L' := #[vR t, vI nd, vI 0, u0, u0]) X1 hx (D d23_6) rfl rfl (g_iconst (v := (2 : Int32)) X1 hx (D d23_7) rfl rfl (g_iloadN X1 hx (D d23_8) rfl rfl (g_imul X1 hx (D d23_9) rfl ?_)))))))
  rw [show ((2 : Int32) * (0 : Int32)) = (0 : Int32) from by decide]
  refine g_iconst (v := (1 : Int32)) X1 hx (D d23_10) rfl rfl (g_iadd X1 hx (D d23_11) rfl ?_)
  rw [show ((0 : Int32) + (1 : Int32)) = (1 : Int32) from by decide]
  refine g_istoreN (L' := #[vR t, vI nd, vI 0, vI 1, u0]) X1 hx (D d23_12) rfl rfl (g_iloadN X1 hx (D d23_13) rfl rfl (g_aloadN X1 hx (D d23_14) rfl rfl rfl (g_getF X1 hx hZ hown (hW hw 93 rfl) e1 F3_ (D d23_15) rfl fun T2 X2 e2 => ?_)))
  refine g_icmp_lt (q := 24) (q0 := 21) X2 hx (D d23_18) (by decide) (by decide) rfl ?_ (fun h => absurd h (by decide))
  intro c3
  refine g_iloadN X2 hx (D d23_24) rfl rfl (g_iconst (v := (1 : Int32)) X2 hx (D d23_25) rfl rfl (g_iadd X2 hx (D d23_26) rfl ?_))
  rw [show ((1 : Int32) + (1 : Int32)) = (2 : Int32) from by decide]
  refine g_aloadN X2 hx (D d23_27) rfl rfl rfl (g_getF X2 hx hZ hown (hW hw 93 rfl) e2 F3_ (D d23_28) rfl fun T4 X4 e4 => ?_)
  refine g_icmp_ge (q := 58) (q0 := 34) X4 hx (D d23_31) (by decide) (by decide) rfl ?_ (fun h => absurd h (by decide))
  intro c5
  refine g_aloadN X4 hx (D d23_58) rfl rfl rfl (g_getF X4 hx hZ hown (hW hw 60 rfl) e4 F0_ (D d23_59) rfl fun T6 X6 e6 => (g_iloadN X6 hx (D d23_62) rfl rfl (g_iload_ (i := 1) (v := v1_) X6 hx hZ e6 A0_ rfl rfl (D d23_63) rfl (g_istore (L' := #[vR t, vI nd, vI 0, vI 1, vI v1_]) X6 hx (D d23_64) rfl rfl (g_aloadN X6 hx (D d23_66) rfl rfl rfl (g_iload X6 hx (D d23_67) rfl rfl (g_iloadN X6 hx (D d23_69) rfl rfl (g_privateP X6 hx hZ hown (hW hw 134 rfl) (hW hw 135 rfl) (hW hw 136 rfl) (hW hw 54 rfl) (hW hw 55 rfl) (hW hw 137 rfl) (by decide) (rm22 l Z a0 hw [] t v1_ nd h0 n0 Z0 ak ky a_ iv F2_ A2_ hkl hwa ha6 hv hv6) E_ (argsL := [.int v1_, .int nd]) (rest := []) pd_3 rfl rfl rfl (D d23_70) rfl (by rw [hml]; rfl) e6 (by decide) (W := 0) rfl (by decide) rfl rfl (by decide) (by decide) fun T7 X7 e7 => ?_))))))))
  refine g_ifB_ne (q := 79) (q0 := 76) X7 hx (D d23_73) (by decide) (by decide) rfl ?_ ?_
  ·intro c8
   refine g_aloadN X7 hx (D d23_79) rfl rfl rfl (g_getF X7 hx hZ hown (hW hw 60 rfl) e7 F0_ (D d23_80) rfl fun T9 X9 e9 => (g_iloadN X9 hx (D d23_83) rfl rfl (g_iload X9 hx (D d23_84) rfl rfl (g_istore_ (i := 0) (v := v1_) X9 hx hZ e9 A0_ rfl (by show 0 < 6; decide) (D d23_86) rfl fun T10 h10 X10 e10 W10 A10 => ?_))))
   replace A10 : IA Z h10 ah ([v1_, v1_, v2_, v3_, v4_, v5_] : List Int32) := A10
   have K11 := Keep.wr (Keep.refl h0 [ah, ap]) W10 (Or.inl (by simp))
   have F12 := Exa.wr W10 E_
   have F13 := Fld.other W10 F0_ (Or.inl ne0_)
   have F14 := Fld.other W10 F1_ (Or.inl ne0_)
   have F15 := Fld.other W10 F2_ (Or.inl ne0_)
   have F16 := Fld.other W10 F3_ (Or.inl ne0_)
   have F18 := ArrL.other A1_ W10 (Ne.symm ne3_)
   have F19 := ArrL.other A2_ W10 (Ne.symm ne4_)
   have N20 := Fr.snoc X10 N0 gh_
   have Z21 := zW Z0 W10
   refine g_aloadN X10 hx (D d23_87) rfl rfl rfl (g_getF X10 hx hZ hown (hW hw 62 rfl) e10 F14 (D d23_88) rfl fun T22 X22 e22 => (g_iload X22 hx (D d23_91) rfl rfl (g_iloadN X22 hx (D d23_93) rfl rfl (g_istore_ (i := a_) (v := (0 : Int32)) X22 hx hZ e22 F18 hwa (by (try simp only [List.length_set]); rw [hpl]; exact ha6) (D d23_94) rfl fun T23 h23 X23 e23 W23 A23 => ?_))))
   have K24 := Keep.wr K11 W23 (Or.inl (by simp))
   have F25 := Exa.wr W23 F12
   have F26 := Fld.other W23 F13 (Or.inl ne1_)
   have F27 := Fld.other W23 F14 (Or.inl ne1_)
   have F28 := Fld.other W23 F15 (Or.inl ne1_)
   have F29 := Fld.other W23 F16 (Or.inl ne1_)
   have F30 := ArrL.other A10 W23 ne3_
   have F32 := ArrL.other F19 W23 (Ne.symm ne5_)
   have N33 := Fr.snoc X23 N20 gp_
   have Z34 := zW Z21 W23
   refine g_iloadN X23 hx (D d23_95) rfl rfl (g_istoreN (L' := #[vR t, vI nd, vI 1, vI 1, vI v1_]) X23 hx (D d23_96) rfl rfl (g_goto (q := 7) X23 hx (D d23_97) (by decide) (by decide) (g_iconst (v := (2 : Int32)) X23 hx (D d23_7) rfl rfl (g_iloadN X23 hx (D d23_8) rfl rfl (g_imul X23 hx (D d23_9) rfl ?_)))))
   rw [show ((2 : Int32) * (1 : Int32)) = (2 : Int32) from by decide]
   refine g_iconst (v := (1 : Int32)) X23 hx (D d23_10) rfl rfl (g_iadd X23 hx (D d23_11) rfl ?_)
   rw [show ((2 : Int32) + (1 : Int32)) = (3 : Int32) from by decide]
   refine g_istoreN (L' := #[vR t, vI nd, vI 1, vI 3, vI v1_]) X23 hx (D d23_12) rfl rfl (g_iloadN X23 hx (D d23_13) rfl rfl (g_aloadN X23 hx (D d23_14) rfl rfl rfl (g_getF X23 hx hZ hown (hW hw 93 rfl) e23 F29 (D d23_15) rfl fun T35 X35 e35 => (g_icmp_lt (q := 24) (q0 := 21) X35 hx (D d23_18) (by decide) (by decide) rfl (fun h => absurd h (by decide)) fun c36 => (g_goto (q := 100) X35 hx (D d23_21) (by decide) (by decide) (g_aloadN X35 hx (D d23_100) rfl rfl rfl (g_getF X35 hx hZ hown (hW hw 60 rfl) e35 F26 (D d23_101) rfl fun T37 X37 e37 => (g_iloadN X37 hx (D d23_104) rfl rfl (g_iloadN X37 hx (D d23_105) rfl rfl (g_istore_ (i := 1) (v := nd) X37 hx hZ e37 F30 rfl (by show 1 < 6; decide) (D d23_106) rfl fun T38 h38 X38 e38 W38 A38 => ?_))))))))))
   replace A38 : IA Z h38 ah ([v1_, nd, v2_, v3_, v4_, v5_] : List Int32) := A38
   have K39 := Keep.wr K24 W38 (Or.inl (by simp))
   have F40 := Exa.wr W38 F25
   have F41 := Fld.other W38 F26 (Or.inl ne0_)
   have F42 := Fld.other W38 F27 (Or.inl ne0_)
   have F43 := Fld.other W38 F28 (Or.inl ne0_)
   have F44 := Fld.other W38 F29 (Or.inl ne0_)
   have F46 := ArrL.other A23 W38 (Ne.symm ne3_)
   have F47 := ArrL.other F32 W38 (Ne.symm ne4_)
   have N48 := Fr.snoc X38 N33 gh_
   have Z49 := zW Z34 W38
   refine g_aloadN X38 hx (D d23_107) rfl rfl rfl (g_getF X38 hx hZ hown (hW hw 62 rfl) e38 F42 (D d23_108) rfl fun T50 X50 e50 => (g_iloadN X50 hx (D d23_111) rfl rfl (g_iloadN X50 hx (D d23_112) rfl rfl (g_istore_ (i := iv) (v := (1 : Int32)) X50 hx hZ e50 F46 hv (by (try simp only [List.length_set]); rw [hpl]; exact hv6) (D d23_113) rfl fun T51 h51 X51 e51 W51 A51 => ?_))))
   have K52 := Keep.wr K39 W51 (Or.inl (by simp))
   have F53 := Exa.wr W51 F40
   have F54 := Fld.other W51 F41 (Or.inl ne1_)
   have F55 := Fld.other W51 F42 (Or.inl ne1_)
   have F56 := Fld.other W51 F43 (Or.inl ne1_)
   have F57 := Fld.other W51 F44 (Or.inl ne1_)
   have F58 := ArrL.other A38 W51 ne3_
   have F60 := ArrL.other F47 W51 (Ne.symm ne5_)
   have N61 := Fr.snoc X51 N48 gp_
   have Z62 := zW Z49 W51
   exact g_ret X51 hx hlk hrt (D d23_114) (by decide) (by decide) (by rw [e51]; exact ⟨rfl, N61, K52, [v1_, nd, v2_, v3_, v4_, v5_], ((pl.set a_ (0 : Int32)).set iv (1 : Int32)), F58, A51, Or.inl ⟨of_decide_eq_true c8, rfl, rfl⟩⟩)
  intro c8
  refine g_goto (q := 100) X7 hx (D d23_76) (by decide) (by decide) (g_aloadN X7 hx (D d23_100) rfl rfl rfl (g_getF X7 hx hZ hown (hW hw 60 rfl) e7 F0_ (D d23_101) rfl fun T63 X63 e63 => (g_iloadN X63 hx (D d23_104) rfl rfl (g_iloadN X63 hx (D d23_105) rfl rfl (g_istore_ (i := 0) (v := nd) X63 hx hZ e63 A0_ rfl (by show 0 < 6; decide) (D d23_106) rfl fun T64 h64 X64 e64 W64 A64 => ?_)))))
  replace A64 : IA Z h64 ah ([nd, v1_, v2_, v3_, v4_, v5_] : List Int32) := A64
  have K65 := Keep.wr (Keep.refl h0 [ah, ap]) W64 (Or.inl (by simp))
  have F66 := Exa.wr W64 E_
  have F67 := Fld.other W64 F0_ (Or.inl ne0_)
  have F68 := Fld.other W64 F1_ (Or.inl ne0_)
  have F69 := Fld.other W64 F2_ (Or.inl ne0_)
  have F70 := Fld.other W64 F3_ (Or.inl ne0_)
  have F72 := ArrL.other A1_ W64 (Ne.symm ne3_)
  have F73 := ArrL.other A2_ W64 (Ne.symm ne4_)
  have N74 := Fr.snoc X64 N0 gh_
  have Z75 := zW Z0 W64
  refine g_aloadN X64 hx (D d23_107) rfl rfl rfl (g_getF X64 hx hZ hown (hW hw 62 rfl) e64 F68 (D d23_108) rfl fun T76 X76 e76 => (g_iloadN X76 hx (D d23_111) rfl rfl (g_iloadN X76 hx (D d23_112) rfl rfl (g_istore_ (i := iv) (v := (0 : Int32)) X76 hx hZ e76 F72 hv (by (try simp only [List.length_set]); rw [hpl]; exact hv6) (D d23_113) rfl fun T77 h77 X77 e77 W77 A77 => ?_))))
  have K78 := Keep.wr K65 W77 (Or.inl (by simp))
  have F79 := Exa.wr W77 F66
  have F80 := Fld.other W77 F67 (Or.inl ne1_)
  have F81 := Fld.other W77 F68 (Or.inl ne1_)
  have F82 := Fld.other W77 F69 (Or.inl ne1_)
  have F83 := Fld.other W77 F70 (Or.inl ne1_)
  have F84 := ArrL.other A64 W77 ne3_
  have F86 := ArrL.other F73 W77 (Ne.symm ne5_)
  have N87 := Fr.snoc X77 N74 gp_
  have Z88 := zW Z75 W77
  exact g_ret X77 hx hlk hrt (D d23_114) (by decide) (by decide) (by rw [e77]; exact ⟨rfl, N87, K78, [nd, v1_, v2_, v3_, v4_, v5_], (pl.set iv (0 : Int32)), F84, A77, Or.inr ⟨of_decide_eq_false c8, rfl, rfl⟩⟩)
theorem pd_4 : parseMethodDescriptor "(I)V" = some ⟨[.int], none⟩ := by decide +kernel
def RM_rm13 : Room := ({ frames := 2, cells := 0, slots := 0, locals := 30 } : Room)
abbrev b13 := prog_77_method_4_code
theorem d13_0 : decode b13 0 = .ok (.aload_n 0, 1) := by decide +kernel
theorem d13_1 : decode b13 1 = .ok (.getfield 13, 3) := by decide +kernel
theorem d13_4 : decode b13 4 = .ok (.iload_n 1, 1) := by decide +kernel
theorem d13_5 : decode b13 5 = .ok (.iaload, 1) := by decide +kernel
theorem d13_6 : decode b13 6 = .ok (.iconst (-1), 1) := by decide +kernel
theorem d13_7 : decode b13 7 = .ok (.if_icmp .ne 45, 3) := by decide +kernel
theorem d13_10 : decode b13 10 = .ok (.aload_n 0, 1) := by decide +kernel
theorem d13_11 : decode b13 11 = .ok (.getfield 13, 3) := by decide +kernel
theorem d13_14 : decode b13 14 = .ok (.iload_n 1, 1) := by decide +kernel
theorem d13_15 : decode b13 15 = .ok (.aload_n 0, 1) := by decide +kernel
theorem d13_16 : decode b13 16 = .ok (.getfield 26, 3) := by decide +kernel
theorem d13_19 : decode b13 19 = .ok (.iastore, 1) := by decide +kernel
theorem d13_20 : decode b13 20 = .ok (.aload_n 0, 1) := by decide +kernel
theorem d13_21 : decode b13 21 = .ok (.getfield 7, 3) := by decide +kernel
theorem d13_24 : decode b13 24 = .ok (.aload_n 0, 1) := by decide +kernel
theorem d13_25 : decode b13 25 = .ok (.dup, 1) := by decide +kernel
theorem d13_26 : decode b13 26 = .ok (.getfield 26, 3) := by decide +kernel
theorem d13_29 : decode b13 29 = .ok (.dup_x1, 1) := by decide +kernel
theorem d13_30 : decode b13 30 = .ok (.iconst 1, 1) := by decide +kernel
theorem d13_31 : decode b13 31 = .ok (.iadd, 1) := by decide +kernel
theorem d13_32 : decode b13 32 = .ok (.putfield 26, 3) := by decide +kernel
theorem d13_35 : decode b13 35 = .ok (.iload_n 1, 1) := by decide +kernel
theorem d13_36 : decode b13 36 = .ok (.iastore, 1) := by decide +kernel
theorem d13_37 : decode b13 37 = .ok (.aload_n 0, 1) := by decide +kernel
theorem d13_38 : decode b13 38 = .ok (.getfield 16, 3) := by decide +kernel
theorem d13_41 : decode b13 41 = .ok (.iload_n 1, 1) := by decide +kernel
theorem d13_42 : decode b13 42 = .ok (.lload_n 2, 1) := by decide +kernel
theorem d13_43 : decode b13 43 = .ok (.lastore, 1) := by decide +kernel
theorem d13_44 : decode b13 44 = .ok (.aload_n 0, 1) := by decide +kernel
theorem d13_45 : decode b13 45 = .ok (.iload_n 1, 1) := by decide +kernel
theorem d13_46 : decode b13 46 = .ok (.invokevirtual 30, 3) := by decide +kernel
theorem d13_49 : decode b13 49 = .ok (.goto 41, 3) := by decide +kernel
theorem d13_52 : decode b13 52 = .ok (.lload_n 2, 1) := by decide +kernel
theorem d13_53 : decode b13 53 = .ok (.aload_n 0, 1) := by decide +kernel
theorem d13_54 : decode b13 54 = .ok (.getfield 16, 3) := by decide +kernel
theorem d13_57 : decode b13 57 = .ok (.iload_n 1, 1) := by decide +kernel
theorem d13_58 : decode b13 58 = .ok (.laload, 1) := by decide +kernel
theorem d13_59 : decode b13 59 = .ok (.lcmp, 1) := by decide +kernel
theorem d13_60 : decode b13 60 = .ok (.ifCond .ge 18, 3) := by decide +kernel
theorem d13_63 : decode b13 63 = .ok (.aload_n 0, 1) := by decide +kernel
theorem d13_64 : decode b13 64 = .ok (.getfield 16, 3) := by decide +kernel
theorem d13_67 : decode b13 67 = .ok (.iload_n 1, 1) := by decide +kernel
theorem d13_68 : decode b13 68 = .ok (.lload_n 2, 1) := by decide +kernel
theorem d13_69 : decode b13 69 = .ok (.lastore, 1) := by decide +kernel
theorem d13_70 : decode b13 70 = .ok (.aload_n 0, 1) := by decide +kernel
theorem d13_71 : decode b13 71 = .ok (.iload_n 1, 1) := by decide +kernel
theorem d13_72 : decode b13 72 = .ok (.invokevirtual 30, 3) := by decide +kernel
theorem d13_75 : decode b13 75 = .ok (.goto 15, 3) := by decide +kernel
theorem d13_90 : decode b13 90 = .ok (.return_, 1) := by decide +kernel
theorem ef_13 (m : MethodId) (z0 : Addr) (z1 : Int32) (z2 : Int64) : entryFrame m #[.ref z0, .int z1, .long z2] 4 = mkF m 0 #[vR z0, vI z1, vJ z2, s2] [] := by first | (simp [entryFrame, mkF, argsToLocals, Value.category]; done) | rfl
set_option maxRecDepth 65536 in
set_option maxHeartbeats 40000000 in
theorem rm13 (l : Launch) (Z : State) (a0 : Array Value) (hw : ∀ d ∈ tables_1, d.before a0 Z = true) (ws : List Jvm.Cond) (t : Addr) (nd : Int32) (kv : Int64) (h0 : Heap) (n0 : Nat) (Z0 : n0 ≤ h0.size) (ah ap ak : Addr) (hp pl : List Int32) (ky : List Int64) (cn : Int32) (A cs : List Nat) (dd : Int64) (u_ c_ : Nat) (F0_ : Fld Z h0 t kQ "heap" "[I" (.ref ah)) (F1_ : Fld Z h0 t kQ "place" "[I" (.ref ap)) (F2_ : Fld Z h0 t kQ "key" "[J" (.ref ak)) (F3_ : Fld Z h0 t kQ "count" "I" (.int cn)) (A0_ : IA Z h0 ah hp) (A1_ : IA Z h0 ap pl) (A2_ : LA Z h0 ak ky) (E_ : Exa Z h0 t kQ) (ne0_ : t ≠ ah) (ne1_ : t ≠ ap) (ne2_ : t ≠ ak) (ne3_ : ah ≠ ap) (ne4_ : ah ≠ ak) (ne5_ : ap ≠ ak) (gt_ : n0 ≤ t) (gh_ : n0 ≤ ah) (gp_ : n0 ≤ ap) (gk_ : n0 ≤ ak) (hkv : kv = fk dd c_) (hD : DD dd) (hv : nd.toInt = (u_ : Int)) (hu : u_ < 6) (I_ : QI dd hp pl ky cn A cs) (hC : CI cs) (hc : c_ ≤ 1) (hlt : c_ < cs.getD u_ 0) (hok : u_ ∈ A ∨ A.length ≤ 2) :
    Ctr l Z (⟨kQ, "put", "(IJ)V"⟩ : MethodName) prog_77_method_4_code 4 none RM_rm13 ws #[.ref t, .int nd, .long kv] h0 (fun v h L => v = none ∧ Fr n0 L ∧ Keep h0 h [t, ah, ap, ak] ∧ ∃ (hp' pl' : List Int32) (ky' : List Int64) (cn' : Int32), Fld Z h t kQ "heap" "[I" (.ref ah) ∧ Fld Z h t kQ "place" "[I" (.ref ap) ∧ Fld Z h t kQ "key" "[J" (.ref ak) ∧ Fld Z h t kQ "count" "I" (.int cn') ∧ IA Z h ah hp' ∧ IA Z h ap pl' ∧ LA Z h ak ky' ∧ QI dd hp' pl' ky' cn' (putA (cs.set u_ c_) A u_) (cs.set u_ c_)) := by
  refine Ctr.of (plainFor_of_name pn_4) ?_
  intro p e s m below meth c s₁ hx hby hml hrt hlk hnm hown hZ X0 e0
  have N0 := Fr.nil n0
  have D := @hb _ _ hby
  refine Go.cast (ef_13 m t nd kv) ?_
  have hpl := I_.2.1
  have hkl := I_.2.2.1
  have hc2 := (own_cs (u := u_) hC (Nat.le_succ_of_le hc)).2
  have hlt2 := (own_fk hD (Nat.le_succ_of_le hc) (hC.2 u_)).1.mpr hlt
  subst hkv
  obtain ⟨v0_, v1_, v2_, v3_, v4_, v5_, rfl, hcase⟩ := own_pc I_ hu hok
  rcases hcase with ⟨rfl, rfl, hpv⟩ | ⟨a_, rfl, rfl, hw0, ha6, nua_, hpv⟩ | ⟨a_, b_, rfl, rfl, hw0, ha6, nua_, nub_, hpv⟩ | ⟨a_, rfl, rfl, hw0, ha6, hue, hpv, hku⟩ | ⟨a_, b_, rfl, rfl, hw0, ha6, hue, hpv, hku⟩ | ⟨a_, b_, rfl, rfl, hw0, ha6, hue, hpv, hku⟩ | ⟨a_, b_, d_, rfl, rfl, hw0, ha6, hue, hpv, hku⟩ | ⟨a_, b_, d_, rfl, rfl, hw0, ha6, hue, hpv, hku⟩ | ⟨a_, b_, d_, rfl, rfl, hw0, ha6, hue, hpv, hku⟩
  ·skip
   refine g_aloadN X0 hx (D d13_0) rfl rfl rfl (g_getF X0 hx hZ hown (hW hw 62 rfl) e0 F1_ (D d13_1) rfl fun T1 X1 e1 => (g_iloadN X1 hx (D d13_4) rfl rfl (g_iload_ (i := u_) (v := (-1 : Int32)) X1 hx hZ e1 A1_ hv hpv (D d13_5) rfl (g_iconst (v := (-1 : Int32)) X1 hx (D d13_6) rfl rfl (g_icmp_ne (q := 52) (q0 := 10) X1 hx (D d13_7) (by decide) (by decide) rfl (fun h => absurd h (by decide)) fun c2 => (g_aloadN X1 hx (D d13_10) rfl rfl rfl (g_getF X1 hx hZ hown (hW hw 62 rfl) e1 F1_ (D d13_11) rfl fun T3 X3 e3 => (g_iloadN X3 hx (D d13_14) rfl rfl (g_aloadN X3 hx (D d13_15) rfl rfl rfl (g_getF X3 hx hZ hown (hW hw 93 rfl) e3 F3_ (D d13_16) rfl fun T4 X4 e4 => (g_istore_ (i := u_) (v := (0 : Int32)) X4 hx hZ e4 A1_ hv (by rw [hpl]; exact hu) (D d13_19) rfl fun T5 h5 X5 e5 W5 A5 => ?_)))))))))))
   have K6 := Keep.wr (Keep.refl h0 [t, ah, ap, ak]) W5 (Or.inl (by simp))
   have F7 := Exa.wr W5 E_
   have F8 := Fld.other W5 F0_ (Or.inl ne1_)
   have F9 := Fld.other W5 F1_ (Or.inl ne1_)
   have F10 := Fld.other W5 F2_ (Or.inl ne1_)
   have F11 := Fld.other W5 F3_ (Or.inl ne1_)
   have F12 := ArrL.other A0_ W5 ne3_
   have F14 := ArrL.other A2_ W5 (Ne.symm ne5_)
   have N15 := Fr.snoc X5 N0 gp_
   have Z16 := zW Z0 W5
   refine g_aloadN X5 hx (D d13_20) rfl rfl rfl (g_getF X5 hx hZ hown (hW hw 60 rfl) e5 F8 (D d13_21) rfl fun T17 X17 e17 => (g_aloadN X17 hx (D d13_24) rfl rfl rfl (g_dup X17 hx (D d13_25) rfl rfl (g_getF X17 hx hZ hown (hW hw 93 rfl) e17 F11 (D d13_26) rfl fun T18 X18 e18 => (g_dupX1 X18 hx (D d13_29) rfl rfl rfl (g_iconst (v := (1 : Int32)) X18 hx (D d13_30) rfl rfl (g_iadd X18 hx (D d13_31) rfl ?_)))))))
   rw [show ((0 : Int32) + (1 : Int32)) = (1 : Int32) from by decide]
   refine g_putF (ty := .int) X18 hx hZ hown (hW hw 93 rfl) e18 F11 F7 (Or.inl (hW hw 94 rfl)) (hW hw 54 rfl) (by decide) rfl rfl (D d13_32) rfl fun T19 h19 X19 e19 W19 F19 => ?_
   have K20 := Keep.wr K6 W19 (Or.inl (by simp))
   have F21 := Exa.wr W19 F7
   have F22 := Fld.other W19 F8 (Or.inr (slot_ne (a0 := a0) (Or.inr (hW hw 61 rfl)) (Or.inl (hW hw 94 rfl)) (by decide) (t := (.array .int)) (t' := .int) (by decide) (by decide)))
   have F23 := Fld.other W19 F9 (Or.inr (slot_ne (a0 := a0) (Or.inr (hW hw 63 rfl)) (Or.inl (hW hw 94 rfl)) (by decide) (t := (.array .int)) (t' := .int) (by decide) (by decide)))
   have F24 := Fld.other W19 F10 (Or.inr (slot_ne (a0 := a0) (Or.inr (hW hw 65 rfl)) (Or.inl (hW hw 94 rfl)) (by decide) (t := (.array .long)) (t' := .int) (by decide) (by decide)))
   have F26 := ArrL.other F12 W19 (Ne.symm ne0_)
   have F27 := ArrL.other A5 W19 (Ne.symm ne1_)
   have F28 := ArrL.other F14 W19 (Ne.symm ne2_)
   have N29 := Fr.snoc X19 N15 gt_
   have Z30 := zW Z16 W19
   refine g_iloadN X19 hx (D d13_35) rfl rfl (g_istore_ (i := 0) (v := nd) X19 hx hZ e19 F26 rfl (by show 0 < 6; decide) (D d13_36) rfl fun T31 h31 X31 e31 W31 A31 => ?_)
   replace A31 : IA Z h31 ah ([nd, v1_, v2_, v3_, v4_, v5_] : List Int32) := A31
   have K32 := Keep.wr K20 W31 (Or.inl (by simp))
   have F33 := Exa.wr W31 F21
   have F34 := Fld.other W31 F22 (Or.inl ne0_)
   have F35 := Fld.other W31 F23 (Or.inl ne0_)
   have F36 := Fld.other W31 F24 (Or.inl ne0_)
   have F37 := Fld.other W31 F19 (Or.inl ne0_)
   have F39 := ArrL.other F27 W31 (Ne.symm ne3_)
   have F40 := ArrL.other F28 W31 (Ne.symm ne4_)
   have N41 := Fr.snoc X31 N29 gh_
   have Z42 := zW Z30 W31
   refine g_aloadN X31 hx (D d13_37) rfl rfl rfl (g_getF X31 hx hZ hown (hW hw 64 rfl) e31 F36 (D d13_38) rfl fun T43 X43 e43 => (g_iloadN X43 hx (D d13_41) rfl rfl (g_lloadN X43 hx (D d13_42) rfl rfl (g_lstore_ (i := u_) (v := (fk dd c_)) X43 hx hZ e43 F40 hv (by rw [hkl]; exact hu) (D d13_43) rfl fun T44 h44 X44 e44 W44 A44 => ?_))))
   have K45 := Keep.wr K32 W44 (Or.inl (by simp))
   have F46 := Exa.wr W44 F33
   have F47 := Fld.other W44 F34 (Or.inl ne2_)
   have F48 := Fld.other W44 F35 (Or.inl ne2_)
   have F49 := Fld.other W44 F36 (Or.inl ne2_)
   have F50 := Fld.other W44 F37 (Or.inl ne2_)
   have F51 := ArrL.other A31 W44 ne4_
   have F52 := ArrL.other F39 W44 ne5_
   have N54 := Fr.snoc X44 N41 gk_
   have Z55 := zW Z42 W44
   refine g_aloadN X44 hx (D d13_44) rfl rfl rfl (g_iloadN X44 hx (D d13_45) rfl rfl (g_private X44 hx hZ hown (hW hw 95 rfl) (hW hw 96 rfl) (hW hw 97 rfl) (hW hw 54 rfl) (hW hw 55 rfl) (hW hw 98 rfl) (by decide) (rm14_0 l Z a0 hw [] t nd h44 n0 Z55 ah ap ak nd v1_ v2_ v3_ v4_ v5_ (pl.set u_ (0 : Int32)) (ky.set u_ (fk dd c_)) u_ 0 F47 F48 F49 F51 F52 A44 F46 ne0_ ne1_ ne2_ ne3_ ne4_ ne5_ gh_ gp_ hv hu (by (try simp only [List.length_set]); exact hkl) (by (try simp only [List.length_set]); exact hpl) (own_sg (by rw [hpl]; exact hu)) ) F46 (argsL := [.int nd]) (rest := []) pd_4 rfl rfl rfl (D d13_46) rfl (by rw [hml]; rfl) e44 (by decide) (W := 0) rfl (by decide) (by decide) (by decide) fun v56 T56 Lc56 X56 Q56 => ?_))
   obtain ⟨rfl, Nq56, Kq56, hp', pl', A57, A58, hU⟩ := Q56
   have N59 := Fr.app N54 Nq56
   have K60 := Keep.trans K45 Kq56 (allS (Or.inl (by simp)) (allS (Or.inl (by simp)) all0))
   have F61 := Exa.keep F46 Kq56
   have F62 := Fld.keep F47 Kq56 (ninS ne0_ (ninS ne1_ nin0))
   have F63 := Fld.keep F48 Kq56 (ninS ne0_ (ninS ne1_ nin0))
   have F64 := Fld.keep F49 Kq56 (ninS ne0_ (ninS ne1_ nin0))
   have F65 := Fld.keep F50 Kq56 (ninS ne0_ (ninS ne1_ nin0))
   have q69 : ak ∉ [ah, ap] := (ninS (Ne.symm ne4_) (ninS (Ne.symm ne5_) nin0))
   have F68 := ArrL.keep A44 Kq56 q69
   have Z70 := zK Z55 Kq56
   refine g_goto (q := 90) X56 hx (D d13_49) (by decide) (by decide) ?_
   exact g_ret X56 hx hlk hrt (D d13_90) (by decide) (by decide) (by skip; exact ⟨rfl, N59, K60, hp', pl', (ky.set u_ (fk dd c_)), (1 : Int32), F62, F63, F64, F65, A57, A58, F68, own_pa0 I_ hv hu hC.1 hU⟩)
  ·skip
   refine g_aloadN X0 hx (D d13_0) rfl rfl rfl (g_getF X0 hx hZ hown (hW hw 62 rfl) e0 F1_ (D d13_1) rfl fun T71 X71 e71 => (g_iloadN X71 hx (D d13_4) rfl rfl (g_iload_ (i := u_) (v := (-1 : Int32)) X71 hx hZ e71 A1_ hv hpv (D d13_5) rfl (g_iconst (v := (-1 : Int32)) X71 hx (D d13_6) rfl rfl (g_icmp_ne (q := 52) (q0 := 10) X71 hx (D d13_7) (by decide) (by decide) rfl (fun h => absurd h (by decide)) fun c72 => (g_aloadN X71 hx (D d13_10) rfl rfl rfl (g_getF X71 hx hZ hown (hW hw 62 rfl) e71 F1_ (D d13_11) rfl fun T73 X73 e73 => (g_iloadN X73 hx (D d13_14) rfl rfl (g_aloadN X73 hx (D d13_15) rfl rfl rfl (g_getF X73 hx hZ hown (hW hw 93 rfl) e73 F3_ (D d13_16) rfl fun T74 X74 e74 => (g_istore_ (i := u_) (v := (1 : Int32)) X74 hx hZ e74 A1_ hv (by rw [hpl]; exact hu) (D d13_19) rfl fun T75 h75 X75 e75 W75 A75 => ?_)))))))))))
   have K76 := Keep.wr (Keep.refl h0 [t, ah, ap, ak]) W75 (Or.inl (by simp))
   have F77 := Exa.wr W75 E_
   have F78 := Fld.other W75 F0_ (Or.inl ne1_)
   have F79 := Fld.other W75 F1_ (Or.inl ne1_)
   have F80 := Fld.other W75 F2_ (Or.inl ne1_)
   have F81 := Fld.other W75 F3_ (Or.inl ne1_)
   have F82 := ArrL.other A0_ W75 ne3_
   have F84 := ArrL.other A2_ W75 (Ne.symm ne5_)
   have N85 := Fr.snoc X75 N0 gp_
   have Z86 := zW Z0 W75
   refine g_aloadN X75 hx (D d13_20) rfl rfl rfl (g_getF X75 hx hZ hown (hW hw 60 rfl) e75 F78 (D d13_21) rfl fun T87 X87 e87 => (g_aloadN X87 hx (D d13_24) rfl rfl rfl (g_dup X87 hx (D d13_25) rfl rfl (g_getF X87 hx hZ hown (hW hw 93 rfl) e87 F81 (D d13_26) rfl fun T88 X88 e88 => (g_dupX1 X88 hx (D d13_29) rfl rfl rfl (g_iconst (v := (1 : Int32)) X88 hx (D d13_30) rfl rfl (g_iadd X88 hx (D d13_31) rfl ?_)))))))
   rw [show ((1 : Int32) + (1 : Int32)) = (2 : Int32) from by decide]
   refine g_putF (ty := .int) X88 hx hZ hown (hW hw 93 rfl) e88 F81 F77 (Or.inl (hW hw 94 rfl)) (hW hw 54 rfl) (by decide) rfl rfl (D d13_32) rfl fun T89 h89 X89 e89 W89 F89 => ?_
   have K90 := Keep.wr K76 W89 (Or.inl (by simp))
   have F91 := Exa.wr W89 F77
   have F92 := Fld.other W89 F78 (Or.inr (slot_ne (a0 := a0) (Or.inr (hW hw 61 rfl)) (Or.inl (hW hw 94 rfl)) (by decide) (t := (.array .int)) (t' := .int) (by decide) (by decide)))
   have F93 := Fld.other W89 F79 (Or.inr (slot_ne (a0 := a0) (Or.inr (hW hw 63 rfl)) (Or.inl (hW hw 94 rfl)) (by decide) (t := (.array .int)) (t' := .int) (by decide) (by decide)))
   have F94 := Fld.other W89 F80 (Or.inr (slot_ne (a0 := a0) (Or.inr (hW hw 65 rfl)) (Or.inl (hW hw 94 rfl)) (by decide) (t := (.array .long)) (t' := .int) (by decide) (by decide)))
   have F96 := ArrL.other F82 W89 (Ne.symm ne0_)
   have F97 := ArrL.other A75 W89 (Ne.symm ne1_)
   have F98 := ArrL.other F84 W89 (Ne.symm ne2_)
   have N99 := Fr.snoc X89 N85 gt_
   have Z100 := zW Z86 W89
   refine g_iloadN X89 hx (D d13_35) rfl rfl (g_istore_ (i := 1) (v := nd) X89 hx hZ e89 F96 rfl (by show 1 < 6; decide) (D d13_36) rfl fun T101 h101 X101 e101 W101 A101 => ?_)
   replace A101 : IA Z h101 ah ([v0_, nd, v2_, v3_, v4_, v5_] : List Int32) := A101
   have K102 := Keep.wr K90 W101 (Or.inl (by simp))
   have F103 := Exa.wr W101 F91
   have F104 := Fld.other W101 F92 (Or.inl ne0_)
   have F105 := Fld.other W101 F93 (Or.inl ne0_)
   have F106 := Fld.other W101 F94 (Or.inl ne0_)
   have F107 := Fld.other W101 F89 (Or.inl ne0_)
   have F109 := ArrL.other F97 W101 (Ne.symm ne3_)
   have F110 := ArrL.other F98 W101 (Ne.symm ne4_)
   have N111 := Fr.snoc X101 N99 gh_
   have Z112 := zW Z100 W101
   refine g_aloadN X101 hx (D d13_37) rfl rfl rfl (g_getF X101 hx hZ hown (hW hw 64 rfl) e101 F106 (D d13_38) rfl fun T113 X113 e113 => (g_iloadN X113 hx (D d13_41) rfl rfl (g_lloadN X113 hx (D d13_42) rfl rfl (g_lstore_ (i := u_) (v := (fk dd c_)) X113 hx hZ e113 F110 hv (by rw [hkl]; exact hu) (D d13_43) rfl fun T114 h114 X114 e114 W114 A114 => ?_))))
   have K115 := Keep.wr K102 W114 (Or.inl (by simp))
   have F116 := Exa.wr W114 F103
   have F117 := Fld.other W114 F104 (Or.inl ne2_)
   have F118 := Fld.other W114 F105 (Or.inl ne2_)
   have F119 := Fld.other W114 F106 (Or.inl ne2_)
   have F120 := Fld.other W114 F107 (Or.inl ne2_)
   have F121 := ArrL.other A101 W114 ne4_
   have F122 := ArrL.other F109 W114 ne5_
   have N124 := Fr.snoc X114 N111 gk_
   have Z125 := zW Z112 W114
   refine g_aloadN X114 hx (D d13_44) rfl rfl rfl (g_iloadN X114 hx (D d13_45) rfl rfl (g_private X114 hx hZ hown (hW hw 95 rfl) (hW hw 96 rfl) (hW hw 97 rfl) (hW hw 54 rfl) (hW hw 55 rfl) (hW hw 98 rfl) (by decide) (rm14_1 l Z a0 hw [] t nd h114 n0 Z125 ah ap ak v0_ nd v2_ v3_ v4_ v5_ (pl.set u_ (1 : Int32)) (ky.set u_ (fk dd c_)) u_ a_ F117 F118 F119 F121 F122 A114 F116 ne0_ ne1_ ne2_ ne3_ ne4_ ne5_ gh_ gp_ hv hu (by (try simp only [List.length_set]); exact hkl) (by (try simp only [List.length_set]); exact hpl) (own_sg (by rw [hpl]; exact hu)) hw0 ha6) F116 (argsL := [.int nd]) (rest := []) pd_4 rfl rfl rfl (D d13_46) rfl (by rw [hml]; rfl) e114 (by decide) (W := 0) rfl (by decide) (by decide) (by decide) fun v126 T126 Lc126 X126 Q126 => ?_))
   obtain ⟨rfl, Nq126, Kq126, hp', pl', A127, A128, hU⟩ := Q126
   have N129 := Fr.app N124 Nq126
   have K130 := Keep.trans K115 Kq126 (allS (Or.inl (by simp)) (allS (Or.inl (by simp)) all0))
   have F131 := Exa.keep F116 Kq126
   have F132 := Fld.keep F117 Kq126 (ninS ne0_ (ninS ne1_ nin0))
   have F133 := Fld.keep F118 Kq126 (ninS ne0_ (ninS ne1_ nin0))
   have F134 := Fld.keep F119 Kq126 (ninS ne0_ (ninS ne1_ nin0))
   have F135 := Fld.keep F120 Kq126 (ninS ne0_ (ninS ne1_ nin0))
   have q139 : ak ∉ [ah, ap] := (ninS (Ne.symm ne4_) (ninS (Ne.symm ne5_) nin0))
   have F138 := ArrL.keep A114 Kq126 q139
   have Z140 := zK Z125 Kq126
   refine g_goto (q := 90) X126 hx (D d13_49) (by decide) (by decide) ?_
   exact g_ret X126 hx hlk hrt (D d13_90) (by decide) (by decide) (by skip; exact ⟨rfl, N129, K130, hp', pl', (ky.set u_ (fk dd c_)), (2 : Int32), F132, F133, F134, F135, A127, A128, F138, own_pa1 hD I_ hv hu hC.1 hc2 nua_ hw0 hU⟩)
  ·skip
   refine g_aloadN X0 hx (D d13_0) rfl rfl rfl (g_getF X0 hx hZ hown (hW hw 62 rfl) e0 F1_ (D d13_1) rfl fun T141 X141 e141 => (g_iloadN X141 hx (D d13_4) rfl rfl (g_iload_ (i := u_) (v := (-1 : Int32)) X141 hx hZ e141 A1_ hv hpv (D d13_5) rfl (g_iconst (v := (-1 : Int32)) X141 hx (D d13_6) rfl rfl (g_icmp_ne (q := 52) (q0 := 10) X141 hx (D d13_7) (by decide) (by decide) rfl (fun h => absurd h (by decide)) fun c142 => (g_aloadN X141 hx (D d13_10) rfl rfl rfl (g_getF X141 hx hZ hown (hW hw 62 rfl) e141 F1_ (D d13_11) rfl fun T143 X143 e143 => (g_iloadN X143 hx (D d13_14) rfl rfl (g_aloadN X143 hx (D d13_15) rfl rfl rfl (g_getF X143 hx hZ hown (hW hw 93 rfl) e143 F3_ (D d13_16) rfl fun T144 X144 e144 => (g_istore_ (i := u_) (v := (2 : Int32)) X144 hx hZ e144 A1_ hv (by rw [hpl]; exact hu) (D d13_19) rfl fun T145 h145 X145 e145 W145 A145 => ?_)))))))))))
   have K146 := Keep.wr (Keep.refl h0 [t, ah, ap, ak]) W145 (Or.inl (by simp))
   have F147 := Exa.wr W145 E_
   have F148 := Fld.other W145 F0_ (Or.inl ne1_)
   have F149 := Fld.other W145 F1_ (Or.inl ne1_)
   have F150 := Fld.other W145 F2_ (Or.inl ne1_)
   have F151 := Fld.other W145 F3_ (Or.inl ne1_)
   have F152 := ArrL.other A0_ W145 ne3_
   have F154 := ArrL.other A2_ W145 (Ne.symm ne5_)
   have N155 := Fr.snoc X145 N0 gp_
   have Z156 := zW Z0 W145
   refine g_aloadN X145 hx (D d13_20) rfl rfl rfl (g_getF X145 hx hZ hown (hW hw 60 rfl) e145 F148 (D d13_21) rfl fun T157 X157 e157 => (g_aloadN X157 hx (D d13_24) rfl rfl rfl (g_dup X157 hx (D d13_25) rfl rfl (g_getF X157 hx hZ hown (hW hw 93 rfl) e157 F151 (D d13_26) rfl fun T158 X158 e158 => (g_dupX1 X158 hx (D d13_29) rfl rfl rfl (g_iconst (v := (1 : Int32)) X158 hx (D d13_30) rfl rfl (g_iadd X158 hx (D d13_31) rfl ?_)))))))
   rw [show ((2 : Int32) + (1 : Int32)) = (3 : Int32) from by decide]
   refine g_putF (ty := .int) X158 hx hZ hown (hW hw 93 rfl) e158 F151 F147 (Or.inl (hW hw 94 rfl)) (hW hw 54 rfl) (by decide) rfl rfl (D d13_32) rfl fun T159 h159 X159 e159 W159 F159 => ?_
   have K160 := Keep.wr K146 W159 (Or.inl (by simp))
   have F161 := Exa.wr W159 F147
   have F162 := Fld.other W159 F148 (Or.inr (slot_ne (a0 := a0) (Or.inr (hW hw 61 rfl)) (Or.inl (hW hw 94 rfl)) (by decide) (t := (.array .int)) (t' := .int) (by decide) (by decide)))
   have F163 := Fld.other W159 F149 (Or.inr (slot_ne (a0 := a0) (Or.inr (hW hw 63 rfl)) (Or.inl (hW hw 94 rfl)) (by decide) (t := (.array .int)) (t' := .int) (by decide) (by decide)))
   have F164 := Fld.other W159 F150 (Or.inr (slot_ne (a0 := a0) (Or.inr (hW hw 65 rfl)) (Or.inl (hW hw 94 rfl)) (by decide) (t := (.array .long)) (t' := .int) (by decide) (by decide)))
   have F166 := ArrL.other F152 W159 (Ne.symm ne0_)
   have F167 := ArrL.other A145 W159 (Ne.symm ne1_)
   have F168 := ArrL.other F154 W159 (Ne.symm ne2_)
   have N169 := Fr.snoc X159 N155 gt_
   have Z170 := zW Z156 W159
   refine g_iloadN X159 hx (D d13_35) rfl rfl (g_istore_ (i := 2) (v := nd) X159 hx hZ e159 F166 rfl (by show 2 < 6; decide) (D d13_36) rfl fun T171 h171 X171 e171 W171 A171 => ?_)
   replace A171 : IA Z h171 ah ([v0_, v1_, nd, v3_, v4_, v5_] : List Int32) := A171
   have K172 := Keep.wr K160 W171 (Or.inl (by simp))
   have F173 := Exa.wr W171 F161
   have F174 := Fld.other W171 F162 (Or.inl ne0_)
   have F175 := Fld.other W171 F163 (Or.inl ne0_)
   have F176 := Fld.other W171 F164 (Or.inl ne0_)
   have F177 := Fld.other W171 F159 (Or.inl ne0_)
   have F179 := ArrL.other F167 W171 (Ne.symm ne3_)
   have F180 := ArrL.other F168 W171 (Ne.symm ne4_)
   have N181 := Fr.snoc X171 N169 gh_
   have Z182 := zW Z170 W171
   refine g_aloadN X171 hx (D d13_37) rfl rfl rfl (g_getF X171 hx hZ hown (hW hw 64 rfl) e171 F176 (D d13_38) rfl fun T183 X183 e183 => (g_iloadN X183 hx (D d13_41) rfl rfl (g_lloadN X183 hx (D d13_42) rfl rfl (g_lstore_ (i := u_) (v := (fk dd c_)) X183 hx hZ e183 F180 hv (by rw [hkl]; exact hu) (D d13_43) rfl fun T184 h184 X184 e184 W184 A184 => ?_))))
   have K185 := Keep.wr K172 W184 (Or.inl (by simp))
   have F186 := Exa.wr W184 F173
   have F187 := Fld.other W184 F174 (Or.inl ne2_)
   have F188 := Fld.other W184 F175 (Or.inl ne2_)
   have F189 := Fld.other W184 F176 (Or.inl ne2_)
   have F190 := Fld.other W184 F177 (Or.inl ne2_)
   have F191 := ArrL.other A171 W184 ne4_
   have F192 := ArrL.other F179 W184 ne5_
   have N194 := Fr.snoc X184 N181 gk_
   have Z195 := zW Z182 W184
   refine g_aloadN X184 hx (D d13_44) rfl rfl rfl (g_iloadN X184 hx (D d13_45) rfl rfl (g_private X184 hx hZ hown (hW hw 95 rfl) (hW hw 96 rfl) (hW hw 97 rfl) (hW hw 54 rfl) (hW hw 55 rfl) (hW hw 98 rfl) (by decide) (rm14_2 l Z a0 hw [] t nd h184 n0 Z195 ah ap ak v0_ v1_ nd v3_ v4_ v5_ (pl.set u_ (2 : Int32)) (ky.set u_ (fk dd c_)) u_ a_ F187 F188 F189 F191 F192 A184 F186 ne0_ ne1_ ne2_ ne3_ ne4_ ne5_ gh_ gp_ hv hu (by (try simp only [List.length_set]); exact hkl) (by (try simp only [List.length_set]); exact hpl) (own_sg (by rw [hpl]; exact hu)) hw0 ha6) F186 (argsL := [.int nd]) (rest := []) pd_4 rfl rfl rfl (D d13_46) rfl (by rw [hml]; rfl) e184 (by decide) (W := 0) rfl (by decide) (by decide) (by decide) fun v196 T196 Lc196 X196 Q196 => ?_))
   obtain ⟨rfl, Nq196, Kq196, hp', pl', A197, A198, hU⟩ := Q196
   have N199 := Fr.app N194 Nq196
   have K200 := Keep.trans K185 Kq196 (allS (Or.inl (by simp)) (allS (Or.inl (by simp)) all0))
   have F201 := Exa.keep F186 Kq196
   have F202 := Fld.keep F187 Kq196 (ninS ne0_ (ninS ne1_ nin0))
   have F203 := Fld.keep F188 Kq196 (ninS ne0_ (ninS ne1_ nin0))
   have F204 := Fld.keep F189 Kq196 (ninS ne0_ (ninS ne1_ nin0))
   have F205 := Fld.keep F190 Kq196 (ninS ne0_ (ninS ne1_ nin0))
   have q209 : ak ∉ [ah, ap] := (ninS (Ne.symm ne4_) (ninS (Ne.symm ne5_) nin0))
   have F208 := ArrL.keep A184 Kq196 q209
   have Z210 := zK Z195 Kq196
   refine g_goto (q := 90) X196 hx (D d13_49) (by decide) (by decide) ?_
   exact g_ret X196 hx hlk hrt (D d13_90) (by decide) (by decide) (by skip; exact ⟨rfl, N199, K200, hp', pl', (ky.set u_ (fk dd c_)), (3 : Int32), F202, F203, F204, F205, A197, A198, F208, own_pa2 hD I_ hv hu hC.1 hc2 nua_ nub_ hw0 hU⟩)
  ·skip
   refine g_aloadN X0 hx (D d13_0) rfl rfl rfl (g_getF X0 hx hZ hown (hW hw 62 rfl) e0 F1_ (D d13_1) rfl fun T211 X211 e211 => (g_iloadN X211 hx (D d13_4) rfl rfl (g_iload_ (i := u_) (v := (0 : Int32)) X211 hx hZ e211 A1_ hv hpv (D d13_5) rfl (g_iconst (v := (-1 : Int32)) X211 hx (D d13_6) rfl rfl ?_))))
   refine g_icmp_ne (q := 52) (q0 := 10) X211 hx (D d13_7) (by decide) (by decide) rfl ?_ (fun h => absurd h (by decide))
   intro c212
   refine g_lloadN X211 hx (D d13_52) rfl rfl (g_aloadN X211 hx (D d13_53) rfl rfl rfl (g_getF X211 hx hZ hown (hW hw 64 rfl) e211 F2_ (D d13_54) rfl fun T213 X213 e213 => (g_iloadN X213 hx (D d13_57) rfl rfl (g_lload_ (i := u_) (v := (fk dd (cs.getD u_ 0))) X213 hx hZ e213 A2_ hv hku (D d13_58) rfl (g_lcmp_ge (q := 78) (q1 := 60) (q0 := 63) X213 hx (D d13_59) rfl (D d13_60) (by decide) (by decide) rfl (fun c214 => by exact absurd hlt2 (Int.not_lt.mpr c214)) fun c214 => (g_aloadN X213 hx (D d13_63) rfl rfl rfl (g_getF X213 hx hZ hown (hW hw 64 rfl) e213 F2_ (D d13_64) rfl fun T215 X215 e215 => (g_iloadN X215 hx (D d13_67) rfl rfl (g_lloadN X215 hx (D d13_68) rfl rfl (g_lstore_ (i := u_) (v := (fk dd c_)) X215 hx hZ e215 A2_ hv (by rw [hkl]; exact hu) (D d13_69) rfl fun T216 h216 X216 e216 W216 A216 => ?_))))))))))
   have K217 := Keep.wr (Keep.refl h0 [t, ah, ap, ak]) W216 (Or.inl (by simp))
   have F218 := Exa.wr W216 E_
   have F219 := Fld.other W216 F0_ (Or.inl ne2_)
   have F220 := Fld.other W216 F1_ (Or.inl ne2_)
   have F221 := Fld.other W216 F2_ (Or.inl ne2_)
   have F222 := Fld.other W216 F3_ (Or.inl ne2_)
   have F223 := ArrL.other A0_ W216 ne4_
   have F224 := ArrL.other A1_ W216 ne5_
   have N226 := Fr.snoc X216 N0 gk_
   have Z227 := zW Z0 W216
   refine g_aloadN X216 hx (D d13_70) rfl rfl rfl (g_iloadN X216 hx (D d13_71) rfl rfl (g_private X216 hx hZ hown (hW hw 95 rfl) (hW hw 96 rfl) (hW hw 97 rfl) (hW hw 54 rfl) (hW hw 55 rfl) (hW hw 98 rfl) (by decide) (rm14_0 l Z a0 hw [] t nd h216 n0 Z227 ah ap ak v0_ v1_ v2_ v3_ v4_ v5_ pl (ky.set u_ (fk dd c_)) u_ 0 F219 F220 F221 F223 F224 A216 F218 ne0_ ne1_ ne2_ ne3_ ne4_ ne5_ gh_ gp_ hv hu (by (try simp only [List.length_set]); exact hkl) (by (try simp only [List.length_set]); exact hpl) hpv ) F218 (argsL := [.int nd]) (rest := []) pd_4 rfl rfl rfl (D d13_72) rfl (by rw [hml]; rfl) e216 (by decide) (W := 0) rfl (by decide) (by decide) (by decide) fun v228 T228 Lc228 X228 Q228 => ?_))
   obtain ⟨rfl, Nq228, Kq228, hp', pl', A229, A230, hU⟩ := Q228
   have N231 := Fr.app N226 Nq228
   have K232 := Keep.trans K217 Kq228 (allS (Or.inl (by simp)) (allS (Or.inl (by simp)) all0))
   have F233 := Exa.keep F218 Kq228
   have F234 := Fld.keep F219 Kq228 (ninS ne0_ (ninS ne1_ nin0))
   have F235 := Fld.keep F220 Kq228 (ninS ne0_ (ninS ne1_ nin0))
   have F236 := Fld.keep F221 Kq228 (ninS ne0_ (ninS ne1_ nin0))
   have F237 := Fld.keep F222 Kq228 (ninS ne0_ (ninS ne1_ nin0))
   have q241 : ak ∉ [ah, ap] := (ninS (Ne.symm ne4_) (ninS (Ne.symm ne5_) nin0))
   have F240 := ArrL.keep A216 Kq228 q241
   have Z242 := zK Z227 Kq228
   refine g_goto (q := 90) X228 hx (D d13_75) (by decide) (by decide) ?_
   exact g_ret X228 hx hlk hrt (D d13_90) (by decide) (by decide) (by skip; exact ⟨rfl, N231, K232, hp', pl', (ky.set u_ (fk dd c_)), (1 : Int32), F234, F235, F236, F237, A229, A230, F240, own_pp10 hD I_ hv hu hC.1 hc2 hue hw0 hU⟩)
  ·skip
   refine g_aloadN X0 hx (D d13_0) rfl rfl rfl (g_getF X0 hx hZ hown (hW hw 62 rfl) e0 F1_ (D d13_1) rfl fun T243 X243 e243 => (g_iloadN X243 hx (D d13_4) rfl rfl (g_iload_ (i := u_) (v := (0 : Int32)) X243 hx hZ e243 A1_ hv hpv (D d13_5) rfl (g_iconst (v := (-1 : Int32)) X243 hx (D d13_6) rfl rfl ?_))))
   refine g_icmp_ne (q := 52) (q0 := 10) X243 hx (D d13_7) (by decide) (by decide) rfl ?_ (fun h => absurd h (by decide))
   intro c244
   refine g_lloadN X243 hx (D d13_52) rfl rfl (g_aloadN X243 hx (D d13_53) rfl rfl rfl (g_getF X243 hx hZ hown (hW hw 64 rfl) e243 F2_ (D d13_54) rfl fun T245 X245 e245 => (g_iloadN X245 hx (D d13_57) rfl rfl (g_lload_ (i := u_) (v := (fk dd (cs.getD u_ 0))) X245 hx hZ e245 A2_ hv hku (D d13_58) rfl (g_lcmp_ge (q := 78) (q1 := 60) (q0 := 63) X245 hx (D d13_59) rfl (D d13_60) (by decide) (by decide) rfl (fun c246 => by exact absurd hlt2 (Int.not_lt.mpr c246)) fun c246 => (g_aloadN X245 hx (D d13_63) rfl rfl rfl (g_getF X245 hx hZ hown (hW hw 64 rfl) e245 F2_ (D d13_64) rfl fun T247 X247 e247 => (g_iloadN X247 hx (D d13_67) rfl rfl (g_lloadN X247 hx (D d13_68) rfl rfl (g_lstore_ (i := u_) (v := (fk dd c_)) X247 hx hZ e247 A2_ hv (by rw [hkl]; exact hu) (D d13_69) rfl fun T248 h248 X248 e248 W248 A248 => ?_))))))))))
   have K249 := Keep.wr (Keep.refl h0 [t, ah, ap, ak]) W248 (Or.inl (by simp))
   have F250 := Exa.wr W248 E_
   have F251 := Fld.other W248 F0_ (Or.inl ne2_)
   have F252 := Fld.other W248 F1_ (Or.inl ne2_)
   have F253 := Fld.other W248 F2_ (Or.inl ne2_)
   have F254 := Fld.other W248 F3_ (Or.inl ne2_)
   have F255 := ArrL.other A0_ W248 ne4_
   have F256 := ArrL.other A1_ W248 ne5_
   have N258 := Fr.snoc X248 N0 gk_
   have Z259 := zW Z0 W248
   refine g_aloadN X248 hx (D d13_70) rfl rfl rfl (g_iloadN X248 hx (D d13_71) rfl rfl (g_private X248 hx hZ hown (hW hw 95 rfl) (hW hw 96 rfl) (hW hw 97 rfl) (hW hw 54 rfl) (hW hw 55 rfl) (hW hw 98 rfl) (by decide) (rm14_0 l Z a0 hw [] t nd h248 n0 Z259 ah ap ak v0_ v1_ v2_ v3_ v4_ v5_ pl (ky.set u_ (fk dd c_)) u_ 0 F251 F252 F253 F255 F256 A248 F250 ne0_ ne1_ ne2_ ne3_ ne4_ ne5_ gh_ gp_ hv hu (by (try simp only [List.length_set]); exact hkl) (by (try simp only [List.length_set]); exact hpl) hpv ) F250 (argsL := [.int nd]) (rest := []) pd_4 rfl rfl rfl (D d13_72) rfl (by rw [hml]; rfl) e248 (by decide) (W := 0) rfl (by decide) (by decide) (by decide) fun v260 T260 Lc260 X260 Q260 => ?_))
   obtain ⟨rfl, Nq260, Kq260, hp', pl', A261, A262, hU⟩ := Q260
   have N263 := Fr.app N258 Nq260
   have K264 := Keep.trans K249 Kq260 (allS (Or.inl (by simp)) (allS (Or.inl (by simp)) all0))
   have F265 := Exa.keep F250 Kq260
   have F266 := Fld.keep F251 Kq260 (ninS ne0_ (ninS ne1_ nin0))
   have F267 := Fld.keep F252 Kq260 (ninS ne0_ (ninS ne1_ nin0))
   have F268 := Fld.keep F253 Kq260 (ninS ne0_ (ninS ne1_ nin0))
   have F269 := Fld.keep F254 Kq260 (ninS ne0_ (ninS ne1_ nin0))
   have q273 : ak ∉ [ah, ap] := (ninS (Ne.symm ne4_) (ninS (Ne.symm ne5_) nin0))
   have F272 := ArrL.keep A248 Kq260 q273
   have Z274 := zK Z259 Kq260
   refine g_goto (q := 90) X260 hx (D d13_75) (by decide) (by decide) ?_
   exact g_ret X260 hx hlk hrt (D d13_90) (by decide) (by decide) (by skip; exact ⟨rfl, N263, K264, hp', pl', (ky.set u_ (fk dd c_)), (2 : Int32), F266, F267, F268, F269, A261, A262, F272, own_pp20 hD I_ hv hu hC.1 hc2 hue hw0 hU⟩)
  ·skip
   refine g_aloadN X0 hx (D d13_0) rfl rfl rfl (g_getF X0 hx hZ hown (hW hw 62 rfl) e0 F1_ (D d13_1) rfl fun T275 X275 e275 => (g_iloadN X275 hx (D d13_4) rfl rfl (g_iload_ (i := u_) (v := (1 : Int32)) X275 hx hZ e275 A1_ hv hpv (D d13_5) rfl (g_iconst (v := (-1 : Int32)) X275 hx (D d13_6) rfl rfl ?_))))
   refine g_icmp_ne (q := 52) (q0 := 10) X275 hx (D d13_7) (by decide) (by decide) rfl ?_ (fun h => absurd h (by decide))
   intro c276
   refine g_lloadN X275 hx (D d13_52) rfl rfl (g_aloadN X275 hx (D d13_53) rfl rfl rfl (g_getF X275 hx hZ hown (hW hw 64 rfl) e275 F2_ (D d13_54) rfl fun T277 X277 e277 => (g_iloadN X277 hx (D d13_57) rfl rfl (g_lload_ (i := u_) (v := (fk dd (cs.getD u_ 0))) X277 hx hZ e277 A2_ hv hku (D d13_58) rfl (g_lcmp_ge (q := 78) (q1 := 60) (q0 := 63) X277 hx (D d13_59) rfl (D d13_60) (by decide) (by decide) rfl (fun c278 => by exact absurd hlt2 (Int.not_lt.mpr c278)) fun c278 => (g_aloadN X277 hx (D d13_63) rfl rfl rfl (g_getF X277 hx hZ hown (hW hw 64 rfl) e277 F2_ (D d13_64) rfl fun T279 X279 e279 => (g_iloadN X279 hx (D d13_67) rfl rfl (g_lloadN X279 hx (D d13_68) rfl rfl (g_lstore_ (i := u_) (v := (fk dd c_)) X279 hx hZ e279 A2_ hv (by rw [hkl]; exact hu) (D d13_69) rfl fun T280 h280 X280 e280 W280 A280 => ?_))))))))))
   have K281 := Keep.wr (Keep.refl h0 [t, ah, ap, ak]) W280 (Or.inl (by simp))
   have F282 := Exa.wr W280 E_
   have F283 := Fld.other W280 F0_ (Or.inl ne2_)
   have F284 := Fld.other W280 F1_ (Or.inl ne2_)
   have F285 := Fld.other W280 F2_ (Or.inl ne2_)
   have F286 := Fld.other W280 F3_ (Or.inl ne2_)
   have F287 := ArrL.other A0_ W280 ne4_
   have F288 := ArrL.other A1_ W280 ne5_
   have N290 := Fr.snoc X280 N0 gk_
   have Z291 := zW Z0 W280
   refine g_aloadN X280 hx (D d13_70) rfl rfl rfl (g_iloadN X280 hx (D d13_71) rfl rfl (g_private X280 hx hZ hown (hW hw 95 rfl) (hW hw 96 rfl) (hW hw 97 rfl) (hW hw 54 rfl) (hW hw 55 rfl) (hW hw 98 rfl) (by decide) (rm14_1 l Z a0 hw [] t nd h280 n0 Z291 ah ap ak v0_ v1_ v2_ v3_ v4_ v5_ pl (ky.set u_ (fk dd c_)) u_ a_ F283 F284 F285 F287 F288 A280 F282 ne0_ ne1_ ne2_ ne3_ ne4_ ne5_ gh_ gp_ hv hu (by (try simp only [List.length_set]); exact hkl) (by (try simp only [List.length_set]); exact hpl) hpv hw0 ha6) F282 (argsL := [.int nd]) (rest := []) pd_4 rfl rfl rfl (D d13_72) rfl (by rw [hml]; rfl) e280 (by decide) (W := 0) rfl (by decide) (by decide) (by decide) fun v292 T292 Lc292 X292 Q292 => ?_))
   obtain ⟨rfl, Nq292, Kq292, hp', pl', A293, A294, hU⟩ := Q292
   have N295 := Fr.app N290 Nq292
   have K296 := Keep.trans K281 Kq292 (allS (Or.inl (by simp)) (allS (Or.inl (by simp)) all0))
   have F297 := Exa.keep F282 Kq292
   have F298 := Fld.keep F283 Kq292 (ninS ne0_ (ninS ne1_ nin0))
   have F299 := Fld.keep F284 Kq292 (ninS ne0_ (ninS ne1_ nin0))
   have F300 := Fld.keep F285 Kq292 (ninS ne0_ (ninS ne1_ nin0))
   have F301 := Fld.keep F286 Kq292 (ninS ne0_ (ninS ne1_ nin0))
   have q305 : ak ∉ [ah, ap] := (ninS (Ne.symm ne4_) (ninS (Ne.symm ne5_) nin0))
   have F304 := ArrL.keep A280 Kq292 q305
   have Z306 := zK Z291 Kq292
   refine g_goto (q := 90) X292 hx (D d13_75) (by decide) (by decide) ?_
   exact g_ret X292 hx hlk hrt (D d13_90) (by decide) (by decide) (by skip; exact ⟨rfl, N295, K296, hp', pl', (ky.set u_ (fk dd c_)), (2 : Int32), F298, F299, F300, F301, A293, A294, F304, own_pp21 hD I_ hv hu hC.1 hc2 hue hw0 hU⟩)
  ·skip
   refine g_aloadN X0 hx (D d13_0) rfl rfl rfl (g_getF X0 hx hZ hown (hW hw 62 rfl) e0 F1_ (D d13_1) rfl fun T307 X307 e307 => (g_iloadN X307 hx (D d13_4) rfl rfl (g_iload_ (i := u_) (v := (0 : Int32)) X307 hx hZ e307 A1_ hv hpv (D d13_5) rfl (g_iconst (v := (-1 : Int32)) X307 hx (D d13_6) rfl rfl ?_))))
   refine g_icmp_ne (q := 52) (q0 := 10) X307 hx (D d13_7) (by decide) (by decide) rfl ?_ (fun h => absurd h (by decide))
   intro c308
   refine g_lloadN X307 hx (D d13_52) rfl rfl (g_aloadN X307 hx (D d13_53) rfl rfl rfl (g_getF X307 hx hZ hown (hW hw 64 rfl) e307 F2_ (D d13_54) rfl fun T309 X309 e309 => (g_iloadN X309 hx (D d13_57) rfl rfl (g_lload_ (i := u_) (v := (fk dd (cs.getD u_ 0))) X309 hx hZ e309 A2_ hv hku (D d13_58) rfl (g_lcmp_ge (q := 78) (q1 := 60) (q0 := 63) X309 hx (D d13_59) rfl (D d13_60) (by decide) (by decide) rfl (fun c310 => by exact absurd hlt2 (Int.not_lt.mpr c310)) fun c310 => (g_aloadN X309 hx (D d13_63) rfl rfl rfl (g_getF X309 hx hZ hown (hW hw 64 rfl) e309 F2_ (D d13_64) rfl fun T311 X311 e311 => (g_iloadN X311 hx (D d13_67) rfl rfl (g_lloadN X311 hx (D d13_68) rfl rfl (g_lstore_ (i := u_) (v := (fk dd c_)) X311 hx hZ e311 A2_ hv (by rw [hkl]; exact hu) (D d13_69) rfl fun T312 h312 X312 e312 W312 A312 => ?_))))))))))
   have K313 := Keep.wr (Keep.refl h0 [t, ah, ap, ak]) W312 (Or.inl (by simp))
   have F314 := Exa.wr W312 E_
   have F315 := Fld.other W312 F0_ (Or.inl ne2_)
   have F316 := Fld.other W312 F1_ (Or.inl ne2_)
   have F317 := Fld.other W312 F2_ (Or.inl ne2_)
   have F318 := Fld.other W312 F3_ (Or.inl ne2_)
   have F319 := ArrL.other A0_ W312 ne4_
   have F320 := ArrL.other A1_ W312 ne5_
   have N322 := Fr.snoc X312 N0 gk_
   have Z323 := zW Z0 W312
   refine g_aloadN X312 hx (D d13_70) rfl rfl rfl (g_iloadN X312 hx (D d13_71) rfl rfl (g_private X312 hx hZ hown (hW hw 95 rfl) (hW hw 96 rfl) (hW hw 97 rfl) (hW hw 54 rfl) (hW hw 55 rfl) (hW hw 98 rfl) (by decide) (rm14_0 l Z a0 hw [] t nd h312 n0 Z323 ah ap ak v0_ v1_ v2_ v3_ v4_ v5_ pl (ky.set u_ (fk dd c_)) u_ 0 F315 F316 F317 F319 F320 A312 F314 ne0_ ne1_ ne2_ ne3_ ne4_ ne5_ gh_ gp_ hv hu (by (try simp only [List.length_set]); exact hkl) (by (try simp only [List.length_set]); exact hpl) hpv ) F314 (argsL := [.int nd]) (rest := []) pd_4 rfl rfl rfl (D d13_72) rfl (by rw [hml]; rfl) e312 (by decide) (W := 0) rfl (by decide) (by decide) (by decide) fun v324 T324 Lc324 X324 Q324 => ?_))
   obtain ⟨rfl, Nq324, Kq324, hp', pl', A325, A326, hU⟩ := Q324
   have N327 := Fr.app N322 Nq324
   have K328 := Keep.trans K313 Kq324 (allS (Or.inl (by simp)) (allS (Or.inl (by simp)) all0))
   have F329 := Exa.keep F314 Kq324
   have F330 := Fld.keep F315 Kq324 (ninS ne0_ (ninS ne1_ nin0))
   have F331 := Fld.keep F316 Kq324 (ninS ne0_ (ninS ne1_ nin0))
   have F332 := Fld.keep F317 Kq324 (ninS ne0_ (ninS ne1_ nin0))
   have F333 := Fld.keep F318 Kq324 (ninS ne0_ (ninS ne1_ nin0))
   have q337 : ak ∉ [ah, ap] := (ninS (Ne.symm ne4_) (ninS (Ne.symm ne5_) nin0))
   have F336 := ArrL.keep A312 Kq324 q337
   have Z338 := zK Z323 Kq324
   refine g_goto (q := 90) X324 hx (D d13_75) (by decide) (by decide) ?_
   exact g_ret X324 hx hlk hrt (D d13_90) (by decide) (by decide) (by skip; exact ⟨rfl, N327, K328, hp', pl', (ky.set u_ (fk dd c_)), (3 : Int32), F330, F331, F332, F333, A325, A326, F336, own_pp30 hD I_ hv hu hC.1 hc2 hue hw0 hU⟩)
  ·skip
   refine g_aloadN X0 hx (D d13_0) rfl rfl rfl (g_getF X0 hx hZ hown (hW hw 62 rfl) e0 F1_ (D d13_1) rfl fun T339 X339 e339 => (g_iloadN X339 hx (D d13_4) rfl rfl (g_iload_ (i := u_) (v := (1 : Int32)) X339 hx hZ e339 A1_ hv hpv (D d13_5) rfl (g_iconst (v := (-1 : Int32)) X339 hx (D d13_6) rfl rfl ?_))))
   refine g_icmp_ne (q := 52) (q0 := 10) X339 hx (D d13_7) (by decide) (by decide) rfl ?_ (fun h => absurd h (by decide))
   intro c340
   refine g_lloadN X339 hx (D d13_52) rfl rfl (g_aloadN X339 hx (D d13_53) rfl rfl rfl (g_getF X339 hx hZ hown (hW hw 64 rfl) e339 F2_ (D d13_54) rfl fun T341 X341 e341 => (g_iloadN X341 hx (D d13_57) rfl rfl (g_lload_ (i := u_) (v := (fk dd (cs.getD u_ 0))) X341 hx hZ e341 A2_ hv hku (D d13_58) rfl (g_lcmp_ge (q := 78) (q1 := 60) (q0 := 63) X341 hx (D d13_59) rfl (D d13_60) (by decide) (by decide) rfl (fun c342 => by exact absurd hlt2 (Int.not_lt.mpr c342)) fun c342 => (g_aloadN X341 hx (D d13_63) rfl rfl rfl (g_getF X341 hx hZ hown (hW hw 64 rfl) e341 F2_ (D d13_64) rfl fun T343 X343 e343 => (g_iloadN X343 hx (D d13_67) rfl rfl (g_lloadN X343 hx (D d13_68) rfl rfl (g_lstore_ (i := u_) (v := (fk dd c_)) X343 hx hZ e343 A2_ hv (by rw [hkl]; exact hu) (D d13_69) rfl fun T344 h344 X344 e344 W344 A344 => ?_))))))))))
   have K345 := Keep.wr (Keep.refl h0 [t, ah, ap, ak]) W344 (Or.inl (by simp))
   have F346 := Exa.wr W344 E_
   have F347 := Fld.other W344 F0_ (Or.inl ne2_)
   have F348 := Fld.other W344 F1_ (Or.inl ne2_)
   have F349 := Fld.other W344 F2_ (Or.inl ne2_)
   have F350 := Fld.other W344 F3_ (Or.inl ne2_)
   have F351 := ArrL.other A0_ W344 ne4_
   have F352 := ArrL.other A1_ W344 ne5_
   have N354 := Fr.snoc X344 N0 gk_
   have Z355 := zW Z0 W344
   refine g_aloadN X344 hx (D d13_70) rfl rfl rfl (g_iloadN X344 hx (D d13_71) rfl rfl (g_private X344 hx hZ hown (hW hw 95 rfl) (hW hw 96 rfl) (hW hw 97 rfl) (hW hw 54 rfl) (hW hw 55 rfl) (hW hw 98 rfl) (by decide) (rm14_1 l Z a0 hw [] t nd h344 n0 Z355 ah ap ak v0_ v1_ v2_ v3_ v4_ v5_ pl (ky.set u_ (fk dd c_)) u_ a_ F347 F348 F349 F351 F352 A344 F346 ne0_ ne1_ ne2_ ne3_ ne4_ ne5_ gh_ gp_ hv hu (by (try simp only [List.length_set]); exact hkl) (by (try simp only [List.length_set]); exact hpl) hpv hw0 ha6) F346 (argsL := [.int nd]) (rest := []) pd_4 rfl rfl rfl (D d13_72) rfl (by rw [hml]; rfl) e344 (by decide) (W := 0) rfl (by decide) (by decide) (by decide) fun v356 T356 Lc356 X356 Q356 => ?_))
   obtain ⟨rfl, Nq356, Kq356, hp', pl', A357, A358, hU⟩ := Q356
   have N359 := Fr.app N354 Nq356
   have K360 := Keep.trans K345 Kq356 (allS (Or.inl (by simp)) (allS (Or.inl (by simp)) all0))
   have F361 := Exa.keep F346 Kq356
   have F362 := Fld.keep F347 Kq356 (ninS ne0_ (ninS ne1_ nin0))
   have F363 := Fld.keep F348 Kq356 (ninS ne0_ (ninS ne1_ nin0))
   have F364 := Fld.keep F349 Kq356 (ninS ne0_ (ninS ne1_ nin0))
   have F365 := Fld.keep F350 Kq356 (ninS ne0_ (ninS ne1_ nin0))
   have q369 : ak ∉ [ah, ap] := (ninS (Ne.symm ne4_) (ninS (Ne.symm ne5_) nin0))
   have F368 := ArrL.keep A344 Kq356 q369
   have Z370 := zK Z355 Kq356
   refine g_goto (q := 90) X356 hx (D d13_75) (by decide) (by decide) ?_
   exact g_ret X356 hx hlk hrt (D d13_90) (by decide) (by decide) (by skip; exact ⟨rfl, N359, K360, hp', pl', (ky.set u_ (fk dd c_)), (3 : Int32), F362, F363, F364, F365, A357, A358, F368, own_pp31 hD I_ hv hu hC.1 hc2 hue hw0 hU⟩)
  ·skip
   refine g_aloadN X0 hx (D d13_0) rfl rfl rfl (g_getF X0 hx hZ hown (hW hw 62 rfl) e0 F1_ (D d13_1) rfl fun T371 X371 e371 => (g_iloadN X371 hx (D d13_4) rfl rfl (g_iload_ (i := u_) (v := (2 : Int32)) X371 hx hZ e371 A1_ hv hpv (D d13_5) rfl (g_iconst (v := (-1 : Int32)) X371 hx (D d13_6) rfl rfl ?_))))
   refine g_icmp_ne (q := 52) (q0 := 10) X371 hx (D d13_7) (by decide) (by decide) rfl ?_ (fun h => absurd h (by decide))
   intro c372
   refine g_lloadN X371 hx (D d13_52) rfl rfl (g_aloadN X371 hx (D d13_53) rfl rfl rfl (g_getF X371 hx hZ hown (hW hw 64 rfl) e371 F2_ (D d13_54) rfl fun T373 X373 e373 => (g_iloadN X373 hx (D d13_57) rfl rfl (g_lload_ (i := u_) (v := (fk dd (cs.getD u_ 0))) X373 hx hZ e373 A2_ hv hku (D d13_58) rfl (g_lcmp_ge (q := 78) (q1 := 60) (q0 := 63) X373 hx (D d13_59) rfl (D d13_60) (by decide) (by decide) rfl (fun c374 => by exact absurd hlt2 (Int.not_lt.mpr c374)) fun c374 => (g_aloadN X373 hx (D d13_63) rfl rfl rfl (g_getF X373 hx hZ hown (hW hw 64 rfl) e373 F2_ (D d13_64) rfl fun T375 X375 e375 => (g_iloadN X375 hx (D d13_67) rfl rfl (g_lloadN X375 hx (D d13_68) rfl rfl (g_lstore_ (i := u_) (v := (fk dd c_)) X375 hx hZ e375 A2_ hv (by rw [hkl]; exact hu) (D d13_69) rfl fun T376 h376 X376 e376 W376 A376 => ?_))))))))))
   have K377 := Keep.wr (Keep.refl h0 [t, ah, ap, ak]) W376 (Or.inl (by simp))
   have F378 := Exa.wr W376 E_
   have F379 := Fld.other W376 F0_ (Or.inl ne2_)
   have F380 := Fld.other W376 F1_ (Or.inl ne2_)
   have F381 := Fld.other W376 F2_ (Or.inl ne2_)
   have F382 := Fld.other W376 F3_ (Or.inl ne2_)
   have F383 := ArrL.other A0_ W376 ne4_
   have F384 := ArrL.other A1_ W376 ne5_
   have N386 := Fr.snoc X376 N0 gk_
   have Z387 := zW Z0 W376
   refine g_aloadN X376 hx (D d13_70) rfl rfl rfl (g_iloadN X376 hx (D d13_71) rfl rfl (g_private X376 hx hZ hown (hW hw 95 rfl) (hW hw 96 rfl) (hW hw 97 rfl) (hW hw 54 rfl) (hW hw 55 rfl) (hW hw 98 rfl) (by decide) (rm14_2 l Z a0 hw [] t nd h376 n0 Z387 ah ap ak v0_ v1_ v2_ v3_ v4_ v5_ pl (ky.set u_ (fk dd c_)) u_ a_ F379 F380 F381 F383 F384 A376 F378 ne0_ ne1_ ne2_ ne3_ ne4_ ne5_ gh_ gp_ hv hu (by (try simp only [List.length_set]); exact hkl) (by (try simp only [List.length_set]); exact hpl) hpv hw0 ha6) F378 (argsL := [.int nd]) (rest := []) pd_4 rfl rfl rfl (D d13_72) rfl (by rw [hml]; rfl) e376 (by decide) (W := 0) rfl (by decide) (by decide) (by decide) fun v388 T388 Lc388 X388 Q388 => ?_))
   obtain ⟨rfl, Nq388, Kq388, hp', pl', A389, A390, hU⟩ := Q388
   have N391 := Fr.app N386 Nq388
   have K392 := Keep.trans K377 Kq388 (allS (Or.inl (by simp)) (allS (Or.inl (by simp)) all0))
   have F393 := Exa.keep F378 Kq388
   have F394 := Fld.keep F379 Kq388 (ninS ne0_ (ninS ne1_ nin0))
   have F395 := Fld.keep F380 Kq388 (ninS ne0_ (ninS ne1_ nin0))
   have F396 := Fld.keep F381 Kq388 (ninS ne0_ (ninS ne1_ nin0))
   have F397 := Fld.keep F382 Kq388 (ninS ne0_ (ninS ne1_ nin0))
   have q401 : ak ∉ [ah, ap] := (ninS (Ne.symm ne4_) (ninS (Ne.symm ne5_) nin0))
   have F400 := ArrL.keep A376 Kq388 q401
   have Z402 := zK Z387 Kq388
   refine g_goto (q := 90) X388 hx (D d13_75) (by decide) (by decide) ?_
   exact g_ret X388 hx hlk hrt (D d13_90) (by decide) (by decide) (by skip; exact ⟨rfl, N391, K392, hp', pl', (ky.set u_ (fk dd c_)), (3 : Int32), F394, F395, F396, F397, A389, A390, F400, own_pp32 hD I_ hv hu hC.1 hc2 hue hw0 hU⟩)
def RM_rm15 : Room := ({ frames := 0, cells := 0, slots := 0, locals := 0 } : Room)
abbrev b15 := prog_77_method_2_code
theorem d15_0 : decode b15 0 = .ok (.aload_n 0, 1) := by decide +kernel
theorem d15_1 : decode b15 1 = .ok (.getfield 26, 3) := by decide +kernel
theorem d15_4 : decode b15 4 = .ok (.ifCond .ne 7, 3) := by decide +kernel
theorem d15_7 : decode b15 7 = .ok (.iconst 1, 1) := by decide +kernel
theorem d15_8 : decode b15 8 = .ok (.goto 4, 3) := by decide +kernel
theorem d15_11 : decode b15 11 = .ok (.iconst 0, 1) := by decide +kernel
theorem d15_12 : decode b15 12 = .ok (.ireturn, 1) := by decide +kernel
theorem ef_15 (m : MethodId) (z0 : Addr) : entryFrame m #[.ref z0] 1 = mkF m 0 #[vR z0] [] := by first | (simp [entryFrame, mkF, argsToLocals, Value.category]; done) | rfl
set_option maxRecDepth 65536 in
set_option maxHeartbeats 40000000 in
theorem rm15 (l : Launch) (Z : State) (a0 : Array Value) (hw : ∀ d ∈ tables_1, d.before a0 Z = true) (ws : List Jvm.Cond) (t : Addr) (h0 : Heap) (n0 : Nat) (Z0 : n0 ≤ h0.size) (cn : Int32) (F3_ : Fld Z h0 t kQ "count" "I" (.int cn)) :
    Ctr l Z (⟨kQ, "isEmpty", "()Z"⟩ : MethodName) prog_77_method_2_code 1 (some .boolean) RM_rm15 ws #[.ref t] h0 (PQ (.int (b2i (decide (cn.toInt = 0)))) h0) := by
  refine Ctr.of (plainFor_of_name pn_4) ?_
  intro p e s m below meth c s₁ hx hby hml hrt hlk hnm hown hZ X0 e0
  have N0 := Fr.nil n0
  have D := @hb _ _ hby
  refine Go.cast (ef_15 m t) ?_
  refine g_aloadN X0 hx (D d15_0) rfl rfl rfl (g_getF X0 hx hZ hown (hW hw 93 rfl) e0 F3_ (D d15_1) rfl fun T1 X1 e1 => (g_sel_if_ne (q := 12) X1 hx (D d15_4) (by decide) (by decide) rfl (D d15_11) (D d15_7) (D d15_8) rfl (by decide) (by decide) rfl ?_))
  exact g_zreturn (b := decide (cn.toInt = 0)) X1 hx hlk hrt (D d15_12) (by decide) (by decide) ⟨rfl, e1, rfl⟩
def RM_rm17 : Room := ({ frames := 2, cells := 0, slots := 0, locals := 30 } : Room)
abbrev b17 := prog_77_method_7_code
theorem d17_0 : decode b17 0 = .ok (.aload_n 0, 1) := by decide +kernel
theorem d17_1 : decode b17 1 = .ok (.getfield 13, 3) := by decide +kernel
theorem d17_4 : decode b17 4 = .ok (.iload_n 1, 1) := by decide +kernel
theorem d17_5 : decode b17 5 = .ok (.iaload, 1) := by decide +kernel
theorem d17_6 : decode b17 6 = .ok (.istore_n 2, 1) := by decide +kernel
theorem d17_7 : decode b17 7 = .ok (.iload_n 2, 1) := by decide +kernel
theorem d17_8 : decode b17 8 = .ok (.iconst (-1), 1) := by decide +kernel
theorem d17_9 : decode b17 9 = .ok (.if_icmp .ne 4, 3) := by decide +kernel
theorem d17_13 : decode b17 13 = .ok (.aload_n 0, 1) := by decide +kernel
theorem d17_14 : decode b17 14 = .ok (.getfield 13, 3) := by decide +kernel
theorem d17_17 : decode b17 17 = .ok (.iload_n 1, 1) := by decide +kernel
theorem d17_18 : decode b17 18 = .ok (.iconst (-1), 1) := by decide +kernel
theorem d17_19 : decode b17 19 = .ok (.iastore, 1) := by decide +kernel
theorem d17_20 : decode b17 20 = .ok (.aload_n 0, 1) := by decide +kernel
theorem d17_21 : decode b17 21 = .ok (.getfield 7, 3) := by decide +kernel
theorem d17_24 : decode b17 24 = .ok (.aload_n 0, 1) := by decide +kernel
theorem d17_25 : decode b17 25 = .ok (.dup, 1) := by decide +kernel
theorem d17_26 : decode b17 26 = .ok (.getfield 26, 3) := by decide +kernel
theorem d17_29 : decode b17 29 = .ok (.iconst 1, 1) := by decide +kernel
theorem d17_30 : decode b17 30 = .ok (.isub, 1) := by decide +kernel
theorem d17_31 : decode b17 31 = .ok (.dup_x1, 1) := by decide +kernel
theorem d17_32 : decode b17 32 = .ok (.putfield 26, 3) := by decide +kernel
theorem d17_35 : decode b17 35 = .ok (.iaload, 1) := by decide +kernel
theorem d17_36 : decode b17 36 = .ok (.istore_n 3, 1) := by decide +kernel
theorem d17_37 : decode b17 37 = .ok (.iload_n 3, 1) := by decide +kernel
theorem d17_38 : decode b17 38 = .ok (.iload_n 1, 1) := by decide +kernel
theorem d17_39 : decode b17 39 = .ok (.if_icmp .eq 27, 3) := by decide +kernel
theorem d17_42 : decode b17 42 = .ok (.aload_n 0, 1) := by decide +kernel
theorem d17_43 : decode b17 43 = .ok (.getfield 7, 3) := by decide +kernel
theorem d17_46 : decode b17 46 = .ok (.iload_n 2, 1) := by decide +kernel
theorem d17_47 : decode b17 47 = .ok (.iload_n 3, 1) := by decide +kernel
theorem d17_48 : decode b17 48 = .ok (.iastore, 1) := by decide +kernel
theorem d17_49 : decode b17 49 = .ok (.aload_n 0, 1) := by decide +kernel
theorem d17_50 : decode b17 50 = .ok (.getfield 13, 3) := by decide +kernel
theorem d17_53 : decode b17 53 = .ok (.iload_n 3, 1) := by decide +kernel
theorem d17_54 : decode b17 54 = .ok (.iload_n 2, 1) := by decide +kernel
theorem d17_55 : decode b17 55 = .ok (.iastore, 1) := by decide +kernel
theorem d17_56 : decode b17 56 = .ok (.aload_n 0, 1) := by decide +kernel
theorem d17_57 : decode b17 57 = .ok (.iload_n 3, 1) := by decide +kernel
theorem d17_58 : decode b17 58 = .ok (.invokevirtual 30, 3) := by decide +kernel
theorem d17_61 : decode b17 61 = .ok (.aload_n 0, 1) := by decide +kernel
theorem d17_62 : decode b17 62 = .ok (.iload_n 3, 1) := by decide +kernel
theorem d17_63 : decode b17 63 = .ok (.invokevirtual 34, 3) := by decide +kernel
theorem d17_66 : decode b17 66 = .ok (.return_, 1) := by decide +kernel
theorem ef_17 (m : MethodId) (z0 : Addr) (z1 : Int32) : entryFrame m #[.ref z0, .int z1] 4 = mkF m 0 #[vR z0, vI z1, u0, u0] [] := by first | (simp [entryFrame, mkF, argsToLocals, Value.category]; done) | rfl
set_option maxRecDepth 65536 in
set_option maxHeartbeats 40000000 in
theorem rm17 (l : Launch) (Z : State) (a0 : Array Value) (hw : ∀ d ∈ tables_1, d.before a0 Z = true) (ws : List Jvm.Cond) (t : Addr) (nd : Int32) (h0 : Heap) (n0 : Nat) (Z0 : n0 ≤ h0.size) (ah ap ak : Addr) (hp pl : List Int32) (ky : List Int64) (cn : Int32) (A cs : List Nat) (dd : Int64) (F0_ : Fld Z h0 t kQ "heap" "[I" (.ref ah)) (F1_ : Fld Z h0 t kQ "place" "[I" (.ref ap)) (F2_ : Fld Z h0 t kQ "key" "[J" (.ref ak)) (F3_ : Fld Z h0 t kQ "count" "I" (.int cn)) (A0_ : IA Z h0 ah hp) (A1_ : IA Z h0 ap pl) (A2_ : LA Z h0 ak ky) (E_ : Exa Z h0 t kQ) (ne0_ : t ≠ ah) (ne1_ : t ≠ ap) (ne2_ : t ≠ ak) (ne3_ : ah ≠ ap) (ne4_ : ah ≠ ak) (ne5_ : ap ≠ ak) (gt_ : n0 ≤ t) (gh_ : n0 ≤ ah) (gp_ : n0 ≤ ap) (gk_ : n0 ≤ ak) (hD : DD dd) (hA : A ≠ []) (hv : nd.toInt = ((pollF cs A).1 : Int)) (I_ : QI dd hp pl ky cn A cs) (hC : CI cs) :
    Ctr l Z (⟨kQ, "remove", "(I)V"⟩ : MethodName) prog_77_method_7_code 4 none RM_rm17 ws #[.ref t, .int nd] h0 (fun v h L => v = none ∧ Fr n0 L ∧ Keep h0 h [t, ah, ap] ∧ ∃ (hp' pl' : List Int32) (cn' : Int32), Fld Z h t kQ "heap" "[I" (.ref ah) ∧ Fld Z h t kQ "place" "[I" (.ref ap) ∧ Fld Z h t kQ "key" "[J" (.ref ak) ∧ Fld Z h t kQ "count" "I" (.int cn') ∧ IA Z h ah hp' ∧ IA Z h ap pl' ∧ LA Z h ak ky ∧ QI dd hp' pl' ky cn' (pollF cs A).2 cs) := by
  refine Ctr.of (plainFor_of_name pn_4) ?_
  intro p e s m below meth c s₁ hx hby hml hrt hlk hnm hown hZ X0 e0
  have N0 := Fr.nil n0
  have D := @hb _ _ hby
  refine Go.cast (ef_17 m t nd) ?_
  have hpl := I_.2.1
  have hkl := I_.2.2.1
  obtain ⟨v0_, v1_, v2_, v3_, v4_, v5_, rfl, hcase⟩ := own_rc I_ hA
  rcases hcase with ⟨a_, rfl, rfl, hw0, ha6, hpv⟩ | ⟨a_, b_, rfl, rfl, hw0, ha6, hpv, hw1, hb6, nab⟩ | ⟨a_, b_, d_, rfl, rfl, hw0, ha6, hpv, hw1, hb6, hw2, hd6, nad⟩
  ·replace hv : nd.toInt = (a_ : Int) := hv
   refine g_aloadN X0 hx (D d17_0) rfl rfl rfl (g_getF X0 hx hZ hown (hW hw 62 rfl) e0 F1_ (D d17_1) rfl fun T1 X1 e1 => (g_iloadN X1 hx (D d17_4) rfl rfl (g_iload_ (i := a_) (v := (0 : Int32)) X1 hx hZ e1 A1_ hv hpv (D d17_5) rfl (g_istoreN (L' := #[vR t, vI nd, vI 0, u0]) X1 hx (D d17_6) rfl rfl (g_iloadN X1 hx (D d17_7) rfl rfl (g_iconst (v := (-1 : Int32)) X1 hx (D d17_8) rfl rfl ?_))))))
   refine g_icmp_ne (q := 13) (q0 := 12) X1 hx (D d17_9) (by decide) (by decide) rfl ?_ (fun h => absurd h (by decide))
   intro c2
   refine g_aloadN X1 hx (D d17_13) rfl rfl rfl (g_getF X1 hx hZ hown (hW hw 62 rfl) e1 F1_ (D d17_14) rfl fun T3 X3 e3 => (g_iloadN X3 hx (D d17_17) rfl rfl (g_iconst (v := (-1 : Int32)) X3 hx (D d17_18) rfl rfl (g_istore_ (i := a_) (v := (-1 : Int32)) X3 hx hZ e3 A1_ hv (by rw [hpl]; exact ha6) (D d17_19) rfl fun T4 h4 X4 e4 W4 A4 => ?_))))
   have K5 := Keep.wr (Keep.refl h0 [t, ah, ap]) W4 (Or.inl (by simp))
   have F6 := Exa.wr W4 E_
   have F7 := Fld.other W4 F0_ (Or.inl ne1_)
   have F8 := Fld.other W4 F1_ (Or.inl ne1_)
   have F9 := Fld.other W4 F2_ (Or.inl ne1_)
   have F10 := Fld.other W4 F3_ (Or.inl ne1_)
   have F11 := ArrL.other A0_ W4 ne3_
   have F13 := ArrL.other A2_ W4 (Ne.symm ne5_)
   have N14 := Fr.snoc X4 N0 gp_
   have Z15 := zW Z0 W4
   refine g_aloadN X4 hx (D d17_20) rfl rfl rfl (g_getF X4 hx hZ hown (hW hw 60 rfl) e4 F7 (D d17_21) rfl fun T16 X16 e16 => (g_aloadN X16 hx (D d17_24) rfl rfl rfl (g_dup X16 hx (D d17_25) rfl rfl (g_getF X16 hx hZ hown (hW hw 93 rfl) e16 F10 (D d17_26) rfl fun T17 X17 e17 => (g_iconst (v := (1 : Int32)) X17 hx (D d17_29) rfl rfl (g_isub X17 hx (D d17_30) rfl ?_))))))
   rw [show ((1 : Int32) - (1 : Int32)) = (0 : Int32) from by decide]
   refine g_dupX1 X17 hx (D d17_31) rfl rfl rfl (g_putF (ty := .int) X17 hx hZ hown (hW hw 93 rfl) e17 F10 F6 (Or.inl (hW hw 94 rfl)) (hW hw 54 rfl) (by decide) rfl rfl (D d17_32) rfl fun T18 h18 X18 e18 W18 F18 => ?_)
   have K19 := Keep.wr K5 W18 (Or.inl (by simp))
   have F20 := Exa.wr W18 F6
   have F21 := Fld.other W18 F7 (Or.inr (slot_ne (a0 := a0) (Or.inr (hW hw 61 rfl)) (Or.inl (hW hw 94 rfl)) (by decide) (t := (.array .int)) (t' := .int) (by decide) (by decide)))
   have F22 := Fld.other W18 F8 (Or.inr (slot_ne (a0 := a0) (Or.inr (hW hw 63 rfl)) (Or.inl (hW hw 94 rfl)) (by decide) (t := (.array .int)) (t' := .int) (by decide) (by decide)))
   have F23 := Fld.other W18 F9 (Or.inr (slot_ne (a0 := a0) (Or.inr (hW hw 65 rfl)) (Or.inl (hW hw 94 rfl)) (by decide) (t := (.array .long)) (t' := .int) (by decide) (by decide)))
   have F25 := ArrL.other F11 W18 (Ne.symm ne0_)
   have F26 := ArrL.other A4 W18 (Ne.symm ne1_)
   have F27 := ArrL.other F13 W18 (Ne.symm ne2_)
   have N28 := Fr.snoc X18 N14 gt_
   have Z29 := zW Z15 W18
   refine g_iload_ (i := 0) (v := v0_) X18 hx hZ e18 F25 rfl rfl (D d17_35) rfl (g_istoreN (L' := #[vR t, vI nd, vI 0, vI v0_]) X18 hx (D d17_36) rfl rfl (g_iloadN X18 hx (D d17_37) rfl rfl (g_iloadN X18 hx (D d17_38) rfl rfl ?_)))
   refine g_icmp_eq (q := 66) (q0 := 42) X18 hx (D d17_39) (by decide) (by decide) rfl ?_ (fun c30 => by exact absurd (hw0.trans hv.symm) c30)
   intro c30
   exact g_ret X18 hx hlk hrt (D d17_66) (by decide) (by decide) (by rw [e18]; exact ⟨rfl, N28, K19, [v0_, v1_, v2_, v3_, v4_, v5_], (pl.set a_ (-1 : Int32)), (0 : Int32), F21, F22, F23, F18, F25, F26, F27, own_rm1 I_⟩)
  ·replace hv : nd.toInt = (a_ : Int) := hv
   refine g_aloadN X0 hx (D d17_0) rfl rfl rfl (g_getF X0 hx hZ hown (hW hw 62 rfl) e0 F1_ (D d17_1) rfl fun T31 X31 e31 => (g_iloadN X31 hx (D d17_4) rfl rfl (g_iload_ (i := a_) (v := (0 : Int32)) X31 hx hZ e31 A1_ hv hpv (D d17_5) rfl (g_istoreN (L' := #[vR t, vI nd, vI 0, u0]) X31 hx (D d17_6) rfl rfl (g_iloadN X31 hx (D d17_7) rfl rfl (g_iconst (v := (-1 : Int32)) X31 hx (D d17_8) rfl rfl ?_))))))
   refine g_icmp_ne (q := 13) (q0 := 12) X31 hx (D d17_9) (by decide) (by decide) rfl ?_ (fun h => absurd h (by decide))
   intro c32
   refine g_aloadN X31 hx (D d17_13) rfl rfl rfl (g_getF X31 hx hZ hown (hW hw 62 rfl) e31 F1_ (D d17_14) rfl fun T33 X33 e33 => (g_iloadN X33 hx (D d17_17) rfl rfl (g_iconst (v := (-1 : Int32)) X33 hx (D d17_18) rfl rfl (g_istore_ (i := a_) (v := (-1 : Int32)) X33 hx hZ e33 A1_ hv (by rw [hpl]; exact ha6) (D d17_19) rfl fun T34 h34 X34 e34 W34 A34 => ?_))))
   have K35 := Keep.wr (Keep.refl h0 [t, ah, ap]) W34 (Or.inl (by simp))
   have F36 := Exa.wr W34 E_
   have F37 := Fld.other W34 F0_ (Or.inl ne1_)
   have F38 := Fld.other W34 F1_ (Or.inl ne1_)
   have F39 := Fld.other W34 F2_ (Or.inl ne1_)
   have F40 := Fld.other W34 F3_ (Or.inl ne1_)
   have F41 := ArrL.other A0_ W34 ne3_
   have F43 := ArrL.other A2_ W34 (Ne.symm ne5_)
   have N44 := Fr.snoc X34 N0 gp_
   have Z45 := zW Z0 W34
   refine g_aloadN X34 hx (D d17_20) rfl rfl rfl (g_getF X34 hx hZ hown (hW hw 60 rfl) e34 F37 (D d17_21) rfl fun T46 X46 e46 => (g_aloadN X46 hx (D d17_24) rfl rfl rfl (g_dup X46 hx (D d17_25) rfl rfl (g_getF X46 hx hZ hown (hW hw 93 rfl) e46 F40 (D d17_26) rfl fun T47 X47 e47 => (g_iconst (v := (1 : Int32)) X47 hx (D d17_29) rfl rfl (g_isub X47 hx (D d17_30) rfl ?_))))))
   rw [show ((2 : Int32) - (1 : Int32)) = (1 : Int32) from by decide]
   refine g_dupX1 X47 hx (D d17_31) rfl rfl rfl (g_putF (ty := .int) X47 hx hZ hown (hW hw 93 rfl) e47 F40 F36 (Or.inl (hW hw 94 rfl)) (hW hw 54 rfl) (by decide) rfl rfl (D d17_32) rfl fun T48 h48 X48 e48 W48 F48 => ?_)
   have K49 := Keep.wr K35 W48 (Or.inl (by simp))
   have F50 := Exa.wr W48 F36
   have F51 := Fld.other W48 F37 (Or.inr (slot_ne (a0 := a0) (Or.inr (hW hw 61 rfl)) (Or.inl (hW hw 94 rfl)) (by decide) (t := (.array .int)) (t' := .int) (by decide) (by decide)))
   have F52 := Fld.other W48 F38 (Or.inr (slot_ne (a0 := a0) (Or.inr (hW hw 63 rfl)) (Or.inl (hW hw 94 rfl)) (by decide) (t := (.array .int)) (t' := .int) (by decide) (by decide)))
   have F53 := Fld.other W48 F39 (Or.inr (slot_ne (a0 := a0) (Or.inr (hW hw 65 rfl)) (Or.inl (hW hw 94 rfl)) (by decide) (t := (.array .long)) (t' := .int) (by decide) (by decide)))
   have F55 := ArrL.other F41 W48 (Ne.symm ne0_)
   have F56 := ArrL.other A34 W48 (Ne.symm ne1_)
   have F57 := ArrL.other F43 W48 (Ne.symm ne2_)
   have N58 := Fr.snoc X48 N44 gt_
   have Z59 := zW Z45 W48
   refine g_iload_ (i := 1) (v := v1_) X48 hx hZ e48 F55 rfl rfl (D d17_35) rfl (g_istoreN (L' := #[vR t, vI nd, vI 0, vI v1_]) X48 hx (D d17_36) rfl rfl (g_iloadN X48 hx (D d17_37) rfl rfl (g_iloadN X48 hx (D d17_38) rfl rfl (g_icmp_eq (q := 66) (q0 := 42) X48 hx (D d17_39) (by decide) (by decide) rfl (fun c60 => by exact absurd (Int.ofNat_inj.mp ((hv.symm.trans c60.symm).trans hw1)) nab) fun c60 => (g_aloadN X48 hx (D d17_42) rfl rfl rfl (g_getF X48 hx hZ hown (hW hw 60 rfl) e48 F51 (D d17_43) rfl fun T61 X61 e61 => (g_iloadN X61 hx (D d17_46) rfl rfl (g_iloadN X61 hx (D d17_47) rfl rfl (g_istore_ (i := 0) (v := v1_) X61 hx hZ e61 F55 rfl (by show 0 < 6; decide) (D d17_48) rfl fun T62 h62 X62 e62 W62 A62 => ?_)))))))))
   replace A62 : IA Z h62 ah ([v1_, v1_, v2_, v3_, v4_, v5_] : List Int32) := A62
   have K63 := Keep.wr K49 W62 (Or.inl (by simp))
   have F64 := Exa.wr W62 F50
   have F65 := Fld.other W62 F51 (Or.inl ne0_)
   have F66 := Fld.other W62 F52 (Or.inl ne0_)
   have F67 := Fld.other W62 F53 (Or.inl ne0_)
   have F68 := Fld.other W62 F48 (Or.inl ne0_)
   have F70 := ArrL.other F56 W62 (Ne.symm ne3_)
   have F71 := ArrL.other F57 W62 (Ne.symm ne4_)
   have N72 := Fr.snoc X62 N58 gh_
   have Z73 := zW Z59 W62
   refine g_aloadN X62 hx (D d17_49) rfl rfl rfl (g_getF X62 hx hZ hown (hW hw 62 rfl) e62 F66 (D d17_50) rfl fun T74 X74 e74 => (g_iloadN X74 hx (D d17_53) rfl rfl (g_iloadN X74 hx (D d17_54) rfl rfl (g_istore_ (i := b_) (v := (0 : Int32)) X74 hx hZ e74 F70 hw1 (by (try simp only [List.length_set]); rw [hpl]; exact hb6) (D d17_55) rfl fun T75 h75 X75 e75 W75 A75 => ?_))))
   have K76 := Keep.wr K63 W75 (Or.inl (by simp))
   have F77 := Exa.wr W75 F64
   have F78 := Fld.other W75 F65 (Or.inl ne1_)
   have F79 := Fld.other W75 F66 (Or.inl ne1_)
   have F80 := Fld.other W75 F67 (Or.inl ne1_)
   have F81 := Fld.other W75 F68 (Or.inl ne1_)
   have F82 := ArrL.other A62 W75 ne3_
   have F84 := ArrL.other F71 W75 (Ne.symm ne5_)
   have N85 := Fr.snoc X75 N72 gp_
   have Z86 := zW Z73 W75
   refine g_aloadN X75 hx (D d17_56) rfl rfl rfl (g_iloadN X75 hx (D d17_57) rfl rfl (g_private X75 hx hZ hown (hW hw 95 rfl) (hW hw 96 rfl) (hW hw 97 rfl) (hW hw 54 rfl) (hW hw 55 rfl) (hW hw 98 rfl) (by decide) (rm14_0 l Z a0 hw [] t v1_ h75 n0 Z86 ah ap ak v1_ v1_ v2_ v3_ v4_ v5_ ((pl.set a_ (-1 : Int32)).set b_ (0 : Int32)) ky b_ 0 F78 F79 F80 F82 A75 F84 F77 ne0_ ne1_ ne2_ ne3_ ne4_ ne5_ gh_ gp_ hw1 hb6 (by (try simp only [List.length_set]); exact hkl) (by (try simp only [List.length_set]); exact hpl) (own_sg (by (try simp only [List.length_set]); rw [hpl]; exact hb6)) ) F77 (argsL := [.int v1_]) (rest := []) pd_4 rfl rfl rfl (D d17_58) rfl (by rw [hml]; rfl) e75 (by decide) (W := 0) rfl (by decide) (by decide) (by decide) fun v87 T87 Lc87 X87 Q87 => ?_))
   obtain ⟨rfl, Nq87, Kq87, _, _, A88, A89, ⟨rfl, rfl⟩⟩ := Q87
   have N90 := Fr.app N85 Nq87
   have K91 := Keep.trans K76 Kq87 (allS (Or.inl (by simp)) (allS (Or.inl (by simp)) all0))
   have F92 := Exa.keep F77 Kq87
   have F93 := Fld.keep F78 Kq87 (ninS ne0_ (ninS ne1_ nin0))
   have F94 := Fld.keep F79 Kq87 (ninS ne0_ (ninS ne1_ nin0))
   have F95 := Fld.keep F80 Kq87 (ninS ne0_ (ninS ne1_ nin0))
   have F96 := Fld.keep F81 Kq87 (ninS ne0_ (ninS ne1_ nin0))
   have q100 : ak ∉ [ah, ap] := (ninS (Ne.symm ne4_) (ninS (Ne.symm ne5_) nin0))
   have F99 := ArrL.keep F84 Kq87 q100
   have Z101 := zK Z86 Kq87
   refine g_aloadN X87 hx (D d17_61) rfl rfl rfl (g_iloadN X87 hx (D d17_62) rfl rfl (g_private X87 hx hZ hown (hW hw 138 rfl) (hW hw 139 rfl) (hW hw 140 rfl) (hW hw 54 rfl) (hW hw 55 rfl) (hW hw 141 rfl) (by decide) (rm23_1 l Z a0 hw [] t v1_ T87.heap n0 Z101 ah ap ak v1_ v1_ v2_ v3_ v4_ v5_ (((pl.set a_ (-1 : Int32)).set b_ (0 : Int32)).set b_ (0 : Int32)) ky b_ 0 F93 F94 F95 F96 A88 A89 F99 F92 ne0_ ne1_ ne2_ ne3_ ne4_ ne5_ gh_ gp_ hw1 hb6 (by (try simp only [List.length_set]); exact hkl) (by (try simp only [List.length_set]); exact hpl) (own_sg (by (try simp only [List.length_set]); rw [hpl]; exact hb6)) ) F92 (argsL := [.int v1_]) (rest := []) pd_4 rfl rfl rfl (D d17_63) rfl (by rw [hml]; rfl) rfl (by decide) (W := 0) rfl (by decide) (by decide) (by decide) fun v102 T102 Lc102 X102 Q102 => ?_))
   obtain ⟨rfl, Nq102, Kq102, hp', pl', A103, A104, hU⟩ := Q102
   have N105 := Fr.app N90 Nq102
   have K106 := Keep.trans K91 Kq102 (allS (Or.inl (by simp)) (allS (Or.inl (by simp)) all0))
   have F107 := Exa.keep F92 Kq102
   have F108 := Fld.keep F93 Kq102 (ninS ne0_ (ninS ne1_ nin0))
   have F109 := Fld.keep F94 Kq102 (ninS ne0_ (ninS ne1_ nin0))
   have F110 := Fld.keep F95 Kq102 (ninS ne0_ (ninS ne1_ nin0))
   have F111 := Fld.keep F96 Kq102 (ninS ne0_ (ninS ne1_ nin0))
   have F112 := ArrL.keep F99 Kq102 q100
   have Z115 := zK Z101 Kq102
   exact g_ret X102 hx hlk hrt (D d17_66) (by decide) (by decide) (by skip; exact ⟨rfl, N105, K106, hp', pl', (1 : Int32), F108, F109, F110, F111, A103, A104, F112, own_rm2 I_ hU⟩)
  ·replace hv : nd.toInt = (a_ : Int) := hv
   refine g_aloadN X0 hx (D d17_0) rfl rfl rfl (g_getF X0 hx hZ hown (hW hw 62 rfl) e0 F1_ (D d17_1) rfl fun T116 X116 e116 => (g_iloadN X116 hx (D d17_4) rfl rfl (g_iload_ (i := a_) (v := (0 : Int32)) X116 hx hZ e116 A1_ hv hpv (D d17_5) rfl (g_istoreN (L' := #[vR t, vI nd, vI 0, u0]) X116 hx (D d17_6) rfl rfl (g_iloadN X116 hx (D d17_7) rfl rfl (g_iconst (v := (-1 : Int32)) X116 hx (D d17_8) rfl rfl ?_))))))
   refine g_icmp_ne (q := 13) (q0 := 12) X116 hx (D d17_9) (by decide) (by decide) rfl ?_ (fun h => absurd h (by decide))
   intro c117
   refine g_aloadN X116 hx (D d17_13) rfl rfl rfl (g_getF X116 hx hZ hown (hW hw 62 rfl) e116 F1_ (D d17_14) rfl fun T118 X118 e118 => (g_iloadN X118 hx (D d17_17) rfl rfl (g_iconst (v := (-1 : Int32)) X118 hx (D d17_18) rfl rfl (g_istore_ (i := a_) (v := (-1 : Int32)) X118 hx hZ e118 A1_ hv (by rw [hpl]; exact ha6) (D d17_19) rfl fun T119 h119 X119 e119 W119 A119 => ?_))))
   have K120 := Keep.wr (Keep.refl h0 [t, ah, ap]) W119 (Or.inl (by simp))
   have F121 := Exa.wr W119 E_
   have F122 := Fld.other W119 F0_ (Or.inl ne1_)
   have F123 := Fld.other W119 F1_ (Or.inl ne1_)
   have F124 := Fld.other W119 F2_ (Or.inl ne1_)
   have F125 := Fld.other W119 F3_ (Or.inl ne1_)
   have F126 := ArrL.other A0_ W119 ne3_
   have F128 := ArrL.other A2_ W119 (Ne.symm ne5_)
   have N129 := Fr.snoc X119 N0 gp_
   have Z130 := zW Z0 W119
   refine g_aloadN X119 hx (D d17_20) rfl rfl rfl (g_getF X119 hx hZ hown (hW hw 60 rfl) e119 F122 (D d17_21) rfl fun T131 X131 e131 => (g_aloadN X131 hx (D d17_24) rfl rfl rfl (g_dup X131 hx (D d17_25) rfl rfl (g_getF X131 hx hZ hown (hW hw 93 rfl) e131 F125 (D d17_26) rfl fun T132 X132 e132 => (g_iconst (v := (1 : Int32)) X132 hx (D d17_29) rfl rfl (g_isub X132 hx (D d17_30) rfl ?_))))))
   rw [show ((3 : Int32) - (1 : Int32)) = (2 : Int32) from by decide]
   refine g_dupX1 X132 hx (D d17_31) rfl rfl rfl (g_putF (ty := .int) X132 hx hZ hown (hW hw 93 rfl) e132 F125 F121 (Or.inl (hW hw 94 rfl)) (hW hw 54 rfl) (by decide) rfl rfl (D d17_32) rfl fun T133 h133 X133 e133 W133 F133 => ?_)
   have K134 := Keep.wr K120 W133 (Or.inl (by simp))
   have F135 := Exa.wr W133 F121
   have F136 := Fld.other W133 F122 (Or.inr (slot_ne (a0 := a0) (Or.inr (hW hw 61 rfl)) (Or.inl (hW hw 94 rfl)) (by decide) (t := (.array .int)) (t' := .int) (by decide) (by decide)))
   have F137 := Fld.other W133 F123 (Or.inr (slot_ne (a0 := a0) (Or.inr (hW hw 63 rfl)) (Or.inl (hW hw 94 rfl)) (by decide) (t := (.array .int)) (t' := .int) (by decide) (by decide)))
   have F138 := Fld.other W133 F124 (Or.inr (slot_ne (a0 := a0) (Or.inr (hW hw 65 rfl)) (Or.inl (hW hw 94 rfl)) (by decide) (t := (.array .long)) (t' := .int) (by decide) (by decide)))
   have F140 := ArrL.other F126 W133 (Ne.symm ne0_)
   have F141 := ArrL.other A119 W133 (Ne.symm ne1_)
   have F142 := ArrL.other F128 W133 (Ne.symm ne2_)
   have N143 := Fr.snoc X133 N129 gt_
   have Z144 := zW Z130 W133
   refine g_iload_ (i := 2) (v := v2_) X133 hx hZ e133 F140 rfl rfl (D d17_35) rfl (g_istoreN (L' := #[vR t, vI nd, vI 0, vI v2_]) X133 hx (D d17_36) rfl rfl (g_iloadN X133 hx (D d17_37) rfl rfl (g_iloadN X133 hx (D d17_38) rfl rfl (g_icmp_eq (q := 66) (q0 := 42) X133 hx (D d17_39) (by decide) (by decide) rfl (fun c145 => by exact absurd (Int.ofNat_inj.mp ((hv.symm.trans c145.symm).trans hw2)) nad) fun c145 => (g_aloadN X133 hx (D d17_42) rfl rfl rfl (g_getF X133 hx hZ hown (hW hw 60 rfl) e133 F136 (D d17_43) rfl fun T146 X146 e146 => (g_iloadN X146 hx (D d17_46) rfl rfl (g_iloadN X146 hx (D d17_47) rfl rfl (g_istore_ (i := 0) (v := v2_) X146 hx hZ e146 F140 rfl (by show 0 < 6; decide) (D d17_48) rfl fun T147 h147 X147 e147 W147 A147 => ?_)))))))))
   replace A147 : IA Z h147 ah ([v2_, v1_, v2_, v3_, v4_, v5_] : List Int32) := A147
   have K148 := Keep.wr K134 W147 (Or.inl (by simp))
   have F149 := Exa.wr W147 F135
   have F150 := Fld.other W147 F136 (Or.inl ne0_)
   have F151 := Fld.other W147 F137 (Or.inl ne0_)
   have F152 := Fld.other W147 F138 (Or.inl ne0_)
   have F153 := Fld.other W147 F133 (Or.inl ne0_)
   have F155 := ArrL.other F141 W147 (Ne.symm ne3_)
   have F156 := ArrL.other F142 W147 (Ne.symm ne4_)
   have N157 := Fr.snoc X147 N143 gh_
   have Z158 := zW Z144 W147
   refine g_aloadN X147 hx (D d17_49) rfl rfl rfl (g_getF X147 hx hZ hown (hW hw 62 rfl) e147 F151 (D d17_50) rfl fun T159 X159 e159 => (g_iloadN X159 hx (D d17_53) rfl rfl (g_iloadN X159 hx (D d17_54) rfl rfl (g_istore_ (i := d_) (v := (0 : Int32)) X159 hx hZ e159 F155 hw2 (by (try simp only [List.length_set]); rw [hpl]; exact hd6) (D d17_55) rfl fun T160 h160 X160 e160 W160 A160 => ?_))))
   have K161 := Keep.wr K148 W160 (Or.inl (by simp))
   have F162 := Exa.wr W160 F149
   have F163 := Fld.other W160 F150 (Or.inl ne1_)
   have F164 := Fld.other W160 F151 (Or.inl ne1_)
   have F165 := Fld.other W160 F152 (Or.inl ne1_)
   have F166 := Fld.other W160 F153 (Or.inl ne1_)
   have F167 := ArrL.other A147 W160 ne3_
   have F169 := ArrL.other F156 W160 (Ne.symm ne5_)
   have N170 := Fr.snoc X160 N157 gp_
   have Z171 := zW Z158 W160
   refine g_aloadN X160 hx (D d17_56) rfl rfl rfl (g_iloadN X160 hx (D d17_57) rfl rfl (g_private X160 hx hZ hown (hW hw 95 rfl) (hW hw 96 rfl) (hW hw 97 rfl) (hW hw 54 rfl) (hW hw 55 rfl) (hW hw 98 rfl) (by decide) (rm14_0 l Z a0 hw [] t v2_ h160 n0 Z171 ah ap ak v2_ v1_ v2_ v3_ v4_ v5_ ((pl.set a_ (-1 : Int32)).set d_ (0 : Int32)) ky d_ 0 F163 F164 F165 F167 A160 F169 F162 ne0_ ne1_ ne2_ ne3_ ne4_ ne5_ gh_ gp_ hw2 hd6 (by (try simp only [List.length_set]); exact hkl) (by (try simp only [List.length_set]); exact hpl) (own_sg (by (try simp only [List.length_set]); rw [hpl]; exact hd6)) ) F162 (argsL := [.int v2_]) (rest := []) pd_4 rfl rfl rfl (D d17_58) rfl (by rw [hml]; rfl) e160 (by decide) (W := 0) rfl (by decide) (by decide) (by decide) fun v172 T172 Lc172 X172 Q172 => ?_))
   obtain ⟨rfl, Nq172, Kq172, _, _, A173, A174, ⟨rfl, rfl⟩⟩ := Q172
   have N175 := Fr.app N170 Nq172
   have K176 := Keep.trans K161 Kq172 (allS (Or.inl (by simp)) (allS (Or.inl (by simp)) all0))
   have F177 := Exa.keep F162 Kq172
   have F178 := Fld.keep F163 Kq172 (ninS ne0_ (ninS ne1_ nin0))
   have F179 := Fld.keep F164 Kq172 (ninS ne0_ (ninS ne1_ nin0))
   have F180 := Fld.keep F165 Kq172 (ninS ne0_ (ninS ne1_ nin0))
   have F181 := Fld.keep F166 Kq172 (ninS ne0_ (ninS ne1_ nin0))
   have q185 : ak ∉ [ah, ap] := (ninS (Ne.symm ne4_) (ninS (Ne.symm ne5_) nin0))
   have F184 := ArrL.keep F169 Kq172 q185
   have Z186 := zK Z171 Kq172
   refine g_aloadN X172 hx (D d17_61) rfl rfl rfl (g_iloadN X172 hx (D d17_62) rfl rfl (g_private X172 hx hZ hown (hW hw 138 rfl) (hW hw 139 rfl) (hW hw 140 rfl) (hW hw 54 rfl) (hW hw 55 rfl) (hW hw 141 rfl) (by decide) (rm23_2 l Z a0 hw [] t v2_ T172.heap n0 Z186 ah ap ak v2_ v1_ v2_ v3_ v4_ v5_ (((pl.set a_ (-1 : Int32)).set d_ (0 : Int32)).set d_ (0 : Int32)) ky d_ b_ F178 F179 F180 F181 A173 A174 F184 F177 ne0_ ne1_ ne2_ ne3_ ne4_ ne5_ gh_ gp_ hw2 hd6 (by (try simp only [List.length_set]); exact hkl) (by (try simp only [List.length_set]); exact hpl) (own_sg (by (try simp only [List.length_set]); rw [hpl]; exact hd6)) hw1 hb6) F177 (argsL := [.int v2_]) (rest := []) pd_4 rfl rfl rfl (D d17_63) rfl (by rw [hml]; rfl) rfl (by decide) (W := 0) rfl (by decide) (by decide) (by decide) fun v187 T187 Lc187 X187 Q187 => ?_))
   obtain ⟨rfl, Nq187, Kq187, hp', pl', A188, A189, hU⟩ := Q187
   have N190 := Fr.app N175 Nq187
   have K191 := Keep.trans K176 Kq187 (allS (Or.inl (by simp)) (allS (Or.inl (by simp)) all0))
   have F192 := Exa.keep F177 Kq187
   have F193 := Fld.keep F178 Kq187 (ninS ne0_ (ninS ne1_ nin0))
   have F194 := Fld.keep F179 Kq187 (ninS ne0_ (ninS ne1_ nin0))
   have F195 := Fld.keep F180 Kq187 (ninS ne0_ (ninS ne1_ nin0))
   have F196 := Fld.keep F181 Kq187 (ninS ne0_ (ninS ne1_ nin0))
   have F197 := ArrL.keep F184 Kq187 q185
   have Z200 := zK Z186 Kq187
   exact g_ret X187 hx hlk hrt (D d17_66) (by decide) (by decide) (by skip; exact ⟨rfl, N190, K191, hp', pl', (2 : Int32), F193, F194, F195, F196, A188, A189, F197, own_rm3 hD I_ hC.2 hU⟩)
def RM_rm16 : Room := ({ frames := 3, cells := 0, slots := 0, locals := 45 } : Room)
abbrev b16 := prog_77_method_6_code
theorem d16_0 : decode b16 0 = .ok (.aload_n 0, 1) := by decide +kernel
theorem d16_1 : decode b16 1 = .ok (.getfield 7, 3) := by decide +kernel
theorem d16_4 : decode b16 4 = .ok (.iconst 0, 1) := by decide +kernel
theorem d16_5 : decode b16 5 = .ok (.iaload, 1) := by decide +kernel
theorem d16_6 : decode b16 6 = .ok (.istore_n 1, 1) := by decide +kernel
theorem d16_7 : decode b16 7 = .ok (.aload_n 0, 1) := by decide +kernel
theorem d16_8 : decode b16 8 = .ok (.iload_n 1, 1) := by decide +kernel
theorem d16_9 : decode b16 9 = .ok (.invokevirtual 37, 3) := by decide +kernel
theorem d16_12 : decode b16 12 = .ok (.iload_n 1, 1) := by decide +kernel
theorem d16_13 : decode b16 13 = .ok (.ireturn, 1) := by decide +kernel
theorem ef_16 (m : MethodId) (z0 : Addr) : entryFrame m #[.ref z0] 2 = mkF m 0 #[vR z0, u0] [] := by first | (simp [entryFrame, mkF, argsToLocals, Value.category]; done) | rfl
set_option maxRecDepth 65536 in
set_option maxHeartbeats 40000000 in
theorem rm16 (l : Launch) (Z : State) (a0 : Array Value) (hw : ∀ d ∈ tables_1, d.before a0 Z = true) (ws : List Jvm.Cond) (t : Addr) (h0 : Heap) (n0 : Nat) (Z0 : n0 ≤ h0.size) (ah ap ak : Addr) (hp pl : List Int32) (ky : List Int64) (cn : Int32) (A cs : List Nat) (dd : Int64) (F0_ : Fld Z h0 t kQ "heap" "[I" (.ref ah)) (F1_ : Fld Z h0 t kQ "place" "[I" (.ref ap)) (F2_ : Fld Z h0 t kQ "key" "[J" (.ref ak)) (F3_ : Fld Z h0 t kQ "count" "I" (.int cn)) (A0_ : IA Z h0 ah hp) (A1_ : IA Z h0 ap pl) (A2_ : LA Z h0 ak ky) (E_ : Exa Z h0 t kQ) (ne0_ : t ≠ ah) (ne1_ : t ≠ ap) (ne2_ : t ≠ ak) (ne3_ : ah ≠ ap) (ne4_ : ah ≠ ak) (ne5_ : ap ≠ ak) (gt_ : n0 ≤ t) (gh_ : n0 ≤ ah) (gp_ : n0 ≤ ap) (gk_ : n0 ≤ ak) (hD : DD dd) (hA : A ≠ []) (I_ : QI dd hp pl ky cn A cs) (hC : CI cs) :
    Ctr l Z (⟨kQ, "poll", "()I"⟩ : MethodName) prog_77_method_6_code 2 (some .int) RM_rm16 ws #[.ref t] h0 (fun v h L => ∃ r : Int32, v = some (.int r) ∧ r.toInt = ((pollF cs A).1 : Int) ∧ (pollF cs A).1 < 6 ∧ Fr n0 L ∧ Keep h0 h [t, ah, ap] ∧ ∃ (hp' pl' : List Int32) (cn' : Int32), Fld Z h t kQ "heap" "[I" (.ref ah) ∧ Fld Z h t kQ "place" "[I" (.ref ap) ∧ Fld Z h t kQ "key" "[J" (.ref ak) ∧ Fld Z h t kQ "count" "I" (.int cn') ∧ IA Z h ah hp' ∧ IA Z h ap pl' ∧ LA Z h ak ky ∧ QI dd hp' pl' ky cn' (pollF cs A).2 cs) := by
  refine Ctr.of (plainFor_of_name pn_4) ?_
  intro p e s m below meth c s₁ hx hby hml hrt hlk hnm hown hZ X0 e0
  have N0 := Fr.nil n0
  have D := @hb _ _ hby
  refine Go.cast (ef_16 m t) ?_
  obtain ⟨w0_, hh0, hw0, ha6⟩ := own_h0 I_ hA
  refine g_aloadN X0 hx (D d16_0) rfl rfl rfl (g_getF X0 hx hZ hown (hW hw 60 rfl) e0 F0_ (D d16_1) rfl fun T1 X1 e1 => (g_iconst (v := (0 : Int32)) X1 hx (D d16_4) rfl rfl (g_iload_ (i := 0) (v := w0_) X1 hx hZ e1 A0_ rfl hh0 (D d16_5) rfl (g_istoreN (L' := #[vR t, vI w0_]) X1 hx (D d16_6) rfl rfl (g_aloadN X1 hx (D d16_7) rfl rfl rfl (g_iloadN X1 hx (D d16_8) rfl rfl (g_virtual X1 hx hZ hown (hW hw 109 rfl) (hW hw 110 rfl) (hW hw 112 rfl) (hW hw 111 rfl) (hW hw 55 rfl) (hW hw 113 rfl) (by decide) (rm17 l Z a0 hw [] t w0_ h0 n0 Z0 ah ap ak hp pl ky cn A cs dd F0_ F1_ F2_ F3_ A0_ A1_ A2_ E_ ne0_ ne1_ ne2_ ne3_ ne4_ ne5_ gt_ gh_ gp_ gk_ hD hA hw0 I_ hC) E_ (argsL := [.int w0_]) (rest := []) pd_4 rfl rfl rfl (D d16_9) rfl (by rw [hml]; rfl) e1 (by decide) (W := 0) rfl (by decide) (by decide) (by decide) fun v2 T2 Lc2 X2 Q2 => ?_)))))))
  obtain ⟨rfl, Nq2, Kq2, hp3, pl4, cn5, F6, F7, F8, F9, A10, A11, A12, I13⟩ := Q2
  have N14 := Fr.app N0 Nq2
  have K15 := Keep.trans (Keep.refl h0 [t, ah, ap]) Kq2 (allS (Or.inl (by simp)) (allS (Or.inl (by simp)) (allS (Or.inl (by simp)) all0)))
  have F16 := Exa.keep E_ Kq2
  have Z23 := zK Z0 Kq2
  refine g_iloadN X2 hx (D d16_12) rfl rfl ?_
  exact g_ireturn X2 hx hlk hrt (D d16_13) (by decide) (by decide) (by skip; exact ⟨_, rfl, hw0, ha6, N14, K15, hp3, pl4, cn5, F6, F7, F8, F9, A10, A11, A12, I13⟩)
theorem pd_5 : parseMethodDescriptor "()I" = some ⟨[], some .int⟩ := by decide +kernel
theorem pd_6 : parseMethodDescriptor "([JJ)V" = some ⟨[(.array .long), .long], none⟩ := by decide +kernel
def RM_rm6 : Room := ({ frames := 2, cells := 6, slots := 34, locals := 30 } : Room)
abbrev b6 := prog_82_method_1_code
theorem d6_0 : decode b6 0 = .ok (.aload_n 0, 1) := by decide +kernel
theorem d6_1 : decode b6 1 = .ok (.invokespecial 3, 3) := by decide +kernel
theorem d6_4 : decode b6 4 = .ok (.aload_n 0, 1) := by decide +kernel
theorem d6_5 : decode b6 5 = .ok (.aload_n 1, 1) := by decide +kernel
theorem d6_6 : decode b6 6 = .ok (.putfield 9, 3) := by decide +kernel
theorem d6_9 : decode b6 9 = .ok (.aload_n 0, 1) := by decide +kernel
theorem d6_10 : decode b6 10 = .ok (.aload_n 2, 1) := by decide +kernel
theorem d6_11 : decode b6 11 = .ok (.putfield 15, 3) := by decide +kernel
theorem d6_14 : decode b6 14 = .ok (.aload_n 0, 1) := by decide +kernel
theorem d6_15 : decode b6 15 = .ok (.iconst 2, 1) := by decide +kernel
theorem d6_16 : decode b6 16 = .ok (.aload_n 1, 1) := by decide +kernel
theorem d6_17 : decode b6 17 = .ok (.invokevirtual 19, 3) := by decide +kernel
theorem d6_20 : decode b6 20 = .ok (.imul, 1) := by decide +kernel
theorem d6_21 : decode b6 21 = .ok (.newarray .long, 2) := by decide +kernel
theorem d6_23 : decode b6 23 = .ok (.putfield 25, 3) := by decide +kernel
theorem d6_26 : decode b6 26 = .ok (.aload_n 0, 1) := by decide +kernel
theorem d6_27 : decode b6 27 = .ok (.iconst 2, 1) := by decide +kernel
theorem d6_28 : decode b6 28 = .ok (.aload_n 1, 1) := by decide +kernel
theorem d6_29 : decode b6 29 = .ok (.invokevirtual 19, 3) := by decide +kernel
theorem d6_32 : decode b6 32 = .ok (.imul, 1) := by decide +kernel
theorem d6_33 : decode b6 33 = .ok (.newarray .int, 2) := by decide +kernel
theorem d6_35 : decode b6 35 = .ok (.putfield 28, 3) := by decide +kernel
theorem d6_38 : decode b6 38 = .ok (.aload_n 0, 1) := by decide +kernel
theorem d6_39 : decode b6 39 = .ok (.new 32, 3) := by decide +kernel
theorem d6_42 : decode b6 42 = .ok (.dup, 1) := by decide +kernel
theorem d6_43 : decode b6 43 = .ok (.iconst 2, 1) := by decide +kernel
theorem d6_44 : decode b6 44 = .ok (.aload_n 1, 1) := by decide +kernel
theorem d6_45 : decode b6 45 = .ok (.invokevirtual 19, 3) := by decide +kernel
theorem d6_48 : decode b6 48 = .ok (.imul, 1) := by decide +kernel
theorem d6_49 : decode b6 49 = .ok (.invokespecial 34, 3) := by decide +kernel
theorem d6_52 : decode b6 52 = .ok (.putfield 37, 3) := by decide +kernel
theorem d6_55 : decode b6 55 = .ok (.aload_n 0, 1) := by decide +kernel
theorem d6_56 : decode b6 56 = .ok (.getfield 25, 3) := by decide +kernel
theorem d6_59 : decode b6 59 = .ok (.ldc2_w 41, 3) := by decide +kernel
theorem d6_62 : decode b6 62 = .ok (.invokestatic 43, 3) := by decide +kernel
theorem d6_65 : decode b6 65 = .ok (.return_, 1) := by decide +kernel
theorem ef_6 (m : MethodId) (z0 : Addr) (z1 : Addr) (z2 : Addr) : entryFrame m #[.ref z0, .ref z1, .ref z2] 3 = mkF m 0 #[vR z0, vR z1, vR z2] [] := by first | (simp [entryFrame, mkF, argsToLocals, Value.category]; done) | rfl
theorem pn_5 : plainName kV = true := by first | (simp [plainName, overriddenIn]; done) | decide +kernel
set_option maxRecDepth 65536 in
set_option maxHeartbeats 40000000 in
theorem rm6 (l : Launch) (Z : State) (a0 : Array Value) (hw : ∀ d ∈ tables_1, d.before a0 Z = true) (ws : List Jvm.Cond) (t : Addr) (ad : Addr) (so : Addr) (h0 : Heap) (n0 : Nat) (Z0 : n0 ≤ h0.size) (F0_ : Fld Z h0 t kV "into" "Lcom/example/hedged_dispatch/hedgeddispatch/stn/Adjacency;" (.null)) (F1_ : Fld Z h0 t kV "solution" "[J" (.null)) (F2_ : Fld Z h0 t kV "key" "[J" (.null)) (F3_ : Fld Z h0 t kV "reached" "[I" (.null)) (F4_ : Fld Z h0 t kV "queue" "Lcom/example/hedged_dispatch/hedgeddispatch/stn/NodeQueue;" (.null)) (F5_ : Fld Z h0 t kV "reachedCount" "I" (.int 0)) (F6_ : Fld Z h0 t kV "target" "I" (.int 0)) (E_ : Exa Z h0 t kV) (gt_ : n0 ≤ t) (xs : Addr) (s0_ s1_ s2_ s3_ : Int32) (E2_ : Exa Z h0 ad kA) (G0_ : Fld Z h0 ad kA "starts" "[I" (.ref xs)) (A0_ : IA Z h0 xs [s0_, s1_, s2_, s3_]) (ne0_ : t ≠ ad) (ne1_ : t ≠ xs) :
    Ctr l Z (⟨kV, "<init>", "(Lcom/example/hedged_dispatch/hedgeddispatch/stn/Adjacency;[J)V"⟩ : MethodName) prog_82_method_1_code 3 none RM_rm6 ws #[.ref t, .ref ad, .ref so] h0 (fun v h L => v = none ∧ Fr n0 L ∧ Keep h0 h [t] ∧ ∃ ka ra qo qh qp qk : Addr, h0.size ≤ ka ∧ h0.size ≤ ra ∧ h0.size ≤ qo ∧ h0.size ≤ qh ∧ h0.size ≤ qp ∧ h0.size ≤ qk ∧ ka ≠ ra ∧ ka ≠ qo ∧ ka ≠ qh ∧ ka ≠ qp ∧ ka ≠ qk ∧ ra ≠ qo ∧ ra ≠ qh ∧ ra ≠ qp ∧ ra ≠ qk ∧ qo ≠ qh ∧ qo ≠ qp ∧ qo ≠ qk ∧ qh ≠ qp ∧ qh ≠ qk ∧ qp ≠ qk ∧ Fld Z h t kV "into" "Lcom/example/hedged_dispatch/hedgeddispatch/stn/Adjacency;" (.ref ad) ∧ Fld Z h t kV "solution" "[J" (.ref so) ∧ Fld Z h t kV "key" "[J" (.ref ka) ∧ Fld Z h t kV "reached" "[I" (.ref ra) ∧ Fld Z h t kV "queue" "Lcom/example/hedged_dispatch/hedgeddispatch/stn/NodeQueue;" (.ref qo) ∧ Fld Z h t kV "reachedCount" "I" (.int 0) ∧ Fld Z h t kV "target" "I" (.int 0) ∧ Exa Z h qo kQ ∧ Fld Z h qo kQ "heap" "[I" (.ref qh) ∧ Fld Z h qo kQ "place" "[I" (.ref qp) ∧ Fld Z h qo kQ "key" "[J" (.ref qk) ∧ Fld Z h qo kQ "count" "I" (.int 0) ∧ LA Z h ka ([9223372036854775807, 9223372036854775807, 9223372036854775807, 9223372036854775807, 9223372036854775807, 9223372036854775807] : List Int64) ∧ IA Z h ra ([0, 0, 0, 0, 0, 0] : List Int32) ∧ IA Z h qh ([0, 0, 0, 0, 0, 0] : List Int32) ∧ IA Z h qp ([-1, -1, -1, -1, -1, -1] : List Int32) ∧ LA Z h qk ([0, 0, 0, 0, 0, 0] : List Int64)) := by
  refine Ctr.of (plainFor_of_name pn_5) ?_
  intro p e s m below meth c s₁ hx hby hml hrt hlk hnm hown hZ X0 e0
  have N0 := Fr.nil n0
  have D := @hb _ _ hby
  refine Go.cast (ef_6 m t ad so) ?_
  refine g_aloadN X0 hx (D d6_0) rfl rfl rfl (g_initO X0 hx hZ hown (hW hw 39 rfl) (hW hw 14 rfl) (hW hw 15 rfl) e0 (by rw [hml]; rfl) (D d6_1) rfl (by decide) (W := 0) rfl (by decide) fun T1 X1 e1 => (g_aloadN X1 hx (D d6_4) rfl rfl rfl (g_aloadN X1 hx (D d6_5) rfl rfl rfl (g_putF (ty := (.object kA)) X1 hx hZ hown (hW hw 40 rfl) e1 F0_ E_ (Or.inr ⟨(hW hw 41 rfl), rfl, hnm⟩) (hW hw 34 rfl) (by decide) rfl rfl (D d6_6) rfl fun T2 h2 X2 e2 W2 F2 => ?_))))
  have K3 := Keep.wr (Keep.refl h0 [t]) W2 (Or.inl (by simp))
  have F4 := Exa.wr W2 E_
  have F6 := Fld.other W2 F1_ (Or.inr (slot_ne (a0 := a0) (Or.inr (hW hw 43 rfl)) (Or.inr (hW hw 41 rfl)) (by decide) (t := (.array .long)) (t' := (.object kA)) (by decide) (by decide)))
  have F7 := Fld.other W2 F2_ (Or.inr (slot_ne (a0 := a0) (Or.inr (hW hw 50 rfl)) (Or.inr (hW hw 41 rfl)) (by decide) (t := (.array .long)) (t' := (.object kA)) (by decide) (by decide)))
  have F8 := Fld.other W2 F3_ (Or.inr (slot_ne (a0 := a0) (Or.inr (hW hw 52 rfl)) (Or.inr (hW hw 41 rfl)) (by decide) (t := (.array .int)) (t' := (.object kA)) (by decide) (by decide)))
  have F9 := Fld.other W2 F4_ (Or.inr (slot_ne (a0 := a0) (Or.inr (hW hw 70 rfl)) (Or.inr (hW hw 41 rfl)) (by decide) (t := (.object kQ)) (t' := (.object kA)) (by decide) (by decide)))
  have F10 := Fld.other W2 F5_ (Or.inr (slot_ne (a0 := a0) (Or.inl (hW hw 81 rfl)) (Or.inr (hW hw 41 rfl)) (by decide) (t := .int) (t' := (.object kA)) (by decide) (by decide)))
  have F11 := Fld.other W2 F6_ (Or.inr (slot_ne (a0 := a0) (Or.inl (hW hw 83 rfl)) (Or.inr (hW hw 41 rfl)) (by decide) (t := .int) (t' := (.object kA)) (by decide) (by decide)))
  have F12 := Exa.wr W2 E2_
  have F13 := Fld.other W2 G0_ (Or.inl (Ne.symm ne0_))
  have F14 := ArrL.other A0_ W2 (Ne.symm ne1_)
  have N15 := Fr.snoc X2 N0 gt_
  have Z16 := zW Z0 W2
  refine g_aloadN X2 hx (D d6_9) rfl rfl rfl (g_aloadN X2 hx (D d6_10) rfl rfl rfl (g_putF (ty := (.array .long)) X2 hx hZ hown (hW hw 42 rfl) e2 F6 F4 (Or.inr ⟨(hW hw 43 rfl), rfl, hnm⟩) (hW hw 34 rfl) (by decide) rfl rfl (D d6_11) rfl fun T17 h17 X17 e17 W17 F17 => ?_))
  have K18 := Keep.wr K3 W17 (Or.inl (by simp))
  have F19 := Exa.wr W17 F4
  have F20 := Fld.other W17 F2 (Or.inr (slot_ne (a0 := a0) (Or.inr (hW hw 41 rfl)) (Or.inr (hW hw 43 rfl)) (by decide) (t := (.object kA)) (t' := (.array .long)) (by decide) (by decide)))
  have F22 := Fld.other W17 F7 (Or.inr (slot_ne (a0 := a0) (Or.inr (hW hw 50 rfl)) (Or.inr (hW hw 43 rfl)) (by decide) (t := (.array .long)) (t' := (.array .long)) (by decide) (by decide)))
  have F23 := Fld.other W17 F8 (Or.inr (slot_ne (a0 := a0) (Or.inr (hW hw 52 rfl)) (Or.inr (hW hw 43 rfl)) (by decide) (t := (.array .int)) (t' := (.array .long)) (by decide) (by decide)))
  have F24 := Fld.other W17 F9 (Or.inr (slot_ne (a0 := a0) (Or.inr (hW hw 70 rfl)) (Or.inr (hW hw 43 rfl)) (by decide) (t := (.object kQ)) (t' := (.array .long)) (by decide) (by decide)))
  have F25 := Fld.other W17 F10 (Or.inr (slot_ne (a0 := a0) (Or.inl (hW hw 81 rfl)) (Or.inr (hW hw 43 rfl)) (by decide) (t := .int) (t' := (.array .long)) (by decide) (by decide)))
  have F26 := Fld.other W17 F11 (Or.inr (slot_ne (a0 := a0) (Or.inl (hW hw 83 rfl)) (Or.inr (hW hw 43 rfl)) (by decide) (t := .int) (t' := (.array .long)) (by decide) (by decide)))
  have F27 := Exa.wr W17 F12
  have F28 := Fld.other W17 F13 (Or.inl (Ne.symm ne0_))
  have F29 := ArrL.other F14 W17 (Ne.symm ne1_)
  have N30 := Fr.snoc X17 N15 gt_
  have Z31 := zW Z16 W17
  refine g_aloadN X17 hx (D d6_14) rfl rfl rfl (g_iconst (v := (2 : Int32)) X17 hx (D d6_15) rfl rfl (g_aloadN X17 hx (D d6_16) rfl rfl rfl (g_virtualP X17 hx hZ hown (hW hw 44 rfl) (hW hw 45 rfl) (hW hw 47 rfl) (hW hw 46 rfl) (hW hw 9 rfl) (hW hw 48 rfl) (by decide) (rm7 l Z a0 hw [] ad h17 n0 Z31 xs s0_ s1_ s2_ s3_ F28 F29) F27 (argsL := []) (rest := [.int 2, .ref t]) pd_5 rfl rfl rfl (D d6_17) rfl (by rw [hml]; rfl) e17 (by decide) (W := 2) rfl (by decide) rfl rfl (by decide) (by decide) fun T32 X32 e32 => (g_imul X32 hx (D d6_20) rfl ?_))))
  rw [show ((2 : Int32) * (3 : Int32)) = (6 : Int32) from by decide]
  refine g_lnew_ (n := 6) (cap := 6) X32 hx hZ (hW hw 1 rfl) e32 rfl (by decide) (by decide) (D d6_21) rfl (by decide) (by decide) fun T33 h33 o33 X33 e33 E33 q33 A33 => ?_
  replace A33 : LA Z h33 o33 ([0, 0, 0, 0, 0, 0] : List Int64) := A33
  have n34 : t ≠ o33 := ne_new F19.lt q33
  have n35 : ad ≠ o33 := ne_new F27.lt q33
  have n36 : xs ≠ o33 := ne_new F29.lt q33
  have g37 : n0 ≤ o33 := ge_new Z31 q33
  have g38 : h0.size ≤ o33 := ge_new K18.1 q33
  have K39 := Keep.ext K18 E33
  have F40 := Exa.ext E33 F19
  have F41 := Fld.ext E33 F20
  have F42 := Fld.ext E33 F17
  have F43 := Fld.ext E33 F22
  have F44 := Fld.ext E33 F23
  have F45 := Fld.ext E33 F24
  have F46 := Fld.ext E33 F25
  have F47 := Fld.ext E33 F26
  have F48 := Exa.ext E33 F27
  have F49 := Fld.ext E33 F28
  have F50 := ArrL.ext F29 E33
  have Z51 := zE Z31 E33
  refine g_putF (ty := (.array .long)) X33 hx hZ hown (hW hw 49 rfl) e33 F43 F40 (Or.inr ⟨(hW hw 50 rfl), rfl, hnm⟩) (hW hw 34 rfl) (by decide) rfl rfl (D d6_23) rfl fun T52 h52 X52 e52 W52 F52 => ?_
  have K53 := Keep.wr K39 W52 (Or.inl (by simp))
  have F54 := Exa.wr W52 F40
  have F55 := Fld.other W52 F41 (Or.inr (slot_ne (a0 := a0) (Or.inr (hW hw 41 rfl)) (Or.inr (hW hw 50 rfl)) (by decide) (t := (.object kA)) (t' := (.array .long)) (by decide) (by decide)))
  have F56 := Fld.other W52 F42 (Or.inr (slot_ne (a0 := a0) (Or.inr (hW hw 43 rfl)) (Or.inr (hW hw 50 rfl)) (by decide) (t := (.array .long)) (t' := (.array .long)) (by decide) (by decide)))
  have F58 := Fld.other W52 F44 (Or.inr (slot_ne (a0 := a0) (Or.inr (hW hw 52 rfl)) (Or.inr (hW hw 50 rfl)) (by decide) (t := (.array .int)) (t' := (.array .long)) (by decide) (by decide)))
  have F59 := Fld.other W52 F45 (Or.inr (slot_ne (a0 := a0) (Or.inr (hW hw 70 rfl)) (Or.inr (hW hw 50 rfl)) (by decide) (t := (.object kQ)) (t' := (.array .long)) (by decide) (by decide)))
  have F60 := Fld.other W52 F46 (Or.inr (slot_ne (a0 := a0) (Or.inl (hW hw 81 rfl)) (Or.inr (hW hw 50 rfl)) (by decide) (t := .int) (t' := (.array .long)) (by decide) (by decide)))
  have F61 := Fld.other W52 F47 (Or.inr (slot_ne (a0 := a0) (Or.inl (hW hw 83 rfl)) (Or.inr (hW hw 50 rfl)) (by decide) (t := .int) (t' := (.array .long)) (by decide) (by decide)))
  have F62 := Exa.wr W52 F48
  have F63 := Fld.other W52 F49 (Or.inl (Ne.symm ne0_))
  have F64 := ArrL.other F50 W52 (Ne.symm ne1_)
  have F65 := ArrL.other A33 W52 (Ne.symm n34)
  have N66 := Fr.snoc X52 N30 gt_
  have Z67 := zW Z51 W52
  refine g_aloadN X52 hx (D d6_26) rfl rfl rfl (g_iconst (v := (2 : Int32)) X52 hx (D d6_27) rfl rfl (g_aloadN X52 hx (D d6_28) rfl rfl rfl (g_virtualP X52 hx hZ hown (hW hw 44 rfl) (hW hw 45 rfl) (hW hw 47 rfl) (hW hw 46 rfl) (hW hw 9 rfl) (hW hw 48 rfl) (by decide) (rm7 l Z a0 hw [] ad h52 n0 Z67 xs s0_ s1_ s2_ s3_ F63 F64) F62 (argsL := []) (rest := [.int 2, .ref t]) pd_5 rfl rfl rfl (D d6_29) rfl (by rw [hml]; rfl) e52 (by decide) (W := 2) rfl (by decide) rfl rfl (by decide) (by decide) fun T68 X68 e68 => (g_imul X68 hx (D d6_32) rfl ?_))))
  rw [show ((2 : Int32) * (3 : Int32)) = (6 : Int32) from by decide]
  refine g_inew_ (n := 6) (cap := 6) X68 hx hZ (hW hw 0 rfl) e68 rfl (by decide) (by decide) (D d6_33) rfl (by decide) (by decide) fun T69 h69 o69 X69 e69 E69 q69 A69 => ?_
  replace A69 : IA Z h69 o69 ([0, 0, 0, 0, 0, 0] : List Int32) := A69
  have n70 : t ≠ o69 := ne_new F54.lt q69
  have n71 : ad ≠ o69 := ne_new F62.lt q69
  have n72 : xs ≠ o69 := ne_new F64.lt q69
  have n73 : o33 ≠ o69 := ne_new F65.lt q69
  have g74 : n0 ≤ o69 := ge_new Z67 q69
  have g75 : h0.size ≤ o69 := ge_new K53.1 q69
  have K76 := Keep.ext K53 E69
  have F77 := Exa.ext E69 F54
  have F78 := Fld.ext E69 F55
  have F79 := Fld.ext E69 F56
  have F80 := Fld.ext E69 F52
  have F81 := Fld.ext E69 F58
  have F82 := Fld.ext E69 F59
  have F83 := Fld.ext E69 F60
  have F84 := Fld.ext E69 F61
  have F85 := Exa.ext E69 F62
  have F86 := Fld.ext E69 F63
  have F87 := ArrL.ext F64 E69
  have F88 := ArrL.ext F65 E69
  have Z89 := zE Z67 E69
  refine g_putF (ty := (.array .int)) X69 hx hZ hown (hW hw 51 rfl) e69 F81 F77 (Or.inr ⟨(hW hw 52 rfl), rfl, hnm⟩) (hW hw 34 rfl) (by decide) rfl rfl (D d6_35) rfl fun T90 h90 X90 e90 W90 F90 => ?_
  have K91 := Keep.wr K76 W90 (Or.inl (by simp))
  have F92 := Exa.wr W90 F77
  have F93 := Fld.other W90 F78 (Or.inr (slot_ne (a0 := a0) (Or.inr (hW hw 41 rfl)) (Or.inr (hW hw 52 rfl)) (by decide) (t := (.object kA)) (t' := (.array .int)) (by decide) (by decide)))
  have F94 := Fld.other W90 F79 (Or.inr (slot_ne (a0 := a0) (Or.inr (hW hw 43 rfl)) (Or.inr (hW hw 52 rfl)) (by decide) (t := (.array .long)) (t' := (.array .int)) (by decide) (by decide)))
  have F95 := Fld.other W90 F80 (Or.inr (slot_ne (a0 := a0) (Or.inr (hW hw 50 rfl)) (Or.inr (hW hw 52 rfl)) (by decide) (t := (.array .long)) (t' := (.array .int)) (by decide) (by decide)))
  have F97 := Fld.other W90 F82 (Or.inr (slot_ne (a0 := a0) (Or.inr (hW hw 70 rfl)) (Or.inr (hW hw 52 rfl)) (by decide) (t := (.object kQ)) (t' := (.array .int)) (by decide) (by decide)))
  have F98 := Fld.other W90 F83 (Or.inr (slot_ne (a0 := a0) (Or.inl (hW hw 81 rfl)) (Or.inr (hW hw 52 rfl)) (by decide) (t := .int) (t' := (.array .int)) (by decide) (by decide)))
  have F99 := Fld.other W90 F84 (Or.inr (slot_ne (a0 := a0) (Or.inl (hW hw 83 rfl)) (Or.inr (hW hw 52 rfl)) (by decide) (t := .int) (t' := (.array .int)) (by decide) (by decide)))
  have F100 := Exa.wr W90 F85
  have F101 := Fld.other W90 F86 (Or.inl (Ne.symm ne0_))
  have F102 := ArrL.other F87 W90 (Ne.symm ne1_)
  have F103 := ArrL.other F88 W90 (Ne.symm n34)
  have F104 := ArrL.other A69 W90 (Ne.symm n70)
  have N105 := Fr.snoc X90 N66 gt_
  have Z106 := zW Z89 W90
  refine g_aloadN X90 hx (D d6_38) rfl rfl rfl (g_newO X90 hx hZ hown (hW hw 53 rfl) (hW hw 54 rfl) (hW hw 55 rfl) e90 (D d6_39) rfl (by decide) (by decide) fun T107 h107 o107 X107 e107 E107 q107 A107 D107 => ?_)
  have n108 : t ≠ o107 := ne_new F92.lt q107
  have n109 : ad ≠ o107 := ne_new F100.lt q107
  have n110 : xs ≠ o107 := ne_new F102.lt q107
  have n111 : o33 ≠ o107 := ne_new F103.lt q107
  have n112 : o69 ≠ o107 := ne_new F104.lt q107
  have g113 : n0 ≤ o107 := ge_new Z106 q107
  have g114 : h0.size ≤ o107 := ge_new K91.1 q107
  have K115 := Keep.ext K91 E107
  have F116 := Exa.ext E107 F92
  have F117 := Fld.ext E107 F93
  have F118 := Fld.ext E107 F94
  have F119 := Fld.ext E107 F95
  have F120 := Fld.ext E107 F90
  have F121 := Fld.ext E107 F97
  have F122 := Fld.ext E107 F98
  have F123 := Fld.ext E107 F99
  have F124 := Exa.ext E107 F100
  have F125 := Fld.ext E107 F101
  have F126 := ArrL.ext F102 E107
  have F127 := ArrL.ext F103 E107
  have F128 := ArrL.ext F104 E107
  have Z129 := zE Z106 E107
  have F130 : Fld Z h107 o107 kQ "heap" "[I" (.null) := D107 (Or.inr (hW hw 61 rfl)) (ty := (.array .int)) (by decide)
  have F131 : Fld Z h107 o107 kQ "place" "[I" (.null) := D107 (Or.inr (hW hw 63 rfl)) (ty := (.array .int)) (by decide)
  have F132 : Fld Z h107 o107 kQ "key" "[J" (.null) := D107 (Or.inr (hW hw 65 rfl)) (ty := (.array .long)) (by decide)
  have F133 : Fld Z h107 o107 kQ "count" "I" (.int 0) := D107 (Or.inl (hW hw 94 rfl)) (ty := .int) (by decide)
  refine g_dup X107 hx (D d6_42) rfl rfl (g_iconst (v := (2 : Int32)) X107 hx (D d6_43) rfl rfl (g_aloadN X107 hx (D d6_44) rfl rfl rfl (g_virtualP X107 hx hZ hown (hW hw 44 rfl) (hW hw 45 rfl) (hW hw 47 rfl) (hW hw 46 rfl) (hW hw 9 rfl) (hW hw 48 rfl) (by decide) (rm7 l Z a0 hw [] ad h107 n0 Z129 xs s0_ s1_ s2_ s3_ F125 F126) F124 (argsL := []) (rest := [.int 2, .ref o107, .ref o107, .ref t]) pd_5 rfl rfl rfl (D d6_45) rfl (by rw [hml]; rfl) e107 (by decide) (W := 4) rfl (by decide) rfl rfl (by decide) (by decide) fun T134 X134 e134 => (g_imul X134 hx (D d6_48) rfl ?_))))
  rw [show ((2 : Int32) * (3 : Int32)) = (6 : Int32) from by decide]
  refine g_special X134 hx hZ rfl hown (hW hw 56 rfl) (hW hw 57 rfl) (hW hw 55 rfl) (hW hw 58 rfl) (by decide) (rm8 l Z a0 hw [] o107 h107 n0 Z129 F130 F131 F132 F133 A107 g113) (argsL := [.int 6]) (rest := [.ref o107, .ref t]) pd_4 rfl rfl rfl (D d6_49) rfl (by rw [hml]; rfl) e134 (by decide) (W := 2) rfl (by decide) (by decide) (by decide) fun v135 T135 Lc135 X135 Q135 => ?_
  obtain ⟨rfl, Nq135, Kq135, o136, o137, o138, g139, g140, g141, n142, n143, n144, F145, F146, F147, F148, A149, A150, A151⟩ := Q135
  have N152 := Fr.app N105 Nq135
  have K153 := Keep.trans K115 Kq135 (allS (Or.inr g114) all0)
  have F154 := Exa.keep F116 Kq135
  have F155 := Fld.keep F117 Kq135 (ninS n108 nin0)
  have F156 := Fld.keep F118 Kq135 (ninS n108 nin0)
  have F157 := Fld.keep F119 Kq135 (ninS n108 nin0)
  have F158 := Fld.keep F120 Kq135 (ninS n108 nin0)
  have F159 := Fld.keep F121 Kq135 (ninS n108 nin0)
  have F160 := Fld.keep F122 Kq135 (ninS n108 nin0)
  have F161 := Fld.keep F123 Kq135 (ninS n108 nin0)
  have F162 := Exa.keep F124 Kq135
  have F163 := Fld.keep F125 Kq135 (ninS n109 nin0)
  have F164 := ArrL.keep F126 Kq135 (ninS n110 nin0)
  have F165 := ArrL.keep F127 Kq135 (ninS n111 nin0)
  have F166 := ArrL.keep F128 Kq135 (ninS n112 nin0)
  have F167 := Exa.keep A107 Kq135
  have Z168 := zK Z129 Kq135
  have n169 : t ≠ o136 := ne_ge F123.lt g139
  have n170 : ad ≠ o136 := ne_ge F125.lt g139
  have n171 : xs ≠ o136 := ne_ge F126.lt g139
  have n172 : o33 ≠ o136 := ne_ge F127.lt g139
  have n173 : o69 ≠ o136 := ne_ge F128.lt g139
  have n174 : o107 ≠ o136 := ne_ge F133.lt g139
  have g175 : h0.size ≤ o136 := Nat.le_trans K115.1 g139
  have g176 : n0 ≤ o136 := Nat.le_trans Z129 g139
  have n177 : t ≠ o137 := ne_ge F123.lt g140
  have n178 : ad ≠ o137 := ne_ge F125.lt g140
  have n179 : xs ≠ o137 := ne_ge F126.lt g140
  have n180 : o33 ≠ o137 := ne_ge F127.lt g140
  have n181 : o69 ≠ o137 := ne_ge F128.lt g140
  have n182 : o107 ≠ o137 := ne_ge F133.lt g140
  have g183 : h0.size ≤ o137 := Nat.le_trans K115.1 g140
  have g184 : n0 ≤ o137 := Nat.le_trans Z129 g140
  have n185 : t ≠ o138 := ne_ge F123.lt g141
  have n186 : ad ≠ o138 := ne_ge F125.lt g141
  have n187 : xs ≠ o138 := ne_ge F126.lt g141
  have n188 : o33 ≠ o138 := ne_ge F127.lt g141
  have n189 : o69 ≠ o138 := ne_ge F128.lt g141
  have n190 : o107 ≠ o138 := ne_ge F133.lt g141
  have g191 : h0.size ≤ o138 := Nat.le_trans K115.1 g141
  have g192 : n0 ≤ o138 := Nat.le_trans Z129 g141
  refine g_putF (ty := (.object kQ)) X135 hx hZ hown (hW hw 69 rfl) rfl F159 F154 (Or.inr ⟨(hW hw 70 rfl), rfl, hnm⟩) (hW hw 34 rfl) (by decide) rfl rfl (D d6_52) rfl fun T193 h193 X193 e193 W193 F193 => ?_
  have K194 := Keep.wr K153 W193 (Or.inl (by simp))
  have F195 := Exa.wr W193 F154
  have F196 := Fld.other W193 F155 (Or.inr (slot_ne (a0 := a0) (Or.inr (hW hw 41 rfl)) (Or.inr (hW hw 70 rfl)) (by decide) (t := (.object kA)) (t' := (.object kQ)) (by decide) (by decide)))
  have F197 := Fld.other W193 F156 (Or.inr (slot_ne (a0 := a0) (Or.inr (hW hw 43 rfl)) (Or.inr (hW hw 70 rfl)) (by decide) (t := (.array .long)) (t' := (.object kQ)) (by decide) (by decide)))
  have F198 := Fld.other W193 F157 (Or.inr (slot_ne (a0 := a0) (Or.inr (hW hw 50 rfl)) (Or.inr (hW hw 70 rfl)) (by decide) (t := (.array .long)) (t' := (.object kQ)) (by decide) (by decide)))
  have F199 := Fld.other W193 F158 (Or.inr (slot_ne (a0 := a0) (Or.inr (hW hw 52 rfl)) (Or.inr (hW hw 70 rfl)) (by decide) (t := (.array .int)) (t' := (.object kQ)) (by decide) (by decide)))
  have F201 := Fld.other W193 F160 (Or.inr (slot_ne (a0 := a0) (Or.inl (hW hw 81 rfl)) (Or.inr (hW hw 70 rfl)) (by decide) (t := .int) (t' := (.object kQ)) (by decide) (by decide)))
  have F202 := Fld.other W193 F161 (Or.inr (slot_ne (a0 := a0) (Or.inl (hW hw 83 rfl)) (Or.inr (hW hw 70 rfl)) (by decide) (t := .int) (t' := (.object kQ)) (by decide) (by decide)))
  have F203 := Exa.wr W193 F162
  have F204 := Fld.other W193 F163 (Or.inl (Ne.symm ne0_))
  have F205 := ArrL.other F164 W193 (Ne.symm ne1_)
  have F206 := ArrL.other F165 W193 (Ne.symm n34)
  have F207 := ArrL.other F166 W193 (Ne.symm n70)
  have F208 := Exa.wr W193 F167
  have F209 := Fld.other W193 F145 (Or.inl (Ne.symm n108))
  have F210 := Fld.other W193 F146 (Or.inl (Ne.symm n108))
  have F211 := Fld.other W193 F147 (Or.inl (Ne.symm n108))
  have F212 := Fld.other W193 F148 (Or.inl (Ne.symm n108))
  have F213 := ArrL.other A149 W193 (Ne.symm n169)
  have F214 := ArrL.other A150 W193 (Ne.symm n177)
  have F215 := ArrL.other A151 W193 (Ne.symm n185)
  have N216 := Fr.snoc X193 N152 gt_
  have Z217 := zW Z168 W193
  refine g_aloadN X193 hx (D d6_55) rfl rfl rfl (g_getF X193 hx hZ hown (hW hw 49 rfl) e193 F198 (D d6_56) rfl fun T218 X218 e218 => (g_ldc2J X218 hx hZ hown (hW hw 71 rfl) (D d6_59) rfl (g_callS X218 hx hZ hown (hW hw 72 rfl) (hW hw 73 rfl) (hW hw 20 rfl) (hW hw 74 rfl) (by decide) (rm10 l Z a0 hw [] o33 h193 n0 Z217 F206 g37) (argsL := [.ref o33, .long 9223372036854775807]) (rest := []) pd_6 rfl rfl rfl (D d6_62) rfl (by rw [hml]; rfl) e218 (by decide) (W := 0) rfl (by decide) (by decide) (by decide) fun v219 T219 Lc219 X219 Q219 => ?_)))
  obtain ⟨rfl, Nq219, Kq219, A220⟩ := Q219
  have N221 := Fr.app N216 Nq219
  have K222 := Keep.trans K194 Kq219 (allS (Or.inr g38) all0)
  have F223 := Exa.keep F195 Kq219
  have F224 := Fld.keep F196 Kq219 (ninS n34 nin0)
  have F225 := Fld.keep F197 Kq219 (ninS n34 nin0)
  have F226 := Fld.keep F198 Kq219 (ninS n34 nin0)
  have F227 := Fld.keep F199 Kq219 (ninS n34 nin0)
  have F228 := Fld.keep F193 Kq219 (ninS n34 nin0)
  have F229 := Fld.keep F201 Kq219 (ninS n34 nin0)
  have F230 := Fld.keep F202 Kq219 (ninS n34 nin0)
  have F231 := Exa.keep F203 Kq219
  have F232 := Fld.keep F204 Kq219 (ninS n35 nin0)
  have F233 := ArrL.keep F205 Kq219 (ninS n36 nin0)
  have F235 := ArrL.keep F207 Kq219 (ninS (Ne.symm n73) nin0)
  have F236 := Exa.keep F208 Kq219
  have F237 := Fld.keep F209 Kq219 (ninS (Ne.symm n111) nin0)
  have F238 := Fld.keep F210 Kq219 (ninS (Ne.symm n111) nin0)
  have F239 := Fld.keep F211 Kq219 (ninS (Ne.symm n111) nin0)
  have F240 := Fld.keep F212 Kq219 (ninS (Ne.symm n111) nin0)
  have F241 := ArrL.keep F213 Kq219 (ninS (Ne.symm n172) nin0)
  have F242 := ArrL.keep F214 Kq219 (ninS (Ne.symm n180) nin0)
  have F243 := ArrL.keep F215 Kq219 (ninS (Ne.symm n188) nin0)
  have Z244 := zK Z217 Kq219
  exact g_ret X219 hx hlk hrt (D d6_65) (by decide) (by decide) (by skip; exact ⟨rfl, N221, K222, o33, o69, o107, o136, o137, o138, g38, g75, g114, g175, g183, g191, n73, n111, n172, n180, n188, n112, n173, n181, n189, n174, n182, n190, n142, n143, n144, F224, F225, F226, F227, F228, F229, F230, F236, F237, F238, F239, F240, A220, F235, F241, F242, F243⟩)
theorem own_tz {z : Int} (h : 0 ≤ z) : z = ((z.toNat : Nat) : Int) := by omega
theorem own_ltz {z : Int} (h : 0 ≤ z ∧ z < 6) : z.toNat < 6 := by omega
theorem own_b32 (x : Int32) : B32 x.toInt64 := by have f := c_i2l x; have g := rng32 x; constructor <;> omega
theorem own_r3 (x : Int32) : ∃ rr : Fin 3, ((x.toUInt32 >>> ((2 : Int32) &&& 31).toUInt32).toInt32 % (3 : Int32)) = tI rr 0 1 2 := by
  have f := c_iushr x (2 : Int32) 2 (by decide) (by decide)
  have r := rng32 x
  generalize (x.toUInt32 >>> ((2 : Int32) &&& 31).toUInt32).toInt32 = y at *
  have g := c_irem y (3 : Int32) 3 (by decide)
  have h : (y % (3 : Int32)).toInt = 0 ∨ (y % (3 : Int32)).toInt = 1 ∨ (y % (3 : Int32)).toInt = 2 := by omega
  rcases h with h | h | h
  · exact ⟨0, Int32.toInt_inj.mp h⟩
  · exact ⟨1, Int32.toInt_inj.mp h⟩
  · exact ⟨2, Int32.toInt_inj.mp h⟩
theorem pd_7 : parseMethodDescriptor "(IJ)V" = some ⟨[.int, .long], none⟩ := by decide +kernel
def RM_rm12 : Room := ({ frames := 3, cells := 0, slots := 0, locals := 45 } : Room)
abbrev b12 := prog_82_method_4_code
theorem d12_0 : decode b12 0 = .ok (.lload_n 2, 1) := by decide +kernel
theorem d12_1 : decode b12 1 = .ok (.aload_n 0, 1) := by decide +kernel
theorem d12_2 : decode b12 2 = .ok (.getfield 25, 3) := by decide +kernel
theorem d12_5 : decode b12 5 = .ok (.iload_n 1, 1) := by decide +kernel
theorem d12_6 : decode b12 6 = .ok (.laload, 1) := by decide +kernel
theorem d12_7 : decode b12 7 = .ok (.lcmp, 1) := by decide +kernel
theorem d12_8 : decode b12 8 = .ok (.ifCond .ge 49, 3) := by decide +kernel
theorem d12_11 : decode b12 11 = .ok (.aload_n 0, 1) := by decide +kernel
theorem d12_12 : decode b12 12 = .ok (.getfield 25, 3) := by decide +kernel
theorem d12_15 : decode b12 15 = .ok (.iload_n 1, 1) := by decide +kernel
theorem d12_16 : decode b12 16 = .ok (.laload, 1) := by decide +kernel
theorem d12_17 : decode b12 17 = .ok (.ldc2_w 41, 3) := by decide +kernel
theorem d12_20 : decode b12 20 = .ok (.lcmp, 1) := by decide +kernel
theorem d12_21 : decode b12 21 = .ok (.ifCond .ne 20, 3) := by decide +kernel
theorem d12_24 : decode b12 24 = .ok (.aload_n 0, 1) := by decide +kernel
theorem d12_25 : decode b12 25 = .ok (.getfield 28, 3) := by decide +kernel
theorem d12_28 : decode b12 28 = .ok (.aload_n 0, 1) := by decide +kernel
theorem d12_29 : decode b12 29 = .ok (.dup, 1) := by decide +kernel
theorem d12_30 : decode b12 30 = .ok (.getfield 49, 3) := by decide +kernel
theorem d12_33 : decode b12 33 = .ok (.dup_x1, 1) := by decide +kernel
theorem d12_34 : decode b12 34 = .ok (.iconst 1, 1) := by decide +kernel
theorem d12_35 : decode b12 35 = .ok (.iadd, 1) := by decide +kernel
theorem d12_36 : decode b12 36 = .ok (.putfield 49, 3) := by decide +kernel
theorem d12_39 : decode b12 39 = .ok (.iload_n 1, 1) := by decide +kernel
theorem d12_40 : decode b12 40 = .ok (.iastore, 1) := by decide +kernel
theorem d12_41 : decode b12 41 = .ok (.aload_n 0, 1) := by decide +kernel
theorem d12_42 : decode b12 42 = .ok (.getfield 25, 3) := by decide +kernel
theorem d12_45 : decode b12 45 = .ok (.iload_n 1, 1) := by decide +kernel
theorem d12_46 : decode b12 46 = .ok (.lload_n 2, 1) := by decide +kernel
theorem d12_47 : decode b12 47 = .ok (.lastore, 1) := by decide +kernel
theorem d12_48 : decode b12 48 = .ok (.aload_n 0, 1) := by decide +kernel
theorem d12_49 : decode b12 49 = .ok (.getfield 37, 3) := by decide +kernel
theorem d12_52 : decode b12 52 = .ok (.iload_n 1, 1) := by decide +kernel
theorem d12_53 : decode b12 53 = .ok (.lload_n 2, 1) := by decide +kernel
theorem d12_54 : decode b12 54 = .ok (.invokevirtual 81, 3) := by decide +kernel
theorem d12_57 : decode b12 57 = .ok (.return_, 1) := by decide +kernel
theorem ef_12 (m : MethodId) (z0 : Addr) (z1 : Int32) (z2 : Int64) : entryFrame m #[.ref z0, .int z1, .long z2] 4 = mkF m 0 #[vR z0, vI z1, vJ z2, s2] [] := by first | (simp [entryFrame, mkF, argsToLocals, Value.category]; done) | rfl
set_option maxRecDepth 65536 in
set_option maxHeartbeats 40000000 in
theorem rm12 (l : Launch) (Z : State) (a0 : Array Value) (hw : ∀ d ∈ tables_1, d.before a0 Z = true) (ws : List Jvm.Cond) (t : Addr) (nd : Int32) (ln_ : Int64) (h0 : Heap) (n0 : Nat) (Z0 : n0 ≤ h0.size) (ka ra qo qh qp qk ad so : Addr) (tg rc : Int32) (rl hp pl : List Int32) (ky : List Int64) (cn : Int32) (cs A : List Nat) (dd : Int64) (u_ c_ : Nat) (pp : List Nat × List Nat) (F0_ : Fld Z h0 t kV "key" "[J" (.ref ka)) (F1_ : Fld Z h0 t kV "reached" "[I" (.ref ra)) (F2_ : Fld Z h0 t kV "queue" "Lcom/example/hedged_dispatch/hedgeddispatch/stn/NodeQueue;" (.ref qo)) (F3_ : Fld Z h0 t kV "reachedCount" "I" (.int rc)) (F4_ : Fld Z h0 t kV "into" "Lcom/example/hedged_dispatch/hedgeddispatch/stn/Adjacency;" (.ref ad)) (F5_ : Fld Z h0 t kV "solution" "[J" (.ref so)) (F6_ : Fld Z h0 t kV "target" "I" (.int tg)) (G0_ : Fld Z h0 qo kQ "heap" "[I" (.ref qh)) (G1_ : Fld Z h0 qo kQ "place" "[I" (.ref qp)) (G2_ : Fld Z h0 qo kQ "key" "[J" (.ref qk)) (G3_ : Fld Z h0 qo kQ "count" "I" (.int cn)) (A0_ : LA Z h0 ka (cs.map (fk dd))) (A1_ : IA Z h0 ra rl) (A2_ : IA Z h0 qh hp) (A3_ : IA Z h0 qp pl) (A4_ : LA Z h0 qk ky) (Et_ : Exa Z h0 t kV) (Eq_ : Exa Z h0 qo kQ) (nx0_ : t ≠ ka) (nx1_ : t ≠ ra) (nx2_ : t ≠ qo) (nx3_ : t ≠ qh) (nx4_ : t ≠ qp) (nx5_ : t ≠ qk) (nx6_ : ka ≠ ra) (nx7_ : ka ≠ qo) (nx8_ : ka ≠ qh) (nx9_ : ka ≠ qp) (nx10_ : ka ≠ qk) (nx11_ : ra ≠ qo) (nx12_ : ra ≠ qh) (nx13_ : ra ≠ qp) (nx14_ : ra ≠ qk) (nx15_ : qo ≠ qh) (nx16_ : qo ≠ qp) (nx17_ : qo ≠ qk) (nx18_ : qh ≠ qp) (nx19_ : qh ≠ qk) (nx20_ : qp ≠ qk) (gxt_ : n0 ≤ t) (gxka_ : n0 ≤ ka) (gxra_ : n0 ≤ ra) (gxqo_ : n0 ≤ qo) (gxqh_ : n0 ≤ qh) (gxqp_ : n0 ≤ qp) (gxqk_ : n0 ≤ qk) (hln : ln_ = fk dd c_) (hD : DD dd) (hv : nd.toInt = (u_ : Int)) (hu : u_ < 6) (I_ : QI dd hp pl ky cn A cs) (R_ : RI rc rl cs) (hC : CI cs) (hc : c_ ≤ 1) (hrf : reachF (cs, A) u_ c_ = some pp) :
    Ctr l Z (⟨kV, "reach", "(IJ)V"⟩ : MethodName) prog_82_method_4_code 4 none RM_rm12 ws #[.ref t, .int nd, .long ln_] h0 (fun v h L => v = none ∧ Fr n0 L ∧ Keep h0 h [t, ka, ra, qo, qh, qp, qk] ∧ ∃ (rc' : Int32) (rl' hp' pl' : List Int32) (ky' : List Int64) (cn' : Int32), Fld Z h t kV "key" "[J" (.ref ka) ∧ Fld Z h t kV "reached" "[I" (.ref ra) ∧ Fld Z h t kV "queue" "Lcom/example/hedged_dispatch/hedgeddispatch/stn/NodeQueue;" (.ref qo) ∧ Fld Z h t kV "reachedCount" "I" (.int rc') ∧ Fld Z h t kV "into" "Lcom/example/hedged_dispatch/hedgeddispatch/stn/Adjacency;" (.ref ad) ∧ Fld Z h t kV "solution" "[J" (.ref so) ∧ Fld Z h t kV "target" "I" (.int tg) ∧ Fld Z h qo kQ "heap" "[I" (.ref qh) ∧ Fld Z h qo kQ "place" "[I" (.ref qp) ∧ Fld Z h qo kQ "key" "[J" (.ref qk) ∧ Fld Z h qo kQ "count" "I" (.int cn') ∧ LA Z h ka (pp.1.map (fk dd)) ∧ IA Z h ra rl' ∧ IA Z h qh hp' ∧ IA Z h qp pl' ∧ LA Z h qk ky' ∧ QI dd hp' pl' ky' cn' pp.2 pp.1 ∧ RI rc' rl' pp.1 ∧ CI pp.1) := by
  refine Ctr.of (plainFor_of_name pn_5) ?_
  intro p e s m below meth c s₁ hx hby hml hrt hlk hnm hown hZ X0 e0
  have N0 := Fr.nil n0
  have D := @hb _ _ hby
  refine Go.cast (ef_12 m t nd ln_) ?_
  subst hln
  have hfk := own_fk hD (Nat.le_succ_of_le hc) (hC.2 u_)
  refine g_lloadN X0 hx (D d12_0) rfl rfl (g_aloadN X0 hx (D d12_1) rfl rfl rfl (g_getF X0 hx hZ hown (hW hw 49 rfl) e0 F0_ (D d12_2) rfl fun T1 X1 e1 => (g_iloadN X1 hx (D d12_5) rfl rfl (g_lload_ (i := u_) (v := (fk dd (cs.getD u_ 0))) X1 hx hZ e1 A0_ hv (own_cm hC hu) (D d12_6) rfl ?_))))
  refine g_lcmp_ge (q := 57) (q1 := 8) (q0 := 11) X1 hx (D d12_7) rfl (D d12_8) (by decide) (by decide) rfl ?_ ?_
  ·intro c2
   exact g_ret X1 hx hlk hrt (D d12_57) (by decide) (by decide) (by have hq := (own_rf0 hrf (fun h => absurd (hfk.1.mpr h) (Int.not_lt.mpr c2))); subst hq; rw [e1]; exact ⟨rfl, N0, (Keep.refl h0 [t, ka, ra, qo, qh, qp, qk]), rc, rl, hp, pl, ky, cn, F0_, F1_, F2_, F3_, F4_, F5_, F6_, G0_, G1_, G2_, G3_, A0_, A1_, A2_, A3_, A4_, I_, R_, hC⟩)
  intro c2
  have hlt := hfk.1.mp c2
  have hq_ := own_rf1 hrf hlt
  have hok := hq_.1
  refine g_aloadN X1 hx (D d12_11) rfl rfl rfl (g_getF X1 hx hZ hown (hW hw 49 rfl) e1 F0_ (D d12_12) rfl fun T3 X3 e3 => (g_iloadN X3 hx (D d12_15) rfl rfl (g_lload_ (i := u_) (v := (fk dd (cs.getD u_ 0))) X3 hx hZ e3 A0_ hv (own_cm hC hu) (D d12_16) rfl (g_ldc2J X3 hx hZ hown (hW hw 71 rfl) (D d12_17) rfl ?_))))
  refine g_lcmp_ne (q := 41) (q1 := 21) (q0 := 24) X3 hx (D d12_20) rfl (D d12_21) (by decide) (by decide) rfl ?_ ?_
  ·intro c4
   have h2_ : cs.getD u_ 0 ≠ 2 := fun h => c4 ((own_fk hD (hC.2 u_) (Nat.le_refl 2)).2.mpr h)
   refine g_aloadN X3 hx (D d12_41) rfl rfl rfl (g_getF X3 hx hZ hown (hW hw 49 rfl) e3 F0_ (D d12_42) rfl fun T5 X5 e5 => (g_iloadN X5 hx (D d12_45) rfl rfl (g_lloadN X5 hx (D d12_46) rfl rfl (g_lstore_ (i := u_) (v := (fk dd c_)) X5 hx hZ e5 A0_ hv (by rw [List.length_map, hC.1]; exact hu) (D d12_47) rfl fun T6 h6 X6 e6 W6 A6 => ?_))))
   replace A6 : LA Z h6 ka ((cs.set u_ c_).map (fk dd)) := LA.eq A6 (by rw [List.map_set])
   have K7 := Keep.wr (Keep.refl h0 [t, ka, ra, qo, qh, qp, qk]) W6 (Or.inl (by simp))
   have F8 := Fld.other W6 F0_ (Or.inl nx0_)
   have F9 := Fld.other W6 F1_ (Or.inl nx0_)
   have F10 := Fld.other W6 F2_ (Or.inl nx0_)
   have F11 := Fld.other W6 F3_ (Or.inl nx0_)
   have F12 := Fld.other W6 F4_ (Or.inl nx0_)
   have F13 := Fld.other W6 F5_ (Or.inl nx0_)
   have F14 := Fld.other W6 F6_ (Or.inl nx0_)
   have F15 := Fld.other W6 G0_ (Or.inl (Ne.symm nx7_))
   have F16 := Fld.other W6 G1_ (Or.inl (Ne.symm nx7_))
   have F17 := Fld.other W6 G2_ (Or.inl (Ne.symm nx7_))
   have F18 := Fld.other W6 G3_ (Or.inl (Ne.symm nx7_))
   have F20 := ArrL.other A1_ W6 (Ne.symm nx6_)
   have F21 := ArrL.other A2_ W6 (Ne.symm nx8_)
   have F22 := ArrL.other A3_ W6 (Ne.symm nx9_)
   have F23 := ArrL.other A4_ W6 (Ne.symm nx10_)
   have F24 := Exa.wr W6 Et_
   have F25 := Exa.wr W6 Eq_
   have N26 := Fr.snoc X6 N0 gxka_
   have Z27 := zW Z0 W6
   refine g_aloadN X6 hx (D d12_48) rfl rfl rfl (g_getF X6 hx hZ hown (hW hw 69 rfl) e6 F10 (D d12_49) rfl fun T28 X28 e28 => (g_iloadN X28 hx (D d12_52) rfl rfl (g_lloadN X28 hx (D d12_53) rfl rfl (g_virtual X28 hx hZ hown (hW hw 88 rfl) (hW hw 89 rfl) (hW hw 91 rfl) (hW hw 90 rfl) (hW hw 55 rfl) (hW hw 92 rfl) (by decide) (rm13 l Z a0 hw [] qo nd (fk dd c_) h6 n0 Z27 qh qp qk hp pl ky cn A cs dd u_ c_ F15 F16 F17 F18 F21 F22 F23 F25 nx15_ nx16_ nx17_ nx18_ nx19_ nx20_ gxqo_ gxqh_ gxqp_ gxqk_ rfl hD hv hu I_ hC hc hlt hok) F25 (argsL := [.int nd, .long (fk dd c_)]) (rest := []) pd_7 rfl rfl rfl (D d12_54) rfl (by rw [hml]; rfl) e28 (by decide) (W := 0) rfl (by decide) (by decide) (by decide) fun v29 T29 Lc29 X29 Q29 => ?_))))
   obtain ⟨rfl, Nq29, Kq29, hp30, pl31, ky32, cn33, F34, F35, F36, F37, A38, A39, A40, I41⟩ := Q29
   have N42 := Fr.app N26 Nq29
   have K43 := Keep.trans K7 Kq29 (allS (Or.inl (by simp)) (allS (Or.inl (by simp)) (allS (Or.inl (by simp)) (allS (Or.inl (by simp)) all0))))
   have q45 : t ∉ [qo, qh, qp, qk] := (ninS nx2_ (ninS nx3_ (ninS nx4_ (ninS nx5_ nin0))))
   have F44 := Fld.keep F8 Kq29 q45
   have F46 := Fld.keep F9 Kq29 q45
   have F47 := Fld.keep F10 Kq29 q45
   have F48 := Fld.keep F11 Kq29 q45
   have F49 := Fld.keep F12 Kq29 q45
   have F50 := Fld.keep F13 Kq29 q45
   have F51 := Fld.keep F14 Kq29 q45
   have q57 : ka ∉ [qo, qh, qp, qk] := (ninS nx7_ (ninS nx8_ (ninS nx9_ (ninS nx10_ nin0))))
   have F56 := ArrL.keep A6 Kq29 q57
   have q59 : ra ∉ [qo, qh, qp, qk] := (ninS nx11_ (ninS nx12_ (ninS nx13_ (ninS nx14_ nin0))))
   have F58 := ArrL.keep F20 Kq29 q59
   have F63 := Exa.keep F24 Kq29
   have F64 := Exa.keep F25 Kq29
   have Z65 := zK Z27 Kq29
   exact g_ret X29 hx hlk hrt (D d12_57) (by decide) (by decide) (by have hq := hq_.2; subst hq; skip; exact ⟨rfl, N42, K43, rc, rl, hp30, pl31, ky32, cn33, F44, F46, F47, F48, F49, F50, F51, F34, F35, F36, F37, F56, F58, A38, A39, A40, I41, own_rs0 R_ hC hu h2_ hc, own_cs hC (Nat.le_succ_of_le hc)⟩)
  intro c4
  have h2_ : cs.getD u_ 0 = 2 := (own_fk hD (hC.2 u_) (Nat.le_refl 2)).2.mp c4
  have hrb := own_rcb R_ hC hu h2_
  refine g_aloadN X3 hx (D d12_24) rfl rfl rfl (g_getF X3 hx hZ hown (hW hw 51 rfl) e3 F1_ (D d12_25) rfl fun T66 X66 e66 => (g_aloadN X66 hx (D d12_28) rfl rfl rfl (g_dup X66 hx (D d12_29) rfl rfl (g_getF X66 hx hZ hown (hW hw 80 rfl) e66 F3_ (D d12_30) rfl fun T67 X67 e67 => (g_dupX1 X67 hx (D d12_33) rfl rfl rfl (g_iconst (v := (1 : Int32)) X67 hx (D d12_34) rfl rfl (g_iadd X67 hx (D d12_35) rfl (g_putF (ty := .int) X67 hx hZ hown (hW hw 80 rfl) e67 F3_ Et_ (Or.inl (hW hw 81 rfl)) (hW hw 34 rfl) (by decide) rfl rfl (D d12_36) rfl fun T68 h68 X68 e68 W68 F68 => ?_))))))))
  have K69 := Keep.wr (Keep.refl h0 [t, ka, ra, qo, qh, qp, qk]) W68 (Or.inl (by simp))
  have F70 := Fld.other W68 F0_ (Or.inr (slot_ne (a0 := a0) (Or.inr (hW hw 50 rfl)) (Or.inl (hW hw 81 rfl)) (by decide) (t := (.array .long)) (t' := .int) (by decide) (by decide)))
  have F71 := Fld.other W68 F1_ (Or.inr (slot_ne (a0 := a0) (Or.inr (hW hw 52 rfl)) (Or.inl (hW hw 81 rfl)) (by decide) (t := (.array .int)) (t' := .int) (by decide) (by decide)))
  have F72 := Fld.other W68 F2_ (Or.inr (slot_ne (a0 := a0) (Or.inr (hW hw 70 rfl)) (Or.inl (hW hw 81 rfl)) (by decide) (t := (.object kQ)) (t' := .int) (by decide) (by decide)))
  have F74 := Fld.other W68 F4_ (Or.inr (slot_ne (a0 := a0) (Or.inr (hW hw 41 rfl)) (Or.inl (hW hw 81 rfl)) (by decide) (t := (.object kA)) (t' := .int) (by decide) (by decide)))
  have F75 := Fld.other W68 F5_ (Or.inr (slot_ne (a0 := a0) (Or.inr (hW hw 43 rfl)) (Or.inl (hW hw 81 rfl)) (by decide) (t := (.array .long)) (t' := .int) (by decide) (by decide)))
  have F76 := Fld.other W68 F6_ (Or.inr (slot_ne (a0 := a0) (Or.inl (hW hw 83 rfl)) (Or.inl (hW hw 81 rfl)) (by decide) (t := .int) (t' := .int) (by decide) (by decide)))
  have F77 := Fld.other W68 G0_ (Or.inl (Ne.symm nx2_))
  have F78 := Fld.other W68 G1_ (Or.inl (Ne.symm nx2_))
  have F79 := Fld.other W68 G2_ (Or.inl (Ne.symm nx2_))
  have F80 := Fld.other W68 G3_ (Or.inl (Ne.symm nx2_))
  have F81 := ArrL.other A0_ W68 (Ne.symm nx0_)
  have F82 := ArrL.other A1_ W68 (Ne.symm nx1_)
  have F83 := ArrL.other A2_ W68 (Ne.symm nx3_)
  have F84 := ArrL.other A3_ W68 (Ne.symm nx4_)
  have F85 := ArrL.other A4_ W68 (Ne.symm nx5_)
  have F86 := Exa.wr W68 Et_
  have F87 := Exa.wr W68 Eq_
  have N88 := Fr.snoc X68 N0 gxt_
  have Z89 := zW Z0 W68
  refine g_iloadN X68 hx (D d12_39) rfl rfl (g_istore_ (i := rc.toInt.toNat) (v := nd) X68 hx hZ e68 F82 (own_tnn (own_tz hrb.1)) (by rw [R_.1]; exact own_ltz hrb) (D d12_40) rfl fun T90 h90 X90 e90 W90 A90 => ?_)
  have K91 := Keep.wr K69 W90 (Or.inl (by simp))
  have F92 := Fld.other W90 F70 (Or.inl nx1_)
  have F93 := Fld.other W90 F71 (Or.inl nx1_)
  have F94 := Fld.other W90 F72 (Or.inl nx1_)
  have F95 := Fld.other W90 F68 (Or.inl nx1_)
  have F96 := Fld.other W90 F74 (Or.inl nx1_)
  have F97 := Fld.other W90 F75 (Or.inl nx1_)
  have F98 := Fld.other W90 F76 (Or.inl nx1_)
  have F99 := Fld.other W90 F77 (Or.inl (Ne.symm nx11_))
  have F100 := Fld.other W90 F78 (Or.inl (Ne.symm nx11_))
  have F101 := Fld.other W90 F79 (Or.inl (Ne.symm nx11_))
  have F102 := Fld.other W90 F80 (Or.inl (Ne.symm nx11_))
  have F103 := ArrL.other F81 W90 nx6_
  have F105 := ArrL.other F83 W90 (Ne.symm nx12_)
  have F106 := ArrL.other F84 W90 (Ne.symm nx13_)
  have F107 := ArrL.other F85 W90 (Ne.symm nx14_)
  have F108 := Exa.wr W90 F86
  have F109 := Exa.wr W90 F87
  have N110 := Fr.snoc X90 N88 gxra_
  have Z111 := zW Z89 W90
  refine g_aloadN X90 hx (D d12_41) rfl rfl rfl (g_getF X90 hx hZ hown (hW hw 49 rfl) e90 F92 (D d12_42) rfl fun T112 X112 e112 => (g_iloadN X112 hx (D d12_45) rfl rfl (g_lloadN X112 hx (D d12_46) rfl rfl (g_lstore_ (i := u_) (v := (fk dd c_)) X112 hx hZ e112 F103 hv (by rw [List.length_map, hC.1]; exact hu) (D d12_47) rfl fun T113 h113 X113 e113 W113 A113 => ?_))))
  replace A113 : LA Z h113 ka ((cs.set u_ c_).map (fk dd)) := LA.eq A113 (by rw [List.map_set])
  have K114 := Keep.wr K91 W113 (Or.inl (by simp))
  have F115 := Fld.other W113 F92 (Or.inl nx0_)
  have F116 := Fld.other W113 F93 (Or.inl nx0_)
  have F117 := Fld.other W113 F94 (Or.inl nx0_)
  have F118 := Fld.other W113 F95 (Or.inl nx0_)
  have F119 := Fld.other W113 F96 (Or.inl nx0_)
  have F120 := Fld.other W113 F97 (Or.inl nx0_)
  have F121 := Fld.other W113 F98 (Or.inl nx0_)
  have F122 := Fld.other W113 F99 (Or.inl (Ne.symm nx7_))
  have F123 := Fld.other W113 F100 (Or.inl (Ne.symm nx7_))
  have F124 := Fld.other W113 F101 (Or.inl (Ne.symm nx7_))
  have F125 := Fld.other W113 F102 (Or.inl (Ne.symm nx7_))
  have F127 := ArrL.other A90 W113 (Ne.symm nx6_)
  have F128 := ArrL.other F105 W113 (Ne.symm nx8_)
  have F129 := ArrL.other F106 W113 (Ne.symm nx9_)
  have F130 := ArrL.other F107 W113 (Ne.symm nx10_)
  have F131 := Exa.wr W113 F108
  have F132 := Exa.wr W113 F109
  have N133 := Fr.snoc X113 N110 gxka_
  have Z134 := zW Z111 W113
  refine g_aloadN X113 hx (D d12_48) rfl rfl rfl (g_getF X113 hx hZ hown (hW hw 69 rfl) e113 F117 (D d12_49) rfl fun T135 X135 e135 => (g_iloadN X135 hx (D d12_52) rfl rfl (g_lloadN X135 hx (D d12_53) rfl rfl (g_virtual X135 hx hZ hown (hW hw 88 rfl) (hW hw 89 rfl) (hW hw 91 rfl) (hW hw 90 rfl) (hW hw 55 rfl) (hW hw 92 rfl) (by decide) (rm13 l Z a0 hw [] qo nd (fk dd c_) h113 n0 Z134 qh qp qk hp pl ky cn A cs dd u_ c_ F122 F123 F124 F125 F128 F129 F130 F132 nx15_ nx16_ nx17_ nx18_ nx19_ nx20_ gxqo_ gxqh_ gxqp_ gxqk_ rfl hD hv hu I_ hC hc hlt hok) F132 (argsL := [.int nd, .long (fk dd c_)]) (rest := []) pd_7 rfl rfl rfl (D d12_54) rfl (by rw [hml]; rfl) e135 (by decide) (W := 0) rfl (by decide) (by decide) (by decide) fun v136 T136 Lc136 X136 Q136 => ?_))))
  obtain ⟨rfl, Nq136, Kq136, hp137, pl138, ky139, cn140, F141, F142, F143, F144, A145, A146, A147, I148⟩ := Q136
  have N149 := Fr.app N133 Nq136
  have K150 := Keep.trans K114 Kq136 (allS (Or.inl (by simp)) (allS (Or.inl (by simp)) (allS (Or.inl (by simp)) (allS (Or.inl (by simp)) all0))))
  have q152 : t ∉ [qo, qh, qp, qk] := (ninS nx2_ (ninS nx3_ (ninS nx4_ (ninS nx5_ nin0))))
  have F151 := Fld.keep F115 Kq136 q152
  have F153 := Fld.keep F116 Kq136 q152
  have F154 := Fld.keep F117 Kq136 q152
  have F155 := Fld.keep F118 Kq136 q152
  have F156 := Fld.keep F119 Kq136 q152
  have F157 := Fld.keep F120 Kq136 q152
  have F158 := Fld.keep F121 Kq136 q152
  have q164 : ka ∉ [qo, qh, qp, qk] := (ninS nx7_ (ninS nx8_ (ninS nx9_ (ninS nx10_ nin0))))
  have F163 := ArrL.keep A113 Kq136 q164
  have q166 : ra ∉ [qo, qh, qp, qk] := (ninS nx11_ (ninS nx12_ (ninS nx13_ (ninS nx14_ nin0))))
  have F165 := ArrL.keep F127 Kq136 q166
  have F170 := Exa.keep F131 Kq136
  have F171 := Exa.keep F132 Kq136
  have Z172 := zK Z134 Kq136
  exact g_ret X136 hx hlk hrt (D d12_57) (by decide) (by decide) (by have hq := hq_.2; subst hq; skip; exact ⟨rfl, N149, K150, (rc + (1 : Int32)), (rl.set rc.toInt.toNat nd), hp137, pl138, ky139, cn140, F151, F153, F154, F155, F156, F157, F158, F141, F142, F143, F144, F163, F165, A145, A146, A147, I148, own_rs1 R_ hC hu h2_ hc (by rw [List.length_set]; exact R_.1), own_cs hC (Nat.le_succ_of_le hc)⟩)
theorem pd_8 : parseMethodDescriptor "()Z" = some ⟨[], some .boolean⟩ := by decide +kernel
theorem pd_9 : parseMethodDescriptor "(I)I" = some ⟨[.int], some .int⟩ := by decide +kernel
theorem pd_10 : parseMethodDescriptor "(I)J" = some ⟨[.int], some .long⟩ := by decide +kernel
def RM_rm11 : Room := ({ frames := 4, cells := 0, slots := 0, locals := 60 } : Room)
abbrev b11 := prog_82_method_2_code
theorem d11_0 : decode b11 0 = .ok (.iconst 0, 1) := by decide +kernel
theorem d11_1 : decode b11 1 = .ok (.istore_n 3, 1) := by decide +kernel
theorem d11_2 : decode b11 2 = .ok (.iload_n 3, 1) := by decide +kernel
theorem d11_3 : decode b11 3 = .ok (.aload_n 0, 1) := by decide +kernel
theorem d11_4 : decode b11 4 = .ok (.getfield 49, 3) := by decide +kernel
theorem d11_7 : decode b11 7 = .ok (.if_icmp .ge 23, 3) := by decide +kernel
theorem d11_30 : decode b11 30 = .ok (.aload_n 0, 1) := by decide +kernel
theorem d11_31 : decode b11 31 = .ok (.iconst 0, 1) := by decide +kernel
theorem d11_32 : decode b11 32 = .ok (.putfield 49, 3) := by decide +kernel
theorem d11_35 : decode b11 35 = .ok (.aload_n 0, 1) := by decide +kernel
theorem d11_36 : decode b11 36 = .ok (.iload_n 1, 1) := by decide +kernel
theorem d11_37 : decode b11 37 = .ok (.putfield 53, 3) := by decide +kernel
theorem d11_40 : decode b11 40 = .ok (.aload_n 0, 1) := by decide +kernel
theorem d11_41 : decode b11 41 = .ok (.iconst 2, 1) := by decide +kernel
theorem d11_42 : decode b11 42 = .ok (.iload_n 1, 1) := by decide +kernel
theorem d11_43 : decode b11 43 = .ok (.imul, 1) := by decide +kernel
theorem d11_44 : decode b11 44 = .ok (.lconst 0, 1) := by decide +kernel
theorem d11_45 : decode b11 45 = .ok (.invokevirtual 56, 3) := by decide +kernel
theorem d11_48 : decode b11 48 = .ok (.aload_n 0, 1) := by decide +kernel
theorem d11_49 : decode b11 49 = .ok (.getfield 37, 3) := by decide +kernel
theorem d11_52 : decode b11 52 = .ok (.invokevirtual 60, 3) := by decide +kernel
theorem d11_55 : decode b11 55 = .ok (.ifCond .ne 189, 3) := by decide +kernel
theorem d11_58 : decode b11 58 = .ok (.aload_n 0, 1) := by decide +kernel
theorem d11_59 : decode b11 59 = .ok (.getfield 37, 3) := by decide +kernel
theorem d11_62 : decode b11 62 = .ok (.invokevirtual 64, 3) := by decide +kernel
theorem d11_65 : decode b11 65 = .ok (.istore_n 3, 1) := by decide +kernel
theorem d11_66 : decode b11 66 = .ok (.iload_n 3, 1) := by decide +kernel
theorem d11_67 : decode b11 67 = .ok (.iconst 2, 1) := by decide +kernel
theorem d11_68 : decode b11 68 = .ok (.idiv, 1) := by decide +kernel
theorem d11_69 : decode b11 69 = .ok (.istore 4, 2) := by decide +kernel
theorem d11_71 : decode b11 71 = .ok (.iload_n 3, 1) := by decide +kernel
theorem d11_72 : decode b11 72 = .ok (.iconst 2, 1) := by decide +kernel
theorem d11_73 : decode b11 73 = .ok (.irem, 1) := by decide +kernel
theorem d11_74 : decode b11 74 = .ok (.iconst 1, 1) := by decide +kernel
theorem d11_75 : decode b11 75 = .ok (.if_icmp .ne 7, 3) := by decide +kernel
theorem d11_78 : decode b11 78 = .ok (.iconst 1, 1) := by decide +kernel
theorem d11_79 : decode b11 79 = .ok (.goto 4, 3) := by decide +kernel
theorem d11_82 : decode b11 82 = .ok (.iconst 0, 1) := by decide +kernel
theorem d11_83 : decode b11 83 = .ok (.istore 5, 2) := by decide +kernel
theorem d11_85 : decode b11 85 = .ok (.iload 5, 2) := by decide +kernel
theorem d11_87 : decode b11 87 = .ok (.ifCond .ne 16, 3) := by decide +kernel
theorem d11_90 : decode b11 90 = .ok (.aload_n 0, 1) := by decide +kernel
theorem d11_91 : decode b11 91 = .ok (.iload_n 3, 1) := by decide +kernel
theorem d11_92 : decode b11 92 = .ok (.iconst 1, 1) := by decide +kernel
theorem d11_93 : decode b11 93 = .ok (.iadd, 1) := by decide +kernel
theorem d11_94 : decode b11 94 = .ok (.aload_n 0, 1) := by decide +kernel
theorem d11_95 : decode b11 95 = .ok (.getfield 25, 3) := by decide +kernel
theorem d11_98 : decode b11 98 = .ok (.iload_n 3, 1) := by decide +kernel
theorem d11_99 : decode b11 99 = .ok (.laload, 1) := by decide +kernel
theorem d11_100 : decode b11 100 = .ok (.invokevirtual 56, 3) := by decide +kernel
theorem d11_103 : decode b11 103 = .ok (.aload_n 0, 1) := by decide +kernel
theorem d11_104 : decode b11 104 = .ok (.getfield 9, 3) := by decide +kernel
theorem d11_107 : decode b11 107 = .ok (.iload 4, 2) := by decide +kernel
theorem d11_109 : decode b11 109 = .ok (.invokevirtual 67, 3) := by decide +kernel
theorem d11_112 : decode b11 112 = .ok (.istore 6, 2) := by decide +kernel
theorem d11_114 : decode b11 114 = .ok (.iload 6, 2) := by decide +kernel
theorem d11_116 : decode b11 116 = .ok (.aload_n 0, 1) := by decide +kernel
theorem d11_117 : decode b11 117 = .ok (.getfield 9, 3) := by decide +kernel
theorem d11_120 : decode b11 120 = .ok (.iload 4, 2) := by decide +kernel
theorem d11_122 : decode b11 122 = .ok (.invokevirtual 71, 3) := by decide +kernel
theorem d11_125 : decode b11 125 = .ok (.if_icmp .ge 116, 3) := by decide +kernel
theorem d11_128 : decode b11 128 = .ok (.aload_n 0, 1) := by decide +kernel
theorem d11_129 : decode b11 129 = .ok (.getfield 9, 3) := by decide +kernel
theorem d11_132 : decode b11 132 = .ok (.iload 6, 2) := by decide +kernel
theorem d11_134 : decode b11 134 = .ok (.invokevirtual 74, 3) := by decide +kernel
theorem d11_137 : decode b11 137 = .ok (.istore 7, 2) := by decide +kernel
theorem d11_139 : decode b11 139 = .ok (.aload_n 0, 1) := by decide +kernel
theorem d11_140 : decode b11 140 = .ok (.getfield 9, 3) := by decide +kernel
theorem d11_143 : decode b11 143 = .ok (.iload 6, 2) := by decide +kernel
theorem d11_145 : decode b11 145 = .ok (.invokevirtual 77, 3) := by decide +kernel
theorem d11_148 : decode b11 148 = .ok (.lconst 0, 1) := by decide +kernel
theorem d11_149 : decode b11 149 = .ok (.lcmp, 1) := by decide +kernel
theorem d11_150 : decode b11 150 = .ok (.ifCond .ge 7, 3) := by decide +kernel
theorem d11_153 : decode b11 153 = .ok (.iconst 1, 1) := by decide +kernel
theorem d11_154 : decode b11 154 = .ok (.goto 4, 3) := by decide +kernel
theorem d11_157 : decode b11 157 = .ok (.iconst 0, 1) := by decide +kernel
theorem d11_158 : decode b11 158 = .ok (.istore 8, 2) := by decide +kernel
theorem d11_160 : decode b11 160 = .ok (.iload 8, 2) := by decide +kernel
theorem d11_162 : decode b11 162 = .ok (.iload 5, 2) := by decide +kernel
theorem d11_164 : decode b11 164 = .ok (.if_icmp .ne 71, 3) := by decide +kernel
theorem d11_167 : decode b11 167 = .ok (.iload 4, 2) := by decide +kernel
theorem d11_169 : decode b11 169 = .ok (.iload_n 1, 1) := by decide +kernel
theorem d11_170 : decode b11 170 = .ok (.if_icmp .ne 10, 3) := by decide +kernel
theorem d11_173 : decode b11 173 = .ok (.aload_n 2, 1) := by decide +kernel
theorem d11_174 : decode b11 174 = .ok (.iload 7, 2) := by decide +kernel
theorem d11_176 : decode b11 176 = .ok (.baload, 1) := by decide +kernel
theorem d11_177 : decode b11 177 = .ok (.ifCond .ne 58, 3) := by decide +kernel
theorem d11_180 : decode b11 180 = .ok (.aload_n 0, 1) := by decide +kernel
theorem d11_181 : decode b11 181 = .ok (.getfield 25, 3) := by decide +kernel
theorem d11_184 : decode b11 184 = .ok (.iload_n 3, 1) := by decide +kernel
theorem d11_185 : decode b11 185 = .ok (.laload, 1) := by decide +kernel
theorem d11_186 : decode b11 186 = .ok (.aload_n 0, 1) := by decide +kernel
theorem d11_187 : decode b11 187 = .ok (.getfield 9, 3) := by decide +kernel
theorem d11_190 : decode b11 190 = .ok (.iload 6, 2) := by decide +kernel
theorem d11_192 : decode b11 192 = .ok (.invokevirtual 77, 3) := by decide +kernel
theorem d11_195 : decode b11 195 = .ok (.ladd, 1) := by decide +kernel
theorem d11_196 : decode b11 196 = .ok (.aload_n 0, 1) := by decide +kernel
theorem d11_197 : decode b11 197 = .ok (.getfield 15, 3) := by decide +kernel
theorem d11_200 : decode b11 200 = .ok (.iload 7, 2) := by decide +kernel
theorem d11_202 : decode b11 202 = .ok (.laload, 1) := by decide +kernel
theorem d11_203 : decode b11 203 = .ok (.ladd, 1) := by decide +kernel
theorem d11_204 : decode b11 204 = .ok (.aload_n 0, 1) := by decide +kernel
theorem d11_205 : decode b11 205 = .ok (.getfield 15, 3) := by decide +kernel
theorem d11_208 : decode b11 208 = .ok (.iload 4, 2) := by decide +kernel
theorem d11_210 : decode b11 210 = .ok (.laload, 1) := by decide +kernel
theorem d11_211 : decode b11 211 = .ok (.lsub, 1) := by decide +kernel
theorem d11_212 : decode b11 212 = .ok (.lstore 9, 2) := by decide +kernel
theorem d11_214 : decode b11 214 = .ok (.aload_n 0, 1) := by decide +kernel
theorem d11_215 : decode b11 215 = .ok (.iconst 2, 1) := by decide +kernel
theorem d11_216 : decode b11 216 = .ok (.iload 7, 2) := by decide +kernel
theorem d11_218 : decode b11 218 = .ok (.imul, 1) := by decide +kernel
theorem d11_219 : decode b11 219 = .ok (.iload 8, 2) := by decide +kernel
theorem d11_221 : decode b11 221 = .ok (.ifCond .eq 7, 3) := by decide +kernel
theorem d11_224 : decode b11 224 = .ok (.iconst 1, 1) := by decide +kernel
theorem d11_225 : decode b11 225 = .ok (.goto 4, 3) := by decide +kernel
theorem d11_228 : decode b11 228 = .ok (.iconst 0, 1) := by decide +kernel
theorem d11_229 : decode b11 229 = .ok (.iadd, 1) := by decide +kernel
theorem d11_230 : decode b11 230 = .ok (.lload 9, 2) := by decide +kernel
theorem d11_232 : decode b11 232 = .ok (.invokevirtual 56, 3) := by decide +kernel
theorem d11_235 : decode b11 235 = .ok (.iinc 6 1, 3) := by decide +kernel
theorem d11_238 : decode b11 238 = .ok (.goto (-124), 3) := by decide +kernel
theorem d11_241 : decode b11 241 = .ok (.goto (-193), 3) := by decide +kernel
theorem d11_244 : decode b11 244 = .ok (.return_, 1) := by decide +kernel
theorem ef_11 (m : MethodId) (z0 : Addr) (z1 : Int32) (z2 : Addr) : entryFrame m #[.ref z0, .int z1, .ref z2] 11 = mkF m 0 #[vR z0, vI z1, vR z2, u0, u0, u0, u0, u0, u0, u0, u0] [] := by first | (simp [entryFrame, mkF, argsToLocals, Value.category]; done) | rfl
set_option maxRecDepth 65536 in
set_option maxHeartbeats 40000000 in
theorem rm11 (l : Launch) (Z : State) (a0 : Array Value) (hw : ∀ d ∈ tables_1, d.before a0 Z = true) (ws : List Jvm.Cond) (t : Addr) (lo : Addr) (h0 : Heap) (n0 : Nat) (Z0 : n0 ≤ h0.size) (rr : Fin 3) (ka ra qo qh qp qk ad xs xn xw so : Addr) (w1_ w2_ w3_ sT_ sM_ sF_ dd : Int64) (n1 n2 n3 oM oF : Bool) (l1 l3 : Nat) (p0_ : List Nat × List Nat) (csF : List Nat) (S0_ : Exa Z h0 t kV) (S1_ : Exa Z h0 qo kQ) (S2_ : Exa Z h0 ad kA) (S3_ : Fld Z h0 t kV "into" "Lcom/example/hedged_dispatch/hedgeddispatch/stn/Adjacency;" (.ref ad)) (S4_ : Fld Z h0 t kV "solution" "[J" (.ref so)) (S5_ : Fld Z h0 t kV "key" "[J" (.ref ka)) (S6_ : Fld Z h0 t kV "reached" "[I" (.ref ra)) (S7_ : Fld Z h0 t kV "queue" "Lcom/example/hedged_dispatch/hedgeddispatch/stn/NodeQueue;" (.ref qo)) (S8_ : Fld Z h0 t kV "reachedCount" "I" (.int 0)) (S9_ : Fld Z h0 t kV "target" "I" (.int 0)) (S10_ : Fld Z h0 qo kQ "heap" "[I" (.ref qh)) (S11_ : Fld Z h0 qo kQ "place" "[I" (.ref qp)) (S12_ : Fld Z h0 qo kQ "key" "[J" (.ref qk)) (S13_ : Fld Z h0 qo kQ "count" "I" (.int 0)) (S14_ : Fld Z h0 ad kA "starts" "[I" (.ref xs)) (S15_ : Fld Z h0 ad kA "nodes" "[I" (.ref xn)) (S16_ : Fld Z h0 ad kA "weights" "[J" (.ref xw)) (S17_ : LA Z h0 ka ([9223372036854775807, 9223372036854775807, 9223372036854775807, 9223372036854775807, 9223372036854775807, 9223372036854775807] : List Int64)) (S18_ : IA Z h0 ra ([0, 0, 0, 0, 0, 0] : List Int32)) (S19_ : IA Z h0 qh ([0, 0, 0, 0, 0, 0] : List Int32)) (S20_ : IA Z h0 qp ([-1, -1, -1, -1, -1, -1] : List Int32)) (S21_ : LA Z h0 qk ([0, 0, 0, 0, 0, 0] : List Int64)) (S22_ : IA Z h0 xs [(0 : Int32), (tI rr 2 0 1), (tI rr 3 2 1), (3 : Int32)]) (S23_ : IA Z h0 xn [(tI rr 1 2 1), (tI rr 2 0 0), (tI rr 2 0 1)]) (S24_ : LA Z h0 xw [(tJ rr w1_ w1_ w2_), (tJ rr w3_ w3_ w1_), (tJ rr w2_ w2_ w3_)]) (S25_ : LA Z h0 so [(tJ rr sT_ sF_ sM_), (tJ rr sM_ sT_ sF_), (tJ rr sF_ sM_ sT_)]) (S26_ : ZA Z h0 lo [(tZ rr false oF oM), (tZ rr oM false oF), (tZ rr oF oM false)]) (nx0_ : t ≠ ka) (nx1_ : t ≠ ra) (nx2_ : t ≠ qo) (nx3_ : t ≠ qh) (nx4_ : t ≠ qp) (nx5_ : t ≠ qk) (nx6_ : ka ≠ ra) (nx7_ : ka ≠ qo) (nx8_ : ka ≠ qh) (nx9_ : ka ≠ qp) (nx10_ : ka ≠ qk) (nx11_ : ra ≠ qo) (nx12_ : ra ≠ qh) (nx13_ : ra ≠ qp) (nx14_ : ra ≠ qk) (nx15_ : qo ≠ qh) (nx16_ : qo ≠ qp) (nx17_ : qo ≠ qk) (nx18_ : qh ≠ qp) (nx19_ : qh ≠ qk) (nx20_ : qp ≠ qk) (ny0_ : t ≠ ad) (ny1_ : t ≠ xs) (ny2_ : t ≠ xn) (ny3_ : t ≠ xw) (ny4_ : t ≠ so) (ny5_ : t ≠ lo) (ny6_ : ka ≠ ad) (ny7_ : ka ≠ xs) (ny8_ : ka ≠ xn) (ny9_ : ka ≠ xw) (ny10_ : ka ≠ so) (ny11_ : ka ≠ lo) (ny12_ : ra ≠ ad) (ny13_ : ra ≠ xs) (ny14_ : ra ≠ xn) (ny15_ : ra ≠ xw) (ny16_ : ra ≠ so) (ny17_ : ra ≠ lo) (ny18_ : qo ≠ ad) (ny19_ : qo ≠ xs) (ny20_ : qo ≠ xn) (ny21_ : qo ≠ xw) (ny22_ : qo ≠ so) (ny23_ : qo ≠ lo) (ny24_ : qh ≠ ad) (ny25_ : qh ≠ xs) (ny26_ : qh ≠ xn) (ny27_ : qh ≠ xw) (ny28_ : qh ≠ so) (ny29_ : qh ≠ lo) (ny30_ : qp ≠ ad) (ny31_ : qp ≠ xs) (ny32_ : qp ≠ xn) (ny33_ : qp ≠ xw) (ny34_ : qp ≠ so) (ny35_ : qp ≠ lo) (ny36_ : qk ≠ ad) (ny37_ : qk ≠ xs) (ny38_ : qk ≠ xn) (ny39_ : qk ≠ xw) (ny40_ : qk ≠ so) (ny41_ : qk ≠ lo) (gxt_ : n0 ≤ t) (gxka_ : n0 ≤ ka) (gxra_ : n0 ≤ ra) (gxqo_ : n0 ≤ qo) (gxqh_ : n0 ≤ qh) (gxqp_ : n0 ≤ qp) (gxqk_ : n0 ≤ qk) (hD : DD dd) (hLL : LL l1 l3) (hL1 : ((fk dd 0 + w1_) + sM_) - sT_ = fk dd l1) (hL2 : ∀ x : Int64, ((x + w2_) + sF_) - sM_ = x) (hL3 : ((fk dd 0 + w3_) + sF_) - sT_ = fk dd l3) (hn1 : n1 = decide (w1_.toInt < (0 : Int))) (hn2 : n2 = decide (w2_.toInt < (0 : Int))) (hn3 : n3 = decide (w3_.toInt < (0 : Int))) (hr0 : reachF ([2, 2, 2, 2, 2, 2], []) (tN rr 0 2 4) 0 = some p0_) (hrun : runF (tN rr 0 1 2) (tN rr 1 2 0) (tN rr 2 0 1) n1 n2 n3 oM oF l1 l3 6 p0_.1 p0_.2 = some csF) :
    Ctr l Z (⟨kV, "searchTowards", "(I[Z)V"⟩ : MethodName) prog_82_method_2_code 11 none RM_rm11 ws #[.ref t, .int (tI rr 0 1 2), .ref lo] h0 (fun v h L => v = none ∧ Fr n0 L ∧ Keep h0 h [t, ka, ra, qo, qh, qp, qk] ∧ Fld Z h t kV "key" "[J" (.ref ka) ∧ Fld Z h t kV "solution" "[J" (.ref so) ∧ Fld Z h t kV "target" "I" (.int (tI rr 0 1 2)) ∧ LA Z h ka (csF.map (fk dd)) ∧ CI csF) := by
  refine Ctr.of (plainFor_of_name pn_5) ?_
  intro p e s m below meth c s₁ hx hby hml hrt hlk hnm hown hZ X0 e0
  have N0 := Fr.nil n0
  have D := @hb _ _ hby
  refine Go.cast (ef_11 m t (tI rr 0 1 2) lo) ?_
  refine g_iconst (v := (0 : Int32)) X0 hx (D d11_0) rfl rfl (g_istoreN (L' := #[vR t, vI (tI rr 0 1 2), vR lo, vI 0, u0, u0, u0, u0, u0, u0, u0]) X0 hx (D d11_1) rfl rfl (g_iloadN X0 hx (D d11_2) rfl rfl (g_aloadN X0 hx (D d11_3) rfl rfl rfl (g_getF X0 hx hZ hown (hW hw 80 rfl) e0 S8_ (D d11_4) rfl fun T1 X1 e1 => ?_))))
  refine g_icmp_ge (q := 30) (q0 := 10) X1 hx (D d11_7) (by decide) (by decide) rfl ?_ (fun h => absurd h (by decide))
  intro c2
  refine g_aloadN X1 hx (D d11_30) rfl rfl rfl (g_iconst (v := (0 : Int32)) X1 hx (D d11_31) rfl rfl (g_putF (ty := .int) X1 hx hZ hown (hW hw 80 rfl) e1 S8_ S0_ (Or.inl (hW hw 81 rfl)) (hW hw 34 rfl) (by decide) rfl rfl (D d11_32) rfl fun T3 h3 X3 e3 W3 F3 => ?_))
  have K4 := Keep.wr (Keep.refl h0 [t, ka, ra, qo, qh, qp, qk]) W3 (Or.inl (by simp))
  have F5 := Exa.wr W3 S0_
  have F6 := Exa.wr W3 S1_
  have F7 := Exa.wr W3 S2_
  have F8 := Fld.other W3 S3_ (Or.inr (slot_ne (a0 := a0) (Or.inr (hW hw 41 rfl)) (Or.inl (hW hw 81 rfl)) (by decide) (t := (.object kA)) (t' := .int) (by decide) (by decide)))
  have F9 := Fld.other W3 S4_ (Or.inr (slot_ne (a0 := a0) (Or.inr (hW hw 43 rfl)) (Or.inl (hW hw 81 rfl)) (by decide) (t := (.array .long)) (t' := .int) (by decide) (by decide)))
  have F10 := Fld.other W3 S5_ (Or.inr (slot_ne (a0 := a0) (Or.inr (hW hw 50 rfl)) (Or.inl (hW hw 81 rfl)) (by decide) (t := (.array .long)) (t' := .int) (by decide) (by decide)))
  have F11 := Fld.other W3 S6_ (Or.inr (slot_ne (a0 := a0) (Or.inr (hW hw 52 rfl)) (Or.inl (hW hw 81 rfl)) (by decide) (t := (.array .int)) (t' := .int) (by decide) (by decide)))
  have F12 := Fld.other W3 S7_ (Or.inr (slot_ne (a0 := a0) (Or.inr (hW hw 70 rfl)) (Or.inl (hW hw 81 rfl)) (by decide) (t := (.object kQ)) (t' := .int) (by decide) (by decide)))
  have F14 := Fld.other W3 S9_ (Or.inr (slot_ne (a0 := a0) (Or.inl (hW hw 83 rfl)) (Or.inl (hW hw 81 rfl)) (by decide) (t := .int) (t' := .int) (by decide) (by decide)))
  have F15 := Fld.other W3 S10_ (Or.inl (Ne.symm nx2_))
  have F16 := Fld.other W3 S11_ (Or.inl (Ne.symm nx2_))
  have F17 := Fld.other W3 S12_ (Or.inl (Ne.symm nx2_))
  have F18 := Fld.other W3 S13_ (Or.inl (Ne.symm nx2_))
  have F19 := Fld.other W3 S14_ (Or.inl (Ne.symm ny0_))
  have F20 := Fld.other W3 S15_ (Or.inl (Ne.symm ny0_))
  have F21 := Fld.other W3 S16_ (Or.inl (Ne.symm ny0_))
  have F22 := ArrL.other S17_ W3 (Ne.symm nx0_)
  have F23 := ArrL.other S18_ W3 (Ne.symm nx1_)
  have F24 := ArrL.other S19_ W3 (Ne.symm nx3_)
  have F25 := ArrL.other S20_ W3 (Ne.symm nx4_)
  have F26 := ArrL.other S21_ W3 (Ne.symm nx5_)
  have F27 := ArrL.other S22_ W3 (Ne.symm ny1_)
  have F28 := ArrL.other S23_ W3 (Ne.symm ny2_)
  have F29 := ArrL.other S24_ W3 (Ne.symm ny3_)
  have F30 := ArrL.other S25_ W3 (Ne.symm ny4_)
  have F31 := ArrL.other S26_ W3 (Ne.symm ny5_)
  have N32 := Fr.snoc X3 N0 gxt_
  have Z33 := zW Z0 W3
  refine g_aloadN X3 hx (D d11_35) rfl rfl rfl (g_iloadN X3 hx (D d11_36) rfl rfl (g_putF (ty := .int) X3 hx hZ hown (hW hw 82 rfl) e3 F14 F5 (Or.inl (hW hw 83 rfl)) (hW hw 34 rfl) (by decide) rfl rfl (D d11_37) rfl fun T34 h34 X34 e34 W34 F34 => ?_))
  have K35 := Keep.wr K4 W34 (Or.inl (by simp))
  have F36 := Exa.wr W34 F5
  have F37 := Exa.wr W34 F6
  have F38 := Exa.wr W34 F7
  have F39 := Fld.other W34 F8 (Or.inr (slot_ne (a0 := a0) (Or.inr (hW hw 41 rfl)) (Or.inl (hW hw 83 rfl)) (by decide) (t := (.object kA)) (t' := .int) (by decide) (by decide)))
  have F40 := Fld.other W34 F9 (Or.inr (slot_ne (a0 := a0) (Or.inr (hW hw 43 rfl)) (Or.inl (hW hw 83 rfl)) (by decide) (t := (.array .long)) (t' := .int) (by decide) (by decide)))
  have F41 := Fld.other W34 F10 (Or.inr (slot_ne (a0 := a0) (Or.inr (hW hw 50 rfl)) (Or.inl (hW hw 83 rfl)) (by decide) (t := (.array .long)) (t' := .int) (by decide) (by decide)))
  have F42 := Fld.other W34 F11 (Or.inr (slot_ne (a0 := a0) (Or.inr (hW hw 52 rfl)) (Or.inl (hW hw 83 rfl)) (by decide) (t := (.array .int)) (t' := .int) (by decide) (by decide)))
  have F43 := Fld.other W34 F12 (Or.inr (slot_ne (a0 := a0) (Or.inr (hW hw 70 rfl)) (Or.inl (hW hw 83 rfl)) (by decide) (t := (.object kQ)) (t' := .int) (by decide) (by decide)))
  have F44 := Fld.other W34 F3 (Or.inr (slot_ne (a0 := a0) (Or.inl (hW hw 81 rfl)) (Or.inl (hW hw 83 rfl)) (by decide) (t := .int) (t' := .int) (by decide) (by decide)))
  have F46 := Fld.other W34 F15 (Or.inl (Ne.symm nx2_))
  have F47 := Fld.other W34 F16 (Or.inl (Ne.symm nx2_))
  have F48 := Fld.other W34 F17 (Or.inl (Ne.symm nx2_))
  have F49 := Fld.other W34 F18 (Or.inl (Ne.symm nx2_))
  have F50 := Fld.other W34 F19 (Or.inl (Ne.symm ny0_))
  have F51 := Fld.other W34 F20 (Or.inl (Ne.symm ny0_))
  have F52 := Fld.other W34 F21 (Or.inl (Ne.symm ny0_))
  have F53 := ArrL.other F22 W34 (Ne.symm nx0_)
  have F54 := ArrL.other F23 W34 (Ne.symm nx1_)
  have F55 := ArrL.other F24 W34 (Ne.symm nx3_)
  have F56 := ArrL.other F25 W34 (Ne.symm nx4_)
  have F57 := ArrL.other F26 W34 (Ne.symm nx5_)
  have F58 := ArrL.other F27 W34 (Ne.symm ny1_)
  have F59 := ArrL.other F28 W34 (Ne.symm ny2_)
  have F60 := ArrL.other F29 W34 (Ne.symm ny3_)
  have F61 := ArrL.other F30 W34 (Ne.symm ny4_)
  have F62 := ArrL.other F31 W34 (Ne.symm ny5_)
  have N63 := Fr.snoc X34 N32 gxt_
  have Z64 := zW Z33 W34
  have A65 : LA Z h34 ka (([2, 2, 2, 2, 2, 2] : List Nat).map (fk dd)) := F53
  have q66 : ad ∉ [t, ka, ra, qo, qh, qp, qk] := (ninS (Ne.symm ny0_) (ninS (Ne.symm ny6_) (ninS (Ne.symm ny12_) (ninS (Ne.symm ny18_) (ninS (Ne.symm ny24_) (ninS (Ne.symm ny30_) (ninS (Ne.symm ny36_) nin0)))))))
  have q67 : xs ∉ [t, ka, ra, qo, qh, qp, qk] := (ninS (Ne.symm ny1_) (ninS (Ne.symm ny7_) (ninS (Ne.symm ny13_) (ninS (Ne.symm ny19_) (ninS (Ne.symm ny25_) (ninS (Ne.symm ny31_) (ninS (Ne.symm ny37_) nin0)))))))
  have q68 : xn ∉ [t, ka, ra, qo, qh, qp, qk] := (ninS (Ne.symm ny2_) (ninS (Ne.symm ny8_) (ninS (Ne.symm ny14_) (ninS (Ne.symm ny20_) (ninS (Ne.symm ny26_) (ninS (Ne.symm ny32_) (ninS (Ne.symm ny38_) nin0)))))))
  have q69 : xw ∉ [t, ka, ra, qo, qh, qp, qk] := (ninS (Ne.symm ny3_) (ninS (Ne.symm ny9_) (ninS (Ne.symm ny15_) (ninS (Ne.symm ny21_) (ninS (Ne.symm ny27_) (ninS (Ne.symm ny33_) (ninS (Ne.symm ny39_) nin0)))))))
  have q70 : so ∉ [t, ka, ra, qo, qh, qp, qk] := (ninS (Ne.symm ny4_) (ninS (Ne.symm ny10_) (ninS (Ne.symm ny16_) (ninS (Ne.symm ny22_) (ninS (Ne.symm ny28_) (ninS (Ne.symm ny34_) (ninS (Ne.symm ny40_) nin0)))))))
  have q71 : lo ∉ [t, ka, ra, qo, qh, qp, qk] := (ninS (Ne.symm ny5_) (ninS (Ne.symm ny11_) (ninS (Ne.symm ny17_) (ninS (Ne.symm ny23_) (ninS (Ne.symm ny29_) (ninS (Ne.symm ny35_) (ninS (Ne.symm ny41_) nin0)))))))
  have q72 : t ∉ [qo, qh, qp] := (ninS nx2_ (ninS nx3_ (ninS nx4_ nin0)))
  have q73 : ad ∉ [qo, qh, qp] := (ninS (Ne.symm ny18_) (ninS (Ne.symm ny24_) (ninS (Ne.symm ny30_) nin0)))
  have q74 : ka ∉ [qo, qh, qp] := (ninS nx7_ (ninS nx8_ (ninS nx9_ nin0)))
  have q75 : ra ∉ [qo, qh, qp] := (ninS nx11_ (ninS nx12_ (ninS nx13_ nin0)))
  have q76 : qk ∉ [qo, qh, qp] := (ninS (Ne.symm nx17_) (ninS (Ne.symm nx19_) (ninS (Ne.symm nx20_) nin0)))
  have q77 : xs ∉ [qo, qh, qp] := (ninS (Ne.symm ny19_) (ninS (Ne.symm ny25_) (ninS (Ne.symm ny31_) nin0)))
  have q78 : xn ∉ [qo, qh, qp] := (ninS (Ne.symm ny20_) (ninS (Ne.symm ny26_) (ninS (Ne.symm ny32_) nin0)))
  have q79 : xw ∉ [qo, qh, qp] := (ninS (Ne.symm ny21_) (ninS (Ne.symm ny27_) (ninS (Ne.symm ny33_) nin0)))
  have q80 : so ∉ [qo, qh, qp] := (ninS (Ne.symm ny22_) (ninS (Ne.symm ny28_) (ninS (Ne.symm ny34_) nin0)))
  have q81 : lo ∉ [qo, qh, qp] := (ninS (Ne.symm ny23_) (ninS (Ne.symm ny29_) (ninS (Ne.symm ny35_) nin0)))
  refine g_aloadN X34 hx (D d11_40) rfl rfl rfl (g_iconst (v := (2 : Int32)) X34 hx (D d11_41) rfl rfl (g_iloadN X34 hx (D d11_42) rfl rfl (g_imul X34 hx (D d11_43) rfl ?_)))
  rw [show ((2 : Int32) * (tI rr 0 1 2)) = (tI rr 0 2 4) from by apply trd3 rr; decide]
  refine g_lconst0 X34 hx (D d11_44) rfl (g_private X34 hx hZ hown (hW hw 84 rfl) (hW hw 85 rfl) (hW hw 86 rfl) (hW hw 34 rfl) (hW hw 35 rfl) (hW hw 87 rfl) (by decide) (rm12 l Z a0 hw [] t (tI rr 0 2 4) (0 : Int64) h34 n0 Z64 ka ra qo qh qp qk ad so (tI rr 0 1 2) (0 : Int32) ([0, 0, 0, 0, 0, 0] : List Int32) ([0, 0, 0, 0, 0, 0] : List Int32) ([-1, -1, -1, -1, -1, -1] : List Int32) ([0, 0, 0, 0, 0, 0] : List Int64) (0 : Int32) ([2, 2, 2, 2, 2, 2] : List Nat) ([] : List Nat) dd (tN rr 0 2 4) 0 _ F41 F42 F43 F44 F39 F40 F34 F46 F47 F48 F49 A65 F54 F55 F56 F57 F36 F37 nx0_ nx1_ nx2_ nx3_ nx4_ nx5_ nx6_ nx7_ nx8_ nx9_ nx10_ nx11_ nx12_ nx13_ nx14_ nx15_ nx16_ nx17_ nx18_ nx19_ nx20_ gxt_ gxka_ gxra_ gxqo_ gxqh_ gxqp_ gxqk_ rfl hD (by apply tri3 rr <;> rfl) (by apply trd3 rr; decide) own_i0 own_r0 own_ci0 (by decide) hr0) F36 (argsL := [.int (tI rr 0 2 4), .long 0]) (rest := []) pd_7 rfl rfl rfl (D d11_45) rfl (by rw [hml]; rfl) e34 (by decide) (W := 0) rfl (by decide) (by decide) (by decide) fun v82 T82 Lc82 X82 Q82 => ?_)
  obtain ⟨rfl, Nq82, Kq82, rc83, rl84, hp85, pl86, ky87, cn88, F89, F90, F91, F92, F93, F94, F95, F96, F97, F98, F99, F100, F101, F102, F103, F104, I105, R106, C107⟩ := Q82
  have N108 := Fr.app N63 Nq82
  have K109 := Keep.trans K35 Kq82 (allS (Or.inl (by simp)) (allS (Or.inl (by simp)) (allS (Or.inl (by simp)) (allS (Or.inl (by simp)) (allS (Or.inl (by simp)) (allS (Or.inl (by simp)) (allS (Or.inl (by simp)) all0)))))))
  have F110 := Exa.keep F36 Kq82
  have F111 := Exa.keep F37 Kq82
  have F112 := Exa.keep F38 Kq82
  have F124 := Fld.keep F50 Kq82 q66
  have F125 := Fld.keep F51 Kq82 q66
  have F126 := Fld.keep F52 Kq82 q66
  have F132 := ArrL.keep F58 Kq82 q67
  have F133 := ArrL.keep F59 Kq82 q68
  have F134 := ArrL.keep F60 Kq82 q69
  have F135 := ArrL.keep F61 Kq82 q70
  have F136 := ArrL.keep F62 Kq82 q71
  have Z137 := zK Z64 Kq82
  have LP48_b138 : ∀ (n : Nat) (Tb138 : State) (hh : Heap) (lcb138 : List Loc) (s3_ : Slot) (s4_ : Slot) (s5_ : Slot) (s6_ : Slot) (s7_ : Slot) (s8_ : Slot) (s9_ : Slot) (s10_ : Slot) (rc : Int32) (rl : List Int32) (hp : List Int32) (pl : List Int32) (ky : List Int64) (cn : Int32) (cs : List Nat) (A : List Nat) (fn : Nat) (Xb138 : Stand p l e RM_rm11 s m #[.ref t, .int (tI rr 0 1 2), .ref lo] below meth c Tb138 (lcb138) (0 + RM_rm12.cells) (0 + RM_rm12.slots)) (eb138 : Tb138.heap = hh) (Nb138 : Fr n0 lcb138) (Zb138 : n0 ≤ hh.size) (Kb138 : Keep h0 hh [t, ka, ra, qo, qh, qp, qk]) (o3_ : One s3_) (o4_ : One s4_) (o5_ : One s5_) (o6_ : One s6_) (o7_ : One s7_) (o8_ : One s8_) (hs9 : (s9_ = .unset ∧ s10_ = .unset) ∨ (∃ x, s9_ = .val (.long x) ∧ s10_ = .second)) (_f0 : Exa Z hh t kV) (_f1 : Exa Z hh qo kQ) (_f2 : Exa Z hh ad kA) (_f3 : Fld Z hh ad kA "starts" "[I" (.ref xs)) (_f4 : Fld Z hh ad kA "nodes" "[I" (.ref xn)) (_f5 : Fld Z hh ad kA "weights" "[J" (.ref xw)) (_f6 : IA Z hh xs [(0 : Int32), (tI rr 2 0 1), (tI rr 3 2 1), (3 : Int32)]) (_f7 : IA Z hh xn [(tI rr 1 2 1), (tI rr 2 0 0), (tI rr 2 0 1)]) (_f8 : LA Z hh xw [(tJ rr w1_ w1_ w2_), (tJ rr w3_ w3_ w1_), (tJ rr w2_ w2_ w3_)]) (_f9 : LA Z hh so [(tJ rr sT_ sF_ sM_), (tJ rr sM_ sT_ sF_), (tJ rr sF_ sM_ sT_)]) (_f10 : ZA Z hh lo [(tZ rr false oF oM), (tZ rr oM false oF), (tZ rr oF oM false)]) (_f11 : Fld Z hh t kV "key" "[J" (.ref ka)) (_f12 : Fld Z hh t kV "reached" "[I" (.ref ra)) (_f13 : Fld Z hh t kV "queue" "Lcom/example/hedged_dispatch/hedgeddispatch/stn/NodeQueue;" (.ref qo)) (_f14 : Fld Z hh t kV "reachedCount" "I" (.int rc)) (_f15 : Fld Z hh t kV "into" "Lcom/example/hedged_dispatch/hedgeddispatch/stn/Adjacency;" (.ref ad)) (_f16 : Fld Z hh t kV "solution" "[J" (.ref so)) (_f17 : Fld Z hh t kV "target" "I" (.int (tI rr 0 1 2))) (_f18 : Fld Z hh qo kQ "heap" "[I" (.ref qh)) (_f19 : Fld Z hh qo kQ "place" "[I" (.ref qp)) (_f20 : Fld Z hh qo kQ "key" "[J" (.ref qk)) (_f21 : Fld Z hh qo kQ "count" "I" (.int cn)) (_f22 : LA Z hh ka (cs.map (fk dd))) (_f23 : IA Z hh ra rl) (_f24 : IA Z hh qh hp) (_f25 : IA Z hh qp pl) (_f26 : LA Z hh qk ky) (_I : QI dd hp pl ky cn A cs) (_R : RI rc rl cs) (_C : CI cs) (_run : runF (tN rr 0 1 2) (tN rr 1 2 0) (tN rr 2 0 1) n1 n2 n3 oM oF l1 l3 fn cs A = some csF) (hnb138 : fn < n), Go p e below (Fin0 s RM_rm11 (fun v h L => v = none ∧ Fr n0 L ∧ Keep h0 h [t, ka, ra, qo, qh, qp, qk] ∧ Fld Z h t kV "key" "[J" (.ref ka) ∧ Fld Z h t kV "solution" "[J" (.ref so) ∧ Fld Z h t kV "target" "I" (.int (tI rr 0 1 2)) ∧ LA Z h ka (csF.map (fk dd)) ∧ CI csF)) (Tb138.setTop (mkF m 48 #[vR t, vI (tI rr 0 1 2), vR lo, s3_, s4_, s5_, s6_, s7_, s8_, s9_, s10_] [])) := by
   intro n
   induction n with
   | zero => intro Tb138 hh lcb138 s3_ s4_ s5_ s6_ s7_ s8_ s9_ s10_ rc rl hp pl ky cn cs A fn Xb138 eb138 Nb138 Zb138 Kb138 o3_ o4_ o5_ o6_ o7_ o8_ hs9 _f0 _f1 _f2 _f3 _f4 _f5 _f6 _f7 _f8 _f9 _f10 _f11 _f12 _f13 _f14 _f15 _f16 _f17 _f18 _f19 _f20 _f21 _f22 _f23 _f24 _f25 _f26 _I _R _C _run hnb138; exact absurd hnb138 (Nat.not_lt_zero _)
   | succ n ihb138 =>
    intro Tb138 hh lcb138 s3_ s4_ s5_ s6_ s7_ s8_ s9_ s10_ rc rl hp pl ky cn cs A fn Xb138 eb138 Nb138 Zb138 Kb138 o3_ o4_ o5_ o6_ o7_ o8_ hs9 _f0 _f1 _f2 _f3 _f4 _f5 _f6 _f7 _f8 _f9 _f10 _f11 _f12 _f13 _f14 _f15 _f16 _f17 _f18 _f19 _f20 _f21 _f22 _f23 _f24 _f25 _f26 _I _R _C _run hnb138
    refine g_aloadN Xb138 hx (D d11_48) rfl rfl rfl (g_getF Xb138 hx hZ hown (hW hw 69 rfl) eb138 _f13 (D d11_49) rfl fun T139 X139 e139 => (g_virtualP X139 hx hZ hown (hW hw 99 rfl) (hW hw 100 rfl) (hW hw 102 rfl) (hW hw 101 rfl) (hW hw 55 rfl) (hW hw 103 rfl) (by decide) (rm15 l Z a0 hw [] qo hh n0 Zb138 cn _f21) _f1 (argsL := []) (rest := []) pd_8 rfl rfl rfl (D d11_52) rfl (by rw [hml]; rfl) e139 (by decide) (W := 0) rfl (by decide) rfl rfl (by decide) (by decide) fun T140 X140 e140 => ?_))
    refine g_ifB_ne (q := 244) (q0 := 58) X140 hx (D d11_55) (by decide) (by decide) rfl ?_ ?_
    ·intro c141
     exact g_ret X140 hx hlk hrt (D d11_244) (by decide) (by decide) (by have hAe := own_ae _I c141; rw [hAe] at _run; have hq := own_run0 _run; rw [hq]; rw [e140]; exact ⟨rfl, Nb138, Kb138, _f11, _f16, _f17, _f22, _C⟩)
    intro c141
    have hA := own_ane _I c141
    refine g_aloadN X140 hx (D d11_58) rfl rfl rfl (g_getF X140 hx hZ hown (hW hw 69 rfl) e140 _f13 (D d11_59) rfl fun T142 X142 e142 => (g_virtual X142 hx hZ hown (hW hw 104 rfl) (hW hw 105 rfl) (hW hw 107 rfl) (hW hw 106 rfl) (hW hw 55 rfl) (hW hw 108 rfl) (by decide) (rm16 l Z a0 hw [] qo hh n0 Zb138 qh qp qk hp pl ky cn A cs dd _f18 _f19 _f20 _f21 _f24 _f25 _f26 _f1 nx15_ nx16_ nx17_ nx18_ nx19_ nx20_ gxqo_ gxqh_ gxqp_ gxqk_ hD hA _I _C) _f1 (argsL := []) (rest := []) pd_5 rfl rfl rfl (D d11_62) rfl (by rw [hml]; rfl) e142 (by decide) (W := 0) rfl (by decide) (by decide) (by decide) fun v143 T143 Lc143 X143 Q143 => ?_))
    obtain ⟨pr, rfl, hpr, hp6, Nq143, Kq143, hp144, pl145, cn146, F147, F148, F149, F150, A151, A152, A153, I154⟩ := Q143
    have N155 := Fr.app Nb138 Nq143
    have K156 := Keep.trans Kb138 Kq143 (allS (Or.inl (by simp)) (allS (Or.inl (by simp)) (allS (Or.inl (by simp)) all0)))
    have F157 := Exa.keep _f0 Kq143
    have F158 := Exa.keep _f1 Kq143
    have F159 := Exa.keep _f2 Kq143
    have F160 := Fld.keep _f3 Kq143 q73
    have F161 := Fld.keep _f4 Kq143 q73
    have F162 := Fld.keep _f5 Kq143 q73
    have F163 := ArrL.keep _f6 Kq143 q77
    have F164 := ArrL.keep _f7 Kq143 q78
    have F165 := ArrL.keep _f8 Kq143 q79
    have F166 := ArrL.keep _f9 Kq143 q80
    have F167 := ArrL.keep _f10 Kq143 q81
    have F168 := Fld.keep _f11 Kq143 q72
    have F169 := Fld.keep _f12 Kq143 q72
    have F170 := Fld.keep _f13 Kq143 q72
    have F171 := Fld.keep _f14 Kq143 q72
    have F172 := Fld.keep _f15 Kq143 q72
    have F173 := Fld.keep _f16 Kq143 q72
    have F174 := Fld.keep _f17 Kq143 q72
    have F179 := ArrL.keep _f22 Kq143 q74
    have F180 := ArrL.keep _f23 Kq143 q75
    have Z183 := zK Zb138 Kq143
    obtain ⟨fn2, hfn, qq, hst, hrun2⟩ := own_runS hA _run
    obtain ⟨⟨pa, pA⟩, hpo⟩ : ∃ p, pollF cs A = p := ⟨_, rfl⟩
    rw [hpo] at hpr hp6 hst I154
    (try dsimp only at hpr)
    (try dsimp only at hp6)
    (try dsimp only at hst)
    (try dsimp only at I154)
    rcases own_c6r rr hp6 with rfl | rfl | rfl | rfl | rfl | rfl
    ·obtain rfl : pr = (tI rr 0 2 4) := Int32.toInt_inj.mp (hpr.trans (by apply tri3 rr <;> rfl))
     rw [own_stT0] at hst
     obtain ⟨hg, hst⟩ := own_ite hst
     replace hg : cs.getD (tN rr 0 2 4) 0 = 0 := hg
     obtain ⟨p1, hr1, hst⟩ := own_bind hst
     obtain ⟨hg1, hst⟩ := own_ite hst
     obtain ⟨p2, hE1, hst⟩ := own_bind hst
     obtain ⟨hg2, hE2⟩ := own_ite hst
     refine g_istoreN (L' := #[vR t, vI (tI rr 0 1 2), vR lo, vI (tI rr 0 2 4), s4_, s5_, s6_, s7_, s8_, s9_, s10_]) X143 hx (D d11_65) (st_one rfl o3_ rfl rfl) rfl (g_iloadN X143 hx (D d11_66) rfl rfl (g_iconst (v := (2 : Int32)) X143 hx (D d11_67) rfl rfl (g_idiv X143 hx (D d11_68) (by decide) rfl ?_)))
     rw [show ((tI rr 0 2 4) / (2 : Int32)) = (tI rr 0 1 2) from by apply trd3 rr; decide]
     refine g_istore (L' := #[vR t, vI (tI rr 0 1 2), vR lo, vI (tI rr 0 2 4), vI (tI rr 0 1 2), s5_, s6_, s7_, s8_, s9_, s10_]) X143 hx (D d11_69) (st_one rfl o4_ rfl rfl) rfl (g_iloadN X143 hx (D d11_71) rfl rfl (g_iconst (v := (2 : Int32)) X143 hx (D d11_72) rfl rfl (g_irem X143 hx (D d11_73) (by decide) rfl ?_)))
     rw [show ((tI rr 0 2 4) % (2 : Int32)) = (0 : Int32) from by apply trd3 rr; decide]
     refine g_iconst (v := (1 : Int32)) X143 hx (D d11_74) rfl rfl (g_sel_icmp_ne (q := 83) X143 hx (D d11_75) (by decide) (by decide) rfl (D d11_82) (D d11_78) (D d11_79) rfl (by decide) (by decide) rfl ?_)
     rw [show b2i (decide ((0 : Int32).toInt = (1 : Int32).toInt)) = (0 : Int32) from by decide]
     refine g_istore (L' := #[vR t, vI (tI rr 0 1 2), vR lo, vI (tI rr 0 2 4), vI (tI rr 0 1 2), vI 0, s6_, s7_, s8_, s9_, s10_]) X143 hx (D d11_83) (st_one rfl o5_ rfl rfl) rfl (g_iload X143 hx (D d11_85) rfl rfl (g_if_ne (q := 103) (q0 := 90) X143 hx (D d11_87) (by decide) (by decide) rfl (fun h => absurd h (by decide)) fun c184 => (g_aloadN X143 hx (D d11_90) rfl rfl rfl (g_iloadN X143 hx (D d11_91) rfl rfl (g_iconst (v := (1 : Int32)) X143 hx (D d11_92) rfl rfl (g_iadd X143 hx (D d11_93) rfl ?_))))))
     rw [show ((tI rr 0 2 4) + (1 : Int32)) = (tI rr 1 3 5) from by apply trd3 rr; decide]
     refine g_aloadN X143 hx (D d11_94) rfl rfl rfl (g_getF X143 hx hZ hown (hW hw 49 rfl) rfl F168 (D d11_95) rfl fun T185 X185 e185 => (g_iloadN X185 hx (D d11_98) rfl rfl (g_lload_ (i := (tN rr 0 2 4)) (v := (fk dd (cs.getD (tN rr 0 2 4) 0))) X185 hx hZ e185 F179 (by apply tri3 rr <;> rfl) (own_cm _C (by apply trd3 rr; decide)) (D d11_99) rfl (g_private X185 hx hZ hown (hW hw 84 rfl) (hW hw 85 rfl) (hW hw 86 rfl) (hW hw 34 rfl) (hW hw 35 rfl) (hW hw 87 rfl) (by decide) (rm12 l Z a0 hw [] t (tI rr 1 3 5) (fk dd (cs.getD (tN rr 0 2 4) 0)) T143.heap n0 Z183 ka ra qo qh qp qk ad so (tI rr 0 1 2) rc rl hp144 pl145 ky cn146 cs pA dd (tN rr 1 3 5) (cs.getD (tN rr 0 2 4) 0) _ F168 F169 F170 F171 F172 F173 F174 F147 F148 F149 F150 F179 F180 A151 A152 A153 F157 F158 nx0_ nx1_ nx2_ nx3_ nx4_ nx5_ nx6_ nx7_ nx8_ nx9_ nx10_ nx11_ nx12_ nx13_ nx14_ nx15_ nx16_ nx17_ nx18_ nx19_ nx20_ gxt_ gxka_ gxra_ gxqo_ gxqh_ gxqp_ gxqk_ rfl hD (by apply tri3 rr <;> rfl) (by apply trd3 rr; decide) I154 _R _C (by rw [hg]; decide) hr1) F157 (argsL := [.int (tI rr 1 3 5), .long (fk dd (cs.getD (tN rr 0 2 4) 0))]) (rest := []) pd_7 rfl rfl rfl (D d11_100) rfl (by rw [hml]; rfl) e185 (by decide) (W := 0) rfl (by decide) (by decide) (by decide) fun v186 T186 Lc186 X186 Q186 => ?_))))
     obtain ⟨rfl, Nq186, Kq186, rc187, rl188, hp189, pl190, ky191, cn192, F193, F194, F195, F196, F197, F198, F199, F200, F201, F202, F203, F204, F205, F206, F207, F208, I209, R210, C211⟩ := Q186
     have N212 := Fr.app N155 Nq186
     have K213 := Keep.trans K156 Kq186 (allS (Or.inl (by simp)) (allS (Or.inl (by simp)) (allS (Or.inl (by simp)) (allS (Or.inl (by simp)) (allS (Or.inl (by simp)) (allS (Or.inl (by simp)) (allS (Or.inl (by simp)) all0)))))))
     have F214 := Exa.keep F157 Kq186
     have F215 := Exa.keep F158 Kq186
     have F216 := Exa.keep F159 Kq186
     have F217 := Fld.keep F160 Kq186 q66
     have F218 := Fld.keep F161 Kq186 q66
     have F219 := Fld.keep F162 Kq186 q66
     have F220 := ArrL.keep F163 Kq186 q67
     have F221 := ArrL.keep F164 Kq186 q68
     have F222 := ArrL.keep F165 Kq186 q69
     have F223 := ArrL.keep F166 Kq186 q70
     have F224 := ArrL.keep F167 Kq186 q71
     have Z241 := zK Z183 Kq186
     refine g_aloadN X186 hx (D d11_103) rfl rfl rfl (g_getF X186 hx hZ hown (hW hw 40 rfl) rfl F197 (D d11_104) rfl fun T242 X242 e242 => (g_iload X242 hx (D d11_107) rfl rfl (g_virtualP X242 hx hZ hown (hW hw 114 rfl) (hW hw 115 rfl) (hW hw 117 rfl) (hW hw 116 rfl) (hW hw 9 rfl) (hW hw 118 rfl) (by decide) (rm18 l Z a0 hw [] ad (tI rr 0 1 2) T186.heap n0 Z241 xs [(0 : Int32), (tI rr 2 0 1), (tI rr 3 2 1), (3 : Int32)] (tI rr 0 0 1) (tN rr 0 1 2) F217 F220 (by apply tri3 rr <;> rfl) (by apply tri3 rr <;> rfl)) F216 (argsL := [.int (tI rr 0 1 2)]) (rest := []) pd_9 rfl rfl rfl (D d11_109) rfl (by rw [hml]; rfl) e242 (by decide) (W := 0) rfl (by decide) rfl rfl (by decide) (by decide) fun T243 X243 e243 => (g_istore (L' := #[vR t, vI (tI rr 0 1 2), vR lo, vI (tI rr 0 2 4), vI (tI rr 0 1 2), vI 0, vI (tI rr 0 0 1), s7_, s8_, s9_, s10_]) X243 hx (D d11_112) (st_one rfl o6_ rfl rfl) rfl (g_iload X243 hx (D d11_114) rfl rfl (g_aloadN X243 hx (D d11_116) rfl rfl rfl (g_getF X243 hx hZ hown (hW hw 40 rfl) e243 F197 (D d11_117) rfl fun T244 X244 e244 => (g_iload X244 hx (D d11_120) rfl rfl (g_virtualP X244 hx hZ hown (hW hw 119 rfl) (hW hw 120 rfl) (hW hw 122 rfl) (hW hw 121 rfl) (hW hw 9 rfl) (hW hw 123 rfl) (by decide) (rm19 l Z a0 hw [] ad (tI rr 0 1 2) T186.heap n0 Z241 xs [(0 : Int32), (tI rr 2 0 1), (tI rr 3 2 1), (3 : Int32)] (tI rr 2 2 3) (tN rr 1 2 3) F217 F220 (by apply trd3 rr; decide) (by apply tri3 rr <;> rfl)) F216 (argsL := [.int (tI rr 0 1 2)]) (rest := [.int (tI rr 0 0 1)]) pd_9 rfl rfl rfl (D d11_122) rfl (by rw [hml]; rfl) e244 (by decide) (W := 1) rfl (by decide) rfl rfl (by decide) (by decide) fun T245 X245 e245 => (g_icmp_ge (q := 241) (q0 := 128) X245 hx (D d11_125) (by decide) (by decide) rfl (fun h => absurd h (by apply trd3 rr; decide)) fun c246 => ?_))))))))))
     have LP114_b247 : ∀ (Tb247 : State) (hh : Heap) (lcb247 : List Loc) (s7_ : Slot) (s8_ : Slot) (s9_ : Slot) (s10_ : Slot) (rc : Int32) (rl : List Int32) (hp : List Int32) (pl : List Int32) (ky : List Int64) (cn : Int32) (Xb247 : Stand p l e RM_rm11 s m #[.ref t, .int (tI rr 0 1 2), .ref lo] below meth c Tb247 (lcb247) (0 + RM_rm12.cells + RM_rm16.cells + RM_rm12.cells) (0 + RM_rm12.slots + RM_rm16.slots + RM_rm12.slots)) (eb247 : Tb247.heap = hh) (Nb247 : Fr n0 lcb247) (Zb247 : n0 ≤ hh.size) (Kb247 : Keep h0 hh [t, ka, ra, qo, qh, qp, qk]) (o7_ : One s7_) (o8_ : One s8_) (hs9 : (s9_ = .unset ∧ s10_ = .unset) ∨ (∃ x, s9_ = .val (.long x) ∧ s10_ = .second)) (_f0 : Exa Z hh t kV) (_f1 : Exa Z hh qo kQ) (_f2 : Exa Z hh ad kA) (_f3 : Fld Z hh ad kA "starts" "[I" (.ref xs)) (_f4 : Fld Z hh ad kA "nodes" "[I" (.ref xn)) (_f5 : Fld Z hh ad kA "weights" "[J" (.ref xw)) (_f6 : IA Z hh xs [(0 : Int32), (tI rr 2 0 1), (tI rr 3 2 1), (3 : Int32)]) (_f7 : IA Z hh xn [(tI rr 1 2 1), (tI rr 2 0 0), (tI rr 2 0 1)]) (_f8 : LA Z hh xw [(tJ rr w1_ w1_ w2_), (tJ rr w3_ w3_ w1_), (tJ rr w2_ w2_ w3_)]) (_f9 : LA Z hh so [(tJ rr sT_ sF_ sM_), (tJ rr sM_ sT_ sF_), (tJ rr sF_ sM_ sT_)]) (_f10 : ZA Z hh lo [(tZ rr false oF oM), (tZ rr oM false oF), (tZ rr oF oM false)]) (_f11 : Fld Z hh t kV "key" "[J" (.ref ka)) (_f12 : Fld Z hh t kV "reached" "[I" (.ref ra)) (_f13 : Fld Z hh t kV "queue" "Lcom/example/hedged_dispatch/hedgeddispatch/stn/NodeQueue;" (.ref qo)) (_f14 : Fld Z hh t kV "reachedCount" "I" (.int rc)) (_f15 : Fld Z hh t kV "into" "Lcom/example/hedged_dispatch/hedgeddispatch/stn/Adjacency;" (.ref ad)) (_f16 : Fld Z hh t kV "solution" "[J" (.ref so)) (_f17 : Fld Z hh t kV "target" "I" (.int (tI rr 0 1 2))) (_f18 : Fld Z hh qo kQ "heap" "[I" (.ref qh)) (_f19 : Fld Z hh qo kQ "place" "[I" (.ref qp)) (_f20 : Fld Z hh qo kQ "key" "[J" (.ref qk)) (_f21 : Fld Z hh qo kQ "count" "I" (.int cn)) (_f22 : LA Z hh ka (p2.1.map (fk dd))) (_f23 : IA Z hh ra rl) (_f24 : IA Z hh qh hp) (_f25 : IA Z hh qp pl) (_f26 : LA Z hh qk ky) (_I : QI dd hp pl ky cn p2.2 p2.1) (_R : RI rc rl p2.1) (_C : CI p2.1), Go p e below (Fin0 s RM_rm11 (fun v h L => v = none ∧ Fr n0 L ∧ Keep h0 h [t, ka, ra, qo, qh, qp, qk] ∧ Fld Z h t kV "key" "[J" (.ref ka) ∧ Fld Z h t kV "solution" "[J" (.ref so) ∧ Fld Z h t kV "target" "I" (.int (tI rr 0 1 2)) ∧ LA Z h ka (csF.map (fk dd)) ∧ CI csF)) (Tb247.setTop (mkF m 114 #[vR t, vI (tI rr 0 1 2), vR lo, vI (tI rr 0 2 4), vI (tI rr 0 1 2), vI 0, vI (tI rr 1 1 2), s7_, s8_, s9_, s10_] [])) := by
      intro Tb247 hh lcb247 s7_ s8_ s9_ s10_ rc rl hp pl ky cn Xb247 eb247 Nb247 Zb247 Kb247 o7_ o8_ hs9 _f0 _f1 _f2 _f3 _f4 _f5 _f6 _f7 _f8 _f9 _f10 _f11 _f12 _f13 _f14 _f15 _f16 _f17 _f18 _f19 _f20 _f21 _f22 _f23 _f24 _f25 _f26 _I _R _C
      refine g_iload Xb247 hx (D d11_114) rfl rfl (g_aloadN Xb247 hx (D d11_116) rfl rfl rfl (g_getF Xb247 hx hZ hown (hW hw 40 rfl) eb247 _f15 (D d11_117) rfl fun T248 X248 e248 => (g_iload X248 hx (D d11_120) rfl rfl (g_virtualP X248 hx hZ hown (hW hw 119 rfl) (hW hw 120 rfl) (hW hw 122 rfl) (hW hw 121 rfl) (hW hw 9 rfl) (hW hw 123 rfl) (by decide) (rm19 l Z a0 hw [] ad (tI rr 0 1 2) hh n0 Zb247 xs [(0 : Int32), (tI rr 2 0 1), (tI rr 3 2 1), (3 : Int32)] (tI rr 2 2 3) (tN rr 1 2 3) _f3 _f6 (by apply trd3 rr; decide) (by apply tri3 rr <;> rfl)) _f2 (argsL := [.int (tI rr 0 1 2)]) (rest := [.int (tI rr 1 1 2)]) pd_9 rfl rfl rfl (D d11_122) rfl (by rw [hml]; rfl) e248 (by decide) (W := 1) rfl (by decide) rfl rfl (by decide) (by decide) fun T249 X249 e249 => (g_icmp_ge (q := 241) (q0 := 128) X249 hx (D d11_125) (by decide) (by decide) rfl (fun h => absurd h (by apply trd3 rr; decide)) fun c250 => ?_)))))
      have hE := hE2
      have hg : p2.1.getD (tN rr 0 2 4) 0 = 0 := hg2
      refine g_aloadN X249 hx (D d11_128) rfl rfl rfl (g_getF X249 hx hZ hown (hW hw 40 rfl) e249 _f15 (D d11_129) rfl fun T251 X251 e251 => (g_iload X251 hx (D d11_132) rfl rfl (g_virtualP X251 hx hZ hown (hW hw 124 rfl) (hW hw 125 rfl) (hW hw 127 rfl) (hW hw 126 rfl) (hW hw 9 rfl) (hW hw 128 rfl) (by decide) (rm20 l Z a0 hw [] ad (tI rr 1 1 2) hh n0 Zb247 xn [(tI rr 1 2 1), (tI rr 2 0 0), (tI rr 2 0 1)] (tI rr 2 0 1) (tN rr 1 1 2) _f4 _f7 (by apply tri3 rr <;> rfl) (by apply tri3 rr <;> rfl)) _f2 (argsL := [.int (tI rr 1 1 2)]) (rest := []) pd_9 rfl rfl rfl (D d11_134) rfl (by rw [hml]; rfl) e251 (by decide) (W := 0) rfl (by decide) rfl rfl (by decide) (by decide) fun T252 X252 e252 => (g_istore (L' := #[vR t, vI (tI rr 0 1 2), vR lo, vI (tI rr 0 2 4), vI (tI rr 0 1 2), vI 0, vI (tI rr 1 1 2), vI (tI rr 2 0 1), s8_, s9_, s10_]) X252 hx (D d11_137) (st_one rfl o7_ rfl rfl) rfl (g_aloadN X252 hx (D d11_139) rfl rfl rfl (g_getF X252 hx hZ hown (hW hw 40 rfl) e252 _f15 (D d11_140) rfl fun T253 X253 e253 => (g_iload X253 hx (D d11_143) rfl rfl (g_virtualP X253 hx hZ hown (hW hw 129 rfl) (hW hw 130 rfl) (hW hw 132 rfl) (hW hw 131 rfl) (hW hw 9 rfl) (hW hw 133 rfl) (by decide) (rm21 l Z a0 hw [] ad (tI rr 1 1 2) hh n0 Zb247 xw [(tJ rr w1_ w1_ w2_), (tJ rr w3_ w3_ w1_), (tJ rr w2_ w2_ w3_)] w3_ (tN rr 1 1 2) _f5 _f8 (by apply tri3 rr <;> rfl) (by apply tri3 rr <;> rfl)) _f2 (argsL := [.int (tI rr 1 1 2)]) (rest := []) pd_10 rfl rfl rfl (D d11_145) rfl (by rw [hml]; rfl) e253 (by decide) (W := 0) rfl (by decide) rfl rfl (by decide) (by decide) fun T254 X254 e254 => (g_lconst0 X254 hx (D d11_148) rfl (g_sel_lcmp_ge (q := 158) (q1 := 150) X254 hx (D d11_149) rfl (D d11_150) (by decide) (by decide) rfl (D d11_157) (D d11_153) (D d11_154) rfl (by decide) (by decide) rfl ?_))))))))))
      rcases own_bb n3 with hN | hN
      ·rw [show decide (w3_.toInt < (0 : Int64).toInt) = true from hn3.symm.trans hN, b2i_t]
       refine g_istore (L' := #[vR t, vI (tI rr 0 1 2), vR lo, vI (tI rr 0 2 4), vI (tI rr 0 1 2), vI 0, vI (tI rr 1 1 2), vI (tI rr 2 0 1), vI 1, s9_, s10_]) X254 hx (D d11_158) (st_one rfl o8_ rfl rfl) rfl (g_iload X254 hx (D d11_160) rfl rfl (g_iload X254 hx (D d11_162) rfl rfl ?_))
       refine g_icmp_ne (q := 235) (q0 := 167) X254 hx (D d11_164) (by decide) (by decide) rfl ?_ (fun h => absurd h (by decide))
       intro c255
       obtain rfl := own_e0 (by rw [hN]; first | done | rfl) hE
       refine g_iinc (v := (tI rr 2 2 3)) (L' := #[vR t, vI (tI rr 0 1 2), vR lo, vI (tI rr 0 2 4), vI (tI rr 0 1 2), vI 0, vI (tI rr 2 2 3), vI (tI rr 2 0 1), vI 1, s9_, s10_]) X254 hx (D d11_235) rfl (by apply tri3 rr <;> rfl) rfl rfl (g_goto (q := 114) X254 hx (D d11_238) (by decide) (by decide) (g_iload X254 hx (D d11_114) rfl rfl (g_aloadN X254 hx (D d11_116) rfl rfl rfl (g_getF X254 hx hZ hown (hW hw 40 rfl) e254 _f15 (D d11_117) rfl fun T256 X256 e256 => (g_iload X256 hx (D d11_120) rfl rfl (g_virtualP X256 hx hZ hown (hW hw 119 rfl) (hW hw 120 rfl) (hW hw 122 rfl) (hW hw 121 rfl) (hW hw 9 rfl) (hW hw 123 rfl) (by decide) (rm19 l Z a0 hw [] ad (tI rr 0 1 2) hh n0 Zb247 xs [(0 : Int32), (tI rr 2 0 1), (tI rr 3 2 1), (3 : Int32)] (tI rr 2 2 3) (tN rr 1 2 3) _f3 _f6 (by apply trd3 rr; decide) (by apply tri3 rr <;> rfl)) _f2 (argsL := [.int (tI rr 0 1 2)]) (rest := [.int (tI rr 2 2 3)]) pd_9 rfl rfl rfl (D d11_122) rfl (by rw [hml]; rfl) e256 (by decide) (W := 1) rfl (by decide) rfl rfl (by decide) (by decide) fun T257 X257 e257 => ?_))))))
       refine g_icmp_ge (q := 241) (q0 := 128) X257 hx (D d11_125) (by decide) (by decide) rfl ?_ (fun h => absurd h (by apply trd3 rr; decide))
       intro c258
       refine g_goto (q := 48) X257 hx (D d11_241) (by decide) (by decide) ?_
       exact ihb138 _ hh _ (vI (tI rr 0 2 4)) (vI (tI rr 0 1 2)) (vI 0) (vI (tI rr 2 2 3)) (vI (tI rr 2 0 1)) (vI 1) (s9_) (s10_) rc rl hp pl ky cn p2.1 p2.2 fn2 X257 e257 Nb247 Zb247 Kb247 (One.val rfl) (One.val rfl) (One.val rfl) (One.val rfl) (One.val rfl) (One.val rfl) hs9 _f0 _f1 _f2 _f3 _f4 _f5 _f6 _f7 _f8 _f9 _f10 _f11 _f12 _f13 _f14 _f15 _f16 _f17 _f18 _f19 _f20 _f21 _f22 _f23 _f24 _f25 _f26 _I _R _C hrun2 (own_fn hfn hnb138)
      ·rw [show decide (w3_.toInt < (0 : Int64).toInt) = false from hn3.symm.trans hN, b2i_f]
       refine g_istore (L' := #[vR t, vI (tI rr 0 1 2), vR lo, vI (tI rr 0 2 4), vI (tI rr 0 1 2), vI 0, vI (tI rr 1 1 2), vI (tI rr 2 0 1), vI 0, s9_, s10_]) X254 hx (D d11_158) (st_one rfl o8_ rfl rfl) rfl (g_iload X254 hx (D d11_160) rfl rfl (g_iload X254 hx (D d11_162) rfl rfl (g_icmp_ne (q := 235) (q0 := 167) X254 hx (D d11_164) (by decide) (by decide) rfl (fun h => absurd h (by decide)) fun c259 => (g_iload X254 hx (D d11_167) rfl rfl (g_iloadN X254 hx (D d11_169) rfl rfl (g_icmp_ne (q := 180) (q0 := 173) X254 hx (D d11_170) (by decide) (by decide) rfl (fun h => absurd h (by apply trd3 rr; decide)) fun c260 => (g_aloadN X254 hx (D d11_173) rfl rfl rfl (g_iload X254 hx (D d11_174) rfl rfl (g_zload_ (i := (tN rr 2 0 1)) (v := oF) X254 hx hZ e254 _f10 (by apply tri3 rr <;> rfl) (by apply tri3 rr <;> rfl) (D d11_176) rfl ?_)))))))))
       refine g_ifB_ne (q := 235) (q0 := 180) X254 hx (D d11_177) (by decide) (by decide) rfl ?_ ?_
       ·intro c261
        obtain rfl := own_e0 (by rw [hN, c261]; first | done | rfl) hE
        refine g_iinc (v := (tI rr 2 2 3)) (L' := #[vR t, vI (tI rr 0 1 2), vR lo, vI (tI rr 0 2 4), vI (tI rr 0 1 2), vI 0, vI (tI rr 2 2 3), vI (tI rr 2 0 1), vI 0, s9_, s10_]) X254 hx (D d11_235) rfl (by apply tri3 rr <;> rfl) rfl rfl (g_goto (q := 114) X254 hx (D d11_238) (by decide) (by decide) (g_iload X254 hx (D d11_114) rfl rfl (g_aloadN X254 hx (D d11_116) rfl rfl rfl (g_getF X254 hx hZ hown (hW hw 40 rfl) e254 _f15 (D d11_117) rfl fun T262 X262 e262 => (g_iload X262 hx (D d11_120) rfl rfl (g_virtualP X262 hx hZ hown (hW hw 119 rfl) (hW hw 120 rfl) (hW hw 122 rfl) (hW hw 121 rfl) (hW hw 9 rfl) (hW hw 123 rfl) (by decide) (rm19 l Z a0 hw [] ad (tI rr 0 1 2) hh n0 Zb247 xs [(0 : Int32), (tI rr 2 0 1), (tI rr 3 2 1), (3 : Int32)] (tI rr 2 2 3) (tN rr 1 2 3) _f3 _f6 (by apply trd3 rr; decide) (by apply tri3 rr <;> rfl)) _f2 (argsL := [.int (tI rr 0 1 2)]) (rest := [.int (tI rr 2 2 3)]) pd_9 rfl rfl rfl (D d11_122) rfl (by rw [hml]; rfl) e262 (by decide) (W := 1) rfl (by decide) rfl rfl (by decide) (by decide) fun T263 X263 e263 => ?_))))))
        refine g_icmp_ge (q := 241) (q0 := 128) X263 hx (D d11_125) (by decide) (by decide) rfl ?_ (fun h => absurd h (by apply trd3 rr; decide))
        intro c264
        refine g_goto (q := 48) X263 hx (D d11_241) (by decide) (by decide) ?_
        exact ihb138 _ hh _ (vI (tI rr 0 2 4)) (vI (tI rr 0 1 2)) (vI 0) (vI (tI rr 2 2 3)) (vI (tI rr 2 0 1)) (vI 0) (s9_) (s10_) rc rl hp pl ky cn p2.1 p2.2 fn2 X263 e263 Nb247 Zb247 Kb247 (One.val rfl) (One.val rfl) (One.val rfl) (One.val rfl) (One.val rfl) (One.val rfl) hs9 _f0 _f1 _f2 _f3 _f4 _f5 _f6 _f7 _f8 _f9 _f10 _f11 _f12 _f13 _f14 _f15 _f16 _f17 _f18 _f19 _f20 _f21 _f22 _f23 _f24 _f25 _f26 _I _R _C hrun2 (own_fn hfn hnb138)
       intro c261
       refine g_aloadN X254 hx (D d11_180) rfl rfl rfl (g_getF X254 hx hZ hown (hW hw 49 rfl) e254 _f11 (D d11_181) rfl fun T265 X265 e265 => (g_iloadN X265 hx (D d11_184) rfl rfl (g_lload_ (i := (tN rr 0 2 4)) (v := (fk dd (p2.1.getD (tN rr 0 2 4) 0))) X265 hx hZ e265 _f22 (by apply tri3 rr <;> rfl) (own_cm _C (by apply trd3 rr; decide)) (D d11_185) rfl (g_aloadN X265 hx (D d11_186) rfl rfl rfl (g_getF X265 hx hZ hown (hW hw 40 rfl) e265 _f15 (D d11_187) rfl fun T266 X266 e266 => (g_iload X266 hx (D d11_190) rfl rfl (g_virtualP X266 hx hZ hown (hW hw 129 rfl) (hW hw 130 rfl) (hW hw 132 rfl) (hW hw 131 rfl) (hW hw 9 rfl) (hW hw 133 rfl) (by decide) (rm21 l Z a0 hw [] ad (tI rr 1 1 2) hh n0 Zb247 xw [(tJ rr w1_ w1_ w2_), (tJ rr w3_ w3_ w1_), (tJ rr w2_ w2_ w3_)] w3_ (tN rr 1 1 2) _f5 _f8 (by apply tri3 rr <;> rfl) (by apply tri3 rr <;> rfl)) _f2 (argsL := [.int (tI rr 1 1 2)]) (rest := [.long (fk dd (p2.1.getD (tN rr 0 2 4) 0))]) pd_10 rfl rfl rfl (D d11_192) rfl (by rw [hml]; rfl) e266 (by decide) (W := 2) rfl (by decide) rfl rfl (by decide) (by decide) fun T267 X267 e267 => (g_ladd X267 hx (D d11_195) rfl (g_aloadN X267 hx (D d11_196) rfl rfl rfl (g_getF X267 hx hZ hown (hW hw 42 rfl) e267 _f16 (D d11_197) rfl fun T268 X268 e268 => (g_iload X268 hx (D d11_200) rfl rfl (g_lload_ (i := (tN rr 2 0 1)) (v := sF_) X268 hx hZ e268 _f9 (by apply tri3 rr <;> rfl) (by apply tri3 rr <;> rfl) (D d11_202) rfl (g_ladd X268 hx (D d11_203) rfl (g_aloadN X268 hx (D d11_204) rfl rfl rfl ?_))))))))))))))
       refine g_getF X268 hx hZ hown (hW hw 42 rfl) e268 _f16 (D d11_205) rfl fun T269 X269 e269 => (g_iload X269 hx (D d11_208) rfl rfl (g_lload_ (i := (tN rr 0 1 2)) (v := sT_) X269 hx hZ e269 _f9 (by apply tri3 rr <;> rfl) (by apply tri3 rr <;> rfl) (D d11_210) rfl (g_lsub X269 hx (D d11_211) rfl ?_)))
       rw [show ((((fk dd (p2.1.getD (tN rr 0 2 4) 0)) + w3_) + sF_) - sT_) = fk dd l3 from by rw [hg]; exact hL3]
       refine g_lstore (L' := #[vR t, vI (tI rr 0 1 2), vR lo, vI (tI rr 0 2 4), vI (tI rr 0 1 2), vI 0, vI (tI rr 1 1 2), vI (tI rr 2 0 1), vI 0, vJ (fk dd l3), s2]) X269 hx (D d11_212) (by rcases hs9 with ⟨rfl, rfl⟩ | ⟨x9, rfl, rfl⟩ <;> rfl) rfl (g_aloadN X269 hx (D d11_214) rfl rfl rfl (g_iconst (v := (2 : Int32)) X269 hx (D d11_215) rfl rfl (g_iload X269 hx (D d11_216) rfl rfl (g_imul X269 hx (D d11_218) rfl ?_))))
       rw [show ((2 : Int32) * (tI rr 2 0 1)) = (tI rr 4 0 2) from by apply trd3 rr; decide]
       refine g_iload X269 hx (D d11_219) rfl rfl (g_sel_if_eq (q := 229) X269 hx (D d11_221) (by decide) (by decide) rfl (D d11_228) (D d11_224) (D d11_225) rfl (by decide) (by decide) rfl ?_)
       rw [show b2i (decide ((0 : Int32).toInt ≠ 0)) = (0 : Int32) from by decide]
       refine g_iadd X269 hx (D d11_229) rfl ?_
       rw [show ((tI rr 4 0 2) + (0 : Int32)) = (tI rr 4 0 2) from by apply trd3 rr; decide]
       refine g_lload X269 hx (D d11_230) rfl rfl (g_private X269 hx hZ hown (hW hw 84 rfl) (hW hw 85 rfl) (hW hw 86 rfl) (hW hw 34 rfl) (hW hw 35 rfl) (hW hw 87 rfl) (by decide) (rm12 l Z a0 hw [] t (tI rr 4 0 2) (fk dd l3) hh n0 Zb247 ka ra qo qh qp qk ad so (tI rr 0 1 2) rc rl hp pl ky cn p2.1 p2.2 dd (tN rr 4 0 2) l3 _ _f11 _f12 _f13 _f14 _f15 _f16 _f17 _f18 _f19 _f20 _f21 _f22 _f23 _f24 _f25 _f26 _f0 _f1 nx0_ nx1_ nx2_ nx3_ nx4_ nx5_ nx6_ nx7_ nx8_ nx9_ nx10_ nx11_ nx12_ nx13_ nx14_ nx15_ nx16_ nx17_ nx18_ nx19_ nx20_ gxt_ gxka_ gxra_ gxqo_ gxqh_ gxqp_ gxqk_ rfl hD (by apply tri3 rr <;> rfl) (by apply trd3 rr; decide) _I _R _C (own_ll hLL).2.1 (own_e1 (by rw [hN, c261]; first | done | rfl) hE)) _f0 (argsL := [.int (tI rr 4 0 2), .long (fk dd l3)]) (rest := []) pd_7 rfl rfl rfl (D d11_232) rfl (by rw [hml]; rfl) e269 (by decide) (W := 0) rfl (by decide) (by decide) (by decide) fun v270 T270 Lc270 X270 Q270 => ?_)
       obtain ⟨rfl, Nq270, Kq270, rc271, rl272, hp273, pl274, ky275, cn276, F277, F278, F279, F280, F281, F282, F283, F284, F285, F286, F287, F288, F289, F290, F291, F292, I293, R294, C295⟩ := Q270
       have N296 := Fr.app Nb247 Nq270
       have K297 := Keep.trans Kb247 Kq270 (allS (Or.inl (by simp)) (allS (Or.inl (by simp)) (allS (Or.inl (by simp)) (allS (Or.inl (by simp)) (allS (Or.inl (by simp)) (allS (Or.inl (by simp)) (allS (Or.inl (by simp)) all0)))))))
       have F298 := Exa.keep _f0 Kq270
       have F299 := Exa.keep _f1 Kq270
       have F300 := Exa.keep _f2 Kq270
       have F301 := Fld.keep _f3 Kq270 q66
       have F302 := Fld.keep _f4 Kq270 q66
       have F303 := Fld.keep _f5 Kq270 q66
       have F304 := ArrL.keep _f6 Kq270 q67
       have F305 := ArrL.keep _f7 Kq270 q68
       have F306 := ArrL.keep _f8 Kq270 q69
       have F307 := ArrL.keep _f9 Kq270 q70
       have F308 := ArrL.keep _f10 Kq270 q71
       have Z325 := zK Zb247 Kq270
       refine g_iinc (v := (tI rr 2 2 3)) (L' := #[vR t, vI (tI rr 0 1 2), vR lo, vI (tI rr 0 2 4), vI (tI rr 0 1 2), vI 0, vI (tI rr 2 2 3), vI (tI rr 2 0 1), vI 0, vJ (fk dd l3), s2]) X270 hx (D d11_235) rfl (by apply tri3 rr <;> rfl) rfl rfl (g_goto (q := 114) X270 hx (D d11_238) (by decide) (by decide) (g_iload X270 hx (D d11_114) rfl rfl (g_aloadN X270 hx (D d11_116) rfl rfl rfl (g_getF X270 hx hZ hown (hW hw 40 rfl) rfl F281 (D d11_117) rfl fun T326 X326 e326 => (g_iload X326 hx (D d11_120) rfl rfl (g_virtualP X326 hx hZ hown (hW hw 119 rfl) (hW hw 120 rfl) (hW hw 122 rfl) (hW hw 121 rfl) (hW hw 9 rfl) (hW hw 123 rfl) (by decide) (rm19 l Z a0 hw [] ad (tI rr 0 1 2) T270.heap n0 Z325 xs [(0 : Int32), (tI rr 2 0 1), (tI rr 3 2 1), (3 : Int32)] (tI rr 2 2 3) (tN rr 1 2 3) F301 F304 (by apply trd3 rr; decide) (by apply tri3 rr <;> rfl)) F300 (argsL := [.int (tI rr 0 1 2)]) (rest := [.int (tI rr 2 2 3)]) pd_9 rfl rfl rfl (D d11_122) rfl (by rw [hml]; rfl) e326 (by decide) (W := 1) rfl (by decide) rfl rfl (by decide) (by decide) fun T327 X327 e327 => ?_))))))
       refine g_icmp_ge (q := 241) (q0 := 128) X327 hx (D d11_125) (by decide) (by decide) rfl ?_ (fun h => absurd h (by apply trd3 rr; decide))
       intro c328
       refine g_goto (q := 48) X327 hx (D d11_241) (by decide) (by decide) ?_
       exact ihb138 _ T270.heap _ (vI (tI rr 0 2 4)) (vI (tI rr 0 1 2)) (vI 0) (vI (tI rr 2 2 3)) (vI (tI rr 2 0 1)) (vI 0) (vJ (fk dd l3)) (s2) rc271 rl272 hp273 pl274 ky275 cn276 qq.1 qq.2 fn2 X327 e327 N296 Z325 K297 (One.val rfl) (One.val rfl) (One.val rfl) (One.val rfl) (One.val rfl) (One.val rfl) (Or.inr ⟨_, rfl, rfl⟩) F298 F299 F300 F301 F302 F303 F304 F305 F306 F307 F308 F277 F278 F279 F280 F281 F282 F283 F284 F285 F286 F287 F288 F289 F290 F291 F292 I293 R294 C295 hrun2 (own_fn hfn hnb138)
     have hE := hE1
     have hg : p1.1.getD (tN rr 0 2 4) 0 = 0 := hg1
     refine g_aloadN X245 hx (D d11_128) rfl rfl rfl (g_getF X245 hx hZ hown (hW hw 40 rfl) e245 F197 (D d11_129) rfl fun T329 X329 e329 => (g_iload X329 hx (D d11_132) rfl rfl (g_virtualP X329 hx hZ hown (hW hw 124 rfl) (hW hw 125 rfl) (hW hw 127 rfl) (hW hw 126 rfl) (hW hw 9 rfl) (hW hw 128 rfl) (by decide) (rm20 l Z a0 hw [] ad (tI rr 0 0 1) T186.heap n0 Z241 xn [(tI rr 1 2 1), (tI rr 2 0 0), (tI rr 2 0 1)] (tI rr 1 2 0) (tN rr 0 0 1) F218 F221 (by apply tri3 rr <;> rfl) (by apply tri3 rr <;> rfl)) F216 (argsL := [.int (tI rr 0 0 1)]) (rest := []) pd_9 rfl rfl rfl (D d11_134) rfl (by rw [hml]; rfl) e329 (by decide) (W := 0) rfl (by decide) rfl rfl (by decide) (by decide) fun T330 X330 e330 => (g_istore (L' := #[vR t, vI (tI rr 0 1 2), vR lo, vI (tI rr 0 2 4), vI (tI rr 0 1 2), vI 0, vI (tI rr 0 0 1), vI (tI rr 1 2 0), s8_, s9_, s10_]) X330 hx (D d11_137) (st_one rfl o7_ rfl rfl) rfl (g_aloadN X330 hx (D d11_139) rfl rfl rfl (g_getF X330 hx hZ hown (hW hw 40 rfl) e330 F197 (D d11_140) rfl fun T331 X331 e331 => (g_iload X331 hx (D d11_143) rfl rfl (g_virtualP X331 hx hZ hown (hW hw 129 rfl) (hW hw 130 rfl) (hW hw 132 rfl) (hW hw 131 rfl) (hW hw 9 rfl) (hW hw 133 rfl) (by decide) (rm21 l Z a0 hw [] ad (tI rr 0 0 1) T186.heap n0 Z241 xw [(tJ rr w1_ w1_ w2_), (tJ rr w3_ w3_ w1_), (tJ rr w2_ w2_ w3_)] w1_ (tN rr 0 0 1) F219 F222 (by apply tri3 rr <;> rfl) (by apply tri3 rr <;> rfl)) F216 (argsL := [.int (tI rr 0 0 1)]) (rest := []) pd_10 rfl rfl rfl (D d11_145) rfl (by rw [hml]; rfl) e331 (by decide) (W := 0) rfl (by decide) rfl rfl (by decide) (by decide) fun T332 X332 e332 => (g_lconst0 X332 hx (D d11_148) rfl (g_sel_lcmp_ge (q := 158) (q1 := 150) X332 hx (D d11_149) rfl (D d11_150) (by decide) (by decide) rfl (D d11_157) (D d11_153) (D d11_154) rfl (by decide) (by decide) rfl ?_))))))))))
     rcases own_bb n1 with hN | hN
     ·rw [show decide (w1_.toInt < (0 : Int64).toInt) = true from hn1.symm.trans hN, b2i_t]
      refine g_istore (L' := #[vR t, vI (tI rr 0 1 2), vR lo, vI (tI rr 0 2 4), vI (tI rr 0 1 2), vI 0, vI (tI rr 0 0 1), vI (tI rr 1 2 0), vI 1, s9_, s10_]) X332 hx (D d11_158) (st_one rfl o8_ rfl rfl) rfl (g_iload X332 hx (D d11_160) rfl rfl (g_iload X332 hx (D d11_162) rfl rfl ?_))
      refine g_icmp_ne (q := 235) (q0 := 167) X332 hx (D d11_164) (by decide) (by decide) rfl ?_ (fun h => absurd h (by decide))
      intro c333
      obtain rfl := own_e0 (by rw [hN]; first | done | rfl) hE
      refine g_iinc (v := (tI rr 1 1 2)) (L' := #[vR t, vI (tI rr 0 1 2), vR lo, vI (tI rr 0 2 4), vI (tI rr 0 1 2), vI 0, vI (tI rr 1 1 2), vI (tI rr 1 2 0), vI 1, s9_, s10_]) X332 hx (D d11_235) rfl (by apply tri3 rr <;> rfl) rfl rfl (g_goto (q := 114) X332 hx (D d11_238) (by decide) (by decide) ?_)
      exact LP114_b247 _ T186.heap _ (vI (tI rr 1 2 0)) (vI 1) (s9_) (s10_) rc187 rl188 hp189 pl190 ky191 cn192 X332 e332 N212 Z241 K213 (One.val rfl) (One.val rfl) hs9 F214 F215 F216 F217 F218 F219 F220 F221 F222 F223 F224 F193 F194 F195 F196 F197 F198 F199 F200 F201 F202 F203 F204 F205 F206 F207 F208 I209 R210 C211
     ·rw [show decide (w1_.toInt < (0 : Int64).toInt) = false from hn1.symm.trans hN, b2i_f]
      refine g_istore (L' := #[vR t, vI (tI rr 0 1 2), vR lo, vI (tI rr 0 2 4), vI (tI rr 0 1 2), vI 0, vI (tI rr 0 0 1), vI (tI rr 1 2 0), vI 0, s9_, s10_]) X332 hx (D d11_158) (st_one rfl o8_ rfl rfl) rfl (g_iload X332 hx (D d11_160) rfl rfl (g_iload X332 hx (D d11_162) rfl rfl (g_icmp_ne (q := 235) (q0 := 167) X332 hx (D d11_164) (by decide) (by decide) rfl (fun h => absurd h (by decide)) fun c334 => (g_iload X332 hx (D d11_167) rfl rfl (g_iloadN X332 hx (D d11_169) rfl rfl (g_icmp_ne (q := 180) (q0 := 173) X332 hx (D d11_170) (by decide) (by decide) rfl (fun h => absurd h (by apply trd3 rr; decide)) fun c335 => (g_aloadN X332 hx (D d11_173) rfl rfl rfl (g_iload X332 hx (D d11_174) rfl rfl (g_zload_ (i := (tN rr 1 2 0)) (v := oM) X332 hx hZ e332 F224 (by apply tri3 rr <;> rfl) (by apply tri3 rr <;> rfl) (D d11_176) rfl ?_)))))))))
      refine g_ifB_ne (q := 235) (q0 := 180) X332 hx (D d11_177) (by decide) (by decide) rfl ?_ ?_
      ·intro c336
       obtain rfl := own_e0 (by rw [hN, c336]; first | done | rfl) hE
       refine g_iinc (v := (tI rr 1 1 2)) (L' := #[vR t, vI (tI rr 0 1 2), vR lo, vI (tI rr 0 2 4), vI (tI rr 0 1 2), vI 0, vI (tI rr 1 1 2), vI (tI rr 1 2 0), vI 0, s9_, s10_]) X332 hx (D d11_235) rfl (by apply tri3 rr <;> rfl) rfl rfl (g_goto (q := 114) X332 hx (D d11_238) (by decide) (by decide) ?_)
       exact LP114_b247 _ T186.heap _ (vI (tI rr 1 2 0)) (vI 0) (s9_) (s10_) rc187 rl188 hp189 pl190 ky191 cn192 X332 e332 N212 Z241 K213 (One.val rfl) (One.val rfl) hs9 F214 F215 F216 F217 F218 F219 F220 F221 F222 F223 F224 F193 F194 F195 F196 F197 F198 F199 F200 F201 F202 F203 F204 F205 F206 F207 F208 I209 R210 C211
      intro c336
      refine g_aloadN X332 hx (D d11_180) rfl rfl rfl (g_getF X332 hx hZ hown (hW hw 49 rfl) e332 F193 (D d11_181) rfl fun T337 X337 e337 => (g_iloadN X337 hx (D d11_184) rfl rfl (g_lload_ (i := (tN rr 0 2 4)) (v := (fk dd (p1.1.getD (tN rr 0 2 4) 0))) X337 hx hZ e337 F204 (by apply tri3 rr <;> rfl) (own_cm C211 (by apply trd3 rr; decide)) (D d11_185) rfl (g_aloadN X337 hx (D d11_186) rfl rfl rfl (g_getF X337 hx hZ hown (hW hw 40 rfl) e337 F197 (D d11_187) rfl fun T338 X338 e338 => (g_iload X338 hx (D d11_190) rfl rfl (g_virtualP X338 hx hZ hown (hW hw 129 rfl) (hW hw 130 rfl) (hW hw 132 rfl) (hW hw 131 rfl) (hW hw 9 rfl) (hW hw 133 rfl) (by decide) (rm21 l Z a0 hw [] ad (tI rr 0 0 1) T186.heap n0 Z241 xw [(tJ rr w1_ w1_ w2_), (tJ rr w3_ w3_ w1_), (tJ rr w2_ w2_ w3_)] w1_ (tN rr 0 0 1) F219 F222 (by apply tri3 rr <;> rfl) (by apply tri3 rr <;> rfl)) F216 (argsL := [.int (tI rr 0 0 1)]) (rest := [.long (fk dd (p1.1.getD (tN rr 0 2 4) 0))]) pd_10 rfl rfl rfl (D d11_192) rfl (by rw [hml]; rfl) e338 (by decide) (W := 2) rfl (by decide) rfl rfl (by decide) (by decide) fun T339 X339 e339 => (g_ladd X339 hx (D d11_195) rfl (g_aloadN X339 hx (D d11_196) rfl rfl rfl (g_getF X339 hx hZ hown (hW hw 42 rfl) e339 F198 (D d11_197) rfl fun T340 X340 e340 => (g_iload X340 hx (D d11_200) rfl rfl (g_lload_ (i := (tN rr 1 2 0)) (v := sM_) X340 hx hZ e340 F223 (by apply tri3 rr <;> rfl) (by apply tri3 rr <;> rfl) (D d11_202) rfl (g_ladd X340 hx (D d11_203) rfl (g_aloadN X340 hx (D d11_204) rfl rfl rfl ?_))))))))))))))
      refine g_getF X340 hx hZ hown (hW hw 42 rfl) e340 F198 (D d11_205) rfl fun T341 X341 e341 => (g_iload X341 hx (D d11_208) rfl rfl (g_lload_ (i := (tN rr 0 1 2)) (v := sT_) X341 hx hZ e341 F223 (by apply tri3 rr <;> rfl) (by apply tri3 rr <;> rfl) (D d11_210) rfl (g_lsub X341 hx (D d11_211) rfl ?_)))
      rw [show ((((fk dd (p1.1.getD (tN rr 0 2 4) 0)) + w1_) + sM_) - sT_) = fk dd l1 from by rw [hg]; exact hL1]
      refine g_lstore (L' := #[vR t, vI (tI rr 0 1 2), vR lo, vI (tI rr 0 2 4), vI (tI rr 0 1 2), vI 0, vI (tI rr 0 0 1), vI (tI rr 1 2 0), vI 0, vJ (fk dd l1), s2]) X341 hx (D d11_212) (by rcases hs9 with ⟨rfl, rfl⟩ | ⟨x9, rfl, rfl⟩ <;> rfl) rfl (g_aloadN X341 hx (D d11_214) rfl rfl rfl (g_iconst (v := (2 : Int32)) X341 hx (D d11_215) rfl rfl (g_iload X341 hx (D d11_216) rfl rfl (g_imul X341 hx (D d11_218) rfl ?_))))
      rw [show ((2 : Int32) * (tI rr 1 2 0)) = (tI rr 2 4 0) from by apply trd3 rr; decide]
      refine g_iload X341 hx (D d11_219) rfl rfl (g_sel_if_eq (q := 229) X341 hx (D d11_221) (by decide) (by decide) rfl (D d11_228) (D d11_224) (D d11_225) rfl (by decide) (by decide) rfl ?_)
      rw [show b2i (decide ((0 : Int32).toInt ≠ 0)) = (0 : Int32) from by decide]
      refine g_iadd X341 hx (D d11_229) rfl ?_
      rw [show ((tI rr 2 4 0) + (0 : Int32)) = (tI rr 2 4 0) from by apply trd3 rr; decide]
      refine g_lload X341 hx (D d11_230) rfl rfl (g_private X341 hx hZ hown (hW hw 84 rfl) (hW hw 85 rfl) (hW hw 86 rfl) (hW hw 34 rfl) (hW hw 35 rfl) (hW hw 87 rfl) (by decide) (rm12 l Z a0 hw [] t (tI rr 2 4 0) (fk dd l1) T186.heap n0 Z241 ka ra qo qh qp qk ad so (tI rr 0 1 2) rc187 rl188 hp189 pl190 ky191 cn192 p1.1 p1.2 dd (tN rr 2 4 0) l1 _ F193 F194 F195 F196 F197 F198 F199 F200 F201 F202 F203 F204 F205 F206 F207 F208 F214 F215 nx0_ nx1_ nx2_ nx3_ nx4_ nx5_ nx6_ nx7_ nx8_ nx9_ nx10_ nx11_ nx12_ nx13_ nx14_ nx15_ nx16_ nx17_ nx18_ nx19_ nx20_ gxt_ gxka_ gxra_ gxqo_ gxqh_ gxqp_ gxqk_ rfl hD (by apply tri3 rr <;> rfl) (by apply trd3 rr; decide) I209 R210 C211 (own_ll hLL).1 (own_e1 (by rw [hN, c336]; first | done | rfl) hE)) F214 (argsL := [.int (tI rr 2 4 0), .long (fk dd l1)]) (rest := []) pd_7 rfl rfl rfl (D d11_232) rfl (by rw [hml]; rfl) e341 (by decide) (W := 0) rfl (by decide) (by decide) (by decide) fun v342 T342 Lc342 X342 Q342 => ?_)
      obtain ⟨rfl, Nq342, Kq342, rc343, rl344, hp345, pl346, ky347, cn348, F349, F350, F351, F352, F353, F354, F355, F356, F357, F358, F359, F360, F361, F362, F363, F364, I365, R366, C367⟩ := Q342
      have N368 := Fr.app N212 Nq342
      have K369 := Keep.trans K213 Kq342 (allS (Or.inl (by simp)) (allS (Or.inl (by simp)) (allS (Or.inl (by simp)) (allS (Or.inl (by simp)) (allS (Or.inl (by simp)) (allS (Or.inl (by simp)) (allS (Or.inl (by simp)) all0)))))))
      have F370 := Exa.keep F214 Kq342
      have F371 := Exa.keep F215 Kq342
      have F372 := Exa.keep F216 Kq342
      have F373 := Fld.keep F217 Kq342 q66
      have F374 := Fld.keep F218 Kq342 q66
      have F375 := Fld.keep F219 Kq342 q66
      have F376 := ArrL.keep F220 Kq342 q67
      have F377 := ArrL.keep F221 Kq342 q68
      have F378 := ArrL.keep F222 Kq342 q69
      have F379 := ArrL.keep F223 Kq342 q70
      have F380 := ArrL.keep F224 Kq342 q71
      have Z397 := zK Z241 Kq342
      refine g_iinc (v := (tI rr 1 1 2)) (L' := #[vR t, vI (tI rr 0 1 2), vR lo, vI (tI rr 0 2 4), vI (tI rr 0 1 2), vI 0, vI (tI rr 1 1 2), vI (tI rr 1 2 0), vI 0, vJ (fk dd l1), s2]) X342 hx (D d11_235) rfl (by apply tri3 rr <;> rfl) rfl rfl (g_goto (q := 114) X342 hx (D d11_238) (by decide) (by decide) ?_)
      exact LP114_b247 _ T342.heap _ (vI (tI rr 1 2 0)) (vI 0) (vJ (fk dd l1)) (s2) rc343 rl344 hp345 pl346 ky347 cn348 X342 rfl N368 Z397 K369 (One.val rfl) (One.val rfl) (Or.inr ⟨_, rfl, rfl⟩) F370 F371 F372 F373 F374 F375 F376 F377 F378 F379 F380 F349 F350 F351 F352 F353 F354 F355 F356 F357 F358 F359 F360 F361 F362 F363 F364 I365 R366 C367
    ·obtain rfl : pr = (tI rr 1 3 5) := Int32.toInt_inj.mp (hpr.trans (by apply tri3 rr <;> rfl))
     rw [own_stT1] at hst
     obtain ⟨hg, hst⟩ := own_ite hst
     replace hg : cs.getD (tN rr 1 3 5) 0 = 0 := hg
     have hg1 := hg
     obtain ⟨p2, hE1, hst⟩ := own_bind hst
     obtain ⟨hg2, hE2⟩ := own_ite hst
     refine g_istoreN (L' := #[vR t, vI (tI rr 0 1 2), vR lo, vI (tI rr 1 3 5), s4_, s5_, s6_, s7_, s8_, s9_, s10_]) X143 hx (D d11_65) (st_one rfl o3_ rfl rfl) rfl (g_iloadN X143 hx (D d11_66) rfl rfl (g_iconst (v := (2 : Int32)) X143 hx (D d11_67) rfl rfl (g_idiv X143 hx (D d11_68) (by decide) rfl ?_)))
     rw [show ((tI rr 1 3 5) / (2 : Int32)) = (tI rr 0 1 2) from by apply trd3 rr; decide]
     refine g_istore (L' := #[vR t, vI (tI rr 0 1 2), vR lo, vI (tI rr 1 3 5), vI (tI rr 0 1 2), s5_, s6_, s7_, s8_, s9_, s10_]) X143 hx (D d11_69) (st_one rfl o4_ rfl rfl) rfl (g_iloadN X143 hx (D d11_71) rfl rfl (g_iconst (v := (2 : Int32)) X143 hx (D d11_72) rfl rfl (g_irem X143 hx (D d11_73) (by decide) rfl ?_)))
     rw [show ((tI rr 1 3 5) % (2 : Int32)) = (1 : Int32) from by apply trd3 rr; decide]
     refine g_iconst (v := (1 : Int32)) X143 hx (D d11_74) rfl rfl (g_sel_icmp_ne (q := 83) X143 hx (D d11_75) (by decide) (by decide) rfl (D d11_82) (D d11_78) (D d11_79) rfl (by decide) (by decide) rfl ?_)
     rw [show b2i (decide ((1 : Int32).toInt = (1 : Int32).toInt)) = (1 : Int32) from by decide]
     refine g_istore (L' := #[vR t, vI (tI rr 0 1 2), vR lo, vI (tI rr 1 3 5), vI (tI rr 0 1 2), vI 1, s6_, s7_, s8_, s9_, s10_]) X143 hx (D d11_83) (st_one rfl o5_ rfl rfl) rfl (g_iload X143 hx (D d11_85) rfl rfl ?_)
     refine g_if_ne (q := 103) (q0 := 90) X143 hx (D d11_87) (by decide) (by decide) rfl ?_ (fun h => absurd h (by decide))
     intro c398
     refine g_aloadN X143 hx (D d11_103) rfl rfl rfl (g_getF X143 hx hZ hown (hW hw 40 rfl) rfl F172 (D d11_104) rfl fun T399 X399 e399 => (g_iload X399 hx (D d11_107) rfl rfl (g_virtualP X399 hx hZ hown (hW hw 114 rfl) (hW hw 115 rfl) (hW hw 117 rfl) (hW hw 116 rfl) (hW hw 9 rfl) (hW hw 118 rfl) (by decide) (rm18 l Z a0 hw [] ad (tI rr 0 1 2) T143.heap n0 Z183 xs [(0 : Int32), (tI rr 2 0 1), (tI rr 3 2 1), (3 : Int32)] (tI rr 0 0 1) (tN rr 0 1 2) F160 F163 (by apply tri3 rr <;> rfl) (by apply tri3 rr <;> rfl)) F159 (argsL := [.int (tI rr 0 1 2)]) (rest := []) pd_9 rfl rfl rfl (D d11_109) rfl (by rw [hml]; rfl) e399 (by decide) (W := 0) rfl (by decide) rfl rfl (by decide) (by decide) fun T400 X400 e400 => (g_istore (L' := #[vR t, vI (tI rr 0 1 2), vR lo, vI (tI rr 1 3 5), vI (tI rr 0 1 2), vI 1, vI (tI rr 0 0 1), s7_, s8_, s9_, s10_]) X400 hx (D d11_112) (st_one rfl o6_ rfl rfl) rfl (g_iload X400 hx (D d11_114) rfl rfl (g_aloadN X400 hx (D d11_116) rfl rfl rfl (g_getF X400 hx hZ hown (hW hw 40 rfl) e400 F172 (D d11_117) rfl fun T401 X401 e401 => (g_iload X401 hx (D d11_120) rfl rfl (g_virtualP X401 hx hZ hown (hW hw 119 rfl) (hW hw 120 rfl) (hW hw 122 rfl) (hW hw 121 rfl) (hW hw 9 rfl) (hW hw 123 rfl) (by decide) (rm19 l Z a0 hw [] ad (tI rr 0 1 2) T143.heap n0 Z183 xs [(0 : Int32), (tI rr 2 0 1), (tI rr 3 2 1), (3 : Int32)] (tI rr 2 2 3) (tN rr 1 2 3) F160 F163 (by apply trd3 rr; decide) (by apply tri3 rr <;> rfl)) F159 (argsL := [.int (tI rr 0 1 2)]) (rest := [.int (tI rr 0 0 1)]) pd_9 rfl rfl rfl (D d11_122) rfl (by rw [hml]; rfl) e401 (by decide) (W := 1) rfl (by decide) rfl rfl (by decide) (by decide) fun T402 X402 e402 => (g_icmp_ge (q := 241) (q0 := 128) X402 hx (D d11_125) (by decide) (by decide) rfl (fun h => absurd h (by apply trd3 rr; decide)) fun c403 => ?_))))))))))
     have LP114_b404 : ∀ (Tb404 : State) (hh : Heap) (lcb404 : List Loc) (s7_ : Slot) (s8_ : Slot) (s9_ : Slot) (s10_ : Slot) (rc : Int32) (rl : List Int32) (hp : List Int32) (pl : List Int32) (ky : List Int64) (cn : Int32) (Xb404 : Stand p l e RM_rm11 s m #[.ref t, .int (tI rr 0 1 2), .ref lo] below meth c Tb404 (lcb404) (0 + RM_rm12.cells + RM_rm16.cells) (0 + RM_rm12.slots + RM_rm16.slots)) (eb404 : Tb404.heap = hh) (Nb404 : Fr n0 lcb404) (Zb404 : n0 ≤ hh.size) (Kb404 : Keep h0 hh [t, ka, ra, qo, qh, qp, qk]) (o7_ : One s7_) (o8_ : One s8_) (hs9 : (s9_ = .unset ∧ s10_ = .unset) ∨ (∃ x, s9_ = .val (.long x) ∧ s10_ = .second)) (_f0 : Exa Z hh t kV) (_f1 : Exa Z hh qo kQ) (_f2 : Exa Z hh ad kA) (_f3 : Fld Z hh ad kA "starts" "[I" (.ref xs)) (_f4 : Fld Z hh ad kA "nodes" "[I" (.ref xn)) (_f5 : Fld Z hh ad kA "weights" "[J" (.ref xw)) (_f6 : IA Z hh xs [(0 : Int32), (tI rr 2 0 1), (tI rr 3 2 1), (3 : Int32)]) (_f7 : IA Z hh xn [(tI rr 1 2 1), (tI rr 2 0 0), (tI rr 2 0 1)]) (_f8 : LA Z hh xw [(tJ rr w1_ w1_ w2_), (tJ rr w3_ w3_ w1_), (tJ rr w2_ w2_ w3_)]) (_f9 : LA Z hh so [(tJ rr sT_ sF_ sM_), (tJ rr sM_ sT_ sF_), (tJ rr sF_ sM_ sT_)]) (_f10 : ZA Z hh lo [(tZ rr false oF oM), (tZ rr oM false oF), (tZ rr oF oM false)]) (_f11 : Fld Z hh t kV "key" "[J" (.ref ka)) (_f12 : Fld Z hh t kV "reached" "[I" (.ref ra)) (_f13 : Fld Z hh t kV "queue" "Lcom/example/hedged_dispatch/hedgeddispatch/stn/NodeQueue;" (.ref qo)) (_f14 : Fld Z hh t kV "reachedCount" "I" (.int rc)) (_f15 : Fld Z hh t kV "into" "Lcom/example/hedged_dispatch/hedgeddispatch/stn/Adjacency;" (.ref ad)) (_f16 : Fld Z hh t kV "solution" "[J" (.ref so)) (_f17 : Fld Z hh t kV "target" "I" (.int (tI rr 0 1 2))) (_f18 : LA Z hh ka (p2.1.map (fk dd))) (_f19 : IA Z hh ra rl) (_f20 : Fld Z hh qo kQ "heap" "[I" (.ref qh)) (_f21 : Fld Z hh qo kQ "place" "[I" (.ref qp)) (_f22 : Fld Z hh qo kQ "key" "[J" (.ref qk)) (_f23 : Fld Z hh qo kQ "count" "I" (.int cn)) (_f24 : IA Z hh qh hp) (_f25 : IA Z hh qp pl) (_f26 : LA Z hh qk ky) (_I : QI dd hp pl ky cn p2.2 p2.1) (_R : RI rc rl p2.1) (_C : CI p2.1), Go p e below (Fin0 s RM_rm11 (fun v h L => v = none ∧ Fr n0 L ∧ Keep h0 h [t, ka, ra, qo, qh, qp, qk] ∧ Fld Z h t kV "key" "[J" (.ref ka) ∧ Fld Z h t kV "solution" "[J" (.ref so) ∧ Fld Z h t kV "target" "I" (.int (tI rr 0 1 2)) ∧ LA Z h ka (csF.map (fk dd)) ∧ CI csF)) (Tb404.setTop (mkF m 114 #[vR t, vI (tI rr 0 1 2), vR lo, vI (tI rr 1 3 5), vI (tI rr 0 1 2), vI 1, vI (tI rr 1 1 2), s7_, s8_, s9_, s10_] [])) := by
      intro Tb404 hh lcb404 s7_ s8_ s9_ s10_ rc rl hp pl ky cn Xb404 eb404 Nb404 Zb404 Kb404 o7_ o8_ hs9 _f0 _f1 _f2 _f3 _f4 _f5 _f6 _f7 _f8 _f9 _f10 _f11 _f12 _f13 _f14 _f15 _f16 _f17 _f18 _f19 _f20 _f21 _f22 _f23 _f24 _f25 _f26 _I _R _C
      refine g_iload Xb404 hx (D d11_114) rfl rfl (g_aloadN Xb404 hx (D d11_116) rfl rfl rfl (g_getF Xb404 hx hZ hown (hW hw 40 rfl) eb404 _f15 (D d11_117) rfl fun T405 X405 e405 => (g_iload X405 hx (D d11_120) rfl rfl (g_virtualP X405 hx hZ hown (hW hw 119 rfl) (hW hw 120 rfl) (hW hw 122 rfl) (hW hw 121 rfl) (hW hw 9 rfl) (hW hw 123 rfl) (by decide) (rm19 l Z a0 hw [] ad (tI rr 0 1 2) hh n0 Zb404 xs [(0 : Int32), (tI rr 2 0 1), (tI rr 3 2 1), (3 : Int32)] (tI rr 2 2 3) (tN rr 1 2 3) _f3 _f6 (by apply trd3 rr; decide) (by apply tri3 rr <;> rfl)) _f2 (argsL := [.int (tI rr 0 1 2)]) (rest := [.int (tI rr 1 1 2)]) pd_9 rfl rfl rfl (D d11_122) rfl (by rw [hml]; rfl) e405 (by decide) (W := 1) rfl (by decide) rfl rfl (by decide) (by decide) fun T406 X406 e406 => (g_icmp_ge (q := 241) (q0 := 128) X406 hx (D d11_125) (by decide) (by decide) rfl (fun h => absurd h (by apply trd3 rr; decide)) fun c407 => ?_)))))
      have hE := hE2
      have hg : p2.1.getD (tN rr 1 3 5) 0 = 0 := hg2
      refine g_aloadN X406 hx (D d11_128) rfl rfl rfl (g_getF X406 hx hZ hown (hW hw 40 rfl) e406 _f15 (D d11_129) rfl fun T408 X408 e408 => (g_iload X408 hx (D d11_132) rfl rfl (g_virtualP X408 hx hZ hown (hW hw 124 rfl) (hW hw 125 rfl) (hW hw 127 rfl) (hW hw 126 rfl) (hW hw 9 rfl) (hW hw 128 rfl) (by decide) (rm20 l Z a0 hw [] ad (tI rr 1 1 2) hh n0 Zb404 xn [(tI rr 1 2 1), (tI rr 2 0 0), (tI rr 2 0 1)] (tI rr 2 0 1) (tN rr 1 1 2) _f4 _f7 (by apply tri3 rr <;> rfl) (by apply tri3 rr <;> rfl)) _f2 (argsL := [.int (tI rr 1 1 2)]) (rest := []) pd_9 rfl rfl rfl (D d11_134) rfl (by rw [hml]; rfl) e408 (by decide) (W := 0) rfl (by decide) rfl rfl (by decide) (by decide) fun T409 X409 e409 => (g_istore (L' := #[vR t, vI (tI rr 0 1 2), vR lo, vI (tI rr 1 3 5), vI (tI rr 0 1 2), vI 1, vI (tI rr 1 1 2), vI (tI rr 2 0 1), s8_, s9_, s10_]) X409 hx (D d11_137) (st_one rfl o7_ rfl rfl) rfl (g_aloadN X409 hx (D d11_139) rfl rfl rfl (g_getF X409 hx hZ hown (hW hw 40 rfl) e409 _f15 (D d11_140) rfl fun T410 X410 e410 => (g_iload X410 hx (D d11_143) rfl rfl (g_virtualP X410 hx hZ hown (hW hw 129 rfl) (hW hw 130 rfl) (hW hw 132 rfl) (hW hw 131 rfl) (hW hw 9 rfl) (hW hw 133 rfl) (by decide) (rm21 l Z a0 hw [] ad (tI rr 1 1 2) hh n0 Zb404 xw [(tJ rr w1_ w1_ w2_), (tJ rr w3_ w3_ w1_), (tJ rr w2_ w2_ w3_)] w3_ (tN rr 1 1 2) _f5 _f8 (by apply tri3 rr <;> rfl) (by apply tri3 rr <;> rfl)) _f2 (argsL := [.int (tI rr 1 1 2)]) (rest := []) pd_10 rfl rfl rfl (D d11_145) rfl (by rw [hml]; rfl) e410 (by decide) (W := 0) rfl (by decide) rfl rfl (by decide) (by decide) fun T411 X411 e411 => (g_lconst0 X411 hx (D d11_148) rfl (g_sel_lcmp_ge (q := 158) (q1 := 150) X411 hx (D d11_149) rfl (D d11_150) (by decide) (by decide) rfl (D d11_157) (D d11_153) (D d11_154) rfl (by decide) (by decide) rfl ?_))))))))))
      rcases own_bb n3 with hN | hN
      ·rw [show decide (w3_.toInt < (0 : Int64).toInt) = true from hn3.symm.trans hN, b2i_t]
       refine g_istore (L' := #[vR t, vI (tI rr 0 1 2), vR lo, vI (tI rr 1 3 5), vI (tI rr 0 1 2), vI 1, vI (tI rr 1 1 2), vI (tI rr 2 0 1), vI 1, s9_, s10_]) X411 hx (D d11_158) (st_one rfl o8_ rfl rfl) rfl (g_iload X411 hx (D d11_160) rfl rfl (g_iload X411 hx (D d11_162) rfl rfl (g_icmp_ne (q := 235) (q0 := 167) X411 hx (D d11_164) (by decide) (by decide) rfl (fun h => absurd h (by decide)) fun c412 => (g_iload X411 hx (D d11_167) rfl rfl (g_iloadN X411 hx (D d11_169) rfl rfl (g_icmp_ne (q := 180) (q0 := 173) X411 hx (D d11_170) (by decide) (by decide) rfl (fun h => absurd h (by apply trd3 rr; decide)) fun c413 => (g_aloadN X411 hx (D d11_173) rfl rfl rfl (g_iload X411 hx (D d11_174) rfl rfl (g_zload_ (i := (tN rr 2 0 1)) (v := oF) X411 hx hZ e411 _f10 (by apply tri3 rr <;> rfl) (by apply tri3 rr <;> rfl) (D d11_176) rfl ?_)))))))))
       refine g_ifB_ne (q := 235) (q0 := 180) X411 hx (D d11_177) (by decide) (by decide) rfl ?_ ?_
       ·intro c414
        obtain rfl := own_e0 (by rw [hN, c414]; first | done | rfl) hE
        refine g_iinc (v := (tI rr 2 2 3)) (L' := #[vR t, vI (tI rr 0 1 2), vR lo, vI (tI rr 1 3 5), vI (tI rr 0 1 2), vI 1, vI (tI rr 2 2 3), vI (tI rr 2 0 1), vI 1, s9_, s10_]) X411 hx (D d11_235) rfl (by apply tri3 rr <;> rfl) rfl rfl (g_goto (q := 114) X411 hx (D d11_238) (by decide) (by decide) (g_iload X411 hx (D d11_114) rfl rfl (g_aloadN X411 hx (D d11_116) rfl rfl rfl (g_getF X411 hx hZ hown (hW hw 40 rfl) e411 _f15 (D d11_117) rfl fun T415 X415 e415 => (g_iload X415 hx (D d11_120) rfl rfl (g_virtualP X415 hx hZ hown (hW hw 119 rfl) (hW hw 120 rfl) (hW hw 122 rfl) (hW hw 121 rfl) (hW hw 9 rfl) (hW hw 123 rfl) (by decide) (rm19 l Z a0 hw [] ad (tI rr 0 1 2) hh n0 Zb404 xs [(0 : Int32), (tI rr 2 0 1), (tI rr 3 2 1), (3 : Int32)] (tI rr 2 2 3) (tN rr 1 2 3) _f3 _f6 (by apply trd3 rr; decide) (by apply tri3 rr <;> rfl)) _f2 (argsL := [.int (tI rr 0 1 2)]) (rest := [.int (tI rr 2 2 3)]) pd_9 rfl rfl rfl (D d11_122) rfl (by rw [hml]; rfl) e415 (by decide) (W := 1) rfl (by decide) rfl rfl (by decide) (by decide) fun T416 X416 e416 => ?_))))))
        refine g_icmp_ge (q := 241) (q0 := 128) X416 hx (D d11_125) (by decide) (by decide) rfl ?_ (fun h => absurd h (by apply trd3 rr; decide))
        intro c417
        refine g_goto (q := 48) X416 hx (D d11_241) (by decide) (by decide) ?_
        exact ihb138 _ hh _ (vI (tI rr 1 3 5)) (vI (tI rr 0 1 2)) (vI 1) (vI (tI rr 2 2 3)) (vI (tI rr 2 0 1)) (vI 1) (s9_) (s10_) rc rl hp pl ky cn p2.1 p2.2 fn2 X416 e416 Nb404 Zb404 Kb404 (One.val rfl) (One.val rfl) (One.val rfl) (One.val rfl) (One.val rfl) (One.val rfl) hs9 _f0 _f1 _f2 _f3 _f4 _f5 _f6 _f7 _f8 _f9 _f10 _f11 _f12 _f13 _f14 _f15 _f16 _f17 _f20 _f21 _f22 _f23 _f18 _f19 _f24 _f25 _f26 _I _R _C hrun2 (own_fn hfn hnb138)
       intro c414
       refine g_aloadN X411 hx (D d11_180) rfl rfl rfl (g_getF X411 hx hZ hown (hW hw 49 rfl) e411 _f11 (D d11_181) rfl fun T418 X418 e418 => (g_iloadN X418 hx (D d11_184) rfl rfl (g_lload_ (i := (tN rr 1 3 5)) (v := (fk dd (p2.1.getD (tN rr 1 3 5) 0))) X418 hx hZ e418 _f18 (by apply tri3 rr <;> rfl) (own_cm _C (by apply trd3 rr; decide)) (D d11_185) rfl (g_aloadN X418 hx (D d11_186) rfl rfl rfl (g_getF X418 hx hZ hown (hW hw 40 rfl) e418 _f15 (D d11_187) rfl fun T419 X419 e419 => (g_iload X419 hx (D d11_190) rfl rfl (g_virtualP X419 hx hZ hown (hW hw 129 rfl) (hW hw 130 rfl) (hW hw 132 rfl) (hW hw 131 rfl) (hW hw 9 rfl) (hW hw 133 rfl) (by decide) (rm21 l Z a0 hw [] ad (tI rr 1 1 2) hh n0 Zb404 xw [(tJ rr w1_ w1_ w2_), (tJ rr w3_ w3_ w1_), (tJ rr w2_ w2_ w3_)] w3_ (tN rr 1 1 2) _f5 _f8 (by apply tri3 rr <;> rfl) (by apply tri3 rr <;> rfl)) _f2 (argsL := [.int (tI rr 1 1 2)]) (rest := [.long (fk dd (p2.1.getD (tN rr 1 3 5) 0))]) pd_10 rfl rfl rfl (D d11_192) rfl (by rw [hml]; rfl) e419 (by decide) (W := 2) rfl (by decide) rfl rfl (by decide) (by decide) fun T420 X420 e420 => (g_ladd X420 hx (D d11_195) rfl (g_aloadN X420 hx (D d11_196) rfl rfl rfl (g_getF X420 hx hZ hown (hW hw 42 rfl) e420 _f16 (D d11_197) rfl fun T421 X421 e421 => (g_iload X421 hx (D d11_200) rfl rfl (g_lload_ (i := (tN rr 2 0 1)) (v := sF_) X421 hx hZ e421 _f9 (by apply tri3 rr <;> rfl) (by apply tri3 rr <;> rfl) (D d11_202) rfl (g_ladd X421 hx (D d11_203) rfl (g_aloadN X421 hx (D d11_204) rfl rfl rfl ?_))))))))))))))
       refine g_getF X421 hx hZ hown (hW hw 42 rfl) e421 _f16 (D d11_205) rfl fun T422 X422 e422 => (g_iload X422 hx (D d11_208) rfl rfl (g_lload_ (i := (tN rr 0 1 2)) (v := sT_) X422 hx hZ e422 _f9 (by apply tri3 rr <;> rfl) (by apply tri3 rr <;> rfl) (D d11_210) rfl (g_lsub X422 hx (D d11_211) rfl ?_)))
       rw [show ((((fk dd (p2.1.getD (tN rr 1 3 5) 0)) + w3_) + sF_) - sT_) = fk dd l3 from by rw [hg]; exact hL3]
       refine g_lstore (L' := #[vR t, vI (tI rr 0 1 2), vR lo, vI (tI rr 1 3 5), vI (tI rr 0 1 2), vI 1, vI (tI rr 1 1 2), vI (tI rr 2 0 1), vI 1, vJ (fk dd l3), s2]) X422 hx (D d11_212) (by rcases hs9 with ⟨rfl, rfl⟩ | ⟨x9, rfl, rfl⟩ <;> rfl) rfl (g_aloadN X422 hx (D d11_214) rfl rfl rfl (g_iconst (v := (2 : Int32)) X422 hx (D d11_215) rfl rfl (g_iload X422 hx (D d11_216) rfl rfl (g_imul X422 hx (D d11_218) rfl ?_))))
       rw [show ((2 : Int32) * (tI rr 2 0 1)) = (tI rr 4 0 2) from by apply trd3 rr; decide]
       refine g_iload X422 hx (D d11_219) rfl rfl (g_sel_if_eq (q := 229) X422 hx (D d11_221) (by decide) (by decide) rfl (D d11_228) (D d11_224) (D d11_225) rfl (by decide) (by decide) rfl ?_)
       rw [show b2i (decide ((1 : Int32).toInt ≠ 0)) = (1 : Int32) from by decide]
       refine g_iadd X422 hx (D d11_229) rfl ?_
       rw [show ((tI rr 4 0 2) + (1 : Int32)) = (tI rr 5 1 3) from by apply trd3 rr; decide]
       refine g_lload X422 hx (D d11_230) rfl rfl (g_private X422 hx hZ hown (hW hw 84 rfl) (hW hw 85 rfl) (hW hw 86 rfl) (hW hw 34 rfl) (hW hw 35 rfl) (hW hw 87 rfl) (by decide) (rm12 l Z a0 hw [] t (tI rr 5 1 3) (fk dd l3) hh n0 Zb404 ka ra qo qh qp qk ad so (tI rr 0 1 2) rc rl hp pl ky cn p2.1 p2.2 dd (tN rr 5 1 3) l3 _ _f11 _f12 _f13 _f14 _f15 _f16 _f17 _f20 _f21 _f22 _f23 _f18 _f19 _f24 _f25 _f26 _f0 _f1 nx0_ nx1_ nx2_ nx3_ nx4_ nx5_ nx6_ nx7_ nx8_ nx9_ nx10_ nx11_ nx12_ nx13_ nx14_ nx15_ nx16_ nx17_ nx18_ nx19_ nx20_ gxt_ gxka_ gxra_ gxqo_ gxqh_ gxqp_ gxqk_ rfl hD (by apply tri3 rr <;> rfl) (by apply trd3 rr; decide) _I _R _C (own_ll hLL).2.1 (own_e1 (by rw [hN, c414]; first | done | rfl) hE)) _f0 (argsL := [.int (tI rr 5 1 3), .long (fk dd l3)]) (rest := []) pd_7 rfl rfl rfl (D d11_232) rfl (by rw [hml]; rfl) e422 (by decide) (W := 0) rfl (by decide) (by decide) (by decide) fun v423 T423 Lc423 X423 Q423 => ?_)
       obtain ⟨rfl, Nq423, Kq423, rc424, rl425, hp426, pl427, ky428, cn429, F430, F431, F432, F433, F434, F435, F436, F437, F438, F439, F440, F441, F442, F443, F444, F445, I446, R447, C448⟩ := Q423
       have N449 := Fr.app Nb404 Nq423
       have K450 := Keep.trans Kb404 Kq423 (allS (Or.inl (by simp)) (allS (Or.inl (by simp)) (allS (Or.inl (by simp)) (allS (Or.inl (by simp)) (allS (Or.inl (by simp)) (allS (Or.inl (by simp)) (allS (Or.inl (by simp)) all0)))))))
       have F451 := Exa.keep _f0 Kq423
       have F452 := Exa.keep _f1 Kq423
       have F453 := Exa.keep _f2 Kq423
       have F454 := Fld.keep _f3 Kq423 q66
       have F455 := Fld.keep _f4 Kq423 q66
       have F456 := Fld.keep _f5 Kq423 q66
       have F457 := ArrL.keep _f6 Kq423 q67
       have F458 := ArrL.keep _f7 Kq423 q68
       have F459 := ArrL.keep _f8 Kq423 q69
       have F460 := ArrL.keep _f9 Kq423 q70
       have F461 := ArrL.keep _f10 Kq423 q71
       have Z478 := zK Zb404 Kq423
       refine g_iinc (v := (tI rr 2 2 3)) (L' := #[vR t, vI (tI rr 0 1 2), vR lo, vI (tI rr 1 3 5), vI (tI rr 0 1 2), vI 1, vI (tI rr 2 2 3), vI (tI rr 2 0 1), vI 1, vJ (fk dd l3), s2]) X423 hx (D d11_235) rfl (by apply tri3 rr <;> rfl) rfl rfl (g_goto (q := 114) X423 hx (D d11_238) (by decide) (by decide) (g_iload X423 hx (D d11_114) rfl rfl (g_aloadN X423 hx (D d11_116) rfl rfl rfl (g_getF X423 hx hZ hown (hW hw 40 rfl) rfl F434 (D d11_117) rfl fun T479 X479 e479 => (g_iload X479 hx (D d11_120) rfl rfl (g_virtualP X479 hx hZ hown (hW hw 119 rfl) (hW hw 120 rfl) (hW hw 122 rfl) (hW hw 121 rfl) (hW hw 9 rfl) (hW hw 123 rfl) (by decide) (rm19 l Z a0 hw [] ad (tI rr 0 1 2) T423.heap n0 Z478 xs [(0 : Int32), (tI rr 2 0 1), (tI rr 3 2 1), (3 : Int32)] (tI rr 2 2 3) (tN rr 1 2 3) F454 F457 (by apply trd3 rr; decide) (by apply tri3 rr <;> rfl)) F453 (argsL := [.int (tI rr 0 1 2)]) (rest := [.int (tI rr 2 2 3)]) pd_9 rfl rfl rfl (D d11_122) rfl (by rw [hml]; rfl) e479 (by decide) (W := 1) rfl (by decide) rfl rfl (by decide) (by decide) fun T480 X480 e480 => ?_))))))
       refine g_icmp_ge (q := 241) (q0 := 128) X480 hx (D d11_125) (by decide) (by decide) rfl ?_ (fun h => absurd h (by apply trd3 rr; decide))
       intro c481
       refine g_goto (q := 48) X480 hx (D d11_241) (by decide) (by decide) ?_
       exact ihb138 _ T423.heap _ (vI (tI rr 1 3 5)) (vI (tI rr 0 1 2)) (vI 1) (vI (tI rr 2 2 3)) (vI (tI rr 2 0 1)) (vI 1) (vJ (fk dd l3)) (s2) rc424 rl425 hp426 pl427 ky428 cn429 qq.1 qq.2 fn2 X480 e480 N449 Z478 K450 (One.val rfl) (One.val rfl) (One.val rfl) (One.val rfl) (One.val rfl) (One.val rfl) (Or.inr ⟨_, rfl, rfl⟩) F451 F452 F453 F454 F455 F456 F457 F458 F459 F460 F461 F430 F431 F432 F433 F434 F435 F436 F437 F438 F439 F440 F441 F442 F443 F444 F445 I446 R447 C448 hrun2 (own_fn hfn hnb138)
      ·rw [show decide (w3_.toInt < (0 : Int64).toInt) = false from hn3.symm.trans hN, b2i_f]
       refine g_istore (L' := #[vR t, vI (tI rr 0 1 2), vR lo, vI (tI rr 1 3 5), vI (tI rr 0 1 2), vI 1, vI (tI rr 1 1 2), vI (tI rr 2 0 1), vI 0, s9_, s10_]) X411 hx (D d11_158) (st_one rfl o8_ rfl rfl) rfl (g_iload X411 hx (D d11_160) rfl rfl (g_iload X411 hx (D d11_162) rfl rfl ?_))
       refine g_icmp_ne (q := 235) (q0 := 167) X411 hx (D d11_164) (by decide) (by decide) rfl ?_ (fun h => absurd h (by decide))
       intro c482
       obtain rfl := own_e0 (by rw [hN]; first | done | rfl) hE
       refine g_iinc (v := (tI rr 2 2 3)) (L' := #[vR t, vI (tI rr 0 1 2), vR lo, vI (tI rr 1 3 5), vI (tI rr 0 1 2), vI 1, vI (tI rr 2 2 3), vI (tI rr 2 0 1), vI 0, s9_, s10_]) X411 hx (D d11_235) rfl (by apply tri3 rr <;> rfl) rfl rfl (g_goto (q := 114) X411 hx (D d11_238) (by decide) (by decide) (g_iload X411 hx (D d11_114) rfl rfl (g_aloadN X411 hx (D d11_116) rfl rfl rfl (g_getF X411 hx hZ hown (hW hw 40 rfl) e411 _f15 (D d11_117) rfl fun T483 X483 e483 => (g_iload X483 hx (D d11_120) rfl rfl (g_virtualP X483 hx hZ hown (hW hw 119 rfl) (hW hw 120 rfl) (hW hw 122 rfl) (hW hw 121 rfl) (hW hw 9 rfl) (hW hw 123 rfl) (by decide) (rm19 l Z a0 hw [] ad (tI rr 0 1 2) hh n0 Zb404 xs [(0 : Int32), (tI rr 2 0 1), (tI rr 3 2 1), (3 : Int32)] (tI rr 2 2 3) (tN rr 1 2 3) _f3 _f6 (by apply trd3 rr; decide) (by apply tri3 rr <;> rfl)) _f2 (argsL := [.int (tI rr 0 1 2)]) (rest := [.int (tI rr 2 2 3)]) pd_9 rfl rfl rfl (D d11_122) rfl (by rw [hml]; rfl) e483 (by decide) (W := 1) rfl (by decide) rfl rfl (by decide) (by decide) fun T484 X484 e484 => ?_))))))
       refine g_icmp_ge (q := 241) (q0 := 128) X484 hx (D d11_125) (by decide) (by decide) rfl ?_ (fun h => absurd h (by apply trd3 rr; decide))
       intro c485
       refine g_goto (q := 48) X484 hx (D d11_241) (by decide) (by decide) ?_
       exact ihb138 _ hh _ (vI (tI rr 1 3 5)) (vI (tI rr 0 1 2)) (vI 1) (vI (tI rr 2 2 3)) (vI (tI rr 2 0 1)) (vI 0) (s9_) (s10_) rc rl hp pl ky cn p2.1 p2.2 fn2 X484 e484 Nb404 Zb404 Kb404 (One.val rfl) (One.val rfl) (One.val rfl) (One.val rfl) (One.val rfl) (One.val rfl) hs9 _f0 _f1 _f2 _f3 _f4 _f5 _f6 _f7 _f8 _f9 _f10 _f11 _f12 _f13 _f14 _f15 _f16 _f17 _f20 _f21 _f22 _f23 _f18 _f19 _f24 _f25 _f26 _I _R _C hrun2 (own_fn hfn hnb138)
     have hE := hE1
     have hg : cs.getD (tN rr 1 3 5) 0 = 0 := hg1
     refine g_aloadN X402 hx (D d11_128) rfl rfl rfl (g_getF X402 hx hZ hown (hW hw 40 rfl) e402 F172 (D d11_129) rfl fun T486 X486 e486 => (g_iload X486 hx (D d11_132) rfl rfl (g_virtualP X486 hx hZ hown (hW hw 124 rfl) (hW hw 125 rfl) (hW hw 127 rfl) (hW hw 126 rfl) (hW hw 9 rfl) (hW hw 128 rfl) (by decide) (rm20 l Z a0 hw [] ad (tI rr 0 0 1) T143.heap n0 Z183 xn [(tI rr 1 2 1), (tI rr 2 0 0), (tI rr 2 0 1)] (tI rr 1 2 0) (tN rr 0 0 1) F161 F164 (by apply tri3 rr <;> rfl) (by apply tri3 rr <;> rfl)) F159 (argsL := [.int (tI rr 0 0 1)]) (rest := []) pd_9 rfl rfl rfl (D d11_134) rfl (by rw [hml]; rfl) e486 (by decide) (W := 0) rfl (by decide) rfl rfl (by decide) (by decide) fun T487 X487 e487 => (g_istore (L' := #[vR t, vI (tI rr 0 1 2), vR lo, vI (tI rr 1 3 5), vI (tI rr 0 1 2), vI 1, vI (tI rr 0 0 1), vI (tI rr 1 2 0), s8_, s9_, s10_]) X487 hx (D d11_137) (st_one rfl o7_ rfl rfl) rfl (g_aloadN X487 hx (D d11_139) rfl rfl rfl (g_getF X487 hx hZ hown (hW hw 40 rfl) e487 F172 (D d11_140) rfl fun T488 X488 e488 => (g_iload X488 hx (D d11_143) rfl rfl (g_virtualP X488 hx hZ hown (hW hw 129 rfl) (hW hw 130 rfl) (hW hw 132 rfl) (hW hw 131 rfl) (hW hw 9 rfl) (hW hw 133 rfl) (by decide) (rm21 l Z a0 hw [] ad (tI rr 0 0 1) T143.heap n0 Z183 xw [(tJ rr w1_ w1_ w2_), (tJ rr w3_ w3_ w1_), (tJ rr w2_ w2_ w3_)] w1_ (tN rr 0 0 1) F162 F165 (by apply tri3 rr <;> rfl) (by apply tri3 rr <;> rfl)) F159 (argsL := [.int (tI rr 0 0 1)]) (rest := []) pd_10 rfl rfl rfl (D d11_145) rfl (by rw [hml]; rfl) e488 (by decide) (W := 0) rfl (by decide) rfl rfl (by decide) (by decide) fun T489 X489 e489 => (g_lconst0 X489 hx (D d11_148) rfl (g_sel_lcmp_ge (q := 158) (q1 := 150) X489 hx (D d11_149) rfl (D d11_150) (by decide) (by decide) rfl (D d11_157) (D d11_153) (D d11_154) rfl (by decide) (by decide) rfl ?_))))))))))
     rcases own_bb n1 with hN | hN
     ·rw [show decide (w1_.toInt < (0 : Int64).toInt) = true from hn1.symm.trans hN, b2i_t]
      refine g_istore (L' := #[vR t, vI (tI rr 0 1 2), vR lo, vI (tI rr 1 3 5), vI (tI rr 0 1 2), vI 1, vI (tI rr 0 0 1), vI (tI rr 1 2 0), vI 1, s9_, s10_]) X489 hx (D d11_158) (st_one rfl o8_ rfl rfl) rfl (g_iload X489 hx (D d11_160) rfl rfl (g_iload X489 hx (D d11_162) rfl rfl (g_icmp_ne (q := 235) (q0 := 167) X489 hx (D d11_164) (by decide) (by decide) rfl (fun h => absurd h (by decide)) fun c490 => (g_iload X489 hx (D d11_167) rfl rfl (g_iloadN X489 hx (D d11_169) rfl rfl (g_icmp_ne (q := 180) (q0 := 173) X489 hx (D d11_170) (by decide) (by decide) rfl (fun h => absurd h (by apply trd3 rr; decide)) fun c491 => (g_aloadN X489 hx (D d11_173) rfl rfl rfl (g_iload X489 hx (D d11_174) rfl rfl (g_zload_ (i := (tN rr 1 2 0)) (v := oM) X489 hx hZ e489 F167 (by apply tri3 rr <;> rfl) (by apply tri3 rr <;> rfl) (D d11_176) rfl ?_)))))))))
      refine g_ifB_ne (q := 235) (q0 := 180) X489 hx (D d11_177) (by decide) (by decide) rfl ?_ ?_
      ·intro c492
       obtain rfl := own_e0 (by rw [hN, c492]; first | done | rfl) hE
       refine g_iinc (v := (tI rr 1 1 2)) (L' := #[vR t, vI (tI rr 0 1 2), vR lo, vI (tI rr 1 3 5), vI (tI rr 0 1 2), vI 1, vI (tI rr 1 1 2), vI (tI rr 1 2 0), vI 1, s9_, s10_]) X489 hx (D d11_235) rfl (by apply tri3 rr <;> rfl) rfl rfl (g_goto (q := 114) X489 hx (D d11_238) (by decide) (by decide) ?_)
       exact LP114_b404 _ T143.heap _ (vI (tI rr 1 2 0)) (vI 1) (s9_) (s10_) rc rl hp144 pl145 ky cn146 X489 e489 N155 Z183 K156 (One.val rfl) (One.val rfl) hs9 F157 F158 F159 F160 F161 F162 F163 F164 F165 F166 F167 F168 F169 F170 F171 F172 F173 F174 F179 F180 F147 F148 F149 F150 A151 A152 A153 I154 _R _C
      intro c492
      refine g_aloadN X489 hx (D d11_180) rfl rfl rfl (g_getF X489 hx hZ hown (hW hw 49 rfl) e489 F168 (D d11_181) rfl fun T493 X493 e493 => (g_iloadN X493 hx (D d11_184) rfl rfl (g_lload_ (i := (tN rr 1 3 5)) (v := (fk dd (cs.getD (tN rr 1 3 5) 0))) X493 hx hZ e493 F179 (by apply tri3 rr <;> rfl) (own_cm _C (by apply trd3 rr; decide)) (D d11_185) rfl (g_aloadN X493 hx (D d11_186) rfl rfl rfl (g_getF X493 hx hZ hown (hW hw 40 rfl) e493 F172 (D d11_187) rfl fun T494 X494 e494 => (g_iload X494 hx (D d11_190) rfl rfl (g_virtualP X494 hx hZ hown (hW hw 129 rfl) (hW hw 130 rfl) (hW hw 132 rfl) (hW hw 131 rfl) (hW hw 9 rfl) (hW hw 133 rfl) (by decide) (rm21 l Z a0 hw [] ad (tI rr 0 0 1) T143.heap n0 Z183 xw [(tJ rr w1_ w1_ w2_), (tJ rr w3_ w3_ w1_), (tJ rr w2_ w2_ w3_)] w1_ (tN rr 0 0 1) F162 F165 (by apply tri3 rr <;> rfl) (by apply tri3 rr <;> rfl)) F159 (argsL := [.int (tI rr 0 0 1)]) (rest := [.long (fk dd (cs.getD (tN rr 1 3 5) 0))]) pd_10 rfl rfl rfl (D d11_192) rfl (by rw [hml]; rfl) e494 (by decide) (W := 2) rfl (by decide) rfl rfl (by decide) (by decide) fun T495 X495 e495 => (g_ladd X495 hx (D d11_195) rfl (g_aloadN X495 hx (D d11_196) rfl rfl rfl (g_getF X495 hx hZ hown (hW hw 42 rfl) e495 F173 (D d11_197) rfl fun T496 X496 e496 => (g_iload X496 hx (D d11_200) rfl rfl (g_lload_ (i := (tN rr 1 2 0)) (v := sM_) X496 hx hZ e496 F166 (by apply tri3 rr <;> rfl) (by apply tri3 rr <;> rfl) (D d11_202) rfl (g_ladd X496 hx (D d11_203) rfl (g_aloadN X496 hx (D d11_204) rfl rfl rfl ?_))))))))))))))
      refine g_getF X496 hx hZ hown (hW hw 42 rfl) e496 F173 (D d11_205) rfl fun T497 X497 e497 => (g_iload X497 hx (D d11_208) rfl rfl (g_lload_ (i := (tN rr 0 1 2)) (v := sT_) X497 hx hZ e497 F166 (by apply tri3 rr <;> rfl) (by apply tri3 rr <;> rfl) (D d11_210) rfl (g_lsub X497 hx (D d11_211) rfl ?_)))
      rw [show ((((fk dd (cs.getD (tN rr 1 3 5) 0)) + w1_) + sM_) - sT_) = fk dd l1 from by rw [hg]; exact hL1]
      refine g_lstore (L' := #[vR t, vI (tI rr 0 1 2), vR lo, vI (tI rr 1 3 5), vI (tI rr 0 1 2), vI 1, vI (tI rr 0 0 1), vI (tI rr 1 2 0), vI 1, vJ (fk dd l1), s2]) X497 hx (D d11_212) (by rcases hs9 with ⟨rfl, rfl⟩ | ⟨x9, rfl, rfl⟩ <;> rfl) rfl (g_aloadN X497 hx (D d11_214) rfl rfl rfl (g_iconst (v := (2 : Int32)) X497 hx (D d11_215) rfl rfl (g_iload X497 hx (D d11_216) rfl rfl (g_imul X497 hx (D d11_218) rfl ?_))))
      rw [show ((2 : Int32) * (tI rr 1 2 0)) = (tI rr 2 4 0) from by apply trd3 rr; decide]
      refine g_iload X497 hx (D d11_219) rfl rfl (g_sel_if_eq (q := 229) X497 hx (D d11_221) (by decide) (by decide) rfl (D d11_228) (D d11_224) (D d11_225) rfl (by decide) (by decide) rfl ?_)
      rw [show b2i (decide ((1 : Int32).toInt ≠ 0)) = (1 : Int32) from by decide]
      refine g_iadd X497 hx (D d11_229) rfl ?_
      rw [show ((tI rr 2 4 0) + (1 : Int32)) = (tI rr 3 5 1) from by apply trd3 rr; decide]
      refine g_lload X497 hx (D d11_230) rfl rfl (g_private X497 hx hZ hown (hW hw 84 rfl) (hW hw 85 rfl) (hW hw 86 rfl) (hW hw 34 rfl) (hW hw 35 rfl) (hW hw 87 rfl) (by decide) (rm12 l Z a0 hw [] t (tI rr 3 5 1) (fk dd l1) T143.heap n0 Z183 ka ra qo qh qp qk ad so (tI rr 0 1 2) rc rl hp144 pl145 ky cn146 cs pA dd (tN rr 3 5 1) l1 _ F168 F169 F170 F171 F172 F173 F174 F147 F148 F149 F150 F179 F180 A151 A152 A153 F157 F158 nx0_ nx1_ nx2_ nx3_ nx4_ nx5_ nx6_ nx7_ nx8_ nx9_ nx10_ nx11_ nx12_ nx13_ nx14_ nx15_ nx16_ nx17_ nx18_ nx19_ nx20_ gxt_ gxka_ gxra_ gxqo_ gxqh_ gxqp_ gxqk_ rfl hD (by apply tri3 rr <;> rfl) (by apply trd3 rr; decide) I154 _R _C (own_ll hLL).1 (own_e1 (by rw [hN, c492]; first | done | rfl) hE)) F157 (argsL := [.int (tI rr 3 5 1), .long (fk dd l1)]) (rest := []) pd_7 rfl rfl rfl (D d11_232) rfl (by rw [hml]; rfl) e497 (by decide) (W := 0) rfl (by decide) (by decide) (by decide) fun v498 T498 Lc498 X498 Q498 => ?_)
      obtain ⟨rfl, Nq498, Kq498, rc499, rl500, hp501, pl502, ky503, cn504, F505, F506, F507, F508, F509, F510, F511, F512, F513, F514, F515, F516, F517, F518, F519, F520, I521, R522, C523⟩ := Q498
      have N524 := Fr.app N155 Nq498
      have K525 := Keep.trans K156 Kq498 (allS (Or.inl (by simp)) (allS (Or.inl (by simp)) (allS (Or.inl (by simp)) (allS (Or.inl (by simp)) (allS (Or.inl (by simp)) (allS (Or.inl (by simp)) (allS (Or.inl (by simp)) all0)))))))
      have F526 := Exa.keep F157 Kq498
      have F527 := Exa.keep F158 Kq498
      have F528 := Exa.keep F159 Kq498
      have F529 := Fld.keep F160 Kq498 q66
      have F530 := Fld.keep F161 Kq498 q66
      have F531 := Fld.keep F162 Kq498 q66
      have F532 := ArrL.keep F163 Kq498 q67
      have F533 := ArrL.keep F164 Kq498 q68
      have F534 := ArrL.keep F165 Kq498 q69
      have F535 := ArrL.keep F166 Kq498 q70
      have F536 := ArrL.keep F167 Kq498 q71
      have Z553 := zK Z183 Kq498
      refine g_iinc (v := (tI rr 1 1 2)) (L' := #[vR t, vI (tI rr 0 1 2), vR lo, vI (tI rr 1 3 5), vI (tI rr 0 1 2), vI 1, vI (tI rr 1 1 2), vI (tI rr 1 2 0), vI 1, vJ (fk dd l1), s2]) X498 hx (D d11_235) rfl (by apply tri3 rr <;> rfl) rfl rfl (g_goto (q := 114) X498 hx (D d11_238) (by decide) (by decide) ?_)
      exact LP114_b404 _ T498.heap _ (vI (tI rr 1 2 0)) (vI 1) (vJ (fk dd l1)) (s2) rc499 rl500 hp501 pl502 ky503 cn504 X498 rfl N524 Z553 K525 (One.val rfl) (One.val rfl) (Or.inr ⟨_, rfl, rfl⟩) F526 F527 F528 F529 F530 F531 F532 F533 F534 F535 F536 F505 F506 F507 F508 F509 F510 F511 F516 F517 F512 F513 F514 F515 F518 F519 F520 I521 R522 C523
     ·rw [show decide (w1_.toInt < (0 : Int64).toInt) = false from hn1.symm.trans hN, b2i_f]
      refine g_istore (L' := #[vR t, vI (tI rr 0 1 2), vR lo, vI (tI rr 1 3 5), vI (tI rr 0 1 2), vI 1, vI (tI rr 0 0 1), vI (tI rr 1 2 0), vI 0, s9_, s10_]) X489 hx (D d11_158) (st_one rfl o8_ rfl rfl) rfl (g_iload X489 hx (D d11_160) rfl rfl (g_iload X489 hx (D d11_162) rfl rfl ?_))
      refine g_icmp_ne (q := 235) (q0 := 167) X489 hx (D d11_164) (by decide) (by decide) rfl ?_ (fun h => absurd h (by decide))
      intro c554
      obtain rfl := own_e0 (by rw [hN]; first | done | rfl) hE
      refine g_iinc (v := (tI rr 1 1 2)) (L' := #[vR t, vI (tI rr 0 1 2), vR lo, vI (tI rr 1 3 5), vI (tI rr 0 1 2), vI 1, vI (tI rr 1 1 2), vI (tI rr 1 2 0), vI 0, s9_, s10_]) X489 hx (D d11_235) rfl (by apply tri3 rr <;> rfl) rfl rfl (g_goto (q := 114) X489 hx (D d11_238) (by decide) (by decide) ?_)
      exact LP114_b404 _ T143.heap _ (vI (tI rr 1 2 0)) (vI 0) (s9_) (s10_) rc rl hp144 pl145 ky cn146 X489 e489 N155 Z183 K156 (One.val rfl) (One.val rfl) hs9 F157 F158 F159 F160 F161 F162 F163 F164 F165 F166 F167 F168 F169 F170 F171 F172 F173 F174 F179 F180 F147 F148 F149 F150 A151 A152 A153 I154 _R _C
    ·obtain rfl : pr = (tI rr 2 4 0) := Int32.toInt_inj.mp (hpr.trans (by apply tri3 rr <;> rfl))
     rw [own_stM0] at hst
     obtain ⟨hg, hst⟩ := own_ite hst
     replace hg : cs.getD (tN rr 2 4 0) 0 ≤ 1 := hg
     obtain ⟨p1, hr1, hst⟩ := own_bind hst
     obtain ⟨hg1, hE1⟩ := own_ite hst
     refine g_istoreN (L' := #[vR t, vI (tI rr 0 1 2), vR lo, vI (tI rr 2 4 0), s4_, s5_, s6_, s7_, s8_, s9_, s10_]) X143 hx (D d11_65) (st_one rfl o3_ rfl rfl) rfl (g_iloadN X143 hx (D d11_66) rfl rfl (g_iconst (v := (2 : Int32)) X143 hx (D d11_67) rfl rfl (g_idiv X143 hx (D d11_68) (by decide) rfl ?_)))
     rw [show ((tI rr 2 4 0) / (2 : Int32)) = (tI rr 1 2 0) from by apply trd3 rr; decide]
     refine g_istore (L' := #[vR t, vI (tI rr 0 1 2), vR lo, vI (tI rr 2 4 0), vI (tI rr 1 2 0), s5_, s6_, s7_, s8_, s9_, s10_]) X143 hx (D d11_69) (st_one rfl o4_ rfl rfl) rfl (g_iloadN X143 hx (D d11_71) rfl rfl (g_iconst (v := (2 : Int32)) X143 hx (D d11_72) rfl rfl (g_irem X143 hx (D d11_73) (by decide) rfl ?_)))
     rw [show ((tI rr 2 4 0) % (2 : Int32)) = (0 : Int32) from by apply trd3 rr; decide]
     refine g_iconst (v := (1 : Int32)) X143 hx (D d11_74) rfl rfl (g_sel_icmp_ne (q := 83) X143 hx (D d11_75) (by decide) (by decide) rfl (D d11_82) (D d11_78) (D d11_79) rfl (by decide) (by decide) rfl ?_)
     rw [show b2i (decide ((0 : Int32).toInt = (1 : Int32).toInt)) = (0 : Int32) from by decide]
     refine g_istore (L' := #[vR t, vI (tI rr 0 1 2), vR lo, vI (tI rr 2 4 0), vI (tI rr 1 2 0), vI 0, s6_, s7_, s8_, s9_, s10_]) X143 hx (D d11_83) (st_one rfl o5_ rfl rfl) rfl (g_iload X143 hx (D d11_85) rfl rfl (g_if_ne (q := 103) (q0 := 90) X143 hx (D d11_87) (by decide) (by decide) rfl (fun h => absurd h (by decide)) fun c555 => (g_aloadN X143 hx (D d11_90) rfl rfl rfl (g_iloadN X143 hx (D d11_91) rfl rfl (g_iconst (v := (1 : Int32)) X143 hx (D d11_92) rfl rfl (g_iadd X143 hx (D d11_93) rfl ?_))))))
     rw [show ((tI rr 2 4 0) + (1 : Int32)) = (tI rr 3 5 1) from by apply trd3 rr; decide]
     refine g_aloadN X143 hx (D d11_94) rfl rfl rfl (g_getF X143 hx hZ hown (hW hw 49 rfl) rfl F168 (D d11_95) rfl fun T556 X556 e556 => (g_iloadN X556 hx (D d11_98) rfl rfl (g_lload_ (i := (tN rr 2 4 0)) (v := (fk dd (cs.getD (tN rr 2 4 0) 0))) X556 hx hZ e556 F179 (by apply tri3 rr <;> rfl) (own_cm _C (by apply trd3 rr; decide)) (D d11_99) rfl (g_private X556 hx hZ hown (hW hw 84 rfl) (hW hw 85 rfl) (hW hw 86 rfl) (hW hw 34 rfl) (hW hw 35 rfl) (hW hw 87 rfl) (by decide) (rm12 l Z a0 hw [] t (tI rr 3 5 1) (fk dd (cs.getD (tN rr 2 4 0) 0)) T143.heap n0 Z183 ka ra qo qh qp qk ad so (tI rr 0 1 2) rc rl hp144 pl145 ky cn146 cs pA dd (tN rr 3 5 1) (cs.getD (tN rr 2 4 0) 0) _ F168 F169 F170 F171 F172 F173 F174 F147 F148 F149 F150 F179 F180 A151 A152 A153 F157 F158 nx0_ nx1_ nx2_ nx3_ nx4_ nx5_ nx6_ nx7_ nx8_ nx9_ nx10_ nx11_ nx12_ nx13_ nx14_ nx15_ nx16_ nx17_ nx18_ nx19_ nx20_ gxt_ gxka_ gxra_ gxqo_ gxqh_ gxqp_ gxqk_ rfl hD (by apply tri3 rr <;> rfl) (by apply trd3 rr; decide) I154 _R _C hg hr1) F157 (argsL := [.int (tI rr 3 5 1), .long (fk dd (cs.getD (tN rr 2 4 0) 0))]) (rest := []) pd_7 rfl rfl rfl (D d11_100) rfl (by rw [hml]; rfl) e556 (by decide) (W := 0) rfl (by decide) (by decide) (by decide) fun v557 T557 Lc557 X557 Q557 => ?_))))
     obtain ⟨rfl, Nq557, Kq557, rc558, rl559, hp560, pl561, ky562, cn563, F564, F565, F566, F567, F568, F569, F570, F571, F572, F573, F574, F575, F576, F577, F578, F579, I580, R581, C582⟩ := Q557
     have N583 := Fr.app N155 Nq557
     have K584 := Keep.trans K156 Kq557 (allS (Or.inl (by simp)) (allS (Or.inl (by simp)) (allS (Or.inl (by simp)) (allS (Or.inl (by simp)) (allS (Or.inl (by simp)) (allS (Or.inl (by simp)) (allS (Or.inl (by simp)) all0)))))))
     have F585 := Exa.keep F157 Kq557
     have F586 := Exa.keep F158 Kq557
     have F587 := Exa.keep F159 Kq557
     have F588 := Fld.keep F160 Kq557 q66
     have F589 := Fld.keep F161 Kq557 q66
     have F590 := Fld.keep F162 Kq557 q66
     have F591 := ArrL.keep F163 Kq557 q67
     have F592 := ArrL.keep F164 Kq557 q68
     have F593 := ArrL.keep F165 Kq557 q69
     have F594 := ArrL.keep F166 Kq557 q70
     have F595 := ArrL.keep F167 Kq557 q71
     have Z612 := zK Z183 Kq557
     refine g_aloadN X557 hx (D d11_103) rfl rfl rfl (g_getF X557 hx hZ hown (hW hw 40 rfl) rfl F568 (D d11_104) rfl fun T613 X613 e613 => (g_iload X613 hx (D d11_107) rfl rfl (g_virtualP X613 hx hZ hown (hW hw 114 rfl) (hW hw 115 rfl) (hW hw 117 rfl) (hW hw 116 rfl) (hW hw 9 rfl) (hW hw 118 rfl) (by decide) (rm18 l Z a0 hw [] ad (tI rr 1 2 0) T557.heap n0 Z612 xs [(0 : Int32), (tI rr 2 0 1), (tI rr 3 2 1), (3 : Int32)] (tI rr 2 2 0) (tN rr 1 2 0) F588 F591 (by apply tri3 rr <;> rfl) (by apply tri3 rr <;> rfl)) F587 (argsL := [.int (tI rr 1 2 0)]) (rest := []) pd_9 rfl rfl rfl (D d11_109) rfl (by rw [hml]; rfl) e613 (by decide) (W := 0) rfl (by decide) rfl rfl (by decide) (by decide) fun T614 X614 e614 => (g_istore (L' := #[vR t, vI (tI rr 0 1 2), vR lo, vI (tI rr 2 4 0), vI (tI rr 1 2 0), vI 0, vI (tI rr 2 2 0), s7_, s8_, s9_, s10_]) X614 hx (D d11_112) (st_one rfl o6_ rfl rfl) rfl (g_iload X614 hx (D d11_114) rfl rfl (g_aloadN X614 hx (D d11_116) rfl rfl rfl (g_getF X614 hx hZ hown (hW hw 40 rfl) e614 F568 (D d11_117) rfl fun T615 X615 e615 => (g_iload X615 hx (D d11_120) rfl rfl (g_virtualP X615 hx hZ hown (hW hw 119 rfl) (hW hw 120 rfl) (hW hw 122 rfl) (hW hw 121 rfl) (hW hw 9 rfl) (hW hw 123 rfl) (by decide) (rm19 l Z a0 hw [] ad (tI rr 1 2 0) T557.heap n0 Z612 xs [(0 : Int32), (tI rr 2 0 1), (tI rr 3 2 1), (3 : Int32)] (tI rr 3 3 1) (tN rr 2 3 1) F588 F591 (by apply trd3 rr; decide) (by apply tri3 rr <;> rfl)) F587 (argsL := [.int (tI rr 1 2 0)]) (rest := [.int (tI rr 2 2 0)]) pd_9 rfl rfl rfl (D d11_122) rfl (by rw [hml]; rfl) e615 (by decide) (W := 1) rfl (by decide) rfl rfl (by decide) (by decide) fun T616 X616 e616 => (g_icmp_ge (q := 241) (q0 := 128) X616 hx (D d11_125) (by decide) (by decide) rfl (fun h => absurd h (by apply trd3 rr; decide)) fun c617 => ?_))))))))))
     have hE := hE1
     have hg : p1.1.getD (tN rr 2 4 0) 0 ≤ 1 := hg1
     refine g_aloadN X616 hx (D d11_128) rfl rfl rfl (g_getF X616 hx hZ hown (hW hw 40 rfl) e616 F568 (D d11_129) rfl fun T618 X618 e618 => (g_iload X618 hx (D d11_132) rfl rfl (g_virtualP X618 hx hZ hown (hW hw 124 rfl) (hW hw 125 rfl) (hW hw 127 rfl) (hW hw 126 rfl) (hW hw 9 rfl) (hW hw 128 rfl) (by decide) (rm20 l Z a0 hw [] ad (tI rr 2 2 0) T557.heap n0 Z612 xn [(tI rr 1 2 1), (tI rr 2 0 0), (tI rr 2 0 1)] (tI rr 2 0 1) (tN rr 2 2 0) F589 F592 (by apply tri3 rr <;> rfl) (by apply tri3 rr <;> rfl)) F587 (argsL := [.int (tI rr 2 2 0)]) (rest := []) pd_9 rfl rfl rfl (D d11_134) rfl (by rw [hml]; rfl) e618 (by decide) (W := 0) rfl (by decide) rfl rfl (by decide) (by decide) fun T619 X619 e619 => (g_istore (L' := #[vR t, vI (tI rr 0 1 2), vR lo, vI (tI rr 2 4 0), vI (tI rr 1 2 0), vI 0, vI (tI rr 2 2 0), vI (tI rr 2 0 1), s8_, s9_, s10_]) X619 hx (D d11_137) (st_one rfl o7_ rfl rfl) rfl (g_aloadN X619 hx (D d11_139) rfl rfl rfl (g_getF X619 hx hZ hown (hW hw 40 rfl) e619 F568 (D d11_140) rfl fun T620 X620 e620 => (g_iload X620 hx (D d11_143) rfl rfl (g_virtualP X620 hx hZ hown (hW hw 129 rfl) (hW hw 130 rfl) (hW hw 132 rfl) (hW hw 131 rfl) (hW hw 9 rfl) (hW hw 133 rfl) (by decide) (rm21 l Z a0 hw [] ad (tI rr 2 2 0) T557.heap n0 Z612 xw [(tJ rr w1_ w1_ w2_), (tJ rr w3_ w3_ w1_), (tJ rr w2_ w2_ w3_)] w2_ (tN rr 2 2 0) F590 F593 (by apply tri3 rr <;> rfl) (by apply tri3 rr <;> rfl)) F587 (argsL := [.int (tI rr 2 2 0)]) (rest := []) pd_10 rfl rfl rfl (D d11_145) rfl (by rw [hml]; rfl) e620 (by decide) (W := 0) rfl (by decide) rfl rfl (by decide) (by decide) fun T621 X621 e621 => (g_lconst0 X621 hx (D d11_148) rfl (g_sel_lcmp_ge (q := 158) (q1 := 150) X621 hx (D d11_149) rfl (D d11_150) (by decide) (by decide) rfl (D d11_157) (D d11_153) (D d11_154) rfl (by decide) (by decide) rfl ?_))))))))))
     rcases own_bb n2 with hN | hN
     ·rw [show decide (w2_.toInt < (0 : Int64).toInt) = true from hn2.symm.trans hN, b2i_t]
      refine g_istore (L' := #[vR t, vI (tI rr 0 1 2), vR lo, vI (tI rr 2 4 0), vI (tI rr 1 2 0), vI 0, vI (tI rr 2 2 0), vI (tI rr 2 0 1), vI 1, s9_, s10_]) X621 hx (D d11_158) (st_one rfl o8_ rfl rfl) rfl (g_iload X621 hx (D d11_160) rfl rfl (g_iload X621 hx (D d11_162) rfl rfl ?_))
      refine g_icmp_ne (q := 235) (q0 := 167) X621 hx (D d11_164) (by decide) (by decide) rfl ?_ (fun h => absurd h (by decide))
      intro c622
      obtain rfl := own_e0 (by rw [hN]; first | done | rfl) hE
      refine g_iinc (v := (tI rr 3 3 1)) (L' := #[vR t, vI (tI rr 0 1 2), vR lo, vI (tI rr 2 4 0), vI (tI rr 1 2 0), vI 0, vI (tI rr 3 3 1), vI (tI rr 2 0 1), vI 1, s9_, s10_]) X621 hx (D d11_235) rfl (by apply tri3 rr <;> rfl) rfl rfl (g_goto (q := 114) X621 hx (D d11_238) (by decide) (by decide) (g_iload X621 hx (D d11_114) rfl rfl (g_aloadN X621 hx (D d11_116) rfl rfl rfl (g_getF X621 hx hZ hown (hW hw 40 rfl) e621 F568 (D d11_117) rfl fun T623 X623 e623 => (g_iload X623 hx (D d11_120) rfl rfl (g_virtualP X623 hx hZ hown (hW hw 119 rfl) (hW hw 120 rfl) (hW hw 122 rfl) (hW hw 121 rfl) (hW hw 9 rfl) (hW hw 123 rfl) (by decide) (rm19 l Z a0 hw [] ad (tI rr 1 2 0) T557.heap n0 Z612 xs [(0 : Int32), (tI rr 2 0 1), (tI rr 3 2 1), (3 : Int32)] (tI rr 3 3 1) (tN rr 2 3 1) F588 F591 (by apply trd3 rr; decide) (by apply tri3 rr <;> rfl)) F587 (argsL := [.int (tI rr 1 2 0)]) (rest := [.int (tI rr 3 3 1)]) pd_9 rfl rfl rfl (D d11_122) rfl (by rw [hml]; rfl) e623 (by decide) (W := 1) rfl (by decide) rfl rfl (by decide) (by decide) fun T624 X624 e624 => ?_))))))
      refine g_icmp_ge (q := 241) (q0 := 128) X624 hx (D d11_125) (by decide) (by decide) rfl ?_ (fun h => absurd h (by apply trd3 rr; decide))
      intro c625
      refine g_goto (q := 48) X624 hx (D d11_241) (by decide) (by decide) ?_
      exact ihb138 _ T557.heap _ (vI (tI rr 2 4 0)) (vI (tI rr 1 2 0)) (vI 0) (vI (tI rr 3 3 1)) (vI (tI rr 2 0 1)) (vI 1) (s9_) (s10_) rc558 rl559 hp560 pl561 ky562 cn563 p1.1 p1.2 fn2 X624 e624 N583 Z612 K584 (One.val rfl) (One.val rfl) (One.val rfl) (One.val rfl) (One.val rfl) (One.val rfl) hs9 F585 F586 F587 F588 F589 F590 F591 F592 F593 F594 F595 F564 F565 F566 F567 F568 F569 F570 F571 F572 F573 F574 F575 F576 F577 F578 F579 I580 R581 C582 hrun2 (own_fn hfn hnb138)
     ·rw [show decide (w2_.toInt < (0 : Int64).toInt) = false from hn2.symm.trans hN, b2i_f]
      refine g_istore (L' := #[vR t, vI (tI rr 0 1 2), vR lo, vI (tI rr 2 4 0), vI (tI rr 1 2 0), vI 0, vI (tI rr 2 2 0), vI (tI rr 2 0 1), vI 0, s9_, s10_]) X621 hx (D d11_158) (st_one rfl o8_ rfl rfl) rfl (g_iload X621 hx (D d11_160) rfl rfl (g_iload X621 hx (D d11_162) rfl rfl (g_icmp_ne (q := 235) (q0 := 167) X621 hx (D d11_164) (by decide) (by decide) rfl (fun h => absurd h (by decide)) fun c626 => (g_iload X621 hx (D d11_167) rfl rfl (g_iloadN X621 hx (D d11_169) rfl rfl ?_)))))
      refine g_icmp_ne (q := 180) (q0 := 173) X621 hx (D d11_170) (by decide) (by decide) rfl ?_ (fun h => absurd h (by apply trd3 rr; decide))
      intro c627
      refine g_aloadN X621 hx (D d11_180) rfl rfl rfl (g_getF X621 hx hZ hown (hW hw 49 rfl) e621 F564 (D d11_181) rfl fun T628 X628 e628 => (g_iloadN X628 hx (D d11_184) rfl rfl (g_lload_ (i := (tN rr 2 4 0)) (v := (fk dd (p1.1.getD (tN rr 2 4 0) 0))) X628 hx hZ e628 F575 (by apply tri3 rr <;> rfl) (own_cm C582 (by apply trd3 rr; decide)) (D d11_185) rfl (g_aloadN X628 hx (D d11_186) rfl rfl rfl (g_getF X628 hx hZ hown (hW hw 40 rfl) e628 F568 (D d11_187) rfl fun T629 X629 e629 => (g_iload X629 hx (D d11_190) rfl rfl (g_virtualP X629 hx hZ hown (hW hw 129 rfl) (hW hw 130 rfl) (hW hw 132 rfl) (hW hw 131 rfl) (hW hw 9 rfl) (hW hw 133 rfl) (by decide) (rm21 l Z a0 hw [] ad (tI rr 2 2 0) T557.heap n0 Z612 xw [(tJ rr w1_ w1_ w2_), (tJ rr w3_ w3_ w1_), (tJ rr w2_ w2_ w3_)] w2_ (tN rr 2 2 0) F590 F593 (by apply tri3 rr <;> rfl) (by apply tri3 rr <;> rfl)) F587 (argsL := [.int (tI rr 2 2 0)]) (rest := [.long (fk dd (p1.1.getD (tN rr 2 4 0) 0))]) pd_10 rfl rfl rfl (D d11_192) rfl (by rw [hml]; rfl) e629 (by decide) (W := 2) rfl (by decide) rfl rfl (by decide) (by decide) fun T630 X630 e630 => (g_ladd X630 hx (D d11_195) rfl (g_aloadN X630 hx (D d11_196) rfl rfl rfl (g_getF X630 hx hZ hown (hW hw 42 rfl) e630 F569 (D d11_197) rfl fun T631 X631 e631 => (g_iload X631 hx (D d11_200) rfl rfl (g_lload_ (i := (tN rr 2 0 1)) (v := sF_) X631 hx hZ e631 F594 (by apply tri3 rr <;> rfl) (by apply tri3 rr <;> rfl) (D d11_202) rfl (g_ladd X631 hx (D d11_203) rfl (g_aloadN X631 hx (D d11_204) rfl rfl rfl ?_))))))))))))))
      refine g_getF X631 hx hZ hown (hW hw 42 rfl) e631 F569 (D d11_205) rfl fun T632 X632 e632 => (g_iload X632 hx (D d11_208) rfl rfl (g_lload_ (i := (tN rr 1 2 0)) (v := sM_) X632 hx hZ e632 F594 (by apply tri3 rr <;> rfl) (by apply tri3 rr <;> rfl) (D d11_210) rfl (g_lsub X632 hx (D d11_211) rfl ?_)))
      rw [show ((((fk dd (p1.1.getD (tN rr 2 4 0) 0)) + w2_) + sF_) - sM_) = (fk dd (p1.1.getD (tN rr 2 4 0) 0)) from hL2 _]
      refine g_lstore (L' := #[vR t, vI (tI rr 0 1 2), vR lo, vI (tI rr 2 4 0), vI (tI rr 1 2 0), vI 0, vI (tI rr 2 2 0), vI (tI rr 2 0 1), vI 0, vJ (fk dd (p1.1.getD (tN rr 2 4 0) 0)), s2]) X632 hx (D d11_212) (by rcases hs9 with ⟨rfl, rfl⟩ | ⟨x9, rfl, rfl⟩ <;> rfl) rfl (g_aloadN X632 hx (D d11_214) rfl rfl rfl (g_iconst (v := (2 : Int32)) X632 hx (D d11_215) rfl rfl (g_iload X632 hx (D d11_216) rfl rfl (g_imul X632 hx (D d11_218) rfl ?_))))
      rw [show ((2 : Int32) * (tI rr 2 0 1)) = (tI rr 4 0 2) from by apply trd3 rr; decide]
      refine g_iload X632 hx (D d11_219) rfl rfl (g_sel_if_eq (q := 229) X632 hx (D d11_221) (by decide) (by decide) rfl (D d11_228) (D d11_224) (D d11_225) rfl (by decide) (by decide) rfl ?_)
      rw [show b2i (decide ((0 : Int32).toInt ≠ 0)) = (0 : Int32) from by decide]
      refine g_iadd X632 hx (D d11_229) rfl ?_
      rw [show ((tI rr 4 0 2) + (0 : Int32)) = (tI rr 4 0 2) from by apply trd3 rr; decide]
      refine g_lload X632 hx (D d11_230) rfl rfl (g_private X632 hx hZ hown (hW hw 84 rfl) (hW hw 85 rfl) (hW hw 86 rfl) (hW hw 34 rfl) (hW hw 35 rfl) (hW hw 87 rfl) (by decide) (rm12 l Z a0 hw [] t (tI rr 4 0 2) (fk dd (p1.1.getD (tN rr 2 4 0) 0)) T557.heap n0 Z612 ka ra qo qh qp qk ad so (tI rr 0 1 2) rc558 rl559 hp560 pl561 ky562 cn563 p1.1 p1.2 dd (tN rr 4 0 2) (p1.1.getD (tN rr 2 4 0) 0) _ F564 F565 F566 F567 F568 F569 F570 F571 F572 F573 F574 F575 F576 F577 F578 F579 F585 F586 nx0_ nx1_ nx2_ nx3_ nx4_ nx5_ nx6_ nx7_ nx8_ nx9_ nx10_ nx11_ nx12_ nx13_ nx14_ nx15_ nx16_ nx17_ nx18_ nx19_ nx20_ gxt_ gxka_ gxra_ gxqo_ gxqh_ gxqp_ gxqk_ rfl hD (by apply tri3 rr <;> rfl) (by apply trd3 rr; decide) I580 R581 C582 hg (own_e1 (by rw [hN]; first | done | rfl) hE)) F585 (argsL := [.int (tI rr 4 0 2), .long (fk dd (p1.1.getD (tN rr 2 4 0) 0))]) (rest := []) pd_7 rfl rfl rfl (D d11_232) rfl (by rw [hml]; rfl) e632 (by decide) (W := 0) rfl (by decide) (by decide) (by decide) fun v633 T633 Lc633 X633 Q633 => ?_)
      obtain ⟨rfl, Nq633, Kq633, rc634, rl635, hp636, pl637, ky638, cn639, F640, F641, F642, F643, F644, F645, F646, F647, F648, F649, F650, F651, F652, F653, F654, F655, I656, R657, C658⟩ := Q633
      have N659 := Fr.app N583 Nq633
      have K660 := Keep.trans K584 Kq633 (allS (Or.inl (by simp)) (allS (Or.inl (by simp)) (allS (Or.inl (by simp)) (allS (Or.inl (by simp)) (allS (Or.inl (by simp)) (allS (Or.inl (by simp)) (allS (Or.inl (by simp)) all0)))))))
      have F661 := Exa.keep F585 Kq633
      have F662 := Exa.keep F586 Kq633
      have F663 := Exa.keep F587 Kq633
      have F664 := Fld.keep F588 Kq633 q66
      have F665 := Fld.keep F589 Kq633 q66
      have F666 := Fld.keep F590 Kq633 q66
      have F667 := ArrL.keep F591 Kq633 q67
      have F668 := ArrL.keep F592 Kq633 q68
      have F669 := ArrL.keep F593 Kq633 q69
      have F670 := ArrL.keep F594 Kq633 q70
      have F671 := ArrL.keep F595 Kq633 q71
      have Z688 := zK Z612 Kq633
      refine g_iinc (v := (tI rr 3 3 1)) (L' := #[vR t, vI (tI rr 0 1 2), vR lo, vI (tI rr 2 4 0), vI (tI rr 1 2 0), vI 0, vI (tI rr 3 3 1), vI (tI rr 2 0 1), vI 0, vJ (fk dd (p1.1.getD (tN rr 2 4 0) 0)), s2]) X633 hx (D d11_235) rfl (by apply tri3 rr <;> rfl) rfl rfl (g_goto (q := 114) X633 hx (D d11_238) (by decide) (by decide) (g_iload X633 hx (D d11_114) rfl rfl (g_aloadN X633 hx (D d11_116) rfl rfl rfl (g_getF X633 hx hZ hown (hW hw 40 rfl) rfl F644 (D d11_117) rfl fun T689 X689 e689 => (g_iload X689 hx (D d11_120) rfl rfl (g_virtualP X689 hx hZ hown (hW hw 119 rfl) (hW hw 120 rfl) (hW hw 122 rfl) (hW hw 121 rfl) (hW hw 9 rfl) (hW hw 123 rfl) (by decide) (rm19 l Z a0 hw [] ad (tI rr 1 2 0) T633.heap n0 Z688 xs [(0 : Int32), (tI rr 2 0 1), (tI rr 3 2 1), (3 : Int32)] (tI rr 3 3 1) (tN rr 2 3 1) F664 F667 (by apply trd3 rr; decide) (by apply tri3 rr <;> rfl)) F663 (argsL := [.int (tI rr 1 2 0)]) (rest := [.int (tI rr 3 3 1)]) pd_9 rfl rfl rfl (D d11_122) rfl (by rw [hml]; rfl) e689 (by decide) (W := 1) rfl (by decide) rfl rfl (by decide) (by decide) fun T690 X690 e690 => ?_))))))
      refine g_icmp_ge (q := 241) (q0 := 128) X690 hx (D d11_125) (by decide) (by decide) rfl ?_ (fun h => absurd h (by apply trd3 rr; decide))
      intro c691
      refine g_goto (q := 48) X690 hx (D d11_241) (by decide) (by decide) ?_
      exact ihb138 _ T633.heap _ (vI (tI rr 2 4 0)) (vI (tI rr 1 2 0)) (vI 0) (vI (tI rr 3 3 1)) (vI (tI rr 2 0 1)) (vI 0) (vJ (fk dd (p1.1.getD (tN rr 2 4 0) 0))) (s2) rc634 rl635 hp636 pl637 ky638 cn639 qq.1 qq.2 fn2 X690 e690 N659 Z688 K660 (One.val rfl) (One.val rfl) (One.val rfl) (One.val rfl) (One.val rfl) (One.val rfl) (Or.inr ⟨_, rfl, rfl⟩) F661 F662 F663 F664 F665 F666 F667 F668 F669 F670 F671 F640 F641 F642 F643 F644 F645 F646 F647 F648 F649 F650 F651 F652 F653 F654 F655 I656 R657 C658 hrun2 (own_fn hfn hnb138)
    ·obtain rfl : pr = (tI rr 3 5 1) := Int32.toInt_inj.mp (hpr.trans (by apply tri3 rr <;> rfl))
     rw [own_stM1] at hst
     obtain ⟨hg, hst⟩ := own_ite hst
     replace hg : cs.getD (tN rr 3 5 1) 0 ≤ 1 := hg
     have hg1 := hg
     have hE1 := hst
     refine g_istoreN (L' := #[vR t, vI (tI rr 0 1 2), vR lo, vI (tI rr 3 5 1), s4_, s5_, s6_, s7_, s8_, s9_, s10_]) X143 hx (D d11_65) (st_one rfl o3_ rfl rfl) rfl (g_iloadN X143 hx (D d11_66) rfl rfl (g_iconst (v := (2 : Int32)) X143 hx (D d11_67) rfl rfl (g_idiv X143 hx (D d11_68) (by decide) rfl ?_)))
     rw [show ((tI rr 3 5 1) / (2 : Int32)) = (tI rr 1 2 0) from by apply trd3 rr; decide]
     refine g_istore (L' := #[vR t, vI (tI rr 0 1 2), vR lo, vI (tI rr 3 5 1), vI (tI rr 1 2 0), s5_, s6_, s7_, s8_, s9_, s10_]) X143 hx (D d11_69) (st_one rfl o4_ rfl rfl) rfl (g_iloadN X143 hx (D d11_71) rfl rfl (g_iconst (v := (2 : Int32)) X143 hx (D d11_72) rfl rfl (g_irem X143 hx (D d11_73) (by decide) rfl ?_)))
     rw [show ((tI rr 3 5 1) % (2 : Int32)) = (1 : Int32) from by apply trd3 rr; decide]
     refine g_iconst (v := (1 : Int32)) X143 hx (D d11_74) rfl rfl (g_sel_icmp_ne (q := 83) X143 hx (D d11_75) (by decide) (by decide) rfl (D d11_82) (D d11_78) (D d11_79) rfl (by decide) (by decide) rfl ?_)
     rw [show b2i (decide ((1 : Int32).toInt = (1 : Int32).toInt)) = (1 : Int32) from by decide]
     refine g_istore (L' := #[vR t, vI (tI rr 0 1 2), vR lo, vI (tI rr 3 5 1), vI (tI rr 1 2 0), vI 1, s6_, s7_, s8_, s9_, s10_]) X143 hx (D d11_83) (st_one rfl o5_ rfl rfl) rfl (g_iload X143 hx (D d11_85) rfl rfl ?_)
     refine g_if_ne (q := 103) (q0 := 90) X143 hx (D d11_87) (by decide) (by decide) rfl ?_ (fun h => absurd h (by decide))
     intro c692
     refine g_aloadN X143 hx (D d11_103) rfl rfl rfl (g_getF X143 hx hZ hown (hW hw 40 rfl) rfl F172 (D d11_104) rfl fun T693 X693 e693 => (g_iload X693 hx (D d11_107) rfl rfl (g_virtualP X693 hx hZ hown (hW hw 114 rfl) (hW hw 115 rfl) (hW hw 117 rfl) (hW hw 116 rfl) (hW hw 9 rfl) (hW hw 118 rfl) (by decide) (rm18 l Z a0 hw [] ad (tI rr 1 2 0) T143.heap n0 Z183 xs [(0 : Int32), (tI rr 2 0 1), (tI rr 3 2 1), (3 : Int32)] (tI rr 2 2 0) (tN rr 1 2 0) F160 F163 (by apply tri3 rr <;> rfl) (by apply tri3 rr <;> rfl)) F159 (argsL := [.int (tI rr 1 2 0)]) (rest := []) pd_9 rfl rfl rfl (D d11_109) rfl (by rw [hml]; rfl) e693 (by decide) (W := 0) rfl (by decide) rfl rfl (by decide) (by decide) fun T694 X694 e694 => (g_istore (L' := #[vR t, vI (tI rr 0 1 2), vR lo, vI (tI rr 3 5 1), vI (tI rr 1 2 0), vI 1, vI (tI rr 2 2 0), s7_, s8_, s9_, s10_]) X694 hx (D d11_112) (st_one rfl o6_ rfl rfl) rfl (g_iload X694 hx (D d11_114) rfl rfl (g_aloadN X694 hx (D d11_116) rfl rfl rfl (g_getF X694 hx hZ hown (hW hw 40 rfl) e694 F172 (D d11_117) rfl fun T695 X695 e695 => (g_iload X695 hx (D d11_120) rfl rfl (g_virtualP X695 hx hZ hown (hW hw 119 rfl) (hW hw 120 rfl) (hW hw 122 rfl) (hW hw 121 rfl) (hW hw 9 rfl) (hW hw 123 rfl) (by decide) (rm19 l Z a0 hw [] ad (tI rr 1 2 0) T143.heap n0 Z183 xs [(0 : Int32), (tI rr 2 0 1), (tI rr 3 2 1), (3 : Int32)] (tI rr 3 3 1) (tN rr 2 3 1) F160 F163 (by apply trd3 rr; decide) (by apply tri3 rr <;> rfl)) F159 (argsL := [.int (tI rr 1 2 0)]) (rest := [.int (tI rr 2 2 0)]) pd_9 rfl rfl rfl (D d11_122) rfl (by rw [hml]; rfl) e695 (by decide) (W := 1) rfl (by decide) rfl rfl (by decide) (by decide) fun T696 X696 e696 => (g_icmp_ge (q := 241) (q0 := 128) X696 hx (D d11_125) (by decide) (by decide) rfl (fun h => absurd h (by apply trd3 rr; decide)) fun c697 => ?_))))))))))
     have hE := hE1
     have hg : cs.getD (tN rr 3 5 1) 0 ≤ 1 := hg1
     refine g_aloadN X696 hx (D d11_128) rfl rfl rfl (g_getF X696 hx hZ hown (hW hw 40 rfl) e696 F172 (D d11_129) rfl fun T698 X698 e698 => (g_iload X698 hx (D d11_132) rfl rfl (g_virtualP X698 hx hZ hown (hW hw 124 rfl) (hW hw 125 rfl) (hW hw 127 rfl) (hW hw 126 rfl) (hW hw 9 rfl) (hW hw 128 rfl) (by decide) (rm20 l Z a0 hw [] ad (tI rr 2 2 0) T143.heap n0 Z183 xn [(tI rr 1 2 1), (tI rr 2 0 0), (tI rr 2 0 1)] (tI rr 2 0 1) (tN rr 2 2 0) F161 F164 (by apply tri3 rr <;> rfl) (by apply tri3 rr <;> rfl)) F159 (argsL := [.int (tI rr 2 2 0)]) (rest := []) pd_9 rfl rfl rfl (D d11_134) rfl (by rw [hml]; rfl) e698 (by decide) (W := 0) rfl (by decide) rfl rfl (by decide) (by decide) fun T699 X699 e699 => (g_istore (L' := #[vR t, vI (tI rr 0 1 2), vR lo, vI (tI rr 3 5 1), vI (tI rr 1 2 0), vI 1, vI (tI rr 2 2 0), vI (tI rr 2 0 1), s8_, s9_, s10_]) X699 hx (D d11_137) (st_one rfl o7_ rfl rfl) rfl (g_aloadN X699 hx (D d11_139) rfl rfl rfl (g_getF X699 hx hZ hown (hW hw 40 rfl) e699 F172 (D d11_140) rfl fun T700 X700 e700 => (g_iload X700 hx (D d11_143) rfl rfl (g_virtualP X700 hx hZ hown (hW hw 129 rfl) (hW hw 130 rfl) (hW hw 132 rfl) (hW hw 131 rfl) (hW hw 9 rfl) (hW hw 133 rfl) (by decide) (rm21 l Z a0 hw [] ad (tI rr 2 2 0) T143.heap n0 Z183 xw [(tJ rr w1_ w1_ w2_), (tJ rr w3_ w3_ w1_), (tJ rr w2_ w2_ w3_)] w2_ (tN rr 2 2 0) F162 F165 (by apply tri3 rr <;> rfl) (by apply tri3 rr <;> rfl)) F159 (argsL := [.int (tI rr 2 2 0)]) (rest := []) pd_10 rfl rfl rfl (D d11_145) rfl (by rw [hml]; rfl) e700 (by decide) (W := 0) rfl (by decide) rfl rfl (by decide) (by decide) fun T701 X701 e701 => (g_lconst0 X701 hx (D d11_148) rfl (g_sel_lcmp_ge (q := 158) (q1 := 150) X701 hx (D d11_149) rfl (D d11_150) (by decide) (by decide) rfl (D d11_157) (D d11_153) (D d11_154) rfl (by decide) (by decide) rfl ?_))))))))))
     rcases own_bb n2 with hN | hN
     ·rw [show decide (w2_.toInt < (0 : Int64).toInt) = true from hn2.symm.trans hN, b2i_t]
      refine g_istore (L' := #[vR t, vI (tI rr 0 1 2), vR lo, vI (tI rr 3 5 1), vI (tI rr 1 2 0), vI 1, vI (tI rr 2 2 0), vI (tI rr 2 0 1), vI 1, s9_, s10_]) X701 hx (D d11_158) (st_one rfl o8_ rfl rfl) rfl (g_iload X701 hx (D d11_160) rfl rfl (g_iload X701 hx (D d11_162) rfl rfl (g_icmp_ne (q := 235) (q0 := 167) X701 hx (D d11_164) (by decide) (by decide) rfl (fun h => absurd h (by decide)) fun c702 => (g_iload X701 hx (D d11_167) rfl rfl (g_iloadN X701 hx (D d11_169) rfl rfl ?_)))))
      refine g_icmp_ne (q := 180) (q0 := 173) X701 hx (D d11_170) (by decide) (by decide) rfl ?_ (fun h => absurd h (by apply trd3 rr; decide))
      intro c703
      refine g_aloadN X701 hx (D d11_180) rfl rfl rfl (g_getF X701 hx hZ hown (hW hw 49 rfl) e701 F168 (D d11_181) rfl fun T704 X704 e704 => (g_iloadN X704 hx (D d11_184) rfl rfl (g_lload_ (i := (tN rr 3 5 1)) (v := (fk dd (cs.getD (tN rr 3 5 1) 0))) X704 hx hZ e704 F179 (by apply tri3 rr <;> rfl) (own_cm _C (by apply trd3 rr; decide)) (D d11_185) rfl (g_aloadN X704 hx (D d11_186) rfl rfl rfl (g_getF X704 hx hZ hown (hW hw 40 rfl) e704 F172 (D d11_187) rfl fun T705 X705 e705 => (g_iload X705 hx (D d11_190) rfl rfl (g_virtualP X705 hx hZ hown (hW hw 129 rfl) (hW hw 130 rfl) (hW hw 132 rfl) (hW hw 131 rfl) (hW hw 9 rfl) (hW hw 133 rfl) (by decide) (rm21 l Z a0 hw [] ad (tI rr 2 2 0) T143.heap n0 Z183 xw [(tJ rr w1_ w1_ w2_), (tJ rr w3_ w3_ w1_), (tJ rr w2_ w2_ w3_)] w2_ (tN rr 2 2 0) F162 F165 (by apply tri3 rr <;> rfl) (by apply tri3 rr <;> rfl)) F159 (argsL := [.int (tI rr 2 2 0)]) (rest := [.long (fk dd (cs.getD (tN rr 3 5 1) 0))]) pd_10 rfl rfl rfl (D d11_192) rfl (by rw [hml]; rfl) e705 (by decide) (W := 2) rfl (by decide) rfl rfl (by decide) (by decide) fun T706 X706 e706 => (g_ladd X706 hx (D d11_195) rfl (g_aloadN X706 hx (D d11_196) rfl rfl rfl (g_getF X706 hx hZ hown (hW hw 42 rfl) e706 F173 (D d11_197) rfl fun T707 X707 e707 => (g_iload X707 hx (D d11_200) rfl rfl (g_lload_ (i := (tN rr 2 0 1)) (v := sF_) X707 hx hZ e707 F166 (by apply tri3 rr <;> rfl) (by apply tri3 rr <;> rfl) (D d11_202) rfl (g_ladd X707 hx (D d11_203) rfl (g_aloadN X707 hx (D d11_204) rfl rfl rfl ?_))))))))))))))
      refine g_getF X707 hx hZ hown (hW hw 42 rfl) e707 F173 (D d11_205) rfl fun T708 X708 e708 => (g_iload X708 hx (D d11_208) rfl rfl (g_lload_ (i := (tN rr 1 2 0)) (v := sM_) X708 hx hZ e708 F166 (by apply tri3 rr <;> rfl) (by apply tri3 rr <;> rfl) (D d11_210) rfl (g_lsub X708 hx (D d11_211) rfl ?_)))
      rw [show ((((fk dd (cs.getD (tN rr 3 5 1) 0)) + w2_) + sF_) - sM_) = (fk dd (cs.getD (tN rr 3 5 1) 0)) from hL2 _]
      refine g_lstore (L' := #[vR t, vI (tI rr 0 1 2), vR lo, vI (tI rr 3 5 1), vI (tI rr 1 2 0), vI 1, vI (tI rr 2 2 0), vI (tI rr 2 0 1), vI 1, vJ (fk dd (cs.getD (tN rr 3 5 1) 0)), s2]) X708 hx (D d11_212) (by rcases hs9 with ⟨rfl, rfl⟩ | ⟨x9, rfl, rfl⟩ <;> rfl) rfl (g_aloadN X708 hx (D d11_214) rfl rfl rfl (g_iconst (v := (2 : Int32)) X708 hx (D d11_215) rfl rfl (g_iload X708 hx (D d11_216) rfl rfl (g_imul X708 hx (D d11_218) rfl ?_))))
      rw [show ((2 : Int32) * (tI rr 2 0 1)) = (tI rr 4 0 2) from by apply trd3 rr; decide]
      refine g_iload X708 hx (D d11_219) rfl rfl (g_sel_if_eq (q := 229) X708 hx (D d11_221) (by decide) (by decide) rfl (D d11_228) (D d11_224) (D d11_225) rfl (by decide) (by decide) rfl ?_)
      rw [show b2i (decide ((1 : Int32).toInt ≠ 0)) = (1 : Int32) from by decide]
      refine g_iadd X708 hx (D d11_229) rfl ?_
      rw [show ((tI rr 4 0 2) + (1 : Int32)) = (tI rr 5 1 3) from by apply trd3 rr; decide]
      refine g_lload X708 hx (D d11_230) rfl rfl (g_private X708 hx hZ hown (hW hw 84 rfl) (hW hw 85 rfl) (hW hw 86 rfl) (hW hw 34 rfl) (hW hw 35 rfl) (hW hw 87 rfl) (by decide) (rm12 l Z a0 hw [] t (tI rr 5 1 3) (fk dd (cs.getD (tN rr 3 5 1) 0)) T143.heap n0 Z183 ka ra qo qh qp qk ad so (tI rr 0 1 2) rc rl hp144 pl145 ky cn146 cs pA dd (tN rr 5 1 3) (cs.getD (tN rr 3 5 1) 0) _ F168 F169 F170 F171 F172 F173 F174 F147 F148 F149 F150 F179 F180 A151 A152 A153 F157 F158 nx0_ nx1_ nx2_ nx3_ nx4_ nx5_ nx6_ nx7_ nx8_ nx9_ nx10_ nx11_ nx12_ nx13_ nx14_ nx15_ nx16_ nx17_ nx18_ nx19_ nx20_ gxt_ gxka_ gxra_ gxqo_ gxqh_ gxqp_ gxqk_ rfl hD (by apply tri3 rr <;> rfl) (by apply trd3 rr; decide) I154 _R _C hg (own_e1 (by rw [hN]; first | done | rfl) hE)) F157 (argsL := [.int (tI rr 5 1 3), .long (fk dd (cs.getD (tN rr 3 5 1) 0))]) (rest := []) pd_7 rfl rfl rfl (D d11_232) rfl (by rw [hml]; rfl) e708 (by decide) (W := 0) rfl (by decide) (by decide) (by decide) fun v709 T709 Lc709 X709 Q709 => ?_)
      obtain ⟨rfl, Nq709, Kq709, rc710, rl711, hp712, pl713, ky714, cn715, F716, F717, F718, F719, F720, F721, F722, F723, F724, F725, F726, F727, F728, F729, F730, F731, I732, R733, C734⟩ := Q709
      have N735 := Fr.app N155 Nq709
      have K736 := Keep.trans K156 Kq709 (allS (Or.inl (by simp)) (allS (Or.inl (by simp)) (allS (Or.inl (by simp)) (allS (Or.inl (by simp)) (allS (Or.inl (by simp)) (allS (Or.inl (by simp)) (allS (Or.inl (by simp)) all0)))))))
      have F737 := Exa.keep F157 Kq709
      have F738 := Exa.keep F158 Kq709
      have F739 := Exa.keep F159 Kq709
      have F740 := Fld.keep F160 Kq709 q66
      have F741 := Fld.keep F161 Kq709 q66
      have F742 := Fld.keep F162 Kq709 q66
      have F743 := ArrL.keep F163 Kq709 q67
      have F744 := ArrL.keep F164 Kq709 q68
      have F745 := ArrL.keep F165 Kq709 q69
      have F746 := ArrL.keep F166 Kq709 q70
      have F747 := ArrL.keep F167 Kq709 q71
      have Z764 := zK Z183 Kq709
      refine g_iinc (v := (tI rr 3 3 1)) (L' := #[vR t, vI (tI rr 0 1 2), vR lo, vI (tI rr 3 5 1), vI (tI rr 1 2 0), vI 1, vI (tI rr 3 3 1), vI (tI rr 2 0 1), vI 1, vJ (fk dd (cs.getD (tN rr 3 5 1) 0)), s2]) X709 hx (D d11_235) rfl (by apply tri3 rr <;> rfl) rfl rfl (g_goto (q := 114) X709 hx (D d11_238) (by decide) (by decide) (g_iload X709 hx (D d11_114) rfl rfl (g_aloadN X709 hx (D d11_116) rfl rfl rfl (g_getF X709 hx hZ hown (hW hw 40 rfl) rfl F720 (D d11_117) rfl fun T765 X765 e765 => (g_iload X765 hx (D d11_120) rfl rfl (g_virtualP X765 hx hZ hown (hW hw 119 rfl) (hW hw 120 rfl) (hW hw 122 rfl) (hW hw 121 rfl) (hW hw 9 rfl) (hW hw 123 rfl) (by decide) (rm19 l Z a0 hw [] ad (tI rr 1 2 0) T709.heap n0 Z764 xs [(0 : Int32), (tI rr 2 0 1), (tI rr 3 2 1), (3 : Int32)] (tI rr 3 3 1) (tN rr 2 3 1) F740 F743 (by apply trd3 rr; decide) (by apply tri3 rr <;> rfl)) F739 (argsL := [.int (tI rr 1 2 0)]) (rest := [.int (tI rr 3 3 1)]) pd_9 rfl rfl rfl (D d11_122) rfl (by rw [hml]; rfl) e765 (by decide) (W := 1) rfl (by decide) rfl rfl (by decide) (by decide) fun T766 X766 e766 => ?_))))))
      refine g_icmp_ge (q := 241) (q0 := 128) X766 hx (D d11_125) (by decide) (by decide) rfl ?_ (fun h => absurd h (by apply trd3 rr; decide))
      intro c767
      refine g_goto (q := 48) X766 hx (D d11_241) (by decide) (by decide) ?_
      exact ihb138 _ T709.heap _ (vI (tI rr 3 5 1)) (vI (tI rr 1 2 0)) (vI 1) (vI (tI rr 3 3 1)) (vI (tI rr 2 0 1)) (vI 1) (vJ (fk dd (cs.getD (tN rr 3 5 1) 0))) (s2) rc710 rl711 hp712 pl713 ky714 cn715 qq.1 qq.2 fn2 X766 e766 N735 Z764 K736 (One.val rfl) (One.val rfl) (One.val rfl) (One.val rfl) (One.val rfl) (One.val rfl) (Or.inr ⟨_, rfl, rfl⟩) F737 F738 F739 F740 F741 F742 F743 F744 F745 F746 F747 F716 F717 F718 F719 F720 F721 F722 F723 F724 F725 F726 F727 F728 F729 F730 F731 I732 R733 C734 hrun2 (own_fn hfn hnb138)
     ·rw [show decide (w2_.toInt < (0 : Int64).toInt) = false from hn2.symm.trans hN, b2i_f]
      refine g_istore (L' := #[vR t, vI (tI rr 0 1 2), vR lo, vI (tI rr 3 5 1), vI (tI rr 1 2 0), vI 1, vI (tI rr 2 2 0), vI (tI rr 2 0 1), vI 0, s9_, s10_]) X701 hx (D d11_158) (st_one rfl o8_ rfl rfl) rfl (g_iload X701 hx (D d11_160) rfl rfl (g_iload X701 hx (D d11_162) rfl rfl ?_))
      refine g_icmp_ne (q := 235) (q0 := 167) X701 hx (D d11_164) (by decide) (by decide) rfl ?_ (fun h => absurd h (by decide))
      intro c768
      obtain rfl := own_e0 (by rw [hN]; first | done | rfl) hE
      refine g_iinc (v := (tI rr 3 3 1)) (L' := #[vR t, vI (tI rr 0 1 2), vR lo, vI (tI rr 3 5 1), vI (tI rr 1 2 0), vI 1, vI (tI rr 3 3 1), vI (tI rr 2 0 1), vI 0, s9_, s10_]) X701 hx (D d11_235) rfl (by apply tri3 rr <;> rfl) rfl rfl (g_goto (q := 114) X701 hx (D d11_238) (by decide) (by decide) (g_iload X701 hx (D d11_114) rfl rfl (g_aloadN X701 hx (D d11_116) rfl rfl rfl (g_getF X701 hx hZ hown (hW hw 40 rfl) e701 F172 (D d11_117) rfl fun T769 X769 e769 => (g_iload X769 hx (D d11_120) rfl rfl (g_virtualP X769 hx hZ hown (hW hw 119 rfl) (hW hw 120 rfl) (hW hw 122 rfl) (hW hw 121 rfl) (hW hw 9 rfl) (hW hw 123 rfl) (by decide) (rm19 l Z a0 hw [] ad (tI rr 1 2 0) T143.heap n0 Z183 xs [(0 : Int32), (tI rr 2 0 1), (tI rr 3 2 1), (3 : Int32)] (tI rr 3 3 1) (tN rr 2 3 1) F160 F163 (by apply trd3 rr; decide) (by apply tri3 rr <;> rfl)) F159 (argsL := [.int (tI rr 1 2 0)]) (rest := [.int (tI rr 3 3 1)]) pd_9 rfl rfl rfl (D d11_122) rfl (by rw [hml]; rfl) e769 (by decide) (W := 1) rfl (by decide) rfl rfl (by decide) (by decide) fun T770 X770 e770 => ?_))))))
      refine g_icmp_ge (q := 241) (q0 := 128) X770 hx (D d11_125) (by decide) (by decide) rfl ?_ (fun h => absurd h (by apply trd3 rr; decide))
      intro c771
      refine g_goto (q := 48) X770 hx (D d11_241) (by decide) (by decide) ?_
      exact ihb138 _ T143.heap _ (vI (tI rr 3 5 1)) (vI (tI rr 1 2 0)) (vI 1) (vI (tI rr 3 3 1)) (vI (tI rr 2 0 1)) (vI 0) (s9_) (s10_) rc rl hp144 pl145 ky cn146 cs pA fn2 X770 e770 N155 Z183 K156 (One.val rfl) (One.val rfl) (One.val rfl) (One.val rfl) (One.val rfl) (One.val rfl) hs9 F157 F158 F159 F160 F161 F162 F163 F164 F165 F166 F167 F168 F169 F170 F171 F172 F173 F174 F147 F148 F149 F150 F179 F180 A151 A152 A153 I154 _R _C hrun2 (own_fn hfn hnb138)
    ·obtain rfl : pr = (tI rr 4 0 2) := Int32.toInt_inj.mp (hpr.trans (by apply tri3 rr <;> rfl))
     rw [own_stF0] at hst
     obtain ⟨hg, hst⟩ := own_ite hst
     replace hg : cs.getD (tN rr 4 0 2) 0 ≤ 1 := hg
     refine g_istoreN (L' := #[vR t, vI (tI rr 0 1 2), vR lo, vI (tI rr 4 0 2), s4_, s5_, s6_, s7_, s8_, s9_, s10_]) X143 hx (D d11_65) (st_one rfl o3_ rfl rfl) rfl (g_iloadN X143 hx (D d11_66) rfl rfl (g_iconst (v := (2 : Int32)) X143 hx (D d11_67) rfl rfl (g_idiv X143 hx (D d11_68) (by decide) rfl ?_)))
     rw [show ((tI rr 4 0 2) / (2 : Int32)) = (tI rr 2 0 1) from by apply trd3 rr; decide]
     refine g_istore (L' := #[vR t, vI (tI rr 0 1 2), vR lo, vI (tI rr 4 0 2), vI (tI rr 2 0 1), s5_, s6_, s7_, s8_, s9_, s10_]) X143 hx (D d11_69) (st_one rfl o4_ rfl rfl) rfl (g_iloadN X143 hx (D d11_71) rfl rfl (g_iconst (v := (2 : Int32)) X143 hx (D d11_72) rfl rfl (g_irem X143 hx (D d11_73) (by decide) rfl ?_)))
     rw [show ((tI rr 4 0 2) % (2 : Int32)) = (0 : Int32) from by apply trd3 rr; decide]
     refine g_iconst (v := (1 : Int32)) X143 hx (D d11_74) rfl rfl (g_sel_icmp_ne (q := 83) X143 hx (D d11_75) (by decide) (by decide) rfl (D d11_82) (D d11_78) (D d11_79) rfl (by decide) (by decide) rfl ?_)
     rw [show b2i (decide ((0 : Int32).toInt = (1 : Int32).toInt)) = (0 : Int32) from by decide]
     refine g_istore (L' := #[vR t, vI (tI rr 0 1 2), vR lo, vI (tI rr 4 0 2), vI (tI rr 2 0 1), vI 0, s6_, s7_, s8_, s9_, s10_]) X143 hx (D d11_83) (st_one rfl o5_ rfl rfl) rfl (g_iload X143 hx (D d11_85) rfl rfl (g_if_ne (q := 103) (q0 := 90) X143 hx (D d11_87) (by decide) (by decide) rfl (fun h => absurd h (by decide)) fun c772 => (g_aloadN X143 hx (D d11_90) rfl rfl rfl (g_iloadN X143 hx (D d11_91) rfl rfl (g_iconst (v := (1 : Int32)) X143 hx (D d11_92) rfl rfl (g_iadd X143 hx (D d11_93) rfl ?_))))))
     rw [show ((tI rr 4 0 2) + (1 : Int32)) = (tI rr 5 1 3) from by apply trd3 rr; decide]
     refine g_aloadN X143 hx (D d11_94) rfl rfl rfl (g_getF X143 hx hZ hown (hW hw 49 rfl) rfl F168 (D d11_95) rfl fun T773 X773 e773 => (g_iloadN X773 hx (D d11_98) rfl rfl (g_lload_ (i := (tN rr 4 0 2)) (v := (fk dd (cs.getD (tN rr 4 0 2) 0))) X773 hx hZ e773 F179 (by apply tri3 rr <;> rfl) (own_cm _C (by apply trd3 rr; decide)) (D d11_99) rfl (g_private X773 hx hZ hown (hW hw 84 rfl) (hW hw 85 rfl) (hW hw 86 rfl) (hW hw 34 rfl) (hW hw 35 rfl) (hW hw 87 rfl) (by decide) (rm12 l Z a0 hw [] t (tI rr 5 1 3) (fk dd (cs.getD (tN rr 4 0 2) 0)) T143.heap n0 Z183 ka ra qo qh qp qk ad so (tI rr 0 1 2) rc rl hp144 pl145 ky cn146 cs pA dd (tN rr 5 1 3) (cs.getD (tN rr 4 0 2) 0) _ F168 F169 F170 F171 F172 F173 F174 F147 F148 F149 F150 F179 F180 A151 A152 A153 F157 F158 nx0_ nx1_ nx2_ nx3_ nx4_ nx5_ nx6_ nx7_ nx8_ nx9_ nx10_ nx11_ nx12_ nx13_ nx14_ nx15_ nx16_ nx17_ nx18_ nx19_ nx20_ gxt_ gxka_ gxra_ gxqo_ gxqh_ gxqp_ gxqk_ rfl hD (by apply tri3 rr <;> rfl) (by apply trd3 rr; decide) I154 _R _C hg hst) F157 (argsL := [.int (tI rr 5 1 3), .long (fk dd (cs.getD (tN rr 4 0 2) 0))]) (rest := []) pd_7 rfl rfl rfl (D d11_100) rfl (by rw [hml]; rfl) e773 (by decide) (W := 0) rfl (by decide) (by decide) (by decide) fun v774 T774 Lc774 X774 Q774 => ?_))))
     obtain ⟨rfl, Nq774, Kq774, rc775, rl776, hp777, pl778, ky779, cn780, F781, F782, F783, F784, F785, F786, F787, F788, F789, F790, F791, F792, F793, F794, F795, F796, I797, R798, C799⟩ := Q774
     have N800 := Fr.app N155 Nq774
     have K801 := Keep.trans K156 Kq774 (allS (Or.inl (by simp)) (allS (Or.inl (by simp)) (allS (Or.inl (by simp)) (allS (Or.inl (by simp)) (allS (Or.inl (by simp)) (allS (Or.inl (by simp)) (allS (Or.inl (by simp)) all0)))))))
     have F802 := Exa.keep F157 Kq774
     have F803 := Exa.keep F158 Kq774
     have F804 := Exa.keep F159 Kq774
     have F805 := Fld.keep F160 Kq774 q66
     have F806 := Fld.keep F161 Kq774 q66
     have F807 := Fld.keep F162 Kq774 q66
     have F808 := ArrL.keep F163 Kq774 q67
     have F809 := ArrL.keep F164 Kq774 q68
     have F810 := ArrL.keep F165 Kq774 q69
     have F811 := ArrL.keep F166 Kq774 q70
     have F812 := ArrL.keep F167 Kq774 q71
     have Z829 := zK Z183 Kq774
     refine g_aloadN X774 hx (D d11_103) rfl rfl rfl (g_getF X774 hx hZ hown (hW hw 40 rfl) rfl F785 (D d11_104) rfl fun T830 X830 e830 => (g_iload X830 hx (D d11_107) rfl rfl (g_virtualP X830 hx hZ hown (hW hw 114 rfl) (hW hw 115 rfl) (hW hw 117 rfl) (hW hw 116 rfl) (hW hw 9 rfl) (hW hw 118 rfl) (by decide) (rm18 l Z a0 hw [] ad (tI rr 2 0 1) T774.heap n0 Z829 xs [(0 : Int32), (tI rr 2 0 1), (tI rr 3 2 1), (3 : Int32)] (tI rr 3 0 1) (tN rr 2 0 1) F805 F808 (by apply tri3 rr <;> rfl) (by apply tri3 rr <;> rfl)) F804 (argsL := [.int (tI rr 2 0 1)]) (rest := []) pd_9 rfl rfl rfl (D d11_109) rfl (by rw [hml]; rfl) e830 (by decide) (W := 0) rfl (by decide) rfl rfl (by decide) (by decide) fun T831 X831 e831 => (g_istore (L' := #[vR t, vI (tI rr 0 1 2), vR lo, vI (tI rr 4 0 2), vI (tI rr 2 0 1), vI 0, vI (tI rr 3 0 1), s7_, s8_, s9_, s10_]) X831 hx (D d11_112) (st_one rfl o6_ rfl rfl) rfl (g_iload X831 hx (D d11_114) rfl rfl (g_aloadN X831 hx (D d11_116) rfl rfl rfl (g_getF X831 hx hZ hown (hW hw 40 rfl) e831 F785 (D d11_117) rfl fun T832 X832 e832 => (g_iload X832 hx (D d11_120) rfl rfl (g_virtualP X832 hx hZ hown (hW hw 119 rfl) (hW hw 120 rfl) (hW hw 122 rfl) (hW hw 121 rfl) (hW hw 9 rfl) (hW hw 123 rfl) (by decide) (rm19 l Z a0 hw [] ad (tI rr 2 0 1) T774.heap n0 Z829 xs [(0 : Int32), (tI rr 2 0 1), (tI rr 3 2 1), (3 : Int32)] (tI rr 3 0 1) (tN rr 3 1 2) F805 F808 (by apply trd3 rr; decide) (by apply tri3 rr <;> rfl)) F804 (argsL := [.int (tI rr 2 0 1)]) (rest := [.int (tI rr 3 0 1)]) pd_9 rfl rfl rfl (D d11_122) rfl (by rw [hml]; rfl) e832 (by decide) (W := 1) rfl (by decide) rfl rfl (by decide) (by decide) fun T833 X833 e833 => ?_)))))))))
     refine g_icmp_ge (q := 241) (q0 := 128) X833 hx (D d11_125) (by decide) (by decide) rfl ?_ (fun h => absurd h (by apply trd3 rr; decide))
     intro c834
     refine g_goto (q := 48) X833 hx (D d11_241) (by decide) (by decide) ?_
     exact ihb138 _ T774.heap _ (vI (tI rr 4 0 2)) (vI (tI rr 2 0 1)) (vI 0) (vI (tI rr 3 0 1)) (s7_) (s8_) (s9_) (s10_) rc775 rl776 hp777 pl778 ky779 cn780 qq.1 qq.2 fn2 X833 e833 N800 Z829 K801 (One.val rfl) (One.val rfl) (One.val rfl) (One.val rfl) o7_ o8_ hs9 F802 F803 F804 F805 F806 F807 F808 F809 F810 F811 F812 F781 F782 F783 F784 F785 F786 F787 F788 F789 F790 F791 F792 F793 F794 F795 F796 I797 R798 C799 hrun2 (own_fn hfn hnb138)
    ·obtain rfl : pr = (tI rr 5 1 3) := Int32.toInt_inj.mp (hpr.trans (by apply tri3 rr <;> rfl))
     rw [own_stF1] at hst
     obtain rfl := Option.some.inj hst
     refine g_istoreN (L' := #[vR t, vI (tI rr 0 1 2), vR lo, vI (tI rr 5 1 3), s4_, s5_, s6_, s7_, s8_, s9_, s10_]) X143 hx (D d11_65) (st_one rfl o3_ rfl rfl) rfl (g_iloadN X143 hx (D d11_66) rfl rfl (g_iconst (v := (2 : Int32)) X143 hx (D d11_67) rfl rfl (g_idiv X143 hx (D d11_68) (by decide) rfl ?_)))
     rw [show ((tI rr 5 1 3) / (2 : Int32)) = (tI rr 2 0 1) from by apply trd3 rr; decide]
     refine g_istore (L' := #[vR t, vI (tI rr 0 1 2), vR lo, vI (tI rr 5 1 3), vI (tI rr 2 0 1), s5_, s6_, s7_, s8_, s9_, s10_]) X143 hx (D d11_69) (st_one rfl o4_ rfl rfl) rfl (g_iloadN X143 hx (D d11_71) rfl rfl (g_iconst (v := (2 : Int32)) X143 hx (D d11_72) rfl rfl (g_irem X143 hx (D d11_73) (by decide) rfl ?_)))
     rw [show ((tI rr 5 1 3) % (2 : Int32)) = (1 : Int32) from by apply trd3 rr; decide]
     refine g_iconst (v := (1 : Int32)) X143 hx (D d11_74) rfl rfl (g_sel_icmp_ne (q := 83) X143 hx (D d11_75) (by decide) (by decide) rfl (D d11_82) (D d11_78) (D d11_79) rfl (by decide) (by decide) rfl ?_)
     rw [show b2i (decide ((1 : Int32).toInt = (1 : Int32).toInt)) = (1 : Int32) from by decide]
     refine g_istore (L' := #[vR t, vI (tI rr 0 1 2), vR lo, vI (tI rr 5 1 3), vI (tI rr 2 0 1), vI 1, s6_, s7_, s8_, s9_, s10_]) X143 hx (D d11_83) (st_one rfl o5_ rfl rfl) rfl (g_iload X143 hx (D d11_85) rfl rfl ?_)
     refine g_if_ne (q := 103) (q0 := 90) X143 hx (D d11_87) (by decide) (by decide) rfl ?_ (fun h => absurd h (by decide))
     intro c835
     refine g_aloadN X143 hx (D d11_103) rfl rfl rfl (g_getF X143 hx hZ hown (hW hw 40 rfl) rfl F172 (D d11_104) rfl fun T836 X836 e836 => (g_iload X836 hx (D d11_107) rfl rfl (g_virtualP X836 hx hZ hown (hW hw 114 rfl) (hW hw 115 rfl) (hW hw 117 rfl) (hW hw 116 rfl) (hW hw 9 rfl) (hW hw 118 rfl) (by decide) (rm18 l Z a0 hw [] ad (tI rr 2 0 1) T143.heap n0 Z183 xs [(0 : Int32), (tI rr 2 0 1), (tI rr 3 2 1), (3 : Int32)] (tI rr 3 0 1) (tN rr 2 0 1) F160 F163 (by apply tri3 rr <;> rfl) (by apply tri3 rr <;> rfl)) F159 (argsL := [.int (tI rr 2 0 1)]) (rest := []) pd_9 rfl rfl rfl (D d11_109) rfl (by rw [hml]; rfl) e836 (by decide) (W := 0) rfl (by decide) rfl rfl (by decide) (by decide) fun T837 X837 e837 => (g_istore (L' := #[vR t, vI (tI rr 0 1 2), vR lo, vI (tI rr 5 1 3), vI (tI rr 2 0 1), vI 1, vI (tI rr 3 0 1), s7_, s8_, s9_, s10_]) X837 hx (D d11_112) (st_one rfl o6_ rfl rfl) rfl (g_iload X837 hx (D d11_114) rfl rfl (g_aloadN X837 hx (D d11_116) rfl rfl rfl (g_getF X837 hx hZ hown (hW hw 40 rfl) e837 F172 (D d11_117) rfl fun T838 X838 e838 => (g_iload X838 hx (D d11_120) rfl rfl (g_virtualP X838 hx hZ hown (hW hw 119 rfl) (hW hw 120 rfl) (hW hw 122 rfl) (hW hw 121 rfl) (hW hw 9 rfl) (hW hw 123 rfl) (by decide) (rm19 l Z a0 hw [] ad (tI rr 2 0 1) T143.heap n0 Z183 xs [(0 : Int32), (tI rr 2 0 1), (tI rr 3 2 1), (3 : Int32)] (tI rr 3 0 1) (tN rr 3 1 2) F160 F163 (by apply trd3 rr; decide) (by apply tri3 rr <;> rfl)) F159 (argsL := [.int (tI rr 2 0 1)]) (rest := [.int (tI rr 3 0 1)]) pd_9 rfl rfl rfl (D d11_122) rfl (by rw [hml]; rfl) e838 (by decide) (W := 1) rfl (by decide) rfl rfl (by decide) (by decide) fun T839 X839 e839 => ?_)))))))))
     refine g_icmp_ge (q := 241) (q0 := 128) X839 hx (D d11_125) (by decide) (by decide) rfl ?_ (fun h => absurd h (by apply trd3 rr; decide))
     intro c840
     refine g_goto (q := 48) X839 hx (D d11_241) (by decide) (by decide) ?_
     exact ihb138 _ T143.heap _ (vI (tI rr 5 1 3)) (vI (tI rr 2 0 1)) (vI 1) (vI (tI rr 3 0 1)) (s7_) (s8_) (s9_) (s10_) rc rl hp144 pl145 ky cn146 cs pA fn2 X839 e839 N155 Z183 K156 (One.val rfl) (One.val rfl) (One.val rfl) (One.val rfl) o7_ o8_ hs9 F157 F158 F159 F160 F161 F162 F163 F164 F165 F166 F167 F168 F169 F170 F171 F172 F173 F174 F147 F148 F149 F150 F179 F180 A151 A152 A153 I154 _R _C hrun2 (own_fn hfn hnb138)
  exact LP48_b138 (6 + 1) _ T82.heap _ (vI 0) (u0) (u0) (u0) (u0) (u0) (u0) (u0) rc83 rl84 hp85 pl86 ky87 cn88 p0_.1 p0_.2 6 X82 rfl N108 Z137 K109 (One.val rfl) One.u One.u One.u One.u One.u (Or.inl ⟨rfl, rfl⟩) F110 F111 F112 F124 F125 F126 F132 F133 F134 F135 F136 F89 F90 F91 F92 F93 F94 F95 F96 F97 F98 F99 F100 F101 F102 F103 F104 I105 R106 C107 hrun (Nat.lt_succ_self _)
def RM_rm24 : Room := ({ frames := 0, cells := 0, slots := 0, locals := 0 } : Room)
abbrev b24 := prog_82_method_3_code
theorem d24_0 : decode b24 0 = .ok (.aload_n 0, 1) := by decide +kernel
theorem d24_1 : decode b24 1 = .ok (.getfield 25, 3) := by decide +kernel
theorem d24_4 : decode b24 4 = .ok (.iconst 2, 1) := by decide +kernel
theorem d24_5 : decode b24 5 = .ok (.iload_n 1, 1) := by decide +kernel
theorem d24_6 : decode b24 6 = .ok (.imul, 1) := by decide +kernel
theorem d24_7 : decode b24 7 = .ok (.iconst 1, 1) := by decide +kernel
theorem d24_8 : decode b24 8 = .ok (.iadd, 1) := by decide +kernel
theorem d24_9 : decode b24 9 = .ok (.laload, 1) := by decide +kernel
theorem d24_10 : decode b24 10 = .ok (.lstore_n 2, 1) := by decide +kernel
theorem d24_11 : decode b24 11 = .ok (.lload_n 2, 1) := by decide +kernel
theorem d24_12 : decode b24 12 = .ok (.ldc2_w 41, 3) := by decide +kernel
theorem d24_15 : decode b24 15 = .ok (.lcmp, 1) := by decide +kernel
theorem d24_16 : decode b24 16 = .ok (.ifCond .ne 9, 3) := by decide +kernel
theorem d24_19 : decode b24 19 = .ok (.ldc2_w 41, 3) := by decide +kernel
theorem d24_22 : decode b24 22 = .ok (.goto 21, 3) := by decide +kernel
theorem d24_25 : decode b24 25 = .ok (.lload_n 2, 1) := by decide +kernel
theorem d24_26 : decode b24 26 = .ok (.aload_n 0, 1) := by decide +kernel
theorem d24_27 : decode b24 27 = .ok (.getfield 15, 3) := by decide +kernel
theorem d24_30 : decode b24 30 = .ok (.iload_n 1, 1) := by decide +kernel
theorem d24_31 : decode b24 31 = .ok (.laload, 1) := by decide +kernel
theorem d24_32 : decode b24 32 = .ok (.lsub, 1) := by decide +kernel
theorem d24_33 : decode b24 33 = .ok (.aload_n 0, 1) := by decide +kernel
theorem d24_34 : decode b24 34 = .ok (.getfield 15, 3) := by decide +kernel
theorem d24_37 : decode b24 37 = .ok (.aload_n 0, 1) := by decide +kernel
theorem d24_38 : decode b24 38 = .ok (.getfield 53, 3) := by decide +kernel
theorem d24_41 : decode b24 41 = .ok (.laload, 1) := by decide +kernel
theorem d24_42 : decode b24 42 = .ok (.ladd, 1) := by decide +kernel
theorem d24_43 : decode b24 43 = .ok (.lreturn, 1) := by decide +kernel
theorem ef_24 (m : MethodId) (z0 : Addr) (z1 : Int32) : entryFrame m #[.ref z0, .int z1] 4 = mkF m 0 #[vR z0, vI z1, u0, u0] [] := by first | (simp [entryFrame, mkF, argsToLocals, Value.category]; done) | rfl
set_option maxRecDepth 65536 in
set_option maxHeartbeats 40000000 in
theorem rm24 (l : Launch) (Z : State) (a0 : Array Value) (hw : ∀ d ∈ tables_1, d.before a0 Z = true) (ws : List Jvm.Cond) (t : Addr) (tt : Int32) (h0 : Heap) (n0 : Nat) (Z0 : n0 ≤ h0.size) (ka so : Addr) (cs : List Nat) (dd : Int64) (sl : List Int64) (tg : Int32) (lx ly : Int64) (i_ j_ : Nat) (F0_ : Fld Z h0 t kV "key" "[J" (.ref ka)) (F1_ : Fld Z h0 t kV "solution" "[J" (.ref so)) (F2_ : Fld Z h0 t kV "target" "I" (.int tg)) (A0_ : LA Z h0 ka (cs.map (fk dd))) (A1_ : LA Z h0 so sl) (hC : CI cs) (hi : tt.toInt = (i_ : Int)) (hi2 : (((2 : Int32) * tt) + (1 : Int32)).toInt = ((2 * i_ + 1 : Nat) : Int)) (hi6 : 2 * i_ + 1 < 6) (hlx : sl[i_]? = some lx) (htg : tg.toInt = (j_ : Int)) (hly : sl[j_]? = some ly) :
    Ctr l Z (⟨kV, "length", "(I)J"⟩ : MethodName) prog_82_method_3_code 4 (some .long) RM_rm24 ws #[.ref t, .int tt] h0 (PQ (.long (lenF (fk dd (cs.getD (2 * i_ + 1) 0)) lx ly)) h0) := by
  refine Ctr.of (plainFor_of_name pn_5) ?_
  intro p e s m below meth c s₁ hx hby hml hrt hlk hnm hown hZ X0 e0
  have N0 := Fr.nil n0
  have D := @hb _ _ hby
  refine Go.cast (ef_24 m t tt) ?_
  refine g_aloadN X0 hx (D d24_0) rfl rfl rfl (g_getF X0 hx hZ hown (hW hw 49 rfl) e0 F0_ (D d24_1) rfl fun T1 X1 e1 => (g_iconst (v := (2 : Int32)) X1 hx (D d24_4) rfl rfl (g_iloadN X1 hx (D d24_5) rfl rfl (g_imul X1 hx (D d24_6) rfl (g_iconst (v := (1 : Int32)) X1 hx (D d24_7) rfl rfl (g_iadd X1 hx (D d24_8) rfl (g_lload_ (i := (2 * i_ + 1)) (v := (fk dd (cs.getD (2 * i_ + 1) 0))) X1 hx hZ e1 A0_ hi2 (own_cm hC hi6) (D d24_9) rfl (g_lstoreN (L' := #[vR t, vI tt, vJ (fk dd (cs.getD (2 * i_ + 1) 0)), s2]) X1 hx (D d24_10) rfl rfl (g_lloadN X1 hx (D d24_11) rfl rfl (g_ldc2J X1 hx hZ hown (hW hw 71 rfl) (D d24_12) rfl ?_))))))))))
  refine g_lcmp_ne (q := 25) (q1 := 16) (q0 := 19) X1 hx (D d24_15) rfl (D d24_16) (by decide) (by decide) rfl ?_ ?_
  ·intro c2
   refine g_lloadN X1 hx (D d24_25) rfl rfl (g_aloadN X1 hx (D d24_26) rfl rfl rfl (g_getF X1 hx hZ hown (hW hw 42 rfl) e1 F1_ (D d24_27) rfl fun T3 X3 e3 => (g_iloadN X3 hx (D d24_30) rfl rfl (g_lload_ (i := i_) (v := lx) X3 hx hZ e3 A1_ hi hlx (D d24_31) rfl (g_lsub X3 hx (D d24_32) rfl (g_aloadN X3 hx (D d24_33) rfl rfl rfl (g_getF X3 hx hZ hown (hW hw 42 rfl) e3 F1_ (D d24_34) rfl fun T4 X4 e4 => (g_aloadN X4 hx (D d24_37) rfl rfl rfl (g_getF X4 hx hZ hown (hW hw 82 rfl) e4 F2_ (D d24_38) rfl fun T5 X5 e5 => (g_lload_ (i := j_) (v := ly) X5 hx hZ e5 A1_ htg hly (D d24_41) rfl (g_ladd X5 hx (D d24_42) rfl ?_)))))))))))
   exact g_lreturn X5 hx hlk hrt (D d24_43) (by decide) (by decide) ⟨congrArg (fun z => some (Value.long z)) (own_lq c2).symm, e5, rfl⟩
  intro c2
  refine g_ldc2J X1 hx hZ hown (hW hw 71 rfl) (D d24_19) rfl (g_goto (q := 43) X1 hx (D d24_22) (by decide) (by decide) ?_)
  exact g_lreturn X1 hx hlk hrt (D d24_43) (by decide) (by decide) ⟨congrArg (fun z => some (Value.long z)) (own_lp c2).symm, e1, rfl⟩
theorem pd_11 : parseMethodDescriptor "(JJ)J" = some ⟨[.long, .long], some .long⟩ := by decide +kernel
theorem pd_12 : parseMethodDescriptor "(I[I[I[J)V" = some ⟨[.int, (.array .int), (.array .int), (.array .long)], none⟩ := by decide +kernel
theorem pd_13 : parseMethodDescriptor "(Lcom/example/hedged_dispatch/hedgeddispatch/stn/Adjacency;[J)V" = some ⟨[(.object kA), (.array .long)], none⟩ := by decide +kernel
theorem pd_14 : parseMethodDescriptor "(I[Z)V" = some ⟨[.int, (.array .boolean)], none⟩ := by decide +kernel
theorem ef_0 (m : MethodId) (z0 : Int32) (z1 : Int32) (z2 : Int32) (z3 : Int32) (z4 : Int32) : entryFrame m #[.int z0, .int z1, .int z2, .int z3, .int z4] maxLocals = mkF m 0 #[vI z0, vI z1, vI z2, vI z3, vI z4, u0, u0, u0, u0, u0, u0, u0, u0, u0, u0, u0, u0, u0, u0, u0, u0, u0, u0, u0, u0, u0, u0, u0, u0, u0, u0, u0, u0] [] := by first | (simp [entryFrame, mkF, argsToLocals, Value.category, maxLocals]; done) | rfl
theorem pn_6 : plainName "com/example/hedged_dispatch/hedgeddispatch/stn/VeePathsLengthPinLaw" = true := by first | (simp [plainName, overriddenIn]; done) | decide +kernel
set_option maxRecDepth 65536 in
set_option maxHeartbeats 40000000 in
theorem rm0 (l : Launch) (Z : State) (a0 : Array Value) (hw : ∀ d ∈ tables_1, d.before a0 Z = true) (ws : List Jvm.Cond) (pa : Int32) (pb : Int32) (pd : Int32) (off : Int32) (sel : Int32) (h0 : Heap) (n0 : Nat) (Z0 : n0 ≤ h0.size) :
    Ctr l Z x code maxLocals ret room_1 ws #[.int pa, .int pb, .int pd, .int off, .int sel] h0 (fun v h L => v = some (.int 1) ∧ Fr n0 L) := by
  refine Ctr.of (plainFor_of_name pn_6) ?_
  intro p e s m below meth c s₁ hx hby hml hrt hlk hnm hown hZ X0 e0
  have N0 := Fr.nil n0
  have D := @hb _ _ hby
  refine Go.cast (ef_0 m pa pb pd off sel) ?_
  replace hown : s.vm.findClass "com/example/hedged_dispatch/hedgeddispatch/stn/VeePathsLengthPinLaw" = some m.cls := hown
  replace hml : c.maxLocals = 33 := hml
  replace hrt : meth.sig.returnType = some .boolean := hrt
  refine g_iloadN X0 hx (D at_0) rfl rfl (g_i2l X0 hx (D at_1) rfl ?_)
  obtain ⟨w1_, hew1_, b1_⟩ : ∃ x : Int64, pa.toInt64 = x ∧ B32 x := ⟨_, rfl, own_b32 _⟩
  rw [hew1_]
  refine g_lstore (L' := #[vI pa, vI pb, vI pd, vI off, vI sel, vJ w1_, s2, u0, u0, u0, u0, u0, u0, u0, u0, u0, u0, u0, u0, u0, u0, u0, u0, u0, u0, u0, u0, u0, u0, u0, u0, u0, u0]) X0 hx (D at_2) rfl rfl (g_iloadN X0 hx (D at_4) rfl rfl (g_i2l X0 hx (D at_5) rfl ?_))
  obtain ⟨w2_, hew2_, b2_⟩ : ∃ x : Int64, pb.toInt64 = x ∧ B32 x := ⟨_, rfl, own_b32 _⟩
  rw [hew2_]
  refine g_lstore (L' := #[vI pa, vI pb, vI pd, vI off, vI sel, vJ w1_, s2, vJ w2_, s2, u0, u0, u0, u0, u0, u0, u0, u0, u0, u0, u0, u0, u0, u0, u0, u0, u0, u0, u0, u0, u0, u0, u0, u0]) X0 hx (D at_6) rfl rfl (g_iloadN X0 hx (D at_8) rfl rfl (g_i2l X0 hx (D at_9) rfl ?_))
  obtain ⟨w3_, hew3_, b3_⟩ : ∃ x : Int64, pd.toInt64 = x ∧ B32 x := ⟨_, rfl, own_b32 _⟩
  rw [hew3_]
  refine g_lstore (L' := #[vI pa, vI pb, vI pd, vI off, vI sel, vJ w1_, s2, vJ w2_, s2, vJ w3_, s2, u0, u0, u0, u0, u0, u0, u0, u0, u0, u0, u0, u0, u0, u0, u0, u0, u0, u0, u0, u0, u0, u0]) X0 hx (D at_10) rfl rfl (g_iloadN X0 hx (D at_12) rfl rfl (g_i2l X0 hx (D at_13) rfl ?_))
  obtain ⟨sc_, hesc_, b4_⟩ : ∃ x : Int64, off.toInt64 = x ∧ B32 x := ⟨_, rfl, own_b32 _⟩
  rw [hesc_]
  refine g_lstore (L' := #[vI pa, vI pb, vI pd, vI off, vI sel, vJ w1_, s2, vJ w2_, s2, vJ w3_, s2, vJ sc_, s2, u0, u0, u0, u0, u0, u0, u0, u0, u0, u0, u0, u0, u0, u0, u0, u0, u0, u0, u0, u0]) X0 hx (D at_14) rfl rfl (g_iload X0 hx (D at_16) rfl rfl (g_iconst (v := (1 : Int32)) X0 hx (D at_18) rfl rfl (g_iand X0 hx (D at_19) rfl (g_sel_if_eq (q := 28) X0 hx (D at_20) (by decide) (by decide) rfl (D at_27) (D at_23) (D at_24) rfl (by decide) (by decide) rfl ?_))))
  generalize decide ((sel &&& (1 : Int32)).toInt ≠ 0) = oM
  refine g_istore (L' := #[vI pa, vI pb, vI pd, vI off, vI sel, vJ w1_, s2, vJ w2_, s2, vJ w3_, s2, vJ sc_, s2, .val (.int (b2i oM)), u0, u0, u0, u0, u0, u0, u0, u0, u0, u0, u0, u0, u0, u0, u0, u0, u0, u0, u0]) X0 hx (D at_28) rfl rfl (g_iload X0 hx (D at_30) rfl rfl (g_iconst (v := (2 : Int32)) X0 hx (D at_32) rfl rfl (g_iand X0 hx (D at_33) rfl (g_sel_if_eq (q := 42) X0 hx (D at_34) (by decide) (by decide) rfl (D at_41) (D at_37) (D at_38) rfl (by decide) (by decide) rfl ?_))))
  generalize decide ((sel &&& (2 : Int32)).toInt ≠ 0) = oF
  refine g_istore (L' := #[vI pa, vI pb, vI pd, vI off, vI sel, vJ w1_, s2, vJ w2_, s2, vJ w3_, s2, vJ sc_, s2, .val (.int (b2i oM)), .val (.int (b2i oF)), u0, u0, u0, u0, u0, u0, u0, u0, u0, u0, u0, u0, u0, u0, u0, u0, u0, u0]) X0 hx (D at_42) rfl rfl (g_iload X0 hx (D at_44) rfl rfl (g_iconst (v := (2 : Int32)) X0 hx (D at_46) rfl rfl (g_iushr X0 hx (D at_47) rfl (g_iconst (v := (3 : Int32)) X0 hx (D at_48) rfl rfl (g_irem X0 hx (D at_49) (by decide) rfl ?_)))))
  obtain ⟨rr, hr3⟩ := own_r3 sel
  rw [hr3]
  refine g_istore (L' := #[vI pa, vI pb, vI pd, vI off, vI sel, vJ w1_, s2, vJ w2_, s2, vJ w3_, s2, vJ sc_, s2, .val (.int (b2i oM)), .val (.int (b2i oF)), vI (tI rr 0 1 2), u0, u0, u0, u0, u0, u0, u0, u0, u0, u0, u0, u0, u0, u0, u0, u0, u0]) X0 hx (D at_50) rfl rfl (g_iload X0 hx (D at_52) rfl rfl (g_istore (L' := #[vI pa, vI pb, vI pd, vI off, vI sel, vJ w1_, s2, vJ w2_, s2, vJ w3_, s2, vJ sc_, s2, .val (.int (b2i oM)), .val (.int (b2i oF)), vI (tI rr 0 1 2), vI (tI rr 0 1 2), u0, u0, u0, u0, u0, u0, u0, u0, u0, u0, u0, u0, u0, u0, u0, u0]) X0 hx (D at_54) rfl rfl (g_iload X0 hx (D at_56) rfl rfl (g_iconst (v := (1 : Int32)) X0 hx (D at_58) rfl rfl (g_iadd X0 hx (D at_59) rfl ?_)))))
  rw [show ((tI rr 0 1 2) + (1 : Int32)) = (tI rr 1 2 3) from by apply trd3 rr; decide]
  refine g_iconst (v := (3 : Int32)) X0 hx (D at_60) rfl rfl (g_irem X0 hx (D at_61) (by decide) rfl ?_)
  rw [show ((tI rr 1 2 3) % (3 : Int32)) = (tI rr 1 2 0) from by apply trd3 rr; decide]
  refine g_istore (L' := #[vI pa, vI pb, vI pd, vI off, vI sel, vJ w1_, s2, vJ w2_, s2, vJ w3_, s2, vJ sc_, s2, .val (.int (b2i oM)), .val (.int (b2i oF)), vI (tI rr 0 1 2), vI (tI rr 0 1 2), vI (tI rr 1 2 0), u0, u0, u0, u0, u0, u0, u0, u0, u0, u0, u0, u0, u0, u0, u0]) X0 hx (D at_62) rfl rfl (g_iload X0 hx (D at_64) rfl rfl (g_iconst (v := (2 : Int32)) X0 hx (D at_66) rfl rfl (g_iadd X0 hx (D at_67) rfl ?_)))
  rw [show ((tI rr 0 1 2) + (2 : Int32)) = (tI rr 2 3 4) from by apply trd3 rr; decide]
  refine g_iconst (v := (3 : Int32)) X0 hx (D at_68) rfl rfl (g_irem X0 hx (D at_69) (by decide) rfl ?_)
  rw [show ((tI rr 2 3 4) % (3 : Int32)) = (tI rr 2 0 1) from by apply trd3 rr; decide]
  refine g_istore (L' := #[vI pa, vI pb, vI pd, vI off, vI sel, vJ w1_, s2, vJ w2_, s2, vJ w3_, s2, vJ sc_, s2, .val (.int (b2i oM)), .val (.int (b2i oF)), vI (tI rr 0 1 2), vI (tI rr 0 1 2), vI (tI rr 1 2 0), vI (tI rr 2 0 1), u0, u0, u0, u0, u0, u0, u0, u0, u0, u0, u0, u0, u0, u0]) X0 hx (D at_70) rfl rfl (g_iconst (v := (3 : Int32)) X0 hx (D at_72) rfl rfl (g_inew_ (n := 3) (cap := 3) X0 hx hZ (hW hw 0 rfl) e0 rfl (by decide) (by decide) (D at_73) rfl (by decide) (by decide) fun T1 h1 o1 X1 e1 E1 q1 A1 => ?_))
  replace A1 : IA Z h1 o1 ([0, 0, 0] : List Int32) := A1
  have g2 : n0 ≤ o1 := ge_new Z0 q1
  have Z3 := zE Z0 E1
  refine g_astore (L' := #[vI pa, vI pb, vI pd, vI off, vI sel, vJ w1_, s2, vJ w2_, s2, vJ w3_, s2, vJ sc_, s2, .val (.int (b2i oM)), .val (.int (b2i oF)), vI (tI rr 0 1 2), vI (tI rr 0 1 2), vI (tI rr 1 2 0), vI (tI rr 2 0 1), vR o1, u0, u0, u0, u0, u0, u0, u0, u0, u0, u0, u0, u0, u0]) X1 hx (D at_75) rfl rfl rfl (g_iconst (v := (3 : Int32)) X1 hx (D at_77) rfl rfl (g_inew_ (n := 3) (cap := 3) X1 hx hZ (hW hw 0 rfl) e1 rfl (by decide) (by decide) (D at_78) rfl (by decide) (by decide) fun T4 h4 o4 X4 e4 E4 q4 A4 => ?_))
  replace A4 : IA Z h4 o4 ([0, 0, 0] : List Int32) := A4
  have n5 : o1 ≠ o4 := ne_new A1.lt q4
  have g6 : n0 ≤ o4 := ge_new Z3 q4
  have F7 := ArrL.ext A1 E4
  have Z8 := zE Z3 E4
  refine g_astore (L' := #[vI pa, vI pb, vI pd, vI off, vI sel, vJ w1_, s2, vJ w2_, s2, vJ w3_, s2, vJ sc_, s2, .val (.int (b2i oM)), .val (.int (b2i oF)), vI (tI rr 0 1 2), vI (tI rr 0 1 2), vI (tI rr 1 2 0), vI (tI rr 2 0 1), vR o1, vR o4, u0, u0, u0, u0, u0, u0, u0, u0, u0, u0, u0, u0]) X4 hx (D at_80) rfl rfl rfl (g_iconst (v := (3 : Int32)) X4 hx (D at_82) rfl rfl (g_lnew_ (n := 3) (cap := 3) X4 hx hZ (hW hw 1 rfl) e4 rfl (by decide) (by decide) (D at_83) rfl (by decide) (by decide) fun T9 h9 o9 X9 e9 E9 q9 A9 => ?_))
  replace A9 : LA Z h9 o9 ([0, 0, 0] : List Int64) := A9
  have n10 : o1 ≠ o9 := ne_new F7.lt q9
  have n11 : o4 ≠ o9 := ne_new A4.lt q9
  have g12 : n0 ≤ o9 := ge_new Z8 q9
  have F13 := ArrL.ext F7 E9
  have F14 := ArrL.ext A4 E9
  have Z15 := zE Z8 E9
  refine g_astore (L' := #[vI pa, vI pb, vI pd, vI off, vI sel, vJ w1_, s2, vJ w2_, s2, vJ w3_, s2, vJ sc_, s2, .val (.int (b2i oM)), .val (.int (b2i oF)), vI (tI rr 0 1 2), vI (tI rr 0 1 2), vI (tI rr 1 2 0), vI (tI rr 2 0 1), vR o1, vR o4, vR o9, u0, u0, u0, u0, u0, u0, u0, u0, u0, u0, u0]) X9 hx (D at_85) rfl rfl rfl (g_aload X9 hx (D at_87) rfl rfl rfl (g_iconst (v := (0 : Int32)) X9 hx (D at_89) rfl rfl (g_iload X9 hx (D at_90) rfl rfl (g_istore_ (i := 0) (v := (tI rr 0 1 2)) X9 hx hZ e9 F13 rfl (by show 0 < 3; decide) (D at_92) rfl fun T16 h16 X16 e16 W16 A16 => ?_))))
  replace A16 : IA Z h16 o1 ([(tI rr 0 1 2), (0 : Int32), (0 : Int32)] : List Int32) := A16
  have F18 := ArrL.other F14 W16 (Ne.symm n5)
  have F19 := ArrL.other A9 W16 (Ne.symm n10)
  have N20 := Fr.snoc X16 N0 g2
  have Z21 := zW Z15 W16
  refine g_aload X16 hx (D at_93) rfl rfl rfl (g_iconst (v := (0 : Int32)) X16 hx (D at_95) rfl rfl (g_iload X16 hx (D at_96) rfl rfl (g_istore_ (i := 0) (v := (tI rr 1 2 0)) X16 hx hZ e16 F18 rfl (by show 0 < 3; decide) (D at_98) rfl fun T22 h22 X22 e22 W22 A22 => ?_)))
  replace A22 : IA Z h22 o4 ([(tI rr 1 2 0), (0 : Int32), (0 : Int32)] : List Int32) := A22
  have F23 := ArrL.other A16 W22 n5
  have F25 := ArrL.other F19 W22 (Ne.symm n11)
  have N26 := Fr.snoc X22 N20 g6
  have Z27 := zW Z21 W22
  refine g_aload X22 hx (D at_99) rfl rfl rfl (g_iconst (v := (0 : Int32)) X22 hx (D at_101) rfl rfl (g_lload X22 hx (D at_102) rfl rfl (g_lstore_ (i := 0) (v := w1_) X22 hx hZ e22 F25 rfl (by show 0 < 3; decide) (D at_104) rfl fun T28 h28 X28 e28 W28 A28 => ?_)))
  replace A28 : LA Z h28 o9 ([w1_, (0 : Int64), (0 : Int64)] : List Int64) := A28
  have F29 := ArrL.other F23 W28 n10
  have F30 := ArrL.other A22 W28 n11
  have N32 := Fr.snoc X28 N26 g12
  have Z33 := zW Z27 W28
  refine g_aload X28 hx (D at_105) rfl rfl rfl (g_iconst (v := (1 : Int32)) X28 hx (D at_107) rfl rfl (g_iload X28 hx (D at_108) rfl rfl (g_istore_ (i := 1) (v := (tI rr 1 2 0)) X28 hx hZ e28 F29 rfl (by show 1 < 3; decide) (D at_110) rfl fun T34 h34 X34 e34 W34 A34 => ?_)))
  replace A34 : IA Z h34 o1 ([(tI rr 0 1 2), (tI rr 1 2 0), (0 : Int32)] : List Int32) := A34
  have F36 := ArrL.other F30 W34 (Ne.symm n5)
  have F37 := ArrL.other A28 W34 (Ne.symm n10)
  have N38 := Fr.snoc X34 N32 g2
  have Z39 := zW Z33 W34
  refine g_aload X34 hx (D at_111) rfl rfl rfl (g_iconst (v := (1 : Int32)) X34 hx (D at_113) rfl rfl (g_iload X34 hx (D at_114) rfl rfl (g_istore_ (i := 1) (v := (tI rr 2 0 1)) X34 hx hZ e34 F36 rfl (by show 1 < 3; decide) (D at_116) rfl fun T40 h40 X40 e40 W40 A40 => ?_)))
  replace A40 : IA Z h40 o4 ([(tI rr 1 2 0), (tI rr 2 0 1), (0 : Int32)] : List Int32) := A40
  have F41 := ArrL.other A34 W40 n5
  have F43 := ArrL.other F37 W40 (Ne.symm n11)
  have N44 := Fr.snoc X40 N38 g6
  have Z45 := zW Z39 W40
  refine g_aload X40 hx (D at_117) rfl rfl rfl (g_iconst (v := (1 : Int32)) X40 hx (D at_119) rfl rfl (g_lload X40 hx (D at_120) rfl rfl (g_lstore_ (i := 1) (v := w2_) X40 hx hZ e40 F43 rfl (by show 1 < 3; decide) (D at_122) rfl fun T46 h46 X46 e46 W46 A46 => ?_)))
  replace A46 : LA Z h46 o9 ([w1_, w2_, (0 : Int64)] : List Int64) := A46
  have F47 := ArrL.other F41 W46 n10
  have F48 := ArrL.other A40 W46 n11
  have N50 := Fr.snoc X46 N44 g12
  have Z51 := zW Z45 W46
  refine g_aload X46 hx (D at_123) rfl rfl rfl (g_iconst (v := (2 : Int32)) X46 hx (D at_125) rfl rfl (g_iload X46 hx (D at_126) rfl rfl (g_istore_ (i := 2) (v := (tI rr 0 1 2)) X46 hx hZ e46 F47 rfl (by show 2 < 3; decide) (D at_128) rfl fun T52 h52 X52 e52 W52 A52 => ?_)))
  replace A52 : IA Z h52 o1 ([(tI rr 0 1 2), (tI rr 1 2 0), (tI rr 0 1 2)] : List Int32) := A52
  have F54 := ArrL.other F48 W52 (Ne.symm n5)
  have F55 := ArrL.other A46 W52 (Ne.symm n10)
  have N56 := Fr.snoc X52 N50 g2
  have Z57 := zW Z51 W52
  refine g_aload X52 hx (D at_129) rfl rfl rfl (g_iconst (v := (2 : Int32)) X52 hx (D at_131) rfl rfl (g_iload X52 hx (D at_132) rfl rfl (g_istore_ (i := 2) (v := (tI rr 2 0 1)) X52 hx hZ e52 F54 rfl (by show 2 < 3; decide) (D at_134) rfl fun T58 h58 X58 e58 W58 A58 => ?_)))
  replace A58 : IA Z h58 o4 ([(tI rr 1 2 0), (tI rr 2 0 1), (tI rr 2 0 1)] : List Int32) := A58
  have F59 := ArrL.other A52 W58 n5
  have F61 := ArrL.other F55 W58 (Ne.symm n11)
  have N62 := Fr.snoc X58 N56 g6
  have Z63 := zW Z57 W58
  refine g_aload X58 hx (D at_135) rfl rfl rfl (g_iconst (v := (2 : Int32)) X58 hx (D at_137) rfl rfl (g_lload X58 hx (D at_138) rfl rfl (g_lstore_ (i := 2) (v := w3_) X58 hx hZ e58 F61 rfl (by show 2 < 3; decide) (D at_140) rfl fun T64 h64 X64 e64 W64 A64 => ?_)))
  replace A64 : LA Z h64 o9 ([w1_, w2_, w3_] : List Int64) := A64
  have F65 := ArrL.other F59 W64 n10
  have F66 := ArrL.other A58 W64 n11
  have N68 := Fr.snoc X64 N62 g12
  have Z69 := zW Z63 W64
  refine g_iconst (v := (3 : Int32)) X64 hx (D at_141) rfl rfl (g_lnew_ (n := 3) (cap := 3) X64 hx hZ (hW hw 1 rfl) e64 rfl (by decide) (by decide) (D at_142) rfl (by decide) (by decide) fun T70 h70 o70 X70 e70 E70 q70 A70 => ?_)
  replace A70 : LA Z h70 o70 ([0, 0, 0] : List Int64) := A70
  have n71 : o1 ≠ o70 := ne_new F65.lt q70
  have n72 : o4 ≠ o70 := ne_new F66.lt q70
  have n73 : o9 ≠ o70 := ne_new A64.lt q70
  have g74 : n0 ≤ o70 := ge_new Z69 q70
  have F75 := ArrL.ext F65 E70
  have F76 := ArrL.ext F66 E70
  have F77 := ArrL.ext A64 E70
  have Z78 := zE Z69 E70
  refine g_astore (L' := #[vI pa, vI pb, vI pd, vI off, vI sel, vJ w1_, s2, vJ w2_, s2, vJ w3_, s2, vJ sc_, s2, .val (.int (b2i oM)), .val (.int (b2i oF)), vI (tI rr 0 1 2), vI (tI rr 0 1 2), vI (tI rr 1 2 0), vI (tI rr 2 0 1), vR o1, vR o4, vR o9, vR o70, u0, u0, u0, u0, u0, u0, u0, u0, u0, u0]) X70 hx (D at_144) rfl rfl rfl (g_aload X70 hx (D at_146) rfl rfl rfl (g_iload X70 hx (D at_148) rfl rfl (g_lload X70 hx (D at_150) rfl rfl (g_lstore_ (i := (tN rr 2 0 1)) (v := sc_) X70 hx hZ e70 A70 (by apply tri3 rr <;> rfl) (show (tN rr 2 0 1) < 3 from by apply trd3 rr; decide) (D at_152) rfl fun T79 h79 X79 e79 W79 A79 => ?_))))
  replace A79 : LA Z h79 o70 ([(tJ rr 0 sc_ 0), (tJ rr 0 0 sc_), (tJ rr sc_ 0 0)] : List Int64) := LA.eq A79 (by apply tri3 rr <;> rfl)
  have F80 := ArrL.other F75 W79 n71
  have F81 := ArrL.other F76 W79 n72
  have F82 := ArrL.other F77 W79 n73
  have N84 := Fr.snoc X79 N68 g74
  have Z85 := zW Z78 W79
  refine g_aload X79 hx (D at_153) rfl rfl rfl (g_iload X79 hx (D at_155) rfl rfl (g_lload X79 hx (D at_157) rfl rfl (g_lload X79 hx (D at_159) rfl rfl (g_ladd X79 hx (D at_161) rfl (g_lstore_ (i := (tN rr 1 2 0)) (v := (sc_ + w2_)) X79 hx hZ e79 A79 (by apply tri3 rr <;> rfl) (show (tN rr 1 2 0) < 3 from by apply trd3 rr; decide) (D at_162) rfl fun T86 h86 X86 e86 W86 A86 => ?_)))))
  replace A86 : LA Z h86 o70 ([(tJ rr 0 sc_ (sc_ + w2_)), (tJ rr (sc_ + w2_) 0 sc_), (tJ rr sc_ (sc_ + w2_) 0)] : List Int64) := LA.eq A86 (by apply tri3 rr <;> rfl)
  have F87 := ArrL.other F80 W86 n71
  have F88 := ArrL.other F81 W86 n72
  have F89 := ArrL.other F82 W86 n73
  have N91 := Fr.snoc X86 N84 g74
  have Z92 := zW Z85 W86
  refine g_aload X86 hx (D at_163) rfl rfl rfl (g_iload X86 hx (D at_165) rfl rfl (g_lload X86 hx (D at_167) rfl rfl (g_lload X86 hx (D at_169) rfl rfl (g_lload X86 hx (D at_171) rfl rfl (g_ladd X86 hx (D at_173) rfl (g_lload X86 hx (D at_174) rfl rfl (g_callSJ X86 hx hZ hown (hW hw 2 rfl) (hW hw 3 rfl) (hW hw 4 rfl) (hW hw 5 rfl) (by decide) (rm1 l Z a0 hw [] (w2_ + w1_) w3_ h86 n0 Z92) (argsL := [.long (w2_ + w1_), .long w3_]) (rest := [.long sc_, .int (tI rr 0 1 2), .ref o70]) pd_11 rfl rfl rfl (D at_176) rfl (by rw [hml]; rfl) e86 (by decide) (W := 4) rfl (by decide) rfl rfl (by decide) (by decide) fun T93 r94 X93 e93 hr94 => (g_ladd X93 hx (D at_179) rfl (g_lstore_ (i := (tN rr 0 1 2)) (v := (sc_ + r94)) X93 hx hZ e93 A86 (by apply tri3 rr <;> rfl) (show (tN rr 0 1 2) < 3 from by apply trd3 rr; decide) (D at_180) rfl fun T95 h95 X95 e95 W95 A95 => ?_)))))))))
  replace A95 : LA Z h95 o70 ([(tJ rr (sc_ + r94) sc_ (sc_ + w2_)), (tJ rr (sc_ + w2_) (sc_ + r94) sc_), (tJ rr sc_ (sc_ + w2_) (sc_ + r94))] : List Int64) := LA.eq A95 (by apply tri3 rr <;> rfl)
  have F96 := ArrL.other F87 W95 n71
  have F97 := ArrL.other F88 W95 n72
  have F98 := ArrL.other F89 W95 n73
  have N100 := Fr.snoc X95 N91 g74
  have Z101 := zW Z92 W95
  refine g_iconst (v := (3 : Int32)) X95 hx (D at_181) rfl rfl (g_znew_ (n := 3) (cap := 3) X95 hx hZ (hW hw 6 rfl) e95 rfl (by decide) (by decide) (D at_182) rfl (by decide) (by decide) fun T102 h102 o102 X102 e102 E102 q102 A102 => ?_)
  replace A102 : ZA Z h102 o102 ([false, false, false] : List Bool) := A102
  have n103 : o1 ≠ o102 := ne_new F96.lt q102
  have n104 : o4 ≠ o102 := ne_new F97.lt q102
  have n105 : o9 ≠ o102 := ne_new F98.lt q102
  have n106 : o70 ≠ o102 := ne_new A95.lt q102
  have g107 : n0 ≤ o102 := ge_new Z101 q102
  have F108 := ArrL.ext F96 E102
  have F109 := ArrL.ext F97 E102
  have F110 := ArrL.ext F98 E102
  have F111 := ArrL.ext A95 E102
  have Z112 := zE Z101 E102
  refine g_astore (L' := #[vI pa, vI pb, vI pd, vI off, vI sel, vJ w1_, s2, vJ w2_, s2, vJ w3_, s2, vJ sc_, s2, .val (.int (b2i oM)), .val (.int (b2i oF)), vI (tI rr 0 1 2), vI (tI rr 0 1 2), vI (tI rr 1 2 0), vI (tI rr 2 0 1), vR o1, vR o4, vR o9, vR o70, vR o102, u0, u0, u0, u0, u0, u0, u0, u0, u0]) X102 hx (D at_184) rfl rfl rfl (g_aload X102 hx (D at_186) rfl rfl rfl (g_iload X102 hx (D at_188) rfl rfl (g_iload X102 hx (D at_190) rfl rfl (g_zstore_ (i := (tN rr 1 2 0)) (v := oM) X102 hx hZ e102 A102 (by apply tri3 rr <;> rfl) (show (tN rr 1 2 0) < 3 from by apply trd3 rr; decide) (D at_192) rfl fun T113 h113 X113 e113 W113 A113 => ?_))))
  replace A113 : ZA Z h113 o102 ([(tZ rr false false oM), (tZ rr oM false false), (tZ rr false oM false)] : List Bool) := ZA.eq A113 (by apply tri3 rr <;> rfl)
  have F114 := ArrL.other F108 W113 n103
  have F115 := ArrL.other F109 W113 n104
  have F116 := ArrL.other F110 W113 n105
  have F117 := ArrL.other F111 W113 n106
  have N119 := Fr.snoc X113 N100 g107
  have Z120 := zW Z112 W113
  refine g_aload X113 hx (D at_193) rfl rfl rfl (g_iload X113 hx (D at_195) rfl rfl (g_iload X113 hx (D at_197) rfl rfl (g_zstore_ (i := (tN rr 2 0 1)) (v := oF) X113 hx hZ e113 A113 (by apply tri3 rr <;> rfl) (show (tN rr 2 0 1) < 3 from by apply trd3 rr; decide) (D at_199) rfl fun T121 h121 X121 e121 W121 A121 => ?_)))
  replace A121 : ZA Z h121 o102 ([(tZ rr false oF oM), (tZ rr oM false oF), (tZ rr oF oM false)] : List Bool) := ZA.eq A121 (by apply tri3 rr <;> rfl)
  have F122 := ArrL.other F114 W121 n103
  have F123 := ArrL.other F115 W121 n104
  have F124 := ArrL.other F116 W121 n105
  have F125 := ArrL.other F117 W121 n106
  have N127 := Fr.snoc X121 N119 g107
  have Z128 := zW Z120 W121
  refine g_newO X121 hx hZ hown (hW hw 7 rfl) (hW hw 8 rfl) (hW hw 9 rfl) e121 (D at_200) rfl (by decide) (by decide) fun T129 h129 o129 X129 e129 E129 q129 A129 D129 => ?_
  have n130 : o1 ≠ o129 := ne_new F122.lt q129
  have n131 : o4 ≠ o129 := ne_new F123.lt q129
  have n132 : o9 ≠ o129 := ne_new F124.lt q129
  have n133 : o70 ≠ o129 := ne_new F125.lt q129
  have n134 : o102 ≠ o129 := ne_new A121.lt q129
  have g135 : n0 ≤ o129 := ge_new Z128 q129
  have F136 := ArrL.ext F122 E129
  have F137 := ArrL.ext F123 E129
  have F138 := ArrL.ext F124 E129
  have F139 := ArrL.ext F125 E129
  have F140 := ArrL.ext A121 E129
  have Z141 := zE Z128 E129
  have F142 : Fld Z h129 o129 kA "starts" "[I" (.null) := D129 (Or.inr (hW hw 17 rfl)) (ty := (.array .int)) (by decide)
  have F143 : Fld Z h129 o129 kA "nodes" "[I" (.null) := D129 (Or.inr (hW hw 30 rfl)) (ty := (.array .int)) (by decide)
  have F144 : Fld Z h129 o129 kA "weights" "[J" (.null) := D129 (Or.inr (hW hw 32 rfl)) (ty := (.array .long)) (by decide)
  refine g_dup X129 hx (D at_203) rfl rfl (g_iconst (v := (3 : Int32)) X129 hx (D at_204) rfl rfl (g_aload X129 hx (D at_205) rfl rfl rfl (g_aload X129 hx (D at_207) rfl rfl rfl (g_aload X129 hx (D at_209) rfl rfl rfl (g_special X129 hx hZ rfl hown (hW hw 10 rfl) (hW hw 11 rfl) (hW hw 9 rfl) (hW hw 12 rfl) (by decide) (rm2 l Z a0 hw [] o129 o1 o4 o9 h129 n0 Z141 rr F142 F143 F144 A129 g135 w1_ w2_ w3_ F136 F137 F138 (Ne.symm n130) (Ne.symm n131) (Ne.symm n132)) (argsL := [.int 3, .ref o1, .ref o4, .ref o9]) (rest := [.ref o129]) pd_12 rfl rfl rfl (D at_211) rfl (by rw [hml]; rfl) e129 (by decide) (W := 1) rfl (by decide) (by decide) (by decide) fun v145 T145 Lc145 X145 Q145 => ?_)))))
  obtain ⟨rfl, Nq145, Kq145, o146, o147, o148, g149, g150, g151, F152, F153, F154, A155, A156, A157⟩ := Q145
  have N158 := Fr.app N127 Nq145
  have F159 := ArrL.keep F136 Kq145 (ninS n130 nin0)
  have F160 := ArrL.keep F137 Kq145 (ninS n131 nin0)
  have F161 := ArrL.keep F138 Kq145 (ninS n132 nin0)
  have F162 := ArrL.keep F139 Kq145 (ninS n133 nin0)
  have F163 := ArrL.keep F140 Kq145 (ninS n134 nin0)
  have F164 := Exa.keep A129 Kq145
  have Z165 := zK Z141 Kq145
  have n166 : o1 ≠ o146 := ne_ge F136.lt g149
  have n167 : o4 ≠ o146 := ne_ge F137.lt g149
  have n168 : o9 ≠ o146 := ne_ge F138.lt g149
  have n169 : o70 ≠ o146 := ne_ge F139.lt g149
  have n170 : o102 ≠ o146 := ne_ge F140.lt g149
  have n171 : o129 ≠ o146 := ne_ge F144.lt g149
  have g172 : n0 ≤ o146 := Nat.le_trans Z141 g149
  have n173 : o1 ≠ o147 := ne_ge F136.lt g150
  have n174 : o4 ≠ o147 := ne_ge F137.lt g150
  have n175 : o9 ≠ o147 := ne_ge F138.lt g150
  have n176 : o70 ≠ o147 := ne_ge F139.lt g150
  have n177 : o102 ≠ o147 := ne_ge F140.lt g150
  have n178 : o129 ≠ o147 := ne_ge F144.lt g150
  have g179 : n0 ≤ o147 := Nat.le_trans Z141 g150
  have n180 : o1 ≠ o148 := ne_ge F136.lt g151
  have n181 : o4 ≠ o148 := ne_ge F137.lt g151
  have n182 : o9 ≠ o148 := ne_ge F138.lt g151
  have n183 : o70 ≠ o148 := ne_ge F139.lt g151
  have n184 : o102 ≠ o148 := ne_ge F140.lt g151
  have n185 : o129 ≠ o148 := ne_ge F144.lt g151
  have g186 : n0 ≤ o148 := Nat.le_trans Z141 g151
  refine g_astore (L' := #[vI pa, vI pb, vI pd, vI off, vI sel, vJ w1_, s2, vJ w2_, s2, vJ w3_, s2, vJ sc_, s2, .val (.int (b2i oM)), .val (.int (b2i oF)), vI (tI rr 0 1 2), vI (tI rr 0 1 2), vI (tI rr 1 2 0), vI (tI rr 2 0 1), vR o1, vR o4, vR o9, vR o70, vR o102, vR o129, u0, u0, u0, u0, u0, u0, u0, u0]) X145 hx (D at_214) rfl rfl rfl (g_newO X145 hx hZ hown (hW hw 33 rfl) (hW hw 34 rfl) (hW hw 35 rfl) rfl (D at_216) rfl (by decide) (by decide) fun T187 h187 o187 X187 e187 E187 q187 A187 D187 => ?_)
  have n188 : o70 ≠ o187 := ne_new F162.lt q187
  have n189 : o102 ≠ o187 := ne_new F163.lt q187
  have n190 : o129 ≠ o187 := ne_new F164.lt q187
  have n191 : o146 ≠ o187 := ne_new A155.lt q187
  have n192 : o147 ≠ o187 := ne_new A156.lt q187
  have n193 : o148 ≠ o187 := ne_new A157.lt q187
  have g194 : n0 ≤ o187 := ge_new Z165 q187
  have F195 := ArrL.ext F162 E187
  have F196 := ArrL.ext F163 E187
  have F197 := Exa.ext E187 F164
  have F198 := Fld.ext E187 F152
  have F199 := Fld.ext E187 F153
  have F200 := Fld.ext E187 F154
  have F201 := ArrL.ext A155 E187
  have F202 := ArrL.ext A156 E187
  have F203 := ArrL.ext A157 E187
  have Z204 := zE Z165 E187
  have F205 : Fld Z h187 o187 kV "into" "Lcom/example/hedged_dispatch/hedgeddispatch/stn/Adjacency;" (.null) := D187 (Or.inr (hW hw 41 rfl)) (ty := (.object kA)) (by decide)
  have F206 : Fld Z h187 o187 kV "solution" "[J" (.null) := D187 (Or.inr (hW hw 43 rfl)) (ty := (.array .long)) (by decide)
  have F207 : Fld Z h187 o187 kV "key" "[J" (.null) := D187 (Or.inr (hW hw 50 rfl)) (ty := (.array .long)) (by decide)
  have F208 : Fld Z h187 o187 kV "reached" "[I" (.null) := D187 (Or.inr (hW hw 52 rfl)) (ty := (.array .int)) (by decide)
  have F209 : Fld Z h187 o187 kV "queue" "Lcom/example/hedged_dispatch/hedgeddispatch/stn/NodeQueue;" (.null) := D187 (Or.inr (hW hw 70 rfl)) (ty := (.object kQ)) (by decide)
  have F210 : Fld Z h187 o187 kV "reachedCount" "I" (.int 0) := D187 (Or.inl (hW hw 81 rfl)) (ty := .int) (by decide)
  have F211 : Fld Z h187 o187 kV "target" "I" (.int 0) := D187 (Or.inl (hW hw 83 rfl)) (ty := .int) (by decide)
  refine g_dup X187 hx (D at_219) rfl rfl (g_aload X187 hx (D at_220) rfl rfl rfl (g_aload X187 hx (D at_222) rfl rfl rfl (g_special X187 hx hZ rfl hown (hW hw 36 rfl) (hW hw 37 rfl) (hW hw 35 rfl) (hW hw 38 rfl) (by decide) (rm6 l Z a0 hw [] o187 o129 o70 h187 n0 Z204 F205 F206 F207 F208 F209 F210 F211 A187 g194 o146 (0 : Int32) (tI rr 2 0 1) (tI rr 3 2 1) (3 : Int32) F197 F198 F201 (Ne.symm n190) (Ne.symm n191)) (argsL := [.ref o129, .ref o70]) (rest := [.ref o187]) pd_13 rfl rfl rfl (D at_224) rfl (by rw [hml]; rfl) e187 (by decide) (W := 1) rfl (by decide) (by decide) (by decide) fun v212 T212 Lc212 X212 Q212 => ?_)))
  obtain ⟨rfl, Nq212, Kq212, o213, o214, o215, o216, o217, o218, g219, g220, g221, g222, g223, g224, n225, n226, n227, n228, n229, n230, n231, n232, n233, n234, n235, n236, n237, n238, n239, F240, F241, F242, F243, F244, F245, F246, E247, F248, F249, F250, F251, A252, A253, A254, A255, A256⟩ := Q212
  have N257 := Fr.app N158 Nq212
  have F258 := ArrL.keep F195 Kq212 (ninS n188 nin0)
  have F259 := ArrL.keep F196 Kq212 (ninS n189 nin0)
  have F260 := Exa.keep F197 Kq212
  have F261 := Fld.keep F198 Kq212 (ninS n190 nin0)
  have F262 := Fld.keep F199 Kq212 (ninS n190 nin0)
  have F263 := Fld.keep F200 Kq212 (ninS n190 nin0)
  have F264 := ArrL.keep F201 Kq212 (ninS n191 nin0)
  have F265 := ArrL.keep F202 Kq212 (ninS n192 nin0)
  have F266 := ArrL.keep F203 Kq212 (ninS n193 nin0)
  have F267 := Exa.keep A187 Kq212
  have Z268 := zK Z204 Kq212
  have n269 : o70 ≠ o213 := ne_ge F195.lt g219
  have n270 : o102 ≠ o213 := ne_ge F196.lt g219
  have n271 : o129 ≠ o213 := ne_ge F200.lt g219
  have n272 : o146 ≠ o213 := ne_ge F201.lt g219
  have n273 : o147 ≠ o213 := ne_ge F202.lt g219
  have n274 : o148 ≠ o213 := ne_ge F203.lt g219
  have n275 : o187 ≠ o213 := ne_ge F211.lt g219
  have g276 : n0 ≤ o213 := Nat.le_trans Z204 g219
  have n277 : o70 ≠ o214 := ne_ge F195.lt g220
  have n278 : o102 ≠ o214 := ne_ge F196.lt g220
  have n279 : o129 ≠ o214 := ne_ge F200.lt g220
  have n280 : o146 ≠ o214 := ne_ge F201.lt g220
  have n281 : o147 ≠ o214 := ne_ge F202.lt g220
  have n282 : o148 ≠ o214 := ne_ge F203.lt g220
  have n283 : o187 ≠ o214 := ne_ge F211.lt g220
  have g284 : n0 ≤ o214 := Nat.le_trans Z204 g220
  have n285 : o70 ≠ o215 := ne_ge F195.lt g221
  have n286 : o102 ≠ o215 := ne_ge F196.lt g221
  have n287 : o129 ≠ o215 := ne_ge F200.lt g221
  have n288 : o146 ≠ o215 := ne_ge F201.lt g221
  have n289 : o147 ≠ o215 := ne_ge F202.lt g221
  have n290 : o148 ≠ o215 := ne_ge F203.lt g221
  have n291 : o187 ≠ o215 := ne_ge F211.lt g221
  have g292 : n0 ≤ o215 := Nat.le_trans Z204 g221
  have n293 : o70 ≠ o216 := ne_ge F195.lt g222
  have n294 : o102 ≠ o216 := ne_ge F196.lt g222
  have n295 : o129 ≠ o216 := ne_ge F200.lt g222
  have n296 : o146 ≠ o216 := ne_ge F201.lt g222
  have n297 : o147 ≠ o216 := ne_ge F202.lt g222
  have n298 : o148 ≠ o216 := ne_ge F203.lt g222
  have n299 : o187 ≠ o216 := ne_ge F211.lt g222
  have g300 : n0 ≤ o216 := Nat.le_trans Z204 g222
  have n301 : o70 ≠ o217 := ne_ge F195.lt g223
  have n302 : o102 ≠ o217 := ne_ge F196.lt g223
  have n303 : o129 ≠ o217 := ne_ge F200.lt g223
  have n304 : o146 ≠ o217 := ne_ge F201.lt g223
  have n305 : o147 ≠ o217 := ne_ge F202.lt g223
  have n306 : o148 ≠ o217 := ne_ge F203.lt g223
  have n307 : o187 ≠ o217 := ne_ge F211.lt g223
  have g308 : n0 ≤ o217 := Nat.le_trans Z204 g223
  have n309 : o70 ≠ o218 := ne_ge F195.lt g224
  have n310 : o102 ≠ o218 := ne_ge F196.lt g224
  have n311 : o129 ≠ o218 := ne_ge F200.lt g224
  have n312 : o146 ≠ o218 := ne_ge F201.lt g224
  have n313 : o147 ≠ o218 := ne_ge F202.lt g224
  have n314 : o148 ≠ o218 := ne_ge F203.lt g224
  have n315 : o187 ≠ o218 := ne_ge F211.lt g224
  have g316 : n0 ≤ o218 := Nat.le_trans Z204 g224
  refine g_astore (L' := #[vI pa, vI pb, vI pd, vI off, vI sel, vJ w1_, s2, vJ w2_, s2, vJ w3_, s2, vJ sc_, s2, .val (.int (b2i oM)), .val (.int (b2i oF)), vI (tI rr 0 1 2), vI (tI rr 0 1 2), vI (tI rr 1 2 0), vI (tI rr 2 0 1), vR o1, vR o4, vR o9, vR o70, vR o102, vR o129, vR o187, u0, u0, u0, u0, u0, u0, u0]) X212 hx (D at_227) rfl rfl rfl ?_
  obtain ⟨dd, l1, l3, hD, hLL, hL1, hL3⟩ := own_D b1_ b2_ b3_ b4_ hr94
  obtain ⟨p0_, csF, hr0, hrun, hfin⟩ := own_okx (own_okr rr (decide (w1_.toInt < (0 : Int))) (decide (w2_.toInt < (0 : Int))) (decide (w3_.toInt < (0 : Int))) oM oF hLL)
  rw [show 2 * tN rr 0 1 2 = tN rr 0 2 4 from by apply trd3 rr; decide] at hr0
  refine g_aload X212 hx (D at_229) rfl rfl rfl (g_iload X212 hx (D at_231) rfl rfl (g_aload X212 hx (D at_233) rfl rfl rfl (g_virtual X212 hx hZ hown (hW hw 75 rfl) (hW hw 76 rfl) (hW hw 78 rfl) (hW hw 77 rfl) (hW hw 35 rfl) (hW hw 79 rfl) (by decide) (rm11 l Z a0 hw [] o187 o102 T212.heap n0 Z268 rr o213 o214 o215 o216 o217 o218 o129 o146 o147 o148 o70 w1_ w2_ w3_ (sc_ + r94) (sc_ + w2_) sc_ dd _ _ _ oM oF l1 l3 p0_ csF F267 E247 F260 F240 F241 F242 F243 F244 F245 F246 F248 F249 F250 F251 F261 F262 F263 A252 A253 A254 A255 A256 F264 F265 F266 F258 F259 n275 n283 n291 n299 n307 n315 n225 n226 n227 n228 n229 n230 n231 n232 n233 n234 n235 n236 n237 n238 n239 (Ne.symm n190) (Ne.symm n191) (Ne.symm n192) (Ne.symm n193) (Ne.symm n188) (Ne.symm n189) (Ne.symm n271) (Ne.symm n272) (Ne.symm n273) (Ne.symm n274) (Ne.symm n269) (Ne.symm n270) (Ne.symm n279) (Ne.symm n280) (Ne.symm n281) (Ne.symm n282) (Ne.symm n277) (Ne.symm n278) (Ne.symm n287) (Ne.symm n288) (Ne.symm n289) (Ne.symm n290) (Ne.symm n285) (Ne.symm n286) (Ne.symm n295) (Ne.symm n296) (Ne.symm n297) (Ne.symm n298) (Ne.symm n293) (Ne.symm n294) (Ne.symm n303) (Ne.symm n304) (Ne.symm n305) (Ne.symm n306) (Ne.symm n301) (Ne.symm n302) (Ne.symm n311) (Ne.symm n312) (Ne.symm n313) (Ne.symm n314) (Ne.symm n309) (Ne.symm n310) g194 g276 g284 g292 g300 g308 g316 hD hLL hL1 own_hL2 hL3 rfl rfl rfl hr0 hrun) F267 (argsL := [.int (tI rr 0 1 2), .ref o102]) (rest := []) pd_14 rfl rfl rfl (D at_235) rfl (by rw [hml]; rfl) rfl (by decide) (W := 0) rfl (by decide) (by decide) (by decide) fun v317 T317 Lc317 X317 Q317 => ?_)))
  obtain ⟨rfl, Nq317, Kq317, F318, F319, F320, A321, C322⟩ := Q317
  have N323 := Fr.app N257 Nq317
  have q325 : o70 ∉ [o187, o213, o214, o215, o216, o217, o218] := (ninS n188 (ninS n269 (ninS n277 (ninS n285 (ninS n293 (ninS n301 (ninS n309 nin0)))))))
  have F324 := ArrL.keep F258 Kq317 q325
  have q327 : o102 ∉ [o187, o213, o214, o215, o216, o217, o218] := (ninS n189 (ninS n270 (ninS n278 (ninS n286 (ninS n294 (ninS n302 (ninS n310 nin0)))))))
  have F326 := ArrL.keep F259 Kq317 q327
  have F328 := Exa.keep F260 Kq317
  have q330 : o129 ∉ [o187, o213, o214, o215, o216, o217, o218] := (ninS n190 (ninS n271 (ninS n279 (ninS n287 (ninS n295 (ninS n303 (ninS n311 nin0)))))))
  have F329 := Fld.keep F261 Kq317 q330
  have F331 := Fld.keep F262 Kq317 q330
  have F332 := Fld.keep F263 Kq317 q330
  have q334 : o146 ∉ [o187, o213, o214, o215, o216, o217, o218] := (ninS n191 (ninS n272 (ninS n280 (ninS n288 (ninS n296 (ninS n304 (ninS n312 nin0)))))))
  have F333 := ArrL.keep F264 Kq317 q334
  have q336 : o147 ∉ [o187, o213, o214, o215, o216, o217, o218] := (ninS n192 (ninS n273 (ninS n281 (ninS n289 (ninS n297 (ninS n305 (ninS n313 nin0)))))))
  have F335 := ArrL.keep F265 Kq317 q336
  have q338 : o148 ∉ [o187, o213, o214, o215, o216, o217, o218] := (ninS n193 (ninS n274 (ninS n282 (ninS n290 (ninS n298 (ninS n306 (ninS n314 nin0)))))))
  have F337 := ArrL.keep F266 Kq317 q338
  have F339 := Exa.keep F267 Kq317
  have F340 := Exa.keep E247 Kq317
  have Z346 := zK Z268 Kq317
  refine g_lconst0 X317 hx (D at_238) rfl (g_lstore (L' := #[vI pa, vI pb, vI pd, vI off, vI sel, vJ w1_, s2, vJ w2_, s2, vJ w3_, s2, vJ sc_, s2, .val (.int (b2i oM)), .val (.int (b2i oF)), vI (tI rr 0 1 2), vI (tI rr 0 1 2), vI (tI rr 1 2 0), vI (tI rr 2 0 1), vR o1, vR o4, vR o9, vR o70, vR o102, vR o129, vR o187, vJ 0, s2, u0, u0, u0, u0, u0]) X317 hx (D at_239) rfl rfl ?_)
  have LP313_b347 : ∀ (Tb347 : State) (xM : Int64) (xF : Int64) (s32_ : Slot) (Xb347 : Stand p l e room_1 s m #[.int pa, .int pb, .int pd, .int off, .int sel] below meth c Tb347 ([] ++ [⟨o1, 0⟩] ++ [⟨o4, 0⟩] ++ [⟨o9, 0⟩] ++ [⟨o1, 1⟩] ++ [⟨o4, 1⟩] ++ [⟨o9, 1⟩] ++ [⟨o1, 2⟩] ++ [⟨o4, 2⟩] ++ [⟨o9, 2⟩] ++ [⟨o70, (tN rr 2 0 1)⟩] ++ [⟨o70, (tN rr 1 2 0)⟩] ++ [⟨o70, (tN rr 0 1 2)⟩] ++ [⟨o102, (tN rr 1 2 0)⟩] ++ [⟨o102, (tN rr 2 0 1)⟩] ++ Lc145 ++ Lc212 ++ Lc317) (0 + 1 + 1 + 1 + 1 + 1 + 1 + RM_rm2.cells + 1 + RM_rm6.cells + RM_rm11.cells) (0 + 3 + 3 + 3 + 3 + 3 + 3 + RM_rm2.slots + 7 + RM_rm6.slots + RM_rm11.slots)) (eb347 : Tb347.heap = T317.heap) (o32_ : One s32_) (_xM : lenF (fk dd (csF.getD (2 * (tN rr 1 2 0) + 1) 0)) (sc_ + w2_) (sc_ + r94) = xM) (_xF : lenF (fk dd (csF.getD (2 * (tN rr 2 0 1) + 1) 0)) sc_ (sc_ + r94) = xF), Go p e below (Fin0 s room_1 (fun v h L => v = some (.int 1) ∧ Fr n0 L)) (Tb347.setTop (mkF m 313 #[vI pa, vI pb, vI pd, vI off, vI sel, vJ w1_, s2, vJ w2_, s2, vJ w3_, s2, vJ sc_, s2, .val (.int (b2i oM)), .val (.int (b2i oF)), vI (tI rr 0 1 2), vI (tI rr 0 1 2), vI (tI rr 1 2 0), vI (tI rr 2 0 1), vR o1, vR o4, vR o9, vR o70, vR o102, vR o129, vR o187, vJ 0, s2, vJ xM, s2, vJ xF, s2, s32_] [])) := by
   intro Tb347 xM xF s32_ Xb347 eb347 o32_ _xM _xF
   refine g_aload Xb347 hx (D at_313) rfl rfl rfl (g_iload Xb347 hx (D at_315) rfl rfl (g_virtualP Xb347 hx hZ hown (hW hw 143 rfl) (hW hw 144 rfl) (hW hw 146 rfl) (hW hw 145 rfl) (hW hw 35 rfl) (hW hw 147 rfl) (by decide) (rm24 l Z a0 hw [] o187 (tI rr 0 1 2) T317.heap n0 Z346 o213 o70 csF dd [(tJ rr (sc_ + r94) sc_ (sc_ + w2_)), (tJ rr (sc_ + w2_) (sc_ + r94) sc_), (tJ rr sc_ (sc_ + w2_) (sc_ + r94))] (tI rr 0 1 2) (sc_ + r94) (sc_ + r94) (tN rr 0 1 2) (tN rr 0 1 2) F318 F319 F320 A321 F324 C322 (by apply tri3 rr <;> rfl) (by apply trd3 rr; decide) (by apply trd3 rr; decide) (by apply tri3 rr <;> rfl) (by apply tri3 rr <;> rfl) (by apply tri3 rr <;> rfl)) F339 (argsL := [.int (tI rr 0 1 2)]) (rest := []) pd_10 rfl rfl rfl (D at_317) rfl (by rw [hml]; rfl) eb347 (by decide) (W := 0) rfl (by decide) rfl rfl (by decide) (by decide) fun T348 X348 e348 => (g_lload X348 hx (D at_320) rfl rfl (g_lcmp_ne (q := 356) (q1 := 323) (q0 := 326) X348 hx (D at_322) rfl (D at_323) (by decide) (by decide) rfl (fun c349 => by exact absurd (congrArg Int64.toInt (own_vT hD hfin)) c349) fun c349 => (g_aload X348 hx (D at_326) rfl rfl rfl (g_iload X348 hx (D at_328) rfl rfl (g_virtualP X348 hx hZ hown (hW hw 143 rfl) (hW hw 144 rfl) (hW hw 146 rfl) (hW hw 145 rfl) (hW hw 35 rfl) (hW hw 147 rfl) (by decide) (rm24 l Z a0 hw [] o187 (tI rr 1 2 0) T317.heap n0 Z346 o213 o70 csF dd [(tJ rr (sc_ + r94) sc_ (sc_ + w2_)), (tJ rr (sc_ + w2_) (sc_ + r94) sc_), (tJ rr sc_ (sc_ + w2_) (sc_ + r94))] (tI rr 0 1 2) (sc_ + w2_) (sc_ + r94) (tN rr 1 2 0) (tN rr 0 1 2) F318 F319 F320 A321 F324 C322 (by apply tri3 rr <;> rfl) (by apply trd3 rr; decide) (by apply trd3 rr; decide) (by apply tri3 rr <;> rfl) (by apply tri3 rr <;> rfl) (by apply tri3 rr <;> rfl)) F339 (argsL := [.int (tI rr 1 2 0)]) (rest := []) pd_10 rfl rfl rfl (D at_330) rfl (by rw [hml]; rfl) e348 (by decide) (W := 0) rfl (by decide) rfl rfl (by decide) (by decide) fun T350 X350 e350 => (g_lload X350 hx (D at_333) rfl rfl (g_lcmp_ne (q := 356) (q1 := 336) (q0 := 339) X350 hx (D at_335) rfl (D at_336) (by decide) (by decide) rfl (fun c351 => by exact absurd (congrArg Int64.toInt _xM) c351) fun c351 => (g_aload X350 hx (D at_339) rfl rfl rfl (g_iload X350 hx (D at_341) rfl rfl (g_virtualP X350 hx hZ hown (hW hw 143 rfl) (hW hw 144 rfl) (hW hw 146 rfl) (hW hw 145 rfl) (hW hw 35 rfl) (hW hw 147 rfl) (by decide) (rm24 l Z a0 hw [] o187 (tI rr 2 0 1) T317.heap n0 Z346 o213 o70 csF dd [(tJ rr (sc_ + r94) sc_ (sc_ + w2_)), (tJ rr (sc_ + w2_) (sc_ + r94) sc_), (tJ rr sc_ (sc_ + w2_) (sc_ + r94))] (tI rr 0 1 2) sc_ (sc_ + r94) (tN rr 2 0 1) (tN rr 0 1 2) F318 F319 F320 A321 F324 C322 (by apply tri3 rr <;> rfl) (by apply trd3 rr; decide) (by apply trd3 rr; decide) (by apply tri3 rr <;> rfl) (by apply tri3 rr <;> rfl) (by apply tri3 rr <;> rfl)) F339 (argsL := [.int (tI rr 2 0 1)]) (rest := []) pd_10 rfl rfl rfl (D at_343) rfl (by rw [hml]; rfl) e350 (by decide) (W := 0) rfl (by decide) rfl rfl (by decide) (by decide) fun T352 X352 e352 => (g_lload X352 hx (D at_346) rfl rfl (g_sel_lcmp_ne (q := 357) (q1 := 349) X352 hx (D at_348) rfl (D at_349) (by decide) (by decide) rfl (D at_356) (D at_352) (D at_353) rfl (by decide) (by decide) rfl ?_))))))))))))))
   exact g_zreturn (b := decide ((lenF (fk dd (csF.getD (2 * (tN rr 2 0 1) + 1) 0)) sc_ (sc_ + r94)).toInt = xF.toInt)) X352 hx hlk hrt (D at_357) (by decide) (by decide) ⟨okB (decide_eq_true (congrArg Int64.toInt _xF)), N323⟩
  refine g_iload X317 hx (D at_241) rfl rfl ?_
  refine g_ifB_eq (q := 252) (q0 := 246) X317 hx (D at_243) (by decide) (by decide) rfl ?_ ?_
  ·intro c353
   refine g_lload X317 hx (D at_252) rfl rfl (g_lstore (L' := #[vI pa, vI pb, vI pd, vI off, vI sel, vJ w1_, s2, vJ w2_, s2, vJ w3_, s2, vJ sc_, s2, .val (.int (b2i oM)), .val (.int (b2i oF)), vI (tI rr 0 1 2), vI (tI rr 0 1 2), vI (tI rr 1 2 0), vI (tI rr 2 0 1), vR o1, vR o4, vR o9, vR o70, vR o102, vR o129, vR o187, vJ 0, s2, vJ w1_, s2, u0, u0, u0]) X317 hx (D at_254) rfl rfl (g_ldc2J X317 hx hZ hown (hW hw 142 rfl) (D at_256) rfl (g_lstore (L' := #[vI pa, vI pb, vI pd, vI off, vI sel, vJ w1_, s2, vJ w2_, s2, vJ w3_, s2, vJ sc_, s2, .val (.int (b2i oM)), .val (.int (b2i oF)), vI (tI rr 0 1 2), vI (tI rr 0 1 2), vI (tI rr 1 2 0), vI (tI rr 2 0 1), vR o1, vR o4, vR o9, vR o70, vR o102, vR o129, vR o187, vJ 0, s2, vJ w1_, s2, vJ 9223372036854775807, s2, u0]) X317 hx (D at_259) rfl rfl (g_iload X317 hx (D at_261) rfl rfl ?_))))
   refine g_ifB_ne (q := 270) (q0 := 266) X317 hx (D at_263) (by decide) (by decide) rfl ?_ ?_
   ·intro c354
    refine g_iload X317 hx (D at_270) rfl rfl (g_ifB_ne (q := 293) (q0 := 275) X317 hx (D at_272) (by decide) (by decide) rfl (fun c355 => by exact absurd (c353.symm.trans c355) (by decide)) fun c355 => (g_lload X317 hx (D at_275) rfl rfl (g_lconst0 X317 hx (D at_277) rfl ?_)))
    refine g_lcmp_lt (q := 289) (q1 := 279) (q0 := 282) X317 hx (D at_278) rfl (D at_279) (by decide) (by decide) rfl ?_ ?_
    ·intro c356
     refine g_iconst (v := (1 : Int32)) X317 hx (D at_289) rfl rfl (g_goto (q := 294) X317 hx (D at_290) (by decide) (by decide) (g_istore (L' := #[vI pa, vI pb, vI pd, vI off, vI sel, vJ w1_, s2, vJ w2_, s2, vJ w3_, s2, vJ sc_, s2, .val (.int (b2i oM)), .val (.int (b2i oF)), vI (tI rr 0 1 2), vI (tI rr 0 1 2), vI (tI rr 1 2 0), vI (tI rr 2 0 1), vR o1, vR o4, vR o9, vR o70, vR o102, vR o129, vR o187, vJ 0, s2, vJ w1_, s2, vJ 9223372036854775807, s2, vI 1]) X317 hx (D at_294) rfl rfl (g_iload X317 hx (D at_296) rfl rfl (g_if_eq (q := 313) (q0 := 301) X317 hx (D at_298) (by decide) (by decide) rfl (fun h => absurd h (by decide)) fun c357 => (g_lload X317 hx (D at_301) rfl rfl (g_lload X317 hx (D at_303) rfl rfl (g_lload X317 hx (D at_305) rfl rfl (g_ladd X317 hx (D at_307) rfl (g_callSJ X317 hx hZ hown (hW hw 2 rfl) (hW hw 3 rfl) (hW hw 4 rfl) (hW hw 5 rfl) (by decide) (rm1 l Z a0 hw [] (9223372036854775807 : Int64) (w2_ + w1_) T317.heap n0 Z346) (argsL := [.long 9223372036854775807, .long (w2_ + w1_)]) (rest := []) pd_11 rfl rfl rfl (D at_308) rfl (by rw [hml]; rfl) rfl (by decide) (W := 0) rfl (by decide) rfl rfl (by decide) (by decide) fun T358 r359 X358 e358 hr359 => (g_lstore (L' := #[vI pa, vI pb, vI pd, vI off, vI sel, vJ w1_, s2, vJ w2_, s2, vJ w3_, s2, vJ sc_, s2, .val (.int (b2i oM)), .val (.int (b2i oF)), vI (tI rr 0 1 2), vI (tI rr 0 1 2), vI (tI rr 1 2 0), vI (tI rr 2 0 1), vR o1, vR o4, vR o9, vR o70, vR o102, vR o129, vR o187, vJ 0, s2, vJ w1_, s2, vJ r359, s2, vI 1]) X358 hx (D at_311) rfl rfl ?_))))))))))
     exact LP313_b347 _ w1_ r359 (vI 1) X358 e358 (One.val rfl) (by rw [c353] at hfin; exact own_vM0 hD hLL hfin hL1) (by rw [c354] at hfin; exact (own_vFv1 hD hLL hfin (by rw [c353, decide_eq_true (show w2_.toInt < (0 : Int) from c356)]; rfl) hL1).trans (own_mx hr359).symm)
    intro c356
    refine g_lload X317 hx (D at_282) rfl rfl (g_lconst0 X317 hx (D at_284) rfl ?_)
    refine g_lcmp_lt (q := 293) (q1 := 286) (q0 := 289) X317 hx (D at_285) rfl (D at_286) (by decide) (by decide) rfl ?_ ?_
    ·intro c360
     refine g_iconst (v := (0 : Int32)) X317 hx (D at_293) rfl rfl (g_istore (L' := #[vI pa, vI pb, vI pd, vI off, vI sel, vJ w1_, s2, vJ w2_, s2, vJ w3_, s2, vJ sc_, s2, .val (.int (b2i oM)), .val (.int (b2i oF)), vI (tI rr 0 1 2), vI (tI rr 0 1 2), vI (tI rr 1 2 0), vI (tI rr 2 0 1), vR o1, vR o4, vR o9, vR o70, vR o102, vR o129, vR o187, vJ 0, s2, vJ w1_, s2, vJ 9223372036854775807, s2, vI 0]) X317 hx (D at_294) rfl rfl (g_iload X317 hx (D at_296) rfl rfl ?_))
     refine g_if_eq (q := 313) (q0 := 301) X317 hx (D at_298) (by decide) (by decide) rfl ?_ (fun h => absurd h (by decide))
     intro c361
     exact LP313_b347 _ w1_ (9223372036854775807 : Int64) (vI 0) X317 rfl (One.val rfl) (by rw [c353] at hfin; exact own_vM0 hD hLL hfin hL1) (by rw [c354] at hfin; exact own_vFn1 hfin (by rw [c353, decide_eq_false (show ¬ w2_.toInt < (0 : Int) from Int.not_lt.mpr c356), decide_eq_true (show w1_.toInt < (0 : Int) from c360)]; rfl))
    intro c360
    refine g_iconst (v := (1 : Int32)) X317 hx (D at_289) rfl rfl (g_goto (q := 294) X317 hx (D at_290) (by decide) (by decide) (g_istore (L' := #[vI pa, vI pb, vI pd, vI off, vI sel, vJ w1_, s2, vJ w2_, s2, vJ w3_, s2, vJ sc_, s2, .val (.int (b2i oM)), .val (.int (b2i oF)), vI (tI rr 0 1 2), vI (tI rr 0 1 2), vI (tI rr 1 2 0), vI (tI rr 2 0 1), vR o1, vR o4, vR o9, vR o70, vR o102, vR o129, vR o187, vJ 0, s2, vJ w1_, s2, vJ 9223372036854775807, s2, vI 1]) X317 hx (D at_294) rfl rfl (g_iload X317 hx (D at_296) rfl rfl (g_if_eq (q := 313) (q0 := 301) X317 hx (D at_298) (by decide) (by decide) rfl (fun h => absurd h (by decide)) fun c362 => (g_lload X317 hx (D at_301) rfl rfl (g_lload X317 hx (D at_303) rfl rfl (g_lload X317 hx (D at_305) rfl rfl (g_ladd X317 hx (D at_307) rfl (g_callSJ X317 hx hZ hown (hW hw 2 rfl) (hW hw 3 rfl) (hW hw 4 rfl) (hW hw 5 rfl) (by decide) (rm1 l Z a0 hw [] (9223372036854775807 : Int64) (w2_ + w1_) T317.heap n0 Z346) (argsL := [.long 9223372036854775807, .long (w2_ + w1_)]) (rest := []) pd_11 rfl rfl rfl (D at_308) rfl (by rw [hml]; rfl) rfl (by decide) (W := 0) rfl (by decide) rfl rfl (by decide) (by decide) fun T363 r364 X363 e363 hr364 => (g_lstore (L' := #[vI pa, vI pb, vI pd, vI off, vI sel, vJ w1_, s2, vJ w2_, s2, vJ w3_, s2, vJ sc_, s2, .val (.int (b2i oM)), .val (.int (b2i oF)), vI (tI rr 0 1 2), vI (tI rr 0 1 2), vI (tI rr 1 2 0), vI (tI rr 2 0 1), vR o1, vR o4, vR o9, vR o70, vR o102, vR o129, vR o187, vJ 0, s2, vJ w1_, s2, vJ r364, s2, vI 1]) X363 hx (D at_311) rfl rfl ?_))))))))))
    exact LP313_b347 _ w1_ r364 (vI 1) X363 e363 (One.val rfl) (by rw [c353] at hfin; exact own_vM0 hD hLL hfin hL1) (by rw [c354] at hfin; exact (own_vFv1 hD hLL hfin (by rw [c353, decide_eq_false (show ¬ w2_.toInt < (0 : Int) from Int.not_lt.mpr c356), decide_eq_false (show ¬ w1_.toInt < (0 : Int) from Int.not_lt.mpr c360)]; rfl) hL1).trans (own_mx hr364).symm)
   intro c354
   refine g_lload X317 hx (D at_266) rfl rfl (g_lstore (L' := #[vI pa, vI pb, vI pd, vI off, vI sel, vJ w1_, s2, vJ w2_, s2, vJ w3_, s2, vJ sc_, s2, .val (.int (b2i oM)), .val (.int (b2i oF)), vI (tI rr 0 1 2), vI (tI rr 0 1 2), vI (tI rr 1 2 0), vI (tI rr 2 0 1), vR o1, vR o4, vR o9, vR o70, vR o102, vR o129, vR o187, vJ 0, s2, vJ w1_, s2, vJ w3_, s2, u0]) X317 hx (D at_268) rfl rfl (g_iload X317 hx (D at_270) rfl rfl (g_ifB_ne (q := 293) (q0 := 275) X317 hx (D at_272) (by decide) (by decide) rfl (fun c365 => by exact absurd (c353.symm.trans c365) (by decide)) fun c365 => (g_lload X317 hx (D at_275) rfl rfl (g_lconst0 X317 hx (D at_277) rfl ?_)))))
   refine g_lcmp_lt (q := 289) (q1 := 279) (q0 := 282) X317 hx (D at_278) rfl (D at_279) (by decide) (by decide) rfl ?_ ?_
   ·intro c366
    refine g_iconst (v := (1 : Int32)) X317 hx (D at_289) rfl rfl (g_goto (q := 294) X317 hx (D at_290) (by decide) (by decide) (g_istore (L' := #[vI pa, vI pb, vI pd, vI off, vI sel, vJ w1_, s2, vJ w2_, s2, vJ w3_, s2, vJ sc_, s2, .val (.int (b2i oM)), .val (.int (b2i oF)), vI (tI rr 0 1 2), vI (tI rr 0 1 2), vI (tI rr 1 2 0), vI (tI rr 2 0 1), vR o1, vR o4, vR o9, vR o70, vR o102, vR o129, vR o187, vJ 0, s2, vJ w1_, s2, vJ w3_, s2, vI 1]) X317 hx (D at_294) rfl rfl (g_iload X317 hx (D at_296) rfl rfl (g_if_eq (q := 313) (q0 := 301) X317 hx (D at_298) (by decide) (by decide) rfl (fun h => absurd h (by decide)) fun c367 => (g_lload X317 hx (D at_301) rfl rfl (g_lload X317 hx (D at_303) rfl rfl (g_lload X317 hx (D at_305) rfl rfl (g_ladd X317 hx (D at_307) rfl (g_callSJ X317 hx hZ hown (hW hw 2 rfl) (hW hw 3 rfl) (hW hw 4 rfl) (hW hw 5 rfl) (by decide) (rm1 l Z a0 hw [] w3_ (w2_ + w1_) T317.heap n0 Z346) (argsL := [.long w3_, .long (w2_ + w1_)]) (rest := []) pd_11 rfl rfl rfl (D at_308) rfl (by rw [hml]; rfl) rfl (by decide) (W := 0) rfl (by decide) rfl rfl (by decide) (by decide) fun T368 r369 X368 e368 hr369 => (g_lstore (L' := #[vI pa, vI pb, vI pd, vI off, vI sel, vJ w1_, s2, vJ w2_, s2, vJ w3_, s2, vJ sc_, s2, .val (.int (b2i oM)), .val (.int (b2i oF)), vI (tI rr 0 1 2), vI (tI rr 0 1 2), vI (tI rr 1 2 0), vI (tI rr 2 0 1), vR o1, vR o4, vR o9, vR o70, vR o102, vR o129, vR o187, vJ 0, s2, vJ w1_, s2, vJ r369, s2, vI 1]) X368 hx (D at_311) rfl rfl ?_))))))))))
    exact LP313_b347 _ w1_ r369 (vI 1) X368 e368 (One.val rfl) (by rw [c353] at hfin; exact own_vM0 hD hLL hfin hL1) (by rw [c354] at hfin; exact (own_vFv0 hD hLL hfin (by rw [c353, decide_eq_true (show w2_.toInt < (0 : Int) from c366)]; rfl)).trans (own_mm hr369 hr94).symm)
   intro c366
   refine g_lload X317 hx (D at_282) rfl rfl (g_lconst0 X317 hx (D at_284) rfl ?_)
   refine g_lcmp_lt (q := 293) (q1 := 286) (q0 := 289) X317 hx (D at_285) rfl (D at_286) (by decide) (by decide) rfl ?_ ?_
   ·intro c370
    refine g_iconst (v := (0 : Int32)) X317 hx (D at_293) rfl rfl (g_istore (L' := #[vI pa, vI pb, vI pd, vI off, vI sel, vJ w1_, s2, vJ w2_, s2, vJ w3_, s2, vJ sc_, s2, .val (.int (b2i oM)), .val (.int (b2i oF)), vI (tI rr 0 1 2), vI (tI rr 0 1 2), vI (tI rr 1 2 0), vI (tI rr 2 0 1), vR o1, vR o4, vR o9, vR o70, vR o102, vR o129, vR o187, vJ 0, s2, vJ w1_, s2, vJ w3_, s2, vI 0]) X317 hx (D at_294) rfl rfl (g_iload X317 hx (D at_296) rfl rfl ?_))
    refine g_if_eq (q := 313) (q0 := 301) X317 hx (D at_298) (by decide) (by decide) rfl ?_ (fun h => absurd h (by decide))
    intro c371
    exact LP313_b347 _ w1_ w3_ (vI 0) X317 rfl (One.val rfl) (by rw [c353] at hfin; exact own_vM0 hD hLL hfin hL1) (by rw [c354] at hfin; exact own_vFn0 hD hLL hfin (by rw [c353, decide_eq_false (show ¬ w2_.toInt < (0 : Int) from Int.not_lt.mpr c366), decide_eq_true (show w1_.toInt < (0 : Int) from c370)]; rfl) hL3)
   intro c370
   refine g_iconst (v := (1 : Int32)) X317 hx (D at_289) rfl rfl (g_goto (q := 294) X317 hx (D at_290) (by decide) (by decide) (g_istore (L' := #[vI pa, vI pb, vI pd, vI off, vI sel, vJ w1_, s2, vJ w2_, s2, vJ w3_, s2, vJ sc_, s2, .val (.int (b2i oM)), .val (.int (b2i oF)), vI (tI rr 0 1 2), vI (tI rr 0 1 2), vI (tI rr 1 2 0), vI (tI rr 2 0 1), vR o1, vR o4, vR o9, vR o70, vR o102, vR o129, vR o187, vJ 0, s2, vJ w1_, s2, vJ w3_, s2, vI 1]) X317 hx (D at_294) rfl rfl (g_iload X317 hx (D at_296) rfl rfl (g_if_eq (q := 313) (q0 := 301) X317 hx (D at_298) (by decide) (by decide) rfl (fun h => absurd h (by decide)) fun c372 => (g_lload X317 hx (D at_301) rfl rfl (g_lload X317 hx (D at_303) rfl rfl (g_lload X317 hx (D at_305) rfl rfl (g_ladd X317 hx (D at_307) rfl (g_callSJ X317 hx hZ hown (hW hw 2 rfl) (hW hw 3 rfl) (hW hw 4 rfl) (hW hw 5 rfl) (by decide) (rm1 l Z a0 hw [] w3_ (w2_ + w1_) T317.heap n0 Z346) (argsL := [.long w3_, .long (w2_ + w1_)]) (rest := []) pd_11 rfl rfl rfl (D at_308) rfl (by rw [hml]; rfl) rfl (by decide) (W := 0) rfl (by decide) rfl rfl (by decide) (by decide) fun T373 r374 X373 e373 hr374 => (g_lstore (L' := #[vI pa, vI pb, vI pd, vI off, vI sel, vJ w1_, s2, vJ w2_, s2, vJ w3_, s2, vJ sc_, s2, .val (.int (b2i oM)), .val (.int (b2i oF)), vI (tI rr 0 1 2), vI (tI rr 0 1 2), vI (tI rr 1 2 0), vI (tI rr 2 0 1), vR o1, vR o4, vR o9, vR o70, vR o102, vR o129, vR o187, vJ 0, s2, vJ w1_, s2, vJ r374, s2, vI 1]) X373 hx (D at_311) rfl rfl ?_))))))))))
   exact LP313_b347 _ w1_ r374 (vI 1) X373 e373 (One.val rfl) (by rw [c353] at hfin; exact own_vM0 hD hLL hfin hL1) (by rw [c354] at hfin; exact (own_vFv0 hD hLL hfin (by rw [c353, decide_eq_false (show ¬ w2_.toInt < (0 : Int) from Int.not_lt.mpr c366), decide_eq_false (show ¬ w1_.toInt < (0 : Int) from Int.not_lt.mpr c370)]; rfl)).trans (own_mm hr374 hr94).symm)
  intro c353
  refine g_ldc2J X317 hx hZ hown (hW hw 142 rfl) (D at_246) rfl (g_goto (q := 254) X317 hx (D at_249) (by decide) (by decide) (g_lstore (L' := #[vI pa, vI pb, vI pd, vI off, vI sel, vJ w1_, s2, vJ w2_, s2, vJ w3_, s2, vJ sc_, s2, .val (.int (b2i oM)), .val (.int (b2i oF)), vI (tI rr 0 1 2), vI (tI rr 0 1 2), vI (tI rr 1 2 0), vI (tI rr 2 0 1), vR o1, vR o4, vR o9, vR o70, vR o102, vR o129, vR o187, vJ 0, s2, vJ 9223372036854775807, s2, u0, u0, u0]) X317 hx (D at_254) rfl rfl (g_ldc2J X317 hx hZ hown (hW hw 142 rfl) (D at_256) rfl (g_lstore (L' := #[vI pa, vI pb, vI pd, vI off, vI sel, vJ w1_, s2, vJ w2_, s2, vJ w3_, s2, vJ sc_, s2, .val (.int (b2i oM)), .val (.int (b2i oF)), vI (tI rr 0 1 2), vI (tI rr 0 1 2), vI (tI rr 1 2 0), vI (tI rr 2 0 1), vR o1, vR o4, vR o9, vR o70, vR o102, vR o129, vR o187, vJ 0, s2, vJ 9223372036854775807, s2, vJ 9223372036854775807, s2, u0]) X317 hx (D at_259) rfl rfl (g_iload X317 hx (D at_261) rfl rfl ?_)))))
  refine g_ifB_ne (q := 270) (q0 := 266) X317 hx (D at_263) (by decide) (by decide) rfl ?_ ?_
  ·intro c375
   refine g_iload X317 hx (D at_270) rfl rfl ?_
   refine g_ifB_ne (q := 293) (q0 := 275) X317 hx (D at_272) (by decide) (by decide) rfl ?_ (fun c376 => by exact absurd (c353.symm.trans c376) (by decide))
   intro c376
   refine g_iconst (v := (0 : Int32)) X317 hx (D at_293) rfl rfl (g_istore (L' := #[vI pa, vI pb, vI pd, vI off, vI sel, vJ w1_, s2, vJ w2_, s2, vJ w3_, s2, vJ sc_, s2, .val (.int (b2i oM)), .val (.int (b2i oF)), vI (tI rr 0 1 2), vI (tI rr 0 1 2), vI (tI rr 1 2 0), vI (tI rr 2 0 1), vR o1, vR o4, vR o9, vR o70, vR o102, vR o129, vR o187, vJ 0, s2, vJ 9223372036854775807, s2, vJ 9223372036854775807, s2, vI 0]) X317 hx (D at_294) rfl rfl (g_iload X317 hx (D at_296) rfl rfl ?_))
   refine g_if_eq (q := 313) (q0 := 301) X317 hx (D at_298) (by decide) (by decide) rfl ?_ (fun h => absurd h (by decide))
   intro c377
   exact LP313_b347 _ (9223372036854775807 : Int64) (9223372036854775807 : Int64) (vI 0) X317 rfl (One.val rfl) (by rw [c353] at hfin; exact own_vM1 hfin) (by rw [c375] at hfin; exact own_vFn1 hfin (by rw [c353]; rfl))
  intro c375
  refine g_lload X317 hx (D at_266) rfl rfl (g_lstore (L' := #[vI pa, vI pb, vI pd, vI off, vI sel, vJ w1_, s2, vJ w2_, s2, vJ w3_, s2, vJ sc_, s2, .val (.int (b2i oM)), .val (.int (b2i oF)), vI (tI rr 0 1 2), vI (tI rr 0 1 2), vI (tI rr 1 2 0), vI (tI rr 2 0 1), vR o1, vR o4, vR o9, vR o70, vR o102, vR o129, vR o187, vJ 0, s2, vJ 9223372036854775807, s2, vJ w3_, s2, u0]) X317 hx (D at_268) rfl rfl (g_iload X317 hx (D at_270) rfl rfl ?_))
  refine g_ifB_ne (q := 293) (q0 := 275) X317 hx (D at_272) (by decide) (by decide) rfl ?_ (fun c378 => by exact absurd (c353.symm.trans c378) (by decide))
  intro c378
  refine g_iconst (v := (0 : Int32)) X317 hx (D at_293) rfl rfl (g_istore (L' := #[vI pa, vI pb, vI pd, vI off, vI sel, vJ w1_, s2, vJ w2_, s2, vJ w3_, s2, vJ sc_, s2, .val (.int (b2i oM)), .val (.int (b2i oF)), vI (tI rr 0 1 2), vI (tI rr 0 1 2), vI (tI rr 1 2 0), vI (tI rr 2 0 1), vR o1, vR o4, vR o9, vR o70, vR o102, vR o129, vR o187, vJ 0, s2, vJ 9223372036854775807, s2, vJ w3_, s2, vI 0]) X317 hx (D at_294) rfl rfl (g_iload X317 hx (D at_296) rfl rfl ?_))
  refine g_if_eq (q := 313) (q0 := 301) X317 hx (D at_298) (by decide) (by decide) rfl ?_ (fun h => absurd h (by decide))
  intro c379
  exact LP313_b347 _ (9223372036854775807 : Int64) w3_ (vI 0) X317 rfl (One.val rfl) (by rw [c353] at hfin; exact own_vM1 hfin) (by rw [c375] at hfin; exact own_vFn0 hD hLL hfin (by rw [c353]; rfl) hL3)
set_option maxRecDepth 65536 in
set_option maxHeartbeats 40000000 in
theorem comes_1 {Post : Tables → Env → Array Value → State → Outcome → State → Prop} (hpost : ∀ tb e args s v u, (limb_1_1.after args s (.returned v) u = true ∧ limb_1_2.after args s (.returned v) u = true ∧ True) → FrameEnd s (.returned v) u (Jvm.fieldLocs frame_1_writes args s ++ Jvm.arrayLocs frame_1_arrays args s ++ Jvm.staticLocs frame_1_statics s) 48 256 → Post tb e args s (.returned v) u) :
    ArmFor flags0 classFile x code maxLocals ret World_1 tables_1 room_1 Calls_1 rest_1 Pre_1 Post := by
  intro l hfl _ _ p e ha hc hk s m args below hf hA hF happ hP
  obtain ⟨hcalls, hrest, hpre⟩ := hP
  obtain ⟨-, -, -, hnamed, -, -, -, hat⟩ := (Spec.applies_iff hf).mp happ
  obtain ⟨hg, hn⟩ := and_e (Cond.before_iff.mp (show (Jvm.Cond.and given_1 narrow_1).before args s = true from hpre))
  obtain ⟨g1, g2⟩ := and_e hg
  obtain ⟨g3, g4⟩ := and_e g2
  obtain ⟨g5, g6⟩ := and_e g4
  obtain ⟨g7, g8⟩ := and_e g6
  obtain ⟨g9, g10⟩ := and_e g8
  obtain ⟨w0, w1, w2, w3, w4, rfl⟩ : ∃ w0 w1 w2 w3 w4 : Value, args = #[w0, w1, w2, w3, w4] := by
    have hs : args.size = 5 := by simpa [Cond.value, given_1] using g1
    obtain ⟨L⟩ := args
    match L, hs with
    | [w0, w1, w2, w3, w4], _ => exact ⟨w0, w1, w2, w3, w4, rfl⟩
  have hw := fun d (hd : d ∈ tables_1) => atoms_spec (ws := Jvm.Cond.code x code maxLocals ret :: tables_1) hat d (List.mem_cons_of_mem _ hd)
  obtain ⟨i0, ei0⟩ := is_v g3
  obtain rfl : w0 = (.int i0) := Option.some.inj ei0
  obtain ⟨i1, ei1⟩ := is_v g5
  obtain rfl : w1 = (.int i1) := Option.some.inj ei1
  obtain ⟨i2, ei2⟩ := is_v g7
  obtain rfl : w2 = (.int i2) := Option.some.inj ei2
  obtain ⟨i3, ei3⟩ := is_v g9
  obtain rfl : w3 = (.int i3) := Option.some.inj ei3
  obtain ⟨i4, ei4⟩ := is_v g10
  obtain rfl : w4 = (.int i4) := Option.some.inj ei4
  obtain ⟨n, o, h1, h2, h3, _, L, rfl, ⟨rfl, N⟩, hq⟩ := rm0 l s _ hw tables_1 i0 i1 i2 i3 i4 s.heap s.heap.size (Nat.le_refl _) p e ha hc hk s m _ below hf ((Spec.applies_iff_loose hf).mp happ).1 ⟨rfl, State.Warmed39.refl s, rfl⟩ trivial
  refine ⟨n, _, h1, h2, h3, hpost _ _ _ _ _ _ ⟨Cond.after_iff.mpr rfl, Cond.after_iff.mpr (eq_i res_at (Term.int_eval (1)) rfl), trivial⟩ ⟨hq.1, hq.2.1, (hq.2.2.sift fun y hy => Or.inr (N y hy)).mono (by decide) (by decide)⟩⟩
theorem main_1_1 : Claimed_1_1 := comes_1 fun _ _ _ _ _ _ h hF => ⟨h.1, hF⟩
theorem main_1_2 : Claimed_1_2 := comes_1 fun _ _ _ _ _ _ h hF => ⟨h.2.1, hF⟩
end Jvm.Pilot.@@N@@
namespace Jvm.Pilot.@@N@@
open Jvm Jvm.ClassFile Sem Op Lib Jvm.Free Jvm.Stand Jvm.Pilot.@@N@@.Jvm.D
/-! MADE BY PROGRAM (witnessworld.py) out of the Statement's table words and the real class files: 18 classes; the members and pool entries that the words name. The judged class is class 1, her method 1. -/
namespace start1
open Jvm.ClassFile
def u (s : String) : CpInfo := .utf8 (stringToUtf16 s)
/-- a pool by its gaps: so many unusable entries, then the entry; so many at the end -/
def gap : Nat → List CpInfo → List CpInfo
  | 0, r => r
  | n + 1, r => .unusable :: gap n r
def poolList (es : List (Nat × CpInfo)) (last : Nat) : List CpInfo := es.foldr (fun e r => gap e.1 (e.2 :: r)) (gap last [])
def pool (es : List (Nat × CpInfo)) (last : Nat) : Array CpInfo := ⟨poolList es last⟩
def fileOf (pool : Array CpInfo) (this : Nat) (attrs : Array Attribute := #[]) (ms : Array MethodInfo := #[]) (fl : Nat := 33) (sup : Nat := 0) (ifs : Array Nat := #[]) (fds : Array FieldInfo := #[]) : ClassFile where
  minorVersion := 0
  majorVersion := 65
  constantPool := pool
  accessFlags := fl
  thisClass := this
  superClass := sup
  interfaces := ifs
  fields := fds
  methods := ms
  attributes := attrs
def plain (name : String) (sup : Option ClassId) : Class where
  name := name
  kind := .ordinary
  loader := none
  accessFlags := 33
  super := sup
  interfaces := #[]
  cf := none
  fields := #[]
  methods := #[]
  instanceTypes := #[]
  staticTypes := #[]
  resolved := #[]
  callSites := []
  init := .initialized
  statics := none
  mirror := none

def pool0 : Array CpInfo := pool [(5, u "<init>"), (0, u "()V"), (1, .class_ 10), (1, u "java/lang/Object")] 113

def k0c0 : Code := { maxStack := 0, maxLocals := 1, code := object_method_1_code, exceptionTable := #[], attributes := #[] }
def k0m0 : Method := { name := "<init>", desc := "()V", sig := { parameters := [], returnType := none }, accessFlags := 1, code := some k0c0 }
/-- java/lang/Object -/
def k0 : Class := { plain "java/lang/Object" none with
  accessFlags := 33
  interfaces := #[]
  cf := some (fileOf pool0 8 #[] #[{ accessFlags := 1, nameIndex := 5, descriptorIndex := 6, attributes := #[] }] 33 0 #[] #[])
  fields := #[]
  methods := #[k0m0]
  instanceTypes := #[]
  staticTypes := #[]
  resolved := Array.replicate 124 none
  statics := none }

def pool1 : Array CpInfo := pool [(2, .class_ 4), (1, u "java/lang/Object"), (0, u "<init>"), (0, u "()V"), (0, .methodref 8 9), (0, .class_ 10), (0, .nameAndType 11 12), (0, u "java/lang/Math"), (0, u "min"), (0, u "(JJ)J"), (0, .class_ 14), (0, u "com/example/hedged_dispatch/hedgeddispatch/stn/Adjacency"), (0, .methodref 13 16), (0, .nameAndType 5 17), (0, u "(I[I[I[J)V"), (0, .class_ 19), (0, u "com/example/hedged_dispatch/hedgeddispatch/stn/VeePaths"), (0, .methodref 18 21), (0, .nameAndType 5 22), (0, u "(Lcom/example/hedged_dispatch/hedgeddispatch/stn/Adjacency;[J)V"), (0, .methodref 18 24), (0, .nameAndType 25 26), (0, u "searchTowards"), (0, u "(I[Z)V"), (0, .long 9223372036854775807), (1, .methodref 18 30), (0, .nameAndType 31 32), (0, u "length"), (0, u "(I)J"), (0, .class_ 34), (0, u "com/example/hedged_dispatch/hedgeddispatch/stn/VeePathsLengthPinLaw"), (2, u "law"), (0, u "(IIIII)Z")] 9

def k1m0 : Method := { name := "<init>", desc := "()V", sig := { parameters := [], returnType := none }, accessFlags := 1, code := none }
def k1c1 : Code := { maxStack := 8, maxLocals := 33, code := code, exceptionTable := #[], attributes := #[] }
def k1m1 : Method := { name := "law", desc := "(IIIII)Z", sig := { parameters := [.int, .int, .int, .int, .int], returnType := some .boolean }, accessFlags := 9, code := some k1c1 }
/-- com/example/hedged_dispatch/hedgeddispatch/stn/VeePathsLengthPinLaw -/
def k1 : Class := { plain "com/example/hedged_dispatch/hedgeddispatch/stn/VeePathsLengthPinLaw" (some 0) with
  accessFlags := 49
  interfaces := #[]
  cf := some (fileOf pool1 33 #[] #[{ accessFlags := 1, nameIndex := 5, descriptorIndex := 6, attributes := #[] }, { accessFlags := 9, nameIndex := 37, descriptorIndex := 38, attributes := #[] }] 49 2 #[] #[])
  fields := #[]
  methods := #[k1m0, k1m1]
  instanceTypes := #[]
  staticTypes := #[]
  resolved := Array.replicate 48 none
  statics := none }

def pool2 : Array CpInfo := pool [(1, .class_ 2), (0, u "java/lang/Math"), (1, .class_ 6), (1, u "java/lang/Object"), (0, u "<init>"), (0, u "()V"), (89, .class_ 100), (1, u "java/lang/Math$RandomNumberGeneratorHolder"), (20, u "(JJ)J"), (50, u "negativeZeroFloatBits"), (0, u "J"), (2, u "negativeZeroDoubleBits"), (24, u "min"), (43, u "$assertionsDisabled"), (0, u "Z"), (88, u "(II)I"), (2, u "twoToTheDoubleScaleDown"), (0, u "D"), (4, u "twoToTheDoubleScaleUp"), (9, u "E"), (3, u "PI"), (2, u "TAU"), (2, u "DEGREES_TO_RADIANS"), (0, u "RADIANS_TO_DEGREES")] 94

def k2m0 : Method := { name := "<init>", desc := "()V", sig := { parameters := [], returnType := none }, accessFlags := 2, code := none }
def k2c1 : Code := { maxStack := 2, maxLocals := 2, code := jdk_29_method_69_code, exceptionTable := #[], attributes := #[] }
def k2m1 : Method := { name := "min", desc := "(II)I", sig := { parameters := [.int, .int], returnType := some .int }, accessFlags := 9, code := some k2c1 }
def k2c2 : Code := { maxStack := 4, maxLocals := 4, code := jdk_29_method_70_code, exceptionTable := #[], attributes := #[] }
def k2m2 : Method := { name := "min", desc := "(JJ)J", sig := { parameters := [.long, .long], returnType := some .long }, accessFlags := 9, code := some k2c2 }
/-- java/lang/Math -/
def k2 : Class := { plain "java/lang/Math" (some 0) with
  accessFlags := 49
  interfaces := #[]
  cf := some (fileOf pool2 1 #[.nestMembers #[98]] #[{ accessFlags := 2, nameIndex := 7, descriptorIndex := 8, attributes := #[] }, { accessFlags := 9, nameIndex := 201, descriptorIndex := 335, attributes := #[] }, { accessFlags := 9, nameIndex := 201, descriptorIndex := 121, attributes := #[] }] 49 4 #[] #[{ accessFlags := 25, nameIndex := 354, descriptorIndex := 339, attributes := #[] }, { accessFlags := 25, nameIndex := 358, descriptorIndex := 339, attributes := #[] }, { accessFlags := 25, nameIndex := 361, descriptorIndex := 339, attributes := #[] }, { accessFlags := 26, nameIndex := 364, descriptorIndex := 339, attributes := #[] }, { accessFlags := 26, nameIndex := 365, descriptorIndex := 339, attributes := #[] }, { accessFlags := 26, nameIndex := 172, descriptorIndex := 173, attributes := #[] }, { accessFlags := 26, nameIndex := 176, descriptorIndex := 173, attributes := #[] }, { accessFlags := 8, nameIndex := 344, descriptorIndex := 339, attributes := #[] }, { accessFlags := 8, nameIndex := 338, descriptorIndex := 339, attributes := #[] }, { accessFlags := 4120, nameIndex := 245, descriptorIndex := 246, attributes := #[] }])
  fields := #[{ name := "E", type := .double, accessFlags := 25, slot := 0, constantValue := 0 }, { name := "PI", type := .double, accessFlags := 25, slot := 1, constantValue := 0 }, { name := "TAU", type := .double, accessFlags := 25, slot := 2, constantValue := 0 }, { name := "DEGREES_TO_RADIANS", type := .double, accessFlags := 26, slot := 3, constantValue := 0 }, { name := "RADIANS_TO_DEGREES", type := .double, accessFlags := 26, slot := 4, constantValue := 0 }, { name := "negativeZeroFloatBits", type := .long, accessFlags := 26, slot := 5, constantValue := 0 }, { name := "negativeZeroDoubleBits", type := .long, accessFlags := 26, slot := 6, constantValue := 0 }, { name := "twoToTheDoubleScaleUp", type := .double, accessFlags := 8, slot := 7, constantValue := 0 }, { name := "twoToTheDoubleScaleDown", type := .double, accessFlags := 8, slot := 8, constantValue := 0 }, { name := "$assertionsDisabled", type := .boolean, accessFlags := 4120, slot := 9, constantValue := 0 }]
  methods := #[k2m0, k2m1, k2m2]
  instanceTypes := #[]
  staticTypes := #[.double, .double, .double, .double, .double, .long, .long, .double, .double, .boolean]
  resolved := Array.replicate 460 none
  statics := none }

def pool3 : Array CpInfo := pool [(1, .methodref 2 3), (0, .class_ 4), (0, .nameAndType 5 6), (0, u "java/lang/Object"), (0, u "<init>"), (0, u "()V"), (0, .fieldref 8 9), (0, .class_ 10), (0, .nameAndType 11 12), (0, u "com/example/hedged_dispatch/hedgeddispatch/stn/Adjacency"), (0, u "starts"), (0, u "[I"), (0, .methodref 14 15), (0, .class_ 16), (0, .nameAndType 17 18), (0, u "java/util/Arrays"), (0, u "copyOf"), (0, u "([II)[I"), (0, .fieldref 8 20), (0, .nameAndType 21 12), (0, u "nodes"), (0, .fieldref 8 23), (0, .nameAndType 24 25), (0, u "weights"), (0, u "[J"), (0, u "(I[I[I[J)V"), (5, u "size"), (0, u "()I"), (1, u "start"), (0, u "(I)I"), (0, u "end"), (0, u "node"), (0, u "weight"), (0, u "(I)J")] 2

def k3c0 : Code := { maxStack := 5, maxLocals := 9, code := prog_71_method_1_code, exceptionTable := #[], attributes := #[] }
def k3m0 : Method := { name := "<init>", desc := "(I[I[I[J)V", sig := { parameters := [.int, (.array .int), (.array .int), (.array .long)], returnType := none }, accessFlags := 1, code := some k3c0 }
def k3c1 : Code := { maxStack := 2, maxLocals := 1, code := prog_71_method_2_code, exceptionTable := #[], attributes := #[] }
def k3m1 : Method := { name := "size", desc := "()I", sig := { parameters := [], returnType := some .int }, accessFlags := 1, code := some k3c1 }
def k3c2 : Code := { maxStack := 2, maxLocals := 2, code := prog_71_method_4_code, exceptionTable := #[], attributes := #[] }
def k3m2 : Method := { name := "start", desc := "(I)I", sig := { parameters := [.int], returnType := some .int }, accessFlags := 1, code := some k3c2 }
def k3c3 : Code := { maxStack := 3, maxLocals := 2, code := prog_71_method_5_code, exceptionTable := #[], attributes := #[] }
def k3m3 : Method := { name := "end", desc := "(I)I", sig := { parameters := [.int], returnType := some .int }, accessFlags := 1, code := some k3c3 }
def k3c4 : Code := { maxStack := 2, maxLocals := 2, code := prog_71_method_6_code, exceptionTable := #[], attributes := #[] }
def k3m4 : Method := { name := "node", desc := "(I)I", sig := { parameters := [.int], returnType := some .int }, accessFlags := 1, code := some k3c4 }
def k3c5 : Code := { maxStack := 2, maxLocals := 2, code := prog_71_method_7_code, exceptionTable := #[], attributes := #[] }
def k3m5 : Method := { name := "weight", desc := "(I)J", sig := { parameters := [.int], returnType := some .long }, accessFlags := 1, code := some k3c5 }
/-- com/example/hedged_dispatch/hedgeddispatch/stn/Adjacency -/
def k3 : Class := { plain "com/example/hedged_dispatch/hedgeddispatch/stn/Adjacency" (some 0) with
  accessFlags := 49
  interfaces := #[]
  cf := some (fileOf pool3 8 #[] #[{ accessFlags := 1, nameIndex := 5, descriptorIndex := 26, attributes := #[] }, { accessFlags := 1, nameIndex := 32, descriptorIndex := 33, attributes := #[] }, { accessFlags := 1, nameIndex := 35, descriptorIndex := 36, attributes := #[] }, { accessFlags := 1, nameIndex := 37, descriptorIndex := 36, attributes := #[] }, { accessFlags := 1, nameIndex := 38, descriptorIndex := 36, attributes := #[] }, { accessFlags := 1, nameIndex := 39, descriptorIndex := 40, attributes := #[] }] 49 2 #[] #[{ accessFlags := 18, nameIndex := 11, descriptorIndex := 12, attributes := #[] }, { accessFlags := 18, nameIndex := 21, descriptorIndex := 12, attributes := #[] }, { accessFlags := 18, nameIndex := 24, descriptorIndex := 25, attributes := #[] }])
  fields := #[{ name := "starts", type := (.array .int), accessFlags := 18, slot := 0, constantValue := 0 }, { name := "nodes", type := (.array .int), accessFlags := 18, slot := 1, constantValue := 0 }, { name := "weights", type := (.array .long), accessFlags := 18, slot := 2, constantValue := 0 }]
  methods := #[k3m0, k3m1, k3m2, k3m3, k3m4, k3m5]
  instanceTypes := #[(.array .int), (.array .int), (.array .long)]
  staticTypes := #[]
  resolved := Array.replicate 43 none
  statics := none }

def pool4 : Array CpInfo := pool [(2, .class_ 4), (1, u "java/lang/Object"), (0, u "<init>"), (0, u "()V"), (7, .class_ 16), (1, u "java/util/Arrays"), (57, .class_ 76), (1, u "java/util/Arrays$NaturalOrder"), (36, .class_ 115), (1, u "java/util/Arrays$LegacyMergeSort"), (1, u "Z"), (32, .methodref 151 152), (0, .class_ 153), (0, .nameAndType 154 155), (0, u "java/lang/System"), (0, u "arraycopy"), (0, u "(Ljava/lang/Object;ILjava/lang/Object;II)V"), (146, u "copyOf"), (1, .methodref 305 306), (0, .class_ 307), (0, .nameAndType 308 309), (0, u "java/lang/Math"), (0, u "min"), (0, u "(II)I"), (65, .class_ 376), (0, u "java/util/Arrays$ArrayList"), (68, u "$assertionsDisabled"), (269, u "MIN_ARRAY_SORT_GRAN"), (0, u "I"), (2, u "INSERTIONSORT_THRESHOLD"), (120, u "fill"), (0, u "([JJ)V"), (3, u "([II)V"), (25, u "([II)[I"), (103, .class_ 976), (0, u "java/util/Arrays$ArrayItr")] 52

def k4m0 : Method := { name := "<init>", desc := "()V", sig := { parameters := [], returnType := none }, accessFlags := 2, code := none }
def k4c1 : Code := { maxStack := 4, maxLocals := 5, code := jdk_65_method_101_code, exceptionTable := #[], attributes := #[] }
def k4m1 : Method := { name := "fill", desc := "([JJ)V", sig := { parameters := [(.array .long), .long], returnType := none }, accessFlags := 9, code := some k4c1 }
def k4c2 : Code := { maxStack := 3, maxLocals := 4, code := jdk_65_method_103_code, exceptionTable := #[], attributes := #[] }
def k4m2 : Method := { name := "fill", desc := "([II)V", sig := { parameters := [(.array .int), .int], returnType := none }, accessFlags := 9, code := some k4c2 }
def k4c3 : Code := { maxStack := 6, maxLocals := 3, code := jdk_65_method_123_code, exceptionTable := #[], attributes := #[] }
def k4m3 : Method := { name := "copyOf", desc := "([II)[I", sig := { parameters := [(.array .int), .int], returnType := some (.array .int) }, accessFlags := 9, code := some k4c3 }
/-- java/util/Arrays -/
def k4 : Class := { plain "java/util/Arrays" (some 0) with
  accessFlags := 49
  interfaces := #[]
  cf := some (fileOf pool4 14 #[.nestMembers #[975, 375, 113, 74]] #[{ accessFlags := 2, nameIndex := 5, descriptorIndex := 6, attributes := #[] }, { accessFlags := 9, nameIndex := 840, descriptorIndex := 841, attributes := #[] }, { accessFlags := 9, nameIndex := 840, descriptorIndex := 845, attributes := #[] }, { accessFlags := 9, nameIndex := 302, descriptorIndex := 871, attributes := #[] }] 49 2 #[] #[{ accessFlags := 26, nameIndex := 715, descriptorIndex := 716, attributes := #[] }, { accessFlags := 26, nameIndex := 719, descriptorIndex := 716, attributes := #[] }, { accessFlags := 4120, nameIndex := 445, descriptorIndex := 117, attributes := #[] }])
  fields := #[{ name := "MIN_ARRAY_SORT_GRAN", type := .int, accessFlags := 26, slot := 0, constantValue := 0 }, { name := "INSERTIONSORT_THRESHOLD", type := .int, accessFlags := 26, slot := 1, constantValue := 0 }, { name := "$assertionsDisabled", type := .boolean, accessFlags := 4120, slot := 2, constantValue := 0 }]
  methods := #[k4m0, k4m1, k4m2, k4m3]
  instanceTypes := #[]
  staticTypes := #[.int, .int, .boolean]
  resolved := Array.replicate 1029 none
  statics := none }

def pool5 : Array CpInfo := pool [(2, .class_ 4), (1, u "java/lang/Object"), (0, u "<init>"), (0, u "()V"), (1, .class_ 10), (1, u "java/lang/System"), (0, u "allowSecurityManager"), (0, u "I"), (16, u "cons"), (0, u "Ljava/io/Console;"), (77, .class_ 110), (1, u "java/lang/System$CallersHolder"), (43, u "initialErrStream"), (0, u "Ljava/io/PrintStream;"), (19, u "security"), (0, u "Ljava/lang/SecurityManager;"), (31, .class_ 209), (0, u "java/lang/System$1"), (7, u "props"), (0, u "Ljava/util/Properties;"), (2, u "lineSeparator"), (0, u "Ljava/lang/String;"), (96, .class_ 321), (1, u "java/lang/System$LoggerFinder"), (5, .class_ 328), (0, u "java/lang/System$Logger"), (67, u "err"), (2, u "out"), (91, u "notSupportedJnuEncoding"), (15, u "in"), (17, u "initialIn"), (0, u "Ljava/io/InputStream;"), (35, u "bootLayer"), (0, u "Ljava/lang/ModuleLayer;"), (99, .class_ 664), (0, u "java/lang/System$2"), (9, u "NEVER"), (2, u "MAYBE"), (49, u "arraycopy"), (0, u "(Ljava/lang/Object;ILjava/lang/Object;II)V"), (72, .class_ 802), (0, u "java/lang/System$Logger$Level")] 31

def k5m0 : Method := { name := "<init>", desc := "()V", sig := { parameters := [], returnType := none }, accessFlags := 2, code := none }
def k5m1 : Method := { name := "arraycopy", desc := "(Ljava/lang/Object;ILjava/lang/Object;II)V", sig := { parameters := [(.object "java/lang/Object"), .int, (.object "java/lang/Object"), .int, .int], returnType := none }, accessFlags := 265, code := none }
/-- java/lang/System -/
def k5 : Class := { plain "java/lang/System" (some 0) with
  accessFlags := 49
  interfaces := #[]
  cf := some (fileOf pool5 8 #[.nestMembers #[319, 327, 801, 108, 663, 208]] #[{ accessFlags := 2, nameIndex := 5, descriptorIndex := 6, attributes := #[] }, { accessFlags := 265, nameIndex := 727, descriptorIndex := 728, attributes := #[] }] 49 2 #[] #[{ accessFlags := 25, nameIndex := 507, descriptorIndex := 526, attributes := #[] }, { accessFlags := 25, nameIndex := 399, descriptorIndex := 155, attributes := #[] }, { accessFlags := 25, nameIndex := 396, descriptorIndex := 155, attributes := #[] }, { accessFlags := 10, nameIndex := 525, descriptorIndex := 526, attributes := #[] }, { accessFlags := 26, nameIndex := 674, descriptorIndex := 12, attributes := #[] }, { accessFlags := 26, nameIndex := 677, descriptorIndex := 12, attributes := #[] }, { accessFlags := 10, nameIndex := 11, descriptorIndex := 12, attributes := #[] }, { accessFlags := 74, nameIndex := 175, descriptorIndex := 176, attributes := #[] }, { accessFlags := 10, nameIndex := 491, descriptorIndex := 222, attributes := #[] }, { accessFlags := 74, nameIndex := 29, descriptorIndex := 30, attributes := #[] }, { accessFlags := 74, nameIndex := 154, descriptorIndex := 155, attributes := #[] }, { accessFlags := 10, nameIndex := 217, descriptorIndex := 218, attributes := #[] }, { accessFlags := 10, nameIndex := 221, descriptorIndex := 222, attributes := #[] }, { accessFlags := 8, nameIndex := 562, descriptorIndex := 563, attributes := #[] }])
  fields := #[{ name := "in", type := (.object "java/io/InputStream"), accessFlags := 25, slot := 0, constantValue := 0 }, { name := "out", type := (.object "java/io/PrintStream"), accessFlags := 25, slot := 1, constantValue := 0 }, { name := "err", type := (.object "java/io/PrintStream"), accessFlags := 25, slot := 2, constantValue := 0 }, { name := "initialIn", type := (.object "java/io/InputStream"), accessFlags := 10, slot := 3, constantValue := 0 }, { name := "NEVER", type := .int, accessFlags := 26, slot := 4, constantValue := 0 }, { name := "MAYBE", type := .int, accessFlags := 26, slot := 5, constantValue := 0 }, { name := "allowSecurityManager", type := .int, accessFlags := 10, slot := 6, constantValue := 0 }, { name := "security", type := (.object "java/lang/SecurityManager"), accessFlags := 74, slot := 7, constantValue := 0 }, { name := "notSupportedJnuEncoding", type := (.object "java/lang/String"), accessFlags := 10, slot := 8, constantValue := 0 }, { name := "cons", type := (.object "java/io/Console"), accessFlags := 74, slot := 9, constantValue := 0 }, { name := "initialErrStream", type := (.object "java/io/PrintStream"), accessFlags := 74, slot := 10, constantValue := 0 }, { name := "props", type := (.object "java/util/Properties"), accessFlags := 10, slot := 11, constantValue := 0 }, { name := "lineSeparator", type := (.object "java/lang/String"), accessFlags := 10, slot := 12, constantValue := 0 }, { name := "bootLayer", type := (.object "java/lang/ModuleLayer"), accessFlags := 8, slot := 13, constantValue := 0 }]
  methods := #[k5m0, k5m1]
  instanceTypes := #[]
  staticTypes := #[(.object "java/io/InputStream"), (.object "java/io/PrintStream"), (.object "java/io/PrintStream"), (.object "java/io/InputStream"), .int, .int, .int, (.object "java/lang/SecurityManager"), (.object "java/lang/String"), (.object "java/io/Console"), (.object "java/io/PrintStream"), (.object "java/util/Properties"), (.object "java/lang/String"), (.object "java/lang/ModuleLayer")]
  resolved := Array.replicate 834 none
  statics := none }

def pool6 : Array CpInfo := pool [(3, .methodref 4 5), (0, .class_ 6), (0, .nameAndType 7 8), (0, u "java/lang/Object"), (0, u "<init>"), (0, u "()V"), (0, .fieldref 10 11), (0, .class_ 12), (0, .nameAndType 13 14), (0, u "com/example/hedged_dispatch/hedgeddispatch/stn/VeePaths"), (0, u "into"), (0, u "Lcom/example/hedged_dispatch/hedgeddispatch/stn/Adjacency;"), (0, .fieldref 10 16), (0, .nameAndType 17 18), (0, u "solution"), (0, u "[J"), (0, .methodref 20 21), (0, .class_ 22), (0, .nameAndType 23 24), (0, u "com/example/hedged_dispatch/hedgeddispatch/stn/Adjacency"), (0, u "size"), (0, u "()I"), (0, .fieldref 10 26), (0, .nameAndType 27 18), (0, u "key"), (0, .fieldref 10 29), (0, .nameAndType 30 31), (0, u "reached"), (0, u "[I"), (0, .class_ 33), (0, u "com/example/hedged_dispatch/hedgeddispatch/stn/NodeQueue"), (0, .methodref 32 35), (0, .nameAndType 7 36), (0, u "(I)V"), (0, .fieldref 10 38), (0, .nameAndType 39 40), (0, u "queue"), (0, u "Lcom/example/hedged_dispatch/hedgeddispatch/stn/NodeQueue;"), (0, .long 9223372036854775807), (1, .methodref 44 45), (0, .class_ 46), (0, .nameAndType 47 48), (0, u "java/util/Arrays"), (0, u "fill"), (0, u "([JJ)V"), (0, .fieldref 10 50), (0, .nameAndType 51 52), (0, u "reachedCount"), (0, u "I"), (0, .fieldref 10 54), (0, .nameAndType 55 52), (0, u "target"), (0, .methodref 10 57), (0, .nameAndType 58 59), (0, u "reach"), (0, u "(IJ)V"), (0, .methodref 32 61), (0, .nameAndType 62 63), (0, u "isEmpty"), (0, u "()Z"), (0, .methodref 32 65), (0, .nameAndType 66 24), (0, u "poll"), (0, .methodref 20 68), (0, .nameAndType 69 70), (0, u "start"), (0, u "(I)I"), (0, .methodref 20 72), (0, .nameAndType 73 70), (0, u "end"), (0, .methodref 20 75), (0, .nameAndType 76 70), (0, u "node"), (0, .methodref 20 78), (0, .nameAndType 79 80), (0, u "weight"), (0, u "(I)J"), (0, .methodref 32 82), (0, .nameAndType 83 59), (0, u "put"), (0, u "UNREACHED"), (0, u "J"), (1, u "(Lcom/example/hedged_dispatch/hedgeddispatch/stn/Adjacency;[J)V"), (2, u "searchTowards"), (0, u "(I[Z)V"), (3, u "length")] 2

def k6c0 : Code := { maxStack := 5, maxLocals := 3, code := prog_82_method_1_code, exceptionTable := #[], attributes := #[] }
def k6m0 : Method := { name := "<init>", desc := "(Lcom/example/hedged_dispatch/hedgeddispatch/stn/Adjacency;[J)V", sig := { parameters := [(.object "com/example/hedged_dispatch/hedgeddispatch/stn/Adjacency"), (.array .long)], returnType := none }, accessFlags := 1, code := some k6c0 }
def k6c1 : Code := { maxStack := 4, maxLocals := 11, code := prog_82_method_2_code, exceptionTable := #[], attributes := #[] }
def k6m1 : Method := { name := "searchTowards", desc := "(I[Z)V", sig := { parameters := [.int, (.array .boolean)], returnType := none }, accessFlags := 1, code := some k6c1 }
def k6c2 : Code := { maxStack := 4, maxLocals := 4, code := prog_82_method_3_code, exceptionTable := #[], attributes := #[] }
def k6m2 : Method := { name := "length", desc := "(I)J", sig := { parameters := [.int], returnType := some .long }, accessFlags := 1, code := some k6c2 }
def k6c3 : Code := { maxStack := 5, maxLocals := 4, code := prog_82_method_4_code, exceptionTable := #[], attributes := #[] }
def k6m3 : Method := { name := "reach", desc := "(IJ)V", sig := { parameters := [.int, .long], returnType := none }, accessFlags := 2, code := some k6c3 }
/-- com/example/hedged_dispatch/hedgeddispatch/stn/VeePaths -/
def k6 : Class := { plain "com/example/hedged_dispatch/hedgeddispatch/stn/VeePaths" (some 0) with
  accessFlags := 49
  interfaces := #[]
  cf := some (fileOf pool6 10 #[] #[{ accessFlags := 1, nameIndex := 7, descriptorIndex := 87, attributes := #[] }, { accessFlags := 1, nameIndex := 90, descriptorIndex := 91, attributes := #[] }, { accessFlags := 1, nameIndex := 95, descriptorIndex := 80, attributes := #[] }, { accessFlags := 2, nameIndex := 58, descriptorIndex := 59, attributes := #[] }] 49 4 #[] #[{ accessFlags := 25, nameIndex := 84, descriptorIndex := 85, attributes := #[] }, { accessFlags := 18, nameIndex := 13, descriptorIndex := 14, attributes := #[] }, { accessFlags := 18, nameIndex := 17, descriptorIndex := 18, attributes := #[] }, { accessFlags := 18, nameIndex := 27, descriptorIndex := 18, attributes := #[] }, { accessFlags := 18, nameIndex := 30, descriptorIndex := 31, attributes := #[] }, { accessFlags := 2, nameIndex := 51, descriptorIndex := 52, attributes := #[] }, { accessFlags := 18, nameIndex := 39, descriptorIndex := 40, attributes := #[] }, { accessFlags := 2, nameIndex := 55, descriptorIndex := 52, attributes := #[] }])
  fields := #[{ name := "UNREACHED", type := .long, accessFlags := 25, slot := 0, constantValue := 0 }, { name := "into", type := (.object "com/example/hedged_dispatch/hedgeddispatch/stn/Adjacency"), accessFlags := 18, slot := 0, constantValue := 0 }, { name := "solution", type := (.array .long), accessFlags := 18, slot := 1, constantValue := 0 }, { name := "key", type := (.array .long), accessFlags := 18, slot := 2, constantValue := 0 }, { name := "reached", type := (.array .int), accessFlags := 18, slot := 3, constantValue := 0 }, { name := "reachedCount", type := .int, accessFlags := 2, slot := 4, constantValue := 0 }, { name := "queue", type := (.object "com/example/hedged_dispatch/hedgeddispatch/stn/NodeQueue"), accessFlags := 18, slot := 5, constantValue := 0 }, { name := "target", type := .int, accessFlags := 2, slot := 6, constantValue := 0 }]
  methods := #[k6m0, k6m1, k6m2, k6m3]
  instanceTypes := #[(.object "com/example/hedged_dispatch/hedgeddispatch/stn/Adjacency"), (.array .long), (.array .long), (.array .int), .int, (.object "com/example/hedged_dispatch/hedgeddispatch/stn/NodeQueue"), .int]
  staticTypes := #[.long]
  resolved := Array.replicate 98 none
  statics := none }

def pool7 : Array CpInfo := pool [(1, .methodref 2 3), (0, .class_ 4), (0, .nameAndType 5 6), (0, u "java/lang/Object"), (0, u "<init>"), (0, u "()V"), (0, .fieldref 8 9), (0, .class_ 10), (0, .nameAndType 11 12), (0, u "com/example/hedged_dispatch/hedgeddispatch/stn/NodeQueue"), (0, u "heap"), (0, u "[I"), (0, .fieldref 8 14), (0, .nameAndType 15 12), (0, u "place"), (0, .fieldref 8 17), (0, .nameAndType 18 19), (0, u "key"), (0, u "[J"), (0, .methodref 21 22), (0, .class_ 23), (0, .nameAndType 24 25), (0, u "java/util/Arrays"), (0, u "fill"), (0, u "([II)V"), (0, .fieldref 8 27), (0, .nameAndType 28 29), (0, u "count"), (0, u "I"), (0, .methodref 8 31), (0, .nameAndType 32 33), (0, u "siftUp"), (0, u "(I)V"), (0, .methodref 8 35), (0, .nameAndType 36 33), (0, u "siftDown"), (0, .methodref 8 38), (0, .nameAndType 39 33), (0, u "remove"), (0, .methodref 8 41), (0, .nameAndType 42 43), (0, u "before"), (0, u "(II)Z"), (0, u "ABSENT"), (4, u "isEmpty"), (0, u "()Z"), (2, u "put"), (0, u "(IJ)V"), (1, u "()I"), (0, u "poll")] 4

def k7c0 : Code := { maxStack := 2, maxLocals := 2, code := prog_77_method_1_code, exceptionTable := #[], attributes := #[] }
def k7m0 : Method := { name := "<init>", desc := "(I)V", sig := { parameters := [.int], returnType := none }, accessFlags := 1, code := some k7c0 }
def k7c1 : Code := { maxStack := 1, maxLocals := 1, code := prog_77_method_2_code, exceptionTable := #[], attributes := #[] }
def k7m1 : Method := { name := "isEmpty", desc := "()Z", sig := { parameters := [], returnType := some .boolean }, accessFlags := 1, code := some k7c1 }
def k7c2 : Code := { maxStack := 5, maxLocals := 4, code := prog_77_method_4_code, exceptionTable := #[], attributes := #[] }
def k7m2 : Method := { name := "put", desc := "(IJ)V", sig := { parameters := [.int, .long], returnType := none }, accessFlags := 1, code := some k7c2 }
def k7c3 : Code := { maxStack := 2, maxLocals := 2, code := prog_77_method_6_code, exceptionTable := #[], attributes := #[] }
def k7m3 : Method := { name := "poll", desc := "()I", sig := { parameters := [], returnType := some .int }, accessFlags := 1, code := some k7c3 }
def k7c4 : Code := { maxStack := 4, maxLocals := 4, code := prog_77_method_7_code, exceptionTable := #[], attributes := #[] }
def k7m4 : Method := { name := "remove", desc := "(I)V", sig := { parameters := [.int], returnType := none }, accessFlags := 1, code := some k7c4 }
def k7c5 : Code := { maxStack := 3, maxLocals := 5, code := prog_77_method_9_code, exceptionTable := #[], attributes := #[] }
def k7m5 : Method := { name := "siftUp", desc := "(I)V", sig := { parameters := [.int], returnType := none }, accessFlags := 2, code := some k7c5 }
def k7c6 : Code := { maxStack := 4, maxLocals := 5, code := prog_77_method_10_code, exceptionTable := #[], attributes := #[] }
def k7m6 : Method := { name := "siftDown", desc := "(I)V", sig := { parameters := [.int], returnType := none }, accessFlags := 2, code := some k7c6 }
def k7c7 : Code := { maxStack := 4, maxLocals := 3, code := prog_77_method_11_code, exceptionTable := #[], attributes := #[] }
def k7m7 : Method := { name := "before", desc := "(II)Z", sig := { parameters := [.int, .int], returnType := some .boolean }, accessFlags := 2, code := some k7c7 }
/-- com/example/hedged_dispatch/hedgeddispatch/stn/NodeQueue -/
def k7 : Class := { plain "com/example/hedged_dispatch/hedgeddispatch/stn/NodeQueue" (some 0) with
  accessFlags := 49
  interfaces := #[]
  cf := some (fileOf pool7 8 #[] #[{ accessFlags := 1, nameIndex := 5, descriptorIndex := 33, attributes := #[] }, { accessFlags := 1, nameIndex := 49, descriptorIndex := 50, attributes := #[] }, { accessFlags := 1, nameIndex := 53, descriptorIndex := 54, attributes := #[] }, { accessFlags := 1, nameIndex := 57, descriptorIndex := 56, attributes := #[] }, { accessFlags := 1, nameIndex := 39, descriptorIndex := 33, attributes := #[] }, { accessFlags := 2, nameIndex := 32, descriptorIndex := 33, attributes := #[] }, { accessFlags := 2, nameIndex := 36, descriptorIndex := 33, attributes := #[] }, { accessFlags := 2, nameIndex := 42, descriptorIndex := 43, attributes := #[] }] 49 2 #[] #[{ accessFlags := 26, nameIndex := 44, descriptorIndex := 29, attributes := #[] }, { accessFlags := 18, nameIndex := 11, descriptorIndex := 12, attributes := #[] }, { accessFlags := 18, nameIndex := 15, descriptorIndex := 12, attributes := #[] }, { accessFlags := 18, nameIndex := 18, descriptorIndex := 19, attributes := #[] }, { accessFlags := 2, nameIndex := 28, descriptorIndex := 29, attributes := #[] }])
  fields := #[{ name := "ABSENT", type := .int, accessFlags := 26, slot := 0, constantValue := 0 }, { name := "heap", type := (.array .int), accessFlags := 18, slot := 0, constantValue := 0 }, { name := "place", type := (.array .int), accessFlags := 18, slot := 1, constantValue := 0 }, { name := "key", type := (.array .long), accessFlags := 18, slot := 2, constantValue := 0 }, { name := "count", type := .int, accessFlags := 2, slot := 3, constantValue := 0 }]
  methods := #[k7m0, k7m1, k7m2, k7m3, k7m4, k7m5, k7m6, k7m7]
  instanceTypes := #[(.array .int), (.array .int), (.array .long), .int]
  staticTypes := #[.int]
  resolved := Array.replicate 62 none
  statics := none }

def pool8 : Array CpInfo := pool [(1, u "java/lang/Cloneable"), (0, .class_ 1), (0, u "java/lang/Object"), (0, .class_ 3)] 3

/-- java/lang/Cloneable -/
def k8 : Class := { plain "java/lang/Cloneable" (some 0) with
  accessFlags := 1537
  interfaces := #[]
  cf := some (fileOf pool8 2 #[] #[] 1537 4 #[] #[])
  fields := #[]
  methods := #[]
  instanceTypes := #[]
  staticTypes := #[]
  resolved := Array.replicate 8 none
  statics := none }

def pool9 : Array CpInfo := pool [(1, u "java/io/Serializable"), (0, .class_ 1), (0, u "java/lang/Object"), (0, .class_ 3)] 3

/-- java/io/Serializable -/
def k9 : Class := { plain "java/io/Serializable" (some 0) with
  accessFlags := 1537
  interfaces := #[]
  cf := some (fileOf pool9 2 #[] #[] 1537 4 #[] #[])
  fields := #[]
  methods := #[]
  instanceTypes := #[]
  staticTypes := #[]
  resolved := Array.replicate 8 none
  statics := none }

/-- the primitive boolean -/
def k10 : Class := { plain "boolean" none with kind := .primitive 'Z', accessFlags := 0x411 }
/-- [Z -/
def k11 : Class := { plain "[Z" (some 0) with kind := .array 10 .boolean, interfaces := #[8, 9], accessFlags := 1041 }

/-- the primitive byte -/
def k12 : Class := { plain "byte" none with kind := .primitive 'B', accessFlags := 0x411 }
/-- [B -/
def k13 : Class := { plain "[B" (some 0) with kind := .array 12 .byte, interfaces := #[8, 9], accessFlags := 1041 }

/-- the primitive int -/
def k14 : Class := { plain "int" none with kind := .primitive 'I', accessFlags := 0x411 }
/-- [I -/
def k15 : Class := { plain "[I" (some 0) with kind := .array 14 .int, interfaces := #[8, 9], accessFlags := 1041 }

/-- the primitive long -/
def k16 : Class := { plain "long" none with kind := .primitive 'J', accessFlags := 0x411 }
/-- [J -/
def k17 : Class := { plain "[J" (some 0) with kind := .array 16 .long, interfaces := #[8, 9], accessFlags := 1041 }

def heap : Heap := #[]
def classes : Array Class := #[k0, k1, k2, k3, k4, k5, k6, k7, k8, k9, k10, k11, k12, k13, k14, k15, k16, k17]
def interned : List (Array UInt16 × Addr) := []
def slotsUsed : Nat := 0
def theMethod : MethodId := ⟨1, 1⟩
def args0 : Array Value := #[.int 5, .int 6, .int 7, .int 8, .int 9]
def aboutOver (below : List Frame) : State where
  vm := { classes := classes, interned := interned.toArray }
  heap := heap
  slotsUsed := slotsUsed
  threads := #[{ frames := .invoking theMethod args0 :: below }]
def below0 : List Frame := [.native { method := ⟨0, 0⟩, args := #[] }]
def about1 : State := aboutOver below0
def p0 : Program := .bare "" "" ""
def e0 : Env := launch0.env 0 0 0
theorem w_frames : about1.frames = Frame.invoking theMethod args0 :: below0 := rfl
set_option maxRecDepth 65536 in
theorem w_args : argsFit about1.vm theMethod args0 = true := by decide +kernel
set_option maxRecDepth 65536 in
theorem w_heap : heapFits about1 = true := by decide +kernel
set_option maxRecDepth 65536 in
theorem w_runnable : about1.curStatus? = some .runnable := by decide +kernel
set_option maxRecDepth 65536 in
theorem w_alone : about1.alone = true := by decide +kernel
set_option maxRecDepth 65536 in
theorem w_named : about1.methodNamed? x = some theMethod := by decide +kernel
set_option maxRecDepth 65536 in
theorem w_hears : about1.hears theMethod below0 = true := by decide +kernel
set_option maxRecDepth 65536 in
theorem w_ripe : about1.ripe theMethod args0 below0 = true := by decide +kernel
theorem w_running : about1.status = .running := rfl
set_option maxRecDepth 65536 in
theorem w_room : about1.hasRoom e0.platform room_1 = true :=
  launch0.hasRoom_least _ room_1 (by decide +kernel) (by decide +kernel) (by decide +kernel) (by decide +kernel) (by decide +kernel) (by decide +kernel)
theorem allAtoms_all (ts : List Jvm.Cond) (a : Array Jvm.Value) (st : Jvm.State) : (allAtoms ts).before a st = ts.all (fun c => c.before a st) := by
  induction ts with
  | nil => rfl
  | cons c t ih =>
    show (Jvm.Cond.and c (allAtoms t)).before a st = _
    rw [Jvm.Cond.before_and, ih, List.all_cons]
def words1 : List Jvm.Cond := Jvm.Cond.code x code maxLocals ret :: tables_1
/-- a 'code' word, met by the world's own term for the bytes: nothing is compared byte by byte -/
theorem code_word {y : MethodName} {bytes : ByteArray} {mx : Nat} {rt : Option FieldType} {a : Array Value} {s : State} {m : MethodId} {meth : Method} {c : Code} (h1 : s.methodNamed? y = some m) (h2 : s.vm.method? m = some meth) (h3 : meth.code = some c) (h4 : c.code = bytes)
    (h5 : (c.maxLocals == mx && c.exceptionTable.isEmpty && decide (c.maxStack ≤ mostOperands) && decide (meth.sig.returnType = rt) && !meth.locks && decide (parseMethodDescriptor y.desc = some meth.sig)) = true) : (Jvm.Cond.code y bytes mx rt).before a s = true := by
  simp only [Bool.and_eq_true, beq_iff_eq, Bool.not_eq_true', decide_eq_true_eq] at h5
  obtain ⟨⟨⟨⟨⟨g1, g2⟩, g3⟩, g4⟩, g5⟩, g6⟩ := h5
  simp [Cond.before, Cond.holds, Cond.value, h1, h2, h3, h4, g1, g2, g3, g4, g5, g6]
def isCode : Jvm.Cond → Bool
  | .code _ _ _ _ => true
  | _ => false
theorem all_split {L : List Jvm.Cond} {P : Jvm.Cond → Bool} (h1 : L.all (fun c => isCode c || P c) = true) (h2 : ∀ c ∈ L.filter isCode, P c = true) : L.all P = true := by
  refine List.all_eq_true.mpr fun c hc => ?_
  have h := List.all_eq_true.mp h1 c hc
  rcases Bool.eq_false_or_eq_true (isCode c) with hi | hi
  · exact h2 c (List.mem_filter.mpr ⟨hc, hi⟩)
  · simpa [hi] using h
set_option maxRecDepth 65536 in
theorem w_c0 : (Jvm.Cond.code x code maxLocals ret).before args0 about1 = true := code_word (m := ⟨1, 1⟩) (meth := k1m1) (c := k1c1) (by decide +kernel) rfl rfl rfl (by decide +kernel)
set_option maxRecDepth 65536 in
theorem w_c1 : (Jvm.Cond.code ({ cls := "java/lang/Math", name := "min", desc := "(JJ)J" } : Jvm.MethodName) jdk_29_method_70_code (4 : Nat) (Option.some Jvm.ClassFile.FieldType.long)).before args0 about1 = true := code_word (m := ⟨2, 2⟩) (meth := k2m2) (c := k2c2) (by decide +kernel) rfl rfl rfl (by decide +kernel)
set_option maxRecDepth 65536 in
theorem w_c2 : (Jvm.Cond.code ({ cls := "com/example/hedged_dispatch/hedgeddispatch/stn/Adjacency", name := "<init>", desc := "(I[I[I[J)V" } : Jvm.MethodName) prog_71_method_1_code (9 : Nat) (Option.none : Option Jvm.ClassFile.FieldType)).before args0 about1 = true := code_word (m := ⟨3, 0⟩) (meth := k3m0) (c := k3c0) (by decide +kernel) rfl rfl rfl (by decide +kernel)
set_option maxRecDepth 65536 in
theorem w_c3 : (Jvm.Cond.code ({ cls := "java/lang/Object", name := "<init>", desc := "()V" } : Jvm.MethodName) object_method_1_code (1 : Nat) (Option.none : Option Jvm.ClassFile.FieldType)).before args0 about1 = true := code_word (m := ⟨0, 0⟩) (meth := k0m0) (c := k0c0) (by decide +kernel) rfl rfl rfl (by decide +kernel)
set_option maxRecDepth 65536 in
theorem w_c4 : (Jvm.Cond.code ({ cls := "java/util/Arrays", name := "copyOf", desc := "([II)[I" } : Jvm.MethodName) jdk_65_method_123_code (3 : Nat) (Option.some (Jvm.ClassFile.FieldType.array Jvm.ClassFile.FieldType.int))).before args0 about1 = true := code_word (m := ⟨4, 3⟩) (meth := k4m3) (c := k4c3) (by decide +kernel) rfl rfl rfl (by decide +kernel)
set_option maxRecDepth 65536 in
theorem w_c5 : (Jvm.Cond.code ({ cls := "java/lang/Math", name := "min", desc := "(II)I" } : Jvm.MethodName) jdk_29_method_69_code (2 : Nat) (Option.some Jvm.ClassFile.FieldType.int)).before args0 about1 = true := code_word (m := ⟨2, 1⟩) (meth := k2m1) (c := k2c1) (by decide +kernel) rfl rfl rfl (by decide +kernel)
set_option maxRecDepth 65536 in
theorem w_c6 : (Jvm.Cond.code ({ cls := "com/example/hedged_dispatch/hedgeddispatch/stn/VeePaths", name := "<init>", desc := "(Lcom/example/hedged_dispatch/hedgeddispatch/stn/Adjacency;[J)V" } : Jvm.MethodName) prog_82_method_1_code (3 : Nat) (Option.none : Option Jvm.ClassFile.FieldType)).before args0 about1 = true := code_word (m := ⟨6, 0⟩) (meth := k6m0) (c := k6c0) (by decide +kernel) rfl rfl rfl (by decide +kernel)
set_option maxRecDepth 65536 in
theorem w_c7 : (Jvm.Cond.code ({ cls := "com/example/hedged_dispatch/hedgeddispatch/stn/Adjacency", name := "size", desc := "()I" } : Jvm.MethodName) prog_71_method_2_code (1 : Nat) (Option.some Jvm.ClassFile.FieldType.int)).before args0 about1 = true := code_word (m := ⟨3, 1⟩) (meth := k3m1) (c := k3c1) (by decide +kernel) rfl rfl rfl (by decide +kernel)
set_option maxRecDepth 65536 in
theorem w_c8 : (Jvm.Cond.code ({ cls := "com/example/hedged_dispatch/hedgeddispatch/stn/NodeQueue", name := "<init>", desc := "(I)V" } : Jvm.MethodName) prog_77_method_1_code (2 : Nat) (Option.none : Option Jvm.ClassFile.FieldType)).before args0 about1 = true := code_word (m := ⟨7, 0⟩) (meth := k7m0) (c := k7c0) (by decide +kernel) rfl rfl rfl (by decide +kernel)
set_option maxRecDepth 65536 in
theorem w_c9 : (Jvm.Cond.code ({ cls := "java/util/Arrays", name := "fill", desc := "([II)V" } : Jvm.MethodName) jdk_65_method_103_code (4 : Nat) (Option.none : Option Jvm.ClassFile.FieldType)).before args0 about1 = true := code_word (m := ⟨4, 2⟩) (meth := k4m2) (c := k4c2) (by decide +kernel) rfl rfl rfl (by decide +kernel)
set_option maxRecDepth 65536 in
theorem w_c10 : (Jvm.Cond.code ({ cls := "java/util/Arrays", name := "fill", desc := "([JJ)V" } : Jvm.MethodName) jdk_65_method_101_code (5 : Nat) (Option.none : Option Jvm.ClassFile.FieldType)).before args0 about1 = true := code_word (m := ⟨4, 1⟩) (meth := k4m1) (c := k4c1) (by decide +kernel) rfl rfl rfl (by decide +kernel)
set_option maxRecDepth 65536 in
theorem w_c11 : (Jvm.Cond.code ({ cls := "com/example/hedged_dispatch/hedgeddispatch/stn/VeePaths", name := "searchTowards", desc := "(I[Z)V" } : Jvm.MethodName) prog_82_method_2_code (11 : Nat) (Option.none : Option Jvm.ClassFile.FieldType)).before args0 about1 = true := code_word (m := ⟨6, 1⟩) (meth := k6m1) (c := k6c1) (by decide +kernel) rfl rfl rfl (by decide +kernel)
set_option maxRecDepth 65536 in
theorem w_c12 : (Jvm.Cond.code ({ cls := "com/example/hedged_dispatch/hedgeddispatch/stn/VeePaths", name := "reach", desc := "(IJ)V" } : Jvm.MethodName) prog_82_method_4_code (4 : Nat) (Option.none : Option Jvm.ClassFile.FieldType)).before args0 about1 = true := code_word (m := ⟨6, 3⟩) (meth := k6m3) (c := k6c3) (by decide +kernel) rfl rfl rfl (by decide +kernel)
set_option maxRecDepth 65536 in
theorem w_c13 : (Jvm.Cond.code ({ cls := "com/example/hedged_dispatch/hedgeddispatch/stn/NodeQueue", name := "put", desc := "(IJ)V" } : Jvm.MethodName) prog_77_method_4_code (4 : Nat) (Option.none : Option Jvm.ClassFile.FieldType)).before args0 about1 = true := code_word (m := ⟨7, 2⟩) (meth := k7m2) (c := k7c2) (by decide +kernel) rfl rfl rfl (by decide +kernel)
set_option maxRecDepth 65536 in
theorem w_c14 : (Jvm.Cond.code ({ cls := "com/example/hedged_dispatch/hedgeddispatch/stn/NodeQueue", name := "siftUp", desc := "(I)V" } : Jvm.MethodName) prog_77_method_9_code (5 : Nat) (Option.none : Option Jvm.ClassFile.FieldType)).before args0 about1 = true := code_word (m := ⟨7, 5⟩) (meth := k7m5) (c := k7c5) (by decide +kernel) rfl rfl rfl (by decide +kernel)
set_option maxRecDepth 65536 in
theorem w_c15 : (Jvm.Cond.code ({ cls := "com/example/hedged_dispatch/hedgeddispatch/stn/NodeQueue", name := "isEmpty", desc := "()Z" } : Jvm.MethodName) prog_77_method_2_code (1 : Nat) (Option.some Jvm.ClassFile.FieldType.boolean)).before args0 about1 = true := code_word (m := ⟨7, 1⟩) (meth := k7m1) (c := k7c1) (by decide +kernel) rfl rfl rfl (by decide +kernel)
set_option maxRecDepth 65536 in
theorem w_c16 : (Jvm.Cond.code ({ cls := "com/example/hedged_dispatch/hedgeddispatch/stn/NodeQueue", name := "poll", desc := "()I" } : Jvm.MethodName) prog_77_method_6_code (2 : Nat) (Option.some Jvm.ClassFile.FieldType.int)).before args0 about1 = true := code_word (m := ⟨7, 3⟩) (meth := k7m3) (c := k7c3) (by decide +kernel) rfl rfl rfl (by decide +kernel)
set_option maxRecDepth 65536 in
theorem w_c17 : (Jvm.Cond.code ({ cls := "com/example/hedged_dispatch/hedgeddispatch/stn/NodeQueue", name := "remove", desc := "(I)V" } : Jvm.MethodName) prog_77_method_7_code (4 : Nat) (Option.none : Option Jvm.ClassFile.FieldType)).before args0 about1 = true := code_word (m := ⟨7, 4⟩) (meth := k7m4) (c := k7c4) (by decide +kernel) rfl rfl rfl (by decide +kernel)
set_option maxRecDepth 65536 in
theorem w_c18 : (Jvm.Cond.code ({ cls := "com/example/hedged_dispatch/hedgeddispatch/stn/Adjacency", name := "start", desc := "(I)I" } : Jvm.MethodName) prog_71_method_4_code (2 : Nat) (Option.some Jvm.ClassFile.FieldType.int)).before args0 about1 = true := code_word (m := ⟨3, 2⟩) (meth := k3m2) (c := k3c2) (by decide +kernel) rfl rfl rfl (by decide +kernel)
set_option maxRecDepth 65536 in
theorem w_c19 : (Jvm.Cond.code ({ cls := "com/example/hedged_dispatch/hedgeddispatch/stn/Adjacency", name := "end", desc := "(I)I" } : Jvm.MethodName) prog_71_method_5_code (2 : Nat) (Option.some Jvm.ClassFile.FieldType.int)).before args0 about1 = true := code_word (m := ⟨3, 3⟩) (meth := k3m3) (c := k3c3) (by decide +kernel) rfl rfl rfl (by decide +kernel)
set_option maxRecDepth 65536 in
theorem w_c20 : (Jvm.Cond.code ({ cls := "com/example/hedged_dispatch/hedgeddispatch/stn/Adjacency", name := "node", desc := "(I)I" } : Jvm.MethodName) prog_71_method_6_code (2 : Nat) (Option.some Jvm.ClassFile.FieldType.int)).before args0 about1 = true := code_word (m := ⟨3, 4⟩) (meth := k3m4) (c := k3c4) (by decide +kernel) rfl rfl rfl (by decide +kernel)
set_option maxRecDepth 65536 in
theorem w_c21 : (Jvm.Cond.code ({ cls := "com/example/hedged_dispatch/hedgeddispatch/stn/Adjacency", name := "weight", desc := "(I)J" } : Jvm.MethodName) prog_71_method_7_code (2 : Nat) (Option.some Jvm.ClassFile.FieldType.long)).before args0 about1 = true := code_word (m := ⟨3, 5⟩) (meth := k3m5) (c := k3c5) (by decide +kernel) rfl rfl rfl (by decide +kernel)
set_option maxRecDepth 65536 in
theorem w_c22 : (Jvm.Cond.code ({ cls := "com/example/hedged_dispatch/hedgeddispatch/stn/NodeQueue", name := "before", desc := "(II)Z" } : Jvm.MethodName) prog_77_method_11_code (3 : Nat) (Option.some Jvm.ClassFile.FieldType.boolean)).before args0 about1 = true := code_word (m := ⟨7, 7⟩) (meth := k7m7) (c := k7c7) (by decide +kernel) rfl rfl rfl (by decide +kernel)
set_option maxRecDepth 65536 in
theorem w_c23 : (Jvm.Cond.code ({ cls := "com/example/hedged_dispatch/hedgeddispatch/stn/NodeQueue", name := "siftDown", desc := "(I)V" } : Jvm.MethodName) prog_77_method_10_code (5 : Nat) (Option.none : Option Jvm.ClassFile.FieldType)).before args0 about1 = true := code_word (m := ⟨7, 6⟩) (meth := k7m6) (c := k7c6) (by decide +kernel) rfl rfl rfl (by decide +kernel)
set_option maxRecDepth 65536 in
theorem w_c24 : (Jvm.Cond.code ({ cls := "com/example/hedged_dispatch/hedgeddispatch/stn/VeePaths", name := "length", desc := "(I)J" } : Jvm.MethodName) prog_82_method_3_code (4 : Nat) (Option.some Jvm.ClassFile.FieldType.long)).before args0 about1 = true := code_word (m := ⟨6, 2⟩) (meth := k6m2) (c := k6c2) (by decide +kernel) rfl rfl rfl (by decide +kernel)
def codes1 : List Jvm.Cond := [Jvm.Cond.code x code maxLocals ret, Jvm.Cond.code ({ cls := "java/lang/Math", name := "min", desc := "(JJ)J" } : Jvm.MethodName) jdk_29_method_70_code (4 : Nat) (Option.some Jvm.ClassFile.FieldType.long), Jvm.Cond.code ({ cls := "com/example/hedged_dispatch/hedgeddispatch/stn/Adjacency", name := "<init>", desc := "(I[I[I[J)V" } : Jvm.MethodName) prog_71_method_1_code (9 : Nat) (Option.none : Option Jvm.ClassFile.FieldType), Jvm.Cond.code ({ cls := "java/lang/Object", name := "<init>", desc := "()V" } : Jvm.MethodName) object_method_1_code (1 : Nat) (Option.none : Option Jvm.ClassFile.FieldType), Jvm.Cond.code ({ cls := "java/util/Arrays", name := "copyOf", desc := "([II)[I" } : Jvm.MethodName) jdk_65_method_123_code (3 : Nat) (Option.some (Jvm.ClassFile.FieldType.array Jvm.ClassFile.FieldType.int)), Jvm.Cond.code ({ cls := "java/lang/Math", name := "min", desc := "(II)I" } : Jvm.MethodName) jdk_29_method_69_code (2 : Nat) (Option.some Jvm.ClassFile.FieldType.int), Jvm.Cond.code ({ cls := "com/example/hedged_dispatch/hedgeddispatch/stn/VeePaths", name := "<init>", desc := "(Lcom/example/hedged_dispatch/hedgeddispatch/stn/Adjacency;[J)V" } : Jvm.MethodName) prog_82_method_1_code (3 : Nat) (Option.none : Option Jvm.ClassFile.FieldType), Jvm.Cond.code ({ cls := "com/example/hedged_dispatch/hedgeddispatch/stn/Adjacency", name := "size", desc := "()I" } : Jvm.MethodName) prog_71_method_2_code (1 : Nat) (Option.some Jvm.ClassFile.FieldType.int), Jvm.Cond.code ({ cls := "com/example/hedged_dispatch/hedgeddispatch/stn/NodeQueue", name := "<init>", desc := "(I)V" } : Jvm.MethodName) prog_77_method_1_code (2 : Nat) (Option.none : Option Jvm.ClassFile.FieldType), Jvm.Cond.code ({ cls := "java/util/Arrays", name := "fill", desc := "([II)V" } : Jvm.MethodName) jdk_65_method_103_code (4 : Nat) (Option.none : Option Jvm.ClassFile.FieldType), Jvm.Cond.code ({ cls := "java/util/Arrays", name := "fill", desc := "([JJ)V" } : Jvm.MethodName) jdk_65_method_101_code (5 : Nat) (Option.none : Option Jvm.ClassFile.FieldType), Jvm.Cond.code ({ cls := "com/example/hedged_dispatch/hedgeddispatch/stn/VeePaths", name := "searchTowards", desc := "(I[Z)V" } : Jvm.MethodName) prog_82_method_2_code (11 : Nat) (Option.none : Option Jvm.ClassFile.FieldType), Jvm.Cond.code ({ cls := "com/example/hedged_dispatch/hedgeddispatch/stn/VeePaths", name := "reach", desc := "(IJ)V" } : Jvm.MethodName) prog_82_method_4_code (4 : Nat) (Option.none : Option Jvm.ClassFile.FieldType), Jvm.Cond.code ({ cls := "com/example/hedged_dispatch/hedgeddispatch/stn/NodeQueue", name := "put", desc := "(IJ)V" } : Jvm.MethodName) prog_77_method_4_code (4 : Nat) (Option.none : Option Jvm.ClassFile.FieldType), Jvm.Cond.code ({ cls := "com/example/hedged_dispatch/hedgeddispatch/stn/NodeQueue", name := "siftUp", desc := "(I)V" } : Jvm.MethodName) prog_77_method_9_code (5 : Nat) (Option.none : Option Jvm.ClassFile.FieldType), Jvm.Cond.code ({ cls := "com/example/hedged_dispatch/hedgeddispatch/stn/NodeQueue", name := "isEmpty", desc := "()Z" } : Jvm.MethodName) prog_77_method_2_code (1 : Nat) (Option.some Jvm.ClassFile.FieldType.boolean), Jvm.Cond.code ({ cls := "com/example/hedged_dispatch/hedgeddispatch/stn/NodeQueue", name := "poll", desc := "()I" } : Jvm.MethodName) prog_77_method_6_code (2 : Nat) (Option.some Jvm.ClassFile.FieldType.int), Jvm.Cond.code ({ cls := "com/example/hedged_dispatch/hedgeddispatch/stn/NodeQueue", name := "remove", desc := "(I)V" } : Jvm.MethodName) prog_77_method_7_code (4 : Nat) (Option.none : Option Jvm.ClassFile.FieldType), Jvm.Cond.code ({ cls := "com/example/hedged_dispatch/hedgeddispatch/stn/Adjacency", name := "start", desc := "(I)I" } : Jvm.MethodName) prog_71_method_4_code (2 : Nat) (Option.some Jvm.ClassFile.FieldType.int), Jvm.Cond.code ({ cls := "com/example/hedged_dispatch/hedgeddispatch/stn/Adjacency", name := "end", desc := "(I)I" } : Jvm.MethodName) prog_71_method_5_code (2 : Nat) (Option.some Jvm.ClassFile.FieldType.int), Jvm.Cond.code ({ cls := "com/example/hedged_dispatch/hedgeddispatch/stn/Adjacency", name := "node", desc := "(I)I" } : Jvm.MethodName) prog_71_method_6_code (2 : Nat) (Option.some Jvm.ClassFile.FieldType.int), Jvm.Cond.code ({ cls := "com/example/hedged_dispatch/hedgeddispatch/stn/Adjacency", name := "weight", desc := "(I)J" } : Jvm.MethodName) prog_71_method_7_code (2 : Nat) (Option.some Jvm.ClassFile.FieldType.long), Jvm.Cond.code ({ cls := "com/example/hedged_dispatch/hedgeddispatch/stn/NodeQueue", name := "before", desc := "(II)Z" } : Jvm.MethodName) prog_77_method_11_code (3 : Nat) (Option.some Jvm.ClassFile.FieldType.boolean), Jvm.Cond.code ({ cls := "com/example/hedged_dispatch/hedgeddispatch/stn/NodeQueue", name := "siftDown", desc := "(I)V" } : Jvm.MethodName) prog_77_method_10_code (5 : Nat) (Option.none : Option Jvm.ClassFile.FieldType), Jvm.Cond.code ({ cls := "com/example/hedged_dispatch/hedgeddispatch/stn/VeePaths", name := "length", desc := "(I)J" } : Jvm.MethodName) prog_82_method_3_code (4 : Nat) (Option.some Jvm.ClassFile.FieldType.long)]
set_option maxRecDepth 65536 in
theorem codes_eq : words1.filter isCode = codes1 := rfl
theorem w_codes : ∀ c ∈ words1.filter isCode, c.before args0 about1 = true := by
  rw [codes_eq]
  intro c hc
  simp only [codes1, List.mem_cons, List.not_mem_nil, or_false] at hc
  rcases hc with rfl | rfl | rfl | rfl | rfl | rfl | rfl | rfl | rfl | rfl | rfl | rfl | rfl | rfl | rfl | rfl | rfl | rfl | rfl | rfl | rfl | rfl | rfl | rfl | rfl
  · exact w_c0
  · exact w_c1
  · exact w_c2
  · exact w_c3
  · exact w_c4
  · exact w_c5
  · exact w_c6
  · exact w_c7
  · exact w_c8
  · exact w_c9
  · exact w_c10
  · exact w_c11
  · exact w_c12
  · exact w_c13
  · exact w_c14
  · exact w_c15
  · exact w_c16
  · exact w_c17
  · exact w_c18
  · exact w_c19
  · exact w_c20
  · exact w_c21
  · exact w_c22
  · exact w_c23
  · exact w_c24
set_option maxRecDepth 65536 in
theorem w_t1 : (words1.take 24).all (fun c => isCode c || c.before args0 about1) = true := by decide +kernel
set_option maxRecDepth 65536 in
theorem w_t2 : ((words1.drop 24).take 24).all (fun c => isCode c || c.before args0 about1) = true := by decide +kernel
set_option maxRecDepth 65536 in
theorem w_t3 : (((words1.drop 24).drop 24).take 24).all (fun c => isCode c || c.before args0 about1) = true := by decide +kernel
set_option maxRecDepth 65536 in
theorem w_t4 : ((((words1.drop 24).drop 24).drop 24).take 24).all (fun c => isCode c || c.before args0 about1) = true := by decide +kernel
set_option maxRecDepth 65536 in
theorem w_t5 : (((((words1.drop 24).drop 24).drop 24).drop 24).take 24).all (fun c => isCode c || c.before args0 about1) = true := by decide +kernel
set_option maxRecDepth 65536 in
theorem w_t6 : ((((((words1.drop 24).drop 24).drop 24).drop 24).drop 24).take 24).all (fun c => isCode c || c.before args0 about1) = true := by decide +kernel
set_option maxRecDepth 65536 in
theorem w_t7 : ((((((words1.drop 24).drop 24).drop 24).drop 24).drop 24).drop 24).all (fun c => isCode c || c.before args0 about1) = true := by decide +kernel
theorem w_tables : (allAtoms (Jvm.Cond.code x code maxLocals ret :: tables_1)).before args0 about1 = true := by
  rw [allAtoms_all]
  show words1.all (fun c => c.before args0 about1) = true
  refine all_split ?_ w_codes
  rw [← List.take_append_drop 24 words1, List.all_append, w_t1, ← List.take_append_drop 24 (words1.drop 24), List.all_append, w_t2, ← List.take_append_drop 24 ((words1.drop 24).drop 24), List.all_append, w_t3, ← List.take_append_drop 24 (((words1.drop 24).drop 24).drop 24), List.all_append, w_t4, ← List.take_append_drop 24 ((((words1.drop 24).drop 24).drop 24).drop 24), List.all_append, w_t5, ← List.take_append_drop 24 (((((words1.drop 24).drop 24).drop 24).drop 24).drop 24), List.all_append, w_t6, w_t7]
  rfl
set_option maxRecDepth 65536 in
theorem w_case : (Jvm.Cond.and given_1 narrow_1).before args0 about1 = true := by decide +kernel
theorem w_applies : (headSpec (Jvm.Cond.code x code maxLocals ret :: tables_1) room_1).applies x e0.platform about1 = true :=
  (Spec.applies_iff w_frames).mpr ⟨w_running, w_runnable, w_alone, w_named, w_hears, w_ripe, w_room, w_tables⟩
theorem atStart : AtStart classFile x code maxLocals ret World_1 tables_1 room_1 Calls_1 rest_1 Pre_1 launch0 p0 e0 about1 theMethod args0 below0 :=
  ⟨lists_1, trivial, launch0.admits_env _ _ _, launch0.least_env, fairChoices_fair.cas, fairChoices_fair.clock, w_frames, w_args, w_heap, w_applies, trivial, trivial, w_case⟩
end start1
theorem witness_1 : WitnessClaimed_1 := ⟨start1.p0, start1.e0, start1.about1, start1.theMethod, start1.args0, start1.below0, start1.atStart⟩
end Jvm.Pilot.@@N@@
