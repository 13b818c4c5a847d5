import JvmDerived
import JvmDerived.Pilot.@@N@@Statement
import JvmDerived.Pilot.@@N@@Code
set_option linter.unusedVariables false
set_option linter.unusedSimpArgs false
namespace Jvm.Pilot.@@N@@
open Jvm Jvm.ClassFile Sem Op Lib Jvm.Free Jvm.Stand Jvm.LawKit Jvm.RoadKit Bundle Jvm.Pilot.@@N@@.Jvm.D

/-! ### the own kit: a walk's goal in continuation form -/
def Go (p : Program) (e : Env) (below : List Frame) (Φ : Outcome → State → Prop) (U : State) : Prop :=
  ∃ s₂ o, Steps p.tables e below U s₂ ∧ s₂.status = .running ∧ Ended s₂ below o ∧ Φ o s₂
def Fin0 (s : State) (rm : Room) (Q : Option Value → Heap → List Loc → Prop) : Outcome → State → Prop :=
  fun o U' => ∃ v L, o = .returned v ∧ Q v U'.heap L ∧ FrameEnd s o U' L rm.cells rm.slots
abbrev Ctr (l : Launch) (Z : State) (y : MethodName) (bytes : ByteArray) (ml : Nat) (rt : Option FieldType) (rm : Room) (ws : List Jvm.Cond) (as' : Array Value) (h0 : Heap) (Q : Option Value → Heap → List Loc → Prop) : Prop :=
  MetFree l y (head1 (Jvm.Cond.code y bytes ml rt :: ws) rm) (fun a U => a = as' ∧ Z.Warmed39 U.vm ∧ U.heap = h0) (fun _ _ _ _ _ => True) (fun _ U o U' => ∃ v L, o = .returned v ∧ Q v U'.heap L ∧ FrameEnd U o U' L rm.cells rm.slots)
def b2i (b : Bool) : Int32 := if b then 1 else 0
theorem b2i_t : b2i true = 1 := rfl
theorem b2i_f : b2i false = 0 := rfl
theorem b2i_nar (b : Bool) : nar .boolean (b2i b) = b2i b := by cases b <;> rfl
theorem b2i_or (b : Bool) : (b = true ∧ (b2i b).toInt = 1) ∨ (b = false ∧ (b2i b).toInt = 0) := by cases b <;> decide
theorem b2i_dec {P : Prop} [Decidable P] : (P ∧ (b2i (decide P)).toInt = 1) ∨ (¬ P ∧ (b2i (decide P)).toInt = 0) := by
  by_cases h : P
  · exact Or.inl ⟨h, by rw [decide_eq_true h]; rfl⟩
  · exact Or.inr ⟨h, by rw [decide_eq_false h]; rfl⟩
theorem b2i_inj {a b : Bool} : b2i a = b2i b ↔ a = b := by cases a <;> cases b <;> decide
theorem i32e {x y : Int32} : x = y ↔ x.toInt = y.toInt := Int32.toInt_inj.symm
theorem i64e {x y : Int64} : x = y ↔ x.toInt = y.toInt := Int64.toInt_inj.symm
theorem okB {b : Bool} (h : b = true) : some (Value.int (b2i b)) = some (Value.int 1) := by rw [h]; rfl
theorem eqT {P : Prop} [Decidable P] (h : P) : some (Value.int (b2i true)) = some (Value.int (b2i (decide P))) := by rw [decide_eq_true h]
theorem eqF {P : Prop} [Decidable P] (h : ¬ P) : some (Value.int (b2i false)) = some (Value.int (b2i (decide P))) := by rw [decide_eq_false h]
theorem eqD {P Q : Prop} [Decidable P] [Decidable Q] (h : Q ↔ P) : some (Value.int (b2i (decide Q))) = some (Value.int (b2i (decide P))) := by rw [decide_eq_decide.mpr h]
theorem eqB {P : Prop} [Decidable P] {b : Bool} (h : b = true ↔ P) : some (Value.int (b2i b)) = some (Value.int (b2i (decide P))) := by
  rw [show b = decide P from by by_cases q : P <;> simp [q, h] <;> (cases b <;> simp_all)]
/-- what a pure callee leaves that returns an int (a long) of which P is said -/
def IQ (P : Int32 → Prop) (h0 : Heap) : Option Value → Heap → List Loc → Prop := fun v h L => ∃ r, v = some (.int r) ∧ P r ∧ h = h0 ∧ L = []
def JQ (P : Int64 → Prop) (h0 : Heap) : Option Value → Heap → List Loc → Prop := fun v h L => ∃ r, v = some (.long r) ∧ P r ∧ h = h0 ∧ L = []
/-- what a pure callee leaves -/
def PQ (r : Value) (h0 : Heap) : Option Value → Heap → List Loc → Prop := fun v h L => v = some r ∧ h = h0 ∧ L = []
theorem Ctr.of {l : Launch} {Z : State} {y : MethodName} {bytes : ByteArray} {ml : Nat} {rt : Option FieldType} {rm : Room} {ws : List Jvm.Cond} {as' : Array Value} {h0 : Heap} {Q : Option Value → Heap → List Loc → Prop} (hp : plainFor y = true)
    (body : ∀ (p : Program) (e : Env) (s : State) (m : MethodId) (below : List Frame) (meth : Method) (c : Code) (s₁ : State), p.tables.exec = Jvm.exec → c.code = bytes → c.maxLocals = ml → meth.sig.returnType = rt → meth.locks = false → meth.name = y.name → s.vm.findClass y.cls = some m.cls → Z.Warmed39 s.vm → Stand p l e rm s m as' below meth c s₁ [] 0 0 → s₁.heap = h0 →
      Go p e below (Fin0 s rm Q) (s₁.setTop (entryFrame m as' ml))) : Ctr l Z y bytes ml rt rm ws as' h0 Q := by
  refine MetFree.of_bodySF hp hisR ?_
  intro p e s m args below meth c s₁ Bd hml0 hP hK
  obtain ⟨rfl, hZ, hh⟩ := hP
  obtain ⟨s₂, o, g1, g2, g3, v, L, g4, g5, g6⟩ := body p e s m below meth c s₁ Bd.exec Bd.bytes hml0 Bd.returns Bd.notSynchronized (name_of_methodNamed Bd.named Bd.method).1 (findClass_of_methodNamed Bd.named) hZ (Stand.of_body Bd) (by rw [← hh, Bd.state]; rfl)
  exact ⟨s₂, o, g1, g2, g3, v, L, g4, g5, g6⟩
theorem st_one {L L' : Array Slot} {i : Nat} {o : Slot} {v : Value} (h : L[i]? = some o) (ho : One o) (hv : v.category = 1) (hL : L.setIfInBounds i (.val v) = L') : storeLocals L i v = some L' := by
  rw [XS.store1 h ho hv, hL]
section OwnKit
variable {p : Program} {l : Launch} {e : Env} {R : Room} {s : State} {m : MethodId} {args : Array Value} {below : List Frame} {meth : Method} {c : Code} {T : State} {locs : List Loc} {cells slots : Nat} {Z : State} {a0 : Array Value} {h : Heap} {Φ : Outcome → State → Prop} {pc q : Nat} {L : Array Slot} {S : List Value}
theorem Go.by {U U' : State} (h : ∀ t, Steps p.tables e below U' t → Steps p.tables e below U t) (k : Go p e below Φ U') : Go p e below Φ U := by
  obtain ⟨s₂, o, h1, r⟩ := k; exact ⟨s₂, o, h _ h1, r⟩
theorem Go.cast {g g' : JFrame} (q : g = g') (k : Go p e below Φ (T.setTop g')) : Go p e below Φ (T.setTop g) := q ▸ k
theorem g_iloadN (hA : At T m c below) (hx : p.tables.exec = Jvm.exec) {j : Fin 4} {v : Int32} (hd : decode c.code pc = .ok (.iload_n j, 1)) (hl : L[j.val]? = some (.val (.int v))) (hq : pc + 1 = q) (k : Go p e below Φ (T.setTop (mkF m q L (.int v :: S)))) : Go p e below Φ (T.setTop (mkF m pc L S)) := by
  subst hq; exact Go.by (fun _ => XS.iloadN hA hx rfl hd hl) k
theorem g_iload (hA : At T m c below) (hx : p.tables.exec = Jvm.exec) {j : Nat} {v : Int32} (hd : decode c.code pc = .ok (.iload j, 2)) (hl : L[j]? = some (.val (.int v))) (hq : pc + 2 = q) (k : Go p e below Φ (T.setTop (mkF m q L (.int v :: S)))) : Go p e below Φ (T.setTop (mkF m pc L S)) := by
  subst hq; exact Go.by (fun _ => XS.iload hA hx rfl hd hl) k
theorem g_istoreN (hA : At T m c below) (hx : p.tables.exec = Jvm.exec) {j : Fin 4} {v : Int32} {L' : Array Slot} (hd : decode c.code pc = .ok (.istore_n j, 1)) (hl : storeLocals L j.val (.int v) = some L') (hq : pc + 1 = q) (k : Go p e below Φ (T.setTop (mkF m q L' S))) : Go p e below Φ (T.setTop (mkF m pc L (.int v :: S))) := by
  subst hq; exact Go.by (fun _ => XS.istoreN hA hx rfl hd rfl hl) k
theorem g_istore (hA : At T m c below) (hx : p.tables.exec = Jvm.exec) {j : Nat} {v : Int32} {L' : Array Slot} (hd : decode c.code pc = .ok (.istore j, 2)) (hl : storeLocals L j (.int v) = some L') (hq : pc + 2 = q) (k : Go p e below Φ (T.setTop (mkF m q L' S))) : Go p e below Φ (T.setTop (mkF m pc L (.int v :: S))) := by
  subst hq; exact Go.by (fun _ => XS.istore hA hx rfl hd rfl hl) k
theorem g_lloadN (hA : At T m c below) (hx : p.tables.exec = Jvm.exec) {j : Fin 4} {v : Int64} (hd : decode c.code pc = .ok (.lload_n j, 1)) (hl : L[j.val]? = some (.val (.long v))) (hq : pc + 1 = q) (k : Go p e below Φ (T.setTop (mkF m q L (.long v :: S)))) : Go p e below Φ (T.setTop (mkF m pc L S)) := by
  subst hq; exact Go.by (fun _ => XS.lloadN hA hx rfl hd hl) k
theorem g_lload (hA : At T m c below) (hx : p.tables.exec = Jvm.exec) {j : Nat} {v : Int64} (hd : decode c.code pc = .ok (.lload j, 2)) (hl : L[j]? = some (.val (.long v))) (hq : pc + 2 = q) (k : Go p e below Φ (T.setTop (mkF m q L (.long v :: S)))) : Go p e below Φ (T.setTop (mkF m pc L S)) := by
  subst hq; exact Go.by (fun _ => XS.lload hA hx rfl hd hl) k
theorem g_lstoreN (hA : At T m c below) (hx : p.tables.exec = Jvm.exec) {j : Fin 4} {v : Int64} {L' : Array Slot} (hd : decode c.code pc = .ok (.lstore_n j, 1)) (hl : storeLocals L j.val (.long v) = some L') (hq : pc + 1 = q) (k : Go p e below Φ (T.setTop (mkF m q L' S))) : Go p e below Φ (T.setTop (mkF m pc L (.long v :: S))) := by
  subst hq; exact Go.by (fun _ => XS.lstoreN hA hx rfl hd rfl hl) k
theorem g_lstore (hA : At T m c below) (hx : p.tables.exec = Jvm.exec) {j : Nat} {v : Int64} {L' : Array Slot} (hd : decode c.code pc = .ok (.lstore j, 2)) (hl : storeLocals L j (.long v) = some L') (hq : pc + 2 = q) (k : Go p e below Φ (T.setTop (mkF m q L' S))) : Go p e below Φ (T.setTop (mkF m pc L (.long v :: S))) := by
  subst hq; exact Go.by (fun _ => XS.lstore hA hx rfl hd rfl hl) k
theorem g_aloadN (hA : At T m c below) (hx : p.tables.exec = Jvm.exec) {j : Fin 4} {v : Value} (hd : decode c.code pc = .ok (.aload_n j, 1)) (hl : L[j.val]? = some (.val v)) (hv : v.isRef = true) (hq : pc + 1 = q) (k : Go p e below Φ (T.setTop (mkF m q L (v :: S)))) : Go p e below Φ (T.setTop (mkF m pc L S)) := by
  subst hq; exact Go.by (fun _ => XS.aloadN hA hx rfl hd hl hv) k
theorem g_aload (hA : At T m c below) (hx : p.tables.exec = Jvm.exec) {j : Nat} {v : Value} (hd : decode c.code pc = .ok (.aload j, 2)) (hl : L[j]? = some (.val v)) (hv : v.isRef = true) (hq : pc + 2 = q) (k : Go p e below Φ (T.setTop (mkF m q L (v :: S)))) : Go p e below Φ (T.setTop (mkF m pc L S)) := by
  subst hq; exact Go.by (fun _ => XS.aload hA hx rfl hd hl hv) k
theorem g_astoreN (hA : At T m c below) (hx : p.tables.exec = Jvm.exec) {j : Fin 4} {v : Value} {L' : Array Slot} (hd : decode c.code pc = .ok (.astore_n j, 1)) (hv : v.isRef = true) (hl : storeLocals L j.val v = some L') (hq : pc + 1 = q) (k : Go p e below Φ (T.setTop (mkF m q L' S))) : Go p e below Φ (T.setTop (mkF m pc L (v :: S))) := by
  subst hq; exact Go.by (fun _ => XS.astoreN hA hx rfl hd rfl hv hl) k
theorem g_astore (hA : At T m c below) (hx : p.tables.exec = Jvm.exec) {j : Nat} {v : Value} {L' : Array Slot} (hd : decode c.code pc = .ok (.astore j, 2)) (hv : v.isRef = true) (hl : storeLocals L j v = some L') (hq : pc + 2 = q) (k : Go p e below Φ (T.setTop (mkF m q L' S))) : Go p e below Φ (T.setTop (mkF m pc L (v :: S))) := by
  subst hq; exact Go.by (fun _ => XS.astore hA hx rfl hd rfl hv hl) k
theorem g_iconst (hA : At T m c below) (hx : p.tables.exec = Jvm.exec) {i : Int} {v : Int32} (hd : decode c.code pc = .ok (.iconst i, 1)) (hv : Int32.ofInt i = v) (hq : pc + 1 = q) (k : Go p e below Φ (T.setTop (mkF m q L (.int v :: S)))) : Go p e below Φ (T.setTop (mkF m pc L S)) := by
  subst hq hv; exact Go.by (fun _ => XS.iconst hA hx rfl hd) k
theorem g_bipush (hA : At T m c below) (hx : p.tables.exec = Jvm.exec) {i : Int} {v : Int32} (hd : decode c.code pc = .ok (.bipush i, 2)) (hv : (Int8.ofInt i).toInt32 = v) (hq : pc + 2 = q) (k : Go p e below Φ (T.setTop (mkF m q L (.int v :: S)))) : Go p e below Φ (T.setTop (mkF m pc L S)) := by
  subst hq hv; exact Go.by (fun _ => XS.bipush hA hx rfl hd) k
theorem g_sipush (hA : At T m c below) (hx : p.tables.exec = Jvm.exec) {i : Int} {v : Int32} (hd : decode c.code pc = .ok (.sipush i, 3)) (hv : (Int16.ofInt i).toInt32 = v) (hq : pc + 3 = q) (k : Go p e below Φ (T.setTop (mkF m q L (.int v :: S)))) : Go p e below Φ (T.setTop (mkF m pc L S)) := by
  subst hq hv; exact Go.by (fun _ => XS.sipush hA hx rfl hd) k
theorem g_lconst0 (hA : At T m c below) (hx : p.tables.exec = Jvm.exec) (hd : decode c.code pc = .ok (.lconst 0, 1)) (hq : pc + 1 = q) (k : Go p e below Φ (T.setTop (mkF m q L (.long 0 :: S)))) : Go p e below Φ (T.setTop (mkF m pc L S)) := by
  subst hq; exact Go.by (fun _ => XS.lconst hA hx rfl hd) k
theorem g_lconst1 (hA : At T m c below) (hx : p.tables.exec = Jvm.exec) (hd : decode c.code pc = .ok (.lconst 1, 1)) (hq : pc + 1 = q) (k : Go p e below Φ (T.setTop (mkF m q L (.long 1 :: S)))) : Go p e below Φ (T.setTop (mkF m pc L S)) := by
  subst hq; exact Go.by (fun _ => XS.lconst hA hx rfl hd) k
theorem g_aconst_null (hA : At T m c below) (hx : p.tables.exec = Jvm.exec) (hd : decode c.code pc = .ok (.aconst_null, 1)) (hq : pc + 1 = q) (k : Go p e below Φ (T.setTop (mkF m q L (.null :: S)))) : Go p e below Φ (T.setTop (mkF m pc L S)) := by
  subst hq; exact Go.by (fun _ => XS.aconstNull hA hx rfl hd) k
theorem g_iadd (hA : At T m c below) (hx : p.tables.exec = Jvm.exec) {x y : Int32} (hd : decode c.code pc = .ok (.iadd, 1)) (hq : pc + 1 = q) (k : Go p e below Φ (T.setTop (mkF m q L (.int (x + y) :: S)))) : Go p e below Φ (T.setTop (mkF m pc L (.int y :: .int x :: S))) := by
  subst hq; exact Go.by (fun _ => XS.iadd hA hx rfl hd rfl) k
theorem g_isub (hA : At T m c below) (hx : p.tables.exec = Jvm.exec) {x y : Int32} (hd : decode c.code pc = .ok (.isub, 1)) (hq : pc + 1 = q) (k : Go p e below Φ (T.setTop (mkF m q L (.int (x - y) :: S)))) : Go p e below Φ (T.setTop (mkF m pc L (.int y :: .int x :: S))) := by
  subst hq; exact Go.by (fun _ => XS.isub hA hx rfl hd rfl) k
theorem g_imul (hA : At T m c below) (hx : p.tables.exec = Jvm.exec) {x y : Int32} (hd : decode c.code pc = .ok (.imul, 1)) (hq : pc + 1 = q) (k : Go p e below Φ (T.setTop (mkF m q L (.int (x * y) :: S)))) : Go p e below Φ (T.setTop (mkF m pc L (.int y :: .int x :: S))) := by
  subst hq; exact Go.by (fun _ => XS.imul hA hx rfl hd rfl) k
theorem g_iand (hA : At T m c below) (hx : p.tables.exec = Jvm.exec) {x y : Int32} (hd : decode c.code pc = .ok (.iand, 1)) (hq : pc + 1 = q) (k : Go p e below Φ (T.setTop (mkF m q L (.int (x &&& y) :: S)))) : Go p e below Φ (T.setTop (mkF m pc L (.int y :: .int x :: S))) := by
  subst hq; exact Go.by (fun _ => XS.iand hA hx rfl hd rfl) k
theorem g_ior (hA : At T m c below) (hx : p.tables.exec = Jvm.exec) {x y : Int32} (hd : decode c.code pc = .ok (.ior, 1)) (hq : pc + 1 = q) (k : Go p e below Φ (T.setTop (mkF m q L (.int (x ||| y) :: S)))) : Go p e below Φ (T.setTop (mkF m pc L (.int y :: .int x :: S))) := by
  subst hq; exact Go.by (fun _ => XS.ior hA hx rfl hd rfl) k
theorem g_ixor (hA : At T m c below) (hx : p.tables.exec = Jvm.exec) {x y : Int32} (hd : decode c.code pc = .ok (.ixor, 1)) (hq : pc + 1 = q) (k : Go p e below Φ (T.setTop (mkF m q L (.int (x ^^^ y) :: S)))) : Go p e below Φ (T.setTop (mkF m pc L (.int y :: .int x :: S))) := by
  subst hq; exact Go.by (fun _ => XS.ixor hA hx rfl hd rfl) k
theorem g_ishl (hA : At T m c below) (hx : p.tables.exec = Jvm.exec) {x y : Int32} (hd : decode c.code pc = .ok (.ishl, 1)) (hq : pc + 1 = q) (k : Go p e below Φ (T.setTop (mkF m q L (.int (x <<< (y &&& 31)) :: S)))) : Go p e below Φ (T.setTop (mkF m pc L (.int y :: .int x :: S))) := by
  subst hq; exact Go.by (fun _ => XS.ishl hA hx rfl hd rfl) k
theorem g_ishr (hA : At T m c below) (hx : p.tables.exec = Jvm.exec) {x y : Int32} (hd : decode c.code pc = .ok (.ishr, 1)) (hq : pc + 1 = q) (k : Go p e below Φ (T.setTop (mkF m q L (.int (x >>> (y &&& 31)) :: S)))) : Go p e below Φ (T.setTop (mkF m pc L (.int y :: .int x :: S))) := by
  subst hq; exact Go.by (fun _ => XS.ishr hA hx rfl hd rfl) k
theorem g_iushr (hA : At T m c below) (hx : p.tables.exec = Jvm.exec) {x y : Int32} (hd : decode c.code pc = .ok (.iushr, 1)) (hq : pc + 1 = q) (k : Go p e below Φ (T.setTop (mkF m q L (.int ((x.toUInt32 >>> (y &&& 31).toUInt32).toInt32) :: S)))) : Go p e below Φ (T.setTop (mkF m pc L (.int y :: .int x :: S))) := by
  subst hq; exact Go.by (fun _ => XS.iushr hA hx rfl hd rfl) k
theorem g_ladd (hA : At T m c below) (hx : p.tables.exec = Jvm.exec) {x y : Int64} (hd : decode c.code pc = .ok (.ladd, 1)) (hq : pc + 1 = q) (k : Go p e below Φ (T.setTop (mkF m q L (.long (x + y) :: S)))) : Go p e below Φ (T.setTop (mkF m pc L (.long y :: .long x :: S))) := by
  subst hq; exact Go.by (fun _ => XS.ladd hA hx rfl hd rfl) k
theorem g_lsub (hA : At T m c below) (hx : p.tables.exec = Jvm.exec) {x y : Int64} (hd : decode c.code pc = .ok (.lsub, 1)) (hq : pc + 1 = q) (k : Go p e below Φ (T.setTop (mkF m q L (.long (x - y) :: S)))) : Go p e below Φ (T.setTop (mkF m pc L (.long y :: .long x :: S))) := by
  subst hq; exact Go.by (fun _ => XS.lsub hA hx rfl hd rfl) k
theorem g_lmul (hA : At T m c below) (hx : p.tables.exec = Jvm.exec) {x y : Int64} (hd : decode c.code pc = .ok (.lmul, 1)) (hq : pc + 1 = q) (k : Go p e below Φ (T.setTop (mkF m q L (.long (x * y) :: S)))) : Go p e below Φ (T.setTop (mkF m pc L (.long y :: .long x :: S))) := by
  subst hq; exact Go.by (fun _ => XS.lmul hA hx rfl hd rfl) k
theorem g_land (hA : At T m c below) (hx : p.tables.exec = Jvm.exec) {x y : Int64} (hd : decode c.code pc = .ok (.land, 1)) (hq : pc + 1 = q) (k : Go p e below Φ (T.setTop (mkF m q L (.long (x &&& y) :: S)))) : Go p e below Φ (T.setTop (mkF m pc L (.long y :: .long x :: S))) := by
  subst hq; exact Go.by (fun _ => XS.land hA hx rfl hd rfl) k
theorem g_lor (hA : At T m c below) (hx : p.tables.exec = Jvm.exec) {x y : Int64} (hd : decode c.code pc = .ok (.lor, 1)) (hq : pc + 1 = q) (k : Go p e below Φ (T.setTop (mkF m q L (.long (x ||| y) :: S)))) : Go p e below Φ (T.setTop (mkF m pc L (.long y :: .long x :: S))) := by
  subst hq; exact Go.by (fun _ => XS.lor hA hx rfl hd rfl) k
theorem g_lxor (hA : At T m c below) (hx : p.tables.exec = Jvm.exec) {x y : Int64} (hd : decode c.code pc = .ok (.lxor, 1)) (hq : pc + 1 = q) (k : Go p e below Φ (T.setTop (mkF m q L (.long (x ^^^ y) :: S)))) : Go p e below Φ (T.setTop (mkF m pc L (.long y :: .long x :: S))) := by
  subst hq; exact Go.by (fun _ => XS.lxor hA hx rfl hd rfl) k
theorem g_lshl (hA : At T m c below) (hx : p.tables.exec = Jvm.exec) {x : Int64} {y : Int32} (hd : decode c.code pc = .ok (.lshl, 1)) (hq : pc + 1 = q) (k : Go p e below Φ (T.setTop (mkF m q L (.long (x <<< (y &&& 0x3f).toInt64) :: S)))) : Go p e below Φ (T.setTop (mkF m pc L (.int y :: .long x :: S))) := by
  subst hq; exact Go.by (fun _ => XS.lshl hA hx rfl hd rfl) k
theorem g_lshr (hA : At T m c below) (hx : p.tables.exec = Jvm.exec) {x : Int64} {y : Int32} (hd : decode c.code pc = .ok (.lshr, 1)) (hq : pc + 1 = q) (k : Go p e below Φ (T.setTop (mkF m q L (.long (x >>> (y &&& 0x3f).toInt64) :: S)))) : Go p e below Φ (T.setTop (mkF m pc L (.int y :: .long x :: S))) := by
  subst hq; exact Go.by (fun _ => XS.lshr hA hx rfl hd rfl) k
theorem g_lushr (hA : At T m c below) (hx : p.tables.exec = Jvm.exec) {x : Int64} {y : Int32} (hd : decode c.code pc = .ok (.lushr, 1)) (hq : pc + 1 = q) (k : Go p e below Φ (T.setTop (mkF m q L (.long ((x.toUInt64 >>> (y &&& 0x3f).toInt64.toUInt64).toInt64) :: S)))) : Go p e below Φ (T.setTop (mkF m pc L (.int y :: .long x :: S))) := by
  subst hq; exact Go.by (fun _ => XS.lushr hA hx rfl hd rfl) k
theorem g_idiv (hA : At T m c below) (hx : p.tables.exec = Jvm.exec) {x y : Int32} (hd : decode c.code pc = .ok (.idiv, 1)) (hy : y ≠ 0) (hq : pc + 1 = q) (k : Go p e below Φ (T.setTop (mkF m q L (.int (x / y) :: S)))) : Go p e below Φ (T.setTop (mkF m pc L (.int y :: .int x :: S))) := by
  subst hq; exact Go.by (fun _ => XS.idiv hA hx rfl hd rfl hy) k
theorem g_irem (hA : At T m c below) (hx : p.tables.exec = Jvm.exec) {x y : Int32} (hd : decode c.code pc = .ok (.irem, 1)) (hy : y ≠ 0) (hq : pc + 1 = q) (k : Go p e below Φ (T.setTop (mkF m q L (.int (x % y) :: S)))) : Go p e below Φ (T.setTop (mkF m pc L (.int y :: .int x :: S))) := by
  subst hq; exact Go.by (fun _ => fun r => XS.irem hA hx rfl hd rfl hy (by rw [irem_eq_mod x y]; exact r)) k
theorem g_ldiv (hA : At T m c below) (hx : p.tables.exec = Jvm.exec) {x y : Int64} (hd : decode c.code pc = .ok (.ldiv, 1)) (hy : y ≠ 0) (hq : pc + 1 = q) (k : Go p e below Φ (T.setTop (mkF m q L (.long (x / y) :: S)))) : Go p e below Φ (T.setTop (mkF m pc L (.long y :: .long x :: S))) := by
  subst hq; exact Go.by (fun _ => XS.ldiv hA hx rfl hd rfl hy) k
theorem g_lrem (hA : At T m c below) (hx : p.tables.exec = Jvm.exec) {x y : Int64} (hd : decode c.code pc = .ok (.lrem, 1)) (hy : y ≠ 0) (hq : pc + 1 = q) (k : Go p e below Φ (T.setTop (mkF m q L (.long (x % y) :: S)))) : Go p e below Φ (T.setTop (mkF m pc L (.long y :: .long x :: S))) := by
  subst hq; exact Go.by (fun _ => fun r => XS.lrem hA hx rfl hd rfl hy (by rw [lrem_mod x y]; exact r)) k
theorem g_ineg (hA : At T m c below) (hx : p.tables.exec = Jvm.exec) {x : Int32} (hd : decode c.code pc = .ok (.ineg, 1)) (hq : pc + 1 = q) (k : Go p e below Φ (T.setTop (mkF m q L (.int (-x) :: S)))) : Go p e below Φ (T.setTop (mkF m pc L (.int x :: S))) := by
  subst hq; exact Go.by (fun _ => XS.ineg hA hx rfl hd rfl) k
theorem g_i2l (hA : At T m c below) (hx : p.tables.exec = Jvm.exec) {x : Int32} (hd : decode c.code pc = .ok (.i2l, 1)) (hq : pc + 1 = q) (k : Go p e below Φ (T.setTop (mkF m q L (.long x.toInt64 :: S)))) : Go p e below Φ (T.setTop (mkF m pc L (.int x :: S))) := by
  subst hq; exact Go.by (fun _ => XS.i2l hA hx rfl hd rfl) k
theorem g_l2i (hA : At T m c below) (hx : p.tables.exec = Jvm.exec) {x : Int64} (hd : decode c.code pc = .ok (.l2i, 1)) (hq : pc + 1 = q) (k : Go p e below Φ (T.setTop (mkF m q L (.int x.toInt32 :: S)))) : Go p e below Φ (T.setTop (mkF m pc L (.long x :: S))) := by
  subst hq; exact Go.by (fun _ => XS.l2i hA hx rfl hd rfl) k
theorem g_i2c (hA : At T m c below) (hx : p.tables.exec = Jvm.exec) {x : Int32} (hd : decode c.code pc = .ok (.i2c, 1)) (hq : pc + 1 = q) (k : Go p e below Φ (T.setTop (mkF m q L (.int x.toUInt32.toUInt16.toUInt32.toInt32 :: S)))) : Go p e below Φ (T.setTop (mkF m pc L (.int x :: S))) := by
  subst hq; exact Go.by (fun _ => XS.i2c hA hx rfl hd rfl) k
theorem g_lcmp (hA : At T m c below) (hx : p.tables.exec = Jvm.exec) {x y : Int64} (hd : decode c.code pc = .ok (.lcmp, 1)) (hq : pc + 1 = q) (k : Go p e below Φ (T.setTop (mkF m q L (.int (lcmpW x y) :: S)))) : Go p e below Φ (T.setTop (mkF m pc L (.long y :: .long x :: S))) := by
  subst hq; exact Go.by (fun _ => XS.lcmp hA hx rfl hd rfl) k
theorem g_iinc (hA : At T m c below) (hx : p.tables.exec = Jvm.exec) {j : Nat} {i : Int} {x v : Int32} {L' : Array Slot} (hd : decode c.code pc = .ok (.iinc j i, 3)) (hl : L[j]? = some (.val (.int x))) (hv : x + Int32.ofInt i = v) (hl' : storeLocals L j (.int v) = some L') (hq : pc + 3 = q) (k : Go p e below Φ (T.setTop (mkF m q L' S))) : Go p e below Φ (T.setTop (mkF m pc L S)) := by
  subst hq; exact Go.by (fun _ => XS.iinc hA hx rfl hd hl (by rw [hv]; exact hl')) k
theorem g_dup (hA : At T m c below) (hx : p.tables.exec = Jvm.exec) {v : Value} (hd : decode c.code pc = .ok (.dup, 1)) (hv : v.category = 1) (hq : pc + 1 = q) (k : Go p e below Φ (T.setTop (mkF m q L (v :: v :: S)))) : Go p e below Φ (T.setTop (mkF m pc L (v :: S))) := by
  subst hq; exact Go.by (fun _ => XS.dup hA hx rfl hd rfl hv) k
theorem g_pop (hA : At T m c below) (hx : p.tables.exec = Jvm.exec) {v : Value} (hd : decode c.code pc = .ok (.pop, 1)) (hv : v.category = 1) (hq : pc + 1 = q) (k : Go p e below Φ (T.setTop (mkF m q L S))) : Go p e below Φ (T.setTop (mkF m pc L (v :: S))) := by
  subst hq; exact Go.by (fun _ => XS.pop hA hx rfl hd rfl hv) k
theorem g_dupX1 (hA : At T m c below) (hx : p.tables.exec = Jvm.exec) {v w : Value} (hd : decode c.code pc = .ok (.dup_x1, 1)) (hv : v.category = 1) (hw' : w.category = 1) (hq : pc + 1 = q) (k : Go p e below Φ (T.setTop (mkF m q L (v :: w :: v :: S)))) : Go p e below Φ (T.setTop (mkF m pc L (v :: w :: S))) := by
  subst hq; exact Go.by (fun _ => XS.dupX1 hA hx rfl hd rfl hv hw') k
theorem g_dup2 (hA : At T m c below) (hx : p.tables.exec = Jvm.exec) {v w : Value} (hd : decode c.code pc = .ok (.dup2, 1)) (hv : v.category = 1) (hw' : w.category = 1) (hq : pc + 1 = q) (k : Go p e below Φ (T.setTop (mkF m q L (v :: w :: v :: w :: S)))) : Go p e below Φ (T.setTop (mkF m pc L (v :: w :: S))) := by
  subst hq; exact Go.by (fun _ => Jvm.Free.XT.dup2 hA hx rfl hd rfl hv hw') k
theorem g_goto (hA : At T m c below) (hx : p.tables.exec = Jvm.exec) {o : Int} (hd : decode c.code pc = .ok (.goto o, 3)) (ho : 0 ≤ (pc : Int) + o) (hq : ((pc : Int) + o).toNat = q) (k : Go p e below Φ (T.setTop (mkF m q L S))) : Go p e below Φ (T.setTop (mkF m pc L S)) := Go.by (fun _ => XS.goto hA hx rfl rfl hd ho hq) k
theorem g_icmp (hA : At T m c below) (hx : p.tables.exec = Jvm.exec) {cd : ClassFile.Cond} {o : Int} {q0 : Nat} {x y : Int32} (hd : decode c.code pc = .ok (.if_icmp cd o, 3)) (ho : 0 ≤ (pc : Int) + o) (hq : ((pc : Int) + o).toNat = q) (hq0 : pc + 3 = q0) (k1 : if_icmp.holds cd x y = true → Go p e below Φ (T.setTop (mkF m q L S))) (k0 : if_icmp.holds cd x y = false → Go p e below Φ (T.setTop (mkF m q0 L S))) : Go p e below Φ (T.setTop (mkF m pc L (.int y :: .int x :: S))) := by
  subst hq0
  cases hb : if_icmp.holds cd x y
  · exact Go.by (fun _ => XS.icmpNo hA hx rfl hd rfl hb) (k0 hb)
  · exact Go.by (fun _ => XS.icmpYes hA hx rfl rfl hd rfl hb ho hq) (k1 hb)
theorem g_if0 (hA : At T m c below) (hx : p.tables.exec = Jvm.exec) {cd : ClassFile.Cond} {o : Int} {q0 : Nat} {x : Int32} (hd : decode c.code pc = .ok (.ifCond cd o, 3)) (ho : 0 ≤ (pc : Int) + o) (hq : ((pc : Int) + o).toNat = q) (hq0 : pc + 3 = q0) (k1 : if_icmp.holds cd x 0 = true → Go p e below Φ (T.setTop (mkF m q L S))) (k0 : if_icmp.holds cd x 0 = false → Go p e below Φ (T.setTop (mkF m q0 L S))) : Go p e below Φ (T.setTop (mkF m pc L (.int x :: S))) := by
  subst hq0
  cases hb : if_icmp.holds cd x 0
  · exact Go.by (fun _ => XS.ifNo hA hx rfl hd rfl ((if0 _ _).trans hb)) (k0 hb)
  · exact Go.by (fun _ => XS.ifYes hA hx rfl rfl hd rfl ((if0 _ _).trans hb) ho hq) (k1 hb)
theorem rel_eq {x y : Int32} : (if_icmp.holds .eq x y = true → x.toInt = y.toInt) ∧ (if_icmp.holds .eq x y = false → x.toInt ≠ y.toInt) := by
  constructor <;> intro h <;> simp [if_icmp.holds, Int32.lt_iff_toInt_lt, Int32.le_iff_toInt_le, ← Int32.toInt_inj] at h <;> omega
theorem g_icmp_eq (hA : At T m c below) (hx : p.tables.exec = Jvm.exec) {o : Int} {q0 : Nat} {x y : Int32} (hd : decode c.code pc = .ok (.if_icmp .eq o, 3)) (ho : 0 ≤ (pc : Int) + o) (hq : ((pc : Int) + o).toNat = q) (hq0 : pc + 3 = q0) (k1 : x.toInt = y.toInt → Go p e below Φ (T.setTop (mkF m q L S))) (k0 : x.toInt ≠ y.toInt → Go p e below Φ (T.setTop (mkF m q0 L S))) : Go p e below Φ (T.setTop (mkF m pc L (.int y :: .int x :: S))) := g_icmp hA hx hd ho hq hq0 (fun h => k1 (rel_eq.1 h)) (fun h => k0 (rel_eq.2 h))
theorem g_if_eq (hA : At T m c below) (hx : p.tables.exec = Jvm.exec) {o : Int} {q0 : Nat} {x : Int32} (hd : decode c.code pc = .ok (.ifCond .eq o, 3)) (ho : 0 ≤ (pc : Int) + o) (hq : ((pc : Int) + o).toNat = q) (hq0 : pc + 3 = q0) (k1 : x.toInt = 0 → Go p e below Φ (T.setTop (mkF m q L S))) (k0 : x.toInt ≠ 0 → Go p e below Φ (T.setTop (mkF m q0 L S))) : Go p e below Φ (T.setTop (mkF m pc L (.int x :: S))) := g_if0 hA hx hd ho hq hq0 (fun h => k1 (rel_eq.1 h)) (fun h => k0 (rel_eq.2 h))
theorem rell_eq {x y : Int64} : (if_icmp.holds .eq (lcmpW x y) 0 = true → x.toInt = y.toInt) ∧ (if_icmp.holds .eq (lcmpW x y) 0 = false → x.toInt ≠ y.toInt) := by
  have q := c_lcmp x y
  constructor <;> intro h
  · have h' := (rel_eq (x := lcmpW x y) (y := 0)).1 h; rw [show (0 : Int32).toInt = 0 from rfl] at h'; generalize lcmpW x y = w at *; omega
  · have h' := (rel_eq (x := lcmpW x y) (y := 0)).2 h; rw [show (0 : Int32).toInt = 0 from rfl] at h'; generalize lcmpW x y = w at *; omega
theorem g_lcmp_eq (hA : At T m c below) (hx : p.tables.exec = Jvm.exec) {o : Int} {q1 q0 : Nat} {x y : Int64} (hd : decode c.code pc = .ok (.lcmp, 1)) (hq1 : pc + 1 = q1) (hd' : decode c.code q1 = .ok (.ifCond .eq o, 3)) (ho : 0 ≤ (q1 : Int) + o) (hq : ((q1 : Int) + o).toNat = q) (hq0 : q1 + 3 = q0) (k1 : x.toInt = y.toInt → Go p e below Φ (T.setTop (mkF m q L S))) (k0 : x.toInt ≠ y.toInt → Go p e below Φ (T.setTop (mkF m q0 L S))) : Go p e below Φ (T.setTop (mkF m pc L (.long y :: .long x :: S))) := g_lcmp hA hx hd hq1 (g_if0 hA hx hd' ho hq hq0 (fun h => k1 (rell_eq.1 h)) (fun h => k0 (rell_eq.2 h)))
theorem rel_ne {x y : Int32} : (if_icmp.holds .ne x y = true → x.toInt ≠ y.toInt) ∧ (if_icmp.holds .ne x y = false → x.toInt = y.toInt) := by
  constructor <;> intro h <;> simp [if_icmp.holds, Int32.lt_iff_toInt_lt, Int32.le_iff_toInt_le, ← Int32.toInt_inj] at h <;> omega
theorem g_icmp_ne (hA : At T m c below) (hx : p.tables.exec = Jvm.exec) {o : Int} {q0 : Nat} {x y : Int32} (hd : decode c.code pc = .ok (.if_icmp .ne o, 3)) (ho : 0 ≤ (pc : Int) + o) (hq : ((pc : Int) + o).toNat = q) (hq0 : pc + 3 = q0) (k1 : x.toInt ≠ y.toInt → Go p e below Φ (T.setTop (mkF m q L S))) (k0 : x.toInt = y.toInt → Go p e below Φ (T.setTop (mkF m q0 L S))) : Go p e below Φ (T.setTop (mkF m pc L (.int y :: .int x :: S))) := g_icmp hA hx hd ho hq hq0 (fun h => k1 (rel_ne.1 h)) (fun h => k0 (rel_ne.2 h))
theorem g_if_ne (hA : At T m c below) (hx : p.tables.exec = Jvm.exec) {o : Int} {q0 : Nat} {x : Int32} (hd : decode c.code pc = .ok (.ifCond .ne o, 3)) (ho : 0 ≤ (pc : Int) + o) (hq : ((pc : Int) + o).toNat = q) (hq0 : pc + 3 = q0) (k1 : x.toInt ≠ 0 → Go p e below Φ (T.setTop (mkF m q L S))) (k0 : x.toInt = 0 → Go p e below Φ (T.setTop (mkF m q0 L S))) : Go p e below Φ (T.setTop (mkF m pc L (.int x :: S))) := g_if0 hA hx hd ho hq hq0 (fun h => k1 (rel_ne.1 h)) (fun h => k0 (rel_ne.2 h))
theorem rell_ne {x y : Int64} : (if_icmp.holds .ne (lcmpW x y) 0 = true → x.toInt ≠ y.toInt) ∧ (if_icmp.holds .ne (lcmpW x y) 0 = false → x.toInt = y.toInt) := by
  have q := c_lcmp x y
  constructor <;> intro h
  · have h' := (rel_ne (x := lcmpW x y) (y := 0)).1 h; rw [show (0 : Int32).toInt = 0 from rfl] at h'; generalize lcmpW x y = w at *; omega
  · have h' := (rel_ne (x := lcmpW x y) (y := 0)).2 h; rw [show (0 : Int32).toInt = 0 from rfl] at h'; generalize lcmpW x y = w at *; omega
theorem g_lcmp_ne (hA : At T m c below) (hx : p.tables.exec = Jvm.exec) {o : Int} {q1 q0 : Nat} {x y : Int64} (hd : decode c.code pc = .ok (.lcmp, 1)) (hq1 : pc + 1 = q1) (hd' : decode c.code q1 = .ok (.ifCond .ne o, 3)) (ho : 0 ≤ (q1 : Int) + o) (hq : ((q1 : Int) + o).toNat = q) (hq0 : q1 + 3 = q0) (k1 : x.toInt ≠ y.toInt → Go p e below Φ (T.setTop (mkF m q L S))) (k0 : x.toInt = y.toInt → Go p e below Φ (T.setTop (mkF m q0 L S))) : Go p e below Φ (T.setTop (mkF m pc L (.long y :: .long x :: S))) := g_lcmp hA hx hd hq1 (g_if0 hA hx hd' ho hq hq0 (fun h => k1 (rell_ne.1 h)) (fun h => k0 (rell_ne.2 h)))
theorem rel_lt {x y : Int32} : (if_icmp.holds .lt x y = true → x.toInt < y.toInt) ∧ (if_icmp.holds .lt x y = false → y.toInt ≤ x.toInt) := by
  constructor <;> intro h <;> simp [if_icmp.holds, Int32.lt_iff_toInt_lt, Int32.le_iff_toInt_le, ← Int32.toInt_inj] at h <;> omega
theorem g_icmp_lt (hA : At T m c below) (hx : p.tables.exec = Jvm.exec) {o : Int} {q0 : Nat} {x y : Int32} (hd : decode c.code pc = .ok (.if_icmp .lt o, 3)) (ho : 0 ≤ (pc : Int) + o) (hq : ((pc : Int) + o).toNat = q) (hq0 : pc + 3 = q0) (k1 : x.toInt < y.toInt → Go p e below Φ (T.setTop (mkF m q L S))) (k0 : y.toInt ≤ x.toInt → Go p e below Φ (T.setTop (mkF m q0 L S))) : Go p e below Φ (T.setTop (mkF m pc L (.int y :: .int x :: S))) := g_icmp hA hx hd ho hq hq0 (fun h => k1 (rel_lt.1 h)) (fun h => k0 (rel_lt.2 h))
theorem g_if_lt (hA : At T m c below) (hx : p.tables.exec = Jvm.exec) {o : Int} {q0 : Nat} {x : Int32} (hd : decode c.code pc = .ok (.ifCond .lt o, 3)) (ho : 0 ≤ (pc : Int) + o) (hq : ((pc : Int) + o).toNat = q) (hq0 : pc + 3 = q0) (k1 : x.toInt < 0 → Go p e below Φ (T.setTop (mkF m q L S))) (k0 : 0 ≤ x.toInt → Go p e below Φ (T.setTop (mkF m q0 L S))) : Go p e below Φ (T.setTop (mkF m pc L (.int x :: S))) := g_if0 hA hx hd ho hq hq0 (fun h => k1 (rel_lt.1 h)) (fun h => k0 (rel_lt.2 h))
theorem rell_lt {x y : Int64} : (if_icmp.holds .lt (lcmpW x y) 0 = true → x.toInt < y.toInt) ∧ (if_icmp.holds .lt (lcmpW x y) 0 = false → y.toInt ≤ x.toInt) := by
  have q := c_lcmp x y
  constructor <;> intro h
  · have h' := (rel_lt (x := lcmpW x y) (y := 0)).1 h; rw [show (0 : Int32).toInt = 0 from rfl] at h'; generalize lcmpW x y = w at *; omega
  · have h' := (rel_lt (x := lcmpW x y) (y := 0)).2 h; rw [show (0 : Int32).toInt = 0 from rfl] at h'; generalize lcmpW x y = w at *; omega
theorem g_lcmp_lt (hA : At T m c below) (hx : p.tables.exec = Jvm.exec) {o : Int} {q1 q0 : Nat} {x y : Int64} (hd : decode c.code pc = .ok (.lcmp, 1)) (hq1 : pc + 1 = q1) (hd' : decode c.code q1 = .ok (.ifCond .lt o, 3)) (ho : 0 ≤ (q1 : Int) + o) (hq : ((q1 : Int) + o).toNat = q) (hq0 : q1 + 3 = q0) (k1 : x.toInt < y.toInt → Go p e below Φ (T.setTop (mkF m q L S))) (k0 : y.toInt ≤ x.toInt → Go p e below Φ (T.setTop (mkF m q0 L S))) : Go p e below Φ (T.setTop (mkF m pc L (.long y :: .long x :: S))) := g_lcmp hA hx hd hq1 (g_if0 hA hx hd' ho hq hq0 (fun h => k1 (rell_lt.1 h)) (fun h => k0 (rell_lt.2 h)))
theorem rel_ge {x y : Int32} : (if_icmp.holds .ge x y = true → y.toInt ≤ x.toInt) ∧ (if_icmp.holds .ge x y = false → x.toInt < y.toInt) := by
  constructor <;> intro h <;> simp [if_icmp.holds, Int32.lt_iff_toInt_lt, Int32.le_iff_toInt_le, ← Int32.toInt_inj] at h <;> omega
theorem g_icmp_ge (hA : At T m c below) (hx : p.tables.exec = Jvm.exec) {o : Int} {q0 : Nat} {x y : Int32} (hd : decode c.code pc = .ok (.if_icmp .ge o, 3)) (ho : 0 ≤ (pc : Int) + o) (hq : ((pc : Int) + o).toNat = q) (hq0 : pc + 3 = q0) (k1 : y.toInt ≤ x.toInt → Go p e below Φ (T.setTop (mkF m q L S))) (k0 : x.toInt < y.toInt → Go p e below Φ (T.setTop (mkF m q0 L S))) : Go p e below Φ (T.setTop (mkF m pc L (.int y :: .int x :: S))) := g_icmp hA hx hd ho hq hq0 (fun h => k1 (rel_ge.1 h)) (fun h => k0 (rel_ge.2 h))
theorem g_if_ge (hA : At T m c below) (hx : p.tables.exec = Jvm.exec) {o : Int} {q0 : Nat} {x : Int32} (hd : decode c.code pc = .ok (.ifCond .ge o, 3)) (ho : 0 ≤ (pc : Int) + o) (hq : ((pc : Int) + o).toNat = q) (hq0 : pc + 3 = q0) (k1 : 0 ≤ x.toInt → Go p e below Φ (T.setTop (mkF m q L S))) (k0 : x.toInt < 0 → Go p e below Φ (T.setTop (mkF m q0 L S))) : Go p e below Φ (T.setTop (mkF m pc L (.int x :: S))) := g_if0 hA hx hd ho hq hq0 (fun h => k1 (rel_ge.1 h)) (fun h => k0 (rel_ge.2 h))
theorem rell_ge {x y : Int64} : (if_icmp.holds .ge (lcmpW x y) 0 = true → y.toInt ≤ x.toInt) ∧ (if_icmp.holds .ge (lcmpW x y) 0 = false → x.toInt < y.toInt) := by
  have q := c_lcmp x y
  constructor <;> intro h
  · have h' := (rel_ge (x := lcmpW x y) (y := 0)).1 h; rw [show (0 : Int32).toInt = 0 from rfl] at h'; generalize lcmpW x y = w at *; omega
  · have h' := (rel_ge (x := lcmpW x y) (y := 0)).2 h; rw [show (0 : Int32).toInt = 0 from rfl] at h'; generalize lcmpW x y = w at *; omega
theorem g_lcmp_ge (hA : At T m c below) (hx : p.tables.exec = Jvm.exec) {o : Int} {q1 q0 : Nat} {x y : Int64} (hd : decode c.code pc = .ok (.lcmp, 1)) (hq1 : pc + 1 = q1) (hd' : decode c.code q1 = .ok (.ifCond .ge o, 3)) (ho : 0 ≤ (q1 : Int) + o) (hq : ((q1 : Int) + o).toNat = q) (hq0 : q1 + 3 = q0) (k1 : y.toInt ≤ x.toInt → Go p e below Φ (T.setTop (mkF m q L S))) (k0 : x.toInt < y.toInt → Go p e below Φ (T.setTop (mkF m q0 L S))) : Go p e below Φ (T.setTop (mkF m pc L (.long y :: .long x :: S))) := g_lcmp hA hx hd hq1 (g_if0 hA hx hd' ho hq hq0 (fun h => k1 (rell_ge.1 h)) (fun h => k0 (rell_ge.2 h)))
theorem rel_gt {x y : Int32} : (if_icmp.holds .gt x y = true → y.toInt < x.toInt) ∧ (if_icmp.holds .gt x y = false → x.toInt ≤ y.toInt) := by
  constructor <;> intro h <;> simp [if_icmp.holds, Int32.lt_iff_toInt_lt, Int32.le_iff_toInt_le, ← Int32.toInt_inj] at h <;> omega
theorem g_icmp_gt (hA : At T m c below) (hx : p.tables.exec = Jvm.exec) {o : Int} {q0 : Nat} {x y : Int32} (hd : decode c.code pc = .ok (.if_icmp .gt o, 3)) (ho : 0 ≤ (pc : Int) + o) (hq : ((pc : Int) + o).toNat = q) (hq0 : pc + 3 = q0) (k1 : y.toInt < x.toInt → Go p e below Φ (T.setTop (mkF m q L S))) (k0 : x.toInt ≤ y.toInt → Go p e below Φ (T.setTop (mkF m q0 L S))) : Go p e below Φ (T.setTop (mkF m pc L (.int y :: .int x :: S))) := g_icmp hA hx hd ho hq hq0 (fun h => k1 (rel_gt.1 h)) (fun h => k0 (rel_gt.2 h))
theorem g_if_gt (hA : At T m c below) (hx : p.tables.exec = Jvm.exec) {o : Int} {q0 : Nat} {x : Int32} (hd : decode c.code pc = .ok (.ifCond .gt o, 3)) (ho : 0 ≤ (pc : Int) + o) (hq : ((pc : Int) + o).toNat = q) (hq0 : pc + 3 = q0) (k1 : 0 < x.toInt → Go p e below Φ (T.setTop (mkF m q L S))) (k0 : x.toInt ≤ 0 → Go p e below Φ (T.setTop (mkF m q0 L S))) : Go p e below Φ (T.setTop (mkF m pc L (.int x :: S))) := g_if0 hA hx hd ho hq hq0 (fun h => k1 (rel_gt.1 h)) (fun h => k0 (rel_gt.2 h))
theorem rell_gt {x y : Int64} : (if_icmp.holds .gt (lcmpW x y) 0 = true → y.toInt < x.toInt) ∧ (if_icmp.holds .gt (lcmpW x y) 0 = false → x.toInt ≤ y.toInt) := by
  have q := c_lcmp x y
  constructor <;> intro h
  · have h' := (rel_gt (x := lcmpW x y) (y := 0)).1 h; rw [show (0 : Int32).toInt = 0 from rfl] at h'; generalize lcmpW x y = w at *; omega
  · have h' := (rel_gt (x := lcmpW x y) (y := 0)).2 h; rw [show (0 : Int32).toInt = 0 from rfl] at h'; generalize lcmpW x y = w at *; omega
theorem g_lcmp_gt (hA : At T m c below) (hx : p.tables.exec = Jvm.exec) {o : Int} {q1 q0 : Nat} {x y : Int64} (hd : decode c.code pc = .ok (.lcmp, 1)) (hq1 : pc + 1 = q1) (hd' : decode c.code q1 = .ok (.ifCond .gt o, 3)) (ho : 0 ≤ (q1 : Int) + o) (hq : ((q1 : Int) + o).toNat = q) (hq0 : q1 + 3 = q0) (k1 : y.toInt < x.toInt → Go p e below Φ (T.setTop (mkF m q L S))) (k0 : x.toInt ≤ y.toInt → Go p e below Φ (T.setTop (mkF m q0 L S))) : Go p e below Φ (T.setTop (mkF m pc L (.long y :: .long x :: S))) := g_lcmp hA hx hd hq1 (g_if0 hA hx hd' ho hq hq0 (fun h => k1 (rell_gt.1 h)) (fun h => k0 (rell_gt.2 h)))
theorem rel_le {x y : Int32} : (if_icmp.holds .le x y = true → x.toInt ≤ y.toInt) ∧ (if_icmp.holds .le x y = false → y.toInt < x.toInt) := by
  constructor <;> intro h <;> simp [if_icmp.holds, Int32.lt_iff_toInt_lt, Int32.le_iff_toInt_le, ← Int32.toInt_inj] at h <;> omega
theorem g_icmp_le (hA : At T m c below) (hx : p.tables.exec = Jvm.exec) {o : Int} {q0 : Nat} {x y : Int32} (hd : decode c.code pc = .ok (.if_icmp .le o, 3)) (ho : 0 ≤ (pc : Int) + o) (hq : ((pc : Int) + o).toNat = q) (hq0 : pc + 3 = q0) (k1 : x.toInt ≤ y.toInt → Go p e below Φ (T.setTop (mkF m q L S))) (k0 : y.toInt < x.toInt → Go p e below Φ (T.setTop (mkF m q0 L S))) : Go p e below Φ (T.setTop (mkF m pc L (.int y :: .int x :: S))) := g_icmp hA hx hd ho hq hq0 (fun h => k1 (rel_le.1 h)) (fun h => k0 (rel_le.2 h))
theorem g_if_le (hA : At T m c below) (hx : p.tables.exec = Jvm.exec) {o : Int} {q0 : Nat} {x : Int32} (hd : decode c.code pc = .ok (.ifCond .le o, 3)) (ho : 0 ≤ (pc : Int) + o) (hq : ((pc : Int) + o).toNat = q) (hq0 : pc + 3 = q0) (k1 : x.toInt ≤ 0 → Go p e below Φ (T.setTop (mkF m q L S))) (k0 : 0 < x.toInt → Go p e below Φ (T.setTop (mkF m q0 L S))) : Go p e below Φ (T.setTop (mkF m pc L (.int x :: S))) := g_if0 hA hx hd ho hq hq0 (fun h => k1 (rel_le.1 h)) (fun h => k0 (rel_le.2 h))
theorem rell_le {x y : Int64} : (if_icmp.holds .le (lcmpW x y) 0 = true → x.toInt ≤ y.toInt) ∧ (if_icmp.holds .le (lcmpW x y) 0 = false → y.toInt < x.toInt) := by
  have q := c_lcmp x y
  constructor <;> intro h
  · have h' := (rel_le (x := lcmpW x y) (y := 0)).1 h; rw [show (0 : Int32).toInt = 0 from rfl] at h'; generalize lcmpW x y = w at *; omega
  · have h' := (rel_le (x := lcmpW x y) (y := 0)).2 h; rw [show (0 : Int32).toInt = 0 from rfl] at h'; generalize lcmpW x y = w at *; omega
theorem g_lcmp_le (hA : At T m c below) (hx : p.tables.exec = Jvm.exec) {o : Int} {q1 q0 : Nat} {x y : Int64} (hd : decode c.code pc = .ok (.lcmp, 1)) (hq1 : pc + 1 = q1) (hd' : decode c.code q1 = .ok (.ifCond .le o, 3)) (ho : 0 ≤ (q1 : Int) + o) (hq : ((q1 : Int) + o).toNat = q) (hq0 : q1 + 3 = q0) (k1 : x.toInt ≤ y.toInt → Go p e below Φ (T.setTop (mkF m q L S))) (k0 : y.toInt < x.toInt → Go p e below Φ (T.setTop (mkF m q0 L S))) : Go p e below Φ (T.setTop (mkF m pc L (.long y :: .long x :: S))) := g_lcmp hA hx hd hq1 (g_if0 hA hx hd' ho hq hq0 (fun h => k1 (rell_le.1 h)) (fun h => k0 (rell_le.2 h)))
theorem g_ifB_ne (hA : At T m c below) (hx : p.tables.exec = Jvm.exec) {o : Int} {q0 : Nat} {b : Bool} (hd : decode c.code pc = .ok (.ifCond .ne o, 3)) (ho : 0 ≤ (pc : Int) + o) (hq : ((pc : Int) + o).toNat = q) (hq0 : pc + 3 = q0) (k1 : b = true → Go p e below Φ (T.setTop (mkF m q L S))) (k0 : b = false → Go p e below Φ (T.setTop (mkF m q0 L S))) : Go p e below Φ (T.setTop (mkF m pc L (.int (b2i b) :: S))) := g_if0 hA hx hd ho hq hq0 (fun h => k1 (by cases b <;> first | rfl | exact Bool.noConfusion h)) (fun h => k0 (by cases b <;> first | rfl | exact Bool.noConfusion h))
theorem g_ifB_eq (hA : At T m c below) (hx : p.tables.exec = Jvm.exec) {o : Int} {q0 : Nat} {b : Bool} (hd : decode c.code pc = .ok (.ifCond .eq o, 3)) (ho : 0 ≤ (pc : Int) + o) (hq : ((pc : Int) + o).toNat = q) (hq0 : pc + 3 = q0) (k1 : b = false → Go p e below Φ (T.setTop (mkF m q L S))) (k0 : b = true → Go p e below Φ (T.setTop (mkF m q0 L S))) : Go p e below Φ (T.setTop (mkF m pc L (.int (b2i b) :: S))) := g_if0 hA hx hd ho hq hq0 (fun h => k1 (by cases b <;> first | rfl | exact Bool.noConfusion h)) (fun h => k0 (by cases b <;> first | rfl | exact Bool.noConfusion h))
theorem g_sel_icmp_eq (hA : At T m c below) (hx : p.tables.exec = Jvm.exec) {o o' : Int} {z t t' : Nat} {x y : Int32} (hd : decode c.code pc = .ok (.if_icmp .eq o, 3)) (ho : 0 ≤ (pc : Int) + o) (hz' : ((pc : Int) + o).toNat = z) (ht0 : pc + 3 = t) (hz : decode c.code z = .ok (.iconst 0, 1)) (ht : decode c.code t = .ok (.iconst 1, 1)) (hg : decode c.code t' = .ok (.goto o', 3)) (ht' : t + 1 = t') (hog : 0 ≤ (t' : Int) + o') (hj : ((t' : Int) + o').toNat = q) (hj' : z + 1 = q) (k : Go p e below Φ (T.setTop (mkF m q L (.int (b2i (decide (x.toInt ≠ y.toInt))) :: S)))) : Go p e below Φ (T.setTop (mkF m pc L (.int y :: .int x :: S))) :=
  g_icmp_eq hA hx hd ho hz' ht0 (fun h => g_iconst hA hx hz rfl hj' (by rw [show decide (x.toInt ≠ y.toInt) = false from decide_eq_false (by omega)] at k; exact k)) (fun h => g_iconst hA hx ht rfl ht' (g_goto hA hx hg hog hj (by rw [show decide (x.toInt ≠ y.toInt) = true from decide_eq_true (by omega)] at k; exact k)))
theorem g_sel_icmp_ne (hA : At T m c below) (hx : p.tables.exec = Jvm.exec) {o o' : Int} {z t t' : Nat} {x y : Int32} (hd : decode c.code pc = .ok (.if_icmp .ne o, 3)) (ho : 0 ≤ (pc : Int) + o) (hz' : ((pc : Int) + o).toNat = z) (ht0 : pc + 3 = t) (hz : decode c.code z = .ok (.iconst 0, 1)) (ht : decode c.code t = .ok (.iconst 1, 1)) (hg : decode c.code t' = .ok (.goto o', 3)) (ht' : t + 1 = t') (hog : 0 ≤ (t' : Int) + o') (hj : ((t' : Int) + o').toNat = q) (hj' : z + 1 = q) (k : Go p e below Φ (T.setTop (mkF m q L (.int (b2i (decide (x.toInt = y.toInt))) :: S)))) : Go p e below Φ (T.setTop (mkF m pc L (.int y :: .int x :: S))) :=
  g_icmp_ne hA hx hd ho hz' ht0 (fun h => g_iconst hA hx hz rfl hj' (by rw [show decide (x.toInt = y.toInt) = false from decide_eq_false (by omega)] at k; exact k)) (fun h => g_iconst hA hx ht rfl ht' (g_goto hA hx hg hog hj (by rw [show decide (x.toInt = y.toInt) = true from decide_eq_true (by omega)] at k; exact k)))
theorem g_sel_icmp_lt (hA : At T m c below) (hx : p.tables.exec = Jvm.exec) {o o' : Int} {z t t' : Nat} {x y : Int32} (hd : decode c.code pc = .ok (.if_icmp .lt o, 3)) (ho : 0 ≤ (pc : Int) + o) (hz' : ((pc : Int) + o).toNat = z) (ht0 : pc + 3 = t) (hz : decode c.code z = .ok (.iconst 0, 1)) (ht : decode c.code t = .ok (.iconst 1, 1)) (hg : decode c.code t' = .ok (.goto o', 3)) (ht' : t + 1 = t') (hog : 0 ≤ (t' : Int) + o') (hj : ((t' : Int) + o').toNat = q) (hj' : z + 1 = q) (k : Go p e below Φ (T.setTop (mkF m q L (.int (b2i (decide (y.toInt ≤ x.toInt))) :: S)))) : Go p e below Φ (T.setTop (mkF m pc L (.int y :: .int x :: S))) :=
  g_icmp_lt hA hx hd ho hz' ht0 (fun h => g_iconst hA hx hz rfl hj' (by rw [show decide (y.toInt ≤ x.toInt) = false from decide_eq_false (by omega)] at k; exact k)) (fun h => g_iconst hA hx ht rfl ht' (g_goto hA hx hg hog hj (by rw [show decide (y.toInt ≤ x.toInt) = true from decide_eq_true (by omega)] at k; exact k)))
theorem g_sel_icmp_ge (hA : At T m c below) (hx : p.tables.exec = Jvm.exec) {o o' : Int} {z t t' : Nat} {x y : Int32} (hd : decode c.code pc = .ok (.if_icmp .ge o, 3)) (ho : 0 ≤ (pc : Int) + o) (hz' : ((pc : Int) + o).toNat = z) (ht0 : pc + 3 = t) (hz : decode c.code z = .ok (.iconst 0, 1)) (ht : decode c.code t = .ok (.iconst 1, 1)) (hg : decode c.code t' = .ok (.goto o', 3)) (ht' : t + 1 = t') (hog : 0 ≤ (t' : Int) + o') (hj : ((t' : Int) + o').toNat = q) (hj' : z + 1 = q) (k : Go p e below Φ (T.setTop (mkF m q L (.int (b2i (decide (x.toInt < y.toInt))) :: S)))) : Go p e below Φ (T.setTop (mkF m pc L (.int y :: .int x :: S))) :=
  g_icmp_ge hA hx hd ho hz' ht0 (fun h => g_iconst hA hx hz rfl hj' (by rw [show decide (x.toInt < y.toInt) = false from decide_eq_false (by omega)] at k; exact k)) (fun h => g_iconst hA hx ht rfl ht' (g_goto hA hx hg hog hj (by rw [show decide (x.toInt < y.toInt) = true from decide_eq_true (by omega)] at k; exact k)))
theorem g_sel_icmp_gt (hA : At T m c below) (hx : p.tables.exec = Jvm.exec) {o o' : Int} {z t t' : Nat} {x y : Int32} (hd : decode c.code pc = .ok (.if_icmp .gt o, 3)) (ho : 0 ≤ (pc : Int) + o) (hz' : ((pc : Int) + o).toNat = z) (ht0 : pc + 3 = t) (hz : decode c.code z = .ok (.iconst 0, 1)) (ht : decode c.code t = .ok (.iconst 1, 1)) (hg : decode c.code t' = .ok (.goto o', 3)) (ht' : t + 1 = t') (hog : 0 ≤ (t' : Int) + o') (hj : ((t' : Int) + o').toNat = q) (hj' : z + 1 = q) (k : Go p e below Φ (T.setTop (mkF m q L (.int (b2i (decide (x.toInt ≤ y.toInt))) :: S)))) : Go p e below Φ (T.setTop (mkF m pc L (.int y :: .int x :: S))) :=
  g_icmp_gt hA hx hd ho hz' ht0 (fun h => g_iconst hA hx hz rfl hj' (by rw [show decide (x.toInt ≤ y.toInt) = false from decide_eq_false (by omega)] at k; exact k)) (fun h => g_iconst hA hx ht rfl ht' (g_goto hA hx hg hog hj (by rw [show decide (x.toInt ≤ y.toInt) = true from decide_eq_true (by omega)] at k; exact k)))
theorem g_sel_icmp_le (hA : At T m c below) (hx : p.tables.exec = Jvm.exec) {o o' : Int} {z t t' : Nat} {x y : Int32} (hd : decode c.code pc = .ok (.if_icmp .le o, 3)) (ho : 0 ≤ (pc : Int) + o) (hz' : ((pc : Int) + o).toNat = z) (ht0 : pc + 3 = t) (hz : decode c.code z = .ok (.iconst 0, 1)) (ht : decode c.code t = .ok (.iconst 1, 1)) (hg : decode c.code t' = .ok (.goto o', 3)) (ht' : t + 1 = t') (hog : 0 ≤ (t' : Int) + o') (hj : ((t' : Int) + o').toNat = q) (hj' : z + 1 = q) (k : Go p e below Φ (T.setTop (mkF m q L (.int (b2i (decide (y.toInt < x.toInt))) :: S)))) : Go p e below Φ (T.setTop (mkF m pc L (.int y :: .int x :: S))) :=
  g_icmp_le hA hx hd ho hz' ht0 (fun h => g_iconst hA hx hz rfl hj' (by rw [show decide (y.toInt < x.toInt) = false from decide_eq_false (by omega)] at k; exact k)) (fun h => g_iconst hA hx ht rfl ht' (g_goto hA hx hg hog hj (by rw [show decide (y.toInt < x.toInt) = true from decide_eq_true (by omega)] at k; exact k)))
theorem g_sel_if_eq (hA : At T m c below) (hx : p.tables.exec = Jvm.exec) {o o' : Int} {z t t' : Nat} {x : Int32} (hd : decode c.code pc = .ok (.ifCond .eq o, 3)) (ho : 0 ≤ (pc : Int) + o) (hz' : ((pc : Int) + o).toNat = z) (ht0 : pc + 3 = t) (hz : decode c.code z = .ok (.iconst 0, 1)) (ht : decode c.code t = .ok (.iconst 1, 1)) (hg : decode c.code t' = .ok (.goto o', 3)) (ht' : t + 1 = t') (hog : 0 ≤ (t' : Int) + o') (hj : ((t' : Int) + o').toNat = q) (hj' : z + 1 = q) (k : Go p e below Φ (T.setTop (mkF m q L (.int (b2i (decide (x.toInt ≠ 0))) :: S)))) : Go p e below Φ (T.setTop (mkF m pc L (.int x :: S))) :=
  g_if_eq hA hx hd ho hz' ht0 (fun h => g_iconst hA hx hz rfl hj' (by rw [show decide (x.toInt ≠ 0) = false from decide_eq_false (by omega)] at k; exact k)) (fun h => g_iconst hA hx ht rfl ht' (g_goto hA hx hg hog hj (by rw [show decide (x.toInt ≠ 0) = true from decide_eq_true (by omega)] at k; exact k)))
theorem g_sel_if_ne (hA : At T m c below) (hx : p.tables.exec = Jvm.exec) {o o' : Int} {z t t' : Nat} {x : Int32} (hd : decode c.code pc = .ok (.ifCond .ne o, 3)) (ho : 0 ≤ (pc : Int) + o) (hz' : ((pc : Int) + o).toNat = z) (ht0 : pc + 3 = t) (hz : decode c.code z = .ok (.iconst 0, 1)) (ht : decode c.code t = .ok (.iconst 1, 1)) (hg : decode c.code t' = .ok (.goto o', 3)) (ht' : t + 1 = t') (hog : 0 ≤ (t' : Int) + o') (hj : ((t' : Int) + o').toNat = q) (hj' : z + 1 = q) (k : Go p e below Φ (T.setTop (mkF m q L (.int (b2i (decide (x.toInt = 0))) :: S)))) : Go p e below Φ (T.setTop (mkF m pc L (.int x :: S))) :=
  g_if_ne hA hx hd ho hz' ht0 (fun h => g_iconst hA hx hz rfl hj' (by rw [show decide (x.toInt = 0) = false from decide_eq_false (by omega)] at k; exact k)) (fun h => g_iconst hA hx ht rfl ht' (g_goto hA hx hg hog hj (by rw [show decide (x.toInt = 0) = true from decide_eq_true (by omega)] at k; exact k)))
theorem g_sel_if_lt (hA : At T m c below) (hx : p.tables.exec = Jvm.exec) {o o' : Int} {z t t' : Nat} {x : Int32} (hd : decode c.code pc = .ok (.ifCond .lt o, 3)) (ho : 0 ≤ (pc : Int) + o) (hz' : ((pc : Int) + o).toNat = z) (ht0 : pc + 3 = t) (hz : decode c.code z = .ok (.iconst 0, 1)) (ht : decode c.code t = .ok (.iconst 1, 1)) (hg : decode c.code t' = .ok (.goto o', 3)) (ht' : t + 1 = t') (hog : 0 ≤ (t' : Int) + o') (hj : ((t' : Int) + o').toNat = q) (hj' : z + 1 = q) (k : Go p e below Φ (T.setTop (mkF m q L (.int (b2i (decide (0 ≤ x.toInt))) :: S)))) : Go p e below Φ (T.setTop (mkF m pc L (.int x :: S))) :=
  g_if_lt hA hx hd ho hz' ht0 (fun h => g_iconst hA hx hz rfl hj' (by rw [show decide (0 ≤ x.toInt) = false from decide_eq_false (by omega)] at k; exact k)) (fun h => g_iconst hA hx ht rfl ht' (g_goto hA hx hg hog hj (by rw [show decide (0 ≤ x.toInt) = true from decide_eq_true (by omega)] at k; exact k)))
theorem g_sel_if_ge (hA : At T m c below) (hx : p.tables.exec = Jvm.exec) {o o' : Int} {z t t' : Nat} {x : Int32} (hd : decode c.code pc = .ok (.ifCond .ge o, 3)) (ho : 0 ≤ (pc : Int) + o) (hz' : ((pc : Int) + o).toNat = z) (ht0 : pc + 3 = t) (hz : decode c.code z = .ok (.iconst 0, 1)) (ht : decode c.code t = .ok (.iconst 1, 1)) (hg : decode c.code t' = .ok (.goto o', 3)) (ht' : t + 1 = t') (hog : 0 ≤ (t' : Int) + o') (hj : ((t' : Int) + o').toNat = q) (hj' : z + 1 = q) (k : Go p e below Φ (T.setTop (mkF m q L (.int (b2i (decide (x.toInt < 0))) :: S)))) : Go p e below Φ (T.setTop (mkF m pc L (.int x :: S))) :=
  g_if_ge hA hx hd ho hz' ht0 (fun h => g_iconst hA hx hz rfl hj' (by rw [show decide (x.toInt < 0) = false from decide_eq_false (by omega)] at k; exact k)) (fun h => g_iconst hA hx ht rfl ht' (g_goto hA hx hg hog hj (by rw [show decide (x.toInt < 0) = true from decide_eq_true (by omega)] at k; exact k)))
theorem g_sel_if_gt (hA : At T m c below) (hx : p.tables.exec = Jvm.exec) {o o' : Int} {z t t' : Nat} {x : Int32} (hd : decode c.code pc = .ok (.ifCond .gt o, 3)) (ho : 0 ≤ (pc : Int) + o) (hz' : ((pc : Int) + o).toNat = z) (ht0 : pc + 3 = t) (hz : decode c.code z = .ok (.iconst 0, 1)) (ht : decode c.code t = .ok (.iconst 1, 1)) (hg : decode c.code t' = .ok (.goto o', 3)) (ht' : t + 1 = t') (hog : 0 ≤ (t' : Int) + o') (hj : ((t' : Int) + o').toNat = q) (hj' : z + 1 = q) (k : Go p e below Φ (T.setTop (mkF m q L (.int (b2i (decide (x.toInt ≤ 0))) :: S)))) : Go p e below Φ (T.setTop (mkF m pc L (.int x :: S))) :=
  g_if_gt hA hx hd ho hz' ht0 (fun h => g_iconst hA hx hz rfl hj' (by rw [show decide (x.toInt ≤ 0) = false from decide_eq_false (by omega)] at k; exact k)) (fun h => g_iconst hA hx ht rfl ht' (g_goto hA hx hg hog hj (by rw [show decide (x.toInt ≤ 0) = true from decide_eq_true (by omega)] at k; exact k)))
theorem g_sel_if_le (hA : At T m c below) (hx : p.tables.exec = Jvm.exec) {o o' : Int} {z t t' : Nat} {x : Int32} (hd : decode c.code pc = .ok (.ifCond .le o, 3)) (ho : 0 ≤ (pc : Int) + o) (hz' : ((pc : Int) + o).toNat = z) (ht0 : pc + 3 = t) (hz : decode c.code z = .ok (.iconst 0, 1)) (ht : decode c.code t = .ok (.iconst 1, 1)) (hg : decode c.code t' = .ok (.goto o', 3)) (ht' : t + 1 = t') (hog : 0 ≤ (t' : Int) + o') (hj : ((t' : Int) + o').toNat = q) (hj' : z + 1 = q) (k : Go p e below Φ (T.setTop (mkF m q L (.int (b2i (decide (0 < x.toInt))) :: S)))) : Go p e below Φ (T.setTop (mkF m pc L (.int x :: S))) :=
  g_if_le hA hx hd ho hz' ht0 (fun h => g_iconst hA hx hz rfl hj' (by rw [show decide (0 < x.toInt) = false from decide_eq_false (by omega)] at k; exact k)) (fun h => g_iconst hA hx ht rfl ht' (g_goto hA hx hg hog hj (by rw [show decide (0 < x.toInt) = true from decide_eq_true (by omega)] at k; exact k)))
theorem g_sel_lcmp_eq (hA : At T m c below) (hx : p.tables.exec = Jvm.exec) {o o' : Int} {q1 z t t' : Nat} {x y : Int64} (hd : decode c.code pc = .ok (.lcmp, 1)) (hq1 : pc + 1 = q1) (hd' : decode c.code q1 = .ok (.ifCond .eq o, 3)) (ho : 0 ≤ (q1 : Int) + o) (hz' : ((q1 : Int) + o).toNat = z) (ht0 : q1 + 3 = t) (hz : decode c.code z = .ok (.iconst 0, 1)) (ht : decode c.code t = .ok (.iconst 1, 1)) (hg : decode c.code t' = .ok (.goto o', 3)) (ht' : t + 1 = t') (hog : 0 ≤ (t' : Int) + o') (hj : ((t' : Int) + o').toNat = q) (hj' : z + 1 = q) (k : Go p e below Φ (T.setTop (mkF m q L (.int (b2i (decide (x.toInt ≠ y.toInt))) :: S)))) : Go p e below Φ (T.setTop (mkF m pc L (.long y :: .long x :: S))) :=
  g_lcmp_eq hA hx hd hq1 hd' ho hz' ht0 (fun h => g_iconst hA hx hz rfl hj' (by rw [show decide (x.toInt ≠ y.toInt) = false from decide_eq_false (by omega)] at k; exact k)) (fun h => g_iconst hA hx ht rfl ht' (g_goto hA hx hg hog hj (by rw [show decide (x.toInt ≠ y.toInt) = true from decide_eq_true (by omega)] at k; exact k)))
theorem g_sel_lcmp_ne (hA : At T m c below) (hx : p.tables.exec = Jvm.exec) {o o' : Int} {q1 z t t' : Nat} {x y : Int64} (hd : decode c.code pc = .ok (.lcmp, 1)) (hq1 : pc + 1 = q1) (hd' : decode c.code q1 = .ok (.ifCond .ne o, 3)) (ho : 0 ≤ (q1 : Int) + o) (hz' : ((q1 : Int) + o).toNat = z) (ht0 : q1 + 3 = t) (hz : decode c.code z = .ok (.iconst 0, 1)) (ht : decode c.code t = .ok (.iconst 1, 1)) (hg : decode c.code t' = .ok (.goto o', 3)) (ht' : t + 1 = t') (hog : 0 ≤ (t' : Int) + o') (hj : ((t' : Int) + o').toNat = q) (hj' : z + 1 = q) (k : Go p e below Φ (T.setTop (mkF m q L (.int (b2i (decide (x.toInt = y.toInt))) :: S)))) : Go p e below Φ (T.setTop (mkF m pc L (.long y :: .long x :: S))) :=
  g_lcmp_ne hA hx hd hq1 hd' ho hz' ht0 (fun h => g_iconst hA hx hz rfl hj' (by rw [show decide (x.toInt = y.toInt) = false from decide_eq_false (by omega)] at k; exact k)) (fun h => g_iconst hA hx ht rfl ht' (g_goto hA hx hg hog hj (by rw [show decide (x.toInt = y.toInt) = true from decide_eq_true (by omega)] at k; exact k)))
theorem g_sel_lcmp_lt (hA : At T m c below) (hx : p.tables.exec = Jvm.exec) {o o' : Int} {q1 z t t' : Nat} {x y : Int64} (hd : decode c.code pc = .ok (.lcmp, 1)) (hq1 : pc + 1 = q1) (hd' : decode c.code q1 = .ok (.ifCond .lt o, 3)) (ho : 0 ≤ (q1 : Int) + o) (hz' : ((q1 : Int) + o).toNat = z) (ht0 : q1 + 3 = t) (hz : decode c.code z = .ok (.iconst 0, 1)) (ht : decode c.code t = .ok (.iconst 1, 1)) (hg : decode c.code t' = .ok (.goto o', 3)) (ht' : t + 1 = t') (hog : 0 ≤ (t' : Int) + o') (hj : ((t' : Int) + o').toNat = q) (hj' : z + 1 = q) (k : Go p e below Φ (T.setTop (mkF m q L (.int (b2i (decide (y.toInt ≤ x.toInt))) :: S)))) : Go p e below Φ (T.setTop (mkF m pc L (.long y :: .long x :: S))) :=
  g_lcmp_lt hA hx hd hq1 hd' ho hz' ht0 (fun h => g_iconst hA hx hz rfl hj' (by rw [show decide (y.toInt ≤ x.toInt) = false from decide_eq_false (by omega)] at k; exact k)) (fun h => g_iconst hA hx ht rfl ht' (g_goto hA hx hg hog hj (by rw [show decide (y.toInt ≤ x.toInt) = true from decide_eq_true (by omega)] at k; exact k)))
theorem g_sel_lcmp_ge (hA : At T m c below) (hx : p.tables.exec = Jvm.exec) {o o' : Int} {q1 z t t' : Nat} {x y : Int64} (hd : decode c.code pc = .ok (.lcmp, 1)) (hq1 : pc + 1 = q1) (hd' : decode c.code q1 = .ok (.ifCond .ge o, 3)) (ho : 0 ≤ (q1 : Int) + o) (hz' : ((q1 : Int) + o).toNat = z) (ht0 : q1 + 3 = t) (hz : decode c.code z = .ok (.iconst 0, 1)) (ht : decode c.code t = .ok (.iconst 1, 1)) (hg : decode c.code t' = .ok (.goto o', 3)) (ht' : t + 1 = t') (hog : 0 ≤ (t' : Int) + o') (hj : ((t' : Int) + o').toNat = q) (hj' : z + 1 = q) (k : Go p e below Φ (T.setTop (mkF m q L (.int (b2i (decide (x.toInt < y.toInt))) :: S)))) : Go p e below Φ (T.setTop (mkF m pc L (.long y :: .long x :: S))) :=
  g_lcmp_ge hA hx hd hq1 hd' ho hz' ht0 (fun h => g_iconst hA hx hz rfl hj' (by rw [show decide (x.toInt < y.toInt) = false from decide_eq_false (by omega)] at k; exact k)) (fun h => g_iconst hA hx ht rfl ht' (g_goto hA hx hg hog hj (by rw [show decide (x.toInt < y.toInt) = true from decide_eq_true (by omega)] at k; exact k)))
theorem g_sel_lcmp_gt (hA : At T m c below) (hx : p.tables.exec = Jvm.exec) {o o' : Int} {q1 z t t' : Nat} {x y : Int64} (hd : decode c.code pc = .ok (.lcmp, 1)) (hq1 : pc + 1 = q1) (hd' : decode c.code q1 = .ok (.ifCond .gt o, 3)) (ho : 0 ≤ (q1 : Int) + o) (hz' : ((q1 : Int) + o).toNat = z) (ht0 : q1 + 3 = t) (hz : decode c.code z = .ok (.iconst 0, 1)) (ht : decode c.code t = .ok (.iconst 1, 1)) (hg : decode c.code t' = .ok (.goto o', 3)) (ht' : t + 1 = t') (hog : 0 ≤ (t' : Int) + o') (hj : ((t' : Int) + o').toNat = q) (hj' : z + 1 = q) (k : Go p e below Φ (T.setTop (mkF m q L (.int (b2i (decide (x.toInt ≤ y.toInt))) :: S)))) : Go p e below Φ (T.setTop (mkF m pc L (.long y :: .long x :: S))) :=
  g_lcmp_gt hA hx hd hq1 hd' ho hz' ht0 (fun h => g_iconst hA hx hz rfl hj' (by rw [show decide (x.toInt ≤ y.toInt) = false from decide_eq_false (by omega)] at k; exact k)) (fun h => g_iconst hA hx ht rfl ht' (g_goto hA hx hg hog hj (by rw [show decide (x.toInt ≤ y.toInt) = true from decide_eq_true (by omega)] at k; exact k)))
theorem g_sel_lcmp_le (hA : At T m c below) (hx : p.tables.exec = Jvm.exec) {o o' : Int} {q1 z t t' : Nat} {x y : Int64} (hd : decode c.code pc = .ok (.lcmp, 1)) (hq1 : pc + 1 = q1) (hd' : decode c.code q1 = .ok (.ifCond .le o, 3)) (ho : 0 ≤ (q1 : Int) + o) (hz' : ((q1 : Int) + o).toNat = z) (ht0 : q1 + 3 = t) (hz : decode c.code z = .ok (.iconst 0, 1)) (ht : decode c.code t = .ok (.iconst 1, 1)) (hg : decode c.code t' = .ok (.goto o', 3)) (ht' : t + 1 = t') (hog : 0 ≤ (t' : Int) + o') (hj : ((t' : Int) + o').toNat = q) (hj' : z + 1 = q) (k : Go p e below Φ (T.setTop (mkF m q L (.int (b2i (decide (y.toInt < x.toInt))) :: S)))) : Go p e below Φ (T.setTop (mkF m pc L (.long y :: .long x :: S))) :=
  g_lcmp_le hA hx hd hq1 hd' ho hz' ht0 (fun h => g_iconst hA hx hz rfl hj' (by rw [show decide (y.toInt < x.toInt) = false from decide_eq_false (by omega)] at k; exact k)) (fun h => g_iconst hA hx ht rfl ht' (g_goto hA hx hg hog hj (by rw [show decide (y.toInt < x.toInt) = true from decide_eq_true (by omega)] at k; exact k)))
theorem g_selB_ne (hA : At T m c below) (hx : p.tables.exec = Jvm.exec) {o o' : Int} {z t t' : Nat} {b : Bool} (hd : decode c.code pc = .ok (.ifCond .ne o, 3)) (ho : 0 ≤ (pc : Int) + o) (hz' : ((pc : Int) + o).toNat = z) (ht0 : pc + 3 = t) (hz : decode c.code z = .ok (.iconst 0, 1)) (ht : decode c.code t = .ok (.iconst 1, 1)) (hg : decode c.code t' = .ok (.goto o', 3)) (ht' : t + 1 = t') (hog : 0 ≤ (t' : Int) + o') (hj : ((t' : Int) + o').toNat = q) (hj' : z + 1 = q) (k : Go p e below Φ (T.setTop (mkF m q L (.int (b2i (!b)) :: S)))) : Go p e below Φ (T.setTop (mkF m pc L (.int (b2i b) :: S))) :=
  g_ifB_ne hA hx hd ho hz' ht0 (fun h => g_iconst hA hx hz rfl hj' (by subst h; exact k)) (fun h => g_iconst hA hx ht rfl ht' (g_goto hA hx hg hog hj (by subst h; exact k)))
theorem g_selB_eq (hA : At T m c below) (hx : p.tables.exec = Jvm.exec) {o o' : Int} {z t t' : Nat} {b : Bool} (hd : decode c.code pc = .ok (.ifCond .eq o, 3)) (ho : 0 ≤ (pc : Int) + o) (hz' : ((pc : Int) + o).toNat = z) (ht0 : pc + 3 = t) (hz : decode c.code z = .ok (.iconst 0, 1)) (ht : decode c.code t = .ok (.iconst 1, 1)) (hg : decode c.code t' = .ok (.goto o', 3)) (ht' : t + 1 = t') (hog : 0 ≤ (t' : Int) + o') (hj : ((t' : Int) + o').toNat = q) (hj' : z + 1 = q) (k : Go p e below Φ (T.setTop (mkF m q L (.int (b2i (b)) :: S)))) : Go p e below Φ (T.setTop (mkF m pc L (.int (b2i b) :: S))) :=
  g_ifB_eq hA hx hd ho hz' ht0 (fun h => g_iconst hA hx hz rfl hj' (by subst h; exact k)) (fun h => g_iconst hA hx ht rfl ht' (g_goto hA hx hg hog hj (by subst h; exact k)))
theorem g_selBB_ne (hA : At T m c below) (hx : p.tables.exec = Jvm.exec) {o o' : Int} {z t t' : Nat} {a b : Bool} (hd : decode c.code pc = .ok (.if_icmp .ne o, 3)) (ho : 0 ≤ (pc : Int) + o) (hz' : ((pc : Int) + o).toNat = z) (ht0 : pc + 3 = t) (hz : decode c.code z = .ok (.iconst 0, 1)) (ht : decode c.code t = .ok (.iconst 1, 1)) (hg : decode c.code t' = .ok (.goto o', 3)) (ht' : t + 1 = t') (hog : 0 ≤ (t' : Int) + o') (hj : ((t' : Int) + o').toNat = q) (hj' : z + 1 = q) (k : Go p e below Φ (T.setTop (mkF m q L (.int (b2i (a == b)) :: S)))) : Go p e below Φ (T.setTop (mkF m pc L (.int (b2i b) :: .int (b2i a) :: S))) :=
  g_icmp hA hx hd ho hz' ht0 (fun h => g_iconst hA hx hz rfl hj' (by cases a <;> cases b <;> first | exact k | exact Bool.noConfusion h)) (fun h => g_iconst hA hx ht rfl ht' (g_goto hA hx hg hog hj (by cases a <;> cases b <;> first | exact k | exact Bool.noConfusion h)))
theorem g_selBB_eq (hA : At T m c below) (hx : p.tables.exec = Jvm.exec) {o o' : Int} {z t t' : Nat} {a b : Bool} (hd : decode c.code pc = .ok (.if_icmp .eq o, 3)) (ho : 0 ≤ (pc : Int) + o) (hz' : ((pc : Int) + o).toNat = z) (ht0 : pc + 3 = t) (hz : decode c.code z = .ok (.iconst 0, 1)) (ht : decode c.code t = .ok (.iconst 1, 1)) (hg : decode c.code t' = .ok (.goto o', 3)) (ht' : t + 1 = t') (hog : 0 ≤ (t' : Int) + o') (hj : ((t' : Int) + o').toNat = q) (hj' : z + 1 = q) (k : Go p e below Φ (T.setTop (mkF m q L (.int (b2i (a != b)) :: S)))) : Go p e below Φ (T.setTop (mkF m pc L (.int (b2i b) :: .int (b2i a) :: S))) :=
  g_icmp hA hx hd ho hz' ht0 (fun h => g_iconst hA hx hz rfl hj' (by cases a <;> cases b <;> first | exact k | exact Bool.noConfusion h)) (fun h => g_iconst hA hx ht rfl ht' (g_goto hA hx hg hog hj (by cases a <;> cases b <;> first | exact k | exact Bool.noConfusion h)))
theorem g_ldcI (X : Stand p l e R s m args below meth c T locs cells slots) (hx : p.tables.exec = Jvm.exec) (hZ : Z.Warmed39 s.vm) {own : String} {index : Nat} {v : Int32} (hown : s.vm.findClass own = some m.cls) (w : (Jvm.Cond.constant own index v).before a0 Z = true) (hd : decode c.code pc = .ok (.ldc index, 2)) (hq : pc + 2 = q) (k : Go p e below Φ (T.setTop (mkF m q L (.int v :: S)))) : Go p e below Φ (T.setTop (mkF m pc L S)) := by
  subst hq; exact Go.by (X.ldcInt hx hown (mvT hZ w) rfl hd) k
theorem g_ldcWI (X : Stand p l e R s m args below meth c T locs cells slots) (hx : p.tables.exec = Jvm.exec) (hZ : Z.Warmed39 s.vm) {own : String} {index : Nat} {v : Int32} (hown : s.vm.findClass own = some m.cls) (w : (Jvm.Cond.constant own index v).before a0 Z = true) (hd : decode c.code pc = .ok (.ldc_w index, 3)) (hq : pc + 3 = q) (k : Go p e below Φ (T.setTop (mkF m q L (.int v :: S)))) : Go p e below Φ (T.setTop (mkF m pc L S)) := by
  subst hq; exact Go.by (X.ldcWInt hx hown (mvT hZ w) rfl hd) k
theorem g_ldc2J (X : Stand p l e R s m args below meth c T locs cells slots) (hx : p.tables.exec = Jvm.exec) (hZ : Z.Warmed39 s.vm) {own : String} {index : Nat} {v : Int64} (hown : s.vm.findClass own = some m.cls) (w : (Jvm.Cond.constantLong own index v).before a0 Z = true) (hd : decode c.code pc = .ok (.ldc2_w index, 3)) (hq : pc + 3 = q) (k : Go p e below Φ (T.setTop (mkF m q L (.long v :: S)))) : Go p e below Φ (T.setTop (mkF m pc L S)) := by
  subst hq; exact Go.by (X.ldc2Long hx hown (mvT hZ w) rfl hd) k
theorem g_ireturn (X : Stand p l e R s m args below meth c T locs cells slots) (hx : p.tables.exec = Jvm.exec) {Q : Option Value → Heap → List Loc → Prop} {rm : Room} (hlk : meth.locks = false) {z : Int32} (hrt : meth.sig.returnType = some .int) (hd : decode c.code pc = .ok (.ireturn, 1)) (hc : cells ≤ rm.cells) (hs : slots ≤ rm.slots) (hQ : Q (some (.int z)) T.heap locs) : Go p e below (Fin0 s rm Q) (T.setTop (mkF m pc L (.int z :: S))) := by
  obtain ⟨fs, hr, hrun, hended, hW, hsame⟩ := X.leave (v := (some (.int z))) (fun h => by rw [hrt] at h; cases h) hlk
  exact ⟨_, _, retOut X hx hrt rfl (Or.inl ⟨rfl, Or.inl rfl, z, rfl⟩) hd hr, hrun, hended, _, _, rfl, hQ, ⟨_, rfl⟩, hW, hsame.mono hc hs⟩
theorem g_lreturn (X : Stand p l e R s m args below meth c T locs cells slots) (hx : p.tables.exec = Jvm.exec) {Q : Option Value → Heap → List Loc → Prop} {rm : Room} (hlk : meth.locks = false) {z : Int64} (hrt : meth.sig.returnType = some .long) (hd : decode c.code pc = .ok (.lreturn, 1)) (hc : cells ≤ rm.cells) (hs : slots ≤ rm.slots) (hQ : Q (some (.long z)) T.heap locs) : Go p e below (Fin0 s rm Q) (T.setTop (mkF m pc L (.long z :: S))) := by
  obtain ⟨fs, hr, hrun, hended, hW, hsame⟩ := X.leave (v := (some (.long z))) (fun h => by rw [hrt] at h; cases h) hlk
  exact ⟨_, _, retOut X hx hrt rfl (Or.inr (Or.inl ⟨rfl, rfl, z, rfl⟩)) hd hr, hrun, hended, _, _, rfl, hQ, ⟨_, rfl⟩, hW, hsame.mono hc hs⟩
theorem g_areturn (X : Stand p l e R s m args below meth c T locs cells slots) (hx : p.tables.exec = Jvm.exec) {Q : Option Value → Heap → List Loc → Prop} {rm : Room} (hlk : meth.locks = false) {w : Value} {t : FieldType} (hw : w.isRef = true) (hrt : meth.sig.returnType = some t) (ht : t.isReference = true) (hd : decode c.code pc = .ok (.areturn, 1)) (hc : cells ≤ rm.cells) (hs : slots ≤ rm.slots) (hQ : Q (some w) T.heap locs) : Go p e below (Fin0 s rm Q) (T.setTop (mkF m pc L (w :: S))) := by
  obtain ⟨fs, hr, hrun, hended, hW, hsame⟩ := X.leave (v := (some w)) (fun h => by rw [hrt] at h; cases h) hlk
  exact ⟨_, _, retOut X hx hrt (by cases t <;> first | rfl | cases ht) (Or.inr (Or.inr (Or.inr (Or.inr ⟨rfl, ht, hw⟩)))) hd hr, hrun, hended, _, _, rfl, hQ, ⟨_, rfl⟩, hW, hsame.mono hc hs⟩
theorem g_zreturn (X : Stand p l e R s m args below meth c T locs cells slots) (hx : p.tables.exec = Jvm.exec) {Q : Option Value → Heap → List Loc → Prop} {rm : Room} (hlk : meth.locks = false) {b : Bool} (hrt : meth.sig.returnType = some .boolean) (hd : decode c.code pc = .ok (.ireturn, 1)) (hc : cells ≤ rm.cells) (hs : slots ≤ rm.slots) (hQ : Q (some (.int (b2i b))) T.heap locs) : Go p e below (Fin0 s rm Q) (T.setTop (mkF m pc L (.int (b2i b) :: S))) := by
  obtain ⟨fs, hr, hrun, hended, hW, hsame⟩ := X.leave (v := (some (.int (b2i b)))) (fun h => by rw [hrt] at h; cases h) hlk
  exact ⟨_, _, retOut X hx hrt (by cases b <;> rfl) (Or.inl ⟨rfl, Or.inr (Or.inl rfl), _, rfl⟩) hd hr, hrun, hended, _, _, rfl, hQ, ⟨_, rfl⟩, hW, hsame.mono hc hs⟩
theorem g_nreturn (X : Stand p l e R s m args below meth c T locs cells slots) (hx : p.tables.exec = Jvm.exec) {Q : Option Value → Heap → List Loc → Prop} {rm : Room} (hlk : meth.locks = false) {z : Int32} {t : FieldType} (hn : narrow t (.int z) = .int z) (ht : t = .int ∨ t = .boolean ∨ t = .byte ∨ t = .char ∨ t = .short) (hrt : meth.sig.returnType = some t) (hd : decode c.code pc = .ok (.ireturn, 1)) (hc : cells ≤ rm.cells) (hs : slots ≤ rm.slots) (hQ : Q (some (.int z)) T.heap locs) : Go p e below (Fin0 s rm Q) (T.setTop (mkF m pc L (.int z :: S))) := by
  obtain ⟨fs, hr, hrun, hended, hW, hsame⟩ := X.leave (v := (some (.int z))) (fun h => by rw [hrt] at h; cases h) hlk
  exact ⟨_, _, retOut X hx hrt hn (Or.inl ⟨rfl, ht, z, rfl⟩) hd hr, hrun, hended, _, _, rfl, hQ, ⟨_, rfl⟩, hW, hsame.mono hc hs⟩
theorem g_ret (X : Stand p l e R s m args below meth c T locs cells slots) (hx : p.tables.exec = Jvm.exec) {Q : Option Value → Heap → List Loc → Prop} {rm : Room} (hlk : meth.locks = false) (hrt : meth.sig.returnType = none) (hd : decode c.code pc = .ok (.return_, 1)) (hc : cells ≤ rm.cells) (hs : slots ≤ rm.slots) (hQ : Q none T.heap locs) : Go p e below (Fin0 s rm Q) (T.setTop (mkF m pc L [])) := by
  obtain ⟨fs, hr, hrun, hended, hW, hsame⟩ := X.leave (v := none) (fun _ => rfl) hlk
  exact ⟨_, _, X.returnOut hx hrt hd hr, hrun, hended, _, _, rfl, hQ, ⟨_, rfl⟩, hW, hsame.mono hc hs⟩
theorem g_callS (X : Stand p l e R s m args below meth c T locs cells slots) (hx : p.tables.exec = Jvm.exec) (hZ : Z.Warmed39 s.vm) {own : String} {index : Nat} {y : MethodName} {bytes : ByteArray} {maxL : Nat} {ret : Option FieldType} (hown : s.vm.findClass own = some m.cls) (w1 : (Jvm.Cond.methodLink own index y).before a0 Z = true) (w2 : (Jvm.Cond.static y).before a0 Z = true) (w3 : (Jvm.Cond.initialized y.cls).before a0 Z = true) (w4 : (Jvm.Cond.code y bytes maxL ret).before a0 Z = true) (hy : y.cls ≠ "java/lang/invoke/MethodHandle" ∧ y.cls ≠ "java/lang/invoke/VarHandle")
    {rm : Room} {as' : Array Value} {Q : Option Value → Heap → List Loc → Prop} (C : Ctr l Z y bytes maxL ret rm [] as' h Q) {argsL rest : List Value} {ps : List FieldType} {rt : Option FieldType} (hpd : parseMethodDescriptor y.desc = some ⟨ps, rt⟩) (hlen : argsL.length = ps.length) (hst : S = argsL.reverse ++ rest) (has : argsL.toArray = as') (hd : decode c.code pc = .ok (.invokestatic index, 3)) (hq : pc + 3 = q) (hsz : L.size = c.maxLocals) (eT : T.heap = h)
    (hf : rm.frames + 1 ≤ R.frames) {W : Nat} (hW : (rest.map fun v => v.category).sum = W) (hl : W + (maxL + 11) + rm.locals ≤ R.locals) (hc : cells + rm.cells ≤ R.cells) (hs : slots + rm.slots ≤ R.slots)
    (k : ∀ v T' Lc, Stand p l e R s m args below meth c T' (locs ++ Lc) (cells + rm.cells) (slots + rm.slots) → Q v T'.heap Lc → Go p e below Φ (T'.setTop (mkF m q L (v.toList ++ rest)))) : Go p e below Φ (T.setTop (mkF m pc L S)) := by
  subst hq has
  obtain ⟨v, _, ⟨T', L', k', n'⟩, -, X', ⟨Lc, hQ, l1, y1, z1⟩, st⟩ := Jvm.LawKit.callS X hx (y := y) hown (mvT hZ w1) (mvT hZ w2) (mvT hZ w3) (mvT hZ w4) hy (backOf (W := W) C hZ w4 w3 hf hl) (g := mkF m pc L S) rfl hsz (argsL := argsL) (rest := rest) (lenOf hpd hlen) hst (by show 2 * 0 + _ ≤ _; omega) hd (fun _ _ => ⟨rfl, eT, hc, hs⟩)
  dsimp only [Pt.U, Pt.locs, Pt.cells, Pt.slots] at X' l1 y1 z1 st hQ
  subst l1 y1 z1
  exact Go.by st (k v T' Lc X' hQ)
theorem g_callSP (X : Stand p l e R s m args below meth c T locs cells slots) (hx : p.tables.exec = Jvm.exec) (hZ : Z.Warmed39 s.vm) {own : String} {index : Nat} {y : MethodName} {bytes : ByteArray} {maxL : Nat} {ret : Option FieldType} (hown : s.vm.findClass own = some m.cls) (w1 : (Jvm.Cond.methodLink own index y).before a0 Z = true) (w2 : (Jvm.Cond.static y).before a0 Z = true) (w3 : (Jvm.Cond.initialized y.cls).before a0 Z = true) (w4 : (Jvm.Cond.code y bytes maxL ret).before a0 Z = true) (hy : y.cls ≠ "java/lang/invoke/MethodHandle" ∧ y.cls ≠ "java/lang/invoke/VarHandle")
    {rm : Room} {as' : Array Value} {r : Value} (C : Ctr l Z y bytes maxL ret rm [] as' h (PQ r h)) {argsL rest : List Value} {ps : List FieldType} {rt : Option FieldType} (hpd : parseMethodDescriptor y.desc = some ⟨ps, rt⟩) (hlen : argsL.length = ps.length) (hst : S = argsL.reverse ++ rest) (has : argsL.toArray = as') (hd : decode c.code pc = .ok (.invokestatic index, 3)) (hq : pc + 3 = q) (hsz : L.size = c.maxLocals) (eT : T.heap = h)
    (hf : rm.frames + 1 ≤ R.frames) {W : Nat} (hW : (rest.map fun v => v.category).sum = W) (hl : W + (maxL + 11) + rm.locals ≤ R.locals) (hc : rm.cells = 0) (hs : rm.slots = 0) (hc' : cells ≤ R.cells) (hs' : slots ≤ R.slots)
    (k : ∀ T', Stand p l e R s m args below meth c T' locs cells slots → T'.heap = h → Go p e below Φ (T'.setTop (mkF m q L (r :: rest)))) : Go p e below Φ (T.setTop (mkF m pc L S)) := by
  refine g_callS X hx hZ hown w1 w2 w3 w4 hy C hpd hlen hst has hd hq hsz eT hf hW hl (by omega) (by omega) ?_
  intro v T' Lc X' hQ
  obtain ⟨rfl, e1, rfl⟩ := hQ
  rw [hc, hs, List.append_nil] at X'
  exact k T' X' e1
theorem g_callSI (X : Stand p l e R s m args below meth c T locs cells slots) (hx : p.tables.exec = Jvm.exec) (hZ : Z.Warmed39 s.vm) {own : String} {index : Nat} {y : MethodName} {bytes : ByteArray} {maxL : Nat} {ret : Option FieldType} (hown : s.vm.findClass own = some m.cls) (w1 : (Jvm.Cond.methodLink own index y).before a0 Z = true) (w2 : (Jvm.Cond.static y).before a0 Z = true) (w3 : (Jvm.Cond.initialized y.cls).before a0 Z = true) (w4 : (Jvm.Cond.code y bytes maxL ret).before a0 Z = true) (hy : y.cls ≠ "java/lang/invoke/MethodHandle" ∧ y.cls ≠ "java/lang/invoke/VarHandle")
    {rm : Room} {as' : Array Value} {P : Int32 → Prop} (C : Ctr l Z y bytes maxL ret rm [] as' h (IQ P h)) {argsL rest : List Value} {ps : List FieldType} {rt : Option FieldType} (hpd : parseMethodDescriptor y.desc = some ⟨ps, rt⟩) (hlen : argsL.length = ps.length) (hst : S = argsL.reverse ++ rest) (has : argsL.toArray = as') (hd : decode c.code pc = .ok (.invokestatic index, 3)) (hq : pc + 3 = q) (hsz : L.size = c.maxLocals) (eT : T.heap = h)
    (hf : rm.frames + 1 ≤ R.frames) {W : Nat} (hW : (rest.map fun v => v.category).sum = W) (hl : W + (maxL + 11) + rm.locals ≤ R.locals) (hc : rm.cells = 0) (hs : rm.slots = 0) (hc' : cells ≤ R.cells) (hs' : slots ≤ R.slots)
    (k : ∀ T' r, Stand p l e R s m args below meth c T' locs cells slots → T'.heap = h → P r → Go p e below Φ (T'.setTop (mkF m q L (.int r :: rest)))) : Go p e below Φ (T.setTop (mkF m pc L S)) := by
  refine g_callS X hx hZ hown w1 w2 w3 w4 hy C hpd hlen hst has hd hq hsz eT hf hW hl (by omega) (by omega) ?_
  intro v T' Lc X' hQ
  obtain ⟨r, rfl, hP, e1, rfl⟩ := hQ
  rw [hc, hs, List.append_nil] at X'
  exact k T' r X' e1 hP
theorem g_callSJ (X : Stand p l e R s m args below meth c T locs cells slots) (hx : p.tables.exec = Jvm.exec) (hZ : Z.Warmed39 s.vm) {own : String} {index : Nat} {y : MethodName} {bytes : ByteArray} {maxL : Nat} {ret : Option FieldType} (hown : s.vm.findClass own = some m.cls) (w1 : (Jvm.Cond.methodLink own index y).before a0 Z = true) (w2 : (Jvm.Cond.static y).before a0 Z = true) (w3 : (Jvm.Cond.initialized y.cls).before a0 Z = true) (w4 : (Jvm.Cond.code y bytes maxL ret).before a0 Z = true) (hy : y.cls ≠ "java/lang/invoke/MethodHandle" ∧ y.cls ≠ "java/lang/invoke/VarHandle")
    {rm : Room} {as' : Array Value} {P : Int64 → Prop} (C : Ctr l Z y bytes maxL ret rm [] as' h (JQ P h)) {argsL rest : List Value} {ps : List FieldType} {rt : Option FieldType} (hpd : parseMethodDescriptor y.desc = some ⟨ps, rt⟩) (hlen : argsL.length = ps.length) (hst : S = argsL.reverse ++ rest) (has : argsL.toArray = as') (hd : decode c.code pc = .ok (.invokestatic index, 3)) (hq : pc + 3 = q) (hsz : L.size = c.maxLocals) (eT : T.heap = h)
    (hf : rm.frames + 1 ≤ R.frames) {W : Nat} (hW : (rest.map fun v => v.category).sum = W) (hl : W + (maxL + 11) + rm.locals ≤ R.locals) (hc : rm.cells = 0) (hs : rm.slots = 0) (hc' : cells ≤ R.cells) (hs' : slots ≤ R.slots)
    (k : ∀ T' r, Stand p l e R s m args below meth c T' locs cells slots → T'.heap = h → P r → Go p e below Φ (T'.setTop (mkF m q L (.long r :: rest)))) : Go p e below Φ (T.setTop (mkF m pc L S)) := by
  refine g_callS X hx hZ hown w1 w2 w3 w4 hy C hpd hlen hst has hd hq hsz eT hf hW hl (by omega) (by omega) ?_
  intro v T' Lc X' hQ
  obtain ⟨r, rfl, hP, e1, rfl⟩ := hQ
  rw [hc, hs, List.append_nil] at X'
  exact k T' r X' e1 hP
end OwnKit

/-! ### the own kit, heap part -/
def ArrL (Z : State) (h : Heap) (a : Addr) (ty : FieldType) (vals : List Value) : Prop := ∃ c : Cell, Arr Z h a c ty ∧ c.slots = vals.toArray ∧ vals.length < 2 ^ 31
abbrev IA (Z : State) (h : Heap) (a : Addr) (vs : List Int32) : Prop := ArrL Z h a .int (vs.map Value.int)
abbrev LA (Z : State) (h : Heap) (a : Addr) (vs : List Int64) : Prop := ArrL Z h a .long (vs.map Value.long)
abbrev ZA (Z : State) (h : Heap) (a : Addr) (vs : List Bool) : Prop := ArrL Z h a .boolean (vs.map fun b => Value.int (b2i b))
theorem own_clamp (j : Int32) : j.toNatClampNeg = j.toInt.toNat := rfl
theorem idxN {j : Int32} {i : Nat} (hj : j.toInt = (i : Int)) : ¬ j < 0 ∧ j.toNatClampNeg = i := by
  rw [own_clamp, Int32.lt_iff_toInt_lt, show (0 : Int32).toInt = 0 from rfl, hj]; omega
theorem idxIn {j : Int32} {i n : Nat} (hj : j.toInt = (i : Int)) (hi : i < n) : ¬ (j < 0 ∨ n ≤ j.toNatClampNeg) := by
  obtain ⟨h1, h2⟩ := idxN hj; exact fun h => h.elim h1 fun h => by rw [h2] at h; omega
section OwnHeap
variable {p : Program} {l : Launch} {e : Env} {R : Room} {s : State} {m : MethodId} {args : Array Value} {below : List Frame} {meth : Method} {c : Code} {T : State} {locs : List Loc} {cells slots : Nat} {Z : State} {a0 : Array Value} {h : Heap} {Φ : Outcome → State → Prop} {pc q : Nat} {L : Array Slot} {S : List Value}
variable {h' : Heap} {a b o : Addr} {ty : FieldType} {vals : List Value} {sl : Nat} {v w : Value} {ws : List Addr}
theorem ArrL.lt (F : ArrL Z h a ty vals) : a < h.size := by obtain ⟨c, A, -⟩ := F; exact A.lt
theorem ArrL.ext (F : ArrL Z h a ty vals) (E : Ext h h') : ArrL Z h' a ty vals := by obtain ⟨c, A, r⟩ := F; exact ⟨c, A.ext E, r⟩
theorem ArrL.other (F : ArrL Z h a ty vals) (W : Wr h h' b sl v) (q : a ≠ b) : ArrL Z h' a ty vals := by obtain ⟨c, A, r⟩ := F; exact ⟨c, A.other W q, r⟩
theorem ArrL.keep (F : ArrL Z h a ty vals) (K : Keep h h' ws) (q : a ∉ ws) : ArrL Z h' a ty vals := by obtain ⟨c, A, r⟩ := F; exact ⟨c, ⟨K.2.1 a c A.1 q, A.2⟩, r⟩
theorem ArrL.len (F : ArrL Z h a ty vals) : vals.length < 2 ^ 31 := by obtain ⟨c, A, -, r⟩ := F; exact r
theorem ArrL.set (F : ArrL Z h a ty vals) {i : Nat} (W : Wr h h' a i v) : ArrL Z h' a ty (vals.set i v) := by
  obtain ⟨c, A, e1, r⟩ := F
  refine ⟨_, A.same W, ?_, by rw [List.length_set]; exact r⟩
  show c.slots.setIfInBounds i v = _
  rw [e1]; simp
theorem ArrL.new {k : ClassId} {z : Int32} {n : Nat} (A : Arr Z h a (newA k ty z) ty) (hz : z.toInt = (n : Int)) : ArrL Z h a ty (List.replicate n (defaultValue ty)) := by
  refine ⟨_, A, ?_, ?_⟩
  · show Array.replicate z.toNatClampNeg (defaultValue ty) = _
    rw [(idxN hz).2]; simp
  · have := rng32 z; rw [List.length_replicate]; omega
theorem IA.eq {us vs : List Int32} (F : IA Z h a us) (q : us = vs) : IA Z h a vs := q ▸ F
theorem LA.eq {us vs : List Int64} (F : LA Z h a us) (q : us = vs) : LA Z h a vs := q ▸ F
theorem ZA.eq {us vs : List Bool} (F : ZA Z h a us) (q : us = vs) : ZA Z h a vs := q ▸ F
theorem ne_new (h1 : a < h.size) (q : o = h.size) : a ≠ o := by subst q; exact Nat.ne_of_lt h1
theorem ne_ge (h1 : a < h.size) (q : h.size ≤ o) : a ≠ o := Nat.ne_of_lt (Nat.lt_of_lt_of_le h1 q)
theorem ge_new {n0 : Nat} (h1 : n0 ≤ h.size) (q : o = h.size) : n0 ≤ o := by subst q; exact h1
theorem Fr.wr {n0 i : Nat} (N : Fr n0 locs) (q : n0 ≤ a) : Fr n0 (locs ++ [⟨a, i⟩]) := N.app fun y hy => by cases List.mem_singleton.mp hy; exact q
theorem g_iload_ (X : Stand p l e R s m args below meth c T locs cells slots) (hx : p.tables.exec = Jvm.exec) (hZ : Z.Warmed39 s.vm) (eT : T.heap = h) {vs : List Int32} (F : IA Z h a vs) {j : Int32} {i : Nat} {v : Int32} (hj : j.toInt = (i : Int)) (hv : vs[i]? = some v) (hd : decode c.code pc = .ok (.iaload, 1)) (hq : pc + 1 = q) (k : Go p e below Φ (T.setTop (mkF m q L (.int v :: S)))) : Go p e below Φ (T.setTop (mkF m pc L (.int j :: .ref a :: S))) := by
  subst hq
  obtain ⟨cl, A, e1, r⟩ := F
  have hi : i < vs.length := (List.getElem?_eq_some_iff.mp hv).1
  have hs : cl.slots.size = vs.length := by rw [e1]; simp
  refine Go.by (X.iaload hx (cell := cl) (j := j) (v := (.int v)) (by rw [eT]; exact A.1) (State.isArrayOf_alike hZ.alike A.2.1) A.2.2 (idxIn hj (by rw [hs]; exact hi)) (by rw [(idxN hj).2, e1]; simp [hv]) rfl rfl hd) k
theorem g_istore_ (X : Stand p l e R s m args below meth c T locs cells slots) (hx : p.tables.exec = Jvm.exec) (hZ : Z.Warmed39 s.vm) (eT : T.heap = h) {vs : List Int32} (F : IA Z h a vs) {j : Int32} {i : Nat} {v : Int32} (hj : j.toInt = (i : Int)) (hi : i < vs.length) (hd : decode c.code pc = .ok (.iastore, 1)) (hq : pc + 1 = q) (k : ∀ T' h', Stand p l e R s m args below meth c T' (locs ++ [⟨a, i⟩]) cells slots → T'.heap = h' → Wr h h' a i (.int v) → IA Z h' a (vs.set i v) → Go p e below Φ (T'.setTop (mkF m q L S))) : Go p e below Φ (T.setTop (mkF m pc L (.int v :: .int j :: .ref a :: S))) := by
  subst hq
  have F0 := F
  obtain ⟨cl, A, e1, r⟩ := F
  have hs : cl.slots.size = vs.length := by rw [e1]; simp
  obtain ⟨T', h', X', e', W, st⟩ := stI X hx hZ eT A (j := j) (x := v) (idxIn hj (by rw [hs]; exact hi)) (g := mkF m pc L ((.int v) :: .int j :: .ref a :: S)) rfl rfl hd
  rw [(idxN hj).2] at X' W
  refine Go.by st (k T' h' X' e' W ?_)
  have := F0.set W
  show ArrL Z h' a .int ((vs.set i v).map Value.int)
  rw [List.map_set]; exact this
theorem g_inew_ (X : Stand p l e R s m args below meth c T locs cells slots) (hx : p.tables.exec = Jvm.exec) (hZ : Z.Warmed39 s.vm) (w : (Jvm.Cond.arrayClass .int).before a0 Z = true) (eT : T.heap = h) {z : Int32} {n cap : Nat} (hz : z.toInt = (n : Int)) (hn : n ≤ cap) (hb : cap * 8 ≤ 536870912) (hd : decode c.code pc = .ok (.newarray .int, 2)) (hq : pc + 2 = q) (hc : cells + 1 ≤ R.cells) (hl : slots + cap ≤ R.slots) (k : ∀ T' h' o, Stand p l e R s m args below meth c T' locs (cells + 1) (slots + cap) → T'.heap = h' → Ext h h' → o = h.size → IA Z h' o (List.replicate n 0) → Go p e below Φ (T'.setTop (mkF m q L (.ref o :: S)))) : Go p e below Φ (T.setTop (mkF m pc L (.int z :: S))) := by
  subst hq
  obtain ⟨T', h', cA, X', e', E, A, st⟩ := newP X hx hZ (aty := .int) w eT (g := mkF m pc L (.int z :: S)) rfl hd rfl (idxN hz).1 (cap := cap) (by rw [(idxN hz).2]; exact hn) hb hc hl
  refine Go.by st (k T' h' h.size X' e' E rfl ?_)
  have := ArrL.new A hz
  show ArrL Z h' h.size .int _
  rw [List.map_replicate]; exact this
theorem g_lload_ (X : Stand p l e R s m args below meth c T locs cells slots) (hx : p.tables.exec = Jvm.exec) (hZ : Z.Warmed39 s.vm) (eT : T.heap = h) {vs : List Int64} (F : LA Z h a vs) {j : Int32} {i : Nat} {v : Int64} (hj : j.toInt = (i : Int)) (hv : vs[i]? = some v) (hd : decode c.code pc = .ok (.laload, 1)) (hq : pc + 1 = q) (k : Go p e below Φ (T.setTop (mkF m q L (.long v :: S)))) : Go p e below Φ (T.setTop (mkF m pc L (.int j :: .ref a :: S))) := by
  subst hq
  obtain ⟨cl, A, e1, r⟩ := F
  have hi : i < vs.length := (List.getElem?_eq_some_iff.mp hv).1
  have hs : cl.slots.size = vs.length := by rw [e1]; simp
  refine Go.by (X.laload hx (cell := cl) (j := j) (v := (.long v)) (by rw [eT]; exact A.1) (State.isArrayOf_alike hZ.alike A.2.1) A.2.2 (idxIn hj (by rw [hs]; exact hi)) (by rw [(idxN hj).2, e1]; simp [hv]) rfl rfl hd) k
theorem g_lstore_ (X : Stand p l e R s m args below meth c T locs cells slots) (hx : p.tables.exec = Jvm.exec) (hZ : Z.Warmed39 s.vm) (eT : T.heap = h) {vs : List Int64} (F : LA Z h a vs) {j : Int32} {i : Nat} {v : Int64} (hj : j.toInt = (i : Int)) (hi : i < vs.length) (hd : decode c.code pc = .ok (.lastore, 1)) (hq : pc + 1 = q) (k : ∀ T' h', Stand p l e R s m args below meth c T' (locs ++ [⟨a, i⟩]) cells slots → T'.heap = h' → Wr h h' a i (.long v) → LA Z h' a (vs.set i v) → Go p e below Φ (T'.setTop (mkF m q L S))) : Go p e below Φ (T.setTop (mkF m pc L (.long v :: .int j :: .ref a :: S))) := by
  subst hq
  have F0 := F
  obtain ⟨cl, A, e1, r⟩ := F
  have hs : cl.slots.size = vs.length := by rw [e1]; simp
  obtain ⟨T', h', X', e', W, st⟩ := stJ X hx hZ eT A (j := j) (x := v) (idxIn hj (by rw [hs]; exact hi)) (g := mkF m pc L ((.long v) :: .int j :: .ref a :: S)) rfl rfl hd
  rw [(idxN hj).2] at X' W
  refine Go.by st (k T' h' X' e' W ?_)
  have := F0.set W
  show ArrL Z h' a .long ((vs.set i v).map Value.long)
  rw [List.map_set]; exact this
theorem g_lnew_ (X : Stand p l e R s m args below meth c T locs cells slots) (hx : p.tables.exec = Jvm.exec) (hZ : Z.Warmed39 s.vm) (w : (Jvm.Cond.arrayClass .long).before a0 Z = true) (eT : T.heap = h) {z : Int32} {n cap : Nat} (hz : z.toInt = (n : Int)) (hn : n ≤ cap) (hb : cap * 8 ≤ 536870912) (hd : decode c.code pc = .ok (.newarray .long, 2)) (hq : pc + 2 = q) (hc : cells + 1 ≤ R.cells) (hl : slots + cap ≤ R.slots) (k : ∀ T' h' o, Stand p l e R s m args below meth c T' locs (cells + 1) (slots + cap) → T'.heap = h' → Ext h h' → o = h.size → LA Z h' o (List.replicate n 0) → Go p e below Φ (T'.setTop (mkF m q L (.ref o :: S)))) : Go p e below Φ (T.setTop (mkF m pc L (.int z :: S))) := by
  subst hq
  obtain ⟨T', h', cA, X', e', E, A, st⟩ := newP X hx hZ (aty := .long) w eT (g := mkF m pc L (.int z :: S)) rfl hd rfl (idxN hz).1 (cap := cap) (by rw [(idxN hz).2]; exact hn) hb hc hl
  refine Go.by st (k T' h' h.size X' e' E rfl ?_)
  have := ArrL.new A hz
  show ArrL Z h' h.size .long _
  rw [List.map_replicate]; exact this
theorem g_zload_ (X : Stand p l e R s m args below meth c T locs cells slots) (hx : p.tables.exec = Jvm.exec) (hZ : Z.Warmed39 s.vm) (eT : T.heap = h) {vs : List Bool} (F : ZA Z h a vs) {j : Int32} {i : Nat} {v : Bool} (hj : j.toInt = (i : Int)) (hv : vs[i]? = some v) (hd : decode c.code pc = .ok (.baload, 1)) (hq : pc + 1 = q) (k : Go p e below Φ (T.setTop (mkF m q L (.int (b2i v) :: S)))) : Go p e below Φ (T.setTop (mkF m pc L (.int j :: .ref a :: S))) := by
  subst hq
  obtain ⟨cl, A, e1, r⟩ := F
  have hi : i < vs.length := (List.getElem?_eq_some_iff.mp hv).1
  have hs : cl.slots.size = vs.length := by rw [e1]; simp
  refine Go.by (X.baloadBooleans hx (cell := cl) (j := j) (v := (.int (b2i v))) (by rw [eT]; exact A.1) (State.isArrayOf_alike hZ.alike A.2.1) A.2.2 (idxIn hj (by rw [hs]; exact hi)) (by rw [(idxN hj).2, e1]; simp [hv]) rfl rfl hd) k
theorem g_zstore_ (X : Stand p l e R s m args below meth c T locs cells slots) (hx : p.tables.exec = Jvm.exec) (hZ : Z.Warmed39 s.vm) (eT : T.heap = h) {vs : List Bool} (F : ZA Z h a vs) {j : Int32} {i : Nat} {v : Bool} (hj : j.toInt = (i : Int)) (hi : i < vs.length) (hd : decode c.code pc = .ok (.bastore, 1)) (hq : pc + 1 = q) (k : ∀ T' h', Stand p l e R s m args below meth c T' (locs ++ [⟨a, i⟩]) cells slots → T'.heap = h' → Wr h h' a i (.int (b2i v)) → ZA Z h' a (vs.set i v) → Go p e below Φ (T'.setTop (mkF m q L S))) : Go p e below Φ (T.setTop (mkF m pc L (.int (b2i v) :: .int j :: .ref a :: S))) := by
  subst hq
  have F0 := F
  obtain ⟨cl, A, e1, r⟩ := F
  have hs : cl.slots.size = vs.length := by rw [e1]; simp
  obtain ⟨T', h', X', e', W, st⟩ := stZ X hx hZ eT A (j := j) (x := b2i v) (idxIn hj (by rw [hs]; exact hi)) (g := mkF m pc L ((.int (b2i v)) :: .int j :: .ref a :: S)) rfl rfl hd
  have W : Wr h h' a j.toNatClampNeg (.int (b2i v)) := by have W' := W; rw [b2i_nar] at W'; exact W'
  rw [(idxN hj).2] at X' W
  refine Go.by st (k T' h' X' e' W ?_)
  have := F0.set W
  show ArrL Z h' a .boolean ((vs.set i v).map (fun b => Value.int (b2i b)))
  rw [List.map_set]; exact this
theorem g_znew_ (X : Stand p l e R s m args below meth c T locs cells slots) (hx : p.tables.exec = Jvm.exec) (hZ : Z.Warmed39 s.vm) (w : (Jvm.Cond.arrayClass .boolean).before a0 Z = true) (eT : T.heap = h) {z : Int32} {n cap : Nat} (hz : z.toInt = (n : Int)) (hn : n ≤ cap) (hb : cap * 8 ≤ 536870912) (hd : decode c.code pc = .ok (.newarray .boolean, 2)) (hq : pc + 2 = q) (hc : cells + 1 ≤ R.cells) (hl : slots + cap ≤ R.slots) (k : ∀ T' h' o, Stand p l e R s m args below meth c T' locs (cells + 1) (slots + cap) → T'.heap = h' → Ext h h' → o = h.size → ZA Z h' o (List.replicate n false) → Go p e below Φ (T'.setTop (mkF m q L (.ref o :: S)))) : Go p e below Φ (T.setTop (mkF m pc L (.int z :: S))) := by
  subst hq
  obtain ⟨T', h', cA, X', e', E, A, st⟩ := newP X hx hZ (aty := .boolean) w eT (g := mkF m pc L (.int z :: S)) rfl hd rfl (idxN hz).1 (cap := cap) (by rw [(idxN hz).2]; exact hn) hb hc hl
  refine Go.by st (k T' h' h.size X' e' E rfl ?_)
  have := ArrL.new A hz
  show ArrL Z h' h.size .boolean _
  rw [List.map_replicate]; exact this
theorem g_bnew_ (X : Stand p l e R s m args below meth c T locs cells slots) (hx : p.tables.exec = Jvm.exec) (hZ : Z.Warmed39 s.vm) (w : (Jvm.Cond.arrayClass .byte).before a0 Z = true) (eT : T.heap = h) {z : Int32} {n cap : Nat} (hz : z.toInt = (n : Int)) (hn : n ≤ cap) (hb : cap * 8 ≤ 536870912) (hd : decode c.code pc = .ok (.newarray .byte, 2)) (hq : pc + 2 = q) (hc : cells + 1 ≤ R.cells) (hl : slots + cap ≤ R.slots) (k : ∀ T' h' o, Stand p l e R s m args below meth c T' locs (cells + 1) (slots + cap) → T'.heap = h' → Ext h h' → o = h.size → ArrL Z h' o .byte (List.replicate n (.int 0)) → Go p e below Φ (T'.setTop (mkF m q L (.ref o :: S)))) : Go p e below Φ (T.setTop (mkF m pc L (.int z :: S))) := by
  subst hq
  obtain ⟨T', h', cA, X', e', E, A, st⟩ := newP X hx hZ (aty := .byte) w eT (g := mkF m pc L (.int z :: S)) rfl hd rfl (idxN hz).1 (cap := cap) (by rw [(idxN hz).2]; exact hn) hb hc hl
  exact Go.by st (k T' h' h.size X' e' E rfl (ArrL.new A hz))
theorem g_bload_ (X : Stand p l e R s m args below meth c T locs cells slots) (hx : p.tables.exec = Jvm.exec) (hZ : Z.Warmed39 s.vm) (eT : T.heap = h) (F : ArrL Z h a .byte vals) {j : Int32} {i : Nat} {v : Int32} (hj : j.toInt = (i : Int)) (hv : vals[i]? = some (.int v)) (hd : decode c.code pc = .ok (.baload, 1)) (hq : pc + 1 = q) (k : Go p e below Φ (T.setTop (mkF m q L (.int v :: S)))) : Go p e below Φ (T.setTop (mkF m pc L (.int j :: .ref a :: S))) := by
  subst hq
  obtain ⟨cl, A, e1, r⟩ := F
  have hi : i < vals.length := (List.getElem?_eq_some_iff.mp hv).1
  have hs : cl.slots.size = vals.length := by rw [e1]; simp
  refine Go.by (X.baloadBytes hx (cell := cl) (j := j) (v := .int v) (by rw [eT]; exact A.1) (State.isArrayOf_alike hZ.alike A.2.1) A.2.2 (idxIn hj (by rw [hs]; exact hi)) (by rw [(idxN hj).2, e1]; simp [hv]) rfl rfl hd) k
theorem g_getS (X : Stand p l e R s m args below meth c T locs cells slots) (hx : p.tables.exec = Jvm.exec) (hZ : Z.Warmed39 s.vm) {own R0 n d : String} {index : Nat} (hown : s.vm.findClass own = some m.cls) (w : (Jvm.Cond.fieldLink own index R0 n d).before a0 Z = true) (eT : T.heap = h) (F : Sta Z h R0 n d v) (hd : decode c.code pc = .ok (.getstatic index, 3)) (hq : pc + 3 = q) (k : ∀ T', Stand p l e R s m args below meth c T' locs cells slots → T'.heap = h → Go p e below Φ (T'.setTop (mkF m q L (v :: S)))) : Go p e below Φ (T.setTop (mkF m pc L S)) := by
  subst hq
  obtain ⟨T', X', e', st⟩ := getS (host := "") X hx hZ hown w Via.refl eT F (g := mkF m pc L S) rfl hd
  exact Go.by st (k T' X' e')
theorem g_alen (X : Stand p l e R s m args below meth c T locs cells slots) (hx : p.tables.exec = Jvm.exec) (hZ : Z.Warmed39 s.vm) (eT : T.heap = h) (F : ArrL Z h a ty vals) {v : Int32} (hv : v.toInt = (vals.length : Int)) (hd : decode c.code pc = .ok (.arraylength, 1)) (hq : pc + 1 = q) (k : Go p e below Φ (T.setTop (mkF m q L (.int v :: S)))) : Go p e below Φ (T.setTop (mkF m pc L (.ref a :: S))) := by
  subst hq
  obtain ⟨cl, A, e1, r⟩ := F
  have hs : cl.slots.size = vals.length := by rw [e1]; simp
  have hz : cl.slots.size.toInt32 = v := Int32.toInt_inj.mp (by rw [hs, len_toInt r]; exact hv.symm)
  refine Go.by (X.arraylength hx (cell := cl) (by rw [eT]; exact A.1) (State.isArrayOf_alike hZ.alike A.2.1) rfl rfl hd) ?_
  rw [hz]; exact k
theorem g_getF (X : Stand p l e R s m args below meth c T locs cells slots) (hx : p.tables.exec = Jvm.exec) (hZ : Z.Warmed39 s.vm) {own R0 n d : String} {index : Nat} (hown : s.vm.findClass own = some m.cls) (w : (Jvm.Cond.fieldLink own index R0 n d).before a0 Z = true) (eT : T.heap = h) (F : Fld Z h a R0 n d v) (hd : decode c.code pc = .ok (.getfield index, 3)) (hq : pc + 3 = q) (k : ∀ T', Stand p l e R s m args below meth c T' locs cells slots → T'.heap = h → Go p e below Φ (T'.setTop (mkF m q L (v :: S)))) : Go p e below Φ (T.setTop (mkF m pc L (.ref a :: S))) := by
  subst hq
  obtain ⟨T', X', e', st⟩ := getF X hx hZ hown (host := "") (Or.inl w) Via.refl eT F (g := mkF m pc L (.ref a :: S)) rfl rfl hd
  exact Go.by st (k T' X' e')
theorem g_putF (X : Stand p l e R s m args below meth c T locs cells slots) (hx : p.tables.exec = Jvm.exec) (hZ : Z.Warmed39 s.vm) {own R0 n d C : String} {index kk : Nat} {ty : FieldType} (hown : s.vm.findClass own = some m.cls) (wl : (Jvm.Cond.fieldLink own index R0 n d).before a0 Z = true) (eT : T.heap = h) (F : Fld Z h a R0 n d w) (E : Exa Z h a C) (Ly : (Jvm.Cond.lays C R0 n d).before a0 Z = true ∨ ((Jvm.Cond.laysFinal C R0 n d).before a0 Z = true ∧ own = R0 ∧ meth.name = "<init>")) (wi : (Jvm.Cond.instantiable C kk).before a0 Z = true) (hty : parseFieldDescriptor d = some ty) (hn : narrow ty v = v) (hf : fits ty v = true) (hd : decode c.code pc = .ok (.putfield index, 3)) (hq : pc + 3 = q) (k : ∀ T' h', Stand p l e R s m args below meth c T' (locs ++ [⟨a, Jvm.RoadKit.slotOf Z R0 n d⟩]) cells slots → T'.heap = h' → Wr h h' a (Jvm.RoadKit.slotOf Z R0 n d) v → Fld Z h' a R0 n d v → Go p e below Φ (T'.setTop (mkF m q L S))) : Go p e below Φ (T.setTop (mkF m pc L (v :: .ref a :: S))) := by
  subst hq
  obtain ⟨T', h', X', e', W, st⟩ := putF X hx hZ hown (host := "") (Or.inl wl) Via.refl eT F E Ly wi hty hn hf (g := mkF m pc L (v :: .ref a :: S)) rfl rfl hd
  exact Go.by st (k T' h' X' e' W (F.same W))
theorem g_newO (X : Stand p l e R s m args below meth c T locs cells slots) (hx : p.tables.exec = Jvm.exec) (hZ : Z.Warmed39 s.vm) {own C : String} {index n : Nat} (hown : s.vm.findClass own = some m.cls) (w : (Jvm.Cond.classLink own index C).before a0 Z = true) (wi : (Jvm.Cond.instantiable C n).before a0 Z = true) (wz : (Jvm.Cond.initialized C).before a0 Z = true) (eT : T.heap = h) (hd : decode c.code pc = .ok (.new index, 3)) (hq : pc + 3 = q) (hc : cells + 1 ≤ R.cells) (hl : slots + n ≤ R.slots) (k : ∀ T' h' o, Stand p l e R s m args below meth c T' locs (cells + 1) (slots + n) → T'.heap = h' → Ext h h' → o = h.size → Exa Z h' o C → (∀ {O nm d : String} {ty : FieldType}, Laid Z a0 C O nm d → parseFieldDescriptor d = some ty → Fld Z h' o O nm d (defaultValue ty)) → Go p e below Φ (T'.setTop (mkF m q L (.ref o :: S)))) : Go p e below Φ (T.setTop (mkF m pc L S)) := by
  subst hq
  obtain ⟨T', h', X', e', E, A, D, -, st⟩ := newO X hx hZ hown w wi wz eT (g := mkF m pc L S) rfl hd hc hl
  exact Go.by st (k T' h' h.size X' e' E rfl A D)
theorem g_initO (X : Stand p l e R s m args below meth c T locs cells slots) (hx : p.tables.exec = Jvm.exec) (hZ : Z.Warmed39 s.vm) {own : String} {index : Nat} (hown : s.vm.findClass own = some m.cls) (w1 : (Jvm.Cond.methodLink own index Lib.objectInit).before a0 Z = true) (w2 : (Jvm.Cond.instanceMethod Lib.objectInit).before a0 Z = true) (w3 : (Jvm.Cond.code Lib.objectInit ⟨#[0xb1]⟩ 1 none).before a0 Z = true) (eT : T.heap = h) (hsz : L.size = c.maxLocals) (hd : decode c.code pc = .ok (.invokespecial index, 3)) (hq : pc + 3 = q) (hf : 1 ≤ R.frames) {W : Nat} (hW : (S.map fun v => v.category).sum = W) (hl : W + 12 ≤ R.locals) (k : ∀ T', Stand p l e R s m args below meth c T' locs cells slots → T'.heap = h → Go p e below Φ (T'.setTop (mkF m q L S))) : Go p e below Φ (T.setTop (mkF m pc L (.ref a :: S))) := by
  subst hq
  obtain ⟨T', X', e', st⟩ := initO X hx hZ hown w1 w2 w3 eT (g := mkF m pc L (.ref a :: S)) rfl hsz rfl hd hf (W := W) (by show 2 * 0 + _ ≤ _; omega) hl
  exact Go.by st (k T' X' e')
theorem g_special (X : Stand p l e R s m args below meth c T locs cells slots) (hx : p.tables.exec = Jvm.exec) (hZ : Z.Warmed39 s.vm) {own : String} {index : Nat} {y : MethodName} {bytes : ByteArray} {maxL : Nat} (hy1 : y.name = "<init>") (hown : s.vm.findClass own = some m.cls) (w1 : (Jvm.Cond.methodLink own index y).before a0 Z = true) (w2 : (Jvm.Cond.instanceMethod y).before a0 Z = true) (w3 : (Jvm.Cond.initialized y.cls).before a0 Z = true) (w4 : (Jvm.Cond.code y bytes maxL none).before a0 Z = true) (hy : y.cls ≠ "java/lang/invoke/MethodHandle" ∧ y.cls ≠ "java/lang/invoke/VarHandle")
    {rm : Room} {as' : Array Value} {Q : Option Value → Heap → List Loc → Prop} (C : Ctr l Z y bytes maxL none rm [] as' h Q) {argsL rest : List Value} {ps : List FieldType} {rt : Option FieldType} (hpd : parseMethodDescriptor y.desc = some ⟨ps, rt⟩) (hlen : argsL.length = ps.length) (hst : S = argsL.reverse ++ .ref a :: rest) (has : (.ref a :: argsL).toArray = as') (hd : decode c.code pc = .ok (.invokespecial index, 3)) (hq : pc + 3 = q) (hsz : L.size = c.maxLocals) (eT : T.heap = h)
    (hf : rm.frames + 1 ≤ R.frames) {W : Nat} (hW : (rest.map fun v => v.category).sum = W) (hl : W + (maxL + 11) + rm.locals ≤ R.locals) (hc : cells + rm.cells ≤ R.cells) (hs : slots + rm.slots ≤ R.slots)
    (k : ∀ v T' Lc, Stand p l e R s m args below meth c T' (locs ++ Lc) (cells + rm.cells) (slots + rm.slots) → Q v T'.heap Lc → Go p e below Φ (T'.setTop (mkF m q L (v.toList ++ rest)))) : Go p e below Φ (T.setTop (mkF m pc L S)) := by
  subst hq has
  obtain ⟨v, _, ⟨T', L', k', n'⟩, -, X', ⟨Lc, hQ, l1, y1, z1⟩, st⟩ := X.specialBack hx (y := y) hy1 hown (mvT hZ w1) (mvT hZ w2) (mvT hZ w4) hy (backOf (W := W) C hZ w4 w3 hf hl) (g := mkF m pc L S) rfl hsz (Steps.refl _) (a := a) (argsL := argsL) (rest := rest) (lenOf hpd hlen) hst (by show 2 * 0 + _ ≤ _; omega) hd (fun _ _ => ⟨rfl, eT, hc, hs⟩)
  dsimp only [Pt.U, Pt.locs, Pt.cells, Pt.slots] at X' l1 y1 z1 st hQ
  subst l1 y1 z1
  exact Go.by (fun _ r => st.trans r) (k v T' Lc X' hQ)
theorem g_virtual (X : Stand p l e R s m args below meth c T locs cells slots) (hx : p.tables.exec = Jvm.exec) (hZ : Z.Warmed39 s.vm) {own C0 : String} {index : Nat} {y : MethodName} {bytes : ByteArray} {maxL : Nat} {ret : Option FieldType} (hown : s.vm.findClass own = some m.cls) (w1 : (Jvm.Cond.methodLink own index y).before a0 Z = true) (w2 : (Jvm.Cond.declares y).before a0 Z = true) (w3 : (Jvm.Cond.selects C0 y y).before a0 Z = true) (w4 : (Jvm.Cond.instanceMethod y).before a0 Z = true) (w5 : (Jvm.Cond.initialized y.cls).before a0 Z = true) (w6 : (Jvm.Cond.code y bytes maxL ret).before a0 Z = true) (hy : y.cls ≠ "java/lang/invoke/MethodHandle" ∧ y.cls ≠ "java/lang/invoke/VarHandle")
    {rm : Room} {as' : Array Value} {Q : Option Value → Heap → List Loc → Prop} (C : Ctr l Z y bytes maxL ret rm [] as' h Q) (Ex : Exa Z h a C0) {argsL rest : List Value} {ps : List FieldType} {rt : Option FieldType} (hpd : parseMethodDescriptor y.desc = some ⟨ps, rt⟩) (hlen : argsL.length = ps.length) (hst : S = argsL.reverse ++ .ref a :: rest) (has : (.ref a :: argsL).toArray = as') (hd : decode c.code pc = .ok (.invokevirtual index, 3)) (hq : pc + 3 = q) (hsz : L.size = c.maxLocals) (eT : T.heap = h)
    (hf : rm.frames + 1 ≤ R.frames) {W : Nat} (hW : (rest.map fun v => v.category).sum = W) (hl : W + (maxL + 11) + rm.locals ≤ R.locals) (hc : cells + rm.cells ≤ R.cells) (hs : slots + rm.slots ≤ R.slots)
    (k : ∀ v T' Lc, Stand p l e R s m args below meth c T' (locs ++ Lc) (cells + rm.cells) (slots + rm.slots) → Q v T'.heap Lc → Go p e below Φ (T'.setTop (mkF m q L (v.toList ++ rest)))) : Go p e below Φ (T.setTop (mkF m pc L S)) := by
  subst hq has
  obtain ⟨cq, kq, qa, qb, qc⟩ := isOf hZ eT Ex
  obtain ⟨v, _, ⟨T', L', k', n'⟩, -, X', ⟨Lc, hQ, l1, y1, z1⟩, st⟩ := X.virtualBack hx (y := y) (z := y) hown (mvT hZ w1) (mvT hZ w2) (notFace_of_selects (args := #[]) (mvT hZ w3)) (mvT hZ w3) (mvT hZ w4) hy (backOf (W := W) C hZ w6 w5 hf hl) qa qc (g := mkF m pc L S) rfl hsz (Steps.refl _) (argsL := argsL) (rest := rest) (lenOf hpd hlen) hst (by show 2 * 0 + _ ≤ _; omega) hd (fun _ _ => ⟨rfl, eT, hc, hs⟩)
  dsimp only [Pt.U, Pt.locs, Pt.cells, Pt.slots] at X' l1 y1 z1 st hQ
  subst l1 y1 z1
  exact Go.by (fun _ r => st.trans r) (k v T' Lc X' hQ)
theorem g_private (X : Stand p l e R s m args below meth c T locs cells slots) (hx : p.tables.exec = Jvm.exec) (hZ : Z.Warmed39 s.vm) {own : String} {index kI : Nat} {y : MethodName} {bytes : ByteArray} {maxL : Nat} {ret : Option FieldType} (hown : s.vm.findClass own = some m.cls) (w1 : (Jvm.Cond.methodLink own index y).before a0 Z = true) (w2 : (Jvm.Cond.instanceMethod y).before a0 Z = true) (w3 : (Jvm.Cond.privateMethod y).before a0 Z = true) (w4 : (Jvm.Cond.instantiable y.cls kI).before a0 Z = true) (w5 : (Jvm.Cond.initialized y.cls).before a0 Z = true) (w6 : (Jvm.Cond.code y bytes maxL ret).before a0 Z = true) (hy : y.cls ≠ "java/lang/invoke/MethodHandle" ∧ y.cls ≠ "java/lang/invoke/VarHandle")
    {rm : Room} {as' : Array Value} {Q : Option Value → Heap → List Loc → Prop} (C : Ctr l Z y bytes maxL ret rm [] as' h Q) (Ex : Exa Z h a y.cls) {argsL rest : List Value} {ps : List FieldType} {rt : Option FieldType} (hpd : parseMethodDescriptor y.desc = some ⟨ps, rt⟩) (hlen : argsL.length = ps.length) (hst : S = argsL.reverse ++ .ref a :: rest) (has : (.ref a :: argsL).toArray = as') (hd : decode c.code pc = .ok (.invokevirtual index, 3)) (hq : pc + 3 = q) (hsz : L.size = c.maxLocals) (eT : T.heap = h)
    (hf : rm.frames + 1 ≤ R.frames) {W : Nat} (hW : (rest.map fun v => v.category).sum = W) (hl : W + (maxL + 11) + rm.locals ≤ R.locals) (hc : cells + rm.cells ≤ R.cells) (hs : slots + rm.slots ≤ R.slots)
    (k : ∀ v T' Lc, Stand p l e R s m args below meth c T' (locs ++ Lc) (cells + rm.cells) (slots + rm.slots) → Q v T'.heap Lc → Go p e below Φ (T'.setTop (mkF m q L (v.toList ++ rest)))) : Go p e below Φ (T.setTop (mkF m pc L S)) := by
  subst hq has
  obtain ⟨cq, q1, q2⟩ := Ex.cell
  have hp : s.PrivateAt y := Cond.privateMethod_at (mvP hZ w3 (args := args))
  obtain ⟨c1, k1, i1, i2, i3, i4, -⟩ := Cond.instantiable_spec (mvT (args := args) hZ w4)
  have hsel : (Jvm.Cond.selects y.cls y y).before args s = true := selects_self_of_private i1 i2 (Bool.or_eq_false_iff.mp i4).1 hp (mvT hZ w2) hy
  obtain ⟨v, _, ⟨T', L', k', n'⟩, -, X', ⟨Lc, hQ, l1, y1, z1⟩, st⟩ := X.privateBack hx (y := y) hown (mvT hZ w1) (mvT hZ w2) hsel hp (mvT hZ w6) hy (backOf (W := W) C hZ w6 w5 hf hl) (g := mkF m pc L S) rfl hsz (Steps.refl _) (a := a) (cell := cq) (by rw [eT]; exact q1) q2 (argsL := argsL) (rest := rest) (lenOf hpd hlen) hst (by show 2 * 0 + _ ≤ _; omega) hd (fun _ _ => ⟨rfl, eT, hc, hs⟩)
  dsimp only [Pt.U, Pt.locs, Pt.cells, Pt.slots] at X' l1 y1 z1 st hQ
  subst l1 y1 z1
  exact Go.by (fun _ r => st.trans r) (k v T' Lc X' hQ)
theorem g_acmp_eq (X : Stand p l e R s m args below meth c T locs cells slots) (hx : p.tables.exec = Jvm.exec) {o : Int} {q0 : Nat} {x y : Addr} (hd : decode c.code pc = .ok (.if_acmp .eq o, 3)) (ho : 0 ≤ (pc : Int) + o) (hq : ((pc : Int) + o).toNat = q) (hq0 : pc + 3 = q0) (k1 : x = y → Go p e below Φ (T.setTop (mkF m q L S))) (k0 : x ≠ y → Go p e below Φ (T.setTop (mkF m q0 L S))) : Go p e below Φ (T.setTop (mkF m pc L (.ref y :: .ref x :: S))) := by
  subst hq0
  by_cases hb : x = y
  · exact Go.by (fun _ => acmp X hx rfl rfl rfl (same := true) rfl hd rfl (by simp [hb]) ho (by rw [if_pos (by rfl)]; exact hq.symm)) (k1 hb)
  · exact Go.by (fun _ => acmp X hx rfl rfl rfl (same := false) rfl hd rfl (by simp [hb]) ho (by rw [if_neg (by decide)])) (k0 hb)
theorem g_acmp_ne (X : Stand p l e R s m args below meth c T locs cells slots) (hx : p.tables.exec = Jvm.exec) {o : Int} {q0 : Nat} {x y : Addr} (hd : decode c.code pc = .ok (.if_acmp .ne o, 3)) (ho : 0 ≤ (pc : Int) + o) (hq : ((pc : Int) + o).toNat = q) (hq0 : pc + 3 = q0) (k1 : x ≠ y → Go p e below Φ (T.setTop (mkF m q L S))) (k0 : x = y → Go p e below Φ (T.setTop (mkF m q0 L S))) : Go p e below Φ (T.setTop (mkF m pc L (.ref y :: .ref x :: S))) := by
  subst hq0
  by_cases hb : x = y
  · exact Go.by (fun _ => acmp X hx rfl rfl rfl (same := true) rfl hd rfl (by simp [hb]) ho (by rw [if_neg (by decide)])) (k0 hb)
  · exact Go.by (fun _ => acmp X hx rfl rfl rfl (same := false) rfl hd rfl (by simp [hb]) ho (by rw [if_pos (by rfl)]; exact hq.symm)) (k1 hb)
theorem g_ifnull_no (X : Stand p l e R s m args below meth c T locs cells slots) (hx : p.tables.exec = Jvm.exec) {o : Int} {y : Addr} (hd : decode c.code pc = .ok (.ifnull o, 3)) (hq : pc + 3 = q) (k : Go p e below Φ (T.setTop (mkF m q L S))) : Go p e below Φ (T.setTop (mkF m pc L (.ref y :: S))) := by
  subst hq; exact Go.by (fun _ => XS.ifnullNo X.here hx rfl hd rfl) k
theorem g_ifnonnull_yes (X : Stand p l e R s m args below meth c T locs cells slots) (hx : p.tables.exec = Jvm.exec) {o : Int} {y : Addr} (hd : decode c.code pc = .ok (.ifnonnull o, 3)) (ho : 0 ≤ (pc : Int) + o) (hq : ((pc : Int) + o).toNat = q) (k : Go p e below Φ (T.setTop (mkF m q L S))) : Go p e below Φ (T.setTop (mkF m pc L (.ref y :: S))) := Go.by (fun _ => XS.ifnonnullYes X.here hx rfl rfl hd rfl ho hq) k
end OwnHeap
def QK (ky : List Int64) (a : Int32) : Int := (ky.getD a.toInt.toNat 0).toInt
def mb (b : Bool) (v : Int32) : List Int32 := if b then [v] else []
def QInv (hp pl : List Int32) (ky : List Int64) (cn : Int32) (M : List Int32) (KS : List Int64) : Prop :=
  hp.length = 4 ∧ pl.length = 4 ∧ ky.length = 4 ∧ cn.toInt = (M.length : Int) ∧ (hp.take M.length).Perm M ∧
  ((2 ≤ M.length → QK ky (hp.getD 0 0) ≤ QK ky (hp.getD 1 0)) ∧ (3 ≤ M.length → QK ky (hp.getD 0 0) ≤ QK ky (hp.getD 2 0)) ∧ (4 ≤ M.length → QK ky (hp.getD 1 0) ≤ QK ky (hp.getD 3 0))) ∧
  (∀ u : Int32, 0 ≤ u.toInt → u.toInt < 4 → u ∉ M → pl.getD u.toInt.toNat 0 = -1) ∧ (∀ u ∈ M, 0 ≤ u.toInt ∧ u.toInt < 4) ∧ (∀ u ∈ M, QK ky u = QK KS u)
theorem own_l4 {l : List Int32} (h : l.length = 4) : ∃ a b c d, l = [a, b, c, d] := by
  match l, h with
  | [a, b, c, d], _ => exact ⟨a, b, c, d, rfl⟩
theorem own_tn {z : Int} (h : 0 ≤ z) : z = (z.toNat : Int) := by omega
theorem own_lt4 {z : Int} {n : Nat} (h : 0 ≤ z ∧ z < 4) (hl : n = 4) : z.toNat < n := by omega
theorem own_gdJ {vs : List Int64} {i : Nat} (h : i < vs.length) : vs[i]? = some (vs.getD i 0) := by
  rw [List.getD_eq_getElem?_getD, List.getElem?_eq_getElem h]; rfl
theorem own_sd {l : List Int32} {i u : Nat} {x : Int32} (h : u ≠ i) : (l.set i x).getD u 0 = l.getD u 0 := by
  rw [List.getD_eq_getElem?_getD, List.getD_eq_getElem?_getD, List.getElem?_set_ne (Ne.symm h)]
theorem own_sg {l : List Int32} {i : Nat} {x : Int32} (h : i < l.length) : (l.set i x)[i]? = some x := List.getElem?_set_self h
theorem own_qs {ky : List Int64} {nd : Int32} {iv : Nat} {kv : Int64} (hv : nd.toInt = (iv : Int)) (h : iv < ky.length) : QK (ky.set iv kv) nd = kv.toInt := by
  unfold QK; rw [hv, Int.toNat_natCast, List.getD_eq_getElem?_getD, List.getElem?_set_self h]; rfl
theorem own_qn {ky : List Int64} {nd u : Int32} {iv : Nat} {kv : Int64} (hv : nd.toInt = (iv : Int)) (hu : 0 ≤ u.toInt) (h : u ≠ nd) : QK (ky.set iv kv) u = QK ky u := by
  unfold QK
  have : iv ≠ u.toInt.toNat := fun e => h (Int32.toInt_inj.mp (by omega))
  rw [List.getD_eq_getElem?_getD, List.getD_eq_getElem?_getD, List.getElem?_set_ne this]
theorem own_inv0 (KS : List Int64) : QInv [0, 0, 0, 0] [-1, -1, -1, -1] [0, 0, 0, 0] 0 [] KS := by
  refine ⟨rfl, rfl, rfl, rfl, List.Perm.refl _, ⟨fun h => absurd h (by decide), fun h => absurd h (by decide), fun h => absurd h (by decide)⟩, ?_, fun u h => absurd h List.not_mem_nil, fun u h => absurd h List.not_mem_nil⟩
  intro u h1 h2 _
  have : u.toInt.toNat = 0 ∨ u.toInt.toNat = 1 ∨ u.toInt.toNat = 2 ∨ u.toInt.toNat = 3 := by omega
  rcases this with h | h | h | h <;> rw [h] <;> rfl
theorem own_nin {v u : Int32} {b : Bool} {M : List Int32} (h : v ≠ u) (g : v ∉ M) : v ∉ mb b u ++ M := by
  cases b <;> simp [mb, h, g]
theorem own_ln {u : Int32} {b : Bool} {M : List Int32} {n : Nat} (g : M.length ≤ n) : (mb b u ++ M).length ≤ n + 1 := by
  cases b <;> simp [mb] <;> omega
theorem own_c3 {hp pl : List Int32} {ky KS : List Int64} {cn : Int32} {M : List Int32} (I : QInv hp pl ky cn M KS) (h : M.length ≤ 3) : (cn = 0 ∧ M.length = 0) ∨ (cn = 1 ∧ M.length = 1) ∨ (cn = 2 ∧ M.length = 2) ∨ (cn = 3 ∧ M.length = 3) := by
  have q := I.2.2.2.1
  have : M.length = 0 ∨ M.length = 1 ∨ M.length = 2 ∨ M.length = 3 := by omega
  rcases this with g | g | g | g <;> rw [g] at q
  · exact Or.inl ⟨Int32.toInt_inj.mp q, g⟩
  · exact Or.inr (Or.inl ⟨Int32.toInt_inj.mp q, g⟩)
  · exact Or.inr (Or.inr (Or.inl ⟨Int32.toInt_inj.mp q, g⟩))
  · exact Or.inr (Or.inr (Or.inr ⟨Int32.toInt_inj.mp q, g⟩))
theorem own_c4 {hp pl : List Int32} {ky KS : List Int64} {cn : Int32} {M : List Int32} (I : QInv hp pl ky cn M KS) (h : M.length ≤ 4) : (cn = 0 ∧ M.length = 0) ∨ (cn = 1 ∧ M.length = 1) ∨ (cn = 2 ∧ M.length = 2) ∨ (cn = 3 ∧ M.length = 3) ∨ (cn = 4 ∧ M.length = 4) := by
  rcases Nat.lt_or_ge 3 M.length with g | g
  · have q := I.2.2.2.1
    have e : M.length = 4 := by omega
    rw [e] at q
    exact Or.inr (Or.inr (Or.inr (Or.inr ⟨Int32.toInt_inj.mp q, e⟩)))
  · rcases own_c3 I g with g | g | g | g
    · exact Or.inl g
    · exact Or.inr (Or.inl g)
    · exact Or.inr (Or.inr (Or.inl g))
    · exact Or.inr (Or.inr (Or.inr (Or.inl g)))
/-- what any put keeps: keys, places, bounds -/
theorem own_putc {hp pl : List Int32} {ky KS : List Int64} {cn : Int32} {M : List Int32} {nd : Int32} {iv : Nat} {kv : Int64} {pl' : List Int32} (I : QInv hp pl ky cn M KS) (hv : nd.toInt = (iv : Int)) (h4 : iv < 4) (hn : nd ∉ M) (hkv : kv.toInt = QK KS nd)
    (P : ∀ u : Nat, u ≠ iv → (∀ a ∈ M, u ≠ a.toInt.toNat) → pl'.getD u 0 = pl.getD u 0) :
    (∀ u ∈ M, QK (ky.set iv kv) u = QK ky u) ∧ QK (ky.set iv kv) nd = kv.toInt ∧ (∀ u : Int32, 0 ≤ u.toInt → u.toInt < 4 → u ∉ nd :: M → pl'.getD u.toInt.toNat 0 = -1) ∧ (∀ u ∈ nd :: M, 0 ≤ u.toInt ∧ u.toInt < 4) ∧ (∀ u ∈ nd :: M, QK (ky.set iv kv) u = QK KS u) := by
  obtain ⟨i1, i2, i3, i4, i5, i6, i7, i8, i9⟩ := I
  have e0 : QK (ky.set iv kv) nd = kv.toInt := own_qs hv (by omega)
  have ea : ∀ u ∈ M, QK (ky.set iv kv) u = QK ky u := fun u hu => own_qn hv (i8 u hu).1 (fun e => hn (e ▸ hu))
  refine ⟨ea, e0, ?_, ?_, ?_⟩
  · intro u h1 h2 h3
    have h3' : u ≠ nd ∧ u ∉ M := by simpa using h3
    rw [P u.toInt.toNat (fun e => h3'.1 (Int32.toInt_inj.mp (by omega))) (fun a ha e => h3'.2 (by
      have := (i8 a ha).1
      have : u = a := Int32.toInt_inj.mp (by omega)
      rw [this]; exact ha))]
    exact i7 u h1 h2 h3'.2
  · intro u hu
    rcases List.mem_cons.mp hu with rfl | h
    · omega
    · exact i8 u h
  · intro u hu
    rcases List.mem_cons.mp hu with rfl | h
    · rw [e0, hkv]
    · rw [ea u h, i9 u h]
abbrev Bef (ky : List Int64) (u a : Int32) : Prop := QK ky u < QK ky a ∨ (QK ky u = QK ky a ∧ u.toInt < a.toInt)
theorem own_bl {ky : List Int64} {u a : Int32} (h : Bef ky u a) : QK ky u ≤ QK ky a := by unfold Bef at h; omega
theorem own_nb {ky : List Int64} {u a : Int32} (h : ¬ Bef ky u a) : QK ky a ≤ QK ky u := by unfold Bef at h; omega
def UpR0 (ky : List Int64) (v a0 a1 a2 a3 : Int32) (hp : List Int32) : Prop := hp = [v, a1, a2, a3]
def UpR1 (ky : List Int64) (v a0 a1 a2 a3 : Int32) (hp : List Int32) : Prop := (Bef ky v a0 ∧ hp = [v, a0, a2, a3]) ∨ (¬ Bef ky v a0 ∧ hp = [a0, v, a2, a3])
def UpR2 (ky : List Int64) (v a0 a1 a2 a3 : Int32) (hp : List Int32) : Prop := (Bef ky v a0 ∧ hp = [v, a1, a0, a3]) ∨ (¬ Bef ky v a0 ∧ hp = [a0, a1, v, a3])
def UpR3 (ky : List Int64) (v a0 a1 a2 a3 : Int32) (hp : List Int32) : Prop := (Bef ky v a1 ∧ Bef ky v a0 ∧ hp = [v, a0, a2, a1]) ∨ (Bef ky v a1 ∧ ¬ Bef ky v a0 ∧ hp = [a0, v, a2, a1]) ∨ (¬ Bef ky v a1 ∧ hp = [a0, a1, a2, v])
section
variable {a0 a1 a2 a3 : Int32} {pl pl' hp' : List Int32} {ky KS : List Int64} {M : List Int32} {nd z : Int32} {iv : Nat} {kv : Int64}
theorem own_put0 (I : QInv [a0, a1, a2, a3] pl ky 0 M KS) (hM : M.length = 0) (hv : nd.toInt = (iv : Int)) (h4 : iv < 4) (hn : nd ∉ M) (hkv : kv.toInt = QK KS nd) (U : UpR0 (ky.set iv kv) nd z a1 a2 a3 hp') (hl : pl'.length = 4)
    (P : ∀ u : Nat, u ≠ iv → (∀ a ∈ M, u ≠ a.toInt.toNat) → pl'.getD u 0 = pl.getD u 0) : QInv hp' pl' (ky.set iv kv) 1 (nd :: M) KS := by
  obtain ⟨c1, c2, c3, c4, c5⟩ := own_putc I hv h4 hn hkv P
  have M0 : M = [] := List.length_eq_zero_iff.mp hM
  obtain ⟨i1, i2, i3, i4, i5, i6, i7, i8, i9⟩ := I
  unfold UpR0 at U
  subst M0 U
  exact ⟨rfl, hl, by rw [List.length_set]; exact i3, rfl, List.Perm.refl _, ⟨fun h => absurd h (by simp), fun h => absurd h (by simp), fun h => absurd h (by simp)⟩, c3, c4, c5⟩
theorem own_put1 (I : QInv [a0, a1, a2, a3] pl ky 1 M KS) (hM : M.length = 1) (hv : nd.toInt = (iv : Int)) (h4 : iv < 4) (hn : nd ∉ M) (hkv : kv.toInt = QK KS nd) (U : UpR1 (ky.set iv kv) nd a0 z a2 a3 hp') (hl : pl'.length = 4)
    (P : ∀ u : Nat, u ≠ iv → (∀ a ∈ M, u ≠ a.toInt.toNat) → pl'.getD u 0 = pl.getD u 0) : QInv hp' pl' (ky.set iv kv) 2 (nd :: M) KS := by
  obtain ⟨c1, c2, c3, c4, c5⟩ := own_putc I hv h4 hn hkv P
  obtain ⟨i1, i2, i3, i4, i5, i6, i7, i8, i9⟩ := I
  have hL : (nd :: M).length = 2 := by rw [List.length_cons, hM]
  have p : [a0].Perm M := by have := i5; rwa [hM] at this
  rcases U with ⟨u1, rfl⟩ | ⟨u1, rfl⟩
  · refine ⟨rfl, hl, by rw [List.length_set]; exact i3, by rw [hL]; rfl, by rw [hL]; exact p.cons nd, ?_, c3, c4, c5⟩
    rw [hL]; exact ⟨fun _ => own_bl u1, fun h => absurd h (by decide), fun h => absurd h (by decide)⟩
  · refine ⟨rfl, hl, by rw [List.length_set]; exact i3, by rw [hL]; rfl, by rw [hL]; exact (List.Perm.swap nd a0 []).trans (p.cons nd), ?_, c3, c4, c5⟩
    rw [hL]; exact ⟨fun _ => own_nb u1, fun h => absurd h (by decide), fun h => absurd h (by decide)⟩
theorem own_put2 (I : QInv [a0, a1, a2, a3] pl ky 2 M KS) (hM : M.length = 2) (hv : nd.toInt = (iv : Int)) (h4 : iv < 4) (hn : nd ∉ M) (hkv : kv.toInt = QK KS nd) (U : UpR2 (ky.set iv kv) nd a0 a1 z a3 hp') (hl : pl'.length = 4)
    (P : ∀ u : Nat, u ≠ iv → (∀ a ∈ M, u ≠ a.toInt.toNat) → pl'.getD u 0 = pl.getD u 0) : QInv hp' pl' (ky.set iv kv) 3 (nd :: M) KS := by
  obtain ⟨c1, c2, c3, c4, c5⟩ := own_putc I hv h4 hn hkv P
  obtain ⟨i1, i2, i3, i4, i5, i6, i7, i8, i9⟩ := I
  have hL : (nd :: M).length = 3 := by rw [List.length_cons, hM]
  have p : [a0, a1].Perm M := by have := i5; rwa [hM] at this
  have o1 : QK (ky.set iv kv) a0 ≤ QK (ky.set iv kv) a1 := by
    rw [c1 a0 (p.mem_iff.mp (by simp)), c1 a1 (p.mem_iff.mp (by simp))]; exact i6.1 (by omega)
  rcases U with ⟨u1, rfl⟩ | ⟨u1, rfl⟩
  · refine ⟨rfl, hl, by rw [List.length_set]; exact i3, by rw [hL]; rfl, by rw [hL]; exact ((List.Perm.swap a0 a1 []).trans p).cons nd, ?_, c3, c4, c5⟩
    rw [hL]; exact ⟨fun _ => Int.le_trans (own_bl u1) o1, fun _ => own_bl u1, fun h => absurd h (by decide)⟩
  · refine ⟨rfl, hl, by rw [List.length_set]; exact i3, by rw [hL]; rfl, by rw [hL]; exact (List.perm_append_comm (l₁ := [a0, a1]) (l₂ := [nd])).trans (p.cons nd), ?_, c3, c4, c5⟩
    rw [hL]; exact ⟨fun _ => o1, fun _ => own_nb u1, fun h => absurd h (by decide)⟩
theorem own_put3 (I : QInv [a0, a1, a2, a3] pl ky 3 M KS) (hM : M.length = 3) (hv : nd.toInt = (iv : Int)) (h4 : iv < 4) (hn : nd ∉ M) (hkv : kv.toInt = QK KS nd) (U : UpR3 (ky.set iv kv) nd a0 a1 a2 z hp') (hl : pl'.length = 4)
    (P : ∀ u : Nat, u ≠ iv → (∀ a ∈ M, u ≠ a.toInt.toNat) → pl'.getD u 0 = pl.getD u 0) : QInv hp' pl' (ky.set iv kv) 4 (nd :: M) KS := by
  obtain ⟨c1, c2, c3, c4, c5⟩ := own_putc I hv h4 hn hkv P
  obtain ⟨i1, i2, i3, i4, i5, i6, i7, i8, i9⟩ := I
  have hL : (nd :: M).length = 4 := by rw [List.length_cons, hM]
  have p : [a0, a1, a2].Perm M := by have := i5; rwa [hM] at this
  have o1 : QK (ky.set iv kv) a0 ≤ QK (ky.set iv kv) a1 := by
    rw [c1 a0 (p.mem_iff.mp (by simp)), c1 a1 (p.mem_iff.mp (by simp))]; exact i6.1 (by omega)
  have o2 : QK (ky.set iv kv) a0 ≤ QK (ky.set iv kv) a2 := by
    rw [c1 a0 (p.mem_iff.mp (by simp)), c1 a2 (p.mem_iff.mp (by simp))]; exact i6.2.1 (by omega)
  rcases U with ⟨u1, u2, rfl⟩ | ⟨u1, u2, rfl⟩ | ⟨u1, rfl⟩
  · refine ⟨rfl, hl, by rw [List.length_set]; exact i3, by rw [hL]; rfl, by rw [hL]; exact (((List.Perm.swap a1 a2 []).cons a0).trans p).cons nd, ?_, c3, c4, c5⟩
    rw [hL]; exact ⟨fun _ => own_bl u2, fun _ => Int.le_trans (own_bl u2) o2, fun _ => o1⟩
  · refine ⟨rfl, hl, by rw [List.length_set]; exact i3, by rw [hL]; rfl, by rw [hL]; exact (List.Perm.swap nd a0 [a2, a1]).trans ((((List.Perm.swap a1 a2 []).cons a0).trans p).cons nd), ?_, c3, c4, c5⟩
    rw [hL]; exact ⟨fun _ => own_nb u2, fun _ => o2, fun _ => own_bl u1⟩
  · refine ⟨rfl, hl, by rw [List.length_set]; exact i3, by rw [hL]; rfl, by rw [hL]; exact (List.perm_append_comm (l₁ := [a0, a1, a2]) (l₂ := [nd])).trans (p.cons nd), ?_, c3, c4, c5⟩
    rw [hL]; exact ⟨fun _ => o1, fun _ => o2, fun _ => own_nb u1⟩
end
theorem own_mbf {p : Int32 → Bool} {b : Bool} {v : Int32} : (mb b v).filter p = mb (b && p v) v := by
  cases b
  · rfl
  · show List.filter p [v] = mb (true && p v) v
    cases h : p v <;> simp [mb, h]
theorem own_flt {p : Int32 → Bool} {v : Int32} {l : List Int32} : (v :: l).filter p = mb (p v) v ++ l.filter p := by
  cases h : p v <;> simp [mb, h]
theorem own_mbc {b : Bool} {v : Int32} {l : List Int32} (h : b = true) : mb b v ++ l = v :: l := by subst h; rfl
abbrev STD (q0 q1 q2 q3 : Bool) : List Int32 := mb q0 0 ++ (mb q1 1 ++ (mb q2 2 ++ (mb q3 3 ++ [])))
theorem own_stdm {e0 e1 e2 e3 : Bool} : (e0 = true → (0 : Int32) ∈ STD e0 e1 e2 e3) ∧ (e1 = true → (1 : Int32) ∈ STD e0 e1 e2 e3) ∧ (e2 = true → (2 : Int32) ∈ STD e0 e1 e2 e3) ∧ (e3 = true → (3 : Int32) ∈ STD e0 e1 e2 e3) := by
  cases e0 <;> cases e1 <;> cases e2 <;> cases e3 <;> decide
theorem own_stdf {q0 q1 q2 q3 : Bool} {p : Int32 → Bool} : (STD q0 q1 q2 q3).filter p = STD (q0 && p 0) (q1 && p 1) (q2 && p 2) (q3 && p 3) := by
  simp only [STD, List.filter_append, own_mbf, List.filter_nil]
theorem own_stdl {e0 e1 e2 e3 : Bool} : (((b2i e0 + b2i e1) + b2i e2) + b2i e3).toInt = ((STD e0 e1 e2 e3).length : Int) := by
  cases e0 <;> cases e1 <;> cases e2 <;> cases e3 <;> decide
theorem own_fin {k0 k1 k2 k3 : Int64} {bd : Int} {q0 q1 q2 q3 e0 e1 e2 e3 : Bool} {M it : List Int32} {ky : List Int64} {m : Nat} {fo : Int32}
    (hM : M.Perm (STD q0 q1 q2 q3)) (hK : ∀ u ∈ M, QK ky u = QK [k0, k1, k2, k3] u) (hl : it.length = 4) (hm : m ≤ 4) (hf : fo.toInt = (m : Int)) (hi : (it.take m).Perm (M.filter fun u => decide (QK ky u ≤ bd)))
    (h0 : e0 = (q0 && decide (k0.toInt ≤ bd))) (h1 : e1 = (q1 && decide (k1.toInt ≤ bd))) (h2 : e2 = (q2 && decide (k2.toInt ≤ bd))) (h3 : e3 = (q3 && decide (k3.toInt ≤ bd))) :
    fo.toInt = (((b2i e0 + b2i e1) + b2i e2) + b2i e3).toInt ∧ (e0 = true → (0 : Int32) ∈ it.take m) ∧ (e1 = true → (1 : Int32) ∈ it.take m) ∧ (e2 = true → (2 : Int32) ∈ it.take m) ∧ (e3 = true → (3 : Int32) ∈ it.take m) := by
  have g : (M.filter fun u => decide (QK ky u ≤ bd)) = M.filter fun u => decide (QK [k0, k1, k2, k3] u ≤ bd) := List.filter_congr fun u hu => by rw [hK u hu]
  rw [g] at hi
  have q := hi.trans (hM.filter _)
  rw [own_stdf] at q
  have e : STD (q0 && decide (QK [k0, k1, k2, k3] 0 ≤ bd)) (q1 && decide (QK [k0, k1, k2, k3] 1 ≤ bd)) (q2 && decide (QK [k0, k1, k2, k3] 2 ≤ bd)) (q3 && decide (QK [k0, k1, k2, k3] 3 ≤ bd)) = STD e0 e1 e2 e3 := by
    rw [h0, h1, h2, h3]; rfl
  have q' : (it.take m).Perm (STD e0 e1 e2 e3) := by rw [← e]; exact q
  have ql := q'.length_eq
  rw [List.length_take, hl, Nat.min_eq_left hm] at ql
  refine ⟨by rw [own_stdl, hf, ql], fun h => q'.mem_iff.mpr (own_stdm.1 h), fun h => q'.mem_iff.mpr (own_stdm.2.1 h), fun h => q'.mem_iff.mpr (own_stdm.2.2.1 h), fun h => q'.mem_iff.mpr (own_stdm.2.2.2 h)⟩
theorem own_c5 {r : Int32} {m : Nat} (h : r.toInt = (m : Int)) (hm : m ≤ 4) : (r.toInt = 0 ∧ m = 0) ∨ (r.toInt = 1 ∧ m = 1) ∨ (r.toInt = 2 ∧ m = 2) ∨ (r.toInt = 3 ∧ m = 3) ∨ (r.toInt = 4 ∧ m = 4) := by omega
theorem own_nm {x v : Int32} (c : x.toInt ≠ v.toInt) : ¬ v = x := fun h => c (by rw [h])
theorem own_hd {q0 q1 q2 q3 : Bool} : (STD q0 q1 q2 q3).Perm (mb q3 3 ++ (mb q2 2 ++ (mb q1 1 ++ (mb q0 0 ++ [])))) := by
  cases q0 <;> cases q1 <;> cases q2 <;> cases q3 <;> decide
theorem own_mem {hp pl : List Int32} {ky KS : List Int64} {cn : Int32} {M : List Int32} {a : Int32} (I : QInv hp pl ky cn M KS) (i : Nat) (hi : (hp.take M.length)[i]? = some a) : a ∈ M := I.2.2.2.2.1.mem_iff.mp (List.mem_of_getElem? hi)
theorem own_val {hp pl : List Int32} {ky KS : List Int64} {cn : Int32} {M : List Int32} {a : Int32} (I : QInv hp pl ky cn M KS) (h : a ∈ M) : 0 ≤ a.toInt ∧ a.toInt < 4 := I.2.2.2.2.2.2.2.1 a h
theorem own_am {hp pl : List Int32} {ky KS : List Int64} {cn : Int32} {M l r : List Int32} {p : Int32 → Bool} (I : QInv hp pl ky cn M KS) (h : hp.take M.length = l) (g : r = l.filter p) : r.Perm (M.filter p) := by rw [g, ← h]; exact I.2.2.2.2.1.filter p
theorem own_abs {hp pl : List Int32} {ky KS : List Int64} {cn : Int32} {M : List Int32} {nd : Int32} {iv : Nat} (I : QInv hp pl ky cn M KS) (hv : nd.toInt = (iv : Int)) (h4 : iv < 4) (hn : nd ∉ M) : pl[iv]? = some (-1) := by
  have h := I.2.2.2.2.2.2.1 nd (by omega) (by omega) hn
  rw [hv, Int.toNat_natCast] at h
  rw [List.getD_eq_getElem?_getD] at h
  have hl : iv < pl.length := by rw [I.2.1]; exact h4
  rw [List.getElem?_eq_getElem hl] at h ⊢
  exact congrArg some h

def RM_rm3 : Room := ({ frames := 0, cells := 0, slots := 0, locals := 0 } : Room)
theorem d3_0 : decode jdk_65_method_103_code 0 = .ok (.iconst 0, 1) := by decide +kernel
theorem d3_1 : decode jdk_65_method_103_code 1 = .ok (.istore_n 2, 1) := by decide +kernel
theorem d3_2 : decode jdk_65_method_103_code 2 = .ok (.aload_n 0, 1) := by decide +kernel
theorem d3_3 : decode jdk_65_method_103_code 3 = .ok (.arraylength, 1) := by decide +kernel
theorem d3_4 : decode jdk_65_method_103_code 4 = .ok (.istore_n 3, 1) := by decide +kernel
theorem d3_5 : decode jdk_65_method_103_code 5 = .ok (.iload_n 2, 1) := by decide +kernel
theorem d3_6 : decode jdk_65_method_103_code 6 = .ok (.iload_n 3, 1) := by decide +kernel
theorem d3_7 : decode jdk_65_method_103_code 7 = .ok (.if_icmp .ge 13, 3) := by decide +kernel
theorem d3_10 : decode jdk_65_method_103_code 10 = .ok (.aload_n 0, 1) := by decide +kernel
theorem d3_11 : decode jdk_65_method_103_code 11 = .ok (.iload_n 2, 1) := by decide +kernel
theorem d3_12 : decode jdk_65_method_103_code 12 = .ok (.iload_n 1, 1) := by decide +kernel
theorem d3_13 : decode jdk_65_method_103_code 13 = .ok (.iastore, 1) := by decide +kernel
theorem d3_14 : decode jdk_65_method_103_code 14 = .ok (.iinc 2 1, 3) := by decide +kernel
theorem d3_17 : decode jdk_65_method_103_code 17 = .ok (.goto (-12), 3) := by decide +kernel
theorem d3_20 : decode jdk_65_method_103_code 20 = .ok (.return_, 1) := by decide +kernel
theorem ef_3 (m : MethodId) (z0 : Addr) (z1 : Int32) : entryFrame m #[.ref z0, .int z1] 4 = mkF m 0 #[.val (.ref z0), .val (.int z1), .unset, .unset] [] := by first | (simp [entryFrame, mkF, argsToLocals, Value.category]; done) | rfl
theorem pn_0 : plainName "java/util/Arrays" = true := by first | (simp [plainName, overriddenIn]; done) | decide +kernel
set_option maxRecDepth 65536 in
set_option maxHeartbeats 40000000 in
theorem rm3 (l : Launch) (Z : State) (a0 : Array Value) (hw : ∀ d ∈ tables_1, d.before a0 Z = true) (ws : List Jvm.Cond) (o : Addr) (h0 : Heap) (n0 : Nat) (Z0 : n0 ≤ h0.size) (A0_ : IA Z h0 o [(0 : Int32), (0 : Int32), (0 : Int32), (0 : Int32)]) (go_ : n0 ≤ o) :
    Ctr l Z (⟨"java/util/Arrays", "fill", "([II)V"⟩ : MethodName) jdk_65_method_103_code 4 none RM_rm3 ws #[.ref o, .int (-1 : Int32)] h0 (fun v h L => v = none ∧ Fr n0 L ∧ Keep h0 h [o] ∧ IA Z h o [(-1 : Int32), (-1 : Int32), (-1 : Int32), (-1 : Int32)]) := by
  refine Ctr.of (plainFor_of_name pn_0) ?_
  intro p e s m below meth c s₁ hx hby hml hrt hlk hnm hown hZ X0 e0
  have N0 := Fr.nil n0
  refine Go.cast (ef_3 m o (-1 : Int32)) ?_
  refine g_iconst (q := 1) (v := (0 : Int32)) X0.here hx (hb hby d3_0) rfl rfl ?_
  refine g_istoreN (q := 2) (L' := #[.val (.ref o), .val (.int (-1 : Int32)), .val (.int (0 : Int32)), .unset]) X0.here hx (hb hby d3_1) rfl rfl ?_
  refine g_aloadN (q := 3) X0.here hx (hb hby d3_2) rfl rfl rfl ?_
  refine g_alen (q := 4) (v := (4 : Int32)) X0 hx hZ e0 A0_ rfl (hb hby d3_3) rfl ?_
  refine g_istoreN (q := 5) (L' := #[.val (.ref o), .val (.int (-1 : Int32)), .val (.int (0 : Int32)), .val (.int (4 : Int32))]) X0.here hx (hb hby d3_4) rfl rfl ?_
  refine g_iloadN (q := 6) X0.here hx (hb hby d3_5) rfl rfl ?_
  refine g_iloadN (q := 7) X0.here hx (hb hby d3_6) rfl rfl ?_
  refine g_icmp_ge (q := 20) (q0 := 10) X0.here hx (hb hby d3_7) (by decide) (by decide) rfl ?_ ?_
  · intro c1; exact absurd c1 (by decide)
  · intro c1
    refine g_aloadN (q := 11) X0.here hx (hb hby d3_10) rfl rfl rfl ?_
    refine g_iloadN (q := 12) X0.here hx (hb hby d3_11) rfl rfl ?_
    refine g_iloadN (q := 13) X0.here hx (hb hby d3_12) rfl rfl ?_
    refine g_istore_ (q := 14) (i := 0) (v := (-1 : Int32)) X0 hx hZ e0 A0_ rfl (by show 0 < 4; decide) (hb hby d3_13) rfl ?_
    intro T2 h2 X2 e2 W2 A2
    replace A2 : IA Z h2 o ([(-1 : Int32), (0 : Int32), (0 : Int32), (0 : Int32)] : List Int32) := A2
    have K3 := Keep.wr (Keep.refl h0 [o]) W2 (Or.inl (by simp))
    have N5 := Fr.snoc X2 N0 go_
    have Z6 : n0 ≤ h2.size := Nat.le_trans Z0 (Nat.le_of_eq W2.size.symm)
    refine g_iinc (q := 17) (v := (1 : Int32)) (L' := #[.val (.ref o), .val (.int (-1 : Int32)), .val (.int (1 : Int32)), .val (.int (4 : Int32))]) X2.here hx (hb hby d3_14) rfl rfl rfl rfl ?_
    refine g_goto (q := 5) X2.here hx (hb hby d3_17) (by decide) (by decide) ?_
    refine g_iloadN (q := 6) X2.here hx (hb hby d3_5) rfl rfl ?_
    refine g_iloadN (q := 7) X2.here hx (hb hby d3_6) rfl rfl ?_
    refine g_icmp_ge (q := 20) (q0 := 10) X2.here hx (hb hby d3_7) (by decide) (by decide) rfl ?_ ?_
    · intro c7; exact absurd c7 (by decide)
    · intro c7
      refine g_aloadN (q := 11) X2.here hx (hb hby d3_10) rfl rfl rfl ?_
      refine g_iloadN (q := 12) X2.here hx (hb hby d3_11) rfl rfl ?_
      refine g_iloadN (q := 13) X2.here hx (hb hby d3_12) rfl rfl ?_
      refine g_istore_ (q := 14) (i := 1) (v := (-1 : Int32)) X2 hx hZ e2 A2 rfl (by show 1 < 4; decide) (hb hby d3_13) rfl ?_
      intro T8 h8 X8 e8 W8 A8
      replace A8 : IA Z h8 o ([(-1 : Int32), (-1 : Int32), (0 : Int32), (0 : Int32)] : List Int32) := A8
      have K9 := Keep.wr K3 W8 (Or.inl (by simp))
      have N11 := Fr.snoc X8 N5 go_
      have Z12 : n0 ≤ h8.size := Nat.le_trans Z6 (Nat.le_of_eq W8.size.symm)
      refine g_iinc (q := 17) (v := (2 : Int32)) (L' := #[.val (.ref o), .val (.int (-1 : Int32)), .val (.int (2 : Int32)), .val (.int (4 : Int32))]) X8.here hx (hb hby d3_14) rfl rfl rfl rfl ?_
      refine g_goto (q := 5) X8.here hx (hb hby d3_17) (by decide) (by decide) ?_
      refine g_iloadN (q := 6) X8.here hx (hb hby d3_5) rfl rfl ?_
      refine g_iloadN (q := 7) X8.here hx (hb hby d3_6) rfl rfl ?_
      refine g_icmp_ge (q := 20) (q0 := 10) X8.here hx (hb hby d3_7) (by decide) (by decide) rfl ?_ ?_
      · intro c13; exact absurd c13 (by decide)
      · intro c13
        refine g_aloadN (q := 11) X8.here hx (hb hby d3_10) rfl rfl rfl ?_
        refine g_iloadN (q := 12) X8.here hx (hb hby d3_11) rfl rfl ?_
        refine g_iloadN (q := 13) X8.here hx (hb hby d3_12) rfl rfl ?_
        refine g_istore_ (q := 14) (i := 2) (v := (-1 : Int32)) X8 hx hZ e8 A8 rfl (by show 2 < 4; decide) (hb hby d3_13) rfl ?_
        intro T14 h14 X14 e14 W14 A14
        replace A14 : IA Z h14 o ([(-1 : Int32), (-1 : Int32), (-1 : Int32), (0 : Int32)] : List Int32) := A14
        have K15 := Keep.wr K9 W14 (Or.inl (by simp))
        have N17 := Fr.snoc X14 N11 go_
        have Z18 : n0 ≤ h14.size := Nat.le_trans Z12 (Nat.le_of_eq W14.size.symm)
        refine g_iinc (q := 17) (v := (3 : Int32)) (L' := #[.val (.ref o), .val (.int (-1 : Int32)), .val (.int (3 : Int32)), .val (.int (4 : Int32))]) X14.here hx (hb hby d3_14) rfl rfl rfl rfl ?_
        refine g_goto (q := 5) X14.here hx (hb hby d3_17) (by decide) (by decide) ?_
        refine g_iloadN (q := 6) X14.here hx (hb hby d3_5) rfl rfl ?_
        refine g_iloadN (q := 7) X14.here hx (hb hby d3_6) rfl rfl ?_
        refine g_icmp_ge (q := 20) (q0 := 10) X14.here hx (hb hby d3_7) (by decide) (by decide) rfl ?_ ?_
        · intro c19; exact absurd c19 (by decide)
        · intro c19
          refine g_aloadN (q := 11) X14.here hx (hb hby d3_10) rfl rfl rfl ?_
          refine g_iloadN (q := 12) X14.here hx (hb hby d3_11) rfl rfl ?_
          refine g_iloadN (q := 13) X14.here hx (hb hby d3_12) rfl rfl ?_
          refine g_istore_ (q := 14) (i := 3) (v := (-1 : Int32)) X14 hx hZ e14 A14 rfl (by show 3 < 4; decide) (hb hby d3_13) rfl ?_
          intro T20 h20 X20 e20 W20 A20
          replace A20 : IA Z h20 o ([(-1 : Int32), (-1 : Int32), (-1 : Int32), (-1 : Int32)] : List Int32) := A20
          have K21 := Keep.wr K15 W20 (Or.inl (by simp))
          have N23 := Fr.snoc X20 N17 go_
          have Z24 : n0 ≤ h20.size := Nat.le_trans Z18 (Nat.le_of_eq W20.size.symm)
          refine g_iinc (q := 17) (v := (4 : Int32)) (L' := #[.val (.ref o), .val (.int (-1 : Int32)), .val (.int (4 : Int32)), .val (.int (4 : Int32))]) X20.here hx (hb hby d3_14) rfl rfl rfl rfl ?_
          refine g_goto (q := 5) X20.here hx (hb hby d3_17) (by decide) (by decide) ?_
          refine g_iloadN (q := 6) X20.here hx (hb hby d3_5) rfl rfl ?_
          refine g_iloadN (q := 7) X20.here hx (hb hby d3_6) rfl rfl ?_
          refine g_icmp_ge (q := 20) (q0 := 10) X20.here hx (hb hby d3_7) (by decide) (by decide) rfl ?_ ?_
          · intro c25
            exact g_ret X20 hx hlk hrt (hb hby d3_20) (by decide) (by decide) (by rw [e20]; exact ⟨rfl, N23, K21, A20⟩)
          · intro c25; exact absurd c25 (by decide)
theorem pd_0 : parseMethodDescriptor "([II)V" = some ⟨[(.array .int), .int], none⟩ := by decide +kernel
def RM_rm1 : Room := ({ frames := 1, cells := 3, slots := 12, locals := 15 } : Room)
theorem d1_0 : decode prog_77_method_1_code 0 = .ok (.aload_n 0, 1) := by decide +kernel
theorem d1_1 : decode prog_77_method_1_code 1 = .ok (.invokespecial 1, 3) := by decide +kernel
theorem d1_4 : decode prog_77_method_1_code 4 = .ok (.aload_n 0, 1) := by decide +kernel
theorem d1_5 : decode prog_77_method_1_code 5 = .ok (.iload_n 1, 1) := by decide +kernel
theorem d1_6 : decode prog_77_method_1_code 6 = .ok (.newarray .int, 2) := by decide +kernel
theorem d1_8 : decode prog_77_method_1_code 8 = .ok (.putfield 7, 3) := by decide +kernel
theorem d1_11 : decode prog_77_method_1_code 11 = .ok (.aload_n 0, 1) := by decide +kernel
theorem d1_12 : decode prog_77_method_1_code 12 = .ok (.iload_n 1, 1) := by decide +kernel
theorem d1_13 : decode prog_77_method_1_code 13 = .ok (.newarray .int, 2) := by decide +kernel
theorem d1_15 : decode prog_77_method_1_code 15 = .ok (.putfield 13, 3) := by decide +kernel
theorem d1_18 : decode prog_77_method_1_code 18 = .ok (.aload_n 0, 1) := by decide +kernel
theorem d1_19 : decode prog_77_method_1_code 19 = .ok (.iload_n 1, 1) := by decide +kernel
theorem d1_20 : decode prog_77_method_1_code 20 = .ok (.newarray .long, 2) := by decide +kernel
theorem d1_22 : decode prog_77_method_1_code 22 = .ok (.putfield 16, 3) := by decide +kernel
theorem d1_25 : decode prog_77_method_1_code 25 = .ok (.aload_n 0, 1) := by decide +kernel
theorem d1_26 : decode prog_77_method_1_code 26 = .ok (.getfield 13, 3) := by decide +kernel
theorem d1_29 : decode prog_77_method_1_code 29 = .ok (.iconst (-1), 1) := by decide +kernel
theorem d1_30 : decode prog_77_method_1_code 30 = .ok (.invokestatic 20, 3) := by decide +kernel
theorem d1_33 : decode prog_77_method_1_code 33 = .ok (.return_, 1) := by decide +kernel
theorem ef_1 (m : MethodId) (z0 : Addr) (z1 : Int32) : entryFrame m #[.ref z0, .int z1] 2 = mkF m 0 #[.val (.ref z0), .val (.int z1)] [] := by first | (simp [entryFrame, mkF, argsToLocals, Value.category]; done) | rfl
theorem pn_1 : plainName "com/example/hedged_dispatch/hedgeddispatch/stn/NodeQueue" = true := by first | (simp [plainName, overriddenIn]; done) | decide +kernel
set_option maxRecDepth 65536 in
set_option maxHeartbeats 40000000 in
theorem rm1 (l : Launch) (Z : State) (a0 : Array Value) (hw : ∀ d ∈ tables_1, d.before a0 Z = true) (ws : List Jvm.Cond) (t : Addr) (h0 : Heap) (n0 : Nat) (Z0 : n0 ≤ h0.size) (F0_ : Fld Z h0 t "com/example/hedged_dispatch/hedgeddispatch/stn/NodeQueue" "heap" "[I" (.null)) (F1_ : Fld Z h0 t "com/example/hedged_dispatch/hedgeddispatch/stn/NodeQueue" "place" "[I" (.null)) (F2_ : Fld Z h0 t "com/example/hedged_dispatch/hedgeddispatch/stn/NodeQueue" "key" "[J" (.null)) (F3_ : Fld Z h0 t "com/example/hedged_dispatch/hedgeddispatch/stn/NodeQueue" "count" "I" (.int (0 : Int32))) (E_ : Exa Z h0 t "com/example/hedged_dispatch/hedgeddispatch/stn/NodeQueue") (gt_ : n0 ≤ t) :
    Ctr l Z (⟨"com/example/hedged_dispatch/hedgeddispatch/stn/NodeQueue", "<init>", "(I)V"⟩ : MethodName) prog_77_method_1_code 2 none RM_rm1 ws #[.ref t, .int (4 : Int32)] h0 (fun v h L => v = none ∧ Fr n0 L ∧ Keep h0 h [t] ∧ ∃ ah ap ak : Addr, h0.size ≤ ah ∧ h0.size ≤ ap ∧ h0.size ≤ ak ∧ ah ≠ ap ∧ ah ≠ ak ∧ ap ≠ ak ∧ Fld Z h t "com/example/hedged_dispatch/hedgeddispatch/stn/NodeQueue" "heap" "[I" (.ref ah) ∧ Fld Z h t "com/example/hedged_dispatch/hedgeddispatch/stn/NodeQueue" "place" "[I" (.ref ap) ∧ Fld Z h t "com/example/hedged_dispatch/hedgeddispatch/stn/NodeQueue" "key" "[J" (.ref ak) ∧ Fld Z h t "com/example/hedged_dispatch/hedgeddispatch/stn/NodeQueue" "count" "I" (.int (0 : Int32)) ∧ IA Z h ah [(0 : Int32), (0 : Int32), (0 : Int32), (0 : Int32)] ∧ IA Z h ap [(-1 : Int32), (-1 : Int32), (-1 : Int32), (-1 : Int32)] ∧ LA Z h ak [(0 : Int64), (0 : Int64), (0 : Int64), (0 : Int64)]) := by
  refine Ctr.of (plainFor_of_name pn_1) ?_
  intro p e s m below meth c s₁ hx hby hml hrt hlk hnm hown hZ X0 e0
  have N0 := Fr.nil n0
  refine Go.cast (ef_1 m t (4 : Int32)) ?_
  refine g_aloadN (q := 1) X0.here hx (hb hby d1_0) rfl rfl rfl ?_
  refine g_initO (q := 4) X0 hx hZ hown (hw _ (List.mem_of_getElem? (i := 6) rfl)) (hw _ (List.mem_of_getElem? (i := 7) rfl)) (hw _ (List.mem_of_getElem? (i := 8) rfl)) e0 (by rw [hml]; rfl) (hb hby d1_1) rfl (by decide) (W := 0) rfl (by decide) ?_
  intro T1 X1 e1
  refine g_aloadN (q := 5) X1.here hx (hb hby d1_4) rfl rfl rfl ?_
  refine g_iloadN (q := 6) X1.here hx (hb hby d1_5) rfl rfl ?_
  refine g_inew_ (q := 8) (n := 4) (cap := 4) X1 hx hZ (hw _ (List.mem_of_getElem? (i := 9) rfl)) e1 rfl (by decide) (by decide) (hb hby d1_6) rfl (by decide) (by decide) ?_
  intro T2 h2 o2 X2 e2 E2 q2 A2
  replace A2 : IA Z h2 o2 ([(0 : Int32), (0 : Int32), (0 : Int32), (0 : Int32)] : List Int32) := A2
  have n3 : t ≠ o2 := ne_new E_.lt q2
  have g4 : n0 ≤ o2 := ge_new Z0 q2
  have g5 : h0.size ≤ o2 := ge_new (Keep.refl h0 [t]).1 q2
  have K6 := Keep.ext (Keep.refl h0 [t]) E2
  have F7 := Exa.ext E2 E_
  have F8 := Fld.ext E2 F0_
  have F9 := Fld.ext E2 F1_
  have F10 := Fld.ext E2 F2_
  have F11 := Fld.ext E2 F3_
  have Z12 : n0 ≤ h2.size := Nat.le_trans Z0 E2.1
  refine g_putF (q := 11) (ty := (.array .int)) X2 hx hZ hown (hw _ (List.mem_of_getElem? (i := 10) rfl)) e2 F8 F7 (Or.inr ⟨(hw _ (List.mem_of_getElem? (i := 11) rfl)), rfl, hnm⟩) (hw _ (List.mem_of_getElem? (i := 1) rfl)) (by decide) rfl rfl (hb hby d1_8) rfl ?_
  intro T13 h13 X13 e13 W13 F13
  have K14 := Keep.wr K6 W13 (Or.inl (by simp))
  have F15 := Exa.wr W13 F7
  have F17 := Fld.other W13 F9 (Or.inr (slot_ne (a0 := a0) (Or.inr (hw _ (List.mem_of_getElem? (i := 13) rfl))) (Or.inr (hw _ (List.mem_of_getElem? (i := 11) rfl))) (by decide) (t := (.array .int)) (t' := (.array .int)) (by decide) (by decide)))
  have F18 := Fld.other W13 F10 (Or.inr (slot_ne (a0 := a0) (Or.inr (hw _ (List.mem_of_getElem? (i := 16) rfl))) (Or.inr (hw _ (List.mem_of_getElem? (i := 11) rfl))) (by decide) (t := (.array .long)) (t' := (.array .int)) (by decide) (by decide)))
  have F19 := Fld.other W13 F11 (Or.inr (slot_ne (a0 := a0) (Or.inl (hw _ (List.mem_of_getElem? (i := 27) rfl))) (Or.inr (hw _ (List.mem_of_getElem? (i := 11) rfl))) (by decide) (t := .int) (t' := (.array .int)) (by decide) (by decide)))
  have F20 := ArrL.other A2 W13 (Ne.symm n3)
  have N21 := Fr.snoc X13 N0 gt_
  have Z22 : n0 ≤ h13.size := Nat.le_trans Z12 (Nat.le_of_eq W13.size.symm)
  refine g_aloadN (q := 12) X13.here hx (hb hby d1_11) rfl rfl rfl ?_
  refine g_iloadN (q := 13) X13.here hx (hb hby d1_12) rfl rfl ?_
  refine g_inew_ (q := 15) (n := 4) (cap := 4) X13 hx hZ (hw _ (List.mem_of_getElem? (i := 9) rfl)) e13 rfl (by decide) (by decide) (hb hby d1_13) rfl (by decide) (by decide) ?_
  intro T23 h23 o23 X23 e23 E23 q23 A23
  replace A23 : IA Z h23 o23 ([(0 : Int32), (0 : Int32), (0 : Int32), (0 : Int32)] : List Int32) := A23
  have n24 : t ≠ o23 := ne_new F15.lt q23
  have n25 : o2 ≠ o23 := ne_new F20.lt q23
  have g26 : n0 ≤ o23 := ge_new Z22 q23
  have g27 : h0.size ≤ o23 := ge_new K14.1 q23
  have K28 := Keep.ext K14 E23
  have F29 := Exa.ext E23 F15
  have F30 := Fld.ext E23 F13
  have F31 := Fld.ext E23 F17
  have F32 := Fld.ext E23 F18
  have F33 := Fld.ext E23 F19
  have F34 := ArrL.ext F20 E23
  have Z35 : n0 ≤ h23.size := Nat.le_trans Z22 E23.1
  refine g_putF (q := 18) (ty := (.array .int)) X23 hx hZ hown (hw _ (List.mem_of_getElem? (i := 12) rfl)) e23 F31 F29 (Or.inr ⟨(hw _ (List.mem_of_getElem? (i := 13) rfl)), rfl, hnm⟩) (hw _ (List.mem_of_getElem? (i := 1) rfl)) (by decide) rfl rfl (hb hby d1_15) rfl ?_
  intro T36 h36 X36 e36 W36 F36
  have K37 := Keep.wr K28 W36 (Or.inl (by simp))
  have F38 := Exa.wr W36 F29
  have F39 := Fld.other W36 F30 (Or.inr (slot_ne (a0 := a0) (Or.inr (hw _ (List.mem_of_getElem? (i := 11) rfl))) (Or.inr (hw _ (List.mem_of_getElem? (i := 13) rfl))) (by decide) (t := (.array .int)) (t' := (.array .int)) (by decide) (by decide)))
  have F41 := Fld.other W36 F32 (Or.inr (slot_ne (a0 := a0) (Or.inr (hw _ (List.mem_of_getElem? (i := 16) rfl))) (Or.inr (hw _ (List.mem_of_getElem? (i := 13) rfl))) (by decide) (t := (.array .long)) (t' := (.array .int)) (by decide) (by decide)))
  have F42 := Fld.other W36 F33 (Or.inr (slot_ne (a0 := a0) (Or.inl (hw _ (List.mem_of_getElem? (i := 27) rfl))) (Or.inr (hw _ (List.mem_of_getElem? (i := 13) rfl))) (by decide) (t := .int) (t' := (.array .int)) (by decide) (by decide)))
  have F43 := ArrL.other F34 W36 (Ne.symm n3)
  have F44 := ArrL.other A23 W36 (Ne.symm n24)
  have N45 := Fr.snoc X36 N21 gt_
  have Z46 : n0 ≤ h36.size := Nat.le_trans Z35 (Nat.le_of_eq W36.size.symm)
  refine g_aloadN (q := 19) X36.here hx (hb hby d1_18) rfl rfl rfl ?_
  refine g_iloadN (q := 20) X36.here hx (hb hby d1_19) rfl rfl ?_
  refine g_lnew_ (q := 22) (n := 4) (cap := 4) X36 hx hZ (hw _ (List.mem_of_getElem? (i := 14) rfl)) e36 rfl (by decide) (by decide) (hb hby d1_20) rfl (by decide) (by decide) ?_
  intro T47 h47 o47 X47 e47 E47 q47 A47
  replace A47 : LA Z h47 o47 ([(0 : Int64), (0 : Int64), (0 : Int64), (0 : Int64)] : List Int64) := A47
  have n48 : t ≠ o47 := ne_new F38.lt q47
  have n49 : o2 ≠ o47 := ne_new F43.lt q47
  have n50 : o23 ≠ o47 := ne_new F44.lt q47
  have g51 : n0 ≤ o47 := ge_new Z46 q47
  have g52 : h0.size ≤ o47 := ge_new K37.1 q47
  have K53 := Keep.ext K37 E47
  have F54 := Exa.ext E47 F38
  have F55 := Fld.ext E47 F39
  have F56 := Fld.ext E47 F36
  have F57 := Fld.ext E47 F41
  have F58 := Fld.ext E47 F42
  have F59 := ArrL.ext F43 E47
  have F60 := ArrL.ext F44 E47
  have Z61 : n0 ≤ h47.size := Nat.le_trans Z46 E47.1
  refine g_putF (q := 25) (ty := (.array .long)) X47 hx hZ hown (hw _ (List.mem_of_getElem? (i := 15) rfl)) e47 F57 F54 (Or.inr ⟨(hw _ (List.mem_of_getElem? (i := 16) rfl)), rfl, hnm⟩) (hw _ (List.mem_of_getElem? (i := 1) rfl)) (by decide) rfl rfl (hb hby d1_22) rfl ?_
  intro T62 h62 X62 e62 W62 F62
  have K63 := Keep.wr K53 W62 (Or.inl (by simp))
  have F64 := Exa.wr W62 F54
  have F65 := Fld.other W62 F55 (Or.inr (slot_ne (a0 := a0) (Or.inr (hw _ (List.mem_of_getElem? (i := 11) rfl))) (Or.inr (hw _ (List.mem_of_getElem? (i := 16) rfl))) (by decide) (t := (.array .int)) (t' := (.array .long)) (by decide) (by decide)))
  have F66 := Fld.other W62 F56 (Or.inr (slot_ne (a0 := a0) (Or.inr (hw _ (List.mem_of_getElem? (i := 13) rfl))) (Or.inr (hw _ (List.mem_of_getElem? (i := 16) rfl))) (by decide) (t := (.array .int)) (t' := (.array .long)) (by decide) (by decide)))
  have F68 := Fld.other W62 F58 (Or.inr (slot_ne (a0 := a0) (Or.inl (hw _ (List.mem_of_getElem? (i := 27) rfl))) (Or.inr (hw _ (List.mem_of_getElem? (i := 16) rfl))) (by decide) (t := .int) (t' := (.array .long)) (by decide) (by decide)))
  have F69 := ArrL.other F59 W62 (Ne.symm n3)
  have F70 := ArrL.other F60 W62 (Ne.symm n24)
  have F71 := ArrL.other A47 W62 (Ne.symm n48)
  have N72 := Fr.snoc X62 N45 gt_
  have Z73 : n0 ≤ h62.size := Nat.le_trans Z61 (Nat.le_of_eq W62.size.symm)
  refine g_aloadN (q := 26) X62.here hx (hb hby d1_25) rfl rfl rfl ?_
  refine g_getF (q := 29) X62 hx hZ hown (hw _ (List.mem_of_getElem? (i := 12) rfl)) e62 F66 (hb hby d1_26) rfl ?_
  intro T74 X74 e74
  refine g_iconst (q := 30) (v := (-1 : Int32)) X74.here hx (hb hby d1_29) rfl rfl ?_
  refine g_callS (q := 33) X74 hx hZ hown (hw _ (List.mem_of_getElem? (i := 17) rfl)) (hw _ (List.mem_of_getElem? (i := 18) rfl)) (hw _ (List.mem_of_getElem? (i := 19) rfl)) (hw _ (List.mem_of_getElem? (i := 20) rfl)) (by decide) (rm3 l Z a0 hw [] o23 h62 n0 Z73 F70 g26) (argsL := [.ref o23, .int (-1 : Int32)]) (rest := []) pd_0 rfl rfl rfl (hb hby d1_30) rfl (by rw [hml]; rfl) e74 (by decide) (W := 0) rfl (by decide) (by decide) (by decide) ?_
  intro v75 T75 Lc75 X75 Q75
  obtain ⟨rfl, Nq75, Kq75, A76⟩ := Q75
  have N77 := Fr.app N72 Nq75
  have K78 := Keep.trans K63 Kq75 (allS (Or.inr g27) all0)
  have F79 := Exa.keep F64 Kq75
  have F80 := Fld.keep F65 Kq75 (ninS n24 nin0)
  have F81 := Fld.keep F66 Kq75 (ninS n24 nin0)
  have F82 := Fld.keep F62 Kq75 (ninS n24 nin0)
  have F83 := Fld.keep F68 Kq75 (ninS n24 nin0)
  have F84 := ArrL.keep F69 Kq75 (ninS n25 nin0)
  have F86 := ArrL.keep F71 Kq75 (ninS (Ne.symm n50) nin0)
  have Z87 : n0 ≤ T75.heap.size := Nat.le_trans Z73 Kq75.1
  exact g_ret X75 hx hlk hrt (hb hby d1_33) (by decide) (by decide) (by skip; exact ⟨rfl, N77, K78, o2, o23, o47, g5, g27, g52, n25, n49, n50, F80, F81, F82, F83, F84, A76, F86⟩)
def RM_rm9 : Room := ({ frames := 0, cells := 0, slots := 0, locals := 0 } : Room)
theorem d9_0 : decode prog_77_method_11_code 0 = .ok (.aload_n 0, 1) := by decide +kernel
theorem d9_1 : decode prog_77_method_11_code 1 = .ok (.getfield 16, 3) := by decide +kernel
theorem d9_4 : decode prog_77_method_11_code 4 = .ok (.iload_n 1, 1) := by decide +kernel
theorem d9_5 : decode prog_77_method_11_code 5 = .ok (.laload, 1) := by decide +kernel
theorem d9_6 : decode prog_77_method_11_code 6 = .ok (.aload_n 0, 1) := by decide +kernel
theorem d9_7 : decode prog_77_method_11_code 7 = .ok (.getfield 16, 3) := by decide +kernel
theorem d9_10 : decode prog_77_method_11_code 10 = .ok (.iload_n 2, 1) := by decide +kernel
theorem d9_11 : decode prog_77_method_11_code 11 = .ok (.laload, 1) := by decide +kernel
theorem d9_12 : decode prog_77_method_11_code 12 = .ok (.lcmp, 1) := by decide +kernel
theorem d9_13 : decode prog_77_method_11_code 13 = .ok (.ifCond .lt 24, 3) := by decide +kernel
theorem d9_16 : decode prog_77_method_11_code 16 = .ok (.aload_n 0, 1) := by decide +kernel
theorem d9_17 : decode prog_77_method_11_code 17 = .ok (.getfield 16, 3) := by decide +kernel
theorem d9_20 : decode prog_77_method_11_code 20 = .ok (.iload_n 1, 1) := by decide +kernel
theorem d9_21 : decode prog_77_method_11_code 21 = .ok (.laload, 1) := by decide +kernel
theorem d9_22 : decode prog_77_method_11_code 22 = .ok (.aload_n 0, 1) := by decide +kernel
theorem d9_23 : decode prog_77_method_11_code 23 = .ok (.getfield 16, 3) := by decide +kernel
theorem d9_26 : decode prog_77_method_11_code 26 = .ok (.iload_n 2, 1) := by decide +kernel
theorem d9_27 : decode prog_77_method_11_code 27 = .ok (.laload, 1) := by decide +kernel
theorem d9_28 : decode prog_77_method_11_code 28 = .ok (.lcmp, 1) := by decide +kernel
theorem d9_29 : decode prog_77_method_11_code 29 = .ok (.ifCond .ne 12, 3) := by decide +kernel
theorem d9_32 : decode prog_77_method_11_code 32 = .ok (.iload_n 1, 1) := by decide +kernel
theorem d9_33 : decode prog_77_method_11_code 33 = .ok (.iload_n 2, 1) := by decide +kernel
theorem d9_34 : decode prog_77_method_11_code 34 = .ok (.if_icmp .ge 7, 3) := by decide +kernel
theorem d9_37 : decode prog_77_method_11_code 37 = .ok (.iconst 1, 1) := by decide +kernel
theorem d9_38 : decode prog_77_method_11_code 38 = .ok (.goto 4, 3) := by decide +kernel
theorem d9_41 : decode prog_77_method_11_code 41 = .ok (.iconst 0, 1) := by decide +kernel
theorem d9_42 : decode prog_77_method_11_code 42 = .ok (.ireturn, 1) := by decide +kernel
theorem ef_9 (m : MethodId) (z0 : Addr) (z1 : Int32) (z2 : Int32) : entryFrame m #[.ref z0, .int z1, .int z2] 3 = mkF m 0 #[.val (.ref z0), .val (.int z1), .val (.int z2)] [] := by first | (simp [entryFrame, mkF, argsToLocals, Value.category]; done) | rfl
set_option maxRecDepth 65536 in
set_option maxHeartbeats 40000000 in
theorem rm9 (l : Launch) (Z : State) (a0 : Array Value) (hw : ∀ d ∈ tables_1, d.before a0 Z = true) (ws : List Jvm.Cond) (t : Addr) (on : Int32) (ot : Int32) (h0 : Heap) (n0 : Nat) (Z0 : n0 ≤ h0.size) (ak : Addr) (ky : List Int64) (F2_ : Fld Z h0 t "com/example/hedged_dispatch/hedgeddispatch/stn/NodeQueue" "key" "[J" (.ref ak)) (A2_ : LA Z h0 ak ky) (hkl : ky.length = 4) (von_ : 0 ≤ on.toInt ∧ on.toInt < 4) (vot_ : 0 ≤ ot.toInt ∧ ot.toInt < 4) :
    Ctr l Z (⟨"com/example/hedged_dispatch/hedgeddispatch/stn/NodeQueue", "before", "(II)Z"⟩ : MethodName) prog_77_method_11_code 3 (some .boolean) RM_rm9 ws #[.ref t, .int on, .int ot] h0 (PQ (.int (b2i (decide (Bef ky on ot)))) h0) := by
  refine Ctr.of (plainFor_of_name pn_1) ?_
  intro p e s m below meth c s₁ hx hby hml hrt hlk hnm hown hZ X0 e0
  have N0 := Fr.nil n0
  refine Go.cast (ef_9 m t on ot) ?_
  refine g_aloadN (q := 1) X0.here hx (hb hby d9_0) rfl rfl rfl ?_
  refine g_getF (q := 4) X0 hx hZ hown (hw _ (List.mem_of_getElem? (i := 15) rfl)) e0 F2_ (hb hby d9_1) rfl ?_
  intro T1 X1 e1
  refine g_iloadN (q := 5) X1.here hx (hb hby d9_4) rfl rfl ?_
  refine g_lload_ (q := 6) (i := on.toInt.toNat) (v := (ky.getD on.toInt.toNat 0)) X1 hx hZ e1 A2_ (own_tn von_.1) (own_gdJ (own_lt4 von_ hkl)) (hb hby d9_5) rfl ?_
  refine g_aloadN (q := 7) X1.here hx (hb hby d9_6) rfl rfl rfl ?_
  refine g_getF (q := 10) X1 hx hZ hown (hw _ (List.mem_of_getElem? (i := 15) rfl)) e1 F2_ (hb hby d9_7) rfl ?_
  intro T2 X2 e2
  refine g_iloadN (q := 11) X2.here hx (hb hby d9_10) rfl rfl ?_
  refine g_lload_ (q := 12) (i := ot.toInt.toNat) (v := (ky.getD ot.toInt.toNat 0)) X2 hx hZ e2 A2_ (own_tn vot_.1) (own_gdJ (own_lt4 vot_ hkl)) (hb hby d9_11) rfl ?_
  refine g_lcmp_lt (q := 37) (q1 := 13) (q0 := 16) X2.here hx (hb hby d9_12) rfl (hb hby d9_13) (by decide) (by decide) rfl ?_ ?_
  · intro c3
    refine g_iconst (q := 38) (v := (1 : Int32)) X2.here hx (hb hby d9_37) rfl rfl ?_
    refine g_goto (q := 42) X2.here hx (hb hby d9_38) (by decide) (by decide) ?_
    exact g_zreturn (b := true) X2 hx hlk hrt (hb hby d9_42) (by decide) (by decide) ⟨eqT (Or.inl c3), e2, rfl⟩
  · intro c3
    refine g_aloadN (q := 17) X2.here hx (hb hby d9_16) rfl rfl rfl ?_
    refine g_getF (q := 20) X2 hx hZ hown (hw _ (List.mem_of_getElem? (i := 15) rfl)) e2 F2_ (hb hby d9_17) rfl ?_
    intro T4 X4 e4
    refine g_iloadN (q := 21) X4.here hx (hb hby d9_20) rfl rfl ?_
    refine g_lload_ (q := 22) (i := on.toInt.toNat) (v := (ky.getD on.toInt.toNat 0)) X4 hx hZ e4 A2_ (own_tn von_.1) (own_gdJ (own_lt4 von_ hkl)) (hb hby d9_21) rfl ?_
    refine g_aloadN (q := 23) X4.here hx (hb hby d9_22) rfl rfl rfl ?_
    refine g_getF (q := 26) X4 hx hZ hown (hw _ (List.mem_of_getElem? (i := 15) rfl)) e4 F2_ (hb hby d9_23) rfl ?_
    intro T5 X5 e5
    refine g_iloadN (q := 27) X5.here hx (hb hby d9_26) rfl rfl ?_
    refine g_lload_ (q := 28) (i := ot.toInt.toNat) (v := (ky.getD ot.toInt.toNat 0)) X5 hx hZ e5 A2_ (own_tn vot_.1) (own_gdJ (own_lt4 vot_ hkl)) (hb hby d9_27) rfl ?_
    refine g_lcmp_ne (q := 41) (q1 := 29) (q0 := 32) X5.here hx (hb hby d9_28) rfl (hb hby d9_29) (by decide) (by decide) rfl ?_ ?_
    · intro c6
      refine g_iconst (q := 42) (v := (0 : Int32)) X5.here hx (hb hby d9_41) rfl rfl ?_
      exact g_zreturn (b := false) X5 hx hlk hrt (hb hby d9_42) (by decide) (by decide) ⟨eqF (fun h => h.elim (fun a => absurd a (Int.not_lt.mpr c3)) (fun a => c6 a.1)), e5, rfl⟩
    · intro c6
      refine g_iloadN (q := 33) X5.here hx (hb hby d9_32) rfl rfl ?_
      refine g_iloadN (q := 34) X5.here hx (hb hby d9_33) rfl rfl ?_
      refine g_icmp_ge (q := 41) (q0 := 37) X5.here hx (hb hby d9_34) (by decide) (by decide) rfl ?_ ?_
      · intro c7
        refine g_iconst (q := 42) (v := (0 : Int32)) X5.here hx (hb hby d9_41) rfl rfl ?_
        exact g_zreturn (b := false) X5 hx hlk hrt (hb hby d9_42) (by decide) (by decide) ⟨eqF (fun h => h.elim (fun a => absurd a (Int.not_lt.mpr c3)) (fun a => absurd a.2 (Int.not_lt.mpr c7))), e5, rfl⟩
      · intro c7
        refine g_iconst (q := 38) (v := (1 : Int32)) X5.here hx (hb hby d9_37) rfl rfl ?_
        refine g_goto (q := 42) X5.here hx (hb hby d9_38) (by decide) (by decide) ?_
        exact g_zreturn (b := true) X5 hx hlk hrt (hb hby d9_42) (by decide) (by decide) ⟨eqT (Or.inr ⟨c6, c7⟩), e5, rfl⟩
def RM_rm5_0 : Room := ({ frames := 0, cells := 0, slots := 0, locals := 0 } : Room)
theorem d5_0 : decode prog_77_method_9_code 0 = .ok (.aload_n 0, 1) := by decide +kernel
theorem d5_1 : decode prog_77_method_9_code 1 = .ok (.getfield 13, 3) := by decide +kernel
theorem d5_4 : decode prog_77_method_9_code 4 = .ok (.iload_n 1, 1) := by decide +kernel
theorem d5_5 : decode prog_77_method_9_code 5 = .ok (.iaload, 1) := by decide +kernel
theorem d5_6 : decode prog_77_method_9_code 6 = .ok (.istore_n 2, 1) := by decide +kernel
theorem d5_7 : decode prog_77_method_9_code 7 = .ok (.iload_n 2, 1) := by decide +kernel
theorem d5_8 : decode prog_77_method_9_code 8 = .ok (.ifCond .le 51, 3) := by decide +kernel
theorem d5_59 : decode prog_77_method_9_code 59 = .ok (.aload_n 0, 1) := by decide +kernel
theorem d5_60 : decode prog_77_method_9_code 60 = .ok (.getfield 7, 3) := by decide +kernel
theorem d5_63 : decode prog_77_method_9_code 63 = .ok (.iload_n 2, 1) := by decide +kernel
theorem d5_64 : decode prog_77_method_9_code 64 = .ok (.iload_n 1, 1) := by decide +kernel
theorem d5_65 : decode prog_77_method_9_code 65 = .ok (.iastore, 1) := by decide +kernel
theorem d5_66 : decode prog_77_method_9_code 66 = .ok (.aload_n 0, 1) := by decide +kernel
theorem d5_67 : decode prog_77_method_9_code 67 = .ok (.getfield 13, 3) := by decide +kernel
theorem d5_70 : decode prog_77_method_9_code 70 = .ok (.iload_n 1, 1) := by decide +kernel
theorem d5_71 : decode prog_77_method_9_code 71 = .ok (.iload_n 2, 1) := by decide +kernel
theorem d5_72 : decode prog_77_method_9_code 72 = .ok (.iastore, 1) := by decide +kernel
theorem d5_73 : decode prog_77_method_9_code 73 = .ok (.return_, 1) := by decide +kernel
theorem ef_5 (m : MethodId) (z0 : Addr) (z1 : Int32) : entryFrame m #[.ref z0, .int z1] 5 = mkF m 0 #[.val (.ref z0), .val (.int z1), .unset, .unset, .unset] [] := by first | (simp [entryFrame, mkF, argsToLocals, Value.category]; done) | rfl
set_option maxRecDepth 65536 in
set_option maxHeartbeats 40000000 in
theorem rm5_0 (l : Launch) (Z : State) (a0 : Array Value) (hw : ∀ d ∈ tables_1, d.before a0 Z = true) (ws : List Jvm.Cond) (t : Addr) (nd : Int32) (h0 : Heap) (n0 : Nat) (Z0 : n0 ≤ h0.size) (ah ap ak : Addr) (w0_ w1_ w2_ w3_ : Int32) (pl : List Int32) (ky : List Int64) (iv : Nat) (F0_ : Fld Z h0 t "com/example/hedged_dispatch/hedgeddispatch/stn/NodeQueue" "heap" "[I" (.ref ah)) (F1_ : Fld Z h0 t "com/example/hedged_dispatch/hedgeddispatch/stn/NodeQueue" "place" "[I" (.ref ap)) (F2_ : Fld Z h0 t "com/example/hedged_dispatch/hedgeddispatch/stn/NodeQueue" "key" "[J" (.ref ak)) (A0_ : IA Z h0 ah [w0_, w1_, w2_, w3_]) (A1_ : IA Z h0 ap pl) (A2_ : LA Z h0 ak ky) (E_ : Exa Z h0 t "com/example/hedged_dispatch/hedgeddispatch/stn/NodeQueue") (ne0_ : t ≠ ah) (ne1_ : t ≠ ap) (ne2_ : t ≠ ak) (ne3_ : ah ≠ ap) (ne4_ : ah ≠ ak) (ne5_ : ap ≠ ak) (gh_ : n0 ≤ ah) (gp_ : n0 ≤ ap) (hv : nd.toInt = (iv : Int)) (hv4 : iv < 4) (hkl : ky.length = 4) (hpl : pl.length = 4) (hpv : pl[iv]? = some (0 : Int32)) :
    Ctr l Z (⟨"com/example/hedged_dispatch/hedgeddispatch/stn/NodeQueue", "siftUp", "(I)V"⟩ : MethodName) prog_77_method_9_code 5 none RM_rm5_0 ws #[.ref t, .int nd] h0 (fun v h L => v = none ∧ Fr n0 L ∧ Keep h0 h [ah, ap] ∧ ∃ hp' pl' : List Int32, IA Z h ah hp' ∧ IA Z h ap pl' ∧ pl'.length = 4 ∧ UpR0 ky nd w0_ w1_ w2_ w3_ hp' ∧ (∀ u : Nat, u ≠ iv → pl'.getD u 0 = pl.getD u 0)) := by
  refine Ctr.of (plainFor_of_name pn_1) ?_
  intro p e s m below meth c s₁ hx hby hml hrt hlk hnm hown hZ X0 e0
  have N0 := Fr.nil n0
  refine Go.cast (ef_5 m t nd) ?_
  have vnd_ : 0 ≤ nd.toInt ∧ nd.toInt < 4 := (by omega)
  refine g_aloadN (q := 1) X0.here hx (hb hby d5_0) rfl rfl rfl ?_
  refine g_getF (q := 4) X0 hx hZ hown (hw _ (List.mem_of_getElem? (i := 12) rfl)) e0 F1_ (hb hby d5_1) rfl ?_
  intro T1 X1 e1
  refine g_iloadN (q := 5) X1.here hx (hb hby d5_4) rfl rfl ?_
  refine g_iload_ (q := 6) (i := iv) (v := (0 : Int32)) X1 hx hZ e1 A1_ hv hpv (hb hby d5_5) rfl ?_
  refine g_istoreN (q := 7) (L' := #[.val (.ref t), .val (.int nd), .val (.int (0 : Int32)), .unset, .unset]) X1.here hx (hb hby d5_6) rfl rfl ?_
  refine g_iloadN (q := 8) X1.here hx (hb hby d5_7) rfl rfl ?_
  refine g_if_le (q := 59) (q0 := 11) X1.here hx (hb hby d5_8) (by decide) (by decide) rfl ?_ ?_
  · intro c2
    refine g_aloadN (q := 60) X1.here hx (hb hby d5_59) rfl rfl rfl ?_
    refine g_getF (q := 63) X1 hx hZ hown (hw _ (List.mem_of_getElem? (i := 10) rfl)) e1 F0_ (hb hby d5_60) rfl ?_
    intro T3 X3 e3
    refine g_iloadN (q := 64) X3.here hx (hb hby d5_63) rfl rfl ?_
    refine g_iloadN (q := 65) X3.here hx (hb hby d5_64) rfl rfl ?_
    refine g_istore_ (q := 66) (i := 0) (v := nd) X3 hx hZ e3 A0_ rfl (by show 0 < 4; decide) (hb hby d5_65) rfl ?_
    intro T4 h4 X4 e4 W4 A4
    replace A4 : IA Z h4 ah ([nd, w1_, w2_, w3_] : List Int32) := A4
    have K5 := Keep.wr (Keep.refl h0 [ah, ap]) W4 (Or.inl (by simp))
    have F6 := Exa.wr W4 E_
    have F7 := Fld.other W4 F0_ (Or.inl ne0_)
    have F8 := Fld.other W4 F1_ (Or.inl ne0_)
    have F9 := Fld.other W4 F2_ (Or.inl ne0_)
    have F11 := ArrL.other A1_ W4 (Ne.symm ne3_)
    have F12 := ArrL.other A2_ W4 (Ne.symm ne4_)
    have N13 := Fr.snoc X4 N0 gh_
    have Z14 : n0 ≤ h4.size := Nat.le_trans Z0 (Nat.le_of_eq W4.size.symm)
    refine g_aloadN (q := 67) X4.here hx (hb hby d5_66) rfl rfl rfl ?_
    refine g_getF (q := 70) X4 hx hZ hown (hw _ (List.mem_of_getElem? (i := 12) rfl)) e4 F8 (hb hby d5_67) rfl ?_
    intro T15 X15 e15
    refine g_iloadN (q := 71) X15.here hx (hb hby d5_70) rfl rfl ?_
    refine g_iloadN (q := 72) X15.here hx (hb hby d5_71) rfl rfl ?_
    refine g_istore_ (q := 73) (i := iv) (v := (0 : Int32)) X15 hx hZ e15 F11 hv (by (try simp only [List.length_set]); rw [hpl]; exact hv4) (hb hby d5_72) rfl ?_
    intro T16 h16 X16 e16 W16 A16
    have K17 := Keep.wr K5 W16 (Or.inl (by simp))
    have F18 := Exa.wr W16 F6
    have F19 := Fld.other W16 F7 (Or.inl ne1_)
    have F20 := Fld.other W16 F8 (Or.inl ne1_)
    have F21 := Fld.other W16 F9 (Or.inl ne1_)
    have F22 := ArrL.other A4 W16 ne3_
    have F24 := ArrL.other F12 W16 (Ne.symm ne5_)
    have N25 := Fr.snoc X16 N13 gp_
    have Z26 : n0 ≤ h16.size := Nat.le_trans Z14 (Nat.le_of_eq W16.size.symm)
    exact g_ret X16 hx hlk hrt (hb hby d5_73) (by decide) (by decide) (by rw [e16]; exact ⟨rfl, N25, K17, [nd, w1_, w2_, w3_], (pl.set iv (0 : Int32)), F22, A16, (by simp only [List.length_set]; exact hpl), rfl, (fun u g0_  => by rw [own_sd g0_])⟩)
  · intro c2; exact absurd c2 (by decide)
theorem pd_1 : parseMethodDescriptor "(II)Z" = some ⟨[.int, .int], some .boolean⟩ := by decide +kernel
def RM_rm5_1 : Room := ({ frames := 1, cells := 0, slots := 0, locals := 14 } : Room)
theorem d5_11 : decode prog_77_method_9_code 11 = .ok (.iload_n 2, 1) := by decide +kernel
theorem d5_12 : decode prog_77_method_9_code 12 = .ok (.iconst 1, 1) := by decide +kernel
theorem d5_13 : decode prog_77_method_9_code 13 = .ok (.isub, 1) := by decide +kernel
theorem d5_14 : decode prog_77_method_9_code 14 = .ok (.iconst 2, 1) := by decide +kernel
theorem d5_15 : decode prog_77_method_9_code 15 = .ok (.idiv, 1) := by decide +kernel
theorem d5_16 : decode prog_77_method_9_code 16 = .ok (.istore_n 3, 1) := by decide +kernel
theorem d5_17 : decode prog_77_method_9_code 17 = .ok (.aload_n 0, 1) := by decide +kernel
theorem d5_18 : decode prog_77_method_9_code 18 = .ok (.getfield 7, 3) := by decide +kernel
theorem d5_21 : decode prog_77_method_9_code 21 = .ok (.iload_n 3, 1) := by decide +kernel
theorem d5_22 : decode prog_77_method_9_code 22 = .ok (.iaload, 1) := by decide +kernel
theorem d5_23 : decode prog_77_method_9_code 23 = .ok (.istore 4, 2) := by decide +kernel
theorem d5_25 : decode prog_77_method_9_code 25 = .ok (.aload_n 0, 1) := by decide +kernel
theorem d5_26 : decode prog_77_method_9_code 26 = .ok (.iload_n 1, 1) := by decide +kernel
theorem d5_27 : decode prog_77_method_9_code 27 = .ok (.iload 4, 2) := by decide +kernel
theorem d5_29 : decode prog_77_method_9_code 29 = .ok (.invokevirtual 40, 3) := by decide +kernel
theorem d5_32 : decode prog_77_method_9_code 32 = .ok (.ifCond .ne 6, 3) := by decide +kernel
theorem d5_35 : decode prog_77_method_9_code 35 = .ok (.goto 24, 3) := by decide +kernel
theorem d5_38 : decode prog_77_method_9_code 38 = .ok (.aload_n 0, 1) := by decide +kernel
theorem d5_39 : decode prog_77_method_9_code 39 = .ok (.getfield 7, 3) := by decide +kernel
theorem d5_42 : decode prog_77_method_9_code 42 = .ok (.iload_n 2, 1) := by decide +kernel
theorem d5_43 : decode prog_77_method_9_code 43 = .ok (.iload 4, 2) := by decide +kernel
theorem d5_45 : decode prog_77_method_9_code 45 = .ok (.iastore, 1) := by decide +kernel
theorem d5_46 : decode prog_77_method_9_code 46 = .ok (.aload_n 0, 1) := by decide +kernel
theorem d5_47 : decode prog_77_method_9_code 47 = .ok (.getfield 13, 3) := by decide +kernel
theorem d5_50 : decode prog_77_method_9_code 50 = .ok (.iload 4, 2) := by decide +kernel
theorem d5_52 : decode prog_77_method_9_code 52 = .ok (.iload_n 2, 1) := by decide +kernel
theorem d5_53 : decode prog_77_method_9_code 53 = .ok (.iastore, 1) := by decide +kernel
theorem d5_54 : decode prog_77_method_9_code 54 = .ok (.iload_n 3, 1) := by decide +kernel
theorem d5_55 : decode prog_77_method_9_code 55 = .ok (.istore_n 2, 1) := by decide +kernel
theorem d5_56 : decode prog_77_method_9_code 56 = .ok (.goto (-49), 3) := by decide +kernel
set_option maxRecDepth 65536 in
set_option maxHeartbeats 40000000 in
theorem rm5_1 (l : Launch) (Z : State) (a0 : Array Value) (hw : ∀ d ∈ tables_1, d.before a0 Z = true) (ws : List Jvm.Cond) (t : Addr) (nd : Int32) (h0 : Heap) (n0 : Nat) (Z0 : n0 ≤ h0.size) (ah ap ak : Addr) (w0_ w1_ w2_ w3_ : Int32) (pl : List Int32) (ky : List Int64) (iv : Nat) (F0_ : Fld Z h0 t "com/example/hedged_dispatch/hedgeddispatch/stn/NodeQueue" "heap" "[I" (.ref ah)) (F1_ : Fld Z h0 t "com/example/hedged_dispatch/hedgeddispatch/stn/NodeQueue" "place" "[I" (.ref ap)) (F2_ : Fld Z h0 t "com/example/hedged_dispatch/hedgeddispatch/stn/NodeQueue" "key" "[J" (.ref ak)) (A0_ : IA Z h0 ah [w0_, w1_, w2_, w3_]) (A1_ : IA Z h0 ap pl) (A2_ : LA Z h0 ak ky) (E_ : Exa Z h0 t "com/example/hedged_dispatch/hedgeddispatch/stn/NodeQueue") (ne0_ : t ≠ ah) (ne1_ : t ≠ ap) (ne2_ : t ≠ ak) (ne3_ : ah ≠ ap) (ne4_ : ah ≠ ak) (ne5_ : ap ≠ ak) (gh_ : n0 ≤ ah) (gp_ : n0 ≤ ap) (hv : nd.toInt = (iv : Int)) (hv4 : iv < 4) (hkl : ky.length = 4) (hpl : pl.length = 4) (hpv : pl[iv]? = some (1 : Int32)) (vw0_ : 0 ≤ w0_.toInt ∧ w0_.toInt < 4) :
    Ctr l Z (⟨"com/example/hedged_dispatch/hedgeddispatch/stn/NodeQueue", "siftUp", "(I)V"⟩ : MethodName) prog_77_method_9_code 5 none RM_rm5_1 ws #[.ref t, .int nd] h0 (fun v h L => v = none ∧ Fr n0 L ∧ Keep h0 h [ah, ap] ∧ ∃ hp' pl' : List Int32, IA Z h ah hp' ∧ IA Z h ap pl' ∧ pl'.length = 4 ∧ UpR1 ky nd w0_ w1_ w2_ w3_ hp' ∧ (∀ u : Nat, u ≠ iv → u ≠ w0_.toInt.toNat → pl'.getD u 0 = pl.getD u 0)) := by
  refine Ctr.of (plainFor_of_name pn_1) ?_
  intro p e s m below meth c s₁ hx hby hml hrt hlk hnm hown hZ X0 e0
  have N0 := Fr.nil n0
  refine Go.cast (ef_5 m t nd) ?_
  have vnd_ : 0 ≤ nd.toInt ∧ nd.toInt < 4 := (by omega)
  refine g_aloadN (q := 1) X0.here hx (hb hby d5_0) rfl rfl rfl ?_
  refine g_getF (q := 4) X0 hx hZ hown (hw _ (List.mem_of_getElem? (i := 12) rfl)) e0 F1_ (hb hby d5_1) rfl ?_
  intro T1 X1 e1
  refine g_iloadN (q := 5) X1.here hx (hb hby d5_4) rfl rfl ?_
  refine g_iload_ (q := 6) (i := iv) (v := (1 : Int32)) X1 hx hZ e1 A1_ hv hpv (hb hby d5_5) rfl ?_
  refine g_istoreN (q := 7) (L' := #[.val (.ref t), .val (.int nd), .val (.int (1 : Int32)), .unset, .unset]) X1.here hx (hb hby d5_6) rfl rfl ?_
  refine g_iloadN (q := 8) X1.here hx (hb hby d5_7) rfl rfl ?_
  refine g_if_le (q := 59) (q0 := 11) X1.here hx (hb hby d5_8) (by decide) (by decide) rfl ?_ ?_
  · intro c2; exact absurd c2 (by decide)
  · intro c2
    refine g_iloadN (q := 12) X1.here hx (hb hby d5_11) rfl rfl ?_
    refine g_iconst (q := 13) (v := (1 : Int32)) X1.here hx (hb hby d5_12) rfl rfl ?_
    refine g_isub (q := 14) X1.here hx (hb hby d5_13) rfl ?_
    rw [show ((1 : Int32) - (1 : Int32)) = (0 : Int32) from by decide]
    refine g_iconst (q := 15) (v := (2 : Int32)) X1.here hx (hb hby d5_14) rfl rfl ?_
    refine g_idiv (q := 16) X1.here hx (hb hby d5_15) (by decide) rfl ?_
    rw [show ((0 : Int32) / (2 : Int32)) = (0 : Int32) from by decide]
    refine g_istoreN (q := 17) (L' := #[.val (.ref t), .val (.int nd), .val (.int (1 : Int32)), .val (.int (0 : Int32)), .unset]) X1.here hx (hb hby d5_16) rfl rfl ?_
    refine g_aloadN (q := 18) X1.here hx (hb hby d5_17) rfl rfl rfl ?_
    refine g_getF (q := 21) X1 hx hZ hown (hw _ (List.mem_of_getElem? (i := 10) rfl)) e1 F0_ (hb hby d5_18) rfl ?_
    intro T3 X3 e3
    refine g_iloadN (q := 22) X3.here hx (hb hby d5_21) rfl rfl ?_
    refine g_iload_ (q := 23) (i := 0) (v := w0_) X3 hx hZ e3 A0_ rfl rfl (hb hby d5_22) rfl ?_
    refine g_istore (q := 25) (L' := #[.val (.ref t), .val (.int nd), .val (.int (1 : Int32)), .val (.int (0 : Int32)), .val (.int w0_)]) X3.here hx (hb hby d5_23) rfl rfl ?_
    refine g_aloadN (q := 26) X3.here hx (hb hby d5_25) rfl rfl rfl ?_
    refine g_iloadN (q := 27) X3.here hx (hb hby d5_26) rfl rfl ?_
    refine g_iload (q := 29) X3.here hx (hb hby d5_27) rfl rfl ?_
    refine g_private (q := 32) X3 hx hZ hown (hw _ (List.mem_of_getElem? (i := 47) rfl)) (hw _ (List.mem_of_getElem? (i := 48) rfl)) (hw _ (List.mem_of_getElem? (i := 49) rfl)) (hw _ (List.mem_of_getElem? (i := 1) rfl)) (hw _ (List.mem_of_getElem? (i := 2) rfl)) (hw _ (List.mem_of_getElem? (i := 50) rfl)) (by decide) (rm9 l Z a0 hw [] t nd w0_ h0 n0 Z0 ak ky F2_ A2_ hkl vnd_ vw0_) E_ (argsL := [.int nd, .int w0_]) (rest := []) pd_1 rfl rfl rfl (hb hby d5_29) rfl (by rw [hml]; rfl) e3 (by decide) (W := 0) rfl (by decide) (by decide) (by decide) ?_
    intro v4 T4 Lc4 X4 Q4
    obtain ⟨rfl, e4, rfl⟩ := Q4
    rw [List.append_nil] at X4
    refine g_ifB_ne (q := 38) (q0 := 35) X4.here hx (hb hby d5_32) (by decide) (by decide) rfl ?_ ?_
    · intro c5
      refine g_aloadN (q := 39) X4.here hx (hb hby d5_38) rfl rfl rfl ?_
      refine g_getF (q := 42) X4 hx hZ hown (hw _ (List.mem_of_getElem? (i := 10) rfl)) e4 F0_ (hb hby d5_39) rfl ?_
      intro T6 X6 e6
      refine g_iloadN (q := 43) X6.here hx (hb hby d5_42) rfl rfl ?_
      refine g_iload (q := 45) X6.here hx (hb hby d5_43) rfl rfl ?_
      refine g_istore_ (q := 46) (i := 1) (v := w0_) X6 hx hZ e6 A0_ rfl (by show 1 < 4; decide) (hb hby d5_45) rfl ?_
      intro T7 h7 X7 e7 W7 A7
      replace A7 : IA Z h7 ah ([w0_, w0_, w2_, w3_] : List Int32) := A7
      have K8 := Keep.wr (Keep.refl h0 [ah, ap]) W7 (Or.inl (by simp))
      have F9 := Exa.wr W7 E_
      have F10 := Fld.other W7 F0_ (Or.inl ne0_)
      have F11 := Fld.other W7 F1_ (Or.inl ne0_)
      have F12 := Fld.other W7 F2_ (Or.inl ne0_)
      have F14 := ArrL.other A1_ W7 (Ne.symm ne3_)
      have F15 := ArrL.other A2_ W7 (Ne.symm ne4_)
      have N16 := Fr.snoc X7 N0 gh_
      have Z17 : n0 ≤ h7.size := Nat.le_trans Z0 (Nat.le_of_eq W7.size.symm)
      refine g_aloadN (q := 47) X7.here hx (hb hby d5_46) rfl rfl rfl ?_
      refine g_getF (q := 50) X7 hx hZ hown (hw _ (List.mem_of_getElem? (i := 12) rfl)) e7 F11 (hb hby d5_47) rfl ?_
      intro T18 X18 e18
      refine g_iload (q := 52) X18.here hx (hb hby d5_50) rfl rfl ?_
      refine g_iloadN (q := 53) X18.here hx (hb hby d5_52) rfl rfl ?_
      refine g_istore_ (q := 54) (i := w0_.toInt.toNat) (v := (1 : Int32)) X18 hx hZ e18 F14 (own_tn vw0_.1) (by (try simp only [List.length_set]); exact own_lt4 vw0_ hpl) (hb hby d5_53) rfl ?_
      intro T19 h19 X19 e19 W19 A19
      have K20 := Keep.wr K8 W19 (Or.inl (by simp))
      have F21 := Exa.wr W19 F9
      have F22 := Fld.other W19 F10 (Or.inl ne1_)
      have F23 := Fld.other W19 F11 (Or.inl ne1_)
      have F24 := Fld.other W19 F12 (Or.inl ne1_)
      have F25 := ArrL.other A7 W19 ne3_
      have F27 := ArrL.other F15 W19 (Ne.symm ne5_)
      have N28 := Fr.snoc X19 N16 gp_
      have Z29 : n0 ≤ h19.size := Nat.le_trans Z17 (Nat.le_of_eq W19.size.symm)
      refine g_iloadN (q := 55) X19.here hx (hb hby d5_54) rfl rfl ?_
      refine g_istoreN (q := 56) (L' := #[.val (.ref t), .val (.int nd), .val (.int (0 : Int32)), .val (.int (0 : Int32)), .val (.int w0_)]) X19.here hx (hb hby d5_55) rfl rfl ?_
      refine g_goto (q := 7) X19.here hx (hb hby d5_56) (by decide) (by decide) ?_
      refine g_iloadN (q := 8) X19.here hx (hb hby d5_7) rfl rfl ?_
      refine g_if_le (q := 59) (q0 := 11) X19.here hx (hb hby d5_8) (by decide) (by decide) rfl ?_ ?_
      · intro c30
        refine g_aloadN (q := 60) X19.here hx (hb hby d5_59) rfl rfl rfl ?_
        refine g_getF (q := 63) X19 hx hZ hown (hw _ (List.mem_of_getElem? (i := 10) rfl)) e19 F22 (hb hby d5_60) rfl ?_
        intro T31 X31 e31
        refine g_iloadN (q := 64) X31.here hx (hb hby d5_63) rfl rfl ?_
        refine g_iloadN (q := 65) X31.here hx (hb hby d5_64) rfl rfl ?_
        refine g_istore_ (q := 66) (i := 0) (v := nd) X31 hx hZ e31 F25 rfl (by show 0 < 4; decide) (hb hby d5_65) rfl ?_
        intro T32 h32 X32 e32 W32 A32
        replace A32 : IA Z h32 ah ([nd, w0_, w2_, w3_] : List Int32) := A32
        have K33 := Keep.wr K20 W32 (Or.inl (by simp))
        have F34 := Exa.wr W32 F21
        have F35 := Fld.other W32 F22 (Or.inl ne0_)
        have F36 := Fld.other W32 F23 (Or.inl ne0_)
        have F37 := Fld.other W32 F24 (Or.inl ne0_)
        have F39 := ArrL.other A19 W32 (Ne.symm ne3_)
        have F40 := ArrL.other F27 W32 (Ne.symm ne4_)
        have N41 := Fr.snoc X32 N28 gh_
        have Z42 : n0 ≤ h32.size := Nat.le_trans Z29 (Nat.le_of_eq W32.size.symm)
        refine g_aloadN (q := 67) X32.here hx (hb hby d5_66) rfl rfl rfl ?_
        refine g_getF (q := 70) X32 hx hZ hown (hw _ (List.mem_of_getElem? (i := 12) rfl)) e32 F36 (hb hby d5_67) rfl ?_
        intro T43 X43 e43
        refine g_iloadN (q := 71) X43.here hx (hb hby d5_70) rfl rfl ?_
        refine g_iloadN (q := 72) X43.here hx (hb hby d5_71) rfl rfl ?_
        refine g_istore_ (q := 73) (i := iv) (v := (0 : Int32)) X43 hx hZ e43 F39 hv (by (try simp only [List.length_set]); rw [hpl]; exact hv4) (hb hby d5_72) rfl ?_
        intro T44 h44 X44 e44 W44 A44
        have K45 := Keep.wr K33 W44 (Or.inl (by simp))
        have F46 := Exa.wr W44 F34
        have F47 := Fld.other W44 F35 (Or.inl ne1_)
        have F48 := Fld.other W44 F36 (Or.inl ne1_)
        have F49 := Fld.other W44 F37 (Or.inl ne1_)
        have F50 := ArrL.other A32 W44 ne3_
        have F52 := ArrL.other F40 W44 (Ne.symm ne5_)
        have N53 := Fr.snoc X44 N41 gp_
        have Z54 : n0 ≤ h44.size := Nat.le_trans Z42 (Nat.le_of_eq W44.size.symm)
        exact g_ret X44 hx hlk hrt (hb hby d5_73) (by decide) (by decide) (by rw [e44]; exact ⟨rfl, N53, K45, [nd, w0_, w2_, w3_], ((pl.set w0_.toInt.toNat (1 : Int32)).set iv (0 : Int32)), F50, A44, (by simp only [List.length_set]; exact hpl), Or.inl ⟨(of_decide_eq_true c5), rfl⟩, (fun u g0_ gw0_ => by rw [own_sd g0_, own_sd gw0_])⟩)
      · intro c30; exact absurd c30 (by decide)
    · intro c5
      refine g_goto (q := 59) X4.here hx (hb hby d5_35) (by decide) (by decide) ?_
      refine g_aloadN (q := 60) X4.here hx (hb hby d5_59) rfl rfl rfl ?_
      refine g_getF (q := 63) X4 hx hZ hown (hw _ (List.mem_of_getElem? (i := 10) rfl)) e4 F0_ (hb hby d5_60) rfl ?_
      intro T55 X55 e55
      refine g_iloadN (q := 64) X55.here hx (hb hby d5_63) rfl rfl ?_
      refine g_iloadN (q := 65) X55.here hx (hb hby d5_64) rfl rfl ?_
      refine g_istore_ (q := 66) (i := 1) (v := nd) X55 hx hZ e55 A0_ rfl (by show 1 < 4; decide) (hb hby d5_65) rfl ?_
      intro T56 h56 X56 e56 W56 A56
      replace A56 : IA Z h56 ah ([w0_, nd, w2_, w3_] : List Int32) := A56
      have K57 := Keep.wr (Keep.refl h0 [ah, ap]) W56 (Or.inl (by simp))
      have F58 := Exa.wr W56 E_
      have F59 := Fld.other W56 F0_ (Or.inl ne0_)
      have F60 := Fld.other W56 F1_ (Or.inl ne0_)
      have F61 := Fld.other W56 F2_ (Or.inl ne0_)
      have F63 := ArrL.other A1_ W56 (Ne.symm ne3_)
      have F64 := ArrL.other A2_ W56 (Ne.symm ne4_)
      have N65 := Fr.snoc X56 N0 gh_
      have Z66 : n0 ≤ h56.size := Nat.le_trans Z0 (Nat.le_of_eq W56.size.symm)
      refine g_aloadN (q := 67) X56.here hx (hb hby d5_66) rfl rfl rfl ?_
      refine g_getF (q := 70) X56 hx hZ hown (hw _ (List.mem_of_getElem? (i := 12) rfl)) e56 F60 (hb hby d5_67) rfl ?_
      intro T67 X67 e67
      refine g_iloadN (q := 71) X67.here hx (hb hby d5_70) rfl rfl ?_
      refine g_iloadN (q := 72) X67.here hx (hb hby d5_71) rfl rfl ?_
      refine g_istore_ (q := 73) (i := iv) (v := (1 : Int32)) X67 hx hZ e67 F63 hv (by (try simp only [List.length_set]); rw [hpl]; exact hv4) (hb hby d5_72) rfl ?_
      intro T68 h68 X68 e68 W68 A68
      have K69 := Keep.wr K57 W68 (Or.inl (by simp))
      have F70 := Exa.wr W68 F58
      have F71 := Fld.other W68 F59 (Or.inl ne1_)
      have F72 := Fld.other W68 F60 (Or.inl ne1_)
      have F73 := Fld.other W68 F61 (Or.inl ne1_)
      have F74 := ArrL.other A56 W68 ne3_
      have F76 := ArrL.other F64 W68 (Ne.symm ne5_)
      have N77 := Fr.snoc X68 N65 gp_
      have Z78 : n0 ≤ h68.size := Nat.le_trans Z66 (Nat.le_of_eq W68.size.symm)
      exact g_ret X68 hx hlk hrt (hb hby d5_73) (by decide) (by decide) (by rw [e68]; exact ⟨rfl, N77, K69, [w0_, nd, w2_, w3_], (pl.set iv (1 : Int32)), F74, A68, (by simp only [List.length_set]; exact hpl), Or.inr ⟨(of_decide_eq_false c5), rfl⟩, (fun u g0_ gw0_ => by rw [own_sd g0_])⟩)
def RM_rm5_2 : Room := ({ frames := 1, cells := 0, slots := 0, locals := 14 } : Room)
set_option maxRecDepth 65536 in
set_option maxHeartbeats 40000000 in
theorem rm5_2 (l : Launch) (Z : State) (a0 : Array Value) (hw : ∀ d ∈ tables_1, d.before a0 Z = true) (ws : List Jvm.Cond) (t : Addr) (nd : Int32) (h0 : Heap) (n0 : Nat) (Z0 : n0 ≤ h0.size) (ah ap ak : Addr) (w0_ w1_ w2_ w3_ : Int32) (pl : List Int32) (ky : List Int64) (iv : Nat) (F0_ : Fld Z h0 t "com/example/hedged_dispatch/hedgeddispatch/stn/NodeQueue" "heap" "[I" (.ref ah)) (F1_ : Fld Z h0 t "com/example/hedged_dispatch/hedgeddispatch/stn/NodeQueue" "place" "[I" (.ref ap)) (F2_ : Fld Z h0 t "com/example/hedged_dispatch/hedgeddispatch/stn/NodeQueue" "key" "[J" (.ref ak)) (A0_ : IA Z h0 ah [w0_, w1_, w2_, w3_]) (A1_ : IA Z h0 ap pl) (A2_ : LA Z h0 ak ky) (E_ : Exa Z h0 t "com/example/hedged_dispatch/hedgeddispatch/stn/NodeQueue") (ne0_ : t ≠ ah) (ne1_ : t ≠ ap) (ne2_ : t ≠ ak) (ne3_ : ah ≠ ap) (ne4_ : ah ≠ ak) (ne5_ : ap ≠ ak) (gh_ : n0 ≤ ah) (gp_ : n0 ≤ ap) (hv : nd.toInt = (iv : Int)) (hv4 : iv < 4) (hkl : ky.length = 4) (hpl : pl.length = 4) (hpv : pl[iv]? = some (2 : Int32)) (vw0_ : 0 ≤ w0_.toInt ∧ w0_.toInt < 4) :
    Ctr l Z (⟨"com/example/hedged_dispatch/hedgeddispatch/stn/NodeQueue", "siftUp", "(I)V"⟩ : MethodName) prog_77_method_9_code 5 none RM_rm5_2 ws #[.ref t, .int nd] h0 (fun v h L => v = none ∧ Fr n0 L ∧ Keep h0 h [ah, ap] ∧ ∃ hp' pl' : List Int32, IA Z h ah hp' ∧ IA Z h ap pl' ∧ pl'.length = 4 ∧ UpR2 ky nd w0_ w1_ w2_ w3_ hp' ∧ (∀ u : Nat, u ≠ iv → u ≠ w0_.toInt.toNat → pl'.getD u 0 = pl.getD u 0)) := by
  refine Ctr.of (plainFor_of_name pn_1) ?_
  intro p e s m below meth c s₁ hx hby hml hrt hlk hnm hown hZ X0 e0
  have N0 := Fr.nil n0
  refine Go.cast (ef_5 m t nd) ?_
  have vnd_ : 0 ≤ nd.toInt ∧ nd.toInt < 4 := (by omega)
  refine g_aloadN (q := 1) X0.here hx (hb hby d5_0) rfl rfl rfl ?_
  refine g_getF (q := 4) X0 hx hZ hown (hw _ (List.mem_of_getElem? (i := 12) rfl)) e0 F1_ (hb hby d5_1) rfl ?_
  intro T1 X1 e1
  refine g_iloadN (q := 5) X1.here hx (hb hby d5_4) rfl rfl ?_
  refine g_iload_ (q := 6) (i := iv) (v := (2 : Int32)) X1 hx hZ e1 A1_ hv hpv (hb hby d5_5) rfl ?_
  refine g_istoreN (q := 7) (L' := #[.val (.ref t), .val (.int nd), .val (.int (2 : Int32)), .unset, .unset]) X1.here hx (hb hby d5_6) rfl rfl ?_
  refine g_iloadN (q := 8) X1.here hx (hb hby d5_7) rfl rfl ?_
  refine g_if_le (q := 59) (q0 := 11) X1.here hx (hb hby d5_8) (by decide) (by decide) rfl ?_ ?_
  · intro c2; exact absurd c2 (by decide)
  · intro c2
    refine g_iloadN (q := 12) X1.here hx (hb hby d5_11) rfl rfl ?_
    refine g_iconst (q := 13) (v := (1 : Int32)) X1.here hx (hb hby d5_12) rfl rfl ?_
    refine g_isub (q := 14) X1.here hx (hb hby d5_13) rfl ?_
    rw [show ((2 : Int32) - (1 : Int32)) = (1 : Int32) from by decide]
    refine g_iconst (q := 15) (v := (2 : Int32)) X1.here hx (hb hby d5_14) rfl rfl ?_
    refine g_idiv (q := 16) X1.here hx (hb hby d5_15) (by decide) rfl ?_
    rw [show ((1 : Int32) / (2 : Int32)) = (0 : Int32) from by decide]
    refine g_istoreN (q := 17) (L' := #[.val (.ref t), .val (.int nd), .val (.int (2 : Int32)), .val (.int (0 : Int32)), .unset]) X1.here hx (hb hby d5_16) rfl rfl ?_
    refine g_aloadN (q := 18) X1.here hx (hb hby d5_17) rfl rfl rfl ?_
    refine g_getF (q := 21) X1 hx hZ hown (hw _ (List.mem_of_getElem? (i := 10) rfl)) e1 F0_ (hb hby d5_18) rfl ?_
    intro T3 X3 e3
    refine g_iloadN (q := 22) X3.here hx (hb hby d5_21) rfl rfl ?_
    refine g_iload_ (q := 23) (i := 0) (v := w0_) X3 hx hZ e3 A0_ rfl rfl (hb hby d5_22) rfl ?_
    refine g_istore (q := 25) (L' := #[.val (.ref t), .val (.int nd), .val (.int (2 : Int32)), .val (.int (0 : Int32)), .val (.int w0_)]) X3.here hx (hb hby d5_23) rfl rfl ?_
    refine g_aloadN (q := 26) X3.here hx (hb hby d5_25) rfl rfl rfl ?_
    refine g_iloadN (q := 27) X3.here hx (hb hby d5_26) rfl rfl ?_
    refine g_iload (q := 29) X3.here hx (hb hby d5_27) rfl rfl ?_
    refine g_private (q := 32) X3 hx hZ hown (hw _ (List.mem_of_getElem? (i := 47) rfl)) (hw _ (List.mem_of_getElem? (i := 48) rfl)) (hw _ (List.mem_of_getElem? (i := 49) rfl)) (hw _ (List.mem_of_getElem? (i := 1) rfl)) (hw _ (List.mem_of_getElem? (i := 2) rfl)) (hw _ (List.mem_of_getElem? (i := 50) rfl)) (by decide) (rm9 l Z a0 hw [] t nd w0_ h0 n0 Z0 ak ky F2_ A2_ hkl vnd_ vw0_) E_ (argsL := [.int nd, .int w0_]) (rest := []) pd_1 rfl rfl rfl (hb hby d5_29) rfl (by rw [hml]; rfl) e3 (by decide) (W := 0) rfl (by decide) (by decide) (by decide) ?_
    intro v4 T4 Lc4 X4 Q4
    obtain ⟨rfl, e4, rfl⟩ := Q4
    rw [List.append_nil] at X4
    refine g_ifB_ne (q := 38) (q0 := 35) X4.here hx (hb hby d5_32) (by decide) (by decide) rfl ?_ ?_
    · intro c5
      refine g_aloadN (q := 39) X4.here hx (hb hby d5_38) rfl rfl rfl ?_
      refine g_getF (q := 42) X4 hx hZ hown (hw _ (List.mem_of_getElem? (i := 10) rfl)) e4 F0_ (hb hby d5_39) rfl ?_
      intro T6 X6 e6
      refine g_iloadN (q := 43) X6.here hx (hb hby d5_42) rfl rfl ?_
      refine g_iload (q := 45) X6.here hx (hb hby d5_43) rfl rfl ?_
      refine g_istore_ (q := 46) (i := 2) (v := w0_) X6 hx hZ e6 A0_ rfl (by show 2 < 4; decide) (hb hby d5_45) rfl ?_
      intro T7 h7 X7 e7 W7 A7
      replace A7 : IA Z h7 ah ([w0_, w1_, w0_, w3_] : List Int32) := A7
      have K8 := Keep.wr (Keep.refl h0 [ah, ap]) W7 (Or.inl (by simp))
      have F9 := Exa.wr W7 E_
      have F10 := Fld.other W7 F0_ (Or.inl ne0_)
      have F11 := Fld.other W7 F1_ (Or.inl ne0_)
      have F12 := Fld.other W7 F2_ (Or.inl ne0_)
      have F14 := ArrL.other A1_ W7 (Ne.symm ne3_)
      have F15 := ArrL.other A2_ W7 (Ne.symm ne4_)
      have N16 := Fr.snoc X7 N0 gh_
      have Z17 : n0 ≤ h7.size := Nat.le_trans Z0 (Nat.le_of_eq W7.size.symm)
      refine g_aloadN (q := 47) X7.here hx (hb hby d5_46) rfl rfl rfl ?_
      refine g_getF (q := 50) X7 hx hZ hown (hw _ (List.mem_of_getElem? (i := 12) rfl)) e7 F11 (hb hby d5_47) rfl ?_
      intro T18 X18 e18
      refine g_iload (q := 52) X18.here hx (hb hby d5_50) rfl rfl ?_
      refine g_iloadN (q := 53) X18.here hx (hb hby d5_52) rfl rfl ?_
      refine g_istore_ (q := 54) (i := w0_.toInt.toNat) (v := (2 : Int32)) X18 hx hZ e18 F14 (own_tn vw0_.1) (by (try simp only [List.length_set]); exact own_lt4 vw0_ hpl) (hb hby d5_53) rfl ?_
      intro T19 h19 X19 e19 W19 A19
      have K20 := Keep.wr K8 W19 (Or.inl (by simp))
      have F21 := Exa.wr W19 F9
      have F22 := Fld.other W19 F10 (Or.inl ne1_)
      have F23 := Fld.other W19 F11 (Or.inl ne1_)
      have F24 := Fld.other W19 F12 (Or.inl ne1_)
      have F25 := ArrL.other A7 W19 ne3_
      have F27 := ArrL.other F15 W19 (Ne.symm ne5_)
      have N28 := Fr.snoc X19 N16 gp_
      have Z29 : n0 ≤ h19.size := Nat.le_trans Z17 (Nat.le_of_eq W19.size.symm)
      refine g_iloadN (q := 55) X19.here hx (hb hby d5_54) rfl rfl ?_
      refine g_istoreN (q := 56) (L' := #[.val (.ref t), .val (.int nd), .val (.int (0 : Int32)), .val (.int (0 : Int32)), .val (.int w0_)]) X19.here hx (hb hby d5_55) rfl rfl ?_
      refine g_goto (q := 7) X19.here hx (hb hby d5_56) (by decide) (by decide) ?_
      refine g_iloadN (q := 8) X19.here hx (hb hby d5_7) rfl rfl ?_
      refine g_if_le (q := 59) (q0 := 11) X19.here hx (hb hby d5_8) (by decide) (by decide) rfl ?_ ?_
      · intro c30
        refine g_aloadN (q := 60) X19.here hx (hb hby d5_59) rfl rfl rfl ?_
        refine g_getF (q := 63) X19 hx hZ hown (hw _ (List.mem_of_getElem? (i := 10) rfl)) e19 F22 (hb hby d5_60) rfl ?_
        intro T31 X31 e31
        refine g_iloadN (q := 64) X31.here hx (hb hby d5_63) rfl rfl ?_
        refine g_iloadN (q := 65) X31.here hx (hb hby d5_64) rfl rfl ?_
        refine g_istore_ (q := 66) (i := 0) (v := nd) X31 hx hZ e31 F25 rfl (by show 0 < 4; decide) (hb hby d5_65) rfl ?_
        intro T32 h32 X32 e32 W32 A32
        replace A32 : IA Z h32 ah ([nd, w1_, w0_, w3_] : List Int32) := A32
        have K33 := Keep.wr K20 W32 (Or.inl (by simp))
        have F34 := Exa.wr W32 F21
        have F35 := Fld.other W32 F22 (Or.inl ne0_)
        have F36 := Fld.other W32 F23 (Or.inl ne0_)
        have F37 := Fld.other W32 F24 (Or.inl ne0_)
        have F39 := ArrL.other A19 W32 (Ne.symm ne3_)
        have F40 := ArrL.other F27 W32 (Ne.symm ne4_)
        have N41 := Fr.snoc X32 N28 gh_
        have Z42 : n0 ≤ h32.size := Nat.le_trans Z29 (Nat.le_of_eq W32.size.symm)
        refine g_aloadN (q := 67) X32.here hx (hb hby d5_66) rfl rfl rfl ?_
        refine g_getF (q := 70) X32 hx hZ hown (hw _ (List.mem_of_getElem? (i := 12) rfl)) e32 F36 (hb hby d5_67) rfl ?_
        intro T43 X43 e43
        refine g_iloadN (q := 71) X43.here hx (hb hby d5_70) rfl rfl ?_
        refine g_iloadN (q := 72) X43.here hx (hb hby d5_71) rfl rfl ?_
        refine g_istore_ (q := 73) (i := iv) (v := (0 : Int32)) X43 hx hZ e43 F39 hv (by (try simp only [List.length_set]); rw [hpl]; exact hv4) (hb hby d5_72) rfl ?_
        intro T44 h44 X44 e44 W44 A44
        have K45 := Keep.wr K33 W44 (Or.inl (by simp))
        have F46 := Exa.wr W44 F34
        have F47 := Fld.other W44 F35 (Or.inl ne1_)
        have F48 := Fld.other W44 F36 (Or.inl ne1_)
        have F49 := Fld.other W44 F37 (Or.inl ne1_)
        have F50 := ArrL.other A32 W44 ne3_
        have F52 := ArrL.other F40 W44 (Ne.symm ne5_)
        have N53 := Fr.snoc X44 N41 gp_
        have Z54 : n0 ≤ h44.size := Nat.le_trans Z42 (Nat.le_of_eq W44.size.symm)
        exact g_ret X44 hx hlk hrt (hb hby d5_73) (by decide) (by decide) (by rw [e44]; exact ⟨rfl, N53, K45, [nd, w1_, w0_, w3_], ((pl.set w0_.toInt.toNat (2 : Int32)).set iv (0 : Int32)), F50, A44, (by simp only [List.length_set]; exact hpl), Or.inl ⟨(of_decide_eq_true c5), rfl⟩, (fun u g0_ gw0_ => by rw [own_sd g0_, own_sd gw0_])⟩)
      · intro c30; exact absurd c30 (by decide)
    · intro c5
      refine g_goto (q := 59) X4.here hx (hb hby d5_35) (by decide) (by decide) ?_
      refine g_aloadN (q := 60) X4.here hx (hb hby d5_59) rfl rfl rfl ?_
      refine g_getF (q := 63) X4 hx hZ hown (hw _ (List.mem_of_getElem? (i := 10) rfl)) e4 F0_ (hb hby d5_60) rfl ?_
      intro T55 X55 e55
      refine g_iloadN (q := 64) X55.here hx (hb hby d5_63) rfl rfl ?_
      refine g_iloadN (q := 65) X55.here hx (hb hby d5_64) rfl rfl ?_
      refine g_istore_ (q := 66) (i := 2) (v := nd) X55 hx hZ e55 A0_ rfl (by show 2 < 4; decide) (hb hby d5_65) rfl ?_
      intro T56 h56 X56 e56 W56 A56
      replace A56 : IA Z h56 ah ([w0_, w1_, nd, w3_] : List Int32) := A56
      have K57 := Keep.wr (Keep.refl h0 [ah, ap]) W56 (Or.inl (by simp))
      have F58 := Exa.wr W56 E_
      have F59 := Fld.other W56 F0_ (Or.inl ne0_)
      have F60 := Fld.other W56 F1_ (Or.inl ne0_)
      have F61 := Fld.other W56 F2_ (Or.inl ne0_)
      have F63 := ArrL.other A1_ W56 (Ne.symm ne3_)
      have F64 := ArrL.other A2_ W56 (Ne.symm ne4_)
      have N65 := Fr.snoc X56 N0 gh_
      have Z66 : n0 ≤ h56.size := Nat.le_trans Z0 (Nat.le_of_eq W56.size.symm)
      refine g_aloadN (q := 67) X56.here hx (hb hby d5_66) rfl rfl rfl ?_
      refine g_getF (q := 70) X56 hx hZ hown (hw _ (List.mem_of_getElem? (i := 12) rfl)) e56 F60 (hb hby d5_67) rfl ?_
      intro T67 X67 e67
      refine g_iloadN (q := 71) X67.here hx (hb hby d5_70) rfl rfl ?_
      refine g_iloadN (q := 72) X67.here hx (hb hby d5_71) rfl rfl ?_
      refine g_istore_ (q := 73) (i := iv) (v := (2 : Int32)) X67 hx hZ e67 F63 hv (by (try simp only [List.length_set]); rw [hpl]; exact hv4) (hb hby d5_72) rfl ?_
      intro T68 h68 X68 e68 W68 A68
      have K69 := Keep.wr K57 W68 (Or.inl (by simp))
      have F70 := Exa.wr W68 F58
      have F71 := Fld.other W68 F59 (Or.inl ne1_)
      have F72 := Fld.other W68 F60 (Or.inl ne1_)
      have F73 := Fld.other W68 F61 (Or.inl ne1_)
      have F74 := ArrL.other A56 W68 ne3_
      have F76 := ArrL.other F64 W68 (Ne.symm ne5_)
      have N77 := Fr.snoc X68 N65 gp_
      have Z78 : n0 ≤ h68.size := Nat.le_trans Z66 (Nat.le_of_eq W68.size.symm)
      exact g_ret X68 hx hlk hrt (hb hby d5_73) (by decide) (by decide) (by rw [e68]; exact ⟨rfl, N77, K69, [w0_, w1_, nd, w3_], (pl.set iv (2 : Int32)), F74, A68, (by simp only [List.length_set]; exact hpl), Or.inr ⟨(of_decide_eq_false c5), rfl⟩, (fun u g0_ gw0_ => by rw [own_sd g0_])⟩)
def RM_rm5_3 : Room := ({ frames := 1, cells := 0, slots := 0, locals := 14 } : Room)
set_option maxRecDepth 65536 in
set_option maxHeartbeats 40000000 in
theorem rm5_3 (l : Launch) (Z : State) (a0 : Array Value) (hw : ∀ d ∈ tables_1, d.before a0 Z = true) (ws : List Jvm.Cond) (t : Addr) (nd : Int32) (h0 : Heap) (n0 : Nat) (Z0 : n0 ≤ h0.size) (ah ap ak : Addr) (w0_ w1_ w2_ w3_ : Int32) (pl : List Int32) (ky : List Int64) (iv : Nat) (F0_ : Fld Z h0 t "com/example/hedged_dispatch/hedgeddispatch/stn/NodeQueue" "heap" "[I" (.ref ah)) (F1_ : Fld Z h0 t "com/example/hedged_dispatch/hedgeddispatch/stn/NodeQueue" "place" "[I" (.ref ap)) (F2_ : Fld Z h0 t "com/example/hedged_dispatch/hedgeddispatch/stn/NodeQueue" "key" "[J" (.ref ak)) (A0_ : IA Z h0 ah [w0_, w1_, w2_, w3_]) (A1_ : IA Z h0 ap pl) (A2_ : LA Z h0 ak ky) (E_ : Exa Z h0 t "com/example/hedged_dispatch/hedgeddispatch/stn/NodeQueue") (ne0_ : t ≠ ah) (ne1_ : t ≠ ap) (ne2_ : t ≠ ak) (ne3_ : ah ≠ ap) (ne4_ : ah ≠ ak) (ne5_ : ap ≠ ak) (gh_ : n0 ≤ ah) (gp_ : n0 ≤ ap) (hv : nd.toInt = (iv : Int)) (hv4 : iv < 4) (hkl : ky.length = 4) (hpl : pl.length = 4) (hpv : pl[iv]? = some (3 : Int32)) (vw1_ : 0 ≤ w1_.toInt ∧ w1_.toInt < 4) (vw0_ : 0 ≤ w0_.toInt ∧ w0_.toInt < 4) :
    Ctr l Z (⟨"com/example/hedged_dispatch/hedgeddispatch/stn/NodeQueue", "siftUp", "(I)V"⟩ : MethodName) prog_77_method_9_code 5 none RM_rm5_3 ws #[.ref t, .int nd] h0 (fun v h L => v = none ∧ Fr n0 L ∧ Keep h0 h [ah, ap] ∧ ∃ hp' pl' : List Int32, IA Z h ah hp' ∧ IA Z h ap pl' ∧ pl'.length = 4 ∧ UpR3 ky nd w0_ w1_ w2_ w3_ hp' ∧ (∀ u : Nat, u ≠ iv → u ≠ w1_.toInt.toNat → u ≠ w0_.toInt.toNat → pl'.getD u 0 = pl.getD u 0)) := by
  refine Ctr.of (plainFor_of_name pn_1) ?_
  intro p e s m below meth c s₁ hx hby hml hrt hlk hnm hown hZ X0 e0
  have N0 := Fr.nil n0
  refine Go.cast (ef_5 m t nd) ?_
  have vnd_ : 0 ≤ nd.toInt ∧ nd.toInt < 4 := (by omega)
  refine g_aloadN (q := 1) X0.here hx (hb hby d5_0) rfl rfl rfl ?_
  refine g_getF (q := 4) X0 hx hZ hown (hw _ (List.mem_of_getElem? (i := 12) rfl)) e0 F1_ (hb hby d5_1) rfl ?_
  intro T1 X1 e1
  refine g_iloadN (q := 5) X1.here hx (hb hby d5_4) rfl rfl ?_
  refine g_iload_ (q := 6) (i := iv) (v := (3 : Int32)) X1 hx hZ e1 A1_ hv hpv (hb hby d5_5) rfl ?_
  refine g_istoreN (q := 7) (L' := #[.val (.ref t), .val (.int nd), .val (.int (3 : Int32)), .unset, .unset]) X1.here hx (hb hby d5_6) rfl rfl ?_
  refine g_iloadN (q := 8) X1.here hx (hb hby d5_7) rfl rfl ?_
  refine g_if_le (q := 59) (q0 := 11) X1.here hx (hb hby d5_8) (by decide) (by decide) rfl ?_ ?_
  · intro c2; exact absurd c2 (by decide)
  · intro c2
    refine g_iloadN (q := 12) X1.here hx (hb hby d5_11) rfl rfl ?_
    refine g_iconst (q := 13) (v := (1 : Int32)) X1.here hx (hb hby d5_12) rfl rfl ?_
    refine g_isub (q := 14) X1.here hx (hb hby d5_13) rfl ?_
    rw [show ((3 : Int32) - (1 : Int32)) = (2 : Int32) from by decide]
    refine g_iconst (q := 15) (v := (2 : Int32)) X1.here hx (hb hby d5_14) rfl rfl ?_
    refine g_idiv (q := 16) X1.here hx (hb hby d5_15) (by decide) rfl ?_
    rw [show ((2 : Int32) / (2 : Int32)) = (1 : Int32) from by decide]
    refine g_istoreN (q := 17) (L' := #[.val (.ref t), .val (.int nd), .val (.int (3 : Int32)), .val (.int (1 : Int32)), .unset]) X1.here hx (hb hby d5_16) rfl rfl ?_
    refine g_aloadN (q := 18) X1.here hx (hb hby d5_17) rfl rfl rfl ?_
    refine g_getF (q := 21) X1 hx hZ hown (hw _ (List.mem_of_getElem? (i := 10) rfl)) e1 F0_ (hb hby d5_18) rfl ?_
    intro T3 X3 e3
    refine g_iloadN (q := 22) X3.here hx (hb hby d5_21) rfl rfl ?_
    refine g_iload_ (q := 23) (i := 1) (v := w1_) X3 hx hZ e3 A0_ rfl rfl (hb hby d5_22) rfl ?_
    refine g_istore (q := 25) (L' := #[.val (.ref t), .val (.int nd), .val (.int (3 : Int32)), .val (.int (1 : Int32)), .val (.int w1_)]) X3.here hx (hb hby d5_23) rfl rfl ?_
    refine g_aloadN (q := 26) X3.here hx (hb hby d5_25) rfl rfl rfl ?_
    refine g_iloadN (q := 27) X3.here hx (hb hby d5_26) rfl rfl ?_
    refine g_iload (q := 29) X3.here hx (hb hby d5_27) rfl rfl ?_
    refine g_private (q := 32) X3 hx hZ hown (hw _ (List.mem_of_getElem? (i := 47) rfl)) (hw _ (List.mem_of_getElem? (i := 48) rfl)) (hw _ (List.mem_of_getElem? (i := 49) rfl)) (hw _ (List.mem_of_getElem? (i := 1) rfl)) (hw _ (List.mem_of_getElem? (i := 2) rfl)) (hw _ (List.mem_of_getElem? (i := 50) rfl)) (by decide) (rm9 l Z a0 hw [] t nd w1_ h0 n0 Z0 ak ky F2_ A2_ hkl vnd_ vw1_) E_ (argsL := [.int nd, .int w1_]) (rest := []) pd_1 rfl rfl rfl (hb hby d5_29) rfl (by rw [hml]; rfl) e3 (by decide) (W := 0) rfl (by decide) (by decide) (by decide) ?_
    intro v4 T4 Lc4 X4 Q4
    obtain ⟨rfl, e4, rfl⟩ := Q4
    rw [List.append_nil] at X4
    refine g_ifB_ne (q := 38) (q0 := 35) X4.here hx (hb hby d5_32) (by decide) (by decide) rfl ?_ ?_
    · intro c5
      refine g_aloadN (q := 39) X4.here hx (hb hby d5_38) rfl rfl rfl ?_
      refine g_getF (q := 42) X4 hx hZ hown (hw _ (List.mem_of_getElem? (i := 10) rfl)) e4 F0_ (hb hby d5_39) rfl ?_
      intro T6 X6 e6
      refine g_iloadN (q := 43) X6.here hx (hb hby d5_42) rfl rfl ?_
      refine g_iload (q := 45) X6.here hx (hb hby d5_43) rfl rfl ?_
      refine g_istore_ (q := 46) (i := 3) (v := w1_) X6 hx hZ e6 A0_ rfl (by show 3 < 4; decide) (hb hby d5_45) rfl ?_
      intro T7 h7 X7 e7 W7 A7
      replace A7 : IA Z h7 ah ([w0_, w1_, w2_, w1_] : List Int32) := A7
      have K8 := Keep.wr (Keep.refl h0 [ah, ap]) W7 (Or.inl (by simp))
      have F9 := Exa.wr W7 E_
      have F10 := Fld.other W7 F0_ (Or.inl ne0_)
      have F11 := Fld.other W7 F1_ (Or.inl ne0_)
      have F12 := Fld.other W7 F2_ (Or.inl ne0_)
      have F14 := ArrL.other A1_ W7 (Ne.symm ne3_)
      have F15 := ArrL.other A2_ W7 (Ne.symm ne4_)
      have N16 := Fr.snoc X7 N0 gh_
      have Z17 : n0 ≤ h7.size := Nat.le_trans Z0 (Nat.le_of_eq W7.size.symm)
      refine g_aloadN (q := 47) X7.here hx (hb hby d5_46) rfl rfl rfl ?_
      refine g_getF (q := 50) X7 hx hZ hown (hw _ (List.mem_of_getElem? (i := 12) rfl)) e7 F11 (hb hby d5_47) rfl ?_
      intro T18 X18 e18
      refine g_iload (q := 52) X18.here hx (hb hby d5_50) rfl rfl ?_
      refine g_iloadN (q := 53) X18.here hx (hb hby d5_52) rfl rfl ?_
      refine g_istore_ (q := 54) (i := w1_.toInt.toNat) (v := (3 : Int32)) X18 hx hZ e18 F14 (own_tn vw1_.1) (by (try simp only [List.length_set]); exact own_lt4 vw1_ hpl) (hb hby d5_53) rfl ?_
      intro T19 h19 X19 e19 W19 A19
      have K20 := Keep.wr K8 W19 (Or.inl (by simp))
      have F21 := Exa.wr W19 F9
      have F22 := Fld.other W19 F10 (Or.inl ne1_)
      have F23 := Fld.other W19 F11 (Or.inl ne1_)
      have F24 := Fld.other W19 F12 (Or.inl ne1_)
      have F25 := ArrL.other A7 W19 ne3_
      have F27 := ArrL.other F15 W19 (Ne.symm ne5_)
      have N28 := Fr.snoc X19 N16 gp_
      have Z29 : n0 ≤ h19.size := Nat.le_trans Z17 (Nat.le_of_eq W19.size.symm)
      refine g_iloadN (q := 55) X19.here hx (hb hby d5_54) rfl rfl ?_
      refine g_istoreN (q := 56) (L' := #[.val (.ref t), .val (.int nd), .val (.int (1 : Int32)), .val (.int (1 : Int32)), .val (.int w1_)]) X19.here hx (hb hby d5_55) rfl rfl ?_
      refine g_goto (q := 7) X19.here hx (hb hby d5_56) (by decide) (by decide) ?_
      refine g_iloadN (q := 8) X19.here hx (hb hby d5_7) rfl rfl ?_
      refine g_if_le (q := 59) (q0 := 11) X19.here hx (hb hby d5_8) (by decide) (by decide) rfl ?_ ?_
      · intro c30; exact absurd c30 (by decide)
      · intro c30
        refine g_iloadN (q := 12) X19.here hx (hb hby d5_11) rfl rfl ?_
        refine g_iconst (q := 13) (v := (1 : Int32)) X19.here hx (hb hby d5_12) rfl rfl ?_
        refine g_isub (q := 14) X19.here hx (hb hby d5_13) rfl ?_
        rw [show ((1 : Int32) - (1 : Int32)) = (0 : Int32) from by decide]
        refine g_iconst (q := 15) (v := (2 : Int32)) X19.here hx (hb hby d5_14) rfl rfl ?_
        refine g_idiv (q := 16) X19.here hx (hb hby d5_15) (by decide) rfl ?_
        rw [show ((0 : Int32) / (2 : Int32)) = (0 : Int32) from by decide]
        refine g_istoreN (q := 17) (L' := #[.val (.ref t), .val (.int nd), .val (.int (1 : Int32)), .val (.int (0 : Int32)), .val (.int w1_)]) X19.here hx (hb hby d5_16) rfl rfl ?_
        refine g_aloadN (q := 18) X19.here hx (hb hby d5_17) rfl rfl rfl ?_
        refine g_getF (q := 21) X19 hx hZ hown (hw _ (List.mem_of_getElem? (i := 10) rfl)) e19 F22 (hb hby d5_18) rfl ?_
        intro T31 X31 e31
        refine g_iloadN (q := 22) X31.here hx (hb hby d5_21) rfl rfl ?_
        refine g_iload_ (q := 23) (i := 0) (v := w0_) X31 hx hZ e31 F25 rfl rfl (hb hby d5_22) rfl ?_
        refine g_istore (q := 25) (L' := #[.val (.ref t), .val (.int nd), .val (.int (1 : Int32)), .val (.int (0 : Int32)), .val (.int w0_)]) X31.here hx (hb hby d5_23) rfl rfl ?_
        refine g_aloadN (q := 26) X31.here hx (hb hby d5_25) rfl rfl rfl ?_
        refine g_iloadN (q := 27) X31.here hx (hb hby d5_26) rfl rfl ?_
        refine g_iload (q := 29) X31.here hx (hb hby d5_27) rfl rfl ?_
        refine g_private (q := 32) X31 hx hZ hown (hw _ (List.mem_of_getElem? (i := 47) rfl)) (hw _ (List.mem_of_getElem? (i := 48) rfl)) (hw _ (List.mem_of_getElem? (i := 49) rfl)) (hw _ (List.mem_of_getElem? (i := 1) rfl)) (hw _ (List.mem_of_getElem? (i := 2) rfl)) (hw _ (List.mem_of_getElem? (i := 50) rfl)) (by decide) (rm9 l Z a0 hw [] t nd w0_ h19 n0 Z29 ak ky F24 F27 hkl vnd_ vw0_) F21 (argsL := [.int nd, .int w0_]) (rest := []) pd_1 rfl rfl rfl (hb hby d5_29) rfl (by rw [hml]; rfl) e31 (by decide) (W := 0) rfl (by decide) (by decide) (by decide) ?_
        intro v32 T32 Lc32 X32 Q32
        obtain ⟨rfl, e32, rfl⟩ := Q32
        rw [List.append_nil] at X32
        refine g_ifB_ne (q := 38) (q0 := 35) X32.here hx (hb hby d5_32) (by decide) (by decide) rfl ?_ ?_
        · intro c33
          refine g_aloadN (q := 39) X32.here hx (hb hby d5_38) rfl rfl rfl ?_
          refine g_getF (q := 42) X32 hx hZ hown (hw _ (List.mem_of_getElem? (i := 10) rfl)) e32 F22 (hb hby d5_39) rfl ?_
          intro T34 X34 e34
          refine g_iloadN (q := 43) X34.here hx (hb hby d5_42) rfl rfl ?_
          refine g_iload (q := 45) X34.here hx (hb hby d5_43) rfl rfl ?_
          refine g_istore_ (q := 46) (i := 1) (v := w0_) X34 hx hZ e34 F25 rfl (by show 1 < 4; decide) (hb hby d5_45) rfl ?_
          intro T35 h35 X35 e35 W35 A35
          replace A35 : IA Z h35 ah ([w0_, w0_, w2_, w1_] : List Int32) := A35
          have K36 := Keep.wr K20 W35 (Or.inl (by simp))
          have F37 := Exa.wr W35 F21
          have F38 := Fld.other W35 F22 (Or.inl ne0_)
          have F39 := Fld.other W35 F23 (Or.inl ne0_)
          have F40 := Fld.other W35 F24 (Or.inl ne0_)
          have F42 := ArrL.other A19 W35 (Ne.symm ne3_)
          have F43 := ArrL.other F27 W35 (Ne.symm ne4_)
          have N44 := Fr.snoc X35 N28 gh_
          have Z45 : n0 ≤ h35.size := Nat.le_trans Z29 (Nat.le_of_eq W35.size.symm)
          refine g_aloadN (q := 47) X35.here hx (hb hby d5_46) rfl rfl rfl ?_
          refine g_getF (q := 50) X35 hx hZ hown (hw _ (List.mem_of_getElem? (i := 12) rfl)) e35 F39 (hb hby d5_47) rfl ?_
          intro T46 X46 e46
          refine g_iload (q := 52) X46.here hx (hb hby d5_50) rfl rfl ?_
          refine g_iloadN (q := 53) X46.here hx (hb hby d5_52) rfl rfl ?_
          refine g_istore_ (q := 54) (i := w0_.toInt.toNat) (v := (1 : Int32)) X46 hx hZ e46 F42 (own_tn vw0_.1) (by (try simp only [List.length_set]); exact own_lt4 vw0_ hpl) (hb hby d5_53) rfl ?_
          intro T47 h47 X47 e47 W47 A47
          have K48 := Keep.wr K36 W47 (Or.inl (by simp))
          have F49 := Exa.wr W47 F37
          have F50 := Fld.other W47 F38 (Or.inl ne1_)
          have F51 := Fld.other W47 F39 (Or.inl ne1_)
          have F52 := Fld.other W47 F40 (Or.inl ne1_)
          have F53 := ArrL.other A35 W47 ne3_
          have F55 := ArrL.other F43 W47 (Ne.symm ne5_)
          have N56 := Fr.snoc X47 N44 gp_
          have Z57 : n0 ≤ h47.size := Nat.le_trans Z45 (Nat.le_of_eq W47.size.symm)
          refine g_iloadN (q := 55) X47.here hx (hb hby d5_54) rfl rfl ?_
          refine g_istoreN (q := 56) (L' := #[.val (.ref t), .val (.int nd), .val (.int (0 : Int32)), .val (.int (0 : Int32)), .val (.int w0_)]) X47.here hx (hb hby d5_55) rfl rfl ?_
          refine g_goto (q := 7) X47.here hx (hb hby d5_56) (by decide) (by decide) ?_
          refine g_iloadN (q := 8) X47.here hx (hb hby d5_7) rfl rfl ?_
          refine g_if_le (q := 59) (q0 := 11) X47.here hx (hb hby d5_8) (by decide) (by decide) rfl ?_ ?_
          · intro c58
            refine g_aloadN (q := 60) X47.here hx (hb hby d5_59) rfl rfl rfl ?_
            refine g_getF (q := 63) X47 hx hZ hown (hw _ (List.mem_of_getElem? (i := 10) rfl)) e47 F50 (hb hby d5_60) rfl ?_
            intro T59 X59 e59
            refine g_iloadN (q := 64) X59.here hx (hb hby d5_63) rfl rfl ?_
            refine g_iloadN (q := 65) X59.here hx (hb hby d5_64) rfl rfl ?_
            refine g_istore_ (q := 66) (i := 0) (v := nd) X59 hx hZ e59 F53 rfl (by show 0 < 4; decide) (hb hby d5_65) rfl ?_
            intro T60 h60 X60 e60 W60 A60
            replace A60 : IA Z h60 ah ([nd, w0_, w2_, w1_] : List Int32) := A60
            have K61 := Keep.wr K48 W60 (Or.inl (by simp))
            have F62 := Exa.wr W60 F49
            have F63 := Fld.other W60 F50 (Or.inl ne0_)
            have F64 := Fld.other W60 F51 (Or.inl ne0_)
            have F65 := Fld.other W60 F52 (Or.inl ne0_)
            have F67 := ArrL.other A47 W60 (Ne.symm ne3_)
            have F68 := ArrL.other F55 W60 (Ne.symm ne4_)
            have N69 := Fr.snoc X60 N56 gh_
            have Z70 : n0 ≤ h60.size := Nat.le_trans Z57 (Nat.le_of_eq W60.size.symm)
            refine g_aloadN (q := 67) X60.here hx (hb hby d5_66) rfl rfl rfl ?_
            refine g_getF (q := 70) X60 hx hZ hown (hw _ (List.mem_of_getElem? (i := 12) rfl)) e60 F64 (hb hby d5_67) rfl ?_
            intro T71 X71 e71
            refine g_iloadN (q := 71) X71.here hx (hb hby d5_70) rfl rfl ?_
            refine g_iloadN (q := 72) X71.here hx (hb hby d5_71) rfl rfl ?_
            refine g_istore_ (q := 73) (i := iv) (v := (0 : Int32)) X71 hx hZ e71 F67 hv (by (try simp only [List.length_set]); rw [hpl]; exact hv4) (hb hby d5_72) rfl ?_
            intro T72 h72 X72 e72 W72 A72
            have K73 := Keep.wr K61 W72 (Or.inl (by simp))
            have F74 := Exa.wr W72 F62
            have F75 := Fld.other W72 F63 (Or.inl ne1_)
            have F76 := Fld.other W72 F64 (Or.inl ne1_)
            have F77 := Fld.other W72 F65 (Or.inl ne1_)
            have F78 := ArrL.other A60 W72 ne3_
            have F80 := ArrL.other F68 W72 (Ne.symm ne5_)
            have N81 := Fr.snoc X72 N69 gp_
            have Z82 : n0 ≤ h72.size := Nat.le_trans Z70 (Nat.le_of_eq W72.size.symm)
            exact g_ret X72 hx hlk hrt (hb hby d5_73) (by decide) (by decide) (by rw [e72]; exact ⟨rfl, N81, K73, [nd, w0_, w2_, w1_], (((pl.set w1_.toInt.toNat (3 : Int32)).set w0_.toInt.toNat (1 : Int32)).set iv (0 : Int32)), F78, A72, (by simp only [List.length_set]; exact hpl), Or.inl ⟨(of_decide_eq_true c5), (of_decide_eq_true c33), rfl⟩, (fun u g0_ gw1_ gw0_ => by rw [own_sd g0_, own_sd gw0_, own_sd gw1_])⟩)
          · intro c58; exact absurd c58 (by decide)
        · intro c33
          refine g_goto (q := 59) X32.here hx (hb hby d5_35) (by decide) (by decide) ?_
          refine g_aloadN (q := 60) X32.here hx (hb hby d5_59) rfl rfl rfl ?_
          refine g_getF (q := 63) X32 hx hZ hown (hw _ (List.mem_of_getElem? (i := 10) rfl)) e32 F22 (hb hby d5_60) rfl ?_
          intro T83 X83 e83
          refine g_iloadN (q := 64) X83.here hx (hb hby d5_63) rfl rfl ?_
          refine g_iloadN (q := 65) X83.here hx (hb hby d5_64) rfl rfl ?_
          refine g_istore_ (q := 66) (i := 1) (v := nd) X83 hx hZ e83 F25 rfl (by show 1 < 4; decide) (hb hby d5_65) rfl ?_
          intro T84 h84 X84 e84 W84 A84
          replace A84 : IA Z h84 ah ([w0_, nd, w2_, w1_] : List Int32) := A84
          have K85 := Keep.wr K20 W84 (Or.inl (by simp))
          have F86 := Exa.wr W84 F21
          have F87 := Fld.other W84 F22 (Or.inl ne0_)
          have F88 := Fld.other W84 F23 (Or.inl ne0_)
          have F89 := Fld.other W84 F24 (Or.inl ne0_)
          have F91 := ArrL.other A19 W84 (Ne.symm ne3_)
          have F92 := ArrL.other F27 W84 (Ne.symm ne4_)
          have N93 := Fr.snoc X84 N28 gh_
          have Z94 : n0 ≤ h84.size := Nat.le_trans Z29 (Nat.le_of_eq W84.size.symm)
          refine g_aloadN (q := 67) X84.here hx (hb hby d5_66) rfl rfl rfl ?_
          refine g_getF (q := 70) X84 hx hZ hown (hw _ (List.mem_of_getElem? (i := 12) rfl)) e84 F88 (hb hby d5_67) rfl ?_
          intro T95 X95 e95
          refine g_iloadN (q := 71) X95.here hx (hb hby d5_70) rfl rfl ?_
          refine g_iloadN (q := 72) X95.here hx (hb hby d5_71) rfl rfl ?_
          refine g_istore_ (q := 73) (i := iv) (v := (1 : Int32)) X95 hx hZ e95 F91 hv (by (try simp only [List.length_set]); rw [hpl]; exact hv4) (hb hby d5_72) rfl ?_
          intro T96 h96 X96 e96 W96 A96
          have K97 := Keep.wr K85 W96 (Or.inl (by simp))
          have F98 := Exa.wr W96 F86
          have F99 := Fld.other W96 F87 (Or.inl ne1_)
          have F100 := Fld.other W96 F88 (Or.inl ne1_)
          have F101 := Fld.other W96 F89 (Or.inl ne1_)
          have F102 := ArrL.other A84 W96 ne3_
          have F104 := ArrL.other F92 W96 (Ne.symm ne5_)
          have N105 := Fr.snoc X96 N93 gp_
          have Z106 : n0 ≤ h96.size := Nat.le_trans Z94 (Nat.le_of_eq W96.size.symm)
          exact g_ret X96 hx hlk hrt (hb hby d5_73) (by decide) (by decide) (by rw [e96]; exact ⟨rfl, N105, K97, [w0_, nd, w2_, w1_], ((pl.set w1_.toInt.toNat (3 : Int32)).set iv (1 : Int32)), F102, A96, (by simp only [List.length_set]; exact hpl), Or.inr (Or.inl ⟨(of_decide_eq_true c5), (of_decide_eq_false c33), rfl⟩), (fun u g0_ gw1_ gw0_ => by rw [own_sd g0_, own_sd gw1_])⟩)
    · intro c5
      refine g_goto (q := 59) X4.here hx (hb hby d5_35) (by decide) (by decide) ?_
      refine g_aloadN (q := 60) X4.here hx (hb hby d5_59) rfl rfl rfl ?_
      refine g_getF (q := 63) X4 hx hZ hown (hw _ (List.mem_of_getElem? (i := 10) rfl)) e4 F0_ (hb hby d5_60) rfl ?_
      intro T107 X107 e107
      refine g_iloadN (q := 64) X107.here hx (hb hby d5_63) rfl rfl ?_
      refine g_iloadN (q := 65) X107.here hx (hb hby d5_64) rfl rfl ?_
      refine g_istore_ (q := 66) (i := 3) (v := nd) X107 hx hZ e107 A0_ rfl (by show 3 < 4; decide) (hb hby d5_65) rfl ?_
      intro T108 h108 X108 e108 W108 A108
      replace A108 : IA Z h108 ah ([w0_, w1_, w2_, nd] : List Int32) := A108
      have K109 := Keep.wr (Keep.refl h0 [ah, ap]) W108 (Or.inl (by simp))
      have F110 := Exa.wr W108 E_
      have F111 := Fld.other W108 F0_ (Or.inl ne0_)
      have F112 := Fld.other W108 F1_ (Or.inl ne0_)
      have F113 := Fld.other W108 F2_ (Or.inl ne0_)
      have F115 := ArrL.other A1_ W108 (Ne.symm ne3_)
      have F116 := ArrL.other A2_ W108 (Ne.symm ne4_)
      have N117 := Fr.snoc X108 N0 gh_
      have Z118 : n0 ≤ h108.size := Nat.le_trans Z0 (Nat.le_of_eq W108.size.symm)
      refine g_aloadN (q := 67) X108.here hx (hb hby d5_66) rfl rfl rfl ?_
      refine g_getF (q := 70) X108 hx hZ hown (hw _ (List.mem_of_getElem? (i := 12) rfl)) e108 F112 (hb hby d5_67) rfl ?_
      intro T119 X119 e119
      refine g_iloadN (q := 71) X119.here hx (hb hby d5_70) rfl rfl ?_
      refine g_iloadN (q := 72) X119.here hx (hb hby d5_71) rfl rfl ?_
      refine g_istore_ (q := 73) (i := iv) (v := (3 : Int32)) X119 hx hZ e119 F115 hv (by (try simp only [List.length_set]); rw [hpl]; exact hv4) (hb hby d5_72) rfl ?_
      intro T120 h120 X120 e120 W120 A120
      have K121 := Keep.wr K109 W120 (Or.inl (by simp))
      have F122 := Exa.wr W120 F110
      have F123 := Fld.other W120 F111 (Or.inl ne1_)
      have F124 := Fld.other W120 F112 (Or.inl ne1_)
      have F125 := Fld.other W120 F113 (Or.inl ne1_)
      have F126 := ArrL.other A108 W120 ne3_
      have F128 := ArrL.other F116 W120 (Ne.symm ne5_)
      have N129 := Fr.snoc X120 N117 gp_
      have Z130 : n0 ≤ h120.size := Nat.le_trans Z118 (Nat.le_of_eq W120.size.symm)
      exact g_ret X120 hx hlk hrt (hb hby d5_73) (by decide) (by decide) (by rw [e120]; exact ⟨rfl, N129, K121, [w0_, w1_, w2_, nd], (pl.set iv (3 : Int32)), F126, A120, (by simp only [List.length_set]; exact hpl), Or.inr (Or.inr ⟨(of_decide_eq_false c5), rfl⟩), (fun u g0_ gw1_ gw0_ => by rw [own_sd g0_])⟩)
theorem pd_2 : parseMethodDescriptor "(I)V" = some ⟨[.int], none⟩ := by decide +kernel
def RM_rm4 : Room := ({ frames := 2, cells := 0, slots := 0, locals := 30 } : Room)
theorem d4_0 : decode prog_77_method_4_code 0 = .ok (.aload_n 0, 1) := by decide +kernel
theorem d4_1 : decode prog_77_method_4_code 1 = .ok (.getfield 13, 3) := by decide +kernel
theorem d4_4 : decode prog_77_method_4_code 4 = .ok (.iload_n 1, 1) := by decide +kernel
theorem d4_5 : decode prog_77_method_4_code 5 = .ok (.iaload, 1) := by decide +kernel
theorem d4_6 : decode prog_77_method_4_code 6 = .ok (.iconst (-1), 1) := by decide +kernel
theorem d4_7 : decode prog_77_method_4_code 7 = .ok (.if_icmp .ne 45, 3) := by decide +kernel
theorem d4_10 : decode prog_77_method_4_code 10 = .ok (.aload_n 0, 1) := by decide +kernel
theorem d4_11 : decode prog_77_method_4_code 11 = .ok (.getfield 13, 3) := by decide +kernel
theorem d4_14 : decode prog_77_method_4_code 14 = .ok (.iload_n 1, 1) := by decide +kernel
theorem d4_15 : decode prog_77_method_4_code 15 = .ok (.aload_n 0, 1) := by decide +kernel
theorem d4_16 : decode prog_77_method_4_code 16 = .ok (.getfield 26, 3) := by decide +kernel
theorem d4_19 : decode prog_77_method_4_code 19 = .ok (.iastore, 1) := by decide +kernel
theorem d4_20 : decode prog_77_method_4_code 20 = .ok (.aload_n 0, 1) := by decide +kernel
theorem d4_21 : decode prog_77_method_4_code 21 = .ok (.getfield 7, 3) := by decide +kernel
theorem d4_24 : decode prog_77_method_4_code 24 = .ok (.aload_n 0, 1) := by decide +kernel
theorem d4_25 : decode prog_77_method_4_code 25 = .ok (.dup, 1) := by decide +kernel
theorem d4_26 : decode prog_77_method_4_code 26 = .ok (.getfield 26, 3) := by decide +kernel
theorem d4_29 : decode prog_77_method_4_code 29 = .ok (.dup_x1, 1) := by decide +kernel
theorem d4_30 : decode prog_77_method_4_code 30 = .ok (.iconst 1, 1) := by decide +kernel
theorem d4_31 : decode prog_77_method_4_code 31 = .ok (.iadd, 1) := by decide +kernel
theorem d4_32 : decode prog_77_method_4_code 32 = .ok (.putfield 26, 3) := by decide +kernel
theorem d4_35 : decode prog_77_method_4_code 35 = .ok (.iload_n 1, 1) := by decide +kernel
theorem d4_36 : decode prog_77_method_4_code 36 = .ok (.iastore, 1) := by decide +kernel
theorem d4_37 : decode prog_77_method_4_code 37 = .ok (.aload_n 0, 1) := by decide +kernel
theorem d4_38 : decode prog_77_method_4_code 38 = .ok (.getfield 16, 3) := by decide +kernel
theorem d4_41 : decode prog_77_method_4_code 41 = .ok (.iload_n 1, 1) := by decide +kernel
theorem d4_42 : decode prog_77_method_4_code 42 = .ok (.lload_n 2, 1) := by decide +kernel
theorem d4_43 : decode prog_77_method_4_code 43 = .ok (.lastore, 1) := by decide +kernel
theorem d4_44 : decode prog_77_method_4_code 44 = .ok (.aload_n 0, 1) := by decide +kernel
theorem d4_45 : decode prog_77_method_4_code 45 = .ok (.iload_n 1, 1) := by decide +kernel
theorem d4_46 : decode prog_77_method_4_code 46 = .ok (.invokevirtual 30, 3) := by decide +kernel
theorem d4_49 : decode prog_77_method_4_code 49 = .ok (.goto 41, 3) := by decide +kernel
theorem d4_90 : decode prog_77_method_4_code 90 = .ok (.return_, 1) := by decide +kernel
theorem ef_4 (m : MethodId) (z0 : Addr) (z1 : Int32) (z2 : Int64) : entryFrame m #[.ref z0, .int z1, .long z2] 4 = mkF m 0 #[.val (.ref z0), .val (.int z1), .val (.long z2), .second] [] := by first | (simp [entryFrame, mkF, argsToLocals, Value.category]; done) | rfl
set_option maxRecDepth 65536 in
set_option maxHeartbeats 40000000 in
theorem rm4 (l : Launch) (Z : State) (a0 : Array Value) (hw : ∀ d ∈ tables_1, d.before a0 Z = true) (ws : List Jvm.Cond) (t : Addr) (nd : Int32) (kv : Int64) (h0 : Heap) (n0 : Nat) (Z0 : n0 ≤ h0.size) (ah ap ak : Addr) (hp pl : List Int32) (ky : List Int64) (cn : Int32) (M : List Int32) (KS : List Int64) (iv : Nat) (F0_ : Fld Z h0 t "com/example/hedged_dispatch/hedgeddispatch/stn/NodeQueue" "heap" "[I" (.ref ah)) (F1_ : Fld Z h0 t "com/example/hedged_dispatch/hedgeddispatch/stn/NodeQueue" "place" "[I" (.ref ap)) (F2_ : Fld Z h0 t "com/example/hedged_dispatch/hedgeddispatch/stn/NodeQueue" "key" "[J" (.ref ak)) (F3_ : Fld Z h0 t "com/example/hedged_dispatch/hedgeddispatch/stn/NodeQueue" "count" "I" (.int cn)) (A0_ : IA Z h0 ah hp) (A1_ : IA Z h0 ap pl) (A2_ : LA Z h0 ak ky) (E_ : Exa Z h0 t "com/example/hedged_dispatch/hedgeddispatch/stn/NodeQueue") (ne0_ : t ≠ ah) (ne1_ : t ≠ ap) (ne2_ : t ≠ ak) (ne3_ : ah ≠ ap) (ne4_ : ah ≠ ak) (ne5_ : ap ≠ ak) (gt_ : n0 ≤ t) (gh_ : n0 ≤ ah) (gp_ : n0 ≤ ap) (gk_ : n0 ≤ ak) (hv : nd.toInt = (iv : Int)) (hv4 : iv < 4) (I_ : QInv hp pl ky cn M KS) (hn : nd ∉ M) (hkv : kv.toInt = QK KS nd) (hM3 : M.length ≤ 3) :
    Ctr l Z (⟨"com/example/hedged_dispatch/hedgeddispatch/stn/NodeQueue", "put", "(IJ)V"⟩ : MethodName) prog_77_method_4_code 4 none RM_rm4 ws #[.ref t, .int nd, .long kv] h0 (fun v h L => v = none ∧ Fr n0 L ∧ Keep h0 h [t, ah, ap, ak] ∧ ∃ (hp' pl' : List Int32) (ky' : List Int64) (cn' : Int32), Fld Z h t "com/example/hedged_dispatch/hedgeddispatch/stn/NodeQueue" "heap" "[I" (.ref ah) ∧ Fld Z h t "com/example/hedged_dispatch/hedgeddispatch/stn/NodeQueue" "place" "[I" (.ref ap) ∧ Fld Z h t "com/example/hedged_dispatch/hedgeddispatch/stn/NodeQueue" "key" "[J" (.ref ak) ∧ Fld Z h t "com/example/hedged_dispatch/hedgeddispatch/stn/NodeQueue" "count" "I" (.int cn') ∧ IA Z h ah hp' ∧ IA Z h ap pl' ∧ LA Z h ak ky' ∧ QInv hp' pl' ky' cn' (nd :: M) KS) := by
  refine Ctr.of (plainFor_of_name pn_1) ?_
  intro p e s m below meth c s₁ hx hby hml hrt hlk hnm hown hZ X0 e0
  have N0 := Fr.nil n0
  refine Go.cast (ef_4 m t nd kv) ?_
  obtain ⟨w0_, w1_, w2_, w3_, rfl⟩ := own_l4 I_.1
  have hpl := I_.2.1
  have hkl := I_.2.2.1
  have habs := own_abs I_ hv hv4 hn
  rcases own_c3 I_ hM3 with ⟨rfl, hM⟩ | ⟨rfl, hM⟩ | ⟨rfl, hM⟩ | ⟨rfl, hM⟩
  · skip
    refine g_aloadN (q := 1) X0.here hx (hb hby d4_0) rfl rfl rfl ?_
    refine g_getF (q := 4) X0 hx hZ hown (hw _ (List.mem_of_getElem? (i := 12) rfl)) e0 F1_ (hb hby d4_1) rfl ?_
    intro T1 X1 e1
    refine g_iloadN (q := 5) X1.here hx (hb hby d4_4) rfl rfl ?_
    refine g_iload_ (q := 6) (i := iv) (v := (-1 : Int32)) X1 hx hZ e1 A1_ hv habs (hb hby d4_5) rfl ?_
    refine g_iconst (q := 7) (v := (-1 : Int32)) X1.here hx (hb hby d4_6) rfl rfl ?_
    refine g_icmp_ne (q := 52) (q0 := 10) X1.here hx (hb hby d4_7) (by decide) (by decide) rfl ?_ ?_
    · intro c2; exact absurd c2 (by decide)
    · intro c2
      refine g_aloadN (q := 11) X1.here hx (hb hby d4_10) rfl rfl rfl ?_
      refine g_getF (q := 14) X1 hx hZ hown (hw _ (List.mem_of_getElem? (i := 12) rfl)) e1 F1_ (hb hby d4_11) rfl ?_
      intro T3 X3 e3
      refine g_iloadN (q := 15) X3.here hx (hb hby d4_14) rfl rfl ?_
      refine g_aloadN (q := 16) X3.here hx (hb hby d4_15) rfl rfl rfl ?_
      refine g_getF (q := 19) X3 hx hZ hown (hw _ (List.mem_of_getElem? (i := 26) rfl)) e3 F3_ (hb hby d4_16) rfl ?_
      intro T4 X4 e4
      refine g_istore_ (q := 20) (i := iv) (v := (0 : Int32)) X4 hx hZ e4 A1_ hv (by rw [hpl]; exact hv4) (hb hby d4_19) rfl ?_
      intro T5 h5 X5 e5 W5 A5
      have K6 := Keep.wr (Keep.refl h0 [t, ah, ap, ak]) W5 (Or.inl (by simp))
      have F7 := Exa.wr W5 E_
      have F8 := Fld.other W5 F0_ (Or.inl ne1_)
      have F9 := Fld.other W5 F1_ (Or.inl ne1_)
      have F10 := Fld.other W5 F2_ (Or.inl ne1_)
      have F11 := ArrL.other A0_ W5 ne3_
      have F13 := ArrL.other A2_ W5 (Ne.symm ne5_)
      have F14 := Fld.other W5 F3_ (Or.inl ne1_)
      have N15 := Fr.snoc X5 N0 gp_
      have Z16 : n0 ≤ h5.size := Nat.le_trans Z0 (Nat.le_of_eq W5.size.symm)
      refine g_aloadN (q := 21) X5.here hx (hb hby d4_20) rfl rfl rfl ?_
      refine g_getF (q := 24) X5 hx hZ hown (hw _ (List.mem_of_getElem? (i := 10) rfl)) e5 F8 (hb hby d4_21) rfl ?_
      intro T17 X17 e17
      refine g_aloadN (q := 25) X17.here hx (hb hby d4_24) rfl rfl rfl ?_
      refine g_dup (q := 26) X17.here hx (hb hby d4_25) rfl rfl ?_
      refine g_getF (q := 29) X17 hx hZ hown (hw _ (List.mem_of_getElem? (i := 26) rfl)) e17 F14 (hb hby d4_26) rfl ?_
      intro T18 X18 e18
      refine g_dupX1 (q := 30) X18.here hx (hb hby d4_29) rfl rfl rfl ?_
      refine g_iconst (q := 31) (v := (1 : Int32)) X18.here hx (hb hby d4_30) rfl rfl ?_
      refine g_iadd (q := 32) X18.here hx (hb hby d4_31) rfl ?_
      rw [show ((0 : Int32) + (1 : Int32)) = (1 : Int32) from by decide]
      refine g_putF (q := 35) (ty := .int) X18 hx hZ hown (hw _ (List.mem_of_getElem? (i := 26) rfl)) e18 F14 F7 (Or.inl (hw _ (List.mem_of_getElem? (i := 27) rfl))) (hw _ (List.mem_of_getElem? (i := 1) rfl)) (by decide) rfl rfl (hb hby d4_32) rfl ?_
      intro T19 h19 X19 e19 W19 F19
      have K20 := Keep.wr K6 W19 (Or.inl (by simp))
      have F21 := Exa.wr W19 F7
      have F22 := Fld.other W19 F8 (Or.inr (slot_ne (a0 := a0) (Or.inr (hw _ (List.mem_of_getElem? (i := 11) rfl))) (Or.inl (hw _ (List.mem_of_getElem? (i := 27) rfl))) (by decide) (t := (.array .int)) (t' := .int) (by decide) (by decide)))
      have F23 := Fld.other W19 F9 (Or.inr (slot_ne (a0 := a0) (Or.inr (hw _ (List.mem_of_getElem? (i := 13) rfl))) (Or.inl (hw _ (List.mem_of_getElem? (i := 27) rfl))) (by decide) (t := (.array .int)) (t' := .int) (by decide) (by decide)))
      have F24 := Fld.other W19 F10 (Or.inr (slot_ne (a0 := a0) (Or.inr (hw _ (List.mem_of_getElem? (i := 16) rfl))) (Or.inl (hw _ (List.mem_of_getElem? (i := 27) rfl))) (by decide) (t := (.array .long)) (t' := .int) (by decide) (by decide)))
      have F25 := ArrL.other F11 W19 (Ne.symm ne0_)
      have F26 := ArrL.other A5 W19 (Ne.symm ne1_)
      have F27 := ArrL.other F13 W19 (Ne.symm ne2_)
      have N29 := Fr.snoc X19 N15 gt_
      have Z30 : n0 ≤ h19.size := Nat.le_trans Z16 (Nat.le_of_eq W19.size.symm)
      refine g_iloadN (q := 36) X19.here hx (hb hby d4_35) rfl rfl ?_
      refine g_istore_ (q := 37) (i := 0) (v := nd) X19 hx hZ e19 F25 rfl (by show 0 < 4; decide) (hb hby d4_36) rfl ?_
      intro T31 h31 X31 e31 W31 A31
      replace A31 : IA Z h31 ah ([nd, w1_, w2_, w3_] : List Int32) := A31
      have K32 := Keep.wr K20 W31 (Or.inl (by simp))
      have F33 := Exa.wr W31 F21
      have F34 := Fld.other W31 F22 (Or.inl ne0_)
      have F35 := Fld.other W31 F23 (Or.inl ne0_)
      have F36 := Fld.other W31 F24 (Or.inl ne0_)
      have F38 := ArrL.other F26 W31 (Ne.symm ne3_)
      have F39 := ArrL.other F27 W31 (Ne.symm ne4_)
      have F40 := Fld.other W31 F19 (Or.inl ne0_)
      have N41 := Fr.snoc X31 N29 gh_
      have Z42 : n0 ≤ h31.size := Nat.le_trans Z30 (Nat.le_of_eq W31.size.symm)
      refine g_aloadN (q := 38) X31.here hx (hb hby d4_37) rfl rfl rfl ?_
      refine g_getF (q := 41) X31 hx hZ hown (hw _ (List.mem_of_getElem? (i := 15) rfl)) e31 F36 (hb hby d4_38) rfl ?_
      intro T43 X43 e43
      refine g_iloadN (q := 42) X43.here hx (hb hby d4_41) rfl rfl ?_
      refine g_lloadN (q := 43) X43.here hx (hb hby d4_42) rfl rfl ?_
      refine g_lstore_ (q := 44) (i := iv) (v := kv) X43 hx hZ e43 F39 hv (by rw [hkl]; exact hv4) (hb hby d4_43) rfl ?_
      intro T44 h44 X44 e44 W44 A44
      have K45 := Keep.wr K32 W44 (Or.inl (by simp))
      have F46 := Exa.wr W44 F33
      have F47 := Fld.other W44 F34 (Or.inl ne2_)
      have F48 := Fld.other W44 F35 (Or.inl ne2_)
      have F49 := Fld.other W44 F36 (Or.inl ne2_)
      have F50 := ArrL.other A31 W44 ne4_
      have F51 := ArrL.other F38 W44 ne5_
      have F53 := Fld.other W44 F40 (Or.inl ne2_)
      have N54 := Fr.snoc X44 N41 gk_
      have Z55 : n0 ≤ h44.size := Nat.le_trans Z42 (Nat.le_of_eq W44.size.symm)
      refine g_aloadN (q := 45) X44.here hx (hb hby d4_44) rfl rfl rfl ?_
      refine g_iloadN (q := 46) X44.here hx (hb hby d4_45) rfl rfl ?_
      refine g_private (q := 49) X44 hx hZ hown (hw _ (List.mem_of_getElem? (i := 28) rfl)) (hw _ (List.mem_of_getElem? (i := 29) rfl)) (hw _ (List.mem_of_getElem? (i := 30) rfl)) (hw _ (List.mem_of_getElem? (i := 1) rfl)) (hw _ (List.mem_of_getElem? (i := 2) rfl)) (hw _ (List.mem_of_getElem? (i := 31) rfl)) (by decide) (rm5_0 l Z a0 hw [] t nd h44 n0 Z55 ah ap ak nd w1_ w2_ w3_ (pl.set iv (0 : Int32)) (ky.set iv kv) iv F47 F48 F49 F50 F51 A44 F46 ne0_ ne1_ ne2_ ne3_ ne4_ ne5_ gh_ gp_ hv hv4 (by rw [List.length_set]; exact hkl) (by rw [List.length_set]; exact hpl) (own_sg (by rw [hpl]; exact hv4)) ) F46 (argsL := [.int nd]) (rest := []) pd_2 rfl rfl rfl (hb hby d4_46) rfl (by rw [hml]; rfl) e44 (by decide) (W := 0) rfl (by decide) (by decide) (by decide) ?_
      intro v56 T56 Lc56 X56 Q56
      obtain ⟨rfl, Nq56, Kq56, hp', pl', A57, A58, hl', hU, hP⟩ := Q56
      have N59 := Fr.app N54 Nq56
      have K60 := Keep.trans K45 Kq56 (allS (Or.inl (by simp)) (allS (Or.inl (by simp)) all0))
      have F61 := Exa.keep F46 Kq56
      have F62 := Fld.keep F47 Kq56 (ninS ne0_ (ninS ne1_ nin0))
      have F63 := Fld.keep F48 Kq56 (ninS ne0_ (ninS ne1_ nin0))
      have F64 := Fld.keep F49 Kq56 (ninS ne0_ (ninS ne1_ nin0))
      have F67 := ArrL.keep A44 Kq56 (ninS (Ne.symm ne4_) (ninS (Ne.symm ne5_) nin0))
      have F68 := Fld.keep F53 Kq56 (ninS ne0_ (ninS ne1_ nin0))
      have Z69 : n0 ≤ T56.heap.size := Nat.le_trans Z55 Kq56.1
      refine g_goto (q := 90) X56.here hx (hb hby d4_49) (by decide) (by decide) ?_
      exact g_ret X56 hx hlk hrt (hb hby d4_90) (by decide) (by decide) (by skip; exact ⟨rfl, N59, K60, hp', pl', (ky.set iv kv), (1 : Int32), F62, F63, F64, F68, A57, A58, F67, own_put0 I_ hM hv hv4 hn hkv hU hl' (fun u g0_ g1_ => (hP u g0_).trans (own_sd g0_))⟩)
  · skip
    have mw0_ := own_mem I_ (a := w0_) 0 (by rw [hM]; rfl)
    have vw0_ := own_val I_ mw0_
    refine g_aloadN (q := 1) X0.here hx (hb hby d4_0) rfl rfl rfl ?_
    refine g_getF (q := 4) X0 hx hZ hown (hw _ (List.mem_of_getElem? (i := 12) rfl)) e0 F1_ (hb hby d4_1) rfl ?_
    intro T70 X70 e70
    refine g_iloadN (q := 5) X70.here hx (hb hby d4_4) rfl rfl ?_
    refine g_iload_ (q := 6) (i := iv) (v := (-1 : Int32)) X70 hx hZ e70 A1_ hv habs (hb hby d4_5) rfl ?_
    refine g_iconst (q := 7) (v := (-1 : Int32)) X70.here hx (hb hby d4_6) rfl rfl ?_
    refine g_icmp_ne (q := 52) (q0 := 10) X70.here hx (hb hby d4_7) (by decide) (by decide) rfl ?_ ?_
    · intro c71; exact absurd c71 (by decide)
    · intro c71
      refine g_aloadN (q := 11) X70.here hx (hb hby d4_10) rfl rfl rfl ?_
      refine g_getF (q := 14) X70 hx hZ hown (hw _ (List.mem_of_getElem? (i := 12) rfl)) e70 F1_ (hb hby d4_11) rfl ?_
      intro T72 X72 e72
      refine g_iloadN (q := 15) X72.here hx (hb hby d4_14) rfl rfl ?_
      refine g_aloadN (q := 16) X72.here hx (hb hby d4_15) rfl rfl rfl ?_
      refine g_getF (q := 19) X72 hx hZ hown (hw _ (List.mem_of_getElem? (i := 26) rfl)) e72 F3_ (hb hby d4_16) rfl ?_
      intro T73 X73 e73
      refine g_istore_ (q := 20) (i := iv) (v := (1 : Int32)) X73 hx hZ e73 A1_ hv (by rw [hpl]; exact hv4) (hb hby d4_19) rfl ?_
      intro T74 h74 X74 e74 W74 A74
      have K75 := Keep.wr (Keep.refl h0 [t, ah, ap, ak]) W74 (Or.inl (by simp))
      have F76 := Exa.wr W74 E_
      have F77 := Fld.other W74 F0_ (Or.inl ne1_)
      have F78 := Fld.other W74 F1_ (Or.inl ne1_)
      have F79 := Fld.other W74 F2_ (Or.inl ne1_)
      have F80 := ArrL.other A0_ W74 ne3_
      have F82 := ArrL.other A2_ W74 (Ne.symm ne5_)
      have F83 := Fld.other W74 F3_ (Or.inl ne1_)
      have N84 := Fr.snoc X74 N0 gp_
      have Z85 : n0 ≤ h74.size := Nat.le_trans Z0 (Nat.le_of_eq W74.size.symm)
      refine g_aloadN (q := 21) X74.here hx (hb hby d4_20) rfl rfl rfl ?_
      refine g_getF (q := 24) X74 hx hZ hown (hw _ (List.mem_of_getElem? (i := 10) rfl)) e74 F77 (hb hby d4_21) rfl ?_
      intro T86 X86 e86
      refine g_aloadN (q := 25) X86.here hx (hb hby d4_24) rfl rfl rfl ?_
      refine g_dup (q := 26) X86.here hx (hb hby d4_25) rfl rfl ?_
      refine g_getF (q := 29) X86 hx hZ hown (hw _ (List.mem_of_getElem? (i := 26) rfl)) e86 F83 (hb hby d4_26) rfl ?_
      intro T87 X87 e87
      refine g_dupX1 (q := 30) X87.here hx (hb hby d4_29) rfl rfl rfl ?_
      refine g_iconst (q := 31) (v := (1 : Int32)) X87.here hx (hb hby d4_30) rfl rfl ?_
      refine g_iadd (q := 32) X87.here hx (hb hby d4_31) rfl ?_
      rw [show ((1 : Int32) + (1 : Int32)) = (2 : Int32) from by decide]
      refine g_putF (q := 35) (ty := .int) X87 hx hZ hown (hw _ (List.mem_of_getElem? (i := 26) rfl)) e87 F83 F76 (Or.inl (hw _ (List.mem_of_getElem? (i := 27) rfl))) (hw _ (List.mem_of_getElem? (i := 1) rfl)) (by decide) rfl rfl (hb hby d4_32) rfl ?_
      intro T88 h88 X88 e88 W88 F88
      have K89 := Keep.wr K75 W88 (Or.inl (by simp))
      have F90 := Exa.wr W88 F76
      have F91 := Fld.other W88 F77 (Or.inr (slot_ne (a0 := a0) (Or.inr (hw _ (List.mem_of_getElem? (i := 11) rfl))) (Or.inl (hw _ (List.mem_of_getElem? (i := 27) rfl))) (by decide) (t := (.array .int)) (t' := .int) (by decide) (by decide)))
      have F92 := Fld.other W88 F78 (Or.inr (slot_ne (a0 := a0) (Or.inr (hw _ (List.mem_of_getElem? (i := 13) rfl))) (Or.inl (hw _ (List.mem_of_getElem? (i := 27) rfl))) (by decide) (t := (.array .int)) (t' := .int) (by decide) (by decide)))
      have F93 := Fld.other W88 F79 (Or.inr (slot_ne (a0 := a0) (Or.inr (hw _ (List.mem_of_getElem? (i := 16) rfl))) (Or.inl (hw _ (List.mem_of_getElem? (i := 27) rfl))) (by decide) (t := (.array .long)) (t' := .int) (by decide) (by decide)))
      have F94 := ArrL.other F80 W88 (Ne.symm ne0_)
      have F95 := ArrL.other A74 W88 (Ne.symm ne1_)
      have F96 := ArrL.other F82 W88 (Ne.symm ne2_)
      have N98 := Fr.snoc X88 N84 gt_
      have Z99 : n0 ≤ h88.size := Nat.le_trans Z85 (Nat.le_of_eq W88.size.symm)
      refine g_iloadN (q := 36) X88.here hx (hb hby d4_35) rfl rfl ?_
      refine g_istore_ (q := 37) (i := 1) (v := nd) X88 hx hZ e88 F94 rfl (by show 1 < 4; decide) (hb hby d4_36) rfl ?_
      intro T100 h100 X100 e100 W100 A100
      replace A100 : IA Z h100 ah ([w0_, nd, w2_, w3_] : List Int32) := A100
      have K101 := Keep.wr K89 W100 (Or.inl (by simp))
      have F102 := Exa.wr W100 F90
      have F103 := Fld.other W100 F91 (Or.inl ne0_)
      have F104 := Fld.other W100 F92 (Or.inl ne0_)
      have F105 := Fld.other W100 F93 (Or.inl ne0_)
      have F107 := ArrL.other F95 W100 (Ne.symm ne3_)
      have F108 := ArrL.other F96 W100 (Ne.symm ne4_)
      have F109 := Fld.other W100 F88 (Or.inl ne0_)
      have N110 := Fr.snoc X100 N98 gh_
      have Z111 : n0 ≤ h100.size := Nat.le_trans Z99 (Nat.le_of_eq W100.size.symm)
      refine g_aloadN (q := 38) X100.here hx (hb hby d4_37) rfl rfl rfl ?_
      refine g_getF (q := 41) X100 hx hZ hown (hw _ (List.mem_of_getElem? (i := 15) rfl)) e100 F105 (hb hby d4_38) rfl ?_
      intro T112 X112 e112
      refine g_iloadN (q := 42) X112.here hx (hb hby d4_41) rfl rfl ?_
      refine g_lloadN (q := 43) X112.here hx (hb hby d4_42) rfl rfl ?_
      refine g_lstore_ (q := 44) (i := iv) (v := kv) X112 hx hZ e112 F108 hv (by rw [hkl]; exact hv4) (hb hby d4_43) rfl ?_
      intro T113 h113 X113 e113 W113 A113
      have K114 := Keep.wr K101 W113 (Or.inl (by simp))
      have F115 := Exa.wr W113 F102
      have F116 := Fld.other W113 F103 (Or.inl ne2_)
      have F117 := Fld.other W113 F104 (Or.inl ne2_)
      have F118 := Fld.other W113 F105 (Or.inl ne2_)
      have F119 := ArrL.other A100 W113 ne4_
      have F120 := ArrL.other F107 W113 ne5_
      have F122 := Fld.other W113 F109 (Or.inl ne2_)
      have N123 := Fr.snoc X113 N110 gk_
      have Z124 : n0 ≤ h113.size := Nat.le_trans Z111 (Nat.le_of_eq W113.size.symm)
      refine g_aloadN (q := 45) X113.here hx (hb hby d4_44) rfl rfl rfl ?_
      refine g_iloadN (q := 46) X113.here hx (hb hby d4_45) rfl rfl ?_
      refine g_private (q := 49) X113 hx hZ hown (hw _ (List.mem_of_getElem? (i := 28) rfl)) (hw _ (List.mem_of_getElem? (i := 29) rfl)) (hw _ (List.mem_of_getElem? (i := 30) rfl)) (hw _ (List.mem_of_getElem? (i := 1) rfl)) (hw _ (List.mem_of_getElem? (i := 2) rfl)) (hw _ (List.mem_of_getElem? (i := 31) rfl)) (by decide) (rm5_1 l Z a0 hw [] t nd h113 n0 Z124 ah ap ak w0_ nd w2_ w3_ (pl.set iv (1 : Int32)) (ky.set iv kv) iv F116 F117 F118 F119 F120 A113 F115 ne0_ ne1_ ne2_ ne3_ ne4_ ne5_ gh_ gp_ hv hv4 (by rw [List.length_set]; exact hkl) (by rw [List.length_set]; exact hpl) (own_sg (by rw [hpl]; exact hv4)) vw0_) F115 (argsL := [.int nd]) (rest := []) pd_2 rfl rfl rfl (hb hby d4_46) rfl (by rw [hml]; rfl) e113 (by decide) (W := 0) rfl (by decide) (by decide) (by decide) ?_
      intro v125 T125 Lc125 X125 Q125
      obtain ⟨rfl, Nq125, Kq125, hp', pl', A126, A127, hl', hU, hP⟩ := Q125
      have N128 := Fr.app N123 Nq125
      have K129 := Keep.trans K114 Kq125 (allS (Or.inl (by simp)) (allS (Or.inl (by simp)) all0))
      have F130 := Exa.keep F115 Kq125
      have F131 := Fld.keep F116 Kq125 (ninS ne0_ (ninS ne1_ nin0))
      have F132 := Fld.keep F117 Kq125 (ninS ne0_ (ninS ne1_ nin0))
      have F133 := Fld.keep F118 Kq125 (ninS ne0_ (ninS ne1_ nin0))
      have F136 := ArrL.keep A113 Kq125 (ninS (Ne.symm ne4_) (ninS (Ne.symm ne5_) nin0))
      have F137 := Fld.keep F122 Kq125 (ninS ne0_ (ninS ne1_ nin0))
      have Z138 : n0 ≤ T125.heap.size := Nat.le_trans Z124 Kq125.1
      refine g_goto (q := 90) X125.here hx (hb hby d4_49) (by decide) (by decide) ?_
      exact g_ret X125 hx hlk hrt (hb hby d4_90) (by decide) (by decide) (by skip; exact ⟨rfl, N128, K129, hp', pl', (ky.set iv kv), (2 : Int32), F131, F132, F133, F137, A126, A127, F136, own_put1 I_ hM hv hv4 hn hkv hU hl' (fun u g0_ g1_ => (hP u g0_ (g1_ w0_ mw0_)).trans (own_sd g0_))⟩)
  · skip
    have mw0_ := own_mem I_ (a := w0_) 0 (by rw [hM]; rfl)
    have vw0_ := own_val I_ mw0_
    refine g_aloadN (q := 1) X0.here hx (hb hby d4_0) rfl rfl rfl ?_
    refine g_getF (q := 4) X0 hx hZ hown (hw _ (List.mem_of_getElem? (i := 12) rfl)) e0 F1_ (hb hby d4_1) rfl ?_
    intro T139 X139 e139
    refine g_iloadN (q := 5) X139.here hx (hb hby d4_4) rfl rfl ?_
    refine g_iload_ (q := 6) (i := iv) (v := (-1 : Int32)) X139 hx hZ e139 A1_ hv habs (hb hby d4_5) rfl ?_
    refine g_iconst (q := 7) (v := (-1 : Int32)) X139.here hx (hb hby d4_6) rfl rfl ?_
    refine g_icmp_ne (q := 52) (q0 := 10) X139.here hx (hb hby d4_7) (by decide) (by decide) rfl ?_ ?_
    · intro c140; exact absurd c140 (by decide)
    · intro c140
      refine g_aloadN (q := 11) X139.here hx (hb hby d4_10) rfl rfl rfl ?_
      refine g_getF (q := 14) X139 hx hZ hown (hw _ (List.mem_of_getElem? (i := 12) rfl)) e139 F1_ (hb hby d4_11) rfl ?_
      intro T141 X141 e141
      refine g_iloadN (q := 15) X141.here hx (hb hby d4_14) rfl rfl ?_
      refine g_aloadN (q := 16) X141.here hx (hb hby d4_15) rfl rfl rfl ?_
      refine g_getF (q := 19) X141 hx hZ hown (hw _ (List.mem_of_getElem? (i := 26) rfl)) e141 F3_ (hb hby d4_16) rfl ?_
      intro T142 X142 e142
      refine g_istore_ (q := 20) (i := iv) (v := (2 : Int32)) X142 hx hZ e142 A1_ hv (by rw [hpl]; exact hv4) (hb hby d4_19) rfl ?_
      intro T143 h143 X143 e143 W143 A143
      have K144 := Keep.wr (Keep.refl h0 [t, ah, ap, ak]) W143 (Or.inl (by simp))
      have F145 := Exa.wr W143 E_
      have F146 := Fld.other W143 F0_ (Or.inl ne1_)
      have F147 := Fld.other W143 F1_ (Or.inl ne1_)
      have F148 := Fld.other W143 F2_ (Or.inl ne1_)
      have F149 := ArrL.other A0_ W143 ne3_
      have F151 := ArrL.other A2_ W143 (Ne.symm ne5_)
      have F152 := Fld.other W143 F3_ (Or.inl ne1_)
      have N153 := Fr.snoc X143 N0 gp_
      have Z154 : n0 ≤ h143.size := Nat.le_trans Z0 (Nat.le_of_eq W143.size.symm)
      refine g_aloadN (q := 21) X143.here hx (hb hby d4_20) rfl rfl rfl ?_
      refine g_getF (q := 24) X143 hx hZ hown (hw _ (List.mem_of_getElem? (i := 10) rfl)) e143 F146 (hb hby d4_21) rfl ?_
      intro T155 X155 e155
      refine g_aloadN (q := 25) X155.here hx (hb hby d4_24) rfl rfl rfl ?_
      refine g_dup (q := 26) X155.here hx (hb hby d4_25) rfl rfl ?_
      refine g_getF (q := 29) X155 hx hZ hown (hw _ (List.mem_of_getElem? (i := 26) rfl)) e155 F152 (hb hby d4_26) rfl ?_
      intro T156 X156 e156
      refine g_dupX1 (q := 30) X156.here hx (hb hby d4_29) rfl rfl rfl ?_
      refine g_iconst (q := 31) (v := (1 : Int32)) X156.here hx (hb hby d4_30) rfl rfl ?_
      refine g_iadd (q := 32) X156.here hx (hb hby d4_31) rfl ?_
      rw [show ((2 : Int32) + (1 : Int32)) = (3 : Int32) from by decide]
      refine g_putF (q := 35) (ty := .int) X156 hx hZ hown (hw _ (List.mem_of_getElem? (i := 26) rfl)) e156 F152 F145 (Or.inl (hw _ (List.mem_of_getElem? (i := 27) rfl))) (hw _ (List.mem_of_getElem? (i := 1) rfl)) (by decide) rfl rfl (hb hby d4_32) rfl ?_
      intro T157 h157 X157 e157 W157 F157
      have K158 := Keep.wr K144 W157 (Or.inl (by simp))
      have F159 := Exa.wr W157 F145
      have F160 := Fld.other W157 F146 (Or.inr (slot_ne (a0 := a0) (Or.inr (hw _ (List.mem_of_getElem? (i := 11) rfl))) (Or.inl (hw _ (List.mem_of_getElem? (i := 27) rfl))) (by decide) (t := (.array .int)) (t' := .int) (by decide) (by decide)))
      have F161 := Fld.other W157 F147 (Or.inr (slot_ne (a0 := a0) (Or.inr (hw _ (List.mem_of_getElem? (i := 13) rfl))) (Or.inl (hw _ (List.mem_of_getElem? (i := 27) rfl))) (by decide) (t := (.array .int)) (t' := .int) (by decide) (by decide)))
      have F162 := Fld.other W157 F148 (Or.inr (slot_ne (a0 := a0) (Or.inr (hw _ (List.mem_of_getElem? (i := 16) rfl))) (Or.inl (hw _ (List.mem_of_getElem? (i := 27) rfl))) (by decide) (t := (.array .long)) (t' := .int) (by decide) (by decide)))
      have F163 := ArrL.other F149 W157 (Ne.symm ne0_)
      have F164 := ArrL.other A143 W157 (Ne.symm ne1_)
      have F165 := ArrL.other F151 W157 (Ne.symm ne2_)
      have N167 := Fr.snoc X157 N153 gt_
      have Z168 : n0 ≤ h157.size := Nat.le_trans Z154 (Nat.le_of_eq W157.size.symm)
      refine g_iloadN (q := 36) X157.here hx (hb hby d4_35) rfl rfl ?_
      refine g_istore_ (q := 37) (i := 2) (v := nd) X157 hx hZ e157 F163 rfl (by show 2 < 4; decide) (hb hby d4_36) rfl ?_
      intro T169 h169 X169 e169 W169 A169
      replace A169 : IA Z h169 ah ([w0_, w1_, nd, w3_] : List Int32) := A169
      have K170 := Keep.wr K158 W169 (Or.inl (by simp))
      have F171 := Exa.wr W169 F159
      have F172 := Fld.other W169 F160 (Or.inl ne0_)
      have F173 := Fld.other W169 F161 (Or.inl ne0_)
      have F174 := Fld.other W169 F162 (Or.inl ne0_)
      have F176 := ArrL.other F164 W169 (Ne.symm ne3_)
      have F177 := ArrL.other F165 W169 (Ne.symm ne4_)
      have F178 := Fld.other W169 F157 (Or.inl ne0_)
      have N179 := Fr.snoc X169 N167 gh_
      have Z180 : n0 ≤ h169.size := Nat.le_trans Z168 (Nat.le_of_eq W169.size.symm)
      refine g_aloadN (q := 38) X169.here hx (hb hby d4_37) rfl rfl rfl ?_
      refine g_getF (q := 41) X169 hx hZ hown (hw _ (List.mem_of_getElem? (i := 15) rfl)) e169 F174 (hb hby d4_38) rfl ?_
      intro T181 X181 e181
      refine g_iloadN (q := 42) X181.here hx (hb hby d4_41) rfl rfl ?_
      refine g_lloadN (q := 43) X181.here hx (hb hby d4_42) rfl rfl ?_
      refine g_lstore_ (q := 44) (i := iv) (v := kv) X181 hx hZ e181 F177 hv (by rw [hkl]; exact hv4) (hb hby d4_43) rfl ?_
      intro T182 h182 X182 e182 W182 A182
      have K183 := Keep.wr K170 W182 (Or.inl (by simp))
      have F184 := Exa.wr W182 F171
      have F185 := Fld.other W182 F172 (Or.inl ne2_)
      have F186 := Fld.other W182 F173 (Or.inl ne2_)
      have F187 := Fld.other W182 F174 (Or.inl ne2_)
      have F188 := ArrL.other A169 W182 ne4_
      have F189 := ArrL.other F176 W182 ne5_
      have F191 := Fld.other W182 F178 (Or.inl ne2_)
      have N192 := Fr.snoc X182 N179 gk_
      have Z193 : n0 ≤ h182.size := Nat.le_trans Z180 (Nat.le_of_eq W182.size.symm)
      refine g_aloadN (q := 45) X182.here hx (hb hby d4_44) rfl rfl rfl ?_
      refine g_iloadN (q := 46) X182.here hx (hb hby d4_45) rfl rfl ?_
      refine g_private (q := 49) X182 hx hZ hown (hw _ (List.mem_of_getElem? (i := 28) rfl)) (hw _ (List.mem_of_getElem? (i := 29) rfl)) (hw _ (List.mem_of_getElem? (i := 30) rfl)) (hw _ (List.mem_of_getElem? (i := 1) rfl)) (hw _ (List.mem_of_getElem? (i := 2) rfl)) (hw _ (List.mem_of_getElem? (i := 31) rfl)) (by decide) (rm5_2 l Z a0 hw [] t nd h182 n0 Z193 ah ap ak w0_ w1_ nd w3_ (pl.set iv (2 : Int32)) (ky.set iv kv) iv F185 F186 F187 F188 F189 A182 F184 ne0_ ne1_ ne2_ ne3_ ne4_ ne5_ gh_ gp_ hv hv4 (by rw [List.length_set]; exact hkl) (by rw [List.length_set]; exact hpl) (own_sg (by rw [hpl]; exact hv4)) vw0_) F184 (argsL := [.int nd]) (rest := []) pd_2 rfl rfl rfl (hb hby d4_46) rfl (by rw [hml]; rfl) e182 (by decide) (W := 0) rfl (by decide) (by decide) (by decide) ?_
      intro v194 T194 Lc194 X194 Q194
      obtain ⟨rfl, Nq194, Kq194, hp', pl', A195, A196, hl', hU, hP⟩ := Q194
      have N197 := Fr.app N192 Nq194
      have K198 := Keep.trans K183 Kq194 (allS (Or.inl (by simp)) (allS (Or.inl (by simp)) all0))
      have F199 := Exa.keep F184 Kq194
      have F200 := Fld.keep F185 Kq194 (ninS ne0_ (ninS ne1_ nin0))
      have F201 := Fld.keep F186 Kq194 (ninS ne0_ (ninS ne1_ nin0))
      have F202 := Fld.keep F187 Kq194 (ninS ne0_ (ninS ne1_ nin0))
      have F205 := ArrL.keep A182 Kq194 (ninS (Ne.symm ne4_) (ninS (Ne.symm ne5_) nin0))
      have F206 := Fld.keep F191 Kq194 (ninS ne0_ (ninS ne1_ nin0))
      have Z207 : n0 ≤ T194.heap.size := Nat.le_trans Z193 Kq194.1
      refine g_goto (q := 90) X194.here hx (hb hby d4_49) (by decide) (by decide) ?_
      exact g_ret X194 hx hlk hrt (hb hby d4_90) (by decide) (by decide) (by skip; exact ⟨rfl, N197, K198, hp', pl', (ky.set iv kv), (3 : Int32), F200, F201, F202, F206, A195, A196, F205, own_put2 I_ hM hv hv4 hn hkv hU hl' (fun u g0_ g1_ => (hP u g0_ (g1_ w0_ mw0_)).trans (own_sd g0_))⟩)
  · skip
    have mw1_ := own_mem I_ (a := w1_) 1 (by rw [hM]; rfl)
    have vw1_ := own_val I_ mw1_
    have mw0_ := own_mem I_ (a := w0_) 0 (by rw [hM]; rfl)
    have vw0_ := own_val I_ mw0_
    refine g_aloadN (q := 1) X0.here hx (hb hby d4_0) rfl rfl rfl ?_
    refine g_getF (q := 4) X0 hx hZ hown (hw _ (List.mem_of_getElem? (i := 12) rfl)) e0 F1_ (hb hby d4_1) rfl ?_
    intro T208 X208 e208
    refine g_iloadN (q := 5) X208.here hx (hb hby d4_4) rfl rfl ?_
    refine g_iload_ (q := 6) (i := iv) (v := (-1 : Int32)) X208 hx hZ e208 A1_ hv habs (hb hby d4_5) rfl ?_
    refine g_iconst (q := 7) (v := (-1 : Int32)) X208.here hx (hb hby d4_6) rfl rfl ?_
    refine g_icmp_ne (q := 52) (q0 := 10) X208.here hx (hb hby d4_7) (by decide) (by decide) rfl ?_ ?_
    · intro c209; exact absurd c209 (by decide)
    · intro c209
      refine g_aloadN (q := 11) X208.here hx (hb hby d4_10) rfl rfl rfl ?_
      refine g_getF (q := 14) X208 hx hZ hown (hw _ (List.mem_of_getElem? (i := 12) rfl)) e208 F1_ (hb hby d4_11) rfl ?_
      intro T210 X210 e210
      refine g_iloadN (q := 15) X210.here hx (hb hby d4_14) rfl rfl ?_
      refine g_aloadN (q := 16) X210.here hx (hb hby d4_15) rfl rfl rfl ?_
      refine g_getF (q := 19) X210 hx hZ hown (hw _ (List.mem_of_getElem? (i := 26) rfl)) e210 F3_ (hb hby d4_16) rfl ?_
      intro T211 X211 e211
      refine g_istore_ (q := 20) (i := iv) (v := (3 : Int32)) X211 hx hZ e211 A1_ hv (by rw [hpl]; exact hv4) (hb hby d4_19) rfl ?_
      intro T212 h212 X212 e212 W212 A212
      have K213 := Keep.wr (Keep.refl h0 [t, ah, ap, ak]) W212 (Or.inl (by simp))
      have F214 := Exa.wr W212 E_
      have F215 := Fld.other W212 F0_ (Or.inl ne1_)
      have F216 := Fld.other W212 F1_ (Or.inl ne1_)
      have F217 := Fld.other W212 F2_ (Or.inl ne1_)
      have F218 := ArrL.other A0_ W212 ne3_
      have F220 := ArrL.other A2_ W212 (Ne.symm ne5_)
      have F221 := Fld.other W212 F3_ (Or.inl ne1_)
      have N222 := Fr.snoc X212 N0 gp_
      have Z223 : n0 ≤ h212.size := Nat.le_trans Z0 (Nat.le_of_eq W212.size.symm)
      refine g_aloadN (q := 21) X212.here hx (hb hby d4_20) rfl rfl rfl ?_
      refine g_getF (q := 24) X212 hx hZ hown (hw _ (List.mem_of_getElem? (i := 10) rfl)) e212 F215 (hb hby d4_21) rfl ?_
      intro T224 X224 e224
      refine g_aloadN (q := 25) X224.here hx (hb hby d4_24) rfl rfl rfl ?_
      refine g_dup (q := 26) X224.here hx (hb hby d4_25) rfl rfl ?_
      refine g_getF (q := 29) X224 hx hZ hown (hw _ (List.mem_of_getElem? (i := 26) rfl)) e224 F221 (hb hby d4_26) rfl ?_
      intro T225 X225 e225
      refine g_dupX1 (q := 30) X225.here hx (hb hby d4_29) rfl rfl rfl ?_
      refine g_iconst (q := 31) (v := (1 : Int32)) X225.here hx (hb hby d4_30) rfl rfl ?_
      refine g_iadd (q := 32) X225.here hx (hb hby d4_31) rfl ?_
      rw [show ((3 : Int32) + (1 : Int32)) = (4 : Int32) from by decide]
      refine g_putF (q := 35) (ty := .int) X225 hx hZ hown (hw _ (List.mem_of_getElem? (i := 26) rfl)) e225 F221 F214 (Or.inl (hw _ (List.mem_of_getElem? (i := 27) rfl))) (hw _ (List.mem_of_getElem? (i := 1) rfl)) (by decide) rfl rfl (hb hby d4_32) rfl ?_
      intro T226 h226 X226 e226 W226 F226
      have K227 := Keep.wr K213 W226 (Or.inl (by simp))
      have F228 := Exa.wr W226 F214
      have F229 := Fld.other W226 F215 (Or.inr (slot_ne (a0 := a0) (Or.inr (hw _ (List.mem_of_getElem? (i := 11) rfl))) (Or.inl (hw _ (List.mem_of_getElem? (i := 27) rfl))) (by decide) (t := (.array .int)) (t' := .int) (by decide) (by decide)))
      have F230 := Fld.other W226 F216 (Or.inr (slot_ne (a0 := a0) (Or.inr (hw _ (List.mem_of_getElem? (i := 13) rfl))) (Or.inl (hw _ (List.mem_of_getElem? (i := 27) rfl))) (by decide) (t := (.array .int)) (t' := .int) (by decide) (by decide)))
      have F231 := Fld.other W226 F217 (Or.inr (slot_ne (a0 := a0) (Or.inr (hw _ (List.mem_of_getElem? (i := 16) rfl))) (Or.inl (hw _ (List.mem_of_getElem? (i := 27) rfl))) (by decide) (t := (.array .long)) (t' := .int) (by decide) (by decide)))
      have F232 := ArrL.other F218 W226 (Ne.symm ne0_)
      have F233 := ArrL.other A212 W226 (Ne.symm ne1_)
      have F234 := ArrL.other F220 W226 (Ne.symm ne2_)
      have N236 := Fr.snoc X226 N222 gt_
      have Z237 : n0 ≤ h226.size := Nat.le_trans Z223 (Nat.le_of_eq W226.size.symm)
      refine g_iloadN (q := 36) X226.here hx (hb hby d4_35) rfl rfl ?_
      refine g_istore_ (q := 37) (i := 3) (v := nd) X226 hx hZ e226 F232 rfl (by show 3 < 4; decide) (hb hby d4_36) rfl ?_
      intro T238 h238 X238 e238 W238 A238
      replace A238 : IA Z h238 ah ([w0_, w1_, w2_, nd] : List Int32) := A238
      have K239 := Keep.wr K227 W238 (Or.inl (by simp))
      have F240 := Exa.wr W238 F228
      have F241 := Fld.other W238 F229 (Or.inl ne0_)
      have F242 := Fld.other W238 F230 (Or.inl ne0_)
      have F243 := Fld.other W238 F231 (Or.inl ne0_)
      have F245 := ArrL.other F233 W238 (Ne.symm ne3_)
      have F246 := ArrL.other F234 W238 (Ne.symm ne4_)
      have F247 := Fld.other W238 F226 (Or.inl ne0_)
      have N248 := Fr.snoc X238 N236 gh_
      have Z249 : n0 ≤ h238.size := Nat.le_trans Z237 (Nat.le_of_eq W238.size.symm)
      refine g_aloadN (q := 38) X238.here hx (hb hby d4_37) rfl rfl rfl ?_
      refine g_getF (q := 41) X238 hx hZ hown (hw _ (List.mem_of_getElem? (i := 15) rfl)) e238 F243 (hb hby d4_38) rfl ?_
      intro T250 X250 e250
      refine g_iloadN (q := 42) X250.here hx (hb hby d4_41) rfl rfl ?_
      refine g_lloadN (q := 43) X250.here hx (hb hby d4_42) rfl rfl ?_
      refine g_lstore_ (q := 44) (i := iv) (v := kv) X250 hx hZ e250 F246 hv (by rw [hkl]; exact hv4) (hb hby d4_43) rfl ?_
      intro T251 h251 X251 e251 W251 A251
      have K252 := Keep.wr K239 W251 (Or.inl (by simp))
      have F253 := Exa.wr W251 F240
      have F254 := Fld.other W251 F241 (Or.inl ne2_)
      have F255 := Fld.other W251 F242 (Or.inl ne2_)
      have F256 := Fld.other W251 F243 (Or.inl ne2_)
      have F257 := ArrL.other A238 W251 ne4_
      have F258 := ArrL.other F245 W251 ne5_
      have F260 := Fld.other W251 F247 (Or.inl ne2_)
      have N261 := Fr.snoc X251 N248 gk_
      have Z262 : n0 ≤ h251.size := Nat.le_trans Z249 (Nat.le_of_eq W251.size.symm)
      refine g_aloadN (q := 45) X251.here hx (hb hby d4_44) rfl rfl rfl ?_
      refine g_iloadN (q := 46) X251.here hx (hb hby d4_45) rfl rfl ?_
      refine g_private (q := 49) X251 hx hZ hown (hw _ (List.mem_of_getElem? (i := 28) rfl)) (hw _ (List.mem_of_getElem? (i := 29) rfl)) (hw _ (List.mem_of_getElem? (i := 30) rfl)) (hw _ (List.mem_of_getElem? (i := 1) rfl)) (hw _ (List.mem_of_getElem? (i := 2) rfl)) (hw _ (List.mem_of_getElem? (i := 31) rfl)) (by decide) (rm5_3 l Z a0 hw [] t nd h251 n0 Z262 ah ap ak w0_ w1_ w2_ nd (pl.set iv (3 : Int32)) (ky.set iv kv) iv F254 F255 F256 F257 F258 A251 F253 ne0_ ne1_ ne2_ ne3_ ne4_ ne5_ gh_ gp_ hv hv4 (by rw [List.length_set]; exact hkl) (by rw [List.length_set]; exact hpl) (own_sg (by rw [hpl]; exact hv4)) vw1_ vw0_) F253 (argsL := [.int nd]) (rest := []) pd_2 rfl rfl rfl (hb hby d4_46) rfl (by rw [hml]; rfl) e251 (by decide) (W := 0) rfl (by decide) (by decide) (by decide) ?_
      intro v263 T263 Lc263 X263 Q263
      obtain ⟨rfl, Nq263, Kq263, hp', pl', A264, A265, hl', hU, hP⟩ := Q263
      have N266 := Fr.app N261 Nq263
      have K267 := Keep.trans K252 Kq263 (allS (Or.inl (by simp)) (allS (Or.inl (by simp)) all0))
      have F268 := Exa.keep F253 Kq263
      have F269 := Fld.keep F254 Kq263 (ninS ne0_ (ninS ne1_ nin0))
      have F270 := Fld.keep F255 Kq263 (ninS ne0_ (ninS ne1_ nin0))
      have F271 := Fld.keep F256 Kq263 (ninS ne0_ (ninS ne1_ nin0))
      have F274 := ArrL.keep A251 Kq263 (ninS (Ne.symm ne4_) (ninS (Ne.symm ne5_) nin0))
      have F275 := Fld.keep F260 Kq263 (ninS ne0_ (ninS ne1_ nin0))
      have Z276 : n0 ≤ T263.heap.size := Nat.le_trans Z262 Kq263.1
      refine g_goto (q := 90) X263.here hx (hb hby d4_49) (by decide) (by decide) ?_
      exact g_ret X263 hx hlk hrt (hb hby d4_90) (by decide) (by decide) (by skip; exact ⟨rfl, N266, K267, hp', pl', (ky.set iv kv), (4 : Int32), F269, F270, F271, F275, A264, A265, F274, own_put3 I_ hM hv hv4 hn hkv hU hl' (fun u g0_ g1_ => (hP u g0_ (g1_ w1_ mw1_) (g1_ w0_ mw0_)).trans (own_sd g0_))⟩)
def RM_rm6 : Room := ({ frames := 0, cells := 0, slots := 0, locals := 0 } : Room)
theorem d6_0 : decode prog_77_method_2_code 0 = .ok (.aload_n 0, 1) := by decide +kernel
theorem d6_1 : decode prog_77_method_2_code 1 = .ok (.getfield 26, 3) := by decide +kernel
theorem d6_4 : decode prog_77_method_2_code 4 = .ok (.ifCond .ne 7, 3) := by decide +kernel
theorem d6_7 : decode prog_77_method_2_code 7 = .ok (.iconst 1, 1) := by decide +kernel
theorem d6_8 : decode prog_77_method_2_code 8 = .ok (.goto 4, 3) := by decide +kernel
theorem d6_11 : decode prog_77_method_2_code 11 = .ok (.iconst 0, 1) := by decide +kernel
theorem d6_12 : decode prog_77_method_2_code 12 = .ok (.ireturn, 1) := by decide +kernel
theorem ef_6 (m : MethodId) (z0 : Addr) : entryFrame m #[.ref z0] 1 = mkF m 0 #[.val (.ref z0)] [] := by first | (simp [entryFrame, mkF, argsToLocals, Value.category]; done) | rfl
set_option maxRecDepth 65536 in
set_option maxHeartbeats 40000000 in
theorem rm6 (l : Launch) (Z : State) (a0 : Array Value) (hw : ∀ d ∈ tables_1, d.before a0 Z = true) (ws : List Jvm.Cond) (t : Addr) (h0 : Heap) (n0 : Nat) (Z0 : n0 ≤ h0.size) (cn : Int32) (F3_ : Fld Z h0 t "com/example/hedged_dispatch/hedgeddispatch/stn/NodeQueue" "count" "I" (.int cn)) :
    Ctr l Z (⟨"com/example/hedged_dispatch/hedgeddispatch/stn/NodeQueue", "isEmpty", "()Z"⟩ : MethodName) prog_77_method_2_code 1 (some .boolean) RM_rm6 ws #[.ref t] h0 (PQ (.int (b2i (decide (cn.toInt = 0)))) h0) := by
  refine Ctr.of (plainFor_of_name pn_1) ?_
  intro p e s m below meth c s₁ hx hby hml hrt hlk hnm hown hZ X0 e0
  have N0 := Fr.nil n0
  refine Go.cast (ef_6 m t) ?_
  refine g_aloadN (q := 1) X0.here hx (hb hby d6_0) rfl rfl rfl ?_
  refine g_getF (q := 4) X0 hx hZ hown (hw _ (List.mem_of_getElem? (i := 26) rfl)) e0 F3_ (hb hby d6_1) rfl ?_
  intro T1 X1 e1
  refine g_sel_if_ne (q := 12) X1.here hx (hb hby d6_4) (by decide) (by decide) rfl (hb hby d6_11) (hb hby d6_7) (hb hby d6_8) rfl (by decide) (by decide) rfl ?_
  exact g_zreturn (b := decide (cn.toInt = 0)) X1 hx hlk hrt (hb hby d6_12) (by decide) (by decide) ⟨rfl, e1, rfl⟩
def RM_rm7 : Room := ({ frames := 0, cells := 0, slots := 0, locals := 0 } : Room)
theorem d7_0 : decode prog_77_method_5_code 0 = .ok (.aload_n 0, 1) := by decide +kernel
theorem d7_1 : decode prog_77_method_5_code 1 = .ok (.getfield 7, 3) := by decide +kernel
theorem d7_4 : decode prog_77_method_5_code 4 = .ok (.iconst 0, 1) := by decide +kernel
theorem d7_5 : decode prog_77_method_5_code 5 = .ok (.iaload, 1) := by decide +kernel
theorem d7_6 : decode prog_77_method_5_code 6 = .ok (.ireturn, 1) := by decide +kernel
theorem ef_7 (m : MethodId) (z0 : Addr) : entryFrame m #[.ref z0] 1 = mkF m 0 #[.val (.ref z0)] [] := by first | (simp [entryFrame, mkF, argsToLocals, Value.category]; done) | rfl
set_option maxRecDepth 65536 in
set_option maxHeartbeats 40000000 in
theorem rm7 (l : Launch) (Z : State) (a0 : Array Value) (hw : ∀ d ∈ tables_1, d.before a0 Z = true) (ws : List Jvm.Cond) (t : Addr) (h0 : Heap) (n0 : Nat) (Z0 : n0 ≤ h0.size) (ah : Addr) (w0_ w1_ w2_ w3_ : Int32) (F0_ : Fld Z h0 t "com/example/hedged_dispatch/hedgeddispatch/stn/NodeQueue" "heap" "[I" (.ref ah)) (A0_ : IA Z h0 ah [w0_, w1_, w2_, w3_]) :
    Ctr l Z (⟨"com/example/hedged_dispatch/hedgeddispatch/stn/NodeQueue", "peek", "()I"⟩ : MethodName) prog_77_method_5_code 1 (some .int) RM_rm7 ws #[.ref t] h0 (PQ (.int w0_) h0) := by
  refine Ctr.of (plainFor_of_name pn_1) ?_
  intro p e s m below meth c s₁ hx hby hml hrt hlk hnm hown hZ X0 e0
  have N0 := Fr.nil n0
  refine Go.cast (ef_7 m t) ?_
  refine g_aloadN (q := 1) X0.here hx (hb hby d7_0) rfl rfl rfl ?_
  refine g_getF (q := 4) X0 hx hZ hown (hw _ (List.mem_of_getElem? (i := 10) rfl)) e0 F0_ (hb hby d7_1) rfl ?_
  intro T1 X1 e1
  refine g_iconst (q := 5) (v := (0 : Int32)) X1.here hx (hb hby d7_4) rfl rfl ?_
  refine g_iload_ (q := 6) (i := 0) (v := w0_) X1 hx hZ e1 A0_ rfl rfl (hb hby d7_5) rfl ?_
  exact g_ireturn X1 hx hlk hrt (hb hby d7_6) (by decide) (by decide) ⟨rfl, e1, rfl⟩
def RM_rm8 : Room := ({ frames := 0, cells := 0, slots := 0, locals := 0 } : Room)
theorem d8_0 : decode prog_77_method_8_code 0 = .ok (.iconst 0, 1) := by decide +kernel
theorem d8_1 : decode prog_77_method_8_code 1 = .ok (.istore 4, 2) := by decide +kernel
theorem d8_3 : decode prog_77_method_8_code 3 = .ok (.iconst 0, 1) := by decide +kernel
theorem d8_4 : decode prog_77_method_8_code 4 = .ok (.istore 5, 2) := by decide +kernel
theorem d8_6 : decode prog_77_method_8_code 6 = .ok (.aload_n 0, 1) := by decide +kernel
theorem d8_7 : decode prog_77_method_8_code 7 = .ok (.getfield 26, 3) := by decide +kernel
theorem d8_10 : decode prog_77_method_8_code 10 = .ok (.ifCond .le 27, 3) := by decide +kernel
theorem d8_13 : decode prog_77_method_8_code 13 = .ok (.aload_n 0, 1) := by decide +kernel
theorem d8_14 : decode prog_77_method_8_code 14 = .ok (.getfield 16, 3) := by decide +kernel
theorem d8_17 : decode prog_77_method_8_code 17 = .ok (.aload_n 0, 1) := by decide +kernel
theorem d8_18 : decode prog_77_method_8_code 18 = .ok (.getfield 7, 3) := by decide +kernel
theorem d8_21 : decode prog_77_method_8_code 21 = .ok (.iconst 0, 1) := by decide +kernel
theorem d8_22 : decode prog_77_method_8_code 22 = .ok (.iaload, 1) := by decide +kernel
theorem d8_23 : decode prog_77_method_8_code 23 = .ok (.laload, 1) := by decide +kernel
theorem d8_24 : decode prog_77_method_8_code 24 = .ok (.lload_n 1, 1) := by decide +kernel
theorem d8_25 : decode prog_77_method_8_code 25 = .ok (.lcmp, 1) := by decide +kernel
theorem d8_26 : decode prog_77_method_8_code 26 = .ok (.ifCond .gt 11, 3) := by decide +kernel
theorem d8_29 : decode prog_77_method_8_code 29 = .ok (.aload_n 3, 1) := by decide +kernel
theorem d8_30 : decode prog_77_method_8_code 30 = .ok (.iload 4, 2) := by decide +kernel
theorem d8_32 : decode prog_77_method_8_code 32 = .ok (.iinc 4 1, 3) := by decide +kernel
theorem d8_35 : decode prog_77_method_8_code 35 = .ok (.iconst 0, 1) := by decide +kernel
theorem d8_36 : decode prog_77_method_8_code 36 = .ok (.iastore, 1) := by decide +kernel
theorem d8_37 : decode prog_77_method_8_code 37 = .ok (.iload 5, 2) := by decide +kernel
theorem d8_39 : decode prog_77_method_8_code 39 = .ok (.iload 4, 2) := by decide +kernel
theorem d8_41 : decode prog_77_method_8_code 41 = .ok (.if_icmp .ge 75, 3) := by decide +kernel
theorem d8_44 : decode prog_77_method_8_code 44 = .ok (.aload_n 3, 1) := by decide +kernel
theorem d8_45 : decode prog_77_method_8_code 45 = .ok (.iload 5, 2) := by decide +kernel
theorem d8_47 : decode prog_77_method_8_code 47 = .ok (.iinc 5 1, 3) := by decide +kernel
theorem d8_50 : decode prog_77_method_8_code 50 = .ok (.iaload, 1) := by decide +kernel
theorem d8_51 : decode prog_77_method_8_code 51 = .ok (.istore 6, 2) := by decide +kernel
theorem d8_53 : decode prog_77_method_8_code 53 = .ok (.iconst 2, 1) := by decide +kernel
theorem d8_54 : decode prog_77_method_8_code 54 = .ok (.iload 6, 2) := by decide +kernel
theorem d8_56 : decode prog_77_method_8_code 56 = .ok (.imul, 1) := by decide +kernel
theorem d8_57 : decode prog_77_method_8_code 57 = .ok (.iconst 1, 1) := by decide +kernel
theorem d8_58 : decode prog_77_method_8_code 58 = .ok (.iadd, 1) := by decide +kernel
theorem d8_59 : decode prog_77_method_8_code 59 = .ok (.istore 7, 2) := by decide +kernel
theorem d8_61 : decode prog_77_method_8_code 61 = .ok (.iload 7, 2) := by decide +kernel
theorem d8_63 : decode prog_77_method_8_code 63 = .ok (.iconst 2, 1) := by decide +kernel
theorem d8_64 : decode prog_77_method_8_code 64 = .ok (.iload 6, 2) := by decide +kernel
theorem d8_66 : decode prog_77_method_8_code 66 = .ok (.imul, 1) := by decide +kernel
theorem d8_67 : decode prog_77_method_8_code 67 = .ok (.iconst 2, 1) := by decide +kernel
theorem d8_68 : decode prog_77_method_8_code 68 = .ok (.iadd, 1) := by decide +kernel
theorem d8_69 : decode prog_77_method_8_code 69 = .ok (.if_icmp .gt 44, 3) := by decide +kernel
theorem d8_72 : decode prog_77_method_8_code 72 = .ok (.iload 7, 2) := by decide +kernel
theorem d8_74 : decode prog_77_method_8_code 74 = .ok (.aload_n 0, 1) := by decide +kernel
theorem d8_75 : decode prog_77_method_8_code 75 = .ok (.getfield 26, 3) := by decide +kernel
theorem d8_78 : decode prog_77_method_8_code 78 = .ok (.if_icmp .ge 35, 3) := by decide +kernel
theorem d8_81 : decode prog_77_method_8_code 81 = .ok (.aload_n 0, 1) := by decide +kernel
theorem d8_82 : decode prog_77_method_8_code 82 = .ok (.getfield 16, 3) := by decide +kernel
theorem d8_85 : decode prog_77_method_8_code 85 = .ok (.aload_n 0, 1) := by decide +kernel
theorem d8_86 : decode prog_77_method_8_code 86 = .ok (.getfield 7, 3) := by decide +kernel
theorem d8_89 : decode prog_77_method_8_code 89 = .ok (.iload 7, 2) := by decide +kernel
theorem d8_91 : decode prog_77_method_8_code 91 = .ok (.iaload, 1) := by decide +kernel
theorem d8_92 : decode prog_77_method_8_code 92 = .ok (.laload, 1) := by decide +kernel
theorem d8_93 : decode prog_77_method_8_code 93 = .ok (.lload_n 1, 1) := by decide +kernel
theorem d8_94 : decode prog_77_method_8_code 94 = .ok (.lcmp, 1) := by decide +kernel
theorem d8_95 : decode prog_77_method_8_code 95 = .ok (.ifCond .gt 12, 3) := by decide +kernel
theorem d8_98 : decode prog_77_method_8_code 98 = .ok (.aload_n 3, 1) := by decide +kernel
theorem d8_99 : decode prog_77_method_8_code 99 = .ok (.iload 4, 2) := by decide +kernel
theorem d8_101 : decode prog_77_method_8_code 101 = .ok (.iinc 4 1, 3) := by decide +kernel
theorem d8_104 : decode prog_77_method_8_code 104 = .ok (.iload 7, 2) := by decide +kernel
theorem d8_106 : decode prog_77_method_8_code 106 = .ok (.iastore, 1) := by decide +kernel
theorem d8_107 : decode prog_77_method_8_code 107 = .ok (.iinc 7 1, 3) := by decide +kernel
theorem d8_110 : decode prog_77_method_8_code 110 = .ok (.goto (-49), 3) := by decide +kernel
theorem d8_113 : decode prog_77_method_8_code 113 = .ok (.goto (-76), 3) := by decide +kernel
theorem d8_116 : decode prog_77_method_8_code 116 = .ok (.iconst 0, 1) := by decide +kernel
theorem d8_117 : decode prog_77_method_8_code 117 = .ok (.istore 6, 2) := by decide +kernel
theorem d8_119 : decode prog_77_method_8_code 119 = .ok (.iload 6, 2) := by decide +kernel
theorem d8_121 : decode prog_77_method_8_code 121 = .ok (.iload 4, 2) := by decide +kernel
theorem d8_123 : decode prog_77_method_8_code 123 = .ok (.if_icmp .ge 22, 3) := by decide +kernel
theorem d8_126 : decode prog_77_method_8_code 126 = .ok (.aload_n 3, 1) := by decide +kernel
theorem d8_127 : decode prog_77_method_8_code 127 = .ok (.iload 6, 2) := by decide +kernel
theorem d8_129 : decode prog_77_method_8_code 129 = .ok (.aload_n 0, 1) := by decide +kernel
theorem d8_130 : decode prog_77_method_8_code 130 = .ok (.getfield 7, 3) := by decide +kernel
theorem d8_133 : decode prog_77_method_8_code 133 = .ok (.aload_n 3, 1) := by decide +kernel
theorem d8_134 : decode prog_77_method_8_code 134 = .ok (.iload 6, 2) := by decide +kernel
theorem d8_136 : decode prog_77_method_8_code 136 = .ok (.iaload, 1) := by decide +kernel
theorem d8_137 : decode prog_77_method_8_code 137 = .ok (.iaload, 1) := by decide +kernel
theorem d8_138 : decode prog_77_method_8_code 138 = .ok (.iastore, 1) := by decide +kernel
theorem d8_139 : decode prog_77_method_8_code 139 = .ok (.iinc 6 1, 3) := by decide +kernel
theorem d8_142 : decode prog_77_method_8_code 142 = .ok (.goto (-23), 3) := by decide +kernel
theorem d8_145 : decode prog_77_method_8_code 145 = .ok (.iload 4, 2) := by decide +kernel
theorem d8_147 : decode prog_77_method_8_code 147 = .ok (.ireturn, 1) := by decide +kernel
theorem ef_8 (m : MethodId) (z0 : Addr) (z1 : Int64) (z2 : Addr) : entryFrame m #[.ref z0, .long z1, .ref z2] 8 = mkF m 0 #[.val (.ref z0), .val (.long z1), .second, .val (.ref z2), .unset, .unset, .unset, .unset] [] := by first | (simp [entryFrame, mkF, argsToLocals, Value.category]; done) | rfl
set_option maxRecDepth 65536 in
set_option maxHeartbeats 40000000 in
theorem rm8 (l : Launch) (Z : State) (a0 : Array Value) (hw : ∀ d ∈ tables_1, d.before a0 Z = true) (ws : List Jvm.Cond) (t : Addr) (bd : Int64) (ot_ : Addr) (h0 : Heap) (n0 : Nat) (Z0 : n0 ≤ h0.size) (ah ak : Addr) (hp pl : List Int32) (ky : List Int64) (cn : Int32) (M : List Int32) (KS : List Int64) (F0_ : Fld Z h0 t "com/example/hedged_dispatch/hedgeddispatch/stn/NodeQueue" "heap" "[I" (.ref ah)) (F2_ : Fld Z h0 t "com/example/hedged_dispatch/hedgeddispatch/stn/NodeQueue" "key" "[J" (.ref ak)) (F3_ : Fld Z h0 t "com/example/hedged_dispatch/hedgeddispatch/stn/NodeQueue" "count" "I" (.int cn)) (A0_ : IA Z h0 ah hp) (A2_ : LA Z h0 ak ky) (A3_ : IA Z h0 ot_ [(0 : Int32), (0 : Int32), (0 : Int32), (0 : Int32)]) (ne0_ : t ≠ ah) (ne1_ : t ≠ ak) (ne2_ : ah ≠ ak) (ne3_ : t ≠ ot_) (ne4_ : ah ≠ ot_) (ne5_ : ak ≠ ot_) (go_ : n0 ≤ ot_) (I_ : QInv hp pl ky cn M KS) (hM4 : M.length ≤ 4) :
    Ctr l Z (⟨"com/example/hedged_dispatch/hedgeddispatch/stn/NodeQueue", "atMost", "(J[I)I"⟩ : MethodName) prog_77_method_8_code 8 (some .int) RM_rm8 ws #[.ref t, .long bd, .ref ot_] h0 (fun v h L => ∃ (r : Int32) (it : List Int32) (m : Nat), v = some (.int r) ∧ Fr n0 L ∧ Keep h0 h [ot_] ∧ IA Z h ot_ it ∧ it.length = 4 ∧ r.toInt = (m : Int) ∧ m ≤ 4 ∧ (it.take m).Perm (M.filter fun u => decide (QK ky u ≤ bd.toInt))) := by
  refine Ctr.of (plainFor_of_name pn_1) ?_
  intro p e s m below meth c s₁ hx hby hml hrt hlk hnm hown hZ X0 e0
  have N0 := Fr.nil n0
  refine Go.cast (ef_8 m t bd ot_) ?_
  obtain ⟨w0_, w1_, w2_, w3_, rfl⟩ := own_l4 I_.1
  have hkl := I_.2.2.1
  rcases own_c4 I_ hM4 with ⟨rfl, hM⟩ | ⟨rfl, hM⟩ | ⟨rfl, hM⟩ | ⟨rfl, hM⟩ | ⟨rfl, hM⟩
  · skip
    refine g_iconst (q := 1) (v := (0 : Int32)) X0.here hx (hb hby d8_0) rfl rfl ?_
    refine g_istore (q := 3) (L' := #[.val (.ref t), .val (.long bd), .second, .val (.ref ot_), .val (.int (0 : Int32)), .unset, .unset, .unset]) X0.here hx (hb hby d8_1) rfl rfl ?_
    refine g_iconst (q := 4) (v := (0 : Int32)) X0.here hx (hb hby d8_3) rfl rfl ?_
    refine g_istore (q := 6) (L' := #[.val (.ref t), .val (.long bd), .second, .val (.ref ot_), .val (.int (0 : Int32)), .val (.int (0 : Int32)), .unset, .unset]) X0.here hx (hb hby d8_4) rfl rfl ?_
    refine g_aloadN (q := 7) X0.here hx (hb hby d8_6) rfl rfl rfl ?_
    refine g_getF (q := 10) X0 hx hZ hown (hw _ (List.mem_of_getElem? (i := 26) rfl)) e0 F3_ (hb hby d8_7) rfl ?_
    intro T1 X1 e1
    refine g_if_le (q := 37) (q0 := 13) X1.here hx (hb hby d8_10) (by decide) (by decide) rfl ?_ ?_
    · intro c2
      refine g_iload (q := 39) X1.here hx (hb hby d8_37) rfl rfl ?_
      refine g_iload (q := 41) X1.here hx (hb hby d8_39) rfl rfl ?_
      refine g_icmp_ge (q := 116) (q0 := 44) X1.here hx (hb hby d8_41) (by decide) (by decide) rfl ?_ ?_
      · intro c3
        refine g_iconst (q := 117) (v := (0 : Int32)) X1.here hx (hb hby d8_116) rfl rfl ?_
        refine g_istore (q := 119) (L' := #[.val (.ref t), .val (.long bd), .second, .val (.ref ot_), .val (.int (0 : Int32)), .val (.int (0 : Int32)), .val (.int (0 : Int32)), .unset]) X1.here hx (hb hby d8_117) rfl rfl ?_
        refine g_iload (q := 121) X1.here hx (hb hby d8_119) rfl rfl ?_
        refine g_iload (q := 123) X1.here hx (hb hby d8_121) rfl rfl ?_
        refine g_icmp_ge (q := 145) (q0 := 126) X1.here hx (hb hby d8_123) (by decide) (by decide) rfl ?_ ?_
        · intro c4
          refine g_iload (q := 147) X1.here hx (hb hby d8_145) rfl rfl ?_
          exact g_ireturn X1 hx hlk hrt (hb hby d8_147) (by decide) (by decide) (by rw [e1]; exact ⟨_, [(0 : Int32), (0 : Int32), (0 : Int32), (0 : Int32)], 0, rfl, N0, (Keep.refl h0 [ot_]), A3_, rfl, rfl, by decide, (own_am I_ (l := []) (by rw [hM]; rfl) (by skip; simp only [own_flt, List.filter_nil]; first | done | rfl))⟩)
        · intro c4; exact absurd c4 (by decide)
      · intro c3; exact absurd c3 (by decide)
    · intro c2; exact absurd c2 (by decide)
  · skip
    have vw0_ := own_val I_ (own_mem I_ (a := w0_) 0 (by rw [hM]; rfl))
    refine g_iconst (q := 1) (v := (0 : Int32)) X0.here hx (hb hby d8_0) rfl rfl ?_
    refine g_istore (q := 3) (L' := #[.val (.ref t), .val (.long bd), .second, .val (.ref ot_), .val (.int (0 : Int32)), .unset, .unset, .unset]) X0.here hx (hb hby d8_1) rfl rfl ?_
    refine g_iconst (q := 4) (v := (0 : Int32)) X0.here hx (hb hby d8_3) rfl rfl ?_
    refine g_istore (q := 6) (L' := #[.val (.ref t), .val (.long bd), .second, .val (.ref ot_), .val (.int (0 : Int32)), .val (.int (0 : Int32)), .unset, .unset]) X0.here hx (hb hby d8_4) rfl rfl ?_
    refine g_aloadN (q := 7) X0.here hx (hb hby d8_6) rfl rfl rfl ?_
    refine g_getF (q := 10) X0 hx hZ hown (hw _ (List.mem_of_getElem? (i := 26) rfl)) e0 F3_ (hb hby d8_7) rfl ?_
    intro T5 X5 e5
    refine g_if_le (q := 37) (q0 := 13) X5.here hx (hb hby d8_10) (by decide) (by decide) rfl ?_ ?_
    · intro c6; exact absurd c6 (by decide)
    · intro c6
      refine g_aloadN (q := 14) X5.here hx (hb hby d8_13) rfl rfl rfl ?_
      refine g_getF (q := 17) X5 hx hZ hown (hw _ (List.mem_of_getElem? (i := 15) rfl)) e5 F2_ (hb hby d8_14) rfl ?_
      intro T7 X7 e7
      refine g_aloadN (q := 18) X7.here hx (hb hby d8_17) rfl rfl rfl ?_
      refine g_getF (q := 21) X7 hx hZ hown (hw _ (List.mem_of_getElem? (i := 10) rfl)) e7 F0_ (hb hby d8_18) rfl ?_
      intro T8 X8 e8
      refine g_iconst (q := 22) (v := (0 : Int32)) X8.here hx (hb hby d8_21) rfl rfl ?_
      refine g_iload_ (q := 23) (i := 0) (v := w0_) X8 hx hZ e8 A0_ rfl rfl (hb hby d8_22) rfl ?_
      refine g_lload_ (q := 24) (i := w0_.toInt.toNat) (v := (ky.getD w0_.toInt.toNat 0)) X8 hx hZ e8 A2_ (own_tn vw0_.1) (own_gdJ (own_lt4 vw0_ hkl)) (hb hby d8_23) rfl ?_
      refine g_lloadN (q := 25) X8.here hx (hb hby d8_24) rfl rfl ?_
      refine g_lcmp_gt (q := 37) (q1 := 26) (q0 := 29) X8.here hx (hb hby d8_25) rfl (hb hby d8_26) (by decide) (by decide) rfl ?_ ?_
      · intro c9
        refine g_iload (q := 39) X8.here hx (hb hby d8_37) rfl rfl ?_
        refine g_iload (q := 41) X8.here hx (hb hby d8_39) rfl rfl ?_
        refine g_icmp_ge (q := 116) (q0 := 44) X8.here hx (hb hby d8_41) (by decide) (by decide) rfl ?_ ?_
        · intro c10
          refine g_iconst (q := 117) (v := (0 : Int32)) X8.here hx (hb hby d8_116) rfl rfl ?_
          refine g_istore (q := 119) (L' := #[.val (.ref t), .val (.long bd), .second, .val (.ref ot_), .val (.int (0 : Int32)), .val (.int (0 : Int32)), .val (.int (0 : Int32)), .unset]) X8.here hx (hb hby d8_117) rfl rfl ?_
          refine g_iload (q := 121) X8.here hx (hb hby d8_119) rfl rfl ?_
          refine g_iload (q := 123) X8.here hx (hb hby d8_121) rfl rfl ?_
          refine g_icmp_ge (q := 145) (q0 := 126) X8.here hx (hb hby d8_123) (by decide) (by decide) rfl ?_ ?_
          · intro c11
            refine g_iload (q := 147) X8.here hx (hb hby d8_145) rfl rfl ?_
            exact g_ireturn X8 hx hlk hrt (hb hby d8_147) (by decide) (by decide) (by rw [e8]; exact ⟨_, [(0 : Int32), (0 : Int32), (0 : Int32), (0 : Int32)], 0, rfl, N0, (Keep.refl h0 [ot_]), A3_, rfl, rfl, by decide, (own_am I_ (l := [w0_]) (by rw [hM]; rfl) (by have ew0_ := decide_eq_false (show ¬ (QK ky w0_ ≤ bd.toInt) from Int.not_le.mpr c9); simp only [own_flt, List.filter_nil, ew0_]; first | done | rfl))⟩)
          · intro c11; exact absurd c11 (by decide)
        · intro c10; exact absurd c10 (by decide)
      · intro c9
        refine g_aloadN (q := 30) X8.here hx (hb hby d8_29) rfl rfl rfl ?_
        refine g_iload (q := 32) X8.here hx (hb hby d8_30) rfl rfl ?_
        refine g_iinc (q := 35) (v := (1 : Int32)) (L' := #[.val (.ref t), .val (.long bd), .second, .val (.ref ot_), .val (.int (1 : Int32)), .val (.int (0 : Int32)), .unset, .unset]) X8.here hx (hb hby d8_32) rfl rfl rfl rfl ?_
        refine g_iconst (q := 36) (v := (0 : Int32)) X8.here hx (hb hby d8_35) rfl rfl ?_
        refine g_istore_ (q := 37) (i := 0) (v := (0 : Int32)) X8 hx hZ e8 A3_ rfl (by show 0 < 4; decide) (hb hby d8_36) rfl ?_
        intro T12 h12 X12 e12 W12 A12
        replace A12 : IA Z h12 ot_ ([(0 : Int32), (0 : Int32), (0 : Int32), (0 : Int32)] : List Int32) := A12
        have K13 := Keep.wr (Keep.refl h0 [ot_]) W12 (Or.inl (by simp))
        have F14 := Fld.other W12 F0_ (Or.inl ne3_)
        have F15 := Fld.other W12 F2_ (Or.inl ne3_)
        have F16 := Fld.other W12 F3_ (Or.inl ne3_)
        have F17 := ArrL.other A0_ W12 ne4_
        have F18 := ArrL.other A2_ W12 ne5_
        have N20 := Fr.snoc X12 N0 go_
        have Z21 : n0 ≤ h12.size := Nat.le_trans Z0 (Nat.le_of_eq W12.size.symm)
        refine g_iload (q := 39) X12.here hx (hb hby d8_37) rfl rfl ?_
        refine g_iload (q := 41) X12.here hx (hb hby d8_39) rfl rfl ?_
        refine g_icmp_ge (q := 116) (q0 := 44) X12.here hx (hb hby d8_41) (by decide) (by decide) rfl ?_ ?_
        · intro c22; exact absurd c22 (by decide)
        · intro c22
          refine g_aloadN (q := 45) X12.here hx (hb hby d8_44) rfl rfl rfl ?_
          refine g_iload (q := 47) X12.here hx (hb hby d8_45) rfl rfl ?_
          refine g_iinc (q := 50) (v := (1 : Int32)) (L' := #[.val (.ref t), .val (.long bd), .second, .val (.ref ot_), .val (.int (1 : Int32)), .val (.int (1 : Int32)), .unset, .unset]) X12.here hx (hb hby d8_47) rfl rfl rfl rfl ?_
          refine g_iload_ (q := 51) (i := 0) (v := (0 : Int32)) X12 hx hZ e12 A12 rfl rfl (hb hby d8_50) rfl ?_
          refine g_istore (q := 53) (L' := #[.val (.ref t), .val (.long bd), .second, .val (.ref ot_), .val (.int (1 : Int32)), .val (.int (1 : Int32)), .val (.int (0 : Int32)), .unset]) X12.here hx (hb hby d8_51) rfl rfl ?_
          refine g_iconst (q := 54) (v := (2 : Int32)) X12.here hx (hb hby d8_53) rfl rfl ?_
          refine g_iload (q := 56) X12.here hx (hb hby d8_54) rfl rfl ?_
          refine g_imul (q := 57) X12.here hx (hb hby d8_56) rfl ?_
          rw [show ((2 : Int32) * (0 : Int32)) = (0 : Int32) from by decide]
          refine g_iconst (q := 58) (v := (1 : Int32)) X12.here hx (hb hby d8_57) rfl rfl ?_
          refine g_iadd (q := 59) X12.here hx (hb hby d8_58) rfl ?_
          rw [show ((0 : Int32) + (1 : Int32)) = (1 : Int32) from by decide]
          refine g_istore (q := 61) (L' := #[.val (.ref t), .val (.long bd), .second, .val (.ref ot_), .val (.int (1 : Int32)), .val (.int (1 : Int32)), .val (.int (0 : Int32)), .val (.int (1 : Int32))]) X12.here hx (hb hby d8_59) rfl rfl ?_
          refine g_iload (q := 63) X12.here hx (hb hby d8_61) rfl rfl ?_
          refine g_iconst (q := 64) (v := (2 : Int32)) X12.here hx (hb hby d8_63) rfl rfl ?_
          refine g_iload (q := 66) X12.here hx (hb hby d8_64) rfl rfl ?_
          refine g_imul (q := 67) X12.here hx (hb hby d8_66) rfl ?_
          rw [show ((2 : Int32) * (0 : Int32)) = (0 : Int32) from by decide]
          refine g_iconst (q := 68) (v := (2 : Int32)) X12.here hx (hb hby d8_67) rfl rfl ?_
          refine g_iadd (q := 69) X12.here hx (hb hby d8_68) rfl ?_
          rw [show ((0 : Int32) + (2 : Int32)) = (2 : Int32) from by decide]
          refine g_icmp_gt (q := 113) (q0 := 72) X12.here hx (hb hby d8_69) (by decide) (by decide) rfl ?_ ?_
          · intro c23; exact absurd c23 (by decide)
          · intro c23
            refine g_iload (q := 74) X12.here hx (hb hby d8_72) rfl rfl ?_
            refine g_aloadN (q := 75) X12.here hx (hb hby d8_74) rfl rfl rfl ?_
            refine g_getF (q := 78) X12 hx hZ hown (hw _ (List.mem_of_getElem? (i := 26) rfl)) e12 F16 (hb hby d8_75) rfl ?_
            intro T24 X24 e24
            refine g_icmp_ge (q := 113) (q0 := 81) X24.here hx (hb hby d8_78) (by decide) (by decide) rfl ?_ ?_
            · intro c25
              refine g_goto (q := 37) X24.here hx (hb hby d8_113) (by decide) (by decide) ?_
              refine g_iload (q := 39) X24.here hx (hb hby d8_37) rfl rfl ?_
              refine g_iload (q := 41) X24.here hx (hb hby d8_39) rfl rfl ?_
              refine g_icmp_ge (q := 116) (q0 := 44) X24.here hx (hb hby d8_41) (by decide) (by decide) rfl ?_ ?_
              · intro c26
                refine g_iconst (q := 117) (v := (0 : Int32)) X24.here hx (hb hby d8_116) rfl rfl ?_
                refine g_istore (q := 119) (L' := #[.val (.ref t), .val (.long bd), .second, .val (.ref ot_), .val (.int (1 : Int32)), .val (.int (1 : Int32)), .val (.int (0 : Int32)), .val (.int (1 : Int32))]) X24.here hx (hb hby d8_117) rfl rfl ?_
                refine g_iload (q := 121) X24.here hx (hb hby d8_119) rfl rfl ?_
                refine g_iload (q := 123) X24.here hx (hb hby d8_121) rfl rfl ?_
                refine g_icmp_ge (q := 145) (q0 := 126) X24.here hx (hb hby d8_123) (by decide) (by decide) rfl ?_ ?_
                · intro c27; exact absurd c27 (by decide)
                · intro c27
                  refine g_aloadN (q := 127) X24.here hx (hb hby d8_126) rfl rfl rfl ?_
                  refine g_iload (q := 129) X24.here hx (hb hby d8_127) rfl rfl ?_
                  refine g_aloadN (q := 130) X24.here hx (hb hby d8_129) rfl rfl rfl ?_
                  refine g_getF (q := 133) X24 hx hZ hown (hw _ (List.mem_of_getElem? (i := 10) rfl)) e24 F14 (hb hby d8_130) rfl ?_
                  intro T28 X28 e28
                  refine g_aloadN (q := 134) X28.here hx (hb hby d8_133) rfl rfl rfl ?_
                  refine g_iload (q := 136) X28.here hx (hb hby d8_134) rfl rfl ?_
                  refine g_iload_ (q := 137) (i := 0) (v := (0 : Int32)) X28 hx hZ e28 A12 rfl rfl (hb hby d8_136) rfl ?_
                  refine g_iload_ (q := 138) (i := 0) (v := w0_) X28 hx hZ e28 F17 rfl rfl (hb hby d8_137) rfl ?_
                  refine g_istore_ (q := 139) (i := 0) (v := w0_) X28 hx hZ e28 A12 rfl (by show 0 < 4; decide) (hb hby d8_138) rfl ?_
                  intro T29 h29 X29 e29 W29 A29
                  replace A29 : IA Z h29 ot_ ([w0_, (0 : Int32), (0 : Int32), (0 : Int32)] : List Int32) := A29
                  have K30 := Keep.wr K13 W29 (Or.inl (by simp))
                  have F31 := Fld.other W29 F14 (Or.inl ne3_)
                  have F32 := Fld.other W29 F15 (Or.inl ne3_)
                  have F33 := Fld.other W29 F16 (Or.inl ne3_)
                  have F34 := ArrL.other F17 W29 ne4_
                  have F35 := ArrL.other F18 W29 ne5_
                  have N37 := Fr.snoc X29 N20 go_
                  have Z38 : n0 ≤ h29.size := Nat.le_trans Z21 (Nat.le_of_eq W29.size.symm)
                  refine g_iinc (q := 142) (v := (1 : Int32)) (L' := #[.val (.ref t), .val (.long bd), .second, .val (.ref ot_), .val (.int (1 : Int32)), .val (.int (1 : Int32)), .val (.int (1 : Int32)), .val (.int (1 : Int32))]) X29.here hx (hb hby d8_139) rfl rfl rfl rfl ?_
                  refine g_goto (q := 119) X29.here hx (hb hby d8_142) (by decide) (by decide) ?_
                  refine g_iload (q := 121) X29.here hx (hb hby d8_119) rfl rfl ?_
                  refine g_iload (q := 123) X29.here hx (hb hby d8_121) rfl rfl ?_
                  refine g_icmp_ge (q := 145) (q0 := 126) X29.here hx (hb hby d8_123) (by decide) (by decide) rfl ?_ ?_
                  · intro c39
                    refine g_iload (q := 147) X29.here hx (hb hby d8_145) rfl rfl ?_
                    exact g_ireturn X29 hx hlk hrt (hb hby d8_147) (by decide) (by decide) (by rw [e29]; exact ⟨_, [w0_, (0 : Int32), (0 : Int32), (0 : Int32)], 1, rfl, N37, K30, A29, rfl, rfl, by decide, (own_am I_ (l := [w0_]) (by rw [hM]; rfl) (by have ew0_ := decide_eq_true (show QK ky w0_ ≤ bd.toInt from c9); simp only [own_flt, List.filter_nil, ew0_]; first | done | rfl))⟩)
                  · intro c39; exact absurd c39 (by decide)
              · intro c26; exact absurd c26 (by decide)
            · intro c25; exact absurd c25 (by decide)
  · skip
    have vw0_ := own_val I_ (own_mem I_ (a := w0_) 0 (by rw [hM]; rfl))
    have vw1_ := own_val I_ (own_mem I_ (a := w1_) 1 (by rw [hM]; rfl))
    refine g_iconst (q := 1) (v := (0 : Int32)) X0.here hx (hb hby d8_0) rfl rfl ?_
    refine g_istore (q := 3) (L' := #[.val (.ref t), .val (.long bd), .second, .val (.ref ot_), .val (.int (0 : Int32)), .unset, .unset, .unset]) X0.here hx (hb hby d8_1) rfl rfl ?_
    refine g_iconst (q := 4) (v := (0 : Int32)) X0.here hx (hb hby d8_3) rfl rfl ?_
    refine g_istore (q := 6) (L' := #[.val (.ref t), .val (.long bd), .second, .val (.ref ot_), .val (.int (0 : Int32)), .val (.int (0 : Int32)), .unset, .unset]) X0.here hx (hb hby d8_4) rfl rfl ?_
    refine g_aloadN (q := 7) X0.here hx (hb hby d8_6) rfl rfl rfl ?_
    refine g_getF (q := 10) X0 hx hZ hown (hw _ (List.mem_of_getElem? (i := 26) rfl)) e0 F3_ (hb hby d8_7) rfl ?_
    intro T40 X40 e40
    refine g_if_le (q := 37) (q0 := 13) X40.here hx (hb hby d8_10) (by decide) (by decide) rfl ?_ ?_
    · intro c41; exact absurd c41 (by decide)
    · intro c41
      refine g_aloadN (q := 14) X40.here hx (hb hby d8_13) rfl rfl rfl ?_
      refine g_getF (q := 17) X40 hx hZ hown (hw _ (List.mem_of_getElem? (i := 15) rfl)) e40 F2_ (hb hby d8_14) rfl ?_
      intro T42 X42 e42
      refine g_aloadN (q := 18) X42.here hx (hb hby d8_17) rfl rfl rfl ?_
      refine g_getF (q := 21) X42 hx hZ hown (hw _ (List.mem_of_getElem? (i := 10) rfl)) e42 F0_ (hb hby d8_18) rfl ?_
      intro T43 X43 e43
      refine g_iconst (q := 22) (v := (0 : Int32)) X43.here hx (hb hby d8_21) rfl rfl ?_
      refine g_iload_ (q := 23) (i := 0) (v := w0_) X43 hx hZ e43 A0_ rfl rfl (hb hby d8_22) rfl ?_
      refine g_lload_ (q := 24) (i := w0_.toInt.toNat) (v := (ky.getD w0_.toInt.toNat 0)) X43 hx hZ e43 A2_ (own_tn vw0_.1) (own_gdJ (own_lt4 vw0_ hkl)) (hb hby d8_23) rfl ?_
      refine g_lloadN (q := 25) X43.here hx (hb hby d8_24) rfl rfl ?_
      refine g_lcmp_gt (q := 37) (q1 := 26) (q0 := 29) X43.here hx (hb hby d8_25) rfl (hb hby d8_26) (by decide) (by decide) rfl ?_ ?_
      · intro c44
        refine g_iload (q := 39) X43.here hx (hb hby d8_37) rfl rfl ?_
        refine g_iload (q := 41) X43.here hx (hb hby d8_39) rfl rfl ?_
        refine g_icmp_ge (q := 116) (q0 := 44) X43.here hx (hb hby d8_41) (by decide) (by decide) rfl ?_ ?_
        · intro c45
          refine g_iconst (q := 117) (v := (0 : Int32)) X43.here hx (hb hby d8_116) rfl rfl ?_
          refine g_istore (q := 119) (L' := #[.val (.ref t), .val (.long bd), .second, .val (.ref ot_), .val (.int (0 : Int32)), .val (.int (0 : Int32)), .val (.int (0 : Int32)), .unset]) X43.here hx (hb hby d8_117) rfl rfl ?_
          refine g_iload (q := 121) X43.here hx (hb hby d8_119) rfl rfl ?_
          refine g_iload (q := 123) X43.here hx (hb hby d8_121) rfl rfl ?_
          refine g_icmp_ge (q := 145) (q0 := 126) X43.here hx (hb hby d8_123) (by decide) (by decide) rfl ?_ ?_
          · intro c46
            refine g_iload (q := 147) X43.here hx (hb hby d8_145) rfl rfl ?_
            exact g_ireturn X43 hx hlk hrt (hb hby d8_147) (by decide) (by decide) (by rw [e43]; exact ⟨_, [(0 : Int32), (0 : Int32), (0 : Int32), (0 : Int32)], 0, rfl, N0, (Keep.refl h0 [ot_]), A3_, rfl, rfl, by decide, (own_am I_ (l := [w0_, w1_]) (by rw [hM]; rfl) (by have ew0_ := decide_eq_false (show ¬ (QK ky w0_ ≤ bd.toInt) from Int.not_le.mpr c44); have ew1_ := decide_eq_false (show ¬ (QK ky w1_ ≤ bd.toInt) from Int.not_le.mpr (Int.lt_of_lt_of_le c44 (show QK ky w0_ ≤ QK ky w1_ from I_.2.2.2.2.2.1.1 (by omega)))); simp only [own_flt, List.filter_nil, ew0_, ew1_]; first | done | rfl))⟩)
          · intro c46; exact absurd c46 (by decide)
        · intro c45; exact absurd c45 (by decide)
      · intro c44
        refine g_aloadN (q := 30) X43.here hx (hb hby d8_29) rfl rfl rfl ?_
        refine g_iload (q := 32) X43.here hx (hb hby d8_30) rfl rfl ?_
        refine g_iinc (q := 35) (v := (1 : Int32)) (L' := #[.val (.ref t), .val (.long bd), .second, .val (.ref ot_), .val (.int (1 : Int32)), .val (.int (0 : Int32)), .unset, .unset]) X43.here hx (hb hby d8_32) rfl rfl rfl rfl ?_
        refine g_iconst (q := 36) (v := (0 : Int32)) X43.here hx (hb hby d8_35) rfl rfl ?_
        refine g_istore_ (q := 37) (i := 0) (v := (0 : Int32)) X43 hx hZ e43 A3_ rfl (by show 0 < 4; decide) (hb hby d8_36) rfl ?_
        intro T47 h47 X47 e47 W47 A47
        replace A47 : IA Z h47 ot_ ([(0 : Int32), (0 : Int32), (0 : Int32), (0 : Int32)] : List Int32) := A47
        have K48 := Keep.wr (Keep.refl h0 [ot_]) W47 (Or.inl (by simp))
        have F49 := Fld.other W47 F0_ (Or.inl ne3_)
        have F50 := Fld.other W47 F2_ (Or.inl ne3_)
        have F51 := Fld.other W47 F3_ (Or.inl ne3_)
        have F52 := ArrL.other A0_ W47 ne4_
        have F53 := ArrL.other A2_ W47 ne5_
        have N55 := Fr.snoc X47 N0 go_
        have Z56 : n0 ≤ h47.size := Nat.le_trans Z0 (Nat.le_of_eq W47.size.symm)
        refine g_iload (q := 39) X47.here hx (hb hby d8_37) rfl rfl ?_
        refine g_iload (q := 41) X47.here hx (hb hby d8_39) rfl rfl ?_
        refine g_icmp_ge (q := 116) (q0 := 44) X47.here hx (hb hby d8_41) (by decide) (by decide) rfl ?_ ?_
        · intro c57; exact absurd c57 (by decide)
        · intro c57
          refine g_aloadN (q := 45) X47.here hx (hb hby d8_44) rfl rfl rfl ?_
          refine g_iload (q := 47) X47.here hx (hb hby d8_45) rfl rfl ?_
          refine g_iinc (q := 50) (v := (1 : Int32)) (L' := #[.val (.ref t), .val (.long bd), .second, .val (.ref ot_), .val (.int (1 : Int32)), .val (.int (1 : Int32)), .unset, .unset]) X47.here hx (hb hby d8_47) rfl rfl rfl rfl ?_
          refine g_iload_ (q := 51) (i := 0) (v := (0 : Int32)) X47 hx hZ e47 A47 rfl rfl (hb hby d8_50) rfl ?_
          refine g_istore (q := 53) (L' := #[.val (.ref t), .val (.long bd), .second, .val (.ref ot_), .val (.int (1 : Int32)), .val (.int (1 : Int32)), .val (.int (0 : Int32)), .unset]) X47.here hx (hb hby d8_51) rfl rfl ?_
          refine g_iconst (q := 54) (v := (2 : Int32)) X47.here hx (hb hby d8_53) rfl rfl ?_
          refine g_iload (q := 56) X47.here hx (hb hby d8_54) rfl rfl ?_
          refine g_imul (q := 57) X47.here hx (hb hby d8_56) rfl ?_
          rw [show ((2 : Int32) * (0 : Int32)) = (0 : Int32) from by decide]
          refine g_iconst (q := 58) (v := (1 : Int32)) X47.here hx (hb hby d8_57) rfl rfl ?_
          refine g_iadd (q := 59) X47.here hx (hb hby d8_58) rfl ?_
          rw [show ((0 : Int32) + (1 : Int32)) = (1 : Int32) from by decide]
          refine g_istore (q := 61) (L' := #[.val (.ref t), .val (.long bd), .second, .val (.ref ot_), .val (.int (1 : Int32)), .val (.int (1 : Int32)), .val (.int (0 : Int32)), .val (.int (1 : Int32))]) X47.here hx (hb hby d8_59) rfl rfl ?_
          refine g_iload (q := 63) X47.here hx (hb hby d8_61) rfl rfl ?_
          refine g_iconst (q := 64) (v := (2 : Int32)) X47.here hx (hb hby d8_63) rfl rfl ?_
          refine g_iload (q := 66) X47.here hx (hb hby d8_64) rfl rfl ?_
          refine g_imul (q := 67) X47.here hx (hb hby d8_66) rfl ?_
          rw [show ((2 : Int32) * (0 : Int32)) = (0 : Int32) from by decide]
          refine g_iconst (q := 68) (v := (2 : Int32)) X47.here hx (hb hby d8_67) rfl rfl ?_
          refine g_iadd (q := 69) X47.here hx (hb hby d8_68) rfl ?_
          rw [show ((0 : Int32) + (2 : Int32)) = (2 : Int32) from by decide]
          refine g_icmp_gt (q := 113) (q0 := 72) X47.here hx (hb hby d8_69) (by decide) (by decide) rfl ?_ ?_
          · intro c58; exact absurd c58 (by decide)
          · intro c58
            refine g_iload (q := 74) X47.here hx (hb hby d8_72) rfl rfl ?_
            refine g_aloadN (q := 75) X47.here hx (hb hby d8_74) rfl rfl rfl ?_
            refine g_getF (q := 78) X47 hx hZ hown (hw _ (List.mem_of_getElem? (i := 26) rfl)) e47 F51 (hb hby d8_75) rfl ?_
            intro T59 X59 e59
            refine g_icmp_ge (q := 113) (q0 := 81) X59.here hx (hb hby d8_78) (by decide) (by decide) rfl ?_ ?_
            · intro c60; exact absurd c60 (by decide)
            · intro c60
              refine g_aloadN (q := 82) X59.here hx (hb hby d8_81) rfl rfl rfl ?_
              refine g_getF (q := 85) X59 hx hZ hown (hw _ (List.mem_of_getElem? (i := 15) rfl)) e59 F50 (hb hby d8_82) rfl ?_
              intro T61 X61 e61
              refine g_aloadN (q := 86) X61.here hx (hb hby d8_85) rfl rfl rfl ?_
              refine g_getF (q := 89) X61 hx hZ hown (hw _ (List.mem_of_getElem? (i := 10) rfl)) e61 F49 (hb hby d8_86) rfl ?_
              intro T62 X62 e62
              refine g_iload (q := 91) X62.here hx (hb hby d8_89) rfl rfl ?_
              refine g_iload_ (q := 92) (i := 1) (v := w1_) X62 hx hZ e62 F52 rfl rfl (hb hby d8_91) rfl ?_
              refine g_lload_ (q := 93) (i := w1_.toInt.toNat) (v := (ky.getD w1_.toInt.toNat 0)) X62 hx hZ e62 F53 (own_tn vw1_.1) (own_gdJ (own_lt4 vw1_ hkl)) (hb hby d8_92) rfl ?_
              refine g_lloadN (q := 94) X62.here hx (hb hby d8_93) rfl rfl ?_
              refine g_lcmp_gt (q := 107) (q1 := 95) (q0 := 98) X62.here hx (hb hby d8_94) rfl (hb hby d8_95) (by decide) (by decide) rfl ?_ ?_
              · intro c63
                refine g_iinc (q := 110) (v := (2 : Int32)) (L' := #[.val (.ref t), .val (.long bd), .second, .val (.ref ot_), .val (.int (1 : Int32)), .val (.int (1 : Int32)), .val (.int (0 : Int32)), .val (.int (2 : Int32))]) X62.here hx (hb hby d8_107) rfl rfl rfl rfl ?_
                refine g_goto (q := 61) X62.here hx (hb hby d8_110) (by decide) (by decide) ?_
                refine g_iload (q := 63) X62.here hx (hb hby d8_61) rfl rfl ?_
                refine g_iconst (q := 64) (v := (2 : Int32)) X62.here hx (hb hby d8_63) rfl rfl ?_
                refine g_iload (q := 66) X62.here hx (hb hby d8_64) rfl rfl ?_
                refine g_imul (q := 67) X62.here hx (hb hby d8_66) rfl ?_
                rw [show ((2 : Int32) * (0 : Int32)) = (0 : Int32) from by decide]
                refine g_iconst (q := 68) (v := (2 : Int32)) X62.here hx (hb hby d8_67) rfl rfl ?_
                refine g_iadd (q := 69) X62.here hx (hb hby d8_68) rfl ?_
                rw [show ((0 : Int32) + (2 : Int32)) = (2 : Int32) from by decide]
                refine g_icmp_gt (q := 113) (q0 := 72) X62.here hx (hb hby d8_69) (by decide) (by decide) rfl ?_ ?_
                · intro c64; exact absurd c64 (by decide)
                · intro c64
                  refine g_iload (q := 74) X62.here hx (hb hby d8_72) rfl rfl ?_
                  refine g_aloadN (q := 75) X62.here hx (hb hby d8_74) rfl rfl rfl ?_
                  refine g_getF (q := 78) X62 hx hZ hown (hw _ (List.mem_of_getElem? (i := 26) rfl)) e62 F51 (hb hby d8_75) rfl ?_
                  intro T65 X65 e65
                  refine g_icmp_ge (q := 113) (q0 := 81) X65.here hx (hb hby d8_78) (by decide) (by decide) rfl ?_ ?_
                  · intro c66
                    refine g_goto (q := 37) X65.here hx (hb hby d8_113) (by decide) (by decide) ?_
                    refine g_iload (q := 39) X65.here hx (hb hby d8_37) rfl rfl ?_
                    refine g_iload (q := 41) X65.here hx (hb hby d8_39) rfl rfl ?_
                    refine g_icmp_ge (q := 116) (q0 := 44) X65.here hx (hb hby d8_41) (by decide) (by decide) rfl ?_ ?_
                    · intro c67
                      refine g_iconst (q := 117) (v := (0 : Int32)) X65.here hx (hb hby d8_116) rfl rfl ?_
                      refine g_istore (q := 119) (L' := #[.val (.ref t), .val (.long bd), .second, .val (.ref ot_), .val (.int (1 : Int32)), .val (.int (1 : Int32)), .val (.int (0 : Int32)), .val (.int (2 : Int32))]) X65.here hx (hb hby d8_117) rfl rfl ?_
                      refine g_iload (q := 121) X65.here hx (hb hby d8_119) rfl rfl ?_
                      refine g_iload (q := 123) X65.here hx (hb hby d8_121) rfl rfl ?_
                      refine g_icmp_ge (q := 145) (q0 := 126) X65.here hx (hb hby d8_123) (by decide) (by decide) rfl ?_ ?_
                      · intro c68; exact absurd c68 (by decide)
                      · intro c68
                        refine g_aloadN (q := 127) X65.here hx (hb hby d8_126) rfl rfl rfl ?_
                        refine g_iload (q := 129) X65.here hx (hb hby d8_127) rfl rfl ?_
                        refine g_aloadN (q := 130) X65.here hx (hb hby d8_129) rfl rfl rfl ?_
                        refine g_getF (q := 133) X65 hx hZ hown (hw _ (List.mem_of_getElem? (i := 10) rfl)) e65 F49 (hb hby d8_130) rfl ?_
                        intro T69 X69 e69
                        refine g_aloadN (q := 134) X69.here hx (hb hby d8_133) rfl rfl rfl ?_
                        refine g_iload (q := 136) X69.here hx (hb hby d8_134) rfl rfl ?_
                        refine g_iload_ (q := 137) (i := 0) (v := (0 : Int32)) X69 hx hZ e69 A47 rfl rfl (hb hby d8_136) rfl ?_
                        refine g_iload_ (q := 138) (i := 0) (v := w0_) X69 hx hZ e69 F52 rfl rfl (hb hby d8_137) rfl ?_
                        refine g_istore_ (q := 139) (i := 0) (v := w0_) X69 hx hZ e69 A47 rfl (by show 0 < 4; decide) (hb hby d8_138) rfl ?_
                        intro T70 h70 X70 e70 W70 A70
                        replace A70 : IA Z h70 ot_ ([w0_, (0 : Int32), (0 : Int32), (0 : Int32)] : List Int32) := A70
                        have K71 := Keep.wr K48 W70 (Or.inl (by simp))
                        have F72 := Fld.other W70 F49 (Or.inl ne3_)
                        have F73 := Fld.other W70 F50 (Or.inl ne3_)
                        have F74 := Fld.other W70 F51 (Or.inl ne3_)
                        have F75 := ArrL.other F52 W70 ne4_
                        have F76 := ArrL.other F53 W70 ne5_
                        have N78 := Fr.snoc X70 N55 go_
                        have Z79 : n0 ≤ h70.size := Nat.le_trans Z56 (Nat.le_of_eq W70.size.symm)
                        refine g_iinc (q := 142) (v := (1 : Int32)) (L' := #[.val (.ref t), .val (.long bd), .second, .val (.ref ot_), .val (.int (1 : Int32)), .val (.int (1 : Int32)), .val (.int (1 : Int32)), .val (.int (2 : Int32))]) X70.here hx (hb hby d8_139) rfl rfl rfl rfl ?_
                        refine g_goto (q := 119) X70.here hx (hb hby d8_142) (by decide) (by decide) ?_
                        refine g_iload (q := 121) X70.here hx (hb hby d8_119) rfl rfl ?_
                        refine g_iload (q := 123) X70.here hx (hb hby d8_121) rfl rfl ?_
                        refine g_icmp_ge (q := 145) (q0 := 126) X70.here hx (hb hby d8_123) (by decide) (by decide) rfl ?_ ?_
                        · intro c80
                          refine g_iload (q := 147) X70.here hx (hb hby d8_145) rfl rfl ?_
                          exact g_ireturn X70 hx hlk hrt (hb hby d8_147) (by decide) (by decide) (by rw [e70]; exact ⟨_, [w0_, (0 : Int32), (0 : Int32), (0 : Int32)], 1, rfl, N78, K71, A70, rfl, rfl, by decide, (own_am I_ (l := [w0_, w1_]) (by rw [hM]; rfl) (by have ew0_ := decide_eq_true (show QK ky w0_ ≤ bd.toInt from c44); have ew1_ := decide_eq_false (show ¬ (QK ky w1_ ≤ bd.toInt) from Int.not_le.mpr c63); simp only [own_flt, List.filter_nil, ew0_, ew1_]; first | done | rfl))⟩)
                        · intro c80; exact absurd c80 (by decide)
                    · intro c67; exact absurd c67 (by decide)
                  · intro c66; exact absurd c66 (by decide)
              · intro c63
                refine g_aloadN (q := 99) X62.here hx (hb hby d8_98) rfl rfl rfl ?_
                refine g_iload (q := 101) X62.here hx (hb hby d8_99) rfl rfl ?_
                refine g_iinc (q := 104) (v := (2 : Int32)) (L' := #[.val (.ref t), .val (.long bd), .second, .val (.ref ot_), .val (.int (2 : Int32)), .val (.int (1 : Int32)), .val (.int (0 : Int32)), .val (.int (1 : Int32))]) X62.here hx (hb hby d8_101) rfl rfl rfl rfl ?_
                refine g_iload (q := 106) X62.here hx (hb hby d8_104) rfl rfl ?_
                refine g_istore_ (q := 107) (i := 1) (v := (1 : Int32)) X62 hx hZ e62 A47 rfl (by show 1 < 4; decide) (hb hby d8_106) rfl ?_
                intro T81 h81 X81 e81 W81 A81
                replace A81 : IA Z h81 ot_ ([(0 : Int32), (1 : Int32), (0 : Int32), (0 : Int32)] : List Int32) := A81
                have K82 := Keep.wr K48 W81 (Or.inl (by simp))
                have F83 := Fld.other W81 F49 (Or.inl ne3_)
                have F84 := Fld.other W81 F50 (Or.inl ne3_)
                have F85 := Fld.other W81 F51 (Or.inl ne3_)
                have F86 := ArrL.other F52 W81 ne4_
                have F87 := ArrL.other F53 W81 ne5_
                have N89 := Fr.snoc X81 N55 go_
                have Z90 : n0 ≤ h81.size := Nat.le_trans Z56 (Nat.le_of_eq W81.size.symm)
                refine g_iinc (q := 110) (v := (2 : Int32)) (L' := #[.val (.ref t), .val (.long bd), .second, .val (.ref ot_), .val (.int (2 : Int32)), .val (.int (1 : Int32)), .val (.int (0 : Int32)), .val (.int (2 : Int32))]) X81.here hx (hb hby d8_107) rfl rfl rfl rfl ?_
                refine g_goto (q := 61) X81.here hx (hb hby d8_110) (by decide) (by decide) ?_
                refine g_iload (q := 63) X81.here hx (hb hby d8_61) rfl rfl ?_
                refine g_iconst (q := 64) (v := (2 : Int32)) X81.here hx (hb hby d8_63) rfl rfl ?_
                refine g_iload (q := 66) X81.here hx (hb hby d8_64) rfl rfl ?_
                refine g_imul (q := 67) X81.here hx (hb hby d8_66) rfl ?_
                rw [show ((2 : Int32) * (0 : Int32)) = (0 : Int32) from by decide]
                refine g_iconst (q := 68) (v := (2 : Int32)) X81.here hx (hb hby d8_67) rfl rfl ?_
                refine g_iadd (q := 69) X81.here hx (hb hby d8_68) rfl ?_
                rw [show ((0 : Int32) + (2 : Int32)) = (2 : Int32) from by decide]
                refine g_icmp_gt (q := 113) (q0 := 72) X81.here hx (hb hby d8_69) (by decide) (by decide) rfl ?_ ?_
                · intro c91; exact absurd c91 (by decide)
                · intro c91
                  refine g_iload (q := 74) X81.here hx (hb hby d8_72) rfl rfl ?_
                  refine g_aloadN (q := 75) X81.here hx (hb hby d8_74) rfl rfl rfl ?_
                  refine g_getF (q := 78) X81 hx hZ hown (hw _ (List.mem_of_getElem? (i := 26) rfl)) e81 F85 (hb hby d8_75) rfl ?_
                  intro T92 X92 e92
                  refine g_icmp_ge (q := 113) (q0 := 81) X92.here hx (hb hby d8_78) (by decide) (by decide) rfl ?_ ?_
                  · intro c93
                    refine g_goto (q := 37) X92.here hx (hb hby d8_113) (by decide) (by decide) ?_
                    refine g_iload (q := 39) X92.here hx (hb hby d8_37) rfl rfl ?_
                    refine g_iload (q := 41) X92.here hx (hb hby d8_39) rfl rfl ?_
                    refine g_icmp_ge (q := 116) (q0 := 44) X92.here hx (hb hby d8_41) (by decide) (by decide) rfl ?_ ?_
                    · intro c94; exact absurd c94 (by decide)
                    · intro c94
                      refine g_aloadN (q := 45) X92.here hx (hb hby d8_44) rfl rfl rfl ?_
                      refine g_iload (q := 47) X92.here hx (hb hby d8_45) rfl rfl ?_
                      refine g_iinc (q := 50) (v := (2 : Int32)) (L' := #[.val (.ref t), .val (.long bd), .second, .val (.ref ot_), .val (.int (2 : Int32)), .val (.int (2 : Int32)), .val (.int (0 : Int32)), .val (.int (2 : Int32))]) X92.here hx (hb hby d8_47) rfl rfl rfl rfl ?_
                      refine g_iload_ (q := 51) (i := 1) (v := (1 : Int32)) X92 hx hZ e92 A81 rfl rfl (hb hby d8_50) rfl ?_
                      refine g_istore (q := 53) (L' := #[.val (.ref t), .val (.long bd), .second, .val (.ref ot_), .val (.int (2 : Int32)), .val (.int (2 : Int32)), .val (.int (1 : Int32)), .val (.int (2 : Int32))]) X92.here hx (hb hby d8_51) rfl rfl ?_
                      refine g_iconst (q := 54) (v := (2 : Int32)) X92.here hx (hb hby d8_53) rfl rfl ?_
                      refine g_iload (q := 56) X92.here hx (hb hby d8_54) rfl rfl ?_
                      refine g_imul (q := 57) X92.here hx (hb hby d8_56) rfl ?_
                      rw [show ((2 : Int32) * (1 : Int32)) = (2 : Int32) from by decide]
                      refine g_iconst (q := 58) (v := (1 : Int32)) X92.here hx (hb hby d8_57) rfl rfl ?_
                      refine g_iadd (q := 59) X92.here hx (hb hby d8_58) rfl ?_
                      rw [show ((2 : Int32) + (1 : Int32)) = (3 : Int32) from by decide]
                      refine g_istore (q := 61) (L' := #[.val (.ref t), .val (.long bd), .second, .val (.ref ot_), .val (.int (2 : Int32)), .val (.int (2 : Int32)), .val (.int (1 : Int32)), .val (.int (3 : Int32))]) X92.here hx (hb hby d8_59) rfl rfl ?_
                      refine g_iload (q := 63) X92.here hx (hb hby d8_61) rfl rfl ?_
                      refine g_iconst (q := 64) (v := (2 : Int32)) X92.here hx (hb hby d8_63) rfl rfl ?_
                      refine g_iload (q := 66) X92.here hx (hb hby d8_64) rfl rfl ?_
                      refine g_imul (q := 67) X92.here hx (hb hby d8_66) rfl ?_
                      rw [show ((2 : Int32) * (1 : Int32)) = (2 : Int32) from by decide]
                      refine g_iconst (q := 68) (v := (2 : Int32)) X92.here hx (hb hby d8_67) rfl rfl ?_
                      refine g_iadd (q := 69) X92.here hx (hb hby d8_68) rfl ?_
                      rw [show ((2 : Int32) + (2 : Int32)) = (4 : Int32) from by decide]
                      refine g_icmp_gt (q := 113) (q0 := 72) X92.here hx (hb hby d8_69) (by decide) (by decide) rfl ?_ ?_
                      · intro c95; exact absurd c95 (by decide)
                      · intro c95
                        refine g_iload (q := 74) X92.here hx (hb hby d8_72) rfl rfl ?_
                        refine g_aloadN (q := 75) X92.here hx (hb hby d8_74) rfl rfl rfl ?_
                        refine g_getF (q := 78) X92 hx hZ hown (hw _ (List.mem_of_getElem? (i := 26) rfl)) e92 F85 (hb hby d8_75) rfl ?_
                        intro T96 X96 e96
                        refine g_icmp_ge (q := 113) (q0 := 81) X96.here hx (hb hby d8_78) (by decide) (by decide) rfl ?_ ?_
                        · intro c97
                          refine g_goto (q := 37) X96.here hx (hb hby d8_113) (by decide) (by decide) ?_
                          refine g_iload (q := 39) X96.here hx (hb hby d8_37) rfl rfl ?_
                          refine g_iload (q := 41) X96.here hx (hb hby d8_39) rfl rfl ?_
                          refine g_icmp_ge (q := 116) (q0 := 44) X96.here hx (hb hby d8_41) (by decide) (by decide) rfl ?_ ?_
                          · intro c98
                            refine g_iconst (q := 117) (v := (0 : Int32)) X96.here hx (hb hby d8_116) rfl rfl ?_
                            refine g_istore (q := 119) (L' := #[.val (.ref t), .val (.long bd), .second, .val (.ref ot_), .val (.int (2 : Int32)), .val (.int (2 : Int32)), .val (.int (0 : Int32)), .val (.int (3 : Int32))]) X96.here hx (hb hby d8_117) rfl rfl ?_
                            refine g_iload (q := 121) X96.here hx (hb hby d8_119) rfl rfl ?_
                            refine g_iload (q := 123) X96.here hx (hb hby d8_121) rfl rfl ?_
                            refine g_icmp_ge (q := 145) (q0 := 126) X96.here hx (hb hby d8_123) (by decide) (by decide) rfl ?_ ?_
                            · intro c99; exact absurd c99 (by decide)
                            · intro c99
                              refine g_aloadN (q := 127) X96.here hx (hb hby d8_126) rfl rfl rfl ?_
                              refine g_iload (q := 129) X96.here hx (hb hby d8_127) rfl rfl ?_
                              refine g_aloadN (q := 130) X96.here hx (hb hby d8_129) rfl rfl rfl ?_
                              refine g_getF (q := 133) X96 hx hZ hown (hw _ (List.mem_of_getElem? (i := 10) rfl)) e96 F83 (hb hby d8_130) rfl ?_
                              intro T100 X100 e100
                              refine g_aloadN (q := 134) X100.here hx (hb hby d8_133) rfl rfl rfl ?_
                              refine g_iload (q := 136) X100.here hx (hb hby d8_134) rfl rfl ?_
                              refine g_iload_ (q := 137) (i := 0) (v := (0 : Int32)) X100 hx hZ e100 A81 rfl rfl (hb hby d8_136) rfl ?_
                              refine g_iload_ (q := 138) (i := 0) (v := w0_) X100 hx hZ e100 F86 rfl rfl (hb hby d8_137) rfl ?_
                              refine g_istore_ (q := 139) (i := 0) (v := w0_) X100 hx hZ e100 A81 rfl (by show 0 < 4; decide) (hb hby d8_138) rfl ?_
                              intro T101 h101 X101 e101 W101 A101
                              replace A101 : IA Z h101 ot_ ([w0_, (1 : Int32), (0 : Int32), (0 : Int32)] : List Int32) := A101
                              have K102 := Keep.wr K82 W101 (Or.inl (by simp))
                              have F103 := Fld.other W101 F83 (Or.inl ne3_)
                              have F104 := Fld.other W101 F84 (Or.inl ne3_)
                              have F105 := Fld.other W101 F85 (Or.inl ne3_)
                              have F106 := ArrL.other F86 W101 ne4_
                              have F107 := ArrL.other F87 W101 ne5_
                              have N109 := Fr.snoc X101 N89 go_
                              have Z110 : n0 ≤ h101.size := Nat.le_trans Z90 (Nat.le_of_eq W101.size.symm)
                              refine g_iinc (q := 142) (v := (1 : Int32)) (L' := #[.val (.ref t), .val (.long bd), .second, .val (.ref ot_), .val (.int (2 : Int32)), .val (.int (2 : Int32)), .val (.int (1 : Int32)), .val (.int (3 : Int32))]) X101.here hx (hb hby d8_139) rfl rfl rfl rfl ?_
                              refine g_goto (q := 119) X101.here hx (hb hby d8_142) (by decide) (by decide) ?_
                              refine g_iload (q := 121) X101.here hx (hb hby d8_119) rfl rfl ?_
                              refine g_iload (q := 123) X101.here hx (hb hby d8_121) rfl rfl ?_
                              refine g_icmp_ge (q := 145) (q0 := 126) X101.here hx (hb hby d8_123) (by decide) (by decide) rfl ?_ ?_
                              · intro c111; exact absurd c111 (by decide)
                              · intro c111
                                refine g_aloadN (q := 127) X101.here hx (hb hby d8_126) rfl rfl rfl ?_
                                refine g_iload (q := 129) X101.here hx (hb hby d8_127) rfl rfl ?_
                                refine g_aloadN (q := 130) X101.here hx (hb hby d8_129) rfl rfl rfl ?_
                                refine g_getF (q := 133) X101 hx hZ hown (hw _ (List.mem_of_getElem? (i := 10) rfl)) e101 F103 (hb hby d8_130) rfl ?_
                                intro T112 X112 e112
                                refine g_aloadN (q := 134) X112.here hx (hb hby d8_133) rfl rfl rfl ?_
                                refine g_iload (q := 136) X112.here hx (hb hby d8_134) rfl rfl ?_
                                refine g_iload_ (q := 137) (i := 1) (v := (1 : Int32)) X112 hx hZ e112 A101 rfl rfl (hb hby d8_136) rfl ?_
                                refine g_iload_ (q := 138) (i := 1) (v := w1_) X112 hx hZ e112 F106 rfl rfl (hb hby d8_137) rfl ?_
                                refine g_istore_ (q := 139) (i := 1) (v := w1_) X112 hx hZ e112 A101 rfl (by show 1 < 4; decide) (hb hby d8_138) rfl ?_
                                intro T113 h113 X113 e113 W113 A113
                                replace A113 : IA Z h113 ot_ ([w0_, w1_, (0 : Int32), (0 : Int32)] : List Int32) := A113
                                have K114 := Keep.wr K102 W113 (Or.inl (by simp))
                                have F115 := Fld.other W113 F103 (Or.inl ne3_)
                                have F116 := Fld.other W113 F104 (Or.inl ne3_)
                                have F117 := Fld.other W113 F105 (Or.inl ne3_)
                                have F118 := ArrL.other F106 W113 ne4_
                                have F119 := ArrL.other F107 W113 ne5_
                                have N121 := Fr.snoc X113 N109 go_
                                have Z122 : n0 ≤ h113.size := Nat.le_trans Z110 (Nat.le_of_eq W113.size.symm)
                                refine g_iinc (q := 142) (v := (2 : Int32)) (L' := #[.val (.ref t), .val (.long bd), .second, .val (.ref ot_), .val (.int (2 : Int32)), .val (.int (2 : Int32)), .val (.int (2 : Int32)), .val (.int (3 : Int32))]) X113.here hx (hb hby d8_139) rfl rfl rfl rfl ?_
                                refine g_goto (q := 119) X113.here hx (hb hby d8_142) (by decide) (by decide) ?_
                                refine g_iload (q := 121) X113.here hx (hb hby d8_119) rfl rfl ?_
                                refine g_iload (q := 123) X113.here hx (hb hby d8_121) rfl rfl ?_
                                refine g_icmp_ge (q := 145) (q0 := 126) X113.here hx (hb hby d8_123) (by decide) (by decide) rfl ?_ ?_
                                · intro c123
                                  refine g_iload (q := 147) X113.here hx (hb hby d8_145) rfl rfl ?_
                                  exact g_ireturn X113 hx hlk hrt (hb hby d8_147) (by decide) (by decide) (by rw [e113]; exact ⟨_, [w0_, w1_, (0 : Int32), (0 : Int32)], 2, rfl, N121, K114, A113, rfl, rfl, by decide, (own_am I_ (l := [w0_, w1_]) (by rw [hM]; rfl) (by have ew0_ := decide_eq_true (show QK ky w0_ ≤ bd.toInt from c44); have ew1_ := decide_eq_true (show QK ky w1_ ≤ bd.toInt from c63); simp only [own_flt, List.filter_nil, ew0_, ew1_]; first | done | rfl))⟩)
                                · intro c123; exact absurd c123 (by decide)
                          · intro c98; exact absurd c98 (by decide)
                        · intro c97; exact absurd c97 (by decide)
                  · intro c93; exact absurd c93 (by decide)
  · skip
    have vw0_ := own_val I_ (own_mem I_ (a := w0_) 0 (by rw [hM]; rfl))
    have vw1_ := own_val I_ (own_mem I_ (a := w1_) 1 (by rw [hM]; rfl))
    have vw2_ := own_val I_ (own_mem I_ (a := w2_) 2 (by rw [hM]; rfl))
    refine g_iconst (q := 1) (v := (0 : Int32)) X0.here hx (hb hby d8_0) rfl rfl ?_
    refine g_istore (q := 3) (L' := #[.val (.ref t), .val (.long bd), .second, .val (.ref ot_), .val (.int (0 : Int32)), .unset, .unset, .unset]) X0.here hx (hb hby d8_1) rfl rfl ?_
    refine g_iconst (q := 4) (v := (0 : Int32)) X0.here hx (hb hby d8_3) rfl rfl ?_
    refine g_istore (q := 6) (L' := #[.val (.ref t), .val (.long bd), .second, .val (.ref ot_), .val (.int (0 : Int32)), .val (.int (0 : Int32)), .unset, .unset]) X0.here hx (hb hby d8_4) rfl rfl ?_
    refine g_aloadN (q := 7) X0.here hx (hb hby d8_6) rfl rfl rfl ?_
    refine g_getF (q := 10) X0 hx hZ hown (hw _ (List.mem_of_getElem? (i := 26) rfl)) e0 F3_ (hb hby d8_7) rfl ?_
    intro T124 X124 e124
    refine g_if_le (q := 37) (q0 := 13) X124.here hx (hb hby d8_10) (by decide) (by decide) rfl ?_ ?_
    · intro c125; exact absurd c125 (by decide)
    · intro c125
      refine g_aloadN (q := 14) X124.here hx (hb hby d8_13) rfl rfl rfl ?_
      refine g_getF (q := 17) X124 hx hZ hown (hw _ (List.mem_of_getElem? (i := 15) rfl)) e124 F2_ (hb hby d8_14) rfl ?_
      intro T126 X126 e126
      refine g_aloadN (q := 18) X126.here hx (hb hby d8_17) rfl rfl rfl ?_
      refine g_getF (q := 21) X126 hx hZ hown (hw _ (List.mem_of_getElem? (i := 10) rfl)) e126 F0_ (hb hby d8_18) rfl ?_
      intro T127 X127 e127
      refine g_iconst (q := 22) (v := (0 : Int32)) X127.here hx (hb hby d8_21) rfl rfl ?_
      refine g_iload_ (q := 23) (i := 0) (v := w0_) X127 hx hZ e127 A0_ rfl rfl (hb hby d8_22) rfl ?_
      refine g_lload_ (q := 24) (i := w0_.toInt.toNat) (v := (ky.getD w0_.toInt.toNat 0)) X127 hx hZ e127 A2_ (own_tn vw0_.1) (own_gdJ (own_lt4 vw0_ hkl)) (hb hby d8_23) rfl ?_
      refine g_lloadN (q := 25) X127.here hx (hb hby d8_24) rfl rfl ?_
      refine g_lcmp_gt (q := 37) (q1 := 26) (q0 := 29) X127.here hx (hb hby d8_25) rfl (hb hby d8_26) (by decide) (by decide) rfl ?_ ?_
      · intro c128
        refine g_iload (q := 39) X127.here hx (hb hby d8_37) rfl rfl ?_
        refine g_iload (q := 41) X127.here hx (hb hby d8_39) rfl rfl ?_
        refine g_icmp_ge (q := 116) (q0 := 44) X127.here hx (hb hby d8_41) (by decide) (by decide) rfl ?_ ?_
        · intro c129
          refine g_iconst (q := 117) (v := (0 : Int32)) X127.here hx (hb hby d8_116) rfl rfl ?_
          refine g_istore (q := 119) (L' := #[.val (.ref t), .val (.long bd), .second, .val (.ref ot_), .val (.int (0 : Int32)), .val (.int (0 : Int32)), .val (.int (0 : Int32)), .unset]) X127.here hx (hb hby d8_117) rfl rfl ?_
          refine g_iload (q := 121) X127.here hx (hb hby d8_119) rfl rfl ?_
          refine g_iload (q := 123) X127.here hx (hb hby d8_121) rfl rfl ?_
          refine g_icmp_ge (q := 145) (q0 := 126) X127.here hx (hb hby d8_123) (by decide) (by decide) rfl ?_ ?_
          · intro c130
            refine g_iload (q := 147) X127.here hx (hb hby d8_145) rfl rfl ?_
            exact g_ireturn X127 hx hlk hrt (hb hby d8_147) (by decide) (by decide) (by rw [e127]; exact ⟨_, [(0 : Int32), (0 : Int32), (0 : Int32), (0 : Int32)], 0, rfl, N0, (Keep.refl h0 [ot_]), A3_, rfl, rfl, by decide, (own_am I_ (l := [w0_, w1_, w2_]) (by rw [hM]; rfl) (by have ew0_ := decide_eq_false (show ¬ (QK ky w0_ ≤ bd.toInt) from Int.not_le.mpr c128); have ew1_ := decide_eq_false (show ¬ (QK ky w1_ ≤ bd.toInt) from Int.not_le.mpr (Int.lt_of_lt_of_le c128 (show QK ky w0_ ≤ QK ky w1_ from I_.2.2.2.2.2.1.1 (by omega)))); have ew2_ := decide_eq_false (show ¬ (QK ky w2_ ≤ bd.toInt) from Int.not_le.mpr (Int.lt_of_lt_of_le c128 (show QK ky w0_ ≤ QK ky w2_ from I_.2.2.2.2.2.1.2.1 (by omega)))); simp only [own_flt, List.filter_nil, ew0_, ew1_, ew2_]; first | done | rfl))⟩)
          · intro c130; exact absurd c130 (by decide)
        · intro c129; exact absurd c129 (by decide)
      · intro c128
        refine g_aloadN (q := 30) X127.here hx (hb hby d8_29) rfl rfl rfl ?_
        refine g_iload (q := 32) X127.here hx (hb hby d8_30) rfl rfl ?_
        refine g_iinc (q := 35) (v := (1 : Int32)) (L' := #[.val (.ref t), .val (.long bd), .second, .val (.ref ot_), .val (.int (1 : Int32)), .val (.int (0 : Int32)), .unset, .unset]) X127.here hx (hb hby d8_32) rfl rfl rfl rfl ?_
        refine g_iconst (q := 36) (v := (0 : Int32)) X127.here hx (hb hby d8_35) rfl rfl ?_
        refine g_istore_ (q := 37) (i := 0) (v := (0 : Int32)) X127 hx hZ e127 A3_ rfl (by show 0 < 4; decide) (hb hby d8_36) rfl ?_
        intro T131 h131 X131 e131 W131 A131
        replace A131 : IA Z h131 ot_ ([(0 : Int32), (0 : Int32), (0 : Int32), (0 : Int32)] : List Int32) := A131
        have K132 := Keep.wr (Keep.refl h0 [ot_]) W131 (Or.inl (by simp))
        have F133 := Fld.other W131 F0_ (Or.inl ne3_)
        have F134 := Fld.other W131 F2_ (Or.inl ne3_)
        have F135 := Fld.other W131 F3_ (Or.inl ne3_)
        have F136 := ArrL.other A0_ W131 ne4_
        have F137 := ArrL.other A2_ W131 ne5_
        have N139 := Fr.snoc X131 N0 go_
        have Z140 : n0 ≤ h131.size := Nat.le_trans Z0 (Nat.le_of_eq W131.size.symm)
        refine g_iload (q := 39) X131.here hx (hb hby d8_37) rfl rfl ?_
        refine g_iload (q := 41) X131.here hx (hb hby d8_39) rfl rfl ?_
        refine g_icmp_ge (q := 116) (q0 := 44) X131.here hx (hb hby d8_41) (by decide) (by decide) rfl ?_ ?_
        · intro c141; exact absurd c141 (by decide)
        · intro c141
          refine g_aloadN (q := 45) X131.here hx (hb hby d8_44) rfl rfl rfl ?_
          refine g_iload (q := 47) X131.here hx (hb hby d8_45) rfl rfl ?_
          refine g_iinc (q := 50) (v := (1 : Int32)) (L' := #[.val (.ref t), .val (.long bd), .second, .val (.ref ot_), .val (.int (1 : Int32)), .val (.int (1 : Int32)), .unset, .unset]) X131.here hx (hb hby d8_47) rfl rfl rfl rfl ?_
          refine g_iload_ (q := 51) (i := 0) (v := (0 : Int32)) X131 hx hZ e131 A131 rfl rfl (hb hby d8_50) rfl ?_
          refine g_istore (q := 53) (L' := #[.val (.ref t), .val (.long bd), .second, .val (.ref ot_), .val (.int (1 : Int32)), .val (.int (1 : Int32)), .val (.int (0 : Int32)), .unset]) X131.here hx (hb hby d8_51) rfl rfl ?_
          refine g_iconst (q := 54) (v := (2 : Int32)) X131.here hx (hb hby d8_53) rfl rfl ?_
          refine g_iload (q := 56) X131.here hx (hb hby d8_54) rfl rfl ?_
          refine g_imul (q := 57) X131.here hx (hb hby d8_56) rfl ?_
          rw [show ((2 : Int32) * (0 : Int32)) = (0 : Int32) from by decide]
          refine g_iconst (q := 58) (v := (1 : Int32)) X131.here hx (hb hby d8_57) rfl rfl ?_
          refine g_iadd (q := 59) X131.here hx (hb hby d8_58) rfl ?_
          rw [show ((0 : Int32) + (1 : Int32)) = (1 : Int32) from by decide]
          refine g_istore (q := 61) (L' := #[.val (.ref t), .val (.long bd), .second, .val (.ref ot_), .val (.int (1 : Int32)), .val (.int (1 : Int32)), .val (.int (0 : Int32)), .val (.int (1 : Int32))]) X131.here hx (hb hby d8_59) rfl rfl ?_
          refine g_iload (q := 63) X131.here hx (hb hby d8_61) rfl rfl ?_
          refine g_iconst (q := 64) (v := (2 : Int32)) X131.here hx (hb hby d8_63) rfl rfl ?_
          refine g_iload (q := 66) X131.here hx (hb hby d8_64) rfl rfl ?_
          refine g_imul (q := 67) X131.here hx (hb hby d8_66) rfl ?_
          rw [show ((2 : Int32) * (0 : Int32)) = (0 : Int32) from by decide]
          refine g_iconst (q := 68) (v := (2 : Int32)) X131.here hx (hb hby d8_67) rfl rfl ?_
          refine g_iadd (q := 69) X131.here hx (hb hby d8_68) rfl ?_
          rw [show ((0 : Int32) + (2 : Int32)) = (2 : Int32) from by decide]
          refine g_icmp_gt (q := 113) (q0 := 72) X131.here hx (hb hby d8_69) (by decide) (by decide) rfl ?_ ?_
          · intro c142; exact absurd c142 (by decide)
          · intro c142
            refine g_iload (q := 74) X131.here hx (hb hby d8_72) rfl rfl ?_
            refine g_aloadN (q := 75) X131.here hx (hb hby d8_74) rfl rfl rfl ?_
            refine g_getF (q := 78) X131 hx hZ hown (hw _ (List.mem_of_getElem? (i := 26) rfl)) e131 F135 (hb hby d8_75) rfl ?_
            intro T143 X143 e143
            refine g_icmp_ge (q := 113) (q0 := 81) X143.here hx (hb hby d8_78) (by decide) (by decide) rfl ?_ ?_
            · intro c144; exact absurd c144 (by decide)
            · intro c144
              refine g_aloadN (q := 82) X143.here hx (hb hby d8_81) rfl rfl rfl ?_
              refine g_getF (q := 85) X143 hx hZ hown (hw _ (List.mem_of_getElem? (i := 15) rfl)) e143 F134 (hb hby d8_82) rfl ?_
              intro T145 X145 e145
              refine g_aloadN (q := 86) X145.here hx (hb hby d8_85) rfl rfl rfl ?_
              refine g_getF (q := 89) X145 hx hZ hown (hw _ (List.mem_of_getElem? (i := 10) rfl)) e145 F133 (hb hby d8_86) rfl ?_
              intro T146 X146 e146
              refine g_iload (q := 91) X146.here hx (hb hby d8_89) rfl rfl ?_
              refine g_iload_ (q := 92) (i := 1) (v := w1_) X146 hx hZ e146 F136 rfl rfl (hb hby d8_91) rfl ?_
              refine g_lload_ (q := 93) (i := w1_.toInt.toNat) (v := (ky.getD w1_.toInt.toNat 0)) X146 hx hZ e146 F137 (own_tn vw1_.1) (own_gdJ (own_lt4 vw1_ hkl)) (hb hby d8_92) rfl ?_
              refine g_lloadN (q := 94) X146.here hx (hb hby d8_93) rfl rfl ?_
              refine g_lcmp_gt (q := 107) (q1 := 95) (q0 := 98) X146.here hx (hb hby d8_94) rfl (hb hby d8_95) (by decide) (by decide) rfl ?_ ?_
              · intro c147
                refine g_iinc (q := 110) (v := (2 : Int32)) (L' := #[.val (.ref t), .val (.long bd), .second, .val (.ref ot_), .val (.int (1 : Int32)), .val (.int (1 : Int32)), .val (.int (0 : Int32)), .val (.int (2 : Int32))]) X146.here hx (hb hby d8_107) rfl rfl rfl rfl ?_
                refine g_goto (q := 61) X146.here hx (hb hby d8_110) (by decide) (by decide) ?_
                refine g_iload (q := 63) X146.here hx (hb hby d8_61) rfl rfl ?_
                refine g_iconst (q := 64) (v := (2 : Int32)) X146.here hx (hb hby d8_63) rfl rfl ?_
                refine g_iload (q := 66) X146.here hx (hb hby d8_64) rfl rfl ?_
                refine g_imul (q := 67) X146.here hx (hb hby d8_66) rfl ?_
                rw [show ((2 : Int32) * (0 : Int32)) = (0 : Int32) from by decide]
                refine g_iconst (q := 68) (v := (2 : Int32)) X146.here hx (hb hby d8_67) rfl rfl ?_
                refine g_iadd (q := 69) X146.here hx (hb hby d8_68) rfl ?_
                rw [show ((0 : Int32) + (2 : Int32)) = (2 : Int32) from by decide]
                refine g_icmp_gt (q := 113) (q0 := 72) X146.here hx (hb hby d8_69) (by decide) (by decide) rfl ?_ ?_
                · intro c148; exact absurd c148 (by decide)
                · intro c148
                  refine g_iload (q := 74) X146.here hx (hb hby d8_72) rfl rfl ?_
                  refine g_aloadN (q := 75) X146.here hx (hb hby d8_74) rfl rfl rfl ?_
                  refine g_getF (q := 78) X146 hx hZ hown (hw _ (List.mem_of_getElem? (i := 26) rfl)) e146 F135 (hb hby d8_75) rfl ?_
                  intro T149 X149 e149
                  refine g_icmp_ge (q := 113) (q0 := 81) X149.here hx (hb hby d8_78) (by decide) (by decide) rfl ?_ ?_
                  · intro c150; exact absurd c150 (by decide)
                  · intro c150
                    refine g_aloadN (q := 82) X149.here hx (hb hby d8_81) rfl rfl rfl ?_
                    refine g_getF (q := 85) X149 hx hZ hown (hw _ (List.mem_of_getElem? (i := 15) rfl)) e149 F134 (hb hby d8_82) rfl ?_
                    intro T151 X151 e151
                    refine g_aloadN (q := 86) X151.here hx (hb hby d8_85) rfl rfl rfl ?_
                    refine g_getF (q := 89) X151 hx hZ hown (hw _ (List.mem_of_getElem? (i := 10) rfl)) e151 F133 (hb hby d8_86) rfl ?_
                    intro T152 X152 e152
                    refine g_iload (q := 91) X152.here hx (hb hby d8_89) rfl rfl ?_
                    refine g_iload_ (q := 92) (i := 2) (v := w2_) X152 hx hZ e152 F136 rfl rfl (hb hby d8_91) rfl ?_
                    refine g_lload_ (q := 93) (i := w2_.toInt.toNat) (v := (ky.getD w2_.toInt.toNat 0)) X152 hx hZ e152 F137 (own_tn vw2_.1) (own_gdJ (own_lt4 vw2_ hkl)) (hb hby d8_92) rfl ?_
                    refine g_lloadN (q := 94) X152.here hx (hb hby d8_93) rfl rfl ?_
                    refine g_lcmp_gt (q := 107) (q1 := 95) (q0 := 98) X152.here hx (hb hby d8_94) rfl (hb hby d8_95) (by decide) (by decide) rfl ?_ ?_
                    · intro c153
                      refine g_iinc (q := 110) (v := (3 : Int32)) (L' := #[.val (.ref t), .val (.long bd), .second, .val (.ref ot_), .val (.int (1 : Int32)), .val (.int (1 : Int32)), .val (.int (0 : Int32)), .val (.int (3 : Int32))]) X152.here hx (hb hby d8_107) rfl rfl rfl rfl ?_
                      refine g_goto (q := 61) X152.here hx (hb hby d8_110) (by decide) (by decide) ?_
                      refine g_iload (q := 63) X152.here hx (hb hby d8_61) rfl rfl ?_
                      refine g_iconst (q := 64) (v := (2 : Int32)) X152.here hx (hb hby d8_63) rfl rfl ?_
                      refine g_iload (q := 66) X152.here hx (hb hby d8_64) rfl rfl ?_
                      refine g_imul (q := 67) X152.here hx (hb hby d8_66) rfl ?_
                      rw [show ((2 : Int32) * (0 : Int32)) = (0 : Int32) from by decide]
                      refine g_iconst (q := 68) (v := (2 : Int32)) X152.here hx (hb hby d8_67) rfl rfl ?_
                      refine g_iadd (q := 69) X152.here hx (hb hby d8_68) rfl ?_
                      rw [show ((0 : Int32) + (2 : Int32)) = (2 : Int32) from by decide]
                      refine g_icmp_gt (q := 113) (q0 := 72) X152.here hx (hb hby d8_69) (by decide) (by decide) rfl ?_ ?_
                      · intro c154
                        refine g_goto (q := 37) X152.here hx (hb hby d8_113) (by decide) (by decide) ?_
                        refine g_iload (q := 39) X152.here hx (hb hby d8_37) rfl rfl ?_
                        refine g_iload (q := 41) X152.here hx (hb hby d8_39) rfl rfl ?_
                        refine g_icmp_ge (q := 116) (q0 := 44) X152.here hx (hb hby d8_41) (by decide) (by decide) rfl ?_ ?_
                        · intro c155
                          refine g_iconst (q := 117) (v := (0 : Int32)) X152.here hx (hb hby d8_116) rfl rfl ?_
                          refine g_istore (q := 119) (L' := #[.val (.ref t), .val (.long bd), .second, .val (.ref ot_), .val (.int (1 : Int32)), .val (.int (1 : Int32)), .val (.int (0 : Int32)), .val (.int (3 : Int32))]) X152.here hx (hb hby d8_117) rfl rfl ?_
                          refine g_iload (q := 121) X152.here hx (hb hby d8_119) rfl rfl ?_
                          refine g_iload (q := 123) X152.here hx (hb hby d8_121) rfl rfl ?_
                          refine g_icmp_ge (q := 145) (q0 := 126) X152.here hx (hb hby d8_123) (by decide) (by decide) rfl ?_ ?_
                          · intro c156; exact absurd c156 (by decide)
                          · intro c156
                            refine g_aloadN (q := 127) X152.here hx (hb hby d8_126) rfl rfl rfl ?_
                            refine g_iload (q := 129) X152.here hx (hb hby d8_127) rfl rfl ?_
                            refine g_aloadN (q := 130) X152.here hx (hb hby d8_129) rfl rfl rfl ?_
                            refine g_getF (q := 133) X152 hx hZ hown (hw _ (List.mem_of_getElem? (i := 10) rfl)) e152 F133 (hb hby d8_130) rfl ?_
                            intro T157 X157 e157
                            refine g_aloadN (q := 134) X157.here hx (hb hby d8_133) rfl rfl rfl ?_
                            refine g_iload (q := 136) X157.here hx (hb hby d8_134) rfl rfl ?_
                            refine g_iload_ (q := 137) (i := 0) (v := (0 : Int32)) X157 hx hZ e157 A131 rfl rfl (hb hby d8_136) rfl ?_
                            refine g_iload_ (q := 138) (i := 0) (v := w0_) X157 hx hZ e157 F136 rfl rfl (hb hby d8_137) rfl ?_
                            refine g_istore_ (q := 139) (i := 0) (v := w0_) X157 hx hZ e157 A131 rfl (by show 0 < 4; decide) (hb hby d8_138) rfl ?_
                            intro T158 h158 X158 e158 W158 A158
                            replace A158 : IA Z h158 ot_ ([w0_, (0 : Int32), (0 : Int32), (0 : Int32)] : List Int32) := A158
                            have K159 := Keep.wr K132 W158 (Or.inl (by simp))
                            have F160 := Fld.other W158 F133 (Or.inl ne3_)
                            have F161 := Fld.other W158 F134 (Or.inl ne3_)
                            have F162 := Fld.other W158 F135 (Or.inl ne3_)
                            have F163 := ArrL.other F136 W158 ne4_
                            have F164 := ArrL.other F137 W158 ne5_
                            have N166 := Fr.snoc X158 N139 go_
                            have Z167 : n0 ≤ h158.size := Nat.le_trans Z140 (Nat.le_of_eq W158.size.symm)
                            refine g_iinc (q := 142) (v := (1 : Int32)) (L' := #[.val (.ref t), .val (.long bd), .second, .val (.ref ot_), .val (.int (1 : Int32)), .val (.int (1 : Int32)), .val (.int (1 : Int32)), .val (.int (3 : Int32))]) X158.here hx (hb hby d8_139) rfl rfl rfl rfl ?_
                            refine g_goto (q := 119) X158.here hx (hb hby d8_142) (by decide) (by decide) ?_
                            refine g_iload (q := 121) X158.here hx (hb hby d8_119) rfl rfl ?_
                            refine g_iload (q := 123) X158.here hx (hb hby d8_121) rfl rfl ?_
                            refine g_icmp_ge (q := 145) (q0 := 126) X158.here hx (hb hby d8_123) (by decide) (by decide) rfl ?_ ?_
                            · intro c168
                              refine g_iload (q := 147) X158.here hx (hb hby d8_145) rfl rfl ?_
                              exact g_ireturn X158 hx hlk hrt (hb hby d8_147) (by decide) (by decide) (by rw [e158]; exact ⟨_, [w0_, (0 : Int32), (0 : Int32), (0 : Int32)], 1, rfl, N166, K159, A158, rfl, rfl, by decide, (own_am I_ (l := [w0_, w1_, w2_]) (by rw [hM]; rfl) (by have ew0_ := decide_eq_true (show QK ky w0_ ≤ bd.toInt from c128); have ew1_ := decide_eq_false (show ¬ (QK ky w1_ ≤ bd.toInt) from Int.not_le.mpr c147); have ew2_ := decide_eq_false (show ¬ (QK ky w2_ ≤ bd.toInt) from Int.not_le.mpr c153); simp only [own_flt, List.filter_nil, ew0_, ew1_, ew2_]; first | done | rfl))⟩)
                            · intro c168; exact absurd c168 (by decide)
                        · intro c155; exact absurd c155 (by decide)
                      · intro c154; exact absurd c154 (by decide)
                    · intro c153
                      refine g_aloadN (q := 99) X152.here hx (hb hby d8_98) rfl rfl rfl ?_
                      refine g_iload (q := 101) X152.here hx (hb hby d8_99) rfl rfl ?_
                      refine g_iinc (q := 104) (v := (2 : Int32)) (L' := #[.val (.ref t), .val (.long bd), .second, .val (.ref ot_), .val (.int (2 : Int32)), .val (.int (1 : Int32)), .val (.int (0 : Int32)), .val (.int (2 : Int32))]) X152.here hx (hb hby d8_101) rfl rfl rfl rfl ?_
                      refine g_iload (q := 106) X152.here hx (hb hby d8_104) rfl rfl ?_
                      refine g_istore_ (q := 107) (i := 1) (v := (2 : Int32)) X152 hx hZ e152 A131 rfl (by show 1 < 4; decide) (hb hby d8_106) rfl ?_
                      intro T169 h169 X169 e169 W169 A169
                      replace A169 : IA Z h169 ot_ ([(0 : Int32), (2 : Int32), (0 : Int32), (0 : Int32)] : List Int32) := A169
                      have K170 := Keep.wr K132 W169 (Or.inl (by simp))
                      have F171 := Fld.other W169 F133 (Or.inl ne3_)
                      have F172 := Fld.other W169 F134 (Or.inl ne3_)
                      have F173 := Fld.other W169 F135 (Or.inl ne3_)
                      have F174 := ArrL.other F136 W169 ne4_
                      have F175 := ArrL.other F137 W169 ne5_
                      have N177 := Fr.snoc X169 N139 go_
                      have Z178 : n0 ≤ h169.size := Nat.le_trans Z140 (Nat.le_of_eq W169.size.symm)
                      refine g_iinc (q := 110) (v := (3 : Int32)) (L' := #[.val (.ref t), .val (.long bd), .second, .val (.ref ot_), .val (.int (2 : Int32)), .val (.int (1 : Int32)), .val (.int (0 : Int32)), .val (.int (3 : Int32))]) X169.here hx (hb hby d8_107) rfl rfl rfl rfl ?_
                      refine g_goto (q := 61) X169.here hx (hb hby d8_110) (by decide) (by decide) ?_
                      refine g_iload (q := 63) X169.here hx (hb hby d8_61) rfl rfl ?_
                      refine g_iconst (q := 64) (v := (2 : Int32)) X169.here hx (hb hby d8_63) rfl rfl ?_
                      refine g_iload (q := 66) X169.here hx (hb hby d8_64) rfl rfl ?_
                      refine g_imul (q := 67) X169.here hx (hb hby d8_66) rfl ?_
                      rw [show ((2 : Int32) * (0 : Int32)) = (0 : Int32) from by decide]
                      refine g_iconst (q := 68) (v := (2 : Int32)) X169.here hx (hb hby d8_67) rfl rfl ?_
                      refine g_iadd (q := 69) X169.here hx (hb hby d8_68) rfl ?_
                      rw [show ((0 : Int32) + (2 : Int32)) = (2 : Int32) from by decide]
                      refine g_icmp_gt (q := 113) (q0 := 72) X169.here hx (hb hby d8_69) (by decide) (by decide) rfl ?_ ?_
                      · intro c179
                        refine g_goto (q := 37) X169.here hx (hb hby d8_113) (by decide) (by decide) ?_
                        refine g_iload (q := 39) X169.here hx (hb hby d8_37) rfl rfl ?_
                        refine g_iload (q := 41) X169.here hx (hb hby d8_39) rfl rfl ?_
                        refine g_icmp_ge (q := 116) (q0 := 44) X169.here hx (hb hby d8_41) (by decide) (by decide) rfl ?_ ?_
                        · intro c180; exact absurd c180 (by decide)
                        · intro c180
                          refine g_aloadN (q := 45) X169.here hx (hb hby d8_44) rfl rfl rfl ?_
                          refine g_iload (q := 47) X169.here hx (hb hby d8_45) rfl rfl ?_
                          refine g_iinc (q := 50) (v := (2 : Int32)) (L' := #[.val (.ref t), .val (.long bd), .second, .val (.ref ot_), .val (.int (2 : Int32)), .val (.int (2 : Int32)), .val (.int (0 : Int32)), .val (.int (3 : Int32))]) X169.here hx (hb hby d8_47) rfl rfl rfl rfl ?_
                          refine g_iload_ (q := 51) (i := 1) (v := (2 : Int32)) X169 hx hZ e169 A169 rfl rfl (hb hby d8_50) rfl ?_
                          refine g_istore (q := 53) (L' := #[.val (.ref t), .val (.long bd), .second, .val (.ref ot_), .val (.int (2 : Int32)), .val (.int (2 : Int32)), .val (.int (2 : Int32)), .val (.int (3 : Int32))]) X169.here hx (hb hby d8_51) rfl rfl ?_
                          refine g_iconst (q := 54) (v := (2 : Int32)) X169.here hx (hb hby d8_53) rfl rfl ?_
                          refine g_iload (q := 56) X169.here hx (hb hby d8_54) rfl rfl ?_
                          refine g_imul (q := 57) X169.here hx (hb hby d8_56) rfl ?_
                          rw [show ((2 : Int32) * (2 : Int32)) = (4 : Int32) from by decide]
                          refine g_iconst (q := 58) (v := (1 : Int32)) X169.here hx (hb hby d8_57) rfl rfl ?_
                          refine g_iadd (q := 59) X169.here hx (hb hby d8_58) rfl ?_
                          rw [show ((4 : Int32) + (1 : Int32)) = (5 : Int32) from by decide]
                          refine g_istore (q := 61) (L' := #[.val (.ref t), .val (.long bd), .second, .val (.ref ot_), .val (.int (2 : Int32)), .val (.int (2 : Int32)), .val (.int (2 : Int32)), .val (.int (5 : Int32))]) X169.here hx (hb hby d8_59) rfl rfl ?_
                          refine g_iload (q := 63) X169.here hx (hb hby d8_61) rfl rfl ?_
                          refine g_iconst (q := 64) (v := (2 : Int32)) X169.here hx (hb hby d8_63) rfl rfl ?_
                          refine g_iload (q := 66) X169.here hx (hb hby d8_64) rfl rfl ?_
                          refine g_imul (q := 67) X169.here hx (hb hby d8_66) rfl ?_
                          rw [show ((2 : Int32) * (2 : Int32)) = (4 : Int32) from by decide]
                          refine g_iconst (q := 68) (v := (2 : Int32)) X169.here hx (hb hby d8_67) rfl rfl ?_
                          refine g_iadd (q := 69) X169.here hx (hb hby d8_68) rfl ?_
                          rw [show ((4 : Int32) + (2 : Int32)) = (6 : Int32) from by decide]
                          refine g_icmp_gt (q := 113) (q0 := 72) X169.here hx (hb hby d8_69) (by decide) (by decide) rfl ?_ ?_
                          · intro c181; exact absurd c181 (by decide)
                          · intro c181
                            refine g_iload (q := 74) X169.here hx (hb hby d8_72) rfl rfl ?_
                            refine g_aloadN (q := 75) X169.here hx (hb hby d8_74) rfl rfl rfl ?_
                            refine g_getF (q := 78) X169 hx hZ hown (hw _ (List.mem_of_getElem? (i := 26) rfl)) e169 F173 (hb hby d8_75) rfl ?_
                            intro T182 X182 e182
                            refine g_icmp_ge (q := 113) (q0 := 81) X182.here hx (hb hby d8_78) (by decide) (by decide) rfl ?_ ?_
                            · intro c183
                              refine g_goto (q := 37) X182.here hx (hb hby d8_113) (by decide) (by decide) ?_
                              refine g_iload (q := 39) X182.here hx (hb hby d8_37) rfl rfl ?_
                              refine g_iload (q := 41) X182.here hx (hb hby d8_39) rfl rfl ?_
                              refine g_icmp_ge (q := 116) (q0 := 44) X182.here hx (hb hby d8_41) (by decide) (by decide) rfl ?_ ?_
                              · intro c184
                                refine g_iconst (q := 117) (v := (0 : Int32)) X182.here hx (hb hby d8_116) rfl rfl ?_
                                refine g_istore (q := 119) (L' := #[.val (.ref t), .val (.long bd), .second, .val (.ref ot_), .val (.int (2 : Int32)), .val (.int (2 : Int32)), .val (.int (0 : Int32)), .val (.int (5 : Int32))]) X182.here hx (hb hby d8_117) rfl rfl ?_
                                refine g_iload (q := 121) X182.here hx (hb hby d8_119) rfl rfl ?_
                                refine g_iload (q := 123) X182.here hx (hb hby d8_121) rfl rfl ?_
                                refine g_icmp_ge (q := 145) (q0 := 126) X182.here hx (hb hby d8_123) (by decide) (by decide) rfl ?_ ?_
                                · intro c185; exact absurd c185 (by decide)
                                · intro c185
                                  refine g_aloadN (q := 127) X182.here hx (hb hby d8_126) rfl rfl rfl ?_
                                  refine g_iload (q := 129) X182.here hx (hb hby d8_127) rfl rfl ?_
                                  refine g_aloadN (q := 130) X182.here hx (hb hby d8_129) rfl rfl rfl ?_
                                  refine g_getF (q := 133) X182 hx hZ hown (hw _ (List.mem_of_getElem? (i := 10) rfl)) e182 F171 (hb hby d8_130) rfl ?_
                                  intro T186 X186 e186
                                  refine g_aloadN (q := 134) X186.here hx (hb hby d8_133) rfl rfl rfl ?_
                                  refine g_iload (q := 136) X186.here hx (hb hby d8_134) rfl rfl ?_
                                  refine g_iload_ (q := 137) (i := 0) (v := (0 : Int32)) X186 hx hZ e186 A169 rfl rfl (hb hby d8_136) rfl ?_
                                  refine g_iload_ (q := 138) (i := 0) (v := w0_) X186 hx hZ e186 F174 rfl rfl (hb hby d8_137) rfl ?_
                                  refine g_istore_ (q := 139) (i := 0) (v := w0_) X186 hx hZ e186 A169 rfl (by show 0 < 4; decide) (hb hby d8_138) rfl ?_
                                  intro T187 h187 X187 e187 W187 A187
                                  replace A187 : IA Z h187 ot_ ([w0_, (2 : Int32), (0 : Int32), (0 : Int32)] : List Int32) := A187
                                  have K188 := Keep.wr K170 W187 (Or.inl (by simp))
                                  have F189 := Fld.other W187 F171 (Or.inl ne3_)
                                  have F190 := Fld.other W187 F172 (Or.inl ne3_)
                                  have F191 := Fld.other W187 F173 (Or.inl ne3_)
                                  have F192 := ArrL.other F174 W187 ne4_
                                  have F193 := ArrL.other F175 W187 ne5_
                                  have N195 := Fr.snoc X187 N177 go_
                                  have Z196 : n0 ≤ h187.size := Nat.le_trans Z178 (Nat.le_of_eq W187.size.symm)
                                  refine g_iinc (q := 142) (v := (1 : Int32)) (L' := #[.val (.ref t), .val (.long bd), .second, .val (.ref ot_), .val (.int (2 : Int32)), .val (.int (2 : Int32)), .val (.int (1 : Int32)), .val (.int (5 : Int32))]) X187.here hx (hb hby d8_139) rfl rfl rfl rfl ?_
                                  refine g_goto (q := 119) X187.here hx (hb hby d8_142) (by decide) (by decide) ?_
                                  refine g_iload (q := 121) X187.here hx (hb hby d8_119) rfl rfl ?_
                                  refine g_iload (q := 123) X187.here hx (hb hby d8_121) rfl rfl ?_
                                  refine g_icmp_ge (q := 145) (q0 := 126) X187.here hx (hb hby d8_123) (by decide) (by decide) rfl ?_ ?_
                                  · intro c197; exact absurd c197 (by decide)
                                  · intro c197
                                    refine g_aloadN (q := 127) X187.here hx (hb hby d8_126) rfl rfl rfl ?_
                                    refine g_iload (q := 129) X187.here hx (hb hby d8_127) rfl rfl ?_
                                    refine g_aloadN (q := 130) X187.here hx (hb hby d8_129) rfl rfl rfl ?_
                                    refine g_getF (q := 133) X187 hx hZ hown (hw _ (List.mem_of_getElem? (i := 10) rfl)) e187 F189 (hb hby d8_130) rfl ?_
                                    intro T198 X198 e198
                                    refine g_aloadN (q := 134) X198.here hx (hb hby d8_133) rfl rfl rfl ?_
                                    refine g_iload (q := 136) X198.here hx (hb hby d8_134) rfl rfl ?_
                                    refine g_iload_ (q := 137) (i := 1) (v := (2 : Int32)) X198 hx hZ e198 A187 rfl rfl (hb hby d8_136) rfl ?_
                                    refine g_iload_ (q := 138) (i := 2) (v := w2_) X198 hx hZ e198 F192 rfl rfl (hb hby d8_137) rfl ?_
                                    refine g_istore_ (q := 139) (i := 1) (v := w2_) X198 hx hZ e198 A187 rfl (by show 1 < 4; decide) (hb hby d8_138) rfl ?_
                                    intro T199 h199 X199 e199 W199 A199
                                    replace A199 : IA Z h199 ot_ ([w0_, w2_, (0 : Int32), (0 : Int32)] : List Int32) := A199
                                    have K200 := Keep.wr K188 W199 (Or.inl (by simp))
                                    have F201 := Fld.other W199 F189 (Or.inl ne3_)
                                    have F202 := Fld.other W199 F190 (Or.inl ne3_)
                                    have F203 := Fld.other W199 F191 (Or.inl ne3_)
                                    have F204 := ArrL.other F192 W199 ne4_
                                    have F205 := ArrL.other F193 W199 ne5_
                                    have N207 := Fr.snoc X199 N195 go_
                                    have Z208 : n0 ≤ h199.size := Nat.le_trans Z196 (Nat.le_of_eq W199.size.symm)
                                    refine g_iinc (q := 142) (v := (2 : Int32)) (L' := #[.val (.ref t), .val (.long bd), .second, .val (.ref ot_), .val (.int (2 : Int32)), .val (.int (2 : Int32)), .val (.int (2 : Int32)), .val (.int (5 : Int32))]) X199.here hx (hb hby d8_139) rfl rfl rfl rfl ?_
                                    refine g_goto (q := 119) X199.here hx (hb hby d8_142) (by decide) (by decide) ?_
                                    refine g_iload (q := 121) X199.here hx (hb hby d8_119) rfl rfl ?_
                                    refine g_iload (q := 123) X199.here hx (hb hby d8_121) rfl rfl ?_
                                    refine g_icmp_ge (q := 145) (q0 := 126) X199.here hx (hb hby d8_123) (by decide) (by decide) rfl ?_ ?_
                                    · intro c209
                                      refine g_iload (q := 147) X199.here hx (hb hby d8_145) rfl rfl ?_
                                      exact g_ireturn X199 hx hlk hrt (hb hby d8_147) (by decide) (by decide) (by rw [e199]; exact ⟨_, [w0_, w2_, (0 : Int32), (0 : Int32)], 2, rfl, N207, K200, A199, rfl, rfl, by decide, (own_am I_ (l := [w0_, w1_, w2_]) (by rw [hM]; rfl) (by have ew0_ := decide_eq_true (show QK ky w0_ ≤ bd.toInt from c128); have ew1_ := decide_eq_false (show ¬ (QK ky w1_ ≤ bd.toInt) from Int.not_le.mpr c147); have ew2_ := decide_eq_true (show QK ky w2_ ≤ bd.toInt from c153); simp only [own_flt, List.filter_nil, ew0_, ew1_, ew2_]; first | done | rfl))⟩)
                                    · intro c209; exact absurd c209 (by decide)
                              · intro c184; exact absurd c184 (by decide)
                            · intro c183; exact absurd c183 (by decide)
                      · intro c179; exact absurd c179 (by decide)
              · intro c147
                refine g_aloadN (q := 99) X146.here hx (hb hby d8_98) rfl rfl rfl ?_
                refine g_iload (q := 101) X146.here hx (hb hby d8_99) rfl rfl ?_
                refine g_iinc (q := 104) (v := (2 : Int32)) (L' := #[.val (.ref t), .val (.long bd), .second, .val (.ref ot_), .val (.int (2 : Int32)), .val (.int (1 : Int32)), .val (.int (0 : Int32)), .val (.int (1 : Int32))]) X146.here hx (hb hby d8_101) rfl rfl rfl rfl ?_
                refine g_iload (q := 106) X146.here hx (hb hby d8_104) rfl rfl ?_
                refine g_istore_ (q := 107) (i := 1) (v := (1 : Int32)) X146 hx hZ e146 A131 rfl (by show 1 < 4; decide) (hb hby d8_106) rfl ?_
                intro T210 h210 X210 e210 W210 A210
                replace A210 : IA Z h210 ot_ ([(0 : Int32), (1 : Int32), (0 : Int32), (0 : Int32)] : List Int32) := A210
                have K211 := Keep.wr K132 W210 (Or.inl (by simp))
                have F212 := Fld.other W210 F133 (Or.inl ne3_)
                have F213 := Fld.other W210 F134 (Or.inl ne3_)
                have F214 := Fld.other W210 F135 (Or.inl ne3_)
                have F215 := ArrL.other F136 W210 ne4_
                have F216 := ArrL.other F137 W210 ne5_
                have N218 := Fr.snoc X210 N139 go_
                have Z219 : n0 ≤ h210.size := Nat.le_trans Z140 (Nat.le_of_eq W210.size.symm)
                refine g_iinc (q := 110) (v := (2 : Int32)) (L' := #[.val (.ref t), .val (.long bd), .second, .val (.ref ot_), .val (.int (2 : Int32)), .val (.int (1 : Int32)), .val (.int (0 : Int32)), .val (.int (2 : Int32))]) X210.here hx (hb hby d8_107) rfl rfl rfl rfl ?_
                refine g_goto (q := 61) X210.here hx (hb hby d8_110) (by decide) (by decide) ?_
                refine g_iload (q := 63) X210.here hx (hb hby d8_61) rfl rfl ?_
                refine g_iconst (q := 64) (v := (2 : Int32)) X210.here hx (hb hby d8_63) rfl rfl ?_
                refine g_iload (q := 66) X210.here hx (hb hby d8_64) rfl rfl ?_
                refine g_imul (q := 67) X210.here hx (hb hby d8_66) rfl ?_
                rw [show ((2 : Int32) * (0 : Int32)) = (0 : Int32) from by decide]
                refine g_iconst (q := 68) (v := (2 : Int32)) X210.here hx (hb hby d8_67) rfl rfl ?_
                refine g_iadd (q := 69) X210.here hx (hb hby d8_68) rfl ?_
                rw [show ((0 : Int32) + (2 : Int32)) = (2 : Int32) from by decide]
                refine g_icmp_gt (q := 113) (q0 := 72) X210.here hx (hb hby d8_69) (by decide) (by decide) rfl ?_ ?_
                · intro c220; exact absurd c220 (by decide)
                · intro c220
                  refine g_iload (q := 74) X210.here hx (hb hby d8_72) rfl rfl ?_
                  refine g_aloadN (q := 75) X210.here hx (hb hby d8_74) rfl rfl rfl ?_
                  refine g_getF (q := 78) X210 hx hZ hown (hw _ (List.mem_of_getElem? (i := 26) rfl)) e210 F214 (hb hby d8_75) rfl ?_
                  intro T221 X221 e221
                  refine g_icmp_ge (q := 113) (q0 := 81) X221.here hx (hb hby d8_78) (by decide) (by decide) rfl ?_ ?_
                  · intro c222; exact absurd c222 (by decide)
                  · intro c222
                    refine g_aloadN (q := 82) X221.here hx (hb hby d8_81) rfl rfl rfl ?_
                    refine g_getF (q := 85) X221 hx hZ hown (hw _ (List.mem_of_getElem? (i := 15) rfl)) e221 F213 (hb hby d8_82) rfl ?_
                    intro T223 X223 e223
                    refine g_aloadN (q := 86) X223.here hx (hb hby d8_85) rfl rfl rfl ?_
                    refine g_getF (q := 89) X223 hx hZ hown (hw _ (List.mem_of_getElem? (i := 10) rfl)) e223 F212 (hb hby d8_86) rfl ?_
                    intro T224 X224 e224
                    refine g_iload (q := 91) X224.here hx (hb hby d8_89) rfl rfl ?_
                    refine g_iload_ (q := 92) (i := 2) (v := w2_) X224 hx hZ e224 F215 rfl rfl (hb hby d8_91) rfl ?_
                    refine g_lload_ (q := 93) (i := w2_.toInt.toNat) (v := (ky.getD w2_.toInt.toNat 0)) X224 hx hZ e224 F216 (own_tn vw2_.1) (own_gdJ (own_lt4 vw2_ hkl)) (hb hby d8_92) rfl ?_
                    refine g_lloadN (q := 94) X224.here hx (hb hby d8_93) rfl rfl ?_
                    refine g_lcmp_gt (q := 107) (q1 := 95) (q0 := 98) X224.here hx (hb hby d8_94) rfl (hb hby d8_95) (by decide) (by decide) rfl ?_ ?_
                    · intro c225
                      refine g_iinc (q := 110) (v := (3 : Int32)) (L' := #[.val (.ref t), .val (.long bd), .second, .val (.ref ot_), .val (.int (2 : Int32)), .val (.int (1 : Int32)), .val (.int (0 : Int32)), .val (.int (3 : Int32))]) X224.here hx (hb hby d8_107) rfl rfl rfl rfl ?_
                      refine g_goto (q := 61) X224.here hx (hb hby d8_110) (by decide) (by decide) ?_
                      refine g_iload (q := 63) X224.here hx (hb hby d8_61) rfl rfl ?_
                      refine g_iconst (q := 64) (v := (2 : Int32)) X224.here hx (hb hby d8_63) rfl rfl ?_
                      refine g_iload (q := 66) X224.here hx (hb hby d8_64) rfl rfl ?_
                      refine g_imul (q := 67) X224.here hx (hb hby d8_66) rfl ?_
                      rw [show ((2 : Int32) * (0 : Int32)) = (0 : Int32) from by decide]
                      refine g_iconst (q := 68) (v := (2 : Int32)) X224.here hx (hb hby d8_67) rfl rfl ?_
                      refine g_iadd (q := 69) X224.here hx (hb hby d8_68) rfl ?_
                      rw [show ((0 : Int32) + (2 : Int32)) = (2 : Int32) from by decide]
                      refine g_icmp_gt (q := 113) (q0 := 72) X224.here hx (hb hby d8_69) (by decide) (by decide) rfl ?_ ?_
                      · intro c226
                        refine g_goto (q := 37) X224.here hx (hb hby d8_113) (by decide) (by decide) ?_
                        refine g_iload (q := 39) X224.here hx (hb hby d8_37) rfl rfl ?_
                        refine g_iload (q := 41) X224.here hx (hb hby d8_39) rfl rfl ?_
                        refine g_icmp_ge (q := 116) (q0 := 44) X224.here hx (hb hby d8_41) (by decide) (by decide) rfl ?_ ?_
                        · intro c227; exact absurd c227 (by decide)
                        · intro c227
                          refine g_aloadN (q := 45) X224.here hx (hb hby d8_44) rfl rfl rfl ?_
                          refine g_iload (q := 47) X224.here hx (hb hby d8_45) rfl rfl ?_
                          refine g_iinc (q := 50) (v := (2 : Int32)) (L' := #[.val (.ref t), .val (.long bd), .second, .val (.ref ot_), .val (.int (2 : Int32)), .val (.int (2 : Int32)), .val (.int (0 : Int32)), .val (.int (3 : Int32))]) X224.here hx (hb hby d8_47) rfl rfl rfl rfl ?_
                          refine g_iload_ (q := 51) (i := 1) (v := (1 : Int32)) X224 hx hZ e224 A210 rfl rfl (hb hby d8_50) rfl ?_
                          refine g_istore (q := 53) (L' := #[.val (.ref t), .val (.long bd), .second, .val (.ref ot_), .val (.int (2 : Int32)), .val (.int (2 : Int32)), .val (.int (1 : Int32)), .val (.int (3 : Int32))]) X224.here hx (hb hby d8_51) rfl rfl ?_
                          refine g_iconst (q := 54) (v := (2 : Int32)) X224.here hx (hb hby d8_53) rfl rfl ?_
                          refine g_iload (q := 56) X224.here hx (hb hby d8_54) rfl rfl ?_
                          refine g_imul (q := 57) X224.here hx (hb hby d8_56) rfl ?_
                          rw [show ((2 : Int32) * (1 : Int32)) = (2 : Int32) from by decide]
                          refine g_iconst (q := 58) (v := (1 : Int32)) X224.here hx (hb hby d8_57) rfl rfl ?_
                          refine g_iadd (q := 59) X224.here hx (hb hby d8_58) rfl ?_
                          rw [show ((2 : Int32) + (1 : Int32)) = (3 : Int32) from by decide]
                          refine g_istore (q := 61) (L' := #[.val (.ref t), .val (.long bd), .second, .val (.ref ot_), .val (.int (2 : Int32)), .val (.int (2 : Int32)), .val (.int (1 : Int32)), .val (.int (3 : Int32))]) X224.here hx (hb hby d8_59) rfl rfl ?_
                          refine g_iload (q := 63) X224.here hx (hb hby d8_61) rfl rfl ?_
                          refine g_iconst (q := 64) (v := (2 : Int32)) X224.here hx (hb hby d8_63) rfl rfl ?_
                          refine g_iload (q := 66) X224.here hx (hb hby d8_64) rfl rfl ?_
                          refine g_imul (q := 67) X224.here hx (hb hby d8_66) rfl ?_
                          rw [show ((2 : Int32) * (1 : Int32)) = (2 : Int32) from by decide]
                          refine g_iconst (q := 68) (v := (2 : Int32)) X224.here hx (hb hby d8_67) rfl rfl ?_
                          refine g_iadd (q := 69) X224.here hx (hb hby d8_68) rfl ?_
                          rw [show ((2 : Int32) + (2 : Int32)) = (4 : Int32) from by decide]
                          refine g_icmp_gt (q := 113) (q0 := 72) X224.here hx (hb hby d8_69) (by decide) (by decide) rfl ?_ ?_
                          · intro c228; exact absurd c228 (by decide)
                          · intro c228
                            refine g_iload (q := 74) X224.here hx (hb hby d8_72) rfl rfl ?_
                            refine g_aloadN (q := 75) X224.here hx (hb hby d8_74) rfl rfl rfl ?_
                            refine g_getF (q := 78) X224 hx hZ hown (hw _ (List.mem_of_getElem? (i := 26) rfl)) e224 F214 (hb hby d8_75) rfl ?_
                            intro T229 X229 e229
                            refine g_icmp_ge (q := 113) (q0 := 81) X229.here hx (hb hby d8_78) (by decide) (by decide) rfl ?_ ?_
                            · intro c230
                              refine g_goto (q := 37) X229.here hx (hb hby d8_113) (by decide) (by decide) ?_
                              refine g_iload (q := 39) X229.here hx (hb hby d8_37) rfl rfl ?_
                              refine g_iload (q := 41) X229.here hx (hb hby d8_39) rfl rfl ?_
                              refine g_icmp_ge (q := 116) (q0 := 44) X229.here hx (hb hby d8_41) (by decide) (by decide) rfl ?_ ?_
                              · intro c231
                                refine g_iconst (q := 117) (v := (0 : Int32)) X229.here hx (hb hby d8_116) rfl rfl ?_
                                refine g_istore (q := 119) (L' := #[.val (.ref t), .val (.long bd), .second, .val (.ref ot_), .val (.int (2 : Int32)), .val (.int (2 : Int32)), .val (.int (0 : Int32)), .val (.int (3 : Int32))]) X229.here hx (hb hby d8_117) rfl rfl ?_
                                refine g_iload (q := 121) X229.here hx (hb hby d8_119) rfl rfl ?_
                                refine g_iload (q := 123) X229.here hx (hb hby d8_121) rfl rfl ?_
                                refine g_icmp_ge (q := 145) (q0 := 126) X229.here hx (hb hby d8_123) (by decide) (by decide) rfl ?_ ?_
                                · intro c232; exact absurd c232 (by decide)
                                · intro c232
                                  refine g_aloadN (q := 127) X229.here hx (hb hby d8_126) rfl rfl rfl ?_
                                  refine g_iload (q := 129) X229.here hx (hb hby d8_127) rfl rfl ?_
                                  refine g_aloadN (q := 130) X229.here hx (hb hby d8_129) rfl rfl rfl ?_
                                  refine g_getF (q := 133) X229 hx hZ hown (hw _ (List.mem_of_getElem? (i := 10) rfl)) e229 F212 (hb hby d8_130) rfl ?_
                                  intro T233 X233 e233
                                  refine g_aloadN (q := 134) X233.here hx (hb hby d8_133) rfl rfl rfl ?_
                                  refine g_iload (q := 136) X233.here hx (hb hby d8_134) rfl rfl ?_
                                  refine g_iload_ (q := 137) (i := 0) (v := (0 : Int32)) X233 hx hZ e233 A210 rfl rfl (hb hby d8_136) rfl ?_
                                  refine g_iload_ (q := 138) (i := 0) (v := w0_) X233 hx hZ e233 F215 rfl rfl (hb hby d8_137) rfl ?_
                                  refine g_istore_ (q := 139) (i := 0) (v := w0_) X233 hx hZ e233 A210 rfl (by show 0 < 4; decide) (hb hby d8_138) rfl ?_
                                  intro T234 h234 X234 e234 W234 A234
                                  replace A234 : IA Z h234 ot_ ([w0_, (1 : Int32), (0 : Int32), (0 : Int32)] : List Int32) := A234
                                  have K235 := Keep.wr K211 W234 (Or.inl (by simp))
                                  have F236 := Fld.other W234 F212 (Or.inl ne3_)
                                  have F237 := Fld.other W234 F213 (Or.inl ne3_)
                                  have F238 := Fld.other W234 F214 (Or.inl ne3_)
                                  have F239 := ArrL.other F215 W234 ne4_
                                  have F240 := ArrL.other F216 W234 ne5_
                                  have N242 := Fr.snoc X234 N218 go_
                                  have Z243 : n0 ≤ h234.size := Nat.le_trans Z219 (Nat.le_of_eq W234.size.symm)
                                  refine g_iinc (q := 142) (v := (1 : Int32)) (L' := #[.val (.ref t), .val (.long bd), .second, .val (.ref ot_), .val (.int (2 : Int32)), .val (.int (2 : Int32)), .val (.int (1 : Int32)), .val (.int (3 : Int32))]) X234.here hx (hb hby d8_139) rfl rfl rfl rfl ?_
                                  refine g_goto (q := 119) X234.here hx (hb hby d8_142) (by decide) (by decide) ?_
                                  refine g_iload (q := 121) X234.here hx (hb hby d8_119) rfl rfl ?_
                                  refine g_iload (q := 123) X234.here hx (hb hby d8_121) rfl rfl ?_
                                  refine g_icmp_ge (q := 145) (q0 := 126) X234.here hx (hb hby d8_123) (by decide) (by decide) rfl ?_ ?_
                                  · intro c244; exact absurd c244 (by decide)
                                  · intro c244
                                    refine g_aloadN (q := 127) X234.here hx (hb hby d8_126) rfl rfl rfl ?_
                                    refine g_iload (q := 129) X234.here hx (hb hby d8_127) rfl rfl ?_
                                    refine g_aloadN (q := 130) X234.here hx (hb hby d8_129) rfl rfl rfl ?_
                                    refine g_getF (q := 133) X234 hx hZ hown (hw _ (List.mem_of_getElem? (i := 10) rfl)) e234 F236 (hb hby d8_130) rfl ?_
                                    intro T245 X245 e245
                                    refine g_aloadN (q := 134) X245.here hx (hb hby d8_133) rfl rfl rfl ?_
                                    refine g_iload (q := 136) X245.here hx (hb hby d8_134) rfl rfl ?_
                                    refine g_iload_ (q := 137) (i := 1) (v := (1 : Int32)) X245 hx hZ e245 A234 rfl rfl (hb hby d8_136) rfl ?_
                                    refine g_iload_ (q := 138) (i := 1) (v := w1_) X245 hx hZ e245 F239 rfl rfl (hb hby d8_137) rfl ?_
                                    refine g_istore_ (q := 139) (i := 1) (v := w1_) X245 hx hZ e245 A234 rfl (by show 1 < 4; decide) (hb hby d8_138) rfl ?_
                                    intro T246 h246 X246 e246 W246 A246
                                    replace A246 : IA Z h246 ot_ ([w0_, w1_, (0 : Int32), (0 : Int32)] : List Int32) := A246
                                    have K247 := Keep.wr K235 W246 (Or.inl (by simp))
                                    have F248 := Fld.other W246 F236 (Or.inl ne3_)
                                    have F249 := Fld.other W246 F237 (Or.inl ne3_)
                                    have F250 := Fld.other W246 F238 (Or.inl ne3_)
                                    have F251 := ArrL.other F239 W246 ne4_
                                    have F252 := ArrL.other F240 W246 ne5_
                                    have N254 := Fr.snoc X246 N242 go_
                                    have Z255 : n0 ≤ h246.size := Nat.le_trans Z243 (Nat.le_of_eq W246.size.symm)
                                    refine g_iinc (q := 142) (v := (2 : Int32)) (L' := #[.val (.ref t), .val (.long bd), .second, .val (.ref ot_), .val (.int (2 : Int32)), .val (.int (2 : Int32)), .val (.int (2 : Int32)), .val (.int (3 : Int32))]) X246.here hx (hb hby d8_139) rfl rfl rfl rfl ?_
                                    refine g_goto (q := 119) X246.here hx (hb hby d8_142) (by decide) (by decide) ?_
                                    refine g_iload (q := 121) X246.here hx (hb hby d8_119) rfl rfl ?_
                                    refine g_iload (q := 123) X246.here hx (hb hby d8_121) rfl rfl ?_
                                    refine g_icmp_ge (q := 145) (q0 := 126) X246.here hx (hb hby d8_123) (by decide) (by decide) rfl ?_ ?_
                                    · intro c256
                                      refine g_iload (q := 147) X246.here hx (hb hby d8_145) rfl rfl ?_
                                      exact g_ireturn X246 hx hlk hrt (hb hby d8_147) (by decide) (by decide) (by rw [e246]; exact ⟨_, [w0_, w1_, (0 : Int32), (0 : Int32)], 2, rfl, N254, K247, A246, rfl, rfl, by decide, (own_am I_ (l := [w0_, w1_, w2_]) (by rw [hM]; rfl) (by have ew0_ := decide_eq_true (show QK ky w0_ ≤ bd.toInt from c128); have ew1_ := decide_eq_true (show QK ky w1_ ≤ bd.toInt from c147); have ew2_ := decide_eq_false (show ¬ (QK ky w2_ ≤ bd.toInt) from Int.not_le.mpr c225); simp only [own_flt, List.filter_nil, ew0_, ew1_, ew2_]; first | done | rfl))⟩)
                                    · intro c256; exact absurd c256 (by decide)
                              · intro c231; exact absurd c231 (by decide)
                            · intro c230; exact absurd c230 (by decide)
                      · intro c226; exact absurd c226 (by decide)
                    · intro c225
                      refine g_aloadN (q := 99) X224.here hx (hb hby d8_98) rfl rfl rfl ?_
                      refine g_iload (q := 101) X224.here hx (hb hby d8_99) rfl rfl ?_
                      refine g_iinc (q := 104) (v := (3 : Int32)) (L' := #[.val (.ref t), .val (.long bd), .second, .val (.ref ot_), .val (.int (3 : Int32)), .val (.int (1 : Int32)), .val (.int (0 : Int32)), .val (.int (2 : Int32))]) X224.here hx (hb hby d8_101) rfl rfl rfl rfl ?_
                      refine g_iload (q := 106) X224.here hx (hb hby d8_104) rfl rfl ?_
                      refine g_istore_ (q := 107) (i := 2) (v := (2 : Int32)) X224 hx hZ e224 A210 rfl (by show 2 < 4; decide) (hb hby d8_106) rfl ?_
                      intro T257 h257 X257 e257 W257 A257
                      replace A257 : IA Z h257 ot_ ([(0 : Int32), (1 : Int32), (2 : Int32), (0 : Int32)] : List Int32) := A257
                      have K258 := Keep.wr K211 W257 (Or.inl (by simp))
                      have F259 := Fld.other W257 F212 (Or.inl ne3_)
                      have F260 := Fld.other W257 F213 (Or.inl ne3_)
                      have F261 := Fld.other W257 F214 (Or.inl ne3_)
                      have F262 := ArrL.other F215 W257 ne4_
                      have F263 := ArrL.other F216 W257 ne5_
                      have N265 := Fr.snoc X257 N218 go_
                      have Z266 : n0 ≤ h257.size := Nat.le_trans Z219 (Nat.le_of_eq W257.size.symm)
                      refine g_iinc (q := 110) (v := (3 : Int32)) (L' := #[.val (.ref t), .val (.long bd), .second, .val (.ref ot_), .val (.int (3 : Int32)), .val (.int (1 : Int32)), .val (.int (0 : Int32)), .val (.int (3 : Int32))]) X257.here hx (hb hby d8_107) rfl rfl rfl rfl ?_
                      refine g_goto (q := 61) X257.here hx (hb hby d8_110) (by decide) (by decide) ?_
                      refine g_iload (q := 63) X257.here hx (hb hby d8_61) rfl rfl ?_
                      refine g_iconst (q := 64) (v := (2 : Int32)) X257.here hx (hb hby d8_63) rfl rfl ?_
                      refine g_iload (q := 66) X257.here hx (hb hby d8_64) rfl rfl ?_
                      refine g_imul (q := 67) X257.here hx (hb hby d8_66) rfl ?_
                      rw [show ((2 : Int32) * (0 : Int32)) = (0 : Int32) from by decide]
                      refine g_iconst (q := 68) (v := (2 : Int32)) X257.here hx (hb hby d8_67) rfl rfl ?_
                      refine g_iadd (q := 69) X257.here hx (hb hby d8_68) rfl ?_
                      rw [show ((0 : Int32) + (2 : Int32)) = (2 : Int32) from by decide]
                      refine g_icmp_gt (q := 113) (q0 := 72) X257.here hx (hb hby d8_69) (by decide) (by decide) rfl ?_ ?_
                      · intro c267
                        refine g_goto (q := 37) X257.here hx (hb hby d8_113) (by decide) (by decide) ?_
                        refine g_iload (q := 39) X257.here hx (hb hby d8_37) rfl rfl ?_
                        refine g_iload (q := 41) X257.here hx (hb hby d8_39) rfl rfl ?_
                        refine g_icmp_ge (q := 116) (q0 := 44) X257.here hx (hb hby d8_41) (by decide) (by decide) rfl ?_ ?_
                        · intro c268; exact absurd c268 (by decide)
                        · intro c268
                          refine g_aloadN (q := 45) X257.here hx (hb hby d8_44) rfl rfl rfl ?_
                          refine g_iload (q := 47) X257.here hx (hb hby d8_45) rfl rfl ?_
                          refine g_iinc (q := 50) (v := (2 : Int32)) (L' := #[.val (.ref t), .val (.long bd), .second, .val (.ref ot_), .val (.int (3 : Int32)), .val (.int (2 : Int32)), .val (.int (0 : Int32)), .val (.int (3 : Int32))]) X257.here hx (hb hby d8_47) rfl rfl rfl rfl ?_
                          refine g_iload_ (q := 51) (i := 1) (v := (1 : Int32)) X257 hx hZ e257 A257 rfl rfl (hb hby d8_50) rfl ?_
                          refine g_istore (q := 53) (L' := #[.val (.ref t), .val (.long bd), .second, .val (.ref ot_), .val (.int (3 : Int32)), .val (.int (2 : Int32)), .val (.int (1 : Int32)), .val (.int (3 : Int32))]) X257.here hx (hb hby d8_51) rfl rfl ?_
                          refine g_iconst (q := 54) (v := (2 : Int32)) X257.here hx (hb hby d8_53) rfl rfl ?_
                          refine g_iload (q := 56) X257.here hx (hb hby d8_54) rfl rfl ?_
                          refine g_imul (q := 57) X257.here hx (hb hby d8_56) rfl ?_
                          rw [show ((2 : Int32) * (1 : Int32)) = (2 : Int32) from by decide]
                          refine g_iconst (q := 58) (v := (1 : Int32)) X257.here hx (hb hby d8_57) rfl rfl ?_
                          refine g_iadd (q := 59) X257.here hx (hb hby d8_58) rfl ?_
                          rw [show ((2 : Int32) + (1 : Int32)) = (3 : Int32) from by decide]
                          refine g_istore (q := 61) (L' := #[.val (.ref t), .val (.long bd), .second, .val (.ref ot_), .val (.int (3 : Int32)), .val (.int (2 : Int32)), .val (.int (1 : Int32)), .val (.int (3 : Int32))]) X257.here hx (hb hby d8_59) rfl rfl ?_
                          refine g_iload (q := 63) X257.here hx (hb hby d8_61) rfl rfl ?_
                          refine g_iconst (q := 64) (v := (2 : Int32)) X257.here hx (hb hby d8_63) rfl rfl ?_
                          refine g_iload (q := 66) X257.here hx (hb hby d8_64) rfl rfl ?_
                          refine g_imul (q := 67) X257.here hx (hb hby d8_66) rfl ?_
                          rw [show ((2 : Int32) * (1 : Int32)) = (2 : Int32) from by decide]
                          refine g_iconst (q := 68) (v := (2 : Int32)) X257.here hx (hb hby d8_67) rfl rfl ?_
                          refine g_iadd (q := 69) X257.here hx (hb hby d8_68) rfl ?_
                          rw [show ((2 : Int32) + (2 : Int32)) = (4 : Int32) from by decide]
                          refine g_icmp_gt (q := 113) (q0 := 72) X257.here hx (hb hby d8_69) (by decide) (by decide) rfl ?_ ?_
                          · intro c269; exact absurd c269 (by decide)
                          · intro c269
                            refine g_iload (q := 74) X257.here hx (hb hby d8_72) rfl rfl ?_
                            refine g_aloadN (q := 75) X257.here hx (hb hby d8_74) rfl rfl rfl ?_
                            refine g_getF (q := 78) X257 hx hZ hown (hw _ (List.mem_of_getElem? (i := 26) rfl)) e257 F261 (hb hby d8_75) rfl ?_
                            intro T270 X270 e270
                            refine g_icmp_ge (q := 113) (q0 := 81) X270.here hx (hb hby d8_78) (by decide) (by decide) rfl ?_ ?_
                            · intro c271
                              refine g_goto (q := 37) X270.here hx (hb hby d8_113) (by decide) (by decide) ?_
                              refine g_iload (q := 39) X270.here hx (hb hby d8_37) rfl rfl ?_
                              refine g_iload (q := 41) X270.here hx (hb hby d8_39) rfl rfl ?_
                              refine g_icmp_ge (q := 116) (q0 := 44) X270.here hx (hb hby d8_41) (by decide) (by decide) rfl ?_ ?_
                              · intro c272; exact absurd c272 (by decide)
                              · intro c272
                                refine g_aloadN (q := 45) X270.here hx (hb hby d8_44) rfl rfl rfl ?_
                                refine g_iload (q := 47) X270.here hx (hb hby d8_45) rfl rfl ?_
                                refine g_iinc (q := 50) (v := (3 : Int32)) (L' := #[.val (.ref t), .val (.long bd), .second, .val (.ref ot_), .val (.int (3 : Int32)), .val (.int (3 : Int32)), .val (.int (1 : Int32)), .val (.int (3 : Int32))]) X270.here hx (hb hby d8_47) rfl rfl rfl rfl ?_
                                refine g_iload_ (q := 51) (i := 2) (v := (2 : Int32)) X270 hx hZ e270 A257 rfl rfl (hb hby d8_50) rfl ?_
                                refine g_istore (q := 53) (L' := #[.val (.ref t), .val (.long bd), .second, .val (.ref ot_), .val (.int (3 : Int32)), .val (.int (3 : Int32)), .val (.int (2 : Int32)), .val (.int (3 : Int32))]) X270.here hx (hb hby d8_51) rfl rfl ?_
                                refine g_iconst (q := 54) (v := (2 : Int32)) X270.here hx (hb hby d8_53) rfl rfl ?_
                                refine g_iload (q := 56) X270.here hx (hb hby d8_54) rfl rfl ?_
                                refine g_imul (q := 57) X270.here hx (hb hby d8_56) rfl ?_
                                rw [show ((2 : Int32) * (2 : Int32)) = (4 : Int32) from by decide]
                                refine g_iconst (q := 58) (v := (1 : Int32)) X270.here hx (hb hby d8_57) rfl rfl ?_
                                refine g_iadd (q := 59) X270.here hx (hb hby d8_58) rfl ?_
                                rw [show ((4 : Int32) + (1 : Int32)) = (5 : Int32) from by decide]
                                refine g_istore (q := 61) (L' := #[.val (.ref t), .val (.long bd), .second, .val (.ref ot_), .val (.int (3 : Int32)), .val (.int (3 : Int32)), .val (.int (2 : Int32)), .val (.int (5 : Int32))]) X270.here hx (hb hby d8_59) rfl rfl ?_
                                refine g_iload (q := 63) X270.here hx (hb hby d8_61) rfl rfl ?_
                                refine g_iconst (q := 64) (v := (2 : Int32)) X270.here hx (hb hby d8_63) rfl rfl ?_
                                refine g_iload (q := 66) X270.here hx (hb hby d8_64) rfl rfl ?_
                                refine g_imul (q := 67) X270.here hx (hb hby d8_66) rfl ?_
                                rw [show ((2 : Int32) * (2 : Int32)) = (4 : Int32) from by decide]
                                refine g_iconst (q := 68) (v := (2 : Int32)) X270.here hx (hb hby d8_67) rfl rfl ?_
                                refine g_iadd (q := 69) X270.here hx (hb hby d8_68) rfl ?_
                                rw [show ((4 : Int32) + (2 : Int32)) = (6 : Int32) from by decide]
                                refine g_icmp_gt (q := 113) (q0 := 72) X270.here hx (hb hby d8_69) (by decide) (by decide) rfl ?_ ?_
                                · intro c273; exact absurd c273 (by decide)
                                · intro c273
                                  refine g_iload (q := 74) X270.here hx (hb hby d8_72) rfl rfl ?_
                                  refine g_aloadN (q := 75) X270.here hx (hb hby d8_74) rfl rfl rfl ?_
                                  refine g_getF (q := 78) X270 hx hZ hown (hw _ (List.mem_of_getElem? (i := 26) rfl)) e270 F261 (hb hby d8_75) rfl ?_
                                  intro T274 X274 e274
                                  refine g_icmp_ge (q := 113) (q0 := 81) X274.here hx (hb hby d8_78) (by decide) (by decide) rfl ?_ ?_
                                  · intro c275
                                    refine g_goto (q := 37) X274.here hx (hb hby d8_113) (by decide) (by decide) ?_
                                    refine g_iload (q := 39) X274.here hx (hb hby d8_37) rfl rfl ?_
                                    refine g_iload (q := 41) X274.here hx (hb hby d8_39) rfl rfl ?_
                                    refine g_icmp_ge (q := 116) (q0 := 44) X274.here hx (hb hby d8_41) (by decide) (by decide) rfl ?_ ?_
                                    · intro c276
                                      refine g_iconst (q := 117) (v := (0 : Int32)) X274.here hx (hb hby d8_116) rfl rfl ?_
                                      refine g_istore (q := 119) (L' := #[.val (.ref t), .val (.long bd), .second, .val (.ref ot_), .val (.int (3 : Int32)), .val (.int (3 : Int32)), .val (.int (0 : Int32)), .val (.int (5 : Int32))]) X274.here hx (hb hby d8_117) rfl rfl ?_
                                      refine g_iload (q := 121) X274.here hx (hb hby d8_119) rfl rfl ?_
                                      refine g_iload (q := 123) X274.here hx (hb hby d8_121) rfl rfl ?_
                                      refine g_icmp_ge (q := 145) (q0 := 126) X274.here hx (hb hby d8_123) (by decide) (by decide) rfl ?_ ?_
                                      · intro c277; exact absurd c277 (by decide)
                                      · intro c277
                                        refine g_aloadN (q := 127) X274.here hx (hb hby d8_126) rfl rfl rfl ?_
                                        refine g_iload (q := 129) X274.here hx (hb hby d8_127) rfl rfl ?_
                                        refine g_aloadN (q := 130) X274.here hx (hb hby d8_129) rfl rfl rfl ?_
                                        refine g_getF (q := 133) X274 hx hZ hown (hw _ (List.mem_of_getElem? (i := 10) rfl)) e274 F259 (hb hby d8_130) rfl ?_
                                        intro T278 X278 e278
                                        refine g_aloadN (q := 134) X278.here hx (hb hby d8_133) rfl rfl rfl ?_
                                        refine g_iload (q := 136) X278.here hx (hb hby d8_134) rfl rfl ?_
                                        refine g_iload_ (q := 137) (i := 0) (v := (0 : Int32)) X278 hx hZ e278 A257 rfl rfl (hb hby d8_136) rfl ?_
                                        refine g_iload_ (q := 138) (i := 0) (v := w0_) X278 hx hZ e278 F262 rfl rfl (hb hby d8_137) rfl ?_
                                        refine g_istore_ (q := 139) (i := 0) (v := w0_) X278 hx hZ e278 A257 rfl (by show 0 < 4; decide) (hb hby d8_138) rfl ?_
                                        intro T279 h279 X279 e279 W279 A279
                                        replace A279 : IA Z h279 ot_ ([w0_, (1 : Int32), (2 : Int32), (0 : Int32)] : List Int32) := A279
                                        have K280 := Keep.wr K258 W279 (Or.inl (by simp))
                                        have F281 := Fld.other W279 F259 (Or.inl ne3_)
                                        have F282 := Fld.other W279 F260 (Or.inl ne3_)
                                        have F283 := Fld.other W279 F261 (Or.inl ne3_)
                                        have F284 := ArrL.other F262 W279 ne4_
                                        have F285 := ArrL.other F263 W279 ne5_
                                        have N287 := Fr.snoc X279 N265 go_
                                        have Z288 : n0 ≤ h279.size := Nat.le_trans Z266 (Nat.le_of_eq W279.size.symm)
                                        refine g_iinc (q := 142) (v := (1 : Int32)) (L' := #[.val (.ref t), .val (.long bd), .second, .val (.ref ot_), .val (.int (3 : Int32)), .val (.int (3 : Int32)), .val (.int (1 : Int32)), .val (.int (5 : Int32))]) X279.here hx (hb hby d8_139) rfl rfl rfl rfl ?_
                                        refine g_goto (q := 119) X279.here hx (hb hby d8_142) (by decide) (by decide) ?_
                                        refine g_iload (q := 121) X279.here hx (hb hby d8_119) rfl rfl ?_
                                        refine g_iload (q := 123) X279.here hx (hb hby d8_121) rfl rfl ?_
                                        refine g_icmp_ge (q := 145) (q0 := 126) X279.here hx (hb hby d8_123) (by decide) (by decide) rfl ?_ ?_
                                        · intro c289; exact absurd c289 (by decide)
                                        · intro c289
                                          refine g_aloadN (q := 127) X279.here hx (hb hby d8_126) rfl rfl rfl ?_
                                          refine g_iload (q := 129) X279.here hx (hb hby d8_127) rfl rfl ?_
                                          refine g_aloadN (q := 130) X279.here hx (hb hby d8_129) rfl rfl rfl ?_
                                          refine g_getF (q := 133) X279 hx hZ hown (hw _ (List.mem_of_getElem? (i := 10) rfl)) e279 F281 (hb hby d8_130) rfl ?_
                                          intro T290 X290 e290
                                          refine g_aloadN (q := 134) X290.here hx (hb hby d8_133) rfl rfl rfl ?_
                                          refine g_iload (q := 136) X290.here hx (hb hby d8_134) rfl rfl ?_
                                          refine g_iload_ (q := 137) (i := 1) (v := (1 : Int32)) X290 hx hZ e290 A279 rfl rfl (hb hby d8_136) rfl ?_
                                          refine g_iload_ (q := 138) (i := 1) (v := w1_) X290 hx hZ e290 F284 rfl rfl (hb hby d8_137) rfl ?_
                                          refine g_istore_ (q := 139) (i := 1) (v := w1_) X290 hx hZ e290 A279 rfl (by show 1 < 4; decide) (hb hby d8_138) rfl ?_
                                          intro T291 h291 X291 e291 W291 A291
                                          replace A291 : IA Z h291 ot_ ([w0_, w1_, (2 : Int32), (0 : Int32)] : List Int32) := A291
                                          have K292 := Keep.wr K280 W291 (Or.inl (by simp))
                                          have F293 := Fld.other W291 F281 (Or.inl ne3_)
                                          have F294 := Fld.other W291 F282 (Or.inl ne3_)
                                          have F295 := Fld.other W291 F283 (Or.inl ne3_)
                                          have F296 := ArrL.other F284 W291 ne4_
                                          have F297 := ArrL.other F285 W291 ne5_
                                          have N299 := Fr.snoc X291 N287 go_
                                          have Z300 : n0 ≤ h291.size := Nat.le_trans Z288 (Nat.le_of_eq W291.size.symm)
                                          refine g_iinc (q := 142) (v := (2 : Int32)) (L' := #[.val (.ref t), .val (.long bd), .second, .val (.ref ot_), .val (.int (3 : Int32)), .val (.int (3 : Int32)), .val (.int (2 : Int32)), .val (.int (5 : Int32))]) X291.here hx (hb hby d8_139) rfl rfl rfl rfl ?_
                                          refine g_goto (q := 119) X291.here hx (hb hby d8_142) (by decide) (by decide) ?_
                                          refine g_iload (q := 121) X291.here hx (hb hby d8_119) rfl rfl ?_
                                          refine g_iload (q := 123) X291.here hx (hb hby d8_121) rfl rfl ?_
                                          refine g_icmp_ge (q := 145) (q0 := 126) X291.here hx (hb hby d8_123) (by decide) (by decide) rfl ?_ ?_
                                          · intro c301; exact absurd c301 (by decide)
                                          · intro c301
                                            refine g_aloadN (q := 127) X291.here hx (hb hby d8_126) rfl rfl rfl ?_
                                            refine g_iload (q := 129) X291.here hx (hb hby d8_127) rfl rfl ?_
                                            refine g_aloadN (q := 130) X291.here hx (hb hby d8_129) rfl rfl rfl ?_
                                            refine g_getF (q := 133) X291 hx hZ hown (hw _ (List.mem_of_getElem? (i := 10) rfl)) e291 F293 (hb hby d8_130) rfl ?_
                                            intro T302 X302 e302
                                            refine g_aloadN (q := 134) X302.here hx (hb hby d8_133) rfl rfl rfl ?_
                                            refine g_iload (q := 136) X302.here hx (hb hby d8_134) rfl rfl ?_
                                            refine g_iload_ (q := 137) (i := 2) (v := (2 : Int32)) X302 hx hZ e302 A291 rfl rfl (hb hby d8_136) rfl ?_
                                            refine g_iload_ (q := 138) (i := 2) (v := w2_) X302 hx hZ e302 F296 rfl rfl (hb hby d8_137) rfl ?_
                                            refine g_istore_ (q := 139) (i := 2) (v := w2_) X302 hx hZ e302 A291 rfl (by show 2 < 4; decide) (hb hby d8_138) rfl ?_
                                            intro T303 h303 X303 e303 W303 A303
                                            replace A303 : IA Z h303 ot_ ([w0_, w1_, w2_, (0 : Int32)] : List Int32) := A303
                                            have K304 := Keep.wr K292 W303 (Or.inl (by simp))
                                            have F305 := Fld.other W303 F293 (Or.inl ne3_)
                                            have F306 := Fld.other W303 F294 (Or.inl ne3_)
                                            have F307 := Fld.other W303 F295 (Or.inl ne3_)
                                            have F308 := ArrL.other F296 W303 ne4_
                                            have F309 := ArrL.other F297 W303 ne5_
                                            have N311 := Fr.snoc X303 N299 go_
                                            have Z312 : n0 ≤ h303.size := Nat.le_trans Z300 (Nat.le_of_eq W303.size.symm)
                                            refine g_iinc (q := 142) (v := (3 : Int32)) (L' := #[.val (.ref t), .val (.long bd), .second, .val (.ref ot_), .val (.int (3 : Int32)), .val (.int (3 : Int32)), .val (.int (3 : Int32)), .val (.int (5 : Int32))]) X303.here hx (hb hby d8_139) rfl rfl rfl rfl ?_
                                            refine g_goto (q := 119) X303.here hx (hb hby d8_142) (by decide) (by decide) ?_
                                            refine g_iload (q := 121) X303.here hx (hb hby d8_119) rfl rfl ?_
                                            refine g_iload (q := 123) X303.here hx (hb hby d8_121) rfl rfl ?_
                                            refine g_icmp_ge (q := 145) (q0 := 126) X303.here hx (hb hby d8_123) (by decide) (by decide) rfl ?_ ?_
                                            · intro c313
                                              refine g_iload (q := 147) X303.here hx (hb hby d8_145) rfl rfl ?_
                                              exact g_ireturn X303 hx hlk hrt (hb hby d8_147) (by decide) (by decide) (by rw [e303]; exact ⟨_, [w0_, w1_, w2_, (0 : Int32)], 3, rfl, N311, K304, A303, rfl, rfl, by decide, (own_am I_ (l := [w0_, w1_, w2_]) (by rw [hM]; rfl) (by have ew0_ := decide_eq_true (show QK ky w0_ ≤ bd.toInt from c128); have ew1_ := decide_eq_true (show QK ky w1_ ≤ bd.toInt from c147); have ew2_ := decide_eq_true (show QK ky w2_ ≤ bd.toInt from c225); simp only [own_flt, List.filter_nil, ew0_, ew1_, ew2_]; first | done | rfl))⟩)
                                            · intro c313; exact absurd c313 (by decide)
                                    · intro c276; exact absurd c276 (by decide)
                                  · intro c275; exact absurd c275 (by decide)
                            · intro c271; exact absurd c271 (by decide)
                      · intro c267; exact absurd c267 (by decide)
  · skip
    have vw0_ := own_val I_ (own_mem I_ (a := w0_) 0 (by rw [hM]; rfl))
    have vw1_ := own_val I_ (own_mem I_ (a := w1_) 1 (by rw [hM]; rfl))
    have vw2_ := own_val I_ (own_mem I_ (a := w2_) 2 (by rw [hM]; rfl))
    have vw3_ := own_val I_ (own_mem I_ (a := w3_) 3 (by rw [hM]; rfl))
    refine g_iconst (q := 1) (v := (0 : Int32)) X0.here hx (hb hby d8_0) rfl rfl ?_
    refine g_istore (q := 3) (L' := #[.val (.ref t), .val (.long bd), .second, .val (.ref ot_), .val (.int (0 : Int32)), .unset, .unset, .unset]) X0.here hx (hb hby d8_1) rfl rfl ?_
    refine g_iconst (q := 4) (v := (0 : Int32)) X0.here hx (hb hby d8_3) rfl rfl ?_
    refine g_istore (q := 6) (L' := #[.val (.ref t), .val (.long bd), .second, .val (.ref ot_), .val (.int (0 : Int32)), .val (.int (0 : Int32)), .unset, .unset]) X0.here hx (hb hby d8_4) rfl rfl ?_
    refine g_aloadN (q := 7) X0.here hx (hb hby d8_6) rfl rfl rfl ?_
    refine g_getF (q := 10) X0 hx hZ hown (hw _ (List.mem_of_getElem? (i := 26) rfl)) e0 F3_ (hb hby d8_7) rfl ?_
    intro T314 X314 e314
    refine g_if_le (q := 37) (q0 := 13) X314.here hx (hb hby d8_10) (by decide) (by decide) rfl ?_ ?_
    · intro c315; exact absurd c315 (by decide)
    · intro c315
      refine g_aloadN (q := 14) X314.here hx (hb hby d8_13) rfl rfl rfl ?_
      refine g_getF (q := 17) X314 hx hZ hown (hw _ (List.mem_of_getElem? (i := 15) rfl)) e314 F2_ (hb hby d8_14) rfl ?_
      intro T316 X316 e316
      refine g_aloadN (q := 18) X316.here hx (hb hby d8_17) rfl rfl rfl ?_
      refine g_getF (q := 21) X316 hx hZ hown (hw _ (List.mem_of_getElem? (i := 10) rfl)) e316 F0_ (hb hby d8_18) rfl ?_
      intro T317 X317 e317
      refine g_iconst (q := 22) (v := (0 : Int32)) X317.here hx (hb hby d8_21) rfl rfl ?_
      refine g_iload_ (q := 23) (i := 0) (v := w0_) X317 hx hZ e317 A0_ rfl rfl (hb hby d8_22) rfl ?_
      refine g_lload_ (q := 24) (i := w0_.toInt.toNat) (v := (ky.getD w0_.toInt.toNat 0)) X317 hx hZ e317 A2_ (own_tn vw0_.1) (own_gdJ (own_lt4 vw0_ hkl)) (hb hby d8_23) rfl ?_
      refine g_lloadN (q := 25) X317.here hx (hb hby d8_24) rfl rfl ?_
      refine g_lcmp_gt (q := 37) (q1 := 26) (q0 := 29) X317.here hx (hb hby d8_25) rfl (hb hby d8_26) (by decide) (by decide) rfl ?_ ?_
      · intro c318
        refine g_iload (q := 39) X317.here hx (hb hby d8_37) rfl rfl ?_
        refine g_iload (q := 41) X317.here hx (hb hby d8_39) rfl rfl ?_
        refine g_icmp_ge (q := 116) (q0 := 44) X317.here hx (hb hby d8_41) (by decide) (by decide) rfl ?_ ?_
        · intro c319
          refine g_iconst (q := 117) (v := (0 : Int32)) X317.here hx (hb hby d8_116) rfl rfl ?_
          refine g_istore (q := 119) (L' := #[.val (.ref t), .val (.long bd), .second, .val (.ref ot_), .val (.int (0 : Int32)), .val (.int (0 : Int32)), .val (.int (0 : Int32)), .unset]) X317.here hx (hb hby d8_117) rfl rfl ?_
          refine g_iload (q := 121) X317.here hx (hb hby d8_119) rfl rfl ?_
          refine g_iload (q := 123) X317.here hx (hb hby d8_121) rfl rfl ?_
          refine g_icmp_ge (q := 145) (q0 := 126) X317.here hx (hb hby d8_123) (by decide) (by decide) rfl ?_ ?_
          · intro c320
            refine g_iload (q := 147) X317.here hx (hb hby d8_145) rfl rfl ?_
            exact g_ireturn X317 hx hlk hrt (hb hby d8_147) (by decide) (by decide) (by rw [e317]; exact ⟨_, [(0 : Int32), (0 : Int32), (0 : Int32), (0 : Int32)], 0, rfl, N0, (Keep.refl h0 [ot_]), A3_, rfl, rfl, by decide, (own_am I_ (l := [w0_, w1_, w2_, w3_]) (by rw [hM]; rfl) (by have ew0_ := decide_eq_false (show ¬ (QK ky w0_ ≤ bd.toInt) from Int.not_le.mpr c318); have ew1_ := decide_eq_false (show ¬ (QK ky w1_ ≤ bd.toInt) from Int.not_le.mpr (Int.lt_of_lt_of_le c318 (show QK ky w0_ ≤ QK ky w1_ from I_.2.2.2.2.2.1.1 (by omega)))); have ew2_ := decide_eq_false (show ¬ (QK ky w2_ ≤ bd.toInt) from Int.not_le.mpr (Int.lt_of_lt_of_le c318 (show QK ky w0_ ≤ QK ky w2_ from I_.2.2.2.2.2.1.2.1 (by omega)))); have ew3_ := decide_eq_false (show ¬ (QK ky w3_ ≤ bd.toInt) from Int.not_le.mpr (Int.lt_of_lt_of_le (Int.lt_of_lt_of_le c318 (show QK ky w0_ ≤ QK ky w1_ from I_.2.2.2.2.2.1.1 (by omega))) (show QK ky w1_ ≤ QK ky w3_ from I_.2.2.2.2.2.1.2.2 (by omega)))); simp only [own_flt, List.filter_nil, ew0_, ew1_, ew2_, ew3_]; first | done | rfl))⟩)
          · intro c320; exact absurd c320 (by decide)
        · intro c319; exact absurd c319 (by decide)
      · intro c318
        refine g_aloadN (q := 30) X317.here hx (hb hby d8_29) rfl rfl rfl ?_
        refine g_iload (q := 32) X317.here hx (hb hby d8_30) rfl rfl ?_
        refine g_iinc (q := 35) (v := (1 : Int32)) (L' := #[.val (.ref t), .val (.long bd), .second, .val (.ref ot_), .val (.int (1 : Int32)), .val (.int (0 : Int32)), .unset, .unset]) X317.here hx (hb hby d8_32) rfl rfl rfl rfl ?_
        refine g_iconst (q := 36) (v := (0 : Int32)) X317.here hx (hb hby d8_35) rfl rfl ?_
        refine g_istore_ (q := 37) (i := 0) (v := (0 : Int32)) X317 hx hZ e317 A3_ rfl (by show 0 < 4; decide) (hb hby d8_36) rfl ?_
        intro T321 h321 X321 e321 W321 A321
        replace A321 : IA Z h321 ot_ ([(0 : Int32), (0 : Int32), (0 : Int32), (0 : Int32)] : List Int32) := A321
        have K322 := Keep.wr (Keep.refl h0 [ot_]) W321 (Or.inl (by simp))
        have F323 := Fld.other W321 F0_ (Or.inl ne3_)
        have F324 := Fld.other W321 F2_ (Or.inl ne3_)
        have F325 := Fld.other W321 F3_ (Or.inl ne3_)
        have F326 := ArrL.other A0_ W321 ne4_
        have F327 := ArrL.other A2_ W321 ne5_
        have N329 := Fr.snoc X321 N0 go_
        have Z330 : n0 ≤ h321.size := Nat.le_trans Z0 (Nat.le_of_eq W321.size.symm)
        refine g_iload (q := 39) X321.here hx (hb hby d8_37) rfl rfl ?_
        refine g_iload (q := 41) X321.here hx (hb hby d8_39) rfl rfl ?_
        refine g_icmp_ge (q := 116) (q0 := 44) X321.here hx (hb hby d8_41) (by decide) (by decide) rfl ?_ ?_
        · intro c331; exact absurd c331 (by decide)
        · intro c331
          refine g_aloadN (q := 45) X321.here hx (hb hby d8_44) rfl rfl rfl ?_
          refine g_iload (q := 47) X321.here hx (hb hby d8_45) rfl rfl ?_
          refine g_iinc (q := 50) (v := (1 : Int32)) (L' := #[.val (.ref t), .val (.long bd), .second, .val (.ref ot_), .val (.int (1 : Int32)), .val (.int (1 : Int32)), .unset, .unset]) X321.here hx (hb hby d8_47) rfl rfl rfl rfl ?_
          refine g_iload_ (q := 51) (i := 0) (v := (0 : Int32)) X321 hx hZ e321 A321 rfl rfl (hb hby d8_50) rfl ?_
          refine g_istore (q := 53) (L' := #[.val (.ref t), .val (.long bd), .second, .val (.ref ot_), .val (.int (1 : Int32)), .val (.int (1 : Int32)), .val (.int (0 : Int32)), .unset]) X321.here hx (hb hby d8_51) rfl rfl ?_
          refine g_iconst (q := 54) (v := (2 : Int32)) X321.here hx (hb hby d8_53) rfl rfl ?_
          refine g_iload (q := 56) X321.here hx (hb hby d8_54) rfl rfl ?_
          refine g_imul (q := 57) X321.here hx (hb hby d8_56) rfl ?_
          rw [show ((2 : Int32) * (0 : Int32)) = (0 : Int32) from by decide]
          refine g_iconst (q := 58) (v := (1 : Int32)) X321.here hx (hb hby d8_57) rfl rfl ?_
          refine g_iadd (q := 59) X321.here hx (hb hby d8_58) rfl ?_
          rw [show ((0 : Int32) + (1 : Int32)) = (1 : Int32) from by decide]
          refine g_istore (q := 61) (L' := #[.val (.ref t), .val (.long bd), .second, .val (.ref ot_), .val (.int (1 : Int32)), .val (.int (1 : Int32)), .val (.int (0 : Int32)), .val (.int (1 : Int32))]) X321.here hx (hb hby d8_59) rfl rfl ?_
          refine g_iload (q := 63) X321.here hx (hb hby d8_61) rfl rfl ?_
          refine g_iconst (q := 64) (v := (2 : Int32)) X321.here hx (hb hby d8_63) rfl rfl ?_
          refine g_iload (q := 66) X321.here hx (hb hby d8_64) rfl rfl ?_
          refine g_imul (q := 67) X321.here hx (hb hby d8_66) rfl ?_
          rw [show ((2 : Int32) * (0 : Int32)) = (0 : Int32) from by decide]
          refine g_iconst (q := 68) (v := (2 : Int32)) X321.here hx (hb hby d8_67) rfl rfl ?_
          refine g_iadd (q := 69) X321.here hx (hb hby d8_68) rfl ?_
          rw [show ((0 : Int32) + (2 : Int32)) = (2 : Int32) from by decide]
          refine g_icmp_gt (q := 113) (q0 := 72) X321.here hx (hb hby d8_69) (by decide) (by decide) rfl ?_ ?_
          · intro c332; exact absurd c332 (by decide)
          · intro c332
            refine g_iload (q := 74) X321.here hx (hb hby d8_72) rfl rfl ?_
            refine g_aloadN (q := 75) X321.here hx (hb hby d8_74) rfl rfl rfl ?_
            refine g_getF (q := 78) X321 hx hZ hown (hw _ (List.mem_of_getElem? (i := 26) rfl)) e321 F325 (hb hby d8_75) rfl ?_
            intro T333 X333 e333
            refine g_icmp_ge (q := 113) (q0 := 81) X333.here hx (hb hby d8_78) (by decide) (by decide) rfl ?_ ?_
            · intro c334; exact absurd c334 (by decide)
            · intro c334
              refine g_aloadN (q := 82) X333.here hx (hb hby d8_81) rfl rfl rfl ?_
              refine g_getF (q := 85) X333 hx hZ hown (hw _ (List.mem_of_getElem? (i := 15) rfl)) e333 F324 (hb hby d8_82) rfl ?_
              intro T335 X335 e335
              refine g_aloadN (q := 86) X335.here hx (hb hby d8_85) rfl rfl rfl ?_
              refine g_getF (q := 89) X335 hx hZ hown (hw _ (List.mem_of_getElem? (i := 10) rfl)) e335 F323 (hb hby d8_86) rfl ?_
              intro T336 X336 e336
              refine g_iload (q := 91) X336.here hx (hb hby d8_89) rfl rfl ?_
              refine g_iload_ (q := 92) (i := 1) (v := w1_) X336 hx hZ e336 F326 rfl rfl (hb hby d8_91) rfl ?_
              refine g_lload_ (q := 93) (i := w1_.toInt.toNat) (v := (ky.getD w1_.toInt.toNat 0)) X336 hx hZ e336 F327 (own_tn vw1_.1) (own_gdJ (own_lt4 vw1_ hkl)) (hb hby d8_92) rfl ?_
              refine g_lloadN (q := 94) X336.here hx (hb hby d8_93) rfl rfl ?_
              refine g_lcmp_gt (q := 107) (q1 := 95) (q0 := 98) X336.here hx (hb hby d8_94) rfl (hb hby d8_95) (by decide) (by decide) rfl ?_ ?_
              · intro c337
                refine g_iinc (q := 110) (v := (2 : Int32)) (L' := #[.val (.ref t), .val (.long bd), .second, .val (.ref ot_), .val (.int (1 : Int32)), .val (.int (1 : Int32)), .val (.int (0 : Int32)), .val (.int (2 : Int32))]) X336.here hx (hb hby d8_107) rfl rfl rfl rfl ?_
                refine g_goto (q := 61) X336.here hx (hb hby d8_110) (by decide) (by decide) ?_
                refine g_iload (q := 63) X336.here hx (hb hby d8_61) rfl rfl ?_
                refine g_iconst (q := 64) (v := (2 : Int32)) X336.here hx (hb hby d8_63) rfl rfl ?_
                refine g_iload (q := 66) X336.here hx (hb hby d8_64) rfl rfl ?_
                refine g_imul (q := 67) X336.here hx (hb hby d8_66) rfl ?_
                rw [show ((2 : Int32) * (0 : Int32)) = (0 : Int32) from by decide]
                refine g_iconst (q := 68) (v := (2 : Int32)) X336.here hx (hb hby d8_67) rfl rfl ?_
                refine g_iadd (q := 69) X336.here hx (hb hby d8_68) rfl ?_
                rw [show ((0 : Int32) + (2 : Int32)) = (2 : Int32) from by decide]
                refine g_icmp_gt (q := 113) (q0 := 72) X336.here hx (hb hby d8_69) (by decide) (by decide) rfl ?_ ?_
                · intro c338; exact absurd c338 (by decide)
                · intro c338
                  refine g_iload (q := 74) X336.here hx (hb hby d8_72) rfl rfl ?_
                  refine g_aloadN (q := 75) X336.here hx (hb hby d8_74) rfl rfl rfl ?_
                  refine g_getF (q := 78) X336 hx hZ hown (hw _ (List.mem_of_getElem? (i := 26) rfl)) e336 F325 (hb hby d8_75) rfl ?_
                  intro T339 X339 e339
                  refine g_icmp_ge (q := 113) (q0 := 81) X339.here hx (hb hby d8_78) (by decide) (by decide) rfl ?_ ?_
                  · intro c340; exact absurd c340 (by decide)
                  · intro c340
                    refine g_aloadN (q := 82) X339.here hx (hb hby d8_81) rfl rfl rfl ?_
                    refine g_getF (q := 85) X339 hx hZ hown (hw _ (List.mem_of_getElem? (i := 15) rfl)) e339 F324 (hb hby d8_82) rfl ?_
                    intro T341 X341 e341
                    refine g_aloadN (q := 86) X341.here hx (hb hby d8_85) rfl rfl rfl ?_
                    refine g_getF (q := 89) X341 hx hZ hown (hw _ (List.mem_of_getElem? (i := 10) rfl)) e341 F323 (hb hby d8_86) rfl ?_
                    intro T342 X342 e342
                    refine g_iload (q := 91) X342.here hx (hb hby d8_89) rfl rfl ?_
                    refine g_iload_ (q := 92) (i := 2) (v := w2_) X342 hx hZ e342 F326 rfl rfl (hb hby d8_91) rfl ?_
                    refine g_lload_ (q := 93) (i := w2_.toInt.toNat) (v := (ky.getD w2_.toInt.toNat 0)) X342 hx hZ e342 F327 (own_tn vw2_.1) (own_gdJ (own_lt4 vw2_ hkl)) (hb hby d8_92) rfl ?_
                    refine g_lloadN (q := 94) X342.here hx (hb hby d8_93) rfl rfl ?_
                    refine g_lcmp_gt (q := 107) (q1 := 95) (q0 := 98) X342.here hx (hb hby d8_94) rfl (hb hby d8_95) (by decide) (by decide) rfl ?_ ?_
                    · intro c343
                      refine g_iinc (q := 110) (v := (3 : Int32)) (L' := #[.val (.ref t), .val (.long bd), .second, .val (.ref ot_), .val (.int (1 : Int32)), .val (.int (1 : Int32)), .val (.int (0 : Int32)), .val (.int (3 : Int32))]) X342.here hx (hb hby d8_107) rfl rfl rfl rfl ?_
                      refine g_goto (q := 61) X342.here hx (hb hby d8_110) (by decide) (by decide) ?_
                      refine g_iload (q := 63) X342.here hx (hb hby d8_61) rfl rfl ?_
                      refine g_iconst (q := 64) (v := (2 : Int32)) X342.here hx (hb hby d8_63) rfl rfl ?_
                      refine g_iload (q := 66) X342.here hx (hb hby d8_64) rfl rfl ?_
                      refine g_imul (q := 67) X342.here hx (hb hby d8_66) rfl ?_
                      rw [show ((2 : Int32) * (0 : Int32)) = (0 : Int32) from by decide]
                      refine g_iconst (q := 68) (v := (2 : Int32)) X342.here hx (hb hby d8_67) rfl rfl ?_
                      refine g_iadd (q := 69) X342.here hx (hb hby d8_68) rfl ?_
                      rw [show ((0 : Int32) + (2 : Int32)) = (2 : Int32) from by decide]
                      refine g_icmp_gt (q := 113) (q0 := 72) X342.here hx (hb hby d8_69) (by decide) (by decide) rfl ?_ ?_
                      · intro c344
                        refine g_goto (q := 37) X342.here hx (hb hby d8_113) (by decide) (by decide) ?_
                        refine g_iload (q := 39) X342.here hx (hb hby d8_37) rfl rfl ?_
                        refine g_iload (q := 41) X342.here hx (hb hby d8_39) rfl rfl ?_
                        refine g_icmp_ge (q := 116) (q0 := 44) X342.here hx (hb hby d8_41) (by decide) (by decide) rfl ?_ ?_
                        · intro c345
                          refine g_iconst (q := 117) (v := (0 : Int32)) X342.here hx (hb hby d8_116) rfl rfl ?_
                          refine g_istore (q := 119) (L' := #[.val (.ref t), .val (.long bd), .second, .val (.ref ot_), .val (.int (1 : Int32)), .val (.int (1 : Int32)), .val (.int (0 : Int32)), .val (.int (3 : Int32))]) X342.here hx (hb hby d8_117) rfl rfl ?_
                          refine g_iload (q := 121) X342.here hx (hb hby d8_119) rfl rfl ?_
                          refine g_iload (q := 123) X342.here hx (hb hby d8_121) rfl rfl ?_
                          refine g_icmp_ge (q := 145) (q0 := 126) X342.here hx (hb hby d8_123) (by decide) (by decide) rfl ?_ ?_
                          · intro c346; exact absurd c346 (by decide)
                          · intro c346
                            refine g_aloadN (q := 127) X342.here hx (hb hby d8_126) rfl rfl rfl ?_
                            refine g_iload (q := 129) X342.here hx (hb hby d8_127) rfl rfl ?_
                            refine g_aloadN (q := 130) X342.here hx (hb hby d8_129) rfl rfl rfl ?_
                            refine g_getF (q := 133) X342 hx hZ hown (hw _ (List.mem_of_getElem? (i := 10) rfl)) e342 F323 (hb hby d8_130) rfl ?_
                            intro T347 X347 e347
                            refine g_aloadN (q := 134) X347.here hx (hb hby d8_133) rfl rfl rfl ?_
                            refine g_iload (q := 136) X347.here hx (hb hby d8_134) rfl rfl ?_
                            refine g_iload_ (q := 137) (i := 0) (v := (0 : Int32)) X347 hx hZ e347 A321 rfl rfl (hb hby d8_136) rfl ?_
                            refine g_iload_ (q := 138) (i := 0) (v := w0_) X347 hx hZ e347 F326 rfl rfl (hb hby d8_137) rfl ?_
                            refine g_istore_ (q := 139) (i := 0) (v := w0_) X347 hx hZ e347 A321 rfl (by show 0 < 4; decide) (hb hby d8_138) rfl ?_
                            intro T348 h348 X348 e348 W348 A348
                            replace A348 : IA Z h348 ot_ ([w0_, (0 : Int32), (0 : Int32), (0 : Int32)] : List Int32) := A348
                            have K349 := Keep.wr K322 W348 (Or.inl (by simp))
                            have F350 := Fld.other W348 F323 (Or.inl ne3_)
                            have F351 := Fld.other W348 F324 (Or.inl ne3_)
                            have F352 := Fld.other W348 F325 (Or.inl ne3_)
                            have F353 := ArrL.other F326 W348 ne4_
                            have F354 := ArrL.other F327 W348 ne5_
                            have N356 := Fr.snoc X348 N329 go_
                            have Z357 : n0 ≤ h348.size := Nat.le_trans Z330 (Nat.le_of_eq W348.size.symm)
                            refine g_iinc (q := 142) (v := (1 : Int32)) (L' := #[.val (.ref t), .val (.long bd), .second, .val (.ref ot_), .val (.int (1 : Int32)), .val (.int (1 : Int32)), .val (.int (1 : Int32)), .val (.int (3 : Int32))]) X348.here hx (hb hby d8_139) rfl rfl rfl rfl ?_
                            refine g_goto (q := 119) X348.here hx (hb hby d8_142) (by decide) (by decide) ?_
                            refine g_iload (q := 121) X348.here hx (hb hby d8_119) rfl rfl ?_
                            refine g_iload (q := 123) X348.here hx (hb hby d8_121) rfl rfl ?_
                            refine g_icmp_ge (q := 145) (q0 := 126) X348.here hx (hb hby d8_123) (by decide) (by decide) rfl ?_ ?_
                            · intro c358
                              refine g_iload (q := 147) X348.here hx (hb hby d8_145) rfl rfl ?_
                              exact g_ireturn X348 hx hlk hrt (hb hby d8_147) (by decide) (by decide) (by rw [e348]; exact ⟨_, [w0_, (0 : Int32), (0 : Int32), (0 : Int32)], 1, rfl, N356, K349, A348, rfl, rfl, by decide, (own_am I_ (l := [w0_, w1_, w2_, w3_]) (by rw [hM]; rfl) (by have ew0_ := decide_eq_true (show QK ky w0_ ≤ bd.toInt from c318); have ew1_ := decide_eq_false (show ¬ (QK ky w1_ ≤ bd.toInt) from Int.not_le.mpr c337); have ew2_ := decide_eq_false (show ¬ (QK ky w2_ ≤ bd.toInt) from Int.not_le.mpr c343); have ew3_ := decide_eq_false (show ¬ (QK ky w3_ ≤ bd.toInt) from Int.not_le.mpr (Int.lt_of_lt_of_le c337 (show QK ky w1_ ≤ QK ky w3_ from I_.2.2.2.2.2.1.2.2 (by omega)))); simp only [own_flt, List.filter_nil, ew0_, ew1_, ew2_, ew3_]; first | done | rfl))⟩)
                            · intro c358; exact absurd c358 (by decide)
                        · intro c345; exact absurd c345 (by decide)
                      · intro c344; exact absurd c344 (by decide)
                    · intro c343
                      refine g_aloadN (q := 99) X342.here hx (hb hby d8_98) rfl rfl rfl ?_
                      refine g_iload (q := 101) X342.here hx (hb hby d8_99) rfl rfl ?_
                      refine g_iinc (q := 104) (v := (2 : Int32)) (L' := #[.val (.ref t), .val (.long bd), .second, .val (.ref ot_), .val (.int (2 : Int32)), .val (.int (1 : Int32)), .val (.int (0 : Int32)), .val (.int (2 : Int32))]) X342.here hx (hb hby d8_101) rfl rfl rfl rfl ?_
                      refine g_iload (q := 106) X342.here hx (hb hby d8_104) rfl rfl ?_
                      refine g_istore_ (q := 107) (i := 1) (v := (2 : Int32)) X342 hx hZ e342 A321 rfl (by show 1 < 4; decide) (hb hby d8_106) rfl ?_
                      intro T359 h359 X359 e359 W359 A359
                      replace A359 : IA Z h359 ot_ ([(0 : Int32), (2 : Int32), (0 : Int32), (0 : Int32)] : List Int32) := A359
                      have K360 := Keep.wr K322 W359 (Or.inl (by simp))
                      have F361 := Fld.other W359 F323 (Or.inl ne3_)
                      have F362 := Fld.other W359 F324 (Or.inl ne3_)
                      have F363 := Fld.other W359 F325 (Or.inl ne3_)
                      have F364 := ArrL.other F326 W359 ne4_
                      have F365 := ArrL.other F327 W359 ne5_
                      have N367 := Fr.snoc X359 N329 go_
                      have Z368 : n0 ≤ h359.size := Nat.le_trans Z330 (Nat.le_of_eq W359.size.symm)
                      refine g_iinc (q := 110) (v := (3 : Int32)) (L' := #[.val (.ref t), .val (.long bd), .second, .val (.ref ot_), .val (.int (2 : Int32)), .val (.int (1 : Int32)), .val (.int (0 : Int32)), .val (.int (3 : Int32))]) X359.here hx (hb hby d8_107) rfl rfl rfl rfl ?_
                      refine g_goto (q := 61) X359.here hx (hb hby d8_110) (by decide) (by decide) ?_
                      refine g_iload (q := 63) X359.here hx (hb hby d8_61) rfl rfl ?_
                      refine g_iconst (q := 64) (v := (2 : Int32)) X359.here hx (hb hby d8_63) rfl rfl ?_
                      refine g_iload (q := 66) X359.here hx (hb hby d8_64) rfl rfl ?_
                      refine g_imul (q := 67) X359.here hx (hb hby d8_66) rfl ?_
                      rw [show ((2 : Int32) * (0 : Int32)) = (0 : Int32) from by decide]
                      refine g_iconst (q := 68) (v := (2 : Int32)) X359.here hx (hb hby d8_67) rfl rfl ?_
                      refine g_iadd (q := 69) X359.here hx (hb hby d8_68) rfl ?_
                      rw [show ((0 : Int32) + (2 : Int32)) = (2 : Int32) from by decide]
                      refine g_icmp_gt (q := 113) (q0 := 72) X359.here hx (hb hby d8_69) (by decide) (by decide) rfl ?_ ?_
                      · intro c369
                        refine g_goto (q := 37) X359.here hx (hb hby d8_113) (by decide) (by decide) ?_
                        refine g_iload (q := 39) X359.here hx (hb hby d8_37) rfl rfl ?_
                        refine g_iload (q := 41) X359.here hx (hb hby d8_39) rfl rfl ?_
                        refine g_icmp_ge (q := 116) (q0 := 44) X359.here hx (hb hby d8_41) (by decide) (by decide) rfl ?_ ?_
                        · intro c370; exact absurd c370 (by decide)
                        · intro c370
                          refine g_aloadN (q := 45) X359.here hx (hb hby d8_44) rfl rfl rfl ?_
                          refine g_iload (q := 47) X359.here hx (hb hby d8_45) rfl rfl ?_
                          refine g_iinc (q := 50) (v := (2 : Int32)) (L' := #[.val (.ref t), .val (.long bd), .second, .val (.ref ot_), .val (.int (2 : Int32)), .val (.int (2 : Int32)), .val (.int (0 : Int32)), .val (.int (3 : Int32))]) X359.here hx (hb hby d8_47) rfl rfl rfl rfl ?_
                          refine g_iload_ (q := 51) (i := 1) (v := (2 : Int32)) X359 hx hZ e359 A359 rfl rfl (hb hby d8_50) rfl ?_
                          refine g_istore (q := 53) (L' := #[.val (.ref t), .val (.long bd), .second, .val (.ref ot_), .val (.int (2 : Int32)), .val (.int (2 : Int32)), .val (.int (2 : Int32)), .val (.int (3 : Int32))]) X359.here hx (hb hby d8_51) rfl rfl ?_
                          refine g_iconst (q := 54) (v := (2 : Int32)) X359.here hx (hb hby d8_53) rfl rfl ?_
                          refine g_iload (q := 56) X359.here hx (hb hby d8_54) rfl rfl ?_
                          refine g_imul (q := 57) X359.here hx (hb hby d8_56) rfl ?_
                          rw [show ((2 : Int32) * (2 : Int32)) = (4 : Int32) from by decide]
                          refine g_iconst (q := 58) (v := (1 : Int32)) X359.here hx (hb hby d8_57) rfl rfl ?_
                          refine g_iadd (q := 59) X359.here hx (hb hby d8_58) rfl ?_
                          rw [show ((4 : Int32) + (1 : Int32)) = (5 : Int32) from by decide]
                          refine g_istore (q := 61) (L' := #[.val (.ref t), .val (.long bd), .second, .val (.ref ot_), .val (.int (2 : Int32)), .val (.int (2 : Int32)), .val (.int (2 : Int32)), .val (.int (5 : Int32))]) X359.here hx (hb hby d8_59) rfl rfl ?_
                          refine g_iload (q := 63) X359.here hx (hb hby d8_61) rfl rfl ?_
                          refine g_iconst (q := 64) (v := (2 : Int32)) X359.here hx (hb hby d8_63) rfl rfl ?_
                          refine g_iload (q := 66) X359.here hx (hb hby d8_64) rfl rfl ?_
                          refine g_imul (q := 67) X359.here hx (hb hby d8_66) rfl ?_
                          rw [show ((2 : Int32) * (2 : Int32)) = (4 : Int32) from by decide]
                          refine g_iconst (q := 68) (v := (2 : Int32)) X359.here hx (hb hby d8_67) rfl rfl ?_
                          refine g_iadd (q := 69) X359.here hx (hb hby d8_68) rfl ?_
                          rw [show ((4 : Int32) + (2 : Int32)) = (6 : Int32) from by decide]
                          refine g_icmp_gt (q := 113) (q0 := 72) X359.here hx (hb hby d8_69) (by decide) (by decide) rfl ?_ ?_
                          · intro c371; exact absurd c371 (by decide)
                          · intro c371
                            refine g_iload (q := 74) X359.here hx (hb hby d8_72) rfl rfl ?_
                            refine g_aloadN (q := 75) X359.here hx (hb hby d8_74) rfl rfl rfl ?_
                            refine g_getF (q := 78) X359 hx hZ hown (hw _ (List.mem_of_getElem? (i := 26) rfl)) e359 F363 (hb hby d8_75) rfl ?_
                            intro T372 X372 e372
                            refine g_icmp_ge (q := 113) (q0 := 81) X372.here hx (hb hby d8_78) (by decide) (by decide) rfl ?_ ?_
                            · intro c373
                              refine g_goto (q := 37) X372.here hx (hb hby d8_113) (by decide) (by decide) ?_
                              refine g_iload (q := 39) X372.here hx (hb hby d8_37) rfl rfl ?_
                              refine g_iload (q := 41) X372.here hx (hb hby d8_39) rfl rfl ?_
                              refine g_icmp_ge (q := 116) (q0 := 44) X372.here hx (hb hby d8_41) (by decide) (by decide) rfl ?_ ?_
                              · intro c374
                                refine g_iconst (q := 117) (v := (0 : Int32)) X372.here hx (hb hby d8_116) rfl rfl ?_
                                refine g_istore (q := 119) (L' := #[.val (.ref t), .val (.long bd), .second, .val (.ref ot_), .val (.int (2 : Int32)), .val (.int (2 : Int32)), .val (.int (0 : Int32)), .val (.int (5 : Int32))]) X372.here hx (hb hby d8_117) rfl rfl ?_
                                refine g_iload (q := 121) X372.here hx (hb hby d8_119) rfl rfl ?_
                                refine g_iload (q := 123) X372.here hx (hb hby d8_121) rfl rfl ?_
                                refine g_icmp_ge (q := 145) (q0 := 126) X372.here hx (hb hby d8_123) (by decide) (by decide) rfl ?_ ?_
                                · intro c375; exact absurd c375 (by decide)
                                · intro c375
                                  refine g_aloadN (q := 127) X372.here hx (hb hby d8_126) rfl rfl rfl ?_
                                  refine g_iload (q := 129) X372.here hx (hb hby d8_127) rfl rfl ?_
                                  refine g_aloadN (q := 130) X372.here hx (hb hby d8_129) rfl rfl rfl ?_
                                  refine g_getF (q := 133) X372 hx hZ hown (hw _ (List.mem_of_getElem? (i := 10) rfl)) e372 F361 (hb hby d8_130) rfl ?_
                                  intro T376 X376 e376
                                  refine g_aloadN (q := 134) X376.here hx (hb hby d8_133) rfl rfl rfl ?_
                                  refine g_iload (q := 136) X376.here hx (hb hby d8_134) rfl rfl ?_
                                  refine g_iload_ (q := 137) (i := 0) (v := (0 : Int32)) X376 hx hZ e376 A359 rfl rfl (hb hby d8_136) rfl ?_
                                  refine g_iload_ (q := 138) (i := 0) (v := w0_) X376 hx hZ e376 F364 rfl rfl (hb hby d8_137) rfl ?_
                                  refine g_istore_ (q := 139) (i := 0) (v := w0_) X376 hx hZ e376 A359 rfl (by show 0 < 4; decide) (hb hby d8_138) rfl ?_
                                  intro T377 h377 X377 e377 W377 A377
                                  replace A377 : IA Z h377 ot_ ([w0_, (2 : Int32), (0 : Int32), (0 : Int32)] : List Int32) := A377
                                  have K378 := Keep.wr K360 W377 (Or.inl (by simp))
                                  have F379 := Fld.other W377 F361 (Or.inl ne3_)
                                  have F380 := Fld.other W377 F362 (Or.inl ne3_)
                                  have F381 := Fld.other W377 F363 (Or.inl ne3_)
                                  have F382 := ArrL.other F364 W377 ne4_
                                  have F383 := ArrL.other F365 W377 ne5_
                                  have N385 := Fr.snoc X377 N367 go_
                                  have Z386 : n0 ≤ h377.size := Nat.le_trans Z368 (Nat.le_of_eq W377.size.symm)
                                  refine g_iinc (q := 142) (v := (1 : Int32)) (L' := #[.val (.ref t), .val (.long bd), .second, .val (.ref ot_), .val (.int (2 : Int32)), .val (.int (2 : Int32)), .val (.int (1 : Int32)), .val (.int (5 : Int32))]) X377.here hx (hb hby d8_139) rfl rfl rfl rfl ?_
                                  refine g_goto (q := 119) X377.here hx (hb hby d8_142) (by decide) (by decide) ?_
                                  refine g_iload (q := 121) X377.here hx (hb hby d8_119) rfl rfl ?_
                                  refine g_iload (q := 123) X377.here hx (hb hby d8_121) rfl rfl ?_
                                  refine g_icmp_ge (q := 145) (q0 := 126) X377.here hx (hb hby d8_123) (by decide) (by decide) rfl ?_ ?_
                                  · intro c387; exact absurd c387 (by decide)
                                  · intro c387
                                    refine g_aloadN (q := 127) X377.here hx (hb hby d8_126) rfl rfl rfl ?_
                                    refine g_iload (q := 129) X377.here hx (hb hby d8_127) rfl rfl ?_
                                    refine g_aloadN (q := 130) X377.here hx (hb hby d8_129) rfl rfl rfl ?_
                                    refine g_getF (q := 133) X377 hx hZ hown (hw _ (List.mem_of_getElem? (i := 10) rfl)) e377 F379 (hb hby d8_130) rfl ?_
                                    intro T388 X388 e388
                                    refine g_aloadN (q := 134) X388.here hx (hb hby d8_133) rfl rfl rfl ?_
                                    refine g_iload (q := 136) X388.here hx (hb hby d8_134) rfl rfl ?_
                                    refine g_iload_ (q := 137) (i := 1) (v := (2 : Int32)) X388 hx hZ e388 A377 rfl rfl (hb hby d8_136) rfl ?_
                                    refine g_iload_ (q := 138) (i := 2) (v := w2_) X388 hx hZ e388 F382 rfl rfl (hb hby d8_137) rfl ?_
                                    refine g_istore_ (q := 139) (i := 1) (v := w2_) X388 hx hZ e388 A377 rfl (by show 1 < 4; decide) (hb hby d8_138) rfl ?_
                                    intro T389 h389 X389 e389 W389 A389
                                    replace A389 : IA Z h389 ot_ ([w0_, w2_, (0 : Int32), (0 : Int32)] : List Int32) := A389
                                    have K390 := Keep.wr K378 W389 (Or.inl (by simp))
                                    have F391 := Fld.other W389 F379 (Or.inl ne3_)
                                    have F392 := Fld.other W389 F380 (Or.inl ne3_)
                                    have F393 := Fld.other W389 F381 (Or.inl ne3_)
                                    have F394 := ArrL.other F382 W389 ne4_
                                    have F395 := ArrL.other F383 W389 ne5_
                                    have N397 := Fr.snoc X389 N385 go_
                                    have Z398 : n0 ≤ h389.size := Nat.le_trans Z386 (Nat.le_of_eq W389.size.symm)
                                    refine g_iinc (q := 142) (v := (2 : Int32)) (L' := #[.val (.ref t), .val (.long bd), .second, .val (.ref ot_), .val (.int (2 : Int32)), .val (.int (2 : Int32)), .val (.int (2 : Int32)), .val (.int (5 : Int32))]) X389.here hx (hb hby d8_139) rfl rfl rfl rfl ?_
                                    refine g_goto (q := 119) X389.here hx (hb hby d8_142) (by decide) (by decide) ?_
                                    refine g_iload (q := 121) X389.here hx (hb hby d8_119) rfl rfl ?_
                                    refine g_iload (q := 123) X389.here hx (hb hby d8_121) rfl rfl ?_
                                    refine g_icmp_ge (q := 145) (q0 := 126) X389.here hx (hb hby d8_123) (by decide) (by decide) rfl ?_ ?_
                                    · intro c399
                                      refine g_iload (q := 147) X389.here hx (hb hby d8_145) rfl rfl ?_
                                      exact g_ireturn X389 hx hlk hrt (hb hby d8_147) (by decide) (by decide) (by rw [e389]; exact ⟨_, [w0_, w2_, (0 : Int32), (0 : Int32)], 2, rfl, N397, K390, A389, rfl, rfl, by decide, (own_am I_ (l := [w0_, w1_, w2_, w3_]) (by rw [hM]; rfl) (by have ew0_ := decide_eq_true (show QK ky w0_ ≤ bd.toInt from c318); have ew1_ := decide_eq_false (show ¬ (QK ky w1_ ≤ bd.toInt) from Int.not_le.mpr c337); have ew2_ := decide_eq_true (show QK ky w2_ ≤ bd.toInt from c343); have ew3_ := decide_eq_false (show ¬ (QK ky w3_ ≤ bd.toInt) from Int.not_le.mpr (Int.lt_of_lt_of_le c337 (show QK ky w1_ ≤ QK ky w3_ from I_.2.2.2.2.2.1.2.2 (by omega)))); simp only [own_flt, List.filter_nil, ew0_, ew1_, ew2_, ew3_]; first | done | rfl))⟩)
                                    · intro c399; exact absurd c399 (by decide)
                              · intro c374; exact absurd c374 (by decide)
                            · intro c373; exact absurd c373 (by decide)
                      · intro c369; exact absurd c369 (by decide)
              · intro c337
                refine g_aloadN (q := 99) X336.here hx (hb hby d8_98) rfl rfl rfl ?_
                refine g_iload (q := 101) X336.here hx (hb hby d8_99) rfl rfl ?_
                refine g_iinc (q := 104) (v := (2 : Int32)) (L' := #[.val (.ref t), .val (.long bd), .second, .val (.ref ot_), .val (.int (2 : Int32)), .val (.int (1 : Int32)), .val (.int (0 : Int32)), .val (.int (1 : Int32))]) X336.here hx (hb hby d8_101) rfl rfl rfl rfl ?_
                refine g_iload (q := 106) X336.here hx (hb hby d8_104) rfl rfl ?_
                refine g_istore_ (q := 107) (i := 1) (v := (1 : Int32)) X336 hx hZ e336 A321 rfl (by show 1 < 4; decide) (hb hby d8_106) rfl ?_
                intro T400 h400 X400 e400 W400 A400
                replace A400 : IA Z h400 ot_ ([(0 : Int32), (1 : Int32), (0 : Int32), (0 : Int32)] : List Int32) := A400
                have K401 := Keep.wr K322 W400 (Or.inl (by simp))
                have F402 := Fld.other W400 F323 (Or.inl ne3_)
                have F403 := Fld.other W400 F324 (Or.inl ne3_)
                have F404 := Fld.other W400 F325 (Or.inl ne3_)
                have F405 := ArrL.other F326 W400 ne4_
                have F406 := ArrL.other F327 W400 ne5_
                have N408 := Fr.snoc X400 N329 go_
                have Z409 : n0 ≤ h400.size := Nat.le_trans Z330 (Nat.le_of_eq W400.size.symm)
                refine g_iinc (q := 110) (v := (2 : Int32)) (L' := #[.val (.ref t), .val (.long bd), .second, .val (.ref ot_), .val (.int (2 : Int32)), .val (.int (1 : Int32)), .val (.int (0 : Int32)), .val (.int (2 : Int32))]) X400.here hx (hb hby d8_107) rfl rfl rfl rfl ?_
                refine g_goto (q := 61) X400.here hx (hb hby d8_110) (by decide) (by decide) ?_
                refine g_iload (q := 63) X400.here hx (hb hby d8_61) rfl rfl ?_
                refine g_iconst (q := 64) (v := (2 : Int32)) X400.here hx (hb hby d8_63) rfl rfl ?_
                refine g_iload (q := 66) X400.here hx (hb hby d8_64) rfl rfl ?_
                refine g_imul (q := 67) X400.here hx (hb hby d8_66) rfl ?_
                rw [show ((2 : Int32) * (0 : Int32)) = (0 : Int32) from by decide]
                refine g_iconst (q := 68) (v := (2 : Int32)) X400.here hx (hb hby d8_67) rfl rfl ?_
                refine g_iadd (q := 69) X400.here hx (hb hby d8_68) rfl ?_
                rw [show ((0 : Int32) + (2 : Int32)) = (2 : Int32) from by decide]
                refine g_icmp_gt (q := 113) (q0 := 72) X400.here hx (hb hby d8_69) (by decide) (by decide) rfl ?_ ?_
                · intro c410; exact absurd c410 (by decide)
                · intro c410
                  refine g_iload (q := 74) X400.here hx (hb hby d8_72) rfl rfl ?_
                  refine g_aloadN (q := 75) X400.here hx (hb hby d8_74) rfl rfl rfl ?_
                  refine g_getF (q := 78) X400 hx hZ hown (hw _ (List.mem_of_getElem? (i := 26) rfl)) e400 F404 (hb hby d8_75) rfl ?_
                  intro T411 X411 e411
                  refine g_icmp_ge (q := 113) (q0 := 81) X411.here hx (hb hby d8_78) (by decide) (by decide) rfl ?_ ?_
                  · intro c412; exact absurd c412 (by decide)
                  · intro c412
                    refine g_aloadN (q := 82) X411.here hx (hb hby d8_81) rfl rfl rfl ?_
                    refine g_getF (q := 85) X411 hx hZ hown (hw _ (List.mem_of_getElem? (i := 15) rfl)) e411 F403 (hb hby d8_82) rfl ?_
                    intro T413 X413 e413
                    refine g_aloadN (q := 86) X413.here hx (hb hby d8_85) rfl rfl rfl ?_
                    refine g_getF (q := 89) X413 hx hZ hown (hw _ (List.mem_of_getElem? (i := 10) rfl)) e413 F402 (hb hby d8_86) rfl ?_
                    intro T414 X414 e414
                    refine g_iload (q := 91) X414.here hx (hb hby d8_89) rfl rfl ?_
                    refine g_iload_ (q := 92) (i := 2) (v := w2_) X414 hx hZ e414 F405 rfl rfl (hb hby d8_91) rfl ?_
                    refine g_lload_ (q := 93) (i := w2_.toInt.toNat) (v := (ky.getD w2_.toInt.toNat 0)) X414 hx hZ e414 F406 (own_tn vw2_.1) (own_gdJ (own_lt4 vw2_ hkl)) (hb hby d8_92) rfl ?_
                    refine g_lloadN (q := 94) X414.here hx (hb hby d8_93) rfl rfl ?_
                    refine g_lcmp_gt (q := 107) (q1 := 95) (q0 := 98) X414.here hx (hb hby d8_94) rfl (hb hby d8_95) (by decide) (by decide) rfl ?_ ?_
                    · intro c415
                      refine g_iinc (q := 110) (v := (3 : Int32)) (L' := #[.val (.ref t), .val (.long bd), .second, .val (.ref ot_), .val (.int (2 : Int32)), .val (.int (1 : Int32)), .val (.int (0 : Int32)), .val (.int (3 : Int32))]) X414.here hx (hb hby d8_107) rfl rfl rfl rfl ?_
                      refine g_goto (q := 61) X414.here hx (hb hby d8_110) (by decide) (by decide) ?_
                      refine g_iload (q := 63) X414.here hx (hb hby d8_61) rfl rfl ?_
                      refine g_iconst (q := 64) (v := (2 : Int32)) X414.here hx (hb hby d8_63) rfl rfl ?_
                      refine g_iload (q := 66) X414.here hx (hb hby d8_64) rfl rfl ?_
                      refine g_imul (q := 67) X414.here hx (hb hby d8_66) rfl ?_
                      rw [show ((2 : Int32) * (0 : Int32)) = (0 : Int32) from by decide]
                      refine g_iconst (q := 68) (v := (2 : Int32)) X414.here hx (hb hby d8_67) rfl rfl ?_
                      refine g_iadd (q := 69) X414.here hx (hb hby d8_68) rfl ?_
                      rw [show ((0 : Int32) + (2 : Int32)) = (2 : Int32) from by decide]
                      refine g_icmp_gt (q := 113) (q0 := 72) X414.here hx (hb hby d8_69) (by decide) (by decide) rfl ?_ ?_
                      · intro c416
                        refine g_goto (q := 37) X414.here hx (hb hby d8_113) (by decide) (by decide) ?_
                        refine g_iload (q := 39) X414.here hx (hb hby d8_37) rfl rfl ?_
                        refine g_iload (q := 41) X414.here hx (hb hby d8_39) rfl rfl ?_
                        refine g_icmp_ge (q := 116) (q0 := 44) X414.here hx (hb hby d8_41) (by decide) (by decide) rfl ?_ ?_
                        · intro c417; exact absurd c417 (by decide)
                        · intro c417
                          refine g_aloadN (q := 45) X414.here hx (hb hby d8_44) rfl rfl rfl ?_
                          refine g_iload (q := 47) X414.here hx (hb hby d8_45) rfl rfl ?_
                          refine g_iinc (q := 50) (v := (2 : Int32)) (L' := #[.val (.ref t), .val (.long bd), .second, .val (.ref ot_), .val (.int (2 : Int32)), .val (.int (2 : Int32)), .val (.int (0 : Int32)), .val (.int (3 : Int32))]) X414.here hx (hb hby d8_47) rfl rfl rfl rfl ?_
                          refine g_iload_ (q := 51) (i := 1) (v := (1 : Int32)) X414 hx hZ e414 A400 rfl rfl (hb hby d8_50) rfl ?_
                          refine g_istore (q := 53) (L' := #[.val (.ref t), .val (.long bd), .second, .val (.ref ot_), .val (.int (2 : Int32)), .val (.int (2 : Int32)), .val (.int (1 : Int32)), .val (.int (3 : Int32))]) X414.here hx (hb hby d8_51) rfl rfl ?_
                          refine g_iconst (q := 54) (v := (2 : Int32)) X414.here hx (hb hby d8_53) rfl rfl ?_
                          refine g_iload (q := 56) X414.here hx (hb hby d8_54) rfl rfl ?_
                          refine g_imul (q := 57) X414.here hx (hb hby d8_56) rfl ?_
                          rw [show ((2 : Int32) * (1 : Int32)) = (2 : Int32) from by decide]
                          refine g_iconst (q := 58) (v := (1 : Int32)) X414.here hx (hb hby d8_57) rfl rfl ?_
                          refine g_iadd (q := 59) X414.here hx (hb hby d8_58) rfl ?_
                          rw [show ((2 : Int32) + (1 : Int32)) = (3 : Int32) from by decide]
                          refine g_istore (q := 61) (L' := #[.val (.ref t), .val (.long bd), .second, .val (.ref ot_), .val (.int (2 : Int32)), .val (.int (2 : Int32)), .val (.int (1 : Int32)), .val (.int (3 : Int32))]) X414.here hx (hb hby d8_59) rfl rfl ?_
                          refine g_iload (q := 63) X414.here hx (hb hby d8_61) rfl rfl ?_
                          refine g_iconst (q := 64) (v := (2 : Int32)) X414.here hx (hb hby d8_63) rfl rfl ?_
                          refine g_iload (q := 66) X414.here hx (hb hby d8_64) rfl rfl ?_
                          refine g_imul (q := 67) X414.here hx (hb hby d8_66) rfl ?_
                          rw [show ((2 : Int32) * (1 : Int32)) = (2 : Int32) from by decide]
                          refine g_iconst (q := 68) (v := (2 : Int32)) X414.here hx (hb hby d8_67) rfl rfl ?_
                          refine g_iadd (q := 69) X414.here hx (hb hby d8_68) rfl ?_
                          rw [show ((2 : Int32) + (2 : Int32)) = (4 : Int32) from by decide]
                          refine g_icmp_gt (q := 113) (q0 := 72) X414.here hx (hb hby d8_69) (by decide) (by decide) rfl ?_ ?_
                          · intro c418; exact absurd c418 (by decide)
                          · intro c418
                            refine g_iload (q := 74) X414.here hx (hb hby d8_72) rfl rfl ?_
                            refine g_aloadN (q := 75) X414.here hx (hb hby d8_74) rfl rfl rfl ?_
                            refine g_getF (q := 78) X414 hx hZ hown (hw _ (List.mem_of_getElem? (i := 26) rfl)) e414 F404 (hb hby d8_75) rfl ?_
                            intro T419 X419 e419
                            refine g_icmp_ge (q := 113) (q0 := 81) X419.here hx (hb hby d8_78) (by decide) (by decide) rfl ?_ ?_
                            · intro c420; exact absurd c420 (by decide)
                            · intro c420
                              refine g_aloadN (q := 82) X419.here hx (hb hby d8_81) rfl rfl rfl ?_
                              refine g_getF (q := 85) X419 hx hZ hown (hw _ (List.mem_of_getElem? (i := 15) rfl)) e419 F403 (hb hby d8_82) rfl ?_
                              intro T421 X421 e421
                              refine g_aloadN (q := 86) X421.here hx (hb hby d8_85) rfl rfl rfl ?_
                              refine g_getF (q := 89) X421 hx hZ hown (hw _ (List.mem_of_getElem? (i := 10) rfl)) e421 F402 (hb hby d8_86) rfl ?_
                              intro T422 X422 e422
                              refine g_iload (q := 91) X422.here hx (hb hby d8_89) rfl rfl ?_
                              refine g_iload_ (q := 92) (i := 3) (v := w3_) X422 hx hZ e422 F405 rfl rfl (hb hby d8_91) rfl ?_
                              refine g_lload_ (q := 93) (i := w3_.toInt.toNat) (v := (ky.getD w3_.toInt.toNat 0)) X422 hx hZ e422 F406 (own_tn vw3_.1) (own_gdJ (own_lt4 vw3_ hkl)) (hb hby d8_92) rfl ?_
                              refine g_lloadN (q := 94) X422.here hx (hb hby d8_93) rfl rfl ?_
                              refine g_lcmp_gt (q := 107) (q1 := 95) (q0 := 98) X422.here hx (hb hby d8_94) rfl (hb hby d8_95) (by decide) (by decide) rfl ?_ ?_
                              · intro c423
                                refine g_iinc (q := 110) (v := (4 : Int32)) (L' := #[.val (.ref t), .val (.long bd), .second, .val (.ref ot_), .val (.int (2 : Int32)), .val (.int (2 : Int32)), .val (.int (1 : Int32)), .val (.int (4 : Int32))]) X422.here hx (hb hby d8_107) rfl rfl rfl rfl ?_
                                refine g_goto (q := 61) X422.here hx (hb hby d8_110) (by decide) (by decide) ?_
                                refine g_iload (q := 63) X422.here hx (hb hby d8_61) rfl rfl ?_
                                refine g_iconst (q := 64) (v := (2 : Int32)) X422.here hx (hb hby d8_63) rfl rfl ?_
                                refine g_iload (q := 66) X422.here hx (hb hby d8_64) rfl rfl ?_
                                refine g_imul (q := 67) X422.here hx (hb hby d8_66) rfl ?_
                                rw [show ((2 : Int32) * (1 : Int32)) = (2 : Int32) from by decide]
                                refine g_iconst (q := 68) (v := (2 : Int32)) X422.here hx (hb hby d8_67) rfl rfl ?_
                                refine g_iadd (q := 69) X422.here hx (hb hby d8_68) rfl ?_
                                rw [show ((2 : Int32) + (2 : Int32)) = (4 : Int32) from by decide]
                                refine g_icmp_gt (q := 113) (q0 := 72) X422.here hx (hb hby d8_69) (by decide) (by decide) rfl ?_ ?_
                                · intro c424; exact absurd c424 (by decide)
                                · intro c424
                                  refine g_iload (q := 74) X422.here hx (hb hby d8_72) rfl rfl ?_
                                  refine g_aloadN (q := 75) X422.here hx (hb hby d8_74) rfl rfl rfl ?_
                                  refine g_getF (q := 78) X422 hx hZ hown (hw _ (List.mem_of_getElem? (i := 26) rfl)) e422 F404 (hb hby d8_75) rfl ?_
                                  intro T425 X425 e425
                                  refine g_icmp_ge (q := 113) (q0 := 81) X425.here hx (hb hby d8_78) (by decide) (by decide) rfl ?_ ?_
                                  · intro c426
                                    refine g_goto (q := 37) X425.here hx (hb hby d8_113) (by decide) (by decide) ?_
                                    refine g_iload (q := 39) X425.here hx (hb hby d8_37) rfl rfl ?_
                                    refine g_iload (q := 41) X425.here hx (hb hby d8_39) rfl rfl ?_
                                    refine g_icmp_ge (q := 116) (q0 := 44) X425.here hx (hb hby d8_41) (by decide) (by decide) rfl ?_ ?_
                                    · intro c427
                                      refine g_iconst (q := 117) (v := (0 : Int32)) X425.here hx (hb hby d8_116) rfl rfl ?_
                                      refine g_istore (q := 119) (L' := #[.val (.ref t), .val (.long bd), .second, .val (.ref ot_), .val (.int (2 : Int32)), .val (.int (2 : Int32)), .val (.int (0 : Int32)), .val (.int (4 : Int32))]) X425.here hx (hb hby d8_117) rfl rfl ?_
                                      refine g_iload (q := 121) X425.here hx (hb hby d8_119) rfl rfl ?_
                                      refine g_iload (q := 123) X425.here hx (hb hby d8_121) rfl rfl ?_
                                      refine g_icmp_ge (q := 145) (q0 := 126) X425.here hx (hb hby d8_123) (by decide) (by decide) rfl ?_ ?_
                                      · intro c428; exact absurd c428 (by decide)
                                      · intro c428
                                        refine g_aloadN (q := 127) X425.here hx (hb hby d8_126) rfl rfl rfl ?_
                                        refine g_iload (q := 129) X425.here hx (hb hby d8_127) rfl rfl ?_
                                        refine g_aloadN (q := 130) X425.here hx (hb hby d8_129) rfl rfl rfl ?_
                                        refine g_getF (q := 133) X425 hx hZ hown (hw _ (List.mem_of_getElem? (i := 10) rfl)) e425 F402 (hb hby d8_130) rfl ?_
                                        intro T429 X429 e429
                                        refine g_aloadN (q := 134) X429.here hx (hb hby d8_133) rfl rfl rfl ?_
                                        refine g_iload (q := 136) X429.here hx (hb hby d8_134) rfl rfl ?_
                                        refine g_iload_ (q := 137) (i := 0) (v := (0 : Int32)) X429 hx hZ e429 A400 rfl rfl (hb hby d8_136) rfl ?_
                                        refine g_iload_ (q := 138) (i := 0) (v := w0_) X429 hx hZ e429 F405 rfl rfl (hb hby d8_137) rfl ?_
                                        refine g_istore_ (q := 139) (i := 0) (v := w0_) X429 hx hZ e429 A400 rfl (by show 0 < 4; decide) (hb hby d8_138) rfl ?_
                                        intro T430 h430 X430 e430 W430 A430
                                        replace A430 : IA Z h430 ot_ ([w0_, (1 : Int32), (0 : Int32), (0 : Int32)] : List Int32) := A430
                                        have K431 := Keep.wr K401 W430 (Or.inl (by simp))
                                        have F432 := Fld.other W430 F402 (Or.inl ne3_)
                                        have F433 := Fld.other W430 F403 (Or.inl ne3_)
                                        have F434 := Fld.other W430 F404 (Or.inl ne3_)
                                        have F435 := ArrL.other F405 W430 ne4_
                                        have F436 := ArrL.other F406 W430 ne5_
                                        have N438 := Fr.snoc X430 N408 go_
                                        have Z439 : n0 ≤ h430.size := Nat.le_trans Z409 (Nat.le_of_eq W430.size.symm)
                                        refine g_iinc (q := 142) (v := (1 : Int32)) (L' := #[.val (.ref t), .val (.long bd), .second, .val (.ref ot_), .val (.int (2 : Int32)), .val (.int (2 : Int32)), .val (.int (1 : Int32)), .val (.int (4 : Int32))]) X430.here hx (hb hby d8_139) rfl rfl rfl rfl ?_
                                        refine g_goto (q := 119) X430.here hx (hb hby d8_142) (by decide) (by decide) ?_
                                        refine g_iload (q := 121) X430.here hx (hb hby d8_119) rfl rfl ?_
                                        refine g_iload (q := 123) X430.here hx (hb hby d8_121) rfl rfl ?_
                                        refine g_icmp_ge (q := 145) (q0 := 126) X430.here hx (hb hby d8_123) (by decide) (by decide) rfl ?_ ?_
                                        · intro c440; exact absurd c440 (by decide)
                                        · intro c440
                                          refine g_aloadN (q := 127) X430.here hx (hb hby d8_126) rfl rfl rfl ?_
                                          refine g_iload (q := 129) X430.here hx (hb hby d8_127) rfl rfl ?_
                                          refine g_aloadN (q := 130) X430.here hx (hb hby d8_129) rfl rfl rfl ?_
                                          refine g_getF (q := 133) X430 hx hZ hown (hw _ (List.mem_of_getElem? (i := 10) rfl)) e430 F432 (hb hby d8_130) rfl ?_
                                          intro T441 X441 e441
                                          refine g_aloadN (q := 134) X441.here hx (hb hby d8_133) rfl rfl rfl ?_
                                          refine g_iload (q := 136) X441.here hx (hb hby d8_134) rfl rfl ?_
                                          refine g_iload_ (q := 137) (i := 1) (v := (1 : Int32)) X441 hx hZ e441 A430 rfl rfl (hb hby d8_136) rfl ?_
                                          refine g_iload_ (q := 138) (i := 1) (v := w1_) X441 hx hZ e441 F435 rfl rfl (hb hby d8_137) rfl ?_
                                          refine g_istore_ (q := 139) (i := 1) (v := w1_) X441 hx hZ e441 A430 rfl (by show 1 < 4; decide) (hb hby d8_138) rfl ?_
                                          intro T442 h442 X442 e442 W442 A442
                                          replace A442 : IA Z h442 ot_ ([w0_, w1_, (0 : Int32), (0 : Int32)] : List Int32) := A442
                                          have K443 := Keep.wr K431 W442 (Or.inl (by simp))
                                          have F444 := Fld.other W442 F432 (Or.inl ne3_)
                                          have F445 := Fld.other W442 F433 (Or.inl ne3_)
                                          have F446 := Fld.other W442 F434 (Or.inl ne3_)
                                          have F447 := ArrL.other F435 W442 ne4_
                                          have F448 := ArrL.other F436 W442 ne5_
                                          have N450 := Fr.snoc X442 N438 go_
                                          have Z451 : n0 ≤ h442.size := Nat.le_trans Z439 (Nat.le_of_eq W442.size.symm)
                                          refine g_iinc (q := 142) (v := (2 : Int32)) (L' := #[.val (.ref t), .val (.long bd), .second, .val (.ref ot_), .val (.int (2 : Int32)), .val (.int (2 : Int32)), .val (.int (2 : Int32)), .val (.int (4 : Int32))]) X442.here hx (hb hby d8_139) rfl rfl rfl rfl ?_
                                          refine g_goto (q := 119) X442.here hx (hb hby d8_142) (by decide) (by decide) ?_
                                          refine g_iload (q := 121) X442.here hx (hb hby d8_119) rfl rfl ?_
                                          refine g_iload (q := 123) X442.here hx (hb hby d8_121) rfl rfl ?_
                                          refine g_icmp_ge (q := 145) (q0 := 126) X442.here hx (hb hby d8_123) (by decide) (by decide) rfl ?_ ?_
                                          · intro c452
                                            refine g_iload (q := 147) X442.here hx (hb hby d8_145) rfl rfl ?_
                                            exact g_ireturn X442 hx hlk hrt (hb hby d8_147) (by decide) (by decide) (by rw [e442]; exact ⟨_, [w0_, w1_, (0 : Int32), (0 : Int32)], 2, rfl, N450, K443, A442, rfl, rfl, by decide, (own_am I_ (l := [w0_, w1_, w2_, w3_]) (by rw [hM]; rfl) (by have ew0_ := decide_eq_true (show QK ky w0_ ≤ bd.toInt from c318); have ew1_ := decide_eq_true (show QK ky w1_ ≤ bd.toInt from c337); have ew2_ := decide_eq_false (show ¬ (QK ky w2_ ≤ bd.toInt) from Int.not_le.mpr c415); have ew3_ := decide_eq_false (show ¬ (QK ky w3_ ≤ bd.toInt) from Int.not_le.mpr c423); simp only [own_flt, List.filter_nil, ew0_, ew1_, ew2_, ew3_]; first | done | rfl))⟩)
                                          · intro c452; exact absurd c452 (by decide)
                                    · intro c427; exact absurd c427 (by decide)
                                  · intro c426; exact absurd c426 (by decide)
                              · intro c423
                                refine g_aloadN (q := 99) X422.here hx (hb hby d8_98) rfl rfl rfl ?_
                                refine g_iload (q := 101) X422.here hx (hb hby d8_99) rfl rfl ?_
                                refine g_iinc (q := 104) (v := (3 : Int32)) (L' := #[.val (.ref t), .val (.long bd), .second, .val (.ref ot_), .val (.int (3 : Int32)), .val (.int (2 : Int32)), .val (.int (1 : Int32)), .val (.int (3 : Int32))]) X422.here hx (hb hby d8_101) rfl rfl rfl rfl ?_
                                refine g_iload (q := 106) X422.here hx (hb hby d8_104) rfl rfl ?_
                                refine g_istore_ (q := 107) (i := 2) (v := (3 : Int32)) X422 hx hZ e422 A400 rfl (by show 2 < 4; decide) (hb hby d8_106) rfl ?_
                                intro T453 h453 X453 e453 W453 A453
                                replace A453 : IA Z h453 ot_ ([(0 : Int32), (1 : Int32), (3 : Int32), (0 : Int32)] : List Int32) := A453
                                have K454 := Keep.wr K401 W453 (Or.inl (by simp))
                                have F455 := Fld.other W453 F402 (Or.inl ne3_)
                                have F456 := Fld.other W453 F403 (Or.inl ne3_)
                                have F457 := Fld.other W453 F404 (Or.inl ne3_)
                                have F458 := ArrL.other F405 W453 ne4_
                                have F459 := ArrL.other F406 W453 ne5_
                                have N461 := Fr.snoc X453 N408 go_
                                have Z462 : n0 ≤ h453.size := Nat.le_trans Z409 (Nat.le_of_eq W453.size.symm)
                                refine g_iinc (q := 110) (v := (4 : Int32)) (L' := #[.val (.ref t), .val (.long bd), .second, .val (.ref ot_), .val (.int (3 : Int32)), .val (.int (2 : Int32)), .val (.int (1 : Int32)), .val (.int (4 : Int32))]) X453.here hx (hb hby d8_107) rfl rfl rfl rfl ?_
                                refine g_goto (q := 61) X453.here hx (hb hby d8_110) (by decide) (by decide) ?_
                                refine g_iload (q := 63) X453.here hx (hb hby d8_61) rfl rfl ?_
                                refine g_iconst (q := 64) (v := (2 : Int32)) X453.here hx (hb hby d8_63) rfl rfl ?_
                                refine g_iload (q := 66) X453.here hx (hb hby d8_64) rfl rfl ?_
                                refine g_imul (q := 67) X453.here hx (hb hby d8_66) rfl ?_
                                rw [show ((2 : Int32) * (1 : Int32)) = (2 : Int32) from by decide]
                                refine g_iconst (q := 68) (v := (2 : Int32)) X453.here hx (hb hby d8_67) rfl rfl ?_
                                refine g_iadd (q := 69) X453.here hx (hb hby d8_68) rfl ?_
                                rw [show ((2 : Int32) + (2 : Int32)) = (4 : Int32) from by decide]
                                refine g_icmp_gt (q := 113) (q0 := 72) X453.here hx (hb hby d8_69) (by decide) (by decide) rfl ?_ ?_
                                · intro c463; exact absurd c463 (by decide)
                                · intro c463
                                  refine g_iload (q := 74) X453.here hx (hb hby d8_72) rfl rfl ?_
                                  refine g_aloadN (q := 75) X453.here hx (hb hby d8_74) rfl rfl rfl ?_
                                  refine g_getF (q := 78) X453 hx hZ hown (hw _ (List.mem_of_getElem? (i := 26) rfl)) e453 F457 (hb hby d8_75) rfl ?_
                                  intro T464 X464 e464
                                  refine g_icmp_ge (q := 113) (q0 := 81) X464.here hx (hb hby d8_78) (by decide) (by decide) rfl ?_ ?_
                                  · intro c465
                                    refine g_goto (q := 37) X464.here hx (hb hby d8_113) (by decide) (by decide) ?_
                                    refine g_iload (q := 39) X464.here hx (hb hby d8_37) rfl rfl ?_
                                    refine g_iload (q := 41) X464.here hx (hb hby d8_39) rfl rfl ?_
                                    refine g_icmp_ge (q := 116) (q0 := 44) X464.here hx (hb hby d8_41) (by decide) (by decide) rfl ?_ ?_
                                    · intro c466; exact absurd c466 (by decide)
                                    · intro c466
                                      refine g_aloadN (q := 45) X464.here hx (hb hby d8_44) rfl rfl rfl ?_
                                      refine g_iload (q := 47) X464.here hx (hb hby d8_45) rfl rfl ?_
                                      refine g_iinc (q := 50) (v := (3 : Int32)) (L' := #[.val (.ref t), .val (.long bd), .second, .val (.ref ot_), .val (.int (3 : Int32)), .val (.int (3 : Int32)), .val (.int (1 : Int32)), .val (.int (4 : Int32))]) X464.here hx (hb hby d8_47) rfl rfl rfl rfl ?_
                                      refine g_iload_ (q := 51) (i := 2) (v := (3 : Int32)) X464 hx hZ e464 A453 rfl rfl (hb hby d8_50) rfl ?_
                                      refine g_istore (q := 53) (L' := #[.val (.ref t), .val (.long bd), .second, .val (.ref ot_), .val (.int (3 : Int32)), .val (.int (3 : Int32)), .val (.int (3 : Int32)), .val (.int (4 : Int32))]) X464.here hx (hb hby d8_51) rfl rfl ?_
                                      refine g_iconst (q := 54) (v := (2 : Int32)) X464.here hx (hb hby d8_53) rfl rfl ?_
                                      refine g_iload (q := 56) X464.here hx (hb hby d8_54) rfl rfl ?_
                                      refine g_imul (q := 57) X464.here hx (hb hby d8_56) rfl ?_
                                      rw [show ((2 : Int32) * (3 : Int32)) = (6 : Int32) from by decide]
                                      refine g_iconst (q := 58) (v := (1 : Int32)) X464.here hx (hb hby d8_57) rfl rfl ?_
                                      refine g_iadd (q := 59) X464.here hx (hb hby d8_58) rfl ?_
                                      rw [show ((6 : Int32) + (1 : Int32)) = (7 : Int32) from by decide]
                                      refine g_istore (q := 61) (L' := #[.val (.ref t), .val (.long bd), .second, .val (.ref ot_), .val (.int (3 : Int32)), .val (.int (3 : Int32)), .val (.int (3 : Int32)), .val (.int (7 : Int32))]) X464.here hx (hb hby d8_59) rfl rfl ?_
                                      refine g_iload (q := 63) X464.here hx (hb hby d8_61) rfl rfl ?_
                                      refine g_iconst (q := 64) (v := (2 : Int32)) X464.here hx (hb hby d8_63) rfl rfl ?_
                                      refine g_iload (q := 66) X464.here hx (hb hby d8_64) rfl rfl ?_
                                      refine g_imul (q := 67) X464.here hx (hb hby d8_66) rfl ?_
                                      rw [show ((2 : Int32) * (3 : Int32)) = (6 : Int32) from by decide]
                                      refine g_iconst (q := 68) (v := (2 : Int32)) X464.here hx (hb hby d8_67) rfl rfl ?_
                                      refine g_iadd (q := 69) X464.here hx (hb hby d8_68) rfl ?_
                                      rw [show ((6 : Int32) + (2 : Int32)) = (8 : Int32) from by decide]
                                      refine g_icmp_gt (q := 113) (q0 := 72) X464.here hx (hb hby d8_69) (by decide) (by decide) rfl ?_ ?_
                                      · intro c467; exact absurd c467 (by decide)
                                      · intro c467
                                        refine g_iload (q := 74) X464.here hx (hb hby d8_72) rfl rfl ?_
                                        refine g_aloadN (q := 75) X464.here hx (hb hby d8_74) rfl rfl rfl ?_
                                        refine g_getF (q := 78) X464 hx hZ hown (hw _ (List.mem_of_getElem? (i := 26) rfl)) e464 F457 (hb hby d8_75) rfl ?_
                                        intro T468 X468 e468
                                        refine g_icmp_ge (q := 113) (q0 := 81) X468.here hx (hb hby d8_78) (by decide) (by decide) rfl ?_ ?_
                                        · intro c469
                                          refine g_goto (q := 37) X468.here hx (hb hby d8_113) (by decide) (by decide) ?_
                                          refine g_iload (q := 39) X468.here hx (hb hby d8_37) rfl rfl ?_
                                          refine g_iload (q := 41) X468.here hx (hb hby d8_39) rfl rfl ?_
                                          refine g_icmp_ge (q := 116) (q0 := 44) X468.here hx (hb hby d8_41) (by decide) (by decide) rfl ?_ ?_
                                          · intro c470
                                            refine g_iconst (q := 117) (v := (0 : Int32)) X468.here hx (hb hby d8_116) rfl rfl ?_
                                            refine g_istore (q := 119) (L' := #[.val (.ref t), .val (.long bd), .second, .val (.ref ot_), .val (.int (3 : Int32)), .val (.int (3 : Int32)), .val (.int (0 : Int32)), .val (.int (7 : Int32))]) X468.here hx (hb hby d8_117) rfl rfl ?_
                                            refine g_iload (q := 121) X468.here hx (hb hby d8_119) rfl rfl ?_
                                            refine g_iload (q := 123) X468.here hx (hb hby d8_121) rfl rfl ?_
                                            refine g_icmp_ge (q := 145) (q0 := 126) X468.here hx (hb hby d8_123) (by decide) (by decide) rfl ?_ ?_
                                            · intro c471; exact absurd c471 (by decide)
                                            · intro c471
                                              refine g_aloadN (q := 127) X468.here hx (hb hby d8_126) rfl rfl rfl ?_
                                              refine g_iload (q := 129) X468.here hx (hb hby d8_127) rfl rfl ?_
                                              refine g_aloadN (q := 130) X468.here hx (hb hby d8_129) rfl rfl rfl ?_
                                              refine g_getF (q := 133) X468 hx hZ hown (hw _ (List.mem_of_getElem? (i := 10) rfl)) e468 F455 (hb hby d8_130) rfl ?_
                                              intro T472 X472 e472
                                              refine g_aloadN (q := 134) X472.here hx (hb hby d8_133) rfl rfl rfl ?_
                                              refine g_iload (q := 136) X472.here hx (hb hby d8_134) rfl rfl ?_
                                              refine g_iload_ (q := 137) (i := 0) (v := (0 : Int32)) X472 hx hZ e472 A453 rfl rfl (hb hby d8_136) rfl ?_
                                              refine g_iload_ (q := 138) (i := 0) (v := w0_) X472 hx hZ e472 F458 rfl rfl (hb hby d8_137) rfl ?_
                                              refine g_istore_ (q := 139) (i := 0) (v := w0_) X472 hx hZ e472 A453 rfl (by show 0 < 4; decide) (hb hby d8_138) rfl ?_
                                              intro T473 h473 X473 e473 W473 A473
                                              replace A473 : IA Z h473 ot_ ([w0_, (1 : Int32), (3 : Int32), (0 : Int32)] : List Int32) := A473
                                              have K474 := Keep.wr K454 W473 (Or.inl (by simp))
                                              have F475 := Fld.other W473 F455 (Or.inl ne3_)
                                              have F476 := Fld.other W473 F456 (Or.inl ne3_)
                                              have F477 := Fld.other W473 F457 (Or.inl ne3_)
                                              have F478 := ArrL.other F458 W473 ne4_
                                              have F479 := ArrL.other F459 W473 ne5_
                                              have N481 := Fr.snoc X473 N461 go_
                                              have Z482 : n0 ≤ h473.size := Nat.le_trans Z462 (Nat.le_of_eq W473.size.symm)
                                              refine g_iinc (q := 142) (v := (1 : Int32)) (L' := #[.val (.ref t), .val (.long bd), .second, .val (.ref ot_), .val (.int (3 : Int32)), .val (.int (3 : Int32)), .val (.int (1 : Int32)), .val (.int (7 : Int32))]) X473.here hx (hb hby d8_139) rfl rfl rfl rfl ?_
                                              refine g_goto (q := 119) X473.here hx (hb hby d8_142) (by decide) (by decide) ?_
                                              refine g_iload (q := 121) X473.here hx (hb hby d8_119) rfl rfl ?_
                                              refine g_iload (q := 123) X473.here hx (hb hby d8_121) rfl rfl ?_
                                              refine g_icmp_ge (q := 145) (q0 := 126) X473.here hx (hb hby d8_123) (by decide) (by decide) rfl ?_ ?_
                                              · intro c483; exact absurd c483 (by decide)
                                              · intro c483
                                                refine g_aloadN (q := 127) X473.here hx (hb hby d8_126) rfl rfl rfl ?_
                                                refine g_iload (q := 129) X473.here hx (hb hby d8_127) rfl rfl ?_
                                                refine g_aloadN (q := 130) X473.here hx (hb hby d8_129) rfl rfl rfl ?_
                                                refine g_getF (q := 133) X473 hx hZ hown (hw _ (List.mem_of_getElem? (i := 10) rfl)) e473 F475 (hb hby d8_130) rfl ?_
                                                intro T484 X484 e484
                                                refine g_aloadN (q := 134) X484.here hx (hb hby d8_133) rfl rfl rfl ?_
                                                refine g_iload (q := 136) X484.here hx (hb hby d8_134) rfl rfl ?_
                                                refine g_iload_ (q := 137) (i := 1) (v := (1 : Int32)) X484 hx hZ e484 A473 rfl rfl (hb hby d8_136) rfl ?_
                                                refine g_iload_ (q := 138) (i := 1) (v := w1_) X484 hx hZ e484 F478 rfl rfl (hb hby d8_137) rfl ?_
                                                refine g_istore_ (q := 139) (i := 1) (v := w1_) X484 hx hZ e484 A473 rfl (by show 1 < 4; decide) (hb hby d8_138) rfl ?_
                                                intro T485 h485 X485 e485 W485 A485
                                                replace A485 : IA Z h485 ot_ ([w0_, w1_, (3 : Int32), (0 : Int32)] : List Int32) := A485
                                                have K486 := Keep.wr K474 W485 (Or.inl (by simp))
                                                have F487 := Fld.other W485 F475 (Or.inl ne3_)
                                                have F488 := Fld.other W485 F476 (Or.inl ne3_)
                                                have F489 := Fld.other W485 F477 (Or.inl ne3_)
                                                have F490 := ArrL.other F478 W485 ne4_
                                                have F491 := ArrL.other F479 W485 ne5_
                                                have N493 := Fr.snoc X485 N481 go_
                                                have Z494 : n0 ≤ h485.size := Nat.le_trans Z482 (Nat.le_of_eq W485.size.symm)
                                                refine g_iinc (q := 142) (v := (2 : Int32)) (L' := #[.val (.ref t), .val (.long bd), .second, .val (.ref ot_), .val (.int (3 : Int32)), .val (.int (3 : Int32)), .val (.int (2 : Int32)), .val (.int (7 : Int32))]) X485.here hx (hb hby d8_139) rfl rfl rfl rfl ?_
                                                refine g_goto (q := 119) X485.here hx (hb hby d8_142) (by decide) (by decide) ?_
                                                refine g_iload (q := 121) X485.here hx (hb hby d8_119) rfl rfl ?_
                                                refine g_iload (q := 123) X485.here hx (hb hby d8_121) rfl rfl ?_
                                                refine g_icmp_ge (q := 145) (q0 := 126) X485.here hx (hb hby d8_123) (by decide) (by decide) rfl ?_ ?_
                                                · intro c495; exact absurd c495 (by decide)
                                                · intro c495
                                                  refine g_aloadN (q := 127) X485.here hx (hb hby d8_126) rfl rfl rfl ?_
                                                  refine g_iload (q := 129) X485.here hx (hb hby d8_127) rfl rfl ?_
                                                  refine g_aloadN (q := 130) X485.here hx (hb hby d8_129) rfl rfl rfl ?_
                                                  refine g_getF (q := 133) X485 hx hZ hown (hw _ (List.mem_of_getElem? (i := 10) rfl)) e485 F487 (hb hby d8_130) rfl ?_
                                                  intro T496 X496 e496
                                                  refine g_aloadN (q := 134) X496.here hx (hb hby d8_133) rfl rfl rfl ?_
                                                  refine g_iload (q := 136) X496.here hx (hb hby d8_134) rfl rfl ?_
                                                  refine g_iload_ (q := 137) (i := 2) (v := (3 : Int32)) X496 hx hZ e496 A485 rfl rfl (hb hby d8_136) rfl ?_
                                                  refine g_iload_ (q := 138) (i := 3) (v := w3_) X496 hx hZ e496 F490 rfl rfl (hb hby d8_137) rfl ?_
                                                  refine g_istore_ (q := 139) (i := 2) (v := w3_) X496 hx hZ e496 A485 rfl (by show 2 < 4; decide) (hb hby d8_138) rfl ?_
                                                  intro T497 h497 X497 e497 W497 A497
                                                  replace A497 : IA Z h497 ot_ ([w0_, w1_, w3_, (0 : Int32)] : List Int32) := A497
                                                  have K498 := Keep.wr K486 W497 (Or.inl (by simp))
                                                  have F499 := Fld.other W497 F487 (Or.inl ne3_)
                                                  have F500 := Fld.other W497 F488 (Or.inl ne3_)
                                                  have F501 := Fld.other W497 F489 (Or.inl ne3_)
                                                  have F502 := ArrL.other F490 W497 ne4_
                                                  have F503 := ArrL.other F491 W497 ne5_
                                                  have N505 := Fr.snoc X497 N493 go_
                                                  have Z506 : n0 ≤ h497.size := Nat.le_trans Z494 (Nat.le_of_eq W497.size.symm)
                                                  refine g_iinc (q := 142) (v := (3 : Int32)) (L' := #[.val (.ref t), .val (.long bd), .second, .val (.ref ot_), .val (.int (3 : Int32)), .val (.int (3 : Int32)), .val (.int (3 : Int32)), .val (.int (7 : Int32))]) X497.here hx (hb hby d8_139) rfl rfl rfl rfl ?_
                                                  refine g_goto (q := 119) X497.here hx (hb hby d8_142) (by decide) (by decide) ?_
                                                  refine g_iload (q := 121) X497.here hx (hb hby d8_119) rfl rfl ?_
                                                  refine g_iload (q := 123) X497.here hx (hb hby d8_121) rfl rfl ?_
                                                  refine g_icmp_ge (q := 145) (q0 := 126) X497.here hx (hb hby d8_123) (by decide) (by decide) rfl ?_ ?_
                                                  · intro c507
                                                    refine g_iload (q := 147) X497.here hx (hb hby d8_145) rfl rfl ?_
                                                    exact g_ireturn X497 hx hlk hrt (hb hby d8_147) (by decide) (by decide) (by rw [e497]; exact ⟨_, [w0_, w1_, w3_, (0 : Int32)], 3, rfl, N505, K498, A497, rfl, rfl, by decide, (own_am I_ (l := [w0_, w1_, w2_, w3_]) (by rw [hM]; rfl) (by have ew0_ := decide_eq_true (show QK ky w0_ ≤ bd.toInt from c318); have ew1_ := decide_eq_true (show QK ky w1_ ≤ bd.toInt from c337); have ew2_ := decide_eq_false (show ¬ (QK ky w2_ ≤ bd.toInt) from Int.not_le.mpr c415); have ew3_ := decide_eq_true (show QK ky w3_ ≤ bd.toInt from c423); simp only [own_flt, List.filter_nil, ew0_, ew1_, ew2_, ew3_]; first | done | rfl))⟩)
                                                  · intro c507; exact absurd c507 (by decide)
                                          · intro c470; exact absurd c470 (by decide)
                                        · intro c469; exact absurd c469 (by decide)
                                  · intro c465; exact absurd c465 (by decide)
                      · intro c416; exact absurd c416 (by decide)
                    · intro c415
                      refine g_aloadN (q := 99) X414.here hx (hb hby d8_98) rfl rfl rfl ?_
                      refine g_iload (q := 101) X414.here hx (hb hby d8_99) rfl rfl ?_
                      refine g_iinc (q := 104) (v := (3 : Int32)) (L' := #[.val (.ref t), .val (.long bd), .second, .val (.ref ot_), .val (.int (3 : Int32)), .val (.int (1 : Int32)), .val (.int (0 : Int32)), .val (.int (2 : Int32))]) X414.here hx (hb hby d8_101) rfl rfl rfl rfl ?_
                      refine g_iload (q := 106) X414.here hx (hb hby d8_104) rfl rfl ?_
                      refine g_istore_ (q := 107) (i := 2) (v := (2 : Int32)) X414 hx hZ e414 A400 rfl (by show 2 < 4; decide) (hb hby d8_106) rfl ?_
                      intro T508 h508 X508 e508 W508 A508
                      replace A508 : IA Z h508 ot_ ([(0 : Int32), (1 : Int32), (2 : Int32), (0 : Int32)] : List Int32) := A508
                      have K509 := Keep.wr K401 W508 (Or.inl (by simp))
                      have F510 := Fld.other W508 F402 (Or.inl ne3_)
                      have F511 := Fld.other W508 F403 (Or.inl ne3_)
                      have F512 := Fld.other W508 F404 (Or.inl ne3_)
                      have F513 := ArrL.other F405 W508 ne4_
                      have F514 := ArrL.other F406 W508 ne5_
                      have N516 := Fr.snoc X508 N408 go_
                      have Z517 : n0 ≤ h508.size := Nat.le_trans Z409 (Nat.le_of_eq W508.size.symm)
                      refine g_iinc (q := 110) (v := (3 : Int32)) (L' := #[.val (.ref t), .val (.long bd), .second, .val (.ref ot_), .val (.int (3 : Int32)), .val (.int (1 : Int32)), .val (.int (0 : Int32)), .val (.int (3 : Int32))]) X508.here hx (hb hby d8_107) rfl rfl rfl rfl ?_
                      refine g_goto (q := 61) X508.here hx (hb hby d8_110) (by decide) (by decide) ?_
                      refine g_iload (q := 63) X508.here hx (hb hby d8_61) rfl rfl ?_
                      refine g_iconst (q := 64) (v := (2 : Int32)) X508.here hx (hb hby d8_63) rfl rfl ?_
                      refine g_iload (q := 66) X508.here hx (hb hby d8_64) rfl rfl ?_
                      refine g_imul (q := 67) X508.here hx (hb hby d8_66) rfl ?_
                      rw [show ((2 : Int32) * (0 : Int32)) = (0 : Int32) from by decide]
                      refine g_iconst (q := 68) (v := (2 : Int32)) X508.here hx (hb hby d8_67) rfl rfl ?_
                      refine g_iadd (q := 69) X508.here hx (hb hby d8_68) rfl ?_
                      rw [show ((0 : Int32) + (2 : Int32)) = (2 : Int32) from by decide]
                      refine g_icmp_gt (q := 113) (q0 := 72) X508.here hx (hb hby d8_69) (by decide) (by decide) rfl ?_ ?_
                      · intro c518
                        refine g_goto (q := 37) X508.here hx (hb hby d8_113) (by decide) (by decide) ?_
                        refine g_iload (q := 39) X508.here hx (hb hby d8_37) rfl rfl ?_
                        refine g_iload (q := 41) X508.here hx (hb hby d8_39) rfl rfl ?_
                        refine g_icmp_ge (q := 116) (q0 := 44) X508.here hx (hb hby d8_41) (by decide) (by decide) rfl ?_ ?_
                        · intro c519; exact absurd c519 (by decide)
                        · intro c519
                          refine g_aloadN (q := 45) X508.here hx (hb hby d8_44) rfl rfl rfl ?_
                          refine g_iload (q := 47) X508.here hx (hb hby d8_45) rfl rfl ?_
                          refine g_iinc (q := 50) (v := (2 : Int32)) (L' := #[.val (.ref t), .val (.long bd), .second, .val (.ref ot_), .val (.int (3 : Int32)), .val (.int (2 : Int32)), .val (.int (0 : Int32)), .val (.int (3 : Int32))]) X508.here hx (hb hby d8_47) rfl rfl rfl rfl ?_
                          refine g_iload_ (q := 51) (i := 1) (v := (1 : Int32)) X508 hx hZ e508 A508 rfl rfl (hb hby d8_50) rfl ?_
                          refine g_istore (q := 53) (L' := #[.val (.ref t), .val (.long bd), .second, .val (.ref ot_), .val (.int (3 : Int32)), .val (.int (2 : Int32)), .val (.int (1 : Int32)), .val (.int (3 : Int32))]) X508.here hx (hb hby d8_51) rfl rfl ?_
                          refine g_iconst (q := 54) (v := (2 : Int32)) X508.here hx (hb hby d8_53) rfl rfl ?_
                          refine g_iload (q := 56) X508.here hx (hb hby d8_54) rfl rfl ?_
                          refine g_imul (q := 57) X508.here hx (hb hby d8_56) rfl ?_
                          rw [show ((2 : Int32) * (1 : Int32)) = (2 : Int32) from by decide]
                          refine g_iconst (q := 58) (v := (1 : Int32)) X508.here hx (hb hby d8_57) rfl rfl ?_
                          refine g_iadd (q := 59) X508.here hx (hb hby d8_58) rfl ?_
                          rw [show ((2 : Int32) + (1 : Int32)) = (3 : Int32) from by decide]
                          refine g_istore (q := 61) (L' := #[.val (.ref t), .val (.long bd), .second, .val (.ref ot_), .val (.int (3 : Int32)), .val (.int (2 : Int32)), .val (.int (1 : Int32)), .val (.int (3 : Int32))]) X508.here hx (hb hby d8_59) rfl rfl ?_
                          refine g_iload (q := 63) X508.here hx (hb hby d8_61) rfl rfl ?_
                          refine g_iconst (q := 64) (v := (2 : Int32)) X508.here hx (hb hby d8_63) rfl rfl ?_
                          refine g_iload (q := 66) X508.here hx (hb hby d8_64) rfl rfl ?_
                          refine g_imul (q := 67) X508.here hx (hb hby d8_66) rfl ?_
                          rw [show ((2 : Int32) * (1 : Int32)) = (2 : Int32) from by decide]
                          refine g_iconst (q := 68) (v := (2 : Int32)) X508.here hx (hb hby d8_67) rfl rfl ?_
                          refine g_iadd (q := 69) X508.here hx (hb hby d8_68) rfl ?_
                          rw [show ((2 : Int32) + (2 : Int32)) = (4 : Int32) from by decide]
                          refine g_icmp_gt (q := 113) (q0 := 72) X508.here hx (hb hby d8_69) (by decide) (by decide) rfl ?_ ?_
                          · intro c520; exact absurd c520 (by decide)
                          · intro c520
                            refine g_iload (q := 74) X508.here hx (hb hby d8_72) rfl rfl ?_
                            refine g_aloadN (q := 75) X508.here hx (hb hby d8_74) rfl rfl rfl ?_
                            refine g_getF (q := 78) X508 hx hZ hown (hw _ (List.mem_of_getElem? (i := 26) rfl)) e508 F512 (hb hby d8_75) rfl ?_
                            intro T521 X521 e521
                            refine g_icmp_ge (q := 113) (q0 := 81) X521.here hx (hb hby d8_78) (by decide) (by decide) rfl ?_ ?_
                            · intro c522; exact absurd c522 (by decide)
                            · intro c522
                              refine g_aloadN (q := 82) X521.here hx (hb hby d8_81) rfl rfl rfl ?_
                              refine g_getF (q := 85) X521 hx hZ hown (hw _ (List.mem_of_getElem? (i := 15) rfl)) e521 F511 (hb hby d8_82) rfl ?_
                              intro T523 X523 e523
                              refine g_aloadN (q := 86) X523.here hx (hb hby d8_85) rfl rfl rfl ?_
                              refine g_getF (q := 89) X523 hx hZ hown (hw _ (List.mem_of_getElem? (i := 10) rfl)) e523 F510 (hb hby d8_86) rfl ?_
                              intro T524 X524 e524
                              refine g_iload (q := 91) X524.here hx (hb hby d8_89) rfl rfl ?_
                              refine g_iload_ (q := 92) (i := 3) (v := w3_) X524 hx hZ e524 F513 rfl rfl (hb hby d8_91) rfl ?_
                              refine g_lload_ (q := 93) (i := w3_.toInt.toNat) (v := (ky.getD w3_.toInt.toNat 0)) X524 hx hZ e524 F514 (own_tn vw3_.1) (own_gdJ (own_lt4 vw3_ hkl)) (hb hby d8_92) rfl ?_
                              refine g_lloadN (q := 94) X524.here hx (hb hby d8_93) rfl rfl ?_
                              refine g_lcmp_gt (q := 107) (q1 := 95) (q0 := 98) X524.here hx (hb hby d8_94) rfl (hb hby d8_95) (by decide) (by decide) rfl ?_ ?_
                              · intro c525
                                refine g_iinc (q := 110) (v := (4 : Int32)) (L' := #[.val (.ref t), .val (.long bd), .second, .val (.ref ot_), .val (.int (3 : Int32)), .val (.int (2 : Int32)), .val (.int (1 : Int32)), .val (.int (4 : Int32))]) X524.here hx (hb hby d8_107) rfl rfl rfl rfl ?_
                                refine g_goto (q := 61) X524.here hx (hb hby d8_110) (by decide) (by decide) ?_
                                refine g_iload (q := 63) X524.here hx (hb hby d8_61) rfl rfl ?_
                                refine g_iconst (q := 64) (v := (2 : Int32)) X524.here hx (hb hby d8_63) rfl rfl ?_
                                refine g_iload (q := 66) X524.here hx (hb hby d8_64) rfl rfl ?_
                                refine g_imul (q := 67) X524.here hx (hb hby d8_66) rfl ?_
                                rw [show ((2 : Int32) * (1 : Int32)) = (2 : Int32) from by decide]
                                refine g_iconst (q := 68) (v := (2 : Int32)) X524.here hx (hb hby d8_67) rfl rfl ?_
                                refine g_iadd (q := 69) X524.here hx (hb hby d8_68) rfl ?_
                                rw [show ((2 : Int32) + (2 : Int32)) = (4 : Int32) from by decide]
                                refine g_icmp_gt (q := 113) (q0 := 72) X524.here hx (hb hby d8_69) (by decide) (by decide) rfl ?_ ?_
                                · intro c526; exact absurd c526 (by decide)
                                · intro c526
                                  refine g_iload (q := 74) X524.here hx (hb hby d8_72) rfl rfl ?_
                                  refine g_aloadN (q := 75) X524.here hx (hb hby d8_74) rfl rfl rfl ?_
                                  refine g_getF (q := 78) X524 hx hZ hown (hw _ (List.mem_of_getElem? (i := 26) rfl)) e524 F512 (hb hby d8_75) rfl ?_
                                  intro T527 X527 e527
                                  refine g_icmp_ge (q := 113) (q0 := 81) X527.here hx (hb hby d8_78) (by decide) (by decide) rfl ?_ ?_
                                  · intro c528
                                    refine g_goto (q := 37) X527.here hx (hb hby d8_113) (by decide) (by decide) ?_
                                    refine g_iload (q := 39) X527.here hx (hb hby d8_37) rfl rfl ?_
                                    refine g_iload (q := 41) X527.here hx (hb hby d8_39) rfl rfl ?_
                                    refine g_icmp_ge (q := 116) (q0 := 44) X527.here hx (hb hby d8_41) (by decide) (by decide) rfl ?_ ?_
                                    · intro c529; exact absurd c529 (by decide)
                                    · intro c529
                                      refine g_aloadN (q := 45) X527.here hx (hb hby d8_44) rfl rfl rfl ?_
                                      refine g_iload (q := 47) X527.here hx (hb hby d8_45) rfl rfl ?_
                                      refine g_iinc (q := 50) (v := (3 : Int32)) (L' := #[.val (.ref t), .val (.long bd), .second, .val (.ref ot_), .val (.int (3 : Int32)), .val (.int (3 : Int32)), .val (.int (1 : Int32)), .val (.int (4 : Int32))]) X527.here hx (hb hby d8_47) rfl rfl rfl rfl ?_
                                      refine g_iload_ (q := 51) (i := 2) (v := (2 : Int32)) X527 hx hZ e527 A508 rfl rfl (hb hby d8_50) rfl ?_
                                      refine g_istore (q := 53) (L' := #[.val (.ref t), .val (.long bd), .second, .val (.ref ot_), .val (.int (3 : Int32)), .val (.int (3 : Int32)), .val (.int (2 : Int32)), .val (.int (4 : Int32))]) X527.here hx (hb hby d8_51) rfl rfl ?_
                                      refine g_iconst (q := 54) (v := (2 : Int32)) X527.here hx (hb hby d8_53) rfl rfl ?_
                                      refine g_iload (q := 56) X527.here hx (hb hby d8_54) rfl rfl ?_
                                      refine g_imul (q := 57) X527.here hx (hb hby d8_56) rfl ?_
                                      rw [show ((2 : Int32) * (2 : Int32)) = (4 : Int32) from by decide]
                                      refine g_iconst (q := 58) (v := (1 : Int32)) X527.here hx (hb hby d8_57) rfl rfl ?_
                                      refine g_iadd (q := 59) X527.here hx (hb hby d8_58) rfl ?_
                                      rw [show ((4 : Int32) + (1 : Int32)) = (5 : Int32) from by decide]
                                      refine g_istore (q := 61) (L' := #[.val (.ref t), .val (.long bd), .second, .val (.ref ot_), .val (.int (3 : Int32)), .val (.int (3 : Int32)), .val (.int (2 : Int32)), .val (.int (5 : Int32))]) X527.here hx (hb hby d8_59) rfl rfl ?_
                                      refine g_iload (q := 63) X527.here hx (hb hby d8_61) rfl rfl ?_
                                      refine g_iconst (q := 64) (v := (2 : Int32)) X527.here hx (hb hby d8_63) rfl rfl ?_
                                      refine g_iload (q := 66) X527.here hx (hb hby d8_64) rfl rfl ?_
                                      refine g_imul (q := 67) X527.here hx (hb hby d8_66) rfl ?_
                                      rw [show ((2 : Int32) * (2 : Int32)) = (4 : Int32) from by decide]
                                      refine g_iconst (q := 68) (v := (2 : Int32)) X527.here hx (hb hby d8_67) rfl rfl ?_
                                      refine g_iadd (q := 69) X527.here hx (hb hby d8_68) rfl ?_
                                      rw [show ((4 : Int32) + (2 : Int32)) = (6 : Int32) from by decide]
                                      refine g_icmp_gt (q := 113) (q0 := 72) X527.here hx (hb hby d8_69) (by decide) (by decide) rfl ?_ ?_
                                      · intro c530; exact absurd c530 (by decide)
                                      · intro c530
                                        refine g_iload (q := 74) X527.here hx (hb hby d8_72) rfl rfl ?_
                                        refine g_aloadN (q := 75) X527.here hx (hb hby d8_74) rfl rfl rfl ?_
                                        refine g_getF (q := 78) X527 hx hZ hown (hw _ (List.mem_of_getElem? (i := 26) rfl)) e527 F512 (hb hby d8_75) rfl ?_
                                        intro T531 X531 e531
                                        refine g_icmp_ge (q := 113) (q0 := 81) X531.here hx (hb hby d8_78) (by decide) (by decide) rfl ?_ ?_
                                        · intro c532
                                          refine g_goto (q := 37) X531.here hx (hb hby d8_113) (by decide) (by decide) ?_
                                          refine g_iload (q := 39) X531.here hx (hb hby d8_37) rfl rfl ?_
                                          refine g_iload (q := 41) X531.here hx (hb hby d8_39) rfl rfl ?_
                                          refine g_icmp_ge (q := 116) (q0 := 44) X531.here hx (hb hby d8_41) (by decide) (by decide) rfl ?_ ?_
                                          · intro c533
                                            refine g_iconst (q := 117) (v := (0 : Int32)) X531.here hx (hb hby d8_116) rfl rfl ?_
                                            refine g_istore (q := 119) (L' := #[.val (.ref t), .val (.long bd), .second, .val (.ref ot_), .val (.int (3 : Int32)), .val (.int (3 : Int32)), .val (.int (0 : Int32)), .val (.int (5 : Int32))]) X531.here hx (hb hby d8_117) rfl rfl ?_
                                            refine g_iload (q := 121) X531.here hx (hb hby d8_119) rfl rfl ?_
                                            refine g_iload (q := 123) X531.here hx (hb hby d8_121) rfl rfl ?_
                                            refine g_icmp_ge (q := 145) (q0 := 126) X531.here hx (hb hby d8_123) (by decide) (by decide) rfl ?_ ?_
                                            · intro c534; exact absurd c534 (by decide)
                                            · intro c534
                                              refine g_aloadN (q := 127) X531.here hx (hb hby d8_126) rfl rfl rfl ?_
                                              refine g_iload (q := 129) X531.here hx (hb hby d8_127) rfl rfl ?_
                                              refine g_aloadN (q := 130) X531.here hx (hb hby d8_129) rfl rfl rfl ?_
                                              refine g_getF (q := 133) X531 hx hZ hown (hw _ (List.mem_of_getElem? (i := 10) rfl)) e531 F510 (hb hby d8_130) rfl ?_
                                              intro T535 X535 e535
                                              refine g_aloadN (q := 134) X535.here hx (hb hby d8_133) rfl rfl rfl ?_
                                              refine g_iload (q := 136) X535.here hx (hb hby d8_134) rfl rfl ?_
                                              refine g_iload_ (q := 137) (i := 0) (v := (0 : Int32)) X535 hx hZ e535 A508 rfl rfl (hb hby d8_136) rfl ?_
                                              refine g_iload_ (q := 138) (i := 0) (v := w0_) X535 hx hZ e535 F513 rfl rfl (hb hby d8_137) rfl ?_
                                              refine g_istore_ (q := 139) (i := 0) (v := w0_) X535 hx hZ e535 A508 rfl (by show 0 < 4; decide) (hb hby d8_138) rfl ?_
                                              intro T536 h536 X536 e536 W536 A536
                                              replace A536 : IA Z h536 ot_ ([w0_, (1 : Int32), (2 : Int32), (0 : Int32)] : List Int32) := A536
                                              have K537 := Keep.wr K509 W536 (Or.inl (by simp))
                                              have F538 := Fld.other W536 F510 (Or.inl ne3_)
                                              have F539 := Fld.other W536 F511 (Or.inl ne3_)
                                              have F540 := Fld.other W536 F512 (Or.inl ne3_)
                                              have F541 := ArrL.other F513 W536 ne4_
                                              have F542 := ArrL.other F514 W536 ne5_
                                              have N544 := Fr.snoc X536 N516 go_
                                              have Z545 : n0 ≤ h536.size := Nat.le_trans Z517 (Nat.le_of_eq W536.size.symm)
                                              refine g_iinc (q := 142) (v := (1 : Int32)) (L' := #[.val (.ref t), .val (.long bd), .second, .val (.ref ot_), .val (.int (3 : Int32)), .val (.int (3 : Int32)), .val (.int (1 : Int32)), .val (.int (5 : Int32))]) X536.here hx (hb hby d8_139) rfl rfl rfl rfl ?_
                                              refine g_goto (q := 119) X536.here hx (hb hby d8_142) (by decide) (by decide) ?_
                                              refine g_iload (q := 121) X536.here hx (hb hby d8_119) rfl rfl ?_
                                              refine g_iload (q := 123) X536.here hx (hb hby d8_121) rfl rfl ?_
                                              refine g_icmp_ge (q := 145) (q0 := 126) X536.here hx (hb hby d8_123) (by decide) (by decide) rfl ?_ ?_
                                              · intro c546; exact absurd c546 (by decide)
                                              · intro c546
                                                refine g_aloadN (q := 127) X536.here hx (hb hby d8_126) rfl rfl rfl ?_
                                                refine g_iload (q := 129) X536.here hx (hb hby d8_127) rfl rfl ?_
                                                refine g_aloadN (q := 130) X536.here hx (hb hby d8_129) rfl rfl rfl ?_
                                                refine g_getF (q := 133) X536 hx hZ hown (hw _ (List.mem_of_getElem? (i := 10) rfl)) e536 F538 (hb hby d8_130) rfl ?_
                                                intro T547 X547 e547
                                                refine g_aloadN (q := 134) X547.here hx (hb hby d8_133) rfl rfl rfl ?_
                                                refine g_iload (q := 136) X547.here hx (hb hby d8_134) rfl rfl ?_
                                                refine g_iload_ (q := 137) (i := 1) (v := (1 : Int32)) X547 hx hZ e547 A536 rfl rfl (hb hby d8_136) rfl ?_
                                                refine g_iload_ (q := 138) (i := 1) (v := w1_) X547 hx hZ e547 F541 rfl rfl (hb hby d8_137) rfl ?_
                                                refine g_istore_ (q := 139) (i := 1) (v := w1_) X547 hx hZ e547 A536 rfl (by show 1 < 4; decide) (hb hby d8_138) rfl ?_
                                                intro T548 h548 X548 e548 W548 A548
                                                replace A548 : IA Z h548 ot_ ([w0_, w1_, (2 : Int32), (0 : Int32)] : List Int32) := A548
                                                have K549 := Keep.wr K537 W548 (Or.inl (by simp))
                                                have F550 := Fld.other W548 F538 (Or.inl ne3_)
                                                have F551 := Fld.other W548 F539 (Or.inl ne3_)
                                                have F552 := Fld.other W548 F540 (Or.inl ne3_)
                                                have F553 := ArrL.other F541 W548 ne4_
                                                have F554 := ArrL.other F542 W548 ne5_
                                                have N556 := Fr.snoc X548 N544 go_
                                                have Z557 : n0 ≤ h548.size := Nat.le_trans Z545 (Nat.le_of_eq W548.size.symm)
                                                refine g_iinc (q := 142) (v := (2 : Int32)) (L' := #[.val (.ref t), .val (.long bd), .second, .val (.ref ot_), .val (.int (3 : Int32)), .val (.int (3 : Int32)), .val (.int (2 : Int32)), .val (.int (5 : Int32))]) X548.here hx (hb hby d8_139) rfl rfl rfl rfl ?_
                                                refine g_goto (q := 119) X548.here hx (hb hby d8_142) (by decide) (by decide) ?_
                                                refine g_iload (q := 121) X548.here hx (hb hby d8_119) rfl rfl ?_
                                                refine g_iload (q := 123) X548.here hx (hb hby d8_121) rfl rfl ?_
                                                refine g_icmp_ge (q := 145) (q0 := 126) X548.here hx (hb hby d8_123) (by decide) (by decide) rfl ?_ ?_
                                                · intro c558; exact absurd c558 (by decide)
                                                · intro c558
                                                  refine g_aloadN (q := 127) X548.here hx (hb hby d8_126) rfl rfl rfl ?_
                                                  refine g_iload (q := 129) X548.here hx (hb hby d8_127) rfl rfl ?_
                                                  refine g_aloadN (q := 130) X548.here hx (hb hby d8_129) rfl rfl rfl ?_
                                                  refine g_getF (q := 133) X548 hx hZ hown (hw _ (List.mem_of_getElem? (i := 10) rfl)) e548 F550 (hb hby d8_130) rfl ?_
                                                  intro T559 X559 e559
                                                  refine g_aloadN (q := 134) X559.here hx (hb hby d8_133) rfl rfl rfl ?_
                                                  refine g_iload (q := 136) X559.here hx (hb hby d8_134) rfl rfl ?_
                                                  refine g_iload_ (q := 137) (i := 2) (v := (2 : Int32)) X559 hx hZ e559 A548 rfl rfl (hb hby d8_136) rfl ?_
                                                  refine g_iload_ (q := 138) (i := 2) (v := w2_) X559 hx hZ e559 F553 rfl rfl (hb hby d8_137) rfl ?_
                                                  refine g_istore_ (q := 139) (i := 2) (v := w2_) X559 hx hZ e559 A548 rfl (by show 2 < 4; decide) (hb hby d8_138) rfl ?_
                                                  intro T560 h560 X560 e560 W560 A560
                                                  replace A560 : IA Z h560 ot_ ([w0_, w1_, w2_, (0 : Int32)] : List Int32) := A560
                                                  have K561 := Keep.wr K549 W560 (Or.inl (by simp))
                                                  have F562 := Fld.other W560 F550 (Or.inl ne3_)
                                                  have F563 := Fld.other W560 F551 (Or.inl ne3_)
                                                  have F564 := Fld.other W560 F552 (Or.inl ne3_)
                                                  have F565 := ArrL.other F553 W560 ne4_
                                                  have F566 := ArrL.other F554 W560 ne5_
                                                  have N568 := Fr.snoc X560 N556 go_
                                                  have Z569 : n0 ≤ h560.size := Nat.le_trans Z557 (Nat.le_of_eq W560.size.symm)
                                                  refine g_iinc (q := 142) (v := (3 : Int32)) (L' := #[.val (.ref t), .val (.long bd), .second, .val (.ref ot_), .val (.int (3 : Int32)), .val (.int (3 : Int32)), .val (.int (3 : Int32)), .val (.int (5 : Int32))]) X560.here hx (hb hby d8_139) rfl rfl rfl rfl ?_
                                                  refine g_goto (q := 119) X560.here hx (hb hby d8_142) (by decide) (by decide) ?_
                                                  refine g_iload (q := 121) X560.here hx (hb hby d8_119) rfl rfl ?_
                                                  refine g_iload (q := 123) X560.here hx (hb hby d8_121) rfl rfl ?_
                                                  refine g_icmp_ge (q := 145) (q0 := 126) X560.here hx (hb hby d8_123) (by decide) (by decide) rfl ?_ ?_
                                                  · intro c570
                                                    refine g_iload (q := 147) X560.here hx (hb hby d8_145) rfl rfl ?_
                                                    exact g_ireturn X560 hx hlk hrt (hb hby d8_147) (by decide) (by decide) (by rw [e560]; exact ⟨_, [w0_, w1_, w2_, (0 : Int32)], 3, rfl, N568, K561, A560, rfl, rfl, by decide, (own_am I_ (l := [w0_, w1_, w2_, w3_]) (by rw [hM]; rfl) (by have ew0_ := decide_eq_true (show QK ky w0_ ≤ bd.toInt from c318); have ew1_ := decide_eq_true (show QK ky w1_ ≤ bd.toInt from c337); have ew2_ := decide_eq_true (show QK ky w2_ ≤ bd.toInt from c415); have ew3_ := decide_eq_false (show ¬ (QK ky w3_ ≤ bd.toInt) from Int.not_le.mpr c525); simp only [own_flt, List.filter_nil, ew0_, ew1_, ew2_, ew3_]; first | done | rfl))⟩)
                                                  · intro c570; exact absurd c570 (by decide)
                                          · intro c533; exact absurd c533 (by decide)
                                        · intro c532; exact absurd c532 (by decide)
                                  · intro c528; exact absurd c528 (by decide)
                              · intro c525
                                refine g_aloadN (q := 99) X524.here hx (hb hby d8_98) rfl rfl rfl ?_
                                refine g_iload (q := 101) X524.here hx (hb hby d8_99) rfl rfl ?_
                                refine g_iinc (q := 104) (v := (4 : Int32)) (L' := #[.val (.ref t), .val (.long bd), .second, .val (.ref ot_), .val (.int (4 : Int32)), .val (.int (2 : Int32)), .val (.int (1 : Int32)), .val (.int (3 : Int32))]) X524.here hx (hb hby d8_101) rfl rfl rfl rfl ?_
                                refine g_iload (q := 106) X524.here hx (hb hby d8_104) rfl rfl ?_
                                refine g_istore_ (q := 107) (i := 3) (v := (3 : Int32)) X524 hx hZ e524 A508 rfl (by show 3 < 4; decide) (hb hby d8_106) rfl ?_
                                intro T571 h571 X571 e571 W571 A571
                                replace A571 : IA Z h571 ot_ ([(0 : Int32), (1 : Int32), (2 : Int32), (3 : Int32)] : List Int32) := A571
                                have K572 := Keep.wr K509 W571 (Or.inl (by simp))
                                have F573 := Fld.other W571 F510 (Or.inl ne3_)
                                have F574 := Fld.other W571 F511 (Or.inl ne3_)
                                have F575 := Fld.other W571 F512 (Or.inl ne3_)
                                have F576 := ArrL.other F513 W571 ne4_
                                have F577 := ArrL.other F514 W571 ne5_
                                have N579 := Fr.snoc X571 N516 go_
                                have Z580 : n0 ≤ h571.size := Nat.le_trans Z517 (Nat.le_of_eq W571.size.symm)
                                refine g_iinc (q := 110) (v := (4 : Int32)) (L' := #[.val (.ref t), .val (.long bd), .second, .val (.ref ot_), .val (.int (4 : Int32)), .val (.int (2 : Int32)), .val (.int (1 : Int32)), .val (.int (4 : Int32))]) X571.here hx (hb hby d8_107) rfl rfl rfl rfl ?_
                                refine g_goto (q := 61) X571.here hx (hb hby d8_110) (by decide) (by decide) ?_
                                refine g_iload (q := 63) X571.here hx (hb hby d8_61) rfl rfl ?_
                                refine g_iconst (q := 64) (v := (2 : Int32)) X571.here hx (hb hby d8_63) rfl rfl ?_
                                refine g_iload (q := 66) X571.here hx (hb hby d8_64) rfl rfl ?_
                                refine g_imul (q := 67) X571.here hx (hb hby d8_66) rfl ?_
                                rw [show ((2 : Int32) * (1 : Int32)) = (2 : Int32) from by decide]
                                refine g_iconst (q := 68) (v := (2 : Int32)) X571.here hx (hb hby d8_67) rfl rfl ?_
                                refine g_iadd (q := 69) X571.here hx (hb hby d8_68) rfl ?_
                                rw [show ((2 : Int32) + (2 : Int32)) = (4 : Int32) from by decide]
                                refine g_icmp_gt (q := 113) (q0 := 72) X571.here hx (hb hby d8_69) (by decide) (by decide) rfl ?_ ?_
                                · intro c581; exact absurd c581 (by decide)
                                · intro c581
                                  refine g_iload (q := 74) X571.here hx (hb hby d8_72) rfl rfl ?_
                                  refine g_aloadN (q := 75) X571.here hx (hb hby d8_74) rfl rfl rfl ?_
                                  refine g_getF (q := 78) X571 hx hZ hown (hw _ (List.mem_of_getElem? (i := 26) rfl)) e571 F575 (hb hby d8_75) rfl ?_
                                  intro T582 X582 e582
                                  refine g_icmp_ge (q := 113) (q0 := 81) X582.here hx (hb hby d8_78) (by decide) (by decide) rfl ?_ ?_
                                  · intro c583
                                    refine g_goto (q := 37) X582.here hx (hb hby d8_113) (by decide) (by decide) ?_
                                    refine g_iload (q := 39) X582.here hx (hb hby d8_37) rfl rfl ?_
                                    refine g_iload (q := 41) X582.here hx (hb hby d8_39) rfl rfl ?_
                                    refine g_icmp_ge (q := 116) (q0 := 44) X582.here hx (hb hby d8_41) (by decide) (by decide) rfl ?_ ?_
                                    · intro c584; exact absurd c584 (by decide)
                                    · intro c584
                                      refine g_aloadN (q := 45) X582.here hx (hb hby d8_44) rfl rfl rfl ?_
                                      refine g_iload (q := 47) X582.here hx (hb hby d8_45) rfl rfl ?_
                                      refine g_iinc (q := 50) (v := (3 : Int32)) (L' := #[.val (.ref t), .val (.long bd), .second, .val (.ref ot_), .val (.int (4 : Int32)), .val (.int (3 : Int32)), .val (.int (1 : Int32)), .val (.int (4 : Int32))]) X582.here hx (hb hby d8_47) rfl rfl rfl rfl ?_
                                      refine g_iload_ (q := 51) (i := 2) (v := (2 : Int32)) X582 hx hZ e582 A571 rfl rfl (hb hby d8_50) rfl ?_
                                      refine g_istore (q := 53) (L' := #[.val (.ref t), .val (.long bd), .second, .val (.ref ot_), .val (.int (4 : Int32)), .val (.int (3 : Int32)), .val (.int (2 : Int32)), .val (.int (4 : Int32))]) X582.here hx (hb hby d8_51) rfl rfl ?_
                                      refine g_iconst (q := 54) (v := (2 : Int32)) X582.here hx (hb hby d8_53) rfl rfl ?_
                                      refine g_iload (q := 56) X582.here hx (hb hby d8_54) rfl rfl ?_
                                      refine g_imul (q := 57) X582.here hx (hb hby d8_56) rfl ?_
                                      rw [show ((2 : Int32) * (2 : Int32)) = (4 : Int32) from by decide]
                                      refine g_iconst (q := 58) (v := (1 : Int32)) X582.here hx (hb hby d8_57) rfl rfl ?_
                                      refine g_iadd (q := 59) X582.here hx (hb hby d8_58) rfl ?_
                                      rw [show ((4 : Int32) + (1 : Int32)) = (5 : Int32) from by decide]
                                      refine g_istore (q := 61) (L' := #[.val (.ref t), .val (.long bd), .second, .val (.ref ot_), .val (.int (4 : Int32)), .val (.int (3 : Int32)), .val (.int (2 : Int32)), .val (.int (5 : Int32))]) X582.here hx (hb hby d8_59) rfl rfl ?_
                                      refine g_iload (q := 63) X582.here hx (hb hby d8_61) rfl rfl ?_
                                      refine g_iconst (q := 64) (v := (2 : Int32)) X582.here hx (hb hby d8_63) rfl rfl ?_
                                      refine g_iload (q := 66) X582.here hx (hb hby d8_64) rfl rfl ?_
                                      refine g_imul (q := 67) X582.here hx (hb hby d8_66) rfl ?_
                                      rw [show ((2 : Int32) * (2 : Int32)) = (4 : Int32) from by decide]
                                      refine g_iconst (q := 68) (v := (2 : Int32)) X582.here hx (hb hby d8_67) rfl rfl ?_
                                      refine g_iadd (q := 69) X582.here hx (hb hby d8_68) rfl ?_
                                      rw [show ((4 : Int32) + (2 : Int32)) = (6 : Int32) from by decide]
                                      refine g_icmp_gt (q := 113) (q0 := 72) X582.here hx (hb hby d8_69) (by decide) (by decide) rfl ?_ ?_
                                      · intro c585; exact absurd c585 (by decide)
                                      · intro c585
                                        refine g_iload (q := 74) X582.here hx (hb hby d8_72) rfl rfl ?_
                                        refine g_aloadN (q := 75) X582.here hx (hb hby d8_74) rfl rfl rfl ?_
                                        refine g_getF (q := 78) X582 hx hZ hown (hw _ (List.mem_of_getElem? (i := 26) rfl)) e582 F575 (hb hby d8_75) rfl ?_
                                        intro T586 X586 e586
                                        refine g_icmp_ge (q := 113) (q0 := 81) X586.here hx (hb hby d8_78) (by decide) (by decide) rfl ?_ ?_
                                        · intro c587
                                          refine g_goto (q := 37) X586.here hx (hb hby d8_113) (by decide) (by decide) ?_
                                          refine g_iload (q := 39) X586.here hx (hb hby d8_37) rfl rfl ?_
                                          refine g_iload (q := 41) X586.here hx (hb hby d8_39) rfl rfl ?_
                                          refine g_icmp_ge (q := 116) (q0 := 44) X586.here hx (hb hby d8_41) (by decide) (by decide) rfl ?_ ?_
                                          · intro c588; exact absurd c588 (by decide)
                                          · intro c588
                                            refine g_aloadN (q := 45) X586.here hx (hb hby d8_44) rfl rfl rfl ?_
                                            refine g_iload (q := 47) X586.here hx (hb hby d8_45) rfl rfl ?_
                                            refine g_iinc (q := 50) (v := (4 : Int32)) (L' := #[.val (.ref t), .val (.long bd), .second, .val (.ref ot_), .val (.int (4 : Int32)), .val (.int (4 : Int32)), .val (.int (2 : Int32)), .val (.int (5 : Int32))]) X586.here hx (hb hby d8_47) rfl rfl rfl rfl ?_
                                            refine g_iload_ (q := 51) (i := 3) (v := (3 : Int32)) X586 hx hZ e586 A571 rfl rfl (hb hby d8_50) rfl ?_
                                            refine g_istore (q := 53) (L' := #[.val (.ref t), .val (.long bd), .second, .val (.ref ot_), .val (.int (4 : Int32)), .val (.int (4 : Int32)), .val (.int (3 : Int32)), .val (.int (5 : Int32))]) X586.here hx (hb hby d8_51) rfl rfl ?_
                                            refine g_iconst (q := 54) (v := (2 : Int32)) X586.here hx (hb hby d8_53) rfl rfl ?_
                                            refine g_iload (q := 56) X586.here hx (hb hby d8_54) rfl rfl ?_
                                            refine g_imul (q := 57) X586.here hx (hb hby d8_56) rfl ?_
                                            rw [show ((2 : Int32) * (3 : Int32)) = (6 : Int32) from by decide]
                                            refine g_iconst (q := 58) (v := (1 : Int32)) X586.here hx (hb hby d8_57) rfl rfl ?_
                                            refine g_iadd (q := 59) X586.here hx (hb hby d8_58) rfl ?_
                                            rw [show ((6 : Int32) + (1 : Int32)) = (7 : Int32) from by decide]
                                            refine g_istore (q := 61) (L' := #[.val (.ref t), .val (.long bd), .second, .val (.ref ot_), .val (.int (4 : Int32)), .val (.int (4 : Int32)), .val (.int (3 : Int32)), .val (.int (7 : Int32))]) X586.here hx (hb hby d8_59) rfl rfl ?_
                                            refine g_iload (q := 63) X586.here hx (hb hby d8_61) rfl rfl ?_
                                            refine g_iconst (q := 64) (v := (2 : Int32)) X586.here hx (hb hby d8_63) rfl rfl ?_
                                            refine g_iload (q := 66) X586.here hx (hb hby d8_64) rfl rfl ?_
                                            refine g_imul (q := 67) X586.here hx (hb hby d8_66) rfl ?_
                                            rw [show ((2 : Int32) * (3 : Int32)) = (6 : Int32) from by decide]
                                            refine g_iconst (q := 68) (v := (2 : Int32)) X586.here hx (hb hby d8_67) rfl rfl ?_
                                            refine g_iadd (q := 69) X586.here hx (hb hby d8_68) rfl ?_
                                            rw [show ((6 : Int32) + (2 : Int32)) = (8 : Int32) from by decide]
                                            refine g_icmp_gt (q := 113) (q0 := 72) X586.here hx (hb hby d8_69) (by decide) (by decide) rfl ?_ ?_
                                            · intro c589; exact absurd c589 (by decide)
                                            · intro c589
                                              refine g_iload (q := 74) X586.here hx (hb hby d8_72) rfl rfl ?_
                                              refine g_aloadN (q := 75) X586.here hx (hb hby d8_74) rfl rfl rfl ?_
                                              refine g_getF (q := 78) X586 hx hZ hown (hw _ (List.mem_of_getElem? (i := 26) rfl)) e586 F575 (hb hby d8_75) rfl ?_
                                              intro T590 X590 e590
                                              refine g_icmp_ge (q := 113) (q0 := 81) X590.here hx (hb hby d8_78) (by decide) (by decide) rfl ?_ ?_
                                              · intro c591
                                                refine g_goto (q := 37) X590.here hx (hb hby d8_113) (by decide) (by decide) ?_
                                                refine g_iload (q := 39) X590.here hx (hb hby d8_37) rfl rfl ?_
                                                refine g_iload (q := 41) X590.here hx (hb hby d8_39) rfl rfl ?_
                                                refine g_icmp_ge (q := 116) (q0 := 44) X590.here hx (hb hby d8_41) (by decide) (by decide) rfl ?_ ?_
                                                · intro c592
                                                  refine g_iconst (q := 117) (v := (0 : Int32)) X590.here hx (hb hby d8_116) rfl rfl ?_
                                                  refine g_istore (q := 119) (L' := #[.val (.ref t), .val (.long bd), .second, .val (.ref ot_), .val (.int (4 : Int32)), .val (.int (4 : Int32)), .val (.int (0 : Int32)), .val (.int (7 : Int32))]) X590.here hx (hb hby d8_117) rfl rfl ?_
                                                  refine g_iload (q := 121) X590.here hx (hb hby d8_119) rfl rfl ?_
                                                  refine g_iload (q := 123) X590.here hx (hb hby d8_121) rfl rfl ?_
                                                  refine g_icmp_ge (q := 145) (q0 := 126) X590.here hx (hb hby d8_123) (by decide) (by decide) rfl ?_ ?_
                                                  · intro c593; exact absurd c593 (by decide)
                                                  · intro c593
                                                    refine g_aloadN (q := 127) X590.here hx (hb hby d8_126) rfl rfl rfl ?_
                                                    refine g_iload (q := 129) X590.here hx (hb hby d8_127) rfl rfl ?_
                                                    refine g_aloadN (q := 130) X590.here hx (hb hby d8_129) rfl rfl rfl ?_
                                                    refine g_getF (q := 133) X590 hx hZ hown (hw _ (List.mem_of_getElem? (i := 10) rfl)) e590 F573 (hb hby d8_130) rfl ?_
                                                    intro T594 X594 e594
                                                    refine g_aloadN (q := 134) X594.here hx (hb hby d8_133) rfl rfl rfl ?_
                                                    refine g_iload (q := 136) X594.here hx (hb hby d8_134) rfl rfl ?_
                                                    refine g_iload_ (q := 137) (i := 0) (v := (0 : Int32)) X594 hx hZ e594 A571 rfl rfl (hb hby d8_136) rfl ?_
                                                    refine g_iload_ (q := 138) (i := 0) (v := w0_) X594 hx hZ e594 F576 rfl rfl (hb hby d8_137) rfl ?_
                                                    refine g_istore_ (q := 139) (i := 0) (v := w0_) X594 hx hZ e594 A571 rfl (by show 0 < 4; decide) (hb hby d8_138) rfl ?_
                                                    intro T595 h595 X595 e595 W595 A595
                                                    replace A595 : IA Z h595 ot_ ([w0_, (1 : Int32), (2 : Int32), (3 : Int32)] : List Int32) := A595
                                                    have K596 := Keep.wr K572 W595 (Or.inl (by simp))
                                                    have F597 := Fld.other W595 F573 (Or.inl ne3_)
                                                    have F598 := Fld.other W595 F574 (Or.inl ne3_)
                                                    have F599 := Fld.other W595 F575 (Or.inl ne3_)
                                                    have F600 := ArrL.other F576 W595 ne4_
                                                    have F601 := ArrL.other F577 W595 ne5_
                                                    have N603 := Fr.snoc X595 N579 go_
                                                    have Z604 : n0 ≤ h595.size := Nat.le_trans Z580 (Nat.le_of_eq W595.size.symm)
                                                    refine g_iinc (q := 142) (v := (1 : Int32)) (L' := #[.val (.ref t), .val (.long bd), .second, .val (.ref ot_), .val (.int (4 : Int32)), .val (.int (4 : Int32)), .val (.int (1 : Int32)), .val (.int (7 : Int32))]) X595.here hx (hb hby d8_139) rfl rfl rfl rfl ?_
                                                    refine g_goto (q := 119) X595.here hx (hb hby d8_142) (by decide) (by decide) ?_
                                                    refine g_iload (q := 121) X595.here hx (hb hby d8_119) rfl rfl ?_
                                                    refine g_iload (q := 123) X595.here hx (hb hby d8_121) rfl rfl ?_
                                                    refine g_icmp_ge (q := 145) (q0 := 126) X595.here hx (hb hby d8_123) (by decide) (by decide) rfl ?_ ?_
                                                    · intro c605; exact absurd c605 (by decide)
                                                    · intro c605
                                                      refine g_aloadN (q := 127) X595.here hx (hb hby d8_126) rfl rfl rfl ?_
                                                      refine g_iload (q := 129) X595.here hx (hb hby d8_127) rfl rfl ?_
                                                      refine g_aloadN (q := 130) X595.here hx (hb hby d8_129) rfl rfl rfl ?_
                                                      refine g_getF (q := 133) X595 hx hZ hown (hw _ (List.mem_of_getElem? (i := 10) rfl)) e595 F597 (hb hby d8_130) rfl ?_
                                                      intro T606 X606 e606
                                                      refine g_aloadN (q := 134) X606.here hx (hb hby d8_133) rfl rfl rfl ?_
                                                      refine g_iload (q := 136) X606.here hx (hb hby d8_134) rfl rfl ?_
                                                      refine g_iload_ (q := 137) (i := 1) (v := (1 : Int32)) X606 hx hZ e606 A595 rfl rfl (hb hby d8_136) rfl ?_
                                                      refine g_iload_ (q := 138) (i := 1) (v := w1_) X606 hx hZ e606 F600 rfl rfl (hb hby d8_137) rfl ?_
                                                      refine g_istore_ (q := 139) (i := 1) (v := w1_) X606 hx hZ e606 A595 rfl (by show 1 < 4; decide) (hb hby d8_138) rfl ?_
                                                      intro T607 h607 X607 e607 W607 A607
                                                      replace A607 : IA Z h607 ot_ ([w0_, w1_, (2 : Int32), (3 : Int32)] : List Int32) := A607
                                                      have K608 := Keep.wr K596 W607 (Or.inl (by simp))
                                                      have F609 := Fld.other W607 F597 (Or.inl ne3_)
                                                      have F610 := Fld.other W607 F598 (Or.inl ne3_)
                                                      have F611 := Fld.other W607 F599 (Or.inl ne3_)
                                                      have F612 := ArrL.other F600 W607 ne4_
                                                      have F613 := ArrL.other F601 W607 ne5_
                                                      have N615 := Fr.snoc X607 N603 go_
                                                      have Z616 : n0 ≤ h607.size := Nat.le_trans Z604 (Nat.le_of_eq W607.size.symm)
                                                      refine g_iinc (q := 142) (v := (2 : Int32)) (L' := #[.val (.ref t), .val (.long bd), .second, .val (.ref ot_), .val (.int (4 : Int32)), .val (.int (4 : Int32)), .val (.int (2 : Int32)), .val (.int (7 : Int32))]) X607.here hx (hb hby d8_139) rfl rfl rfl rfl ?_
                                                      refine g_goto (q := 119) X607.here hx (hb hby d8_142) (by decide) (by decide) ?_
                                                      refine g_iload (q := 121) X607.here hx (hb hby d8_119) rfl rfl ?_
                                                      refine g_iload (q := 123) X607.here hx (hb hby d8_121) rfl rfl ?_
                                                      refine g_icmp_ge (q := 145) (q0 := 126) X607.here hx (hb hby d8_123) (by decide) (by decide) rfl ?_ ?_
                                                      · intro c617; exact absurd c617 (by decide)
                                                      · intro c617
                                                        refine g_aloadN (q := 127) X607.here hx (hb hby d8_126) rfl rfl rfl ?_
                                                        refine g_iload (q := 129) X607.here hx (hb hby d8_127) rfl rfl ?_
                                                        refine g_aloadN (q := 130) X607.here hx (hb hby d8_129) rfl rfl rfl ?_
                                                        refine g_getF (q := 133) X607 hx hZ hown (hw _ (List.mem_of_getElem? (i := 10) rfl)) e607 F609 (hb hby d8_130) rfl ?_
                                                        intro T618 X618 e618
                                                        refine g_aloadN (q := 134) X618.here hx (hb hby d8_133) rfl rfl rfl ?_
                                                        refine g_iload (q := 136) X618.here hx (hb hby d8_134) rfl rfl ?_
                                                        refine g_iload_ (q := 137) (i := 2) (v := (2 : Int32)) X618 hx hZ e618 A607 rfl rfl (hb hby d8_136) rfl ?_
                                                        refine g_iload_ (q := 138) (i := 2) (v := w2_) X618 hx hZ e618 F612 rfl rfl (hb hby d8_137) rfl ?_
                                                        refine g_istore_ (q := 139) (i := 2) (v := w2_) X618 hx hZ e618 A607 rfl (by show 2 < 4; decide) (hb hby d8_138) rfl ?_
                                                        intro T619 h619 X619 e619 W619 A619
                                                        replace A619 : IA Z h619 ot_ ([w0_, w1_, w2_, (3 : Int32)] : List Int32) := A619
                                                        have K620 := Keep.wr K608 W619 (Or.inl (by simp))
                                                        have F621 := Fld.other W619 F609 (Or.inl ne3_)
                                                        have F622 := Fld.other W619 F610 (Or.inl ne3_)
                                                        have F623 := Fld.other W619 F611 (Or.inl ne3_)
                                                        have F624 := ArrL.other F612 W619 ne4_
                                                        have F625 := ArrL.other F613 W619 ne5_
                                                        have N627 := Fr.snoc X619 N615 go_
                                                        have Z628 : n0 ≤ h619.size := Nat.le_trans Z616 (Nat.le_of_eq W619.size.symm)
                                                        refine g_iinc (q := 142) (v := (3 : Int32)) (L' := #[.val (.ref t), .val (.long bd), .second, .val (.ref ot_), .val (.int (4 : Int32)), .val (.int (4 : Int32)), .val (.int (3 : Int32)), .val (.int (7 : Int32))]) X619.here hx (hb hby d8_139) rfl rfl rfl rfl ?_
                                                        refine g_goto (q := 119) X619.here hx (hb hby d8_142) (by decide) (by decide) ?_
                                                        refine g_iload (q := 121) X619.here hx (hb hby d8_119) rfl rfl ?_
                                                        refine g_iload (q := 123) X619.here hx (hb hby d8_121) rfl rfl ?_
                                                        refine g_icmp_ge (q := 145) (q0 := 126) X619.here hx (hb hby d8_123) (by decide) (by decide) rfl ?_ ?_
                                                        · intro c629; exact absurd c629 (by decide)
                                                        · intro c629
                                                          refine g_aloadN (q := 127) X619.here hx (hb hby d8_126) rfl rfl rfl ?_
                                                          refine g_iload (q := 129) X619.here hx (hb hby d8_127) rfl rfl ?_
                                                          refine g_aloadN (q := 130) X619.here hx (hb hby d8_129) rfl rfl rfl ?_
                                                          refine g_getF (q := 133) X619 hx hZ hown (hw _ (List.mem_of_getElem? (i := 10) rfl)) e619 F621 (hb hby d8_130) rfl ?_
                                                          intro T630 X630 e630
                                                          refine g_aloadN (q := 134) X630.here hx (hb hby d8_133) rfl rfl rfl ?_
                                                          refine g_iload (q := 136) X630.here hx (hb hby d8_134) rfl rfl ?_
                                                          refine g_iload_ (q := 137) (i := 3) (v := (3 : Int32)) X630 hx hZ e630 A619 rfl rfl (hb hby d8_136) rfl ?_
                                                          refine g_iload_ (q := 138) (i := 3) (v := w3_) X630 hx hZ e630 F624 rfl rfl (hb hby d8_137) rfl ?_
                                                          refine g_istore_ (q := 139) (i := 3) (v := w3_) X630 hx hZ e630 A619 rfl (by show 3 < 4; decide) (hb hby d8_138) rfl ?_
                                                          intro T631 h631 X631 e631 W631 A631
                                                          replace A631 : IA Z h631 ot_ ([w0_, w1_, w2_, w3_] : List Int32) := A631
                                                          have K632 := Keep.wr K620 W631 (Or.inl (by simp))
                                                          have F633 := Fld.other W631 F621 (Or.inl ne3_)
                                                          have F634 := Fld.other W631 F622 (Or.inl ne3_)
                                                          have F635 := Fld.other W631 F623 (Or.inl ne3_)
                                                          have F636 := ArrL.other F624 W631 ne4_
                                                          have F637 := ArrL.other F625 W631 ne5_
                                                          have N639 := Fr.snoc X631 N627 go_
                                                          have Z640 : n0 ≤ h631.size := Nat.le_trans Z628 (Nat.le_of_eq W631.size.symm)
                                                          refine g_iinc (q := 142) (v := (4 : Int32)) (L' := #[.val (.ref t), .val (.long bd), .second, .val (.ref ot_), .val (.int (4 : Int32)), .val (.int (4 : Int32)), .val (.int (4 : Int32)), .val (.int (7 : Int32))]) X631.here hx (hb hby d8_139) rfl rfl rfl rfl ?_
                                                          refine g_goto (q := 119) X631.here hx (hb hby d8_142) (by decide) (by decide) ?_
                                                          refine g_iload (q := 121) X631.here hx (hb hby d8_119) rfl rfl ?_
                                                          refine g_iload (q := 123) X631.here hx (hb hby d8_121) rfl rfl ?_
                                                          refine g_icmp_ge (q := 145) (q0 := 126) X631.here hx (hb hby d8_123) (by decide) (by decide) rfl ?_ ?_
                                                          · intro c641
                                                            refine g_iload (q := 147) X631.here hx (hb hby d8_145) rfl rfl ?_
                                                            exact g_ireturn X631 hx hlk hrt (hb hby d8_147) (by decide) (by decide) (by rw [e631]; exact ⟨_, [w0_, w1_, w2_, w3_], 4, rfl, N639, K632, A631, rfl, rfl, by decide, (own_am I_ (l := [w0_, w1_, w2_, w3_]) (by rw [hM]; rfl) (by have ew0_ := decide_eq_true (show QK ky w0_ ≤ bd.toInt from c318); have ew1_ := decide_eq_true (show QK ky w1_ ≤ bd.toInt from c337); have ew2_ := decide_eq_true (show QK ky w2_ ≤ bd.toInt from c415); have ew3_ := decide_eq_true (show QK ky w3_ ≤ bd.toInt from c525); simp only [own_flt, List.filter_nil, ew0_, ew1_, ew2_, ew3_]; first | done | rfl))⟩)
                                                          · intro c641; exact absurd c641 (by decide)
                                                · intro c592; exact absurd c592 (by decide)
                                              · intro c591; exact absurd c591 (by decide)
                                        · intro c587; exact absurd c587 (by decide)
                                  · intro c583; exact absurd c583 (by decide)
                      · intro c518; exact absurd c518 (by decide)
def RM_rm10 : Room := ({ frames := 0, cells := 0, slots := 0, locals := 0 } : Room)
theorem d10_0 : decode method_3_code 0 = .ok (.iload_n 1, 1) := by decide +kernel
theorem d10_1 : decode method_3_code 1 = .ok (.ifCond .le 10, 3) := by decide +kernel
theorem d10_4 : decode method_3_code 4 = .ok (.aload_n 0, 1) := by decide +kernel
theorem d10_5 : decode method_3_code 5 = .ok (.iconst 0, 1) := by decide +kernel
theorem d10_6 : decode method_3_code 6 = .ok (.iaload, 1) := by decide +kernel
theorem d10_7 : decode method_3_code 7 = .ok (.iload_n 2, 1) := by decide +kernel
theorem d10_8 : decode method_3_code 8 = .ok (.if_icmp .eq 39, 3) := by decide +kernel
theorem d10_11 : decode method_3_code 11 = .ok (.iload_n 1, 1) := by decide +kernel
theorem d10_12 : decode method_3_code 12 = .ok (.iconst 1, 1) := by decide +kernel
theorem d10_13 : decode method_3_code 13 = .ok (.if_icmp .le 10, 3) := by decide +kernel
theorem d10_16 : decode method_3_code 16 = .ok (.aload_n 0, 1) := by decide +kernel
theorem d10_17 : decode method_3_code 17 = .ok (.iconst 1, 1) := by decide +kernel
theorem d10_18 : decode method_3_code 18 = .ok (.iaload, 1) := by decide +kernel
theorem d10_19 : decode method_3_code 19 = .ok (.iload_n 2, 1) := by decide +kernel
theorem d10_20 : decode method_3_code 20 = .ok (.if_icmp .eq 27, 3) := by decide +kernel
theorem d10_23 : decode method_3_code 23 = .ok (.iload_n 1, 1) := by decide +kernel
theorem d10_24 : decode method_3_code 24 = .ok (.iconst 2, 1) := by decide +kernel
theorem d10_25 : decode method_3_code 25 = .ok (.if_icmp .le 10, 3) := by decide +kernel
theorem d10_28 : decode method_3_code 28 = .ok (.aload_n 0, 1) := by decide +kernel
theorem d10_29 : decode method_3_code 29 = .ok (.iconst 2, 1) := by decide +kernel
theorem d10_30 : decode method_3_code 30 = .ok (.iaload, 1) := by decide +kernel
theorem d10_31 : decode method_3_code 31 = .ok (.iload_n 2, 1) := by decide +kernel
theorem d10_32 : decode method_3_code 32 = .ok (.if_icmp .eq 15, 3) := by decide +kernel
theorem d10_35 : decode method_3_code 35 = .ok (.iload_n 1, 1) := by decide +kernel
theorem d10_36 : decode method_3_code 36 = .ok (.iconst 3, 1) := by decide +kernel
theorem d10_37 : decode method_3_code 37 = .ok (.if_icmp .le 14, 3) := by decide +kernel
theorem d10_40 : decode method_3_code 40 = .ok (.aload_n 0, 1) := by decide +kernel
theorem d10_41 : decode method_3_code 41 = .ok (.iconst 3, 1) := by decide +kernel
theorem d10_42 : decode method_3_code 42 = .ok (.iaload, 1) := by decide +kernel
theorem d10_43 : decode method_3_code 43 = .ok (.iload_n 2, 1) := by decide +kernel
theorem d10_44 : decode method_3_code 44 = .ok (.if_icmp .ne 7, 3) := by decide +kernel
theorem d10_47 : decode method_3_code 47 = .ok (.iconst 1, 1) := by decide +kernel
theorem d10_48 : decode method_3_code 48 = .ok (.goto 4, 3) := by decide +kernel
theorem d10_51 : decode method_3_code 51 = .ok (.iconst 0, 1) := by decide +kernel
theorem d10_52 : decode method_3_code 52 = .ok (.ireturn, 1) := by decide +kernel
theorem ef_10 (m : MethodId) (z0 : Addr) (z1 : Int32) (z2 : Int32) : entryFrame m #[.ref z0, .int z1, .int z2] 3 = mkF m 0 #[.val (.ref z0), .val (.int z1), .val (.int z2)] [] := by first | (simp [entryFrame, mkF, argsToLocals, Value.category]; done) | rfl
theorem pn_2 : plainName "com/example/hedged_dispatch/hedgeddispatch/stn/NodeQueueAtMostPinLaw" = true := by first | (simp [plainName, overriddenIn]; done) | decide +kernel
set_option maxRecDepth 65536 in
set_option maxHeartbeats 40000000 in
theorem rm10 (l : Launch) (Z : State) (a0 : Array Value) (hw : ∀ d ∈ tables_1, d.before a0 Z = true) (ws : List Jvm.Cond) (o : Addr) (fo : Int32) (vv : Int32) (h0 : Heap) (n0 : Nat) (Z0 : n0 ≤ h0.size) (x0_ x1_ x2_ x3_ : Int32) (A0_ : IA Z h0 o [x0_, x1_, x2_, x3_]) (fm : Nat) (hfr : fo.toInt = (fm : Int)) (hfm : fm ≤ 4) (hmem : vv ∈ [x0_, x1_, x2_, x3_].take fm) :
    Ctr l Z (⟨"com/example/hedged_dispatch/hedgeddispatch/stn/NodeQueueAtMostPinLaw", "has", "([III)Z"⟩ : MethodName) method_3_code 3 (some .boolean) RM_rm10 ws #[.ref o, .int fo, .int vv] h0 (PQ (.int 1) h0) := by
  refine Ctr.of (plainFor_of_name pn_2) ?_
  intro p e s m below meth c s₁ hx hby hml hrt hlk hnm hown hZ X0 e0
  have N0 := Fr.nil n0
  refine Go.cast (ef_10 m o fo vv) ?_
  rcases own_c5 hfr hfm with ⟨hq, rfl⟩ | ⟨hq, rfl⟩ | ⟨hq, rfl⟩ | ⟨hq, rfl⟩ | ⟨hq, rfl⟩
  · skip
    refine g_iloadN (q := 1) X0.here hx (hb hby d10_0) rfl rfl ?_
    refine g_if_le (q := 11) (q0 := 4) X0.here hx (hb hby d10_1) (by decide) (by decide) rfl ?_ ?_
    · intro c1
      refine g_iloadN (q := 12) X0.here hx (hb hby d10_11) rfl rfl ?_
      refine g_iconst (q := 13) (v := (1 : Int32)) X0.here hx (hb hby d10_12) rfl rfl ?_
      refine g_icmp_le (q := 23) (q0 := 16) X0.here hx (hb hby d10_13) (by decide) (by decide) rfl ?_ ?_
      · intro c2
        refine g_iloadN (q := 24) X0.here hx (hb hby d10_23) rfl rfl ?_
        refine g_iconst (q := 25) (v := (2 : Int32)) X0.here hx (hb hby d10_24) rfl rfl ?_
        refine g_icmp_le (q := 35) (q0 := 28) X0.here hx (hb hby d10_25) (by decide) (by decide) rfl ?_ ?_
        · intro c3
          refine g_iloadN (q := 36) X0.here hx (hb hby d10_35) rfl rfl ?_
          refine g_iconst (q := 37) (v := (3 : Int32)) X0.here hx (hb hby d10_36) rfl rfl ?_
          refine g_icmp_le (q := 51) (q0 := 40) X0.here hx (hb hby d10_37) (by decide) (by decide) rfl ?_ ?_
          · intro c4
            refine g_iconst (q := 52) (v := (0 : Int32)) X0.here hx (hb hby d10_51) rfl rfl ?_
            exact g_zreturn (b := false) X0 hx hlk hrt (hb hby d10_52) (by decide) (by decide) (by exfalso; exact absurd hmem (by simp []))
          · intro c4
            exfalso; rw [hq] at c4; exact absurd c4 (by decide)
        · intro c3
          exfalso; rw [hq] at c3; exact absurd c3 (by decide)
      · intro c2
        exfalso; rw [hq] at c2; exact absurd c2 (by decide)
    · intro c1
      exfalso; rw [hq] at c1; exact absurd c1 (by decide)
  · skip
    refine g_iloadN (q := 1) X0.here hx (hb hby d10_0) rfl rfl ?_
    refine g_if_le (q := 11) (q0 := 4) X0.here hx (hb hby d10_1) (by decide) (by decide) rfl ?_ ?_
    · intro c5
      exfalso; rw [hq] at c5; exact absurd c5 (by decide)
    · intro c5
      refine g_aloadN (q := 5) X0.here hx (hb hby d10_4) rfl rfl rfl ?_
      refine g_iconst (q := 6) (v := (0 : Int32)) X0.here hx (hb hby d10_5) rfl rfl ?_
      refine g_iload_ (q := 7) (i := 0) (v := x0_) X0 hx hZ e0 A0_ rfl rfl (hb hby d10_6) rfl ?_
      refine g_iloadN (q := 8) X0.here hx (hb hby d10_7) rfl rfl ?_
      refine g_icmp_eq (q := 47) (q0 := 11) X0.here hx (hb hby d10_8) (by decide) (by decide) rfl ?_ ?_
      · intro c6
        refine g_iconst (q := 48) (v := (1 : Int32)) X0.here hx (hb hby d10_47) rfl rfl ?_
        refine g_goto (q := 52) X0.here hx (hb hby d10_48) (by decide) (by decide) ?_
        exact g_zreturn (b := true) X0 hx hlk hrt (hb hby d10_52) (by decide) (by decide) ⟨rfl, e0, rfl⟩
      · intro c6
        refine g_iloadN (q := 12) X0.here hx (hb hby d10_11) rfl rfl ?_
        refine g_iconst (q := 13) (v := (1 : Int32)) X0.here hx (hb hby d10_12) rfl rfl ?_
        refine g_icmp_le (q := 23) (q0 := 16) X0.here hx (hb hby d10_13) (by decide) (by decide) rfl ?_ ?_
        · intro c7
          refine g_iloadN (q := 24) X0.here hx (hb hby d10_23) rfl rfl ?_
          refine g_iconst (q := 25) (v := (2 : Int32)) X0.here hx (hb hby d10_24) rfl rfl ?_
          refine g_icmp_le (q := 35) (q0 := 28) X0.here hx (hb hby d10_25) (by decide) (by decide) rfl ?_ ?_
          · intro c8
            refine g_iloadN (q := 36) X0.here hx (hb hby d10_35) rfl rfl ?_
            refine g_iconst (q := 37) (v := (3 : Int32)) X0.here hx (hb hby d10_36) rfl rfl ?_
            refine g_icmp_le (q := 51) (q0 := 40) X0.here hx (hb hby d10_37) (by decide) (by decide) rfl ?_ ?_
            · intro c9
              refine g_iconst (q := 52) (v := (0 : Int32)) X0.here hx (hb hby d10_51) rfl rfl ?_
              exact g_zreturn (b := false) X0 hx hlk hrt (hb hby d10_52) (by decide) (by decide) (by exfalso; exact absurd hmem (by simp [own_nm c6]))
            · intro c9
              exfalso; rw [hq] at c9; exact absurd c9 (by decide)
          · intro c8
            exfalso; rw [hq] at c8; exact absurd c8 (by decide)
        · intro c7
          exfalso; rw [hq] at c7; exact absurd c7 (by decide)
  · skip
    refine g_iloadN (q := 1) X0.here hx (hb hby d10_0) rfl rfl ?_
    refine g_if_le (q := 11) (q0 := 4) X0.here hx (hb hby d10_1) (by decide) (by decide) rfl ?_ ?_
    · intro c10
      exfalso; rw [hq] at c10; exact absurd c10 (by decide)
    · intro c10
      refine g_aloadN (q := 5) X0.here hx (hb hby d10_4) rfl rfl rfl ?_
      refine g_iconst (q := 6) (v := (0 : Int32)) X0.here hx (hb hby d10_5) rfl rfl ?_
      refine g_iload_ (q := 7) (i := 0) (v := x0_) X0 hx hZ e0 A0_ rfl rfl (hb hby d10_6) rfl ?_
      refine g_iloadN (q := 8) X0.here hx (hb hby d10_7) rfl rfl ?_
      refine g_icmp_eq (q := 47) (q0 := 11) X0.here hx (hb hby d10_8) (by decide) (by decide) rfl ?_ ?_
      · intro c11
        refine g_iconst (q := 48) (v := (1 : Int32)) X0.here hx (hb hby d10_47) rfl rfl ?_
        refine g_goto (q := 52) X0.here hx (hb hby d10_48) (by decide) (by decide) ?_
        exact g_zreturn (b := true) X0 hx hlk hrt (hb hby d10_52) (by decide) (by decide) ⟨rfl, e0, rfl⟩
      · intro c11
        refine g_iloadN (q := 12) X0.here hx (hb hby d10_11) rfl rfl ?_
        refine g_iconst (q := 13) (v := (1 : Int32)) X0.here hx (hb hby d10_12) rfl rfl ?_
        refine g_icmp_le (q := 23) (q0 := 16) X0.here hx (hb hby d10_13) (by decide) (by decide) rfl ?_ ?_
        · intro c12
          exfalso; rw [hq] at c12; exact absurd c12 (by decide)
        · intro c12
          refine g_aloadN (q := 17) X0.here hx (hb hby d10_16) rfl rfl rfl ?_
          refine g_iconst (q := 18) (v := (1 : Int32)) X0.here hx (hb hby d10_17) rfl rfl ?_
          refine g_iload_ (q := 19) (i := 1) (v := x1_) X0 hx hZ e0 A0_ rfl rfl (hb hby d10_18) rfl ?_
          refine g_iloadN (q := 20) X0.here hx (hb hby d10_19) rfl rfl ?_
          refine g_icmp_eq (q := 47) (q0 := 23) X0.here hx (hb hby d10_20) (by decide) (by decide) rfl ?_ ?_
          · intro c13
            refine g_iconst (q := 48) (v := (1 : Int32)) X0.here hx (hb hby d10_47) rfl rfl ?_
            refine g_goto (q := 52) X0.here hx (hb hby d10_48) (by decide) (by decide) ?_
            exact g_zreturn (b := true) X0 hx hlk hrt (hb hby d10_52) (by decide) (by decide) ⟨rfl, e0, rfl⟩
          · intro c13
            refine g_iloadN (q := 24) X0.here hx (hb hby d10_23) rfl rfl ?_
            refine g_iconst (q := 25) (v := (2 : Int32)) X0.here hx (hb hby d10_24) rfl rfl ?_
            refine g_icmp_le (q := 35) (q0 := 28) X0.here hx (hb hby d10_25) (by decide) (by decide) rfl ?_ ?_
            · intro c14
              refine g_iloadN (q := 36) X0.here hx (hb hby d10_35) rfl rfl ?_
              refine g_iconst (q := 37) (v := (3 : Int32)) X0.here hx (hb hby d10_36) rfl rfl ?_
              refine g_icmp_le (q := 51) (q0 := 40) X0.here hx (hb hby d10_37) (by decide) (by decide) rfl ?_ ?_
              · intro c15
                refine g_iconst (q := 52) (v := (0 : Int32)) X0.here hx (hb hby d10_51) rfl rfl ?_
                exact g_zreturn (b := false) X0 hx hlk hrt (hb hby d10_52) (by decide) (by decide) (by exfalso; exact absurd hmem (by simp [own_nm c11, own_nm c13]))
              · intro c15
                exfalso; rw [hq] at c15; exact absurd c15 (by decide)
            · intro c14
              exfalso; rw [hq] at c14; exact absurd c14 (by decide)
  · skip
    refine g_iloadN (q := 1) X0.here hx (hb hby d10_0) rfl rfl ?_
    refine g_if_le (q := 11) (q0 := 4) X0.here hx (hb hby d10_1) (by decide) (by decide) rfl ?_ ?_
    · intro c16
      exfalso; rw [hq] at c16; exact absurd c16 (by decide)
    · intro c16
      refine g_aloadN (q := 5) X0.here hx (hb hby d10_4) rfl rfl rfl ?_
      refine g_iconst (q := 6) (v := (0 : Int32)) X0.here hx (hb hby d10_5) rfl rfl ?_
      refine g_iload_ (q := 7) (i := 0) (v := x0_) X0 hx hZ e0 A0_ rfl rfl (hb hby d10_6) rfl ?_
      refine g_iloadN (q := 8) X0.here hx (hb hby d10_7) rfl rfl ?_
      refine g_icmp_eq (q := 47) (q0 := 11) X0.here hx (hb hby d10_8) (by decide) (by decide) rfl ?_ ?_
      · intro c17
        refine g_iconst (q := 48) (v := (1 : Int32)) X0.here hx (hb hby d10_47) rfl rfl ?_
        refine g_goto (q := 52) X0.here hx (hb hby d10_48) (by decide) (by decide) ?_
        exact g_zreturn (b := true) X0 hx hlk hrt (hb hby d10_52) (by decide) (by decide) ⟨rfl, e0, rfl⟩
      · intro c17
        refine g_iloadN (q := 12) X0.here hx (hb hby d10_11) rfl rfl ?_
        refine g_iconst (q := 13) (v := (1 : Int32)) X0.here hx (hb hby d10_12) rfl rfl ?_
        refine g_icmp_le (q := 23) (q0 := 16) X0.here hx (hb hby d10_13) (by decide) (by decide) rfl ?_ ?_
        · intro c18
          exfalso; rw [hq] at c18; exact absurd c18 (by decide)
        · intro c18
          refine g_aloadN (q := 17) X0.here hx (hb hby d10_16) rfl rfl rfl ?_
          refine g_iconst (q := 18) (v := (1 : Int32)) X0.here hx (hb hby d10_17) rfl rfl ?_
          refine g_iload_ (q := 19) (i := 1) (v := x1_) X0 hx hZ e0 A0_ rfl rfl (hb hby d10_18) rfl ?_
          refine g_iloadN (q := 20) X0.here hx (hb hby d10_19) rfl rfl ?_
          refine g_icmp_eq (q := 47) (q0 := 23) X0.here hx (hb hby d10_20) (by decide) (by decide) rfl ?_ ?_
          · intro c19
            refine g_iconst (q := 48) (v := (1 : Int32)) X0.here hx (hb hby d10_47) rfl rfl ?_
            refine g_goto (q := 52) X0.here hx (hb hby d10_48) (by decide) (by decide) ?_
            exact g_zreturn (b := true) X0 hx hlk hrt (hb hby d10_52) (by decide) (by decide) ⟨rfl, e0, rfl⟩
          · intro c19
            refine g_iloadN (q := 24) X0.here hx (hb hby d10_23) rfl rfl ?_
            refine g_iconst (q := 25) (v := (2 : Int32)) X0.here hx (hb hby d10_24) rfl rfl ?_
            refine g_icmp_le (q := 35) (q0 := 28) X0.here hx (hb hby d10_25) (by decide) (by decide) rfl ?_ ?_
            · intro c20
              exfalso; rw [hq] at c20; exact absurd c20 (by decide)
            · intro c20
              refine g_aloadN (q := 29) X0.here hx (hb hby d10_28) rfl rfl rfl ?_
              refine g_iconst (q := 30) (v := (2 : Int32)) X0.here hx (hb hby d10_29) rfl rfl ?_
              refine g_iload_ (q := 31) (i := 2) (v := x2_) X0 hx hZ e0 A0_ rfl rfl (hb hby d10_30) rfl ?_
              refine g_iloadN (q := 32) X0.here hx (hb hby d10_31) rfl rfl ?_
              refine g_icmp_eq (q := 47) (q0 := 35) X0.here hx (hb hby d10_32) (by decide) (by decide) rfl ?_ ?_
              · intro c21
                refine g_iconst (q := 48) (v := (1 : Int32)) X0.here hx (hb hby d10_47) rfl rfl ?_
                refine g_goto (q := 52) X0.here hx (hb hby d10_48) (by decide) (by decide) ?_
                exact g_zreturn (b := true) X0 hx hlk hrt (hb hby d10_52) (by decide) (by decide) ⟨rfl, e0, rfl⟩
              · intro c21
                refine g_iloadN (q := 36) X0.here hx (hb hby d10_35) rfl rfl ?_
                refine g_iconst (q := 37) (v := (3 : Int32)) X0.here hx (hb hby d10_36) rfl rfl ?_
                refine g_icmp_le (q := 51) (q0 := 40) X0.here hx (hb hby d10_37) (by decide) (by decide) rfl ?_ ?_
                · intro c22
                  refine g_iconst (q := 52) (v := (0 : Int32)) X0.here hx (hb hby d10_51) rfl rfl ?_
                  exact g_zreturn (b := false) X0 hx hlk hrt (hb hby d10_52) (by decide) (by decide) (by exfalso; exact absurd hmem (by simp [own_nm c17, own_nm c19, own_nm c21]))
                · intro c22
                  exfalso; rw [hq] at c22; exact absurd c22 (by decide)
  · skip
    refine g_iloadN (q := 1) X0.here hx (hb hby d10_0) rfl rfl ?_
    refine g_if_le (q := 11) (q0 := 4) X0.here hx (hb hby d10_1) (by decide) (by decide) rfl ?_ ?_
    · intro c23
      exfalso; rw [hq] at c23; exact absurd c23 (by decide)
    · intro c23
      refine g_aloadN (q := 5) X0.here hx (hb hby d10_4) rfl rfl rfl ?_
      refine g_iconst (q := 6) (v := (0 : Int32)) X0.here hx (hb hby d10_5) rfl rfl ?_
      refine g_iload_ (q := 7) (i := 0) (v := x0_) X0 hx hZ e0 A0_ rfl rfl (hb hby d10_6) rfl ?_
      refine g_iloadN (q := 8) X0.here hx (hb hby d10_7) rfl rfl ?_
      refine g_icmp_eq (q := 47) (q0 := 11) X0.here hx (hb hby d10_8) (by decide) (by decide) rfl ?_ ?_
      · intro c24
        refine g_iconst (q := 48) (v := (1 : Int32)) X0.here hx (hb hby d10_47) rfl rfl ?_
        refine g_goto (q := 52) X0.here hx (hb hby d10_48) (by decide) (by decide) ?_
        exact g_zreturn (b := true) X0 hx hlk hrt (hb hby d10_52) (by decide) (by decide) ⟨rfl, e0, rfl⟩
      · intro c24
        refine g_iloadN (q := 12) X0.here hx (hb hby d10_11) rfl rfl ?_
        refine g_iconst (q := 13) (v := (1 : Int32)) X0.here hx (hb hby d10_12) rfl rfl ?_
        refine g_icmp_le (q := 23) (q0 := 16) X0.here hx (hb hby d10_13) (by decide) (by decide) rfl ?_ ?_
        · intro c25
          exfalso; rw [hq] at c25; exact absurd c25 (by decide)
        · intro c25
          refine g_aloadN (q := 17) X0.here hx (hb hby d10_16) rfl rfl rfl ?_
          refine g_iconst (q := 18) (v := (1 : Int32)) X0.here hx (hb hby d10_17) rfl rfl ?_
          refine g_iload_ (q := 19) (i := 1) (v := x1_) X0 hx hZ e0 A0_ rfl rfl (hb hby d10_18) rfl ?_
          refine g_iloadN (q := 20) X0.here hx (hb hby d10_19) rfl rfl ?_
          refine g_icmp_eq (q := 47) (q0 := 23) X0.here hx (hb hby d10_20) (by decide) (by decide) rfl ?_ ?_
          · intro c26
            refine g_iconst (q := 48) (v := (1 : Int32)) X0.here hx (hb hby d10_47) rfl rfl ?_
            refine g_goto (q := 52) X0.here hx (hb hby d10_48) (by decide) (by decide) ?_
            exact g_zreturn (b := true) X0 hx hlk hrt (hb hby d10_52) (by decide) (by decide) ⟨rfl, e0, rfl⟩
          · intro c26
            refine g_iloadN (q := 24) X0.here hx (hb hby d10_23) rfl rfl ?_
            refine g_iconst (q := 25) (v := (2 : Int32)) X0.here hx (hb hby d10_24) rfl rfl ?_
            refine g_icmp_le (q := 35) (q0 := 28) X0.here hx (hb hby d10_25) (by decide) (by decide) rfl ?_ ?_
            · intro c27
              exfalso; rw [hq] at c27; exact absurd c27 (by decide)
            · intro c27
              refine g_aloadN (q := 29) X0.here hx (hb hby d10_28) rfl rfl rfl ?_
              refine g_iconst (q := 30) (v := (2 : Int32)) X0.here hx (hb hby d10_29) rfl rfl ?_
              refine g_iload_ (q := 31) (i := 2) (v := x2_) X0 hx hZ e0 A0_ rfl rfl (hb hby d10_30) rfl ?_
              refine g_iloadN (q := 32) X0.here hx (hb hby d10_31) rfl rfl ?_
              refine g_icmp_eq (q := 47) (q0 := 35) X0.here hx (hb hby d10_32) (by decide) (by decide) rfl ?_ ?_
              · intro c28
                refine g_iconst (q := 48) (v := (1 : Int32)) X0.here hx (hb hby d10_47) rfl rfl ?_
                refine g_goto (q := 52) X0.here hx (hb hby d10_48) (by decide) (by decide) ?_
                exact g_zreturn (b := true) X0 hx hlk hrt (hb hby d10_52) (by decide) (by decide) ⟨rfl, e0, rfl⟩
              · intro c28
                refine g_iloadN (q := 36) X0.here hx (hb hby d10_35) rfl rfl ?_
                refine g_iconst (q := 37) (v := (3 : Int32)) X0.here hx (hb hby d10_36) rfl rfl ?_
                refine g_icmp_le (q := 51) (q0 := 40) X0.here hx (hb hby d10_37) (by decide) (by decide) rfl ?_ ?_
                · intro c29
                  exfalso; rw [hq] at c29; exact absurd c29 (by decide)
                · intro c29
                  refine g_aloadN (q := 41) X0.here hx (hb hby d10_40) rfl rfl rfl ?_
                  refine g_iconst (q := 42) (v := (3 : Int32)) X0.here hx (hb hby d10_41) rfl rfl ?_
                  refine g_iload_ (q := 43) (i := 3) (v := x3_) X0 hx hZ e0 A0_ rfl rfl (hb hby d10_42) rfl ?_
                  refine g_iloadN (q := 44) X0.here hx (hb hby d10_43) rfl rfl ?_
                  refine g_icmp_ne (q := 51) (q0 := 47) X0.here hx (hb hby d10_44) (by decide) (by decide) rfl ?_ ?_
                  · intro c30
                    refine g_iconst (q := 52) (v := (0 : Int32)) X0.here hx (hb hby d10_51) rfl rfl ?_
                    exact g_zreturn (b := false) X0 hx hlk hrt (hb hby d10_52) (by decide) (by decide) (by exfalso; exact absurd hmem (by simp [own_nm c24, own_nm c26, own_nm c28, own_nm c30]))
                  · intro c30
                    refine g_iconst (q := 48) (v := (1 : Int32)) X0.here hx (hb hby d10_47) rfl rfl ?_
                    refine g_goto (q := 52) X0.here hx (hb hby d10_48) (by decide) (by decide) ?_
                    exact g_zreturn (b := true) X0 hx hlk hrt (hb hby d10_52) (by decide) (by decide) ⟨rfl, e0, rfl⟩
theorem pd_3 : parseMethodDescriptor "(J[I)I" = some ⟨[.long, (.array .int)], some .int⟩ := by decide +kernel
theorem pd_4 : parseMethodDescriptor "([III)Z" = some ⟨[(.array .int), .int, .int], some .boolean⟩ := by decide +kernel
theorem pd_5 : parseMethodDescriptor "()Z" = some ⟨[], some .boolean⟩ := by decide +kernel
theorem pd_6 : parseMethodDescriptor "()I" = some ⟨[], some .int⟩ := by decide +kernel
theorem pd_7 : parseMethodDescriptor "(IJ)V" = some ⟨[.int, .long], none⟩ := by decide +kernel
theorem ef_0 (m : MethodId) (z0 : Int64) (z1 : Int64) (z2 : Int64) (z3 : Int64) (z4 : Int64) (z5 : Int32) : entryFrame m #[.long z0, .long z1, .long z2, .long z3, .long z4, .int z5] maxLocals = mkF m 0 #[.val (.long z0), .second, .val (.long z1), .second, .val (.long z2), .second, .val (.long z3), .second, .val (.long z4), .second, .val (.int z5), .unset, .unset, .unset, .unset, .unset, .unset, .unset, .unset, .unset, .unset, .unset, .unset, .unset, .unset, .unset] [] := by first | (simp [entryFrame, mkF, argsToLocals, Value.category, maxLocals]; done) | rfl
set_option maxRecDepth 65536 in
set_option maxHeartbeats 40000000 in
theorem LT0_190_rm0 (l : Launch) (Z : State) (a0 : Array Value) (hw : ∀ d ∈ tables_1, d.before a0 Z = true) (k0 : Int64) (k1 : Int64) (k2 : Int64) (k3 : Int64) (bd : Int64) (msk : Int32) (h0 : Heap) (n0 : Nat) (Z0 : n0 ≤ h0.size) (p : Program) (e : Env) (s : State) (m : MethodId) (below : List Frame) (meth : Method) (c : Code) (hx : p.tables.exec = Jvm.exec) (hby : c.code = code) (hml : c.maxLocals = 26) (hrt : meth.sig.returnType = some .boolean) (hlk : meth.locks = false) (hnm : meth.name = "law") (hown : s.vm.findClass "com/example/hedged_dispatch/hedgeddispatch/stn/NodeQueueAtMostPinLaw" = some m.cls) (hZ : Z.Warmed39 s.vm) (o1 : Addr) (o9 : Addr) (o10 : Addr) (o11 : Addr) (n28 : o1 ≠ o9) (n29 : o1 ≠ o10) (n30 : o1 ≠ o11) (n15 : o9 ≠ o10) (n16 : o9 ≠ o11) (n17 : o10 ≠ o11) (g2 : n0 ≤ o1) (g31 : n0 ≤ o9) (g32 : n0 ≤ o10) (g33 : n0 ≤ o11) (q0 : Bool) (q1 : Bool) (q2 : Bool) (q3 : Bool) (rev : Bool) : ∀ (Tb34 : State) (hh : Heap) (lcb34 : List Loc) (hp : List Int32) (pl : List Int32) (ky : List Int64) (cn : Int32) (M : List Int32) (Xb34 : Stand p l e room_1 s m #[.long k0, .long k1, .long k2, .long k3, .long bd, .int msk] below meth c Tb34 (lcb34) (0 + 1 + RM_rm1.cells) (0 + 4 + RM_rm1.slots)) (eb34 : Tb34.heap = hh) (Nb34 : Fr n0 lcb34) (Zb34 : n0 ≤ hh.size) (_E : Exa Z hh o1 "com/example/hedged_dispatch/hedgeddispatch/stn/NodeQueue") (_F0 : Fld Z hh o1 "com/example/hedged_dispatch/hedgeddispatch/stn/NodeQueue" "heap" "[I" (.ref o9)) (_F1 : Fld Z hh o1 "com/example/hedged_dispatch/hedgeddispatch/stn/NodeQueue" "place" "[I" (.ref o10)) (_F2 : Fld Z hh o1 "com/example/hedged_dispatch/hedgeddispatch/stn/NodeQueue" "key" "[J" (.ref o11)) (_F3 : Fld Z hh o1 "com/example/hedged_dispatch/hedgeddispatch/stn/NodeQueue" "count" "I" (.int cn)) (_A0 : IA Z hh o9 hp) (_A1 : IA Z hh o10 pl) (_A2 : LA Z hh o11 ky) (_I : QInv hp pl ky cn M [k0, k1, k2, k3]) (_hMp : M.Perm (STD q0 q1 q2 q3)) (_hM4 : M.length ≤ 4), Go p e below (Fin0 s room_1 (fun v h L => v = some (.int 1) ∧ Fr n0 L)) (Tb34.setTop (mkF m 190 #[.val (.long k0), .second, .val (.long k1), .second, .val (.long k2), .second, .val (.long k3), .second, .val (.long bd), .second, .val (.int msk), .val (.ref o1), .val (.int (b2i q0)), .val (.int (b2i q1)), .val (.int (b2i q2)), .val (.int (b2i q3)), .val (.int (b2i rev)), .unset, .unset, .unset, .unset, .unset, .unset, .unset, .unset, .unset] [])) := by
    intro Tb34 hh lcb34 hp pl ky cn M Xb34 eb34 Nb34 Zb34 _E _F0 _F1 _F2 _F3 _A0 _A1 _A2 _I _hMp _hM4
    obtain ⟨p0_, p1_, p2_, p3_, rfl⟩ := own_l4 _I.1
    have LP207_b35 : ∀ (Tb35 : State) (hd : Int32) (Xb35 : Stand p l e room_1 s m #[.long k0, .long k1, .long k2, .long k3, .long bd, .int msk] below meth c Tb35 (lcb34) (0 + 1 + RM_rm1.cells) (0 + 4 + RM_rm1.slots)) (eb35 : Tb35.heap = hh) (_hd1 : decide (cn.toInt = 0) = true → hd = -1) (_hd2 : decide (cn.toInt = 0) = false → hd = p0_), Go p e below (Fin0 s room_1 (fun v h L => v = some (.int 1) ∧ Fr n0 L)) (Tb35.setTop (mkF m 207 #[.val (.long k0), .second, .val (.long k1), .second, .val (.long k2), .second, .val (.long k3), .second, .val (.long bd), .second, .val (.int msk), .val (.ref o1), .val (.int (b2i q0)), .val (.int (b2i q1)), .val (.int (b2i q2)), .val (.int (b2i q3)), .val (.int (b2i rev)), .unset, .unset, .unset, .unset, .unset, .unset, .unset, .unset, .unset] [.int hd])) := by
      intro Tb35 hd Xb35 eb35 _hd1 _hd2
      refine g_istore (q := 209) (L' := #[.val (.long k0), .second, .val (.long k1), .second, .val (.long k2), .second, .val (.long k3), .second, .val (.long bd), .second, .val (.int msk), .val (.ref o1), .val (.int (b2i q0)), .val (.int (b2i q1)), .val (.int (b2i q2)), .val (.int (b2i q3)), .val (.int (b2i rev)), .val (.int hd), .unset, .unset, .unset, .unset, .unset, .unset, .unset, .unset]) Xb35.here hx (hb hby at_207) rfl rfl ?_
      refine g_iconst (q := 210) (v := (4 : Int32)) Xb35.here hx (hb hby at_209) rfl rfl ?_
      refine g_inew_ (q := 212) (n := 4) (cap := 4) Xb35 hx hZ (hw _ (List.mem_of_getElem? (i := 9) rfl)) eb35 rfl (by decide) (by decide) (hb hby at_210) rfl (by decide) (by decide) ?_
      intro T36 h36 o36 X36 e36 E36 q36 A36
      replace A36 : IA Z h36 o36 ([(0 : Int32), (0 : Int32), (0 : Int32), (0 : Int32)] : List Int32) := A36
      have n37 : o1 ≠ o36 := ne_new _E.lt q36
      have n38 : o9 ≠ o36 := ne_new _A0.lt q36
      have n39 : o10 ≠ o36 := ne_new _A1.lt q36
      have n40 : o11 ≠ o36 := ne_new _A2.lt q36
      have g41 : n0 ≤ o36 := ge_new Zb34 q36
      have F42 := Exa.ext E36 _E
      have F43 := Fld.ext E36 _F0
      have F44 := Fld.ext E36 _F1
      have F45 := Fld.ext E36 _F2
      have F46 := Fld.ext E36 _F3
      have F47 := ArrL.ext _A0 E36
      have F48 := ArrL.ext _A1 E36
      have F49 := ArrL.ext _A2 E36
      have Z50 : n0 ≤ h36.size := Nat.le_trans Zb34 E36.1
      refine g_astore (q := 214) (L' := #[.val (.long k0), .second, .val (.long k1), .second, .val (.long k2), .second, .val (.long k3), .second, .val (.long bd), .second, .val (.int msk), .val (.ref o1), .val (.int (b2i q0)), .val (.int (b2i q1)), .val (.int (b2i q2)), .val (.int (b2i q3)), .val (.int (b2i rev)), .val (.int hd), .val (.ref o36), .unset, .unset, .unset, .unset, .unset, .unset, .unset]) X36.here hx (hb hby at_212) rfl rfl rfl ?_
      refine g_aload (q := 216) X36.here hx (hb hby at_214) rfl rfl rfl ?_
      refine g_lload (q := 218) X36.here hx (hb hby at_216) rfl rfl ?_
      refine g_aload (q := 220) X36.here hx (hb hby at_218) rfl rfl rfl ?_
      refine g_virtual (q := 223) X36 hx hZ hown (hw _ (List.mem_of_getElem? (i := 42) rfl)) (hw _ (List.mem_of_getElem? (i := 43) rfl)) (hw _ (List.mem_of_getElem? (i := 45) rfl)) (hw _ (List.mem_of_getElem? (i := 44) rfl)) (hw _ (List.mem_of_getElem? (i := 2) rfl)) (hw _ (List.mem_of_getElem? (i := 46) rfl)) (by decide) (rm8 l Z a0 hw [] o1 bd o36 h36 n0 Z50 o9 o11 [p0_, p1_, p2_, p3_] pl ky cn M [k0, k1, k2, k3] F43 F45 F46 F47 F49 A36 n28 n30 n16 n37 n38 n40 g41 _I _hM4) F42 (argsL := [.long bd, .ref o36]) (rest := []) pd_3 rfl rfl rfl (hb hby at_220) rfl (by rw [hml]; rfl) e36 (by decide) (W := 0) rfl (by decide) (by decide) (by decide) ?_
      intro v51 T51 Lc51 X51 Q51
      obtain ⟨fo, it, fm, rfl, Nq51, Kq51, A52, hil, hfr, hfm, hfp⟩ := Q51
      obtain ⟨x0_, x1_, x2_, x3_, rfl⟩ := own_l4 hil
      have N53 := Fr.app Nb34 Nq51
      have F54 := Exa.keep F42 Kq51
      have F55 := Fld.keep F43 Kq51 (ninS n37 nin0)
      have F56 := Fld.keep F44 Kq51 (ninS n37 nin0)
      have F57 := Fld.keep F45 Kq51 (ninS n37 nin0)
      have F58 := Fld.keep F46 Kq51 (ninS n37 nin0)
      have F59 := ArrL.keep F47 Kq51 (ninS n38 nin0)
      have F60 := ArrL.keep F48 Kq51 (ninS n39 nin0)
      have F61 := ArrL.keep F49 Kq51 (ninS n40 nin0)
      have Z63 : n0 ≤ T51.heap.size := Nat.le_trans Z50 Kq51.1
      refine g_istore (q := 225) (L' := #[.val (.long k0), .second, .val (.long k1), .second, .val (.long k2), .second, .val (.long k3), .second, .val (.long bd), .second, .val (.int msk), .val (.ref o1), .val (.int (b2i q0)), .val (.int (b2i q1)), .val (.int (b2i q2)), .val (.int (b2i q3)), .val (.int (b2i rev)), .val (.int hd), .val (.ref o36), .val (.int fo), .unset, .unset, .unset, .unset, .unset, .unset]) X51.here hx (hb hby at_223) rfl rfl ?_
      have LP242_b64 : ∀ (Tb64 : State) (hd2 : Int32) (Xb64 : Stand p l e room_1 s m #[.long k0, .long k1, .long k2, .long k3, .long bd, .int msk] below meth c Tb64 (lcb34 ++ Lc51) (0 + 1 + RM_rm1.cells + 1 + RM_rm8.cells) (0 + 4 + RM_rm1.slots + 4 + RM_rm8.slots)) (eb64 : Tb64.heap = T51.heap) (_hh : hd2 = hd), Go p e below (Fin0 s room_1 (fun v h L => v = some (.int 1) ∧ Fr n0 L)) (Tb64.setTop (mkF m 242 #[.val (.long k0), .second, .val (.long k1), .second, .val (.long k2), .second, .val (.long k3), .second, .val (.long bd), .second, .val (.int msk), .val (.ref o1), .val (.int (b2i q0)), .val (.int (b2i q1)), .val (.int (b2i q2)), .val (.int (b2i q3)), .val (.int (b2i rev)), .val (.int hd), .val (.ref o36), .val (.int fo), .unset, .unset, .unset, .unset, .unset, .unset] [.int hd2])) := by
        intro Tb64 hd2 Xb64 eb64 _hh
        refine g_istore (q := 244) (L' := #[.val (.long k0), .second, .val (.long k1), .second, .val (.long k2), .second, .val (.long k3), .second, .val (.long bd), .second, .val (.int msk), .val (.ref o1), .val (.int (b2i q0)), .val (.int (b2i q1)), .val (.int (b2i q2)), .val (.int (b2i q3)), .val (.int (b2i rev)), .val (.int hd), .val (.ref o36), .val (.int fo), .val (.int hd2), .unset, .unset, .unset, .unset, .unset]) Xb64.here hx (hb hby at_242) rfl rfl ?_
        have LP261_b65 : ∀ (Tb65 : State) (e0_ : Bool) (Xb65 : Stand p l e room_1 s m #[.long k0, .long k1, .long k2, .long k3, .long bd, .int msk] below meth c Tb65 (lcb34 ++ Lc51) (0 + 1 + RM_rm1.cells + 1 + RM_rm8.cells) (0 + 4 + RM_rm1.slots + 4 + RM_rm8.slots)) (eb65 : Tb65.heap = T51.heap) (_he0 : e0_ = (q0 && decide (k0.toInt ≤ bd.toInt))), Go p e below (Fin0 s room_1 (fun v h L => v = some (.int 1) ∧ Fr n0 L)) (Tb65.setTop (mkF m 261 #[.val (.long k0), .second, .val (.long k1), .second, .val (.long k2), .second, .val (.long k3), .second, .val (.long bd), .second, .val (.int msk), .val (.ref o1), .val (.int (b2i q0)), .val (.int (b2i q1)), .val (.int (b2i q2)), .val (.int (b2i q3)), .val (.int (b2i rev)), .val (.int hd), .val (.ref o36), .val (.int fo), .val (.int hd2), .unset, .unset, .unset, .unset, .unset] [.int (b2i e0_)])) := by
          intro Tb65 e0_ Xb65 eb65 _he0
          refine g_istore (q := 263) (L' := #[.val (.long k0), .second, .val (.long k1), .second, .val (.long k2), .second, .val (.long k3), .second, .val (.long bd), .second, .val (.int msk), .val (.ref o1), .val (.int (b2i q0)), .val (.int (b2i q1)), .val (.int (b2i q2)), .val (.int (b2i q3)), .val (.int (b2i rev)), .val (.int hd), .val (.ref o36), .val (.int fo), .val (.int hd2), .val (.int (b2i e0_)), .unset, .unset, .unset, .unset]) Xb65.here hx (hb hby at_261) rfl rfl ?_
          have LP280_b66 : ∀ (Tb66 : State) (e1_ : Bool) (Xb66 : Stand p l e room_1 s m #[.long k0, .long k1, .long k2, .long k3, .long bd, .int msk] below meth c Tb66 (lcb34 ++ Lc51) (0 + 1 + RM_rm1.cells + 1 + RM_rm8.cells) (0 + 4 + RM_rm1.slots + 4 + RM_rm8.slots)) (eb66 : Tb66.heap = T51.heap) (_he1 : e1_ = (q1 && decide (k1.toInt ≤ bd.toInt))), Go p e below (Fin0 s room_1 (fun v h L => v = some (.int 1) ∧ Fr n0 L)) (Tb66.setTop (mkF m 280 #[.val (.long k0), .second, .val (.long k1), .second, .val (.long k2), .second, .val (.long k3), .second, .val (.long bd), .second, .val (.int msk), .val (.ref o1), .val (.int (b2i q0)), .val (.int (b2i q1)), .val (.int (b2i q2)), .val (.int (b2i q3)), .val (.int (b2i rev)), .val (.int hd), .val (.ref o36), .val (.int fo), .val (.int hd2), .val (.int (b2i e0_)), .unset, .unset, .unset, .unset] [.int (b2i e1_)])) := by
            intro Tb66 e1_ Xb66 eb66 _he1
            refine g_istore (q := 282) (L' := #[.val (.long k0), .second, .val (.long k1), .second, .val (.long k2), .second, .val (.long k3), .second, .val (.long bd), .second, .val (.int msk), .val (.ref o1), .val (.int (b2i q0)), .val (.int (b2i q1)), .val (.int (b2i q2)), .val (.int (b2i q3)), .val (.int (b2i rev)), .val (.int hd), .val (.ref o36), .val (.int fo), .val (.int hd2), .val (.int (b2i e0_)), .val (.int (b2i e1_)), .unset, .unset, .unset]) Xb66.here hx (hb hby at_280) rfl rfl ?_
            have LP300_b67 : ∀ (Tb67 : State) (e2_ : Bool) (Xb67 : Stand p l e room_1 s m #[.long k0, .long k1, .long k2, .long k3, .long bd, .int msk] below meth c Tb67 (lcb34 ++ Lc51) (0 + 1 + RM_rm1.cells + 1 + RM_rm8.cells) (0 + 4 + RM_rm1.slots + 4 + RM_rm8.slots)) (eb67 : Tb67.heap = T51.heap) (_he2 : e2_ = (q2 && decide (k2.toInt ≤ bd.toInt))), Go p e below (Fin0 s room_1 (fun v h L => v = some (.int 1) ∧ Fr n0 L)) (Tb67.setTop (mkF m 300 #[.val (.long k0), .second, .val (.long k1), .second, .val (.long k2), .second, .val (.long k3), .second, .val (.long bd), .second, .val (.int msk), .val (.ref o1), .val (.int (b2i q0)), .val (.int (b2i q1)), .val (.int (b2i q2)), .val (.int (b2i q3)), .val (.int (b2i rev)), .val (.int hd), .val (.ref o36), .val (.int fo), .val (.int hd2), .val (.int (b2i e0_)), .val (.int (b2i e1_)), .unset, .unset, .unset] [.int (b2i e2_)])) := by
              intro Tb67 e2_ Xb67 eb67 _he2
              refine g_istore (q := 302) (L' := #[.val (.long k0), .second, .val (.long k1), .second, .val (.long k2), .second, .val (.long k3), .second, .val (.long bd), .second, .val (.int msk), .val (.ref o1), .val (.int (b2i q0)), .val (.int (b2i q1)), .val (.int (b2i q2)), .val (.int (b2i q3)), .val (.int (b2i rev)), .val (.int hd), .val (.ref o36), .val (.int fo), .val (.int hd2), .val (.int (b2i e0_)), .val (.int (b2i e1_)), .val (.int (b2i e2_)), .unset, .unset]) Xb67.here hx (hb hby at_300) rfl rfl ?_
              have LP320_b68 : ∀ (Tb68 : State) (e3_ : Bool) (Xb68 : Stand p l e room_1 s m #[.long k0, .long k1, .long k2, .long k3, .long bd, .int msk] below meth c Tb68 (lcb34 ++ Lc51) (0 + 1 + RM_rm1.cells + 1 + RM_rm8.cells) (0 + 4 + RM_rm1.slots + 4 + RM_rm8.slots)) (eb68 : Tb68.heap = T51.heap) (_he3 : e3_ = (q3 && decide (k3.toInt ≤ bd.toInt))), Go p e below (Fin0 s room_1 (fun v h L => v = some (.int 1) ∧ Fr n0 L)) (Tb68.setTop (mkF m 320 #[.val (.long k0), .second, .val (.long k1), .second, .val (.long k2), .second, .val (.long k3), .second, .val (.long bd), .second, .val (.int msk), .val (.ref o1), .val (.int (b2i q0)), .val (.int (b2i q1)), .val (.int (b2i q2)), .val (.int (b2i q3)), .val (.int (b2i rev)), .val (.int hd), .val (.ref o36), .val (.int fo), .val (.int hd2), .val (.int (b2i e0_)), .val (.int (b2i e1_)), .val (.int (b2i e2_)), .unset, .unset] [.int (b2i e3_)])) := by
                intro Tb68 e3_ Xb68 eb68 _he3
                refine g_istore (q := 322) (L' := #[.val (.long k0), .second, .val (.long k1), .second, .val (.long k2), .second, .val (.long k3), .second, .val (.long bd), .second, .val (.int msk), .val (.ref o1), .val (.int (b2i q0)), .val (.int (b2i q1)), .val (.int (b2i q2)), .val (.int (b2i q3)), .val (.int (b2i rev)), .val (.int hd), .val (.ref o36), .val (.int fo), .val (.int hd2), .val (.int (b2i e0_)), .val (.int (b2i e1_)), .val (.int (b2i e2_)), .val (.int (b2i e3_)), .unset]) Xb68.here hx (hb hby at_320) rfl rfl ?_
                refine g_iload (q := 324) Xb68.here hx (hb hby at_322) rfl rfl ?_
                refine g_selB_eq (q := 332) Xb68.here hx (hb hby at_324) (by decide) (by decide) rfl (hb hby at_331) (hb hby at_327) (hb hby at_328) rfl (by decide) (by decide) rfl ?_
                refine g_iload (q := 334) Xb68.here hx (hb hby at_332) rfl rfl ?_
                refine g_selB_eq (q := 342) Xb68.here hx (hb hby at_334) (by decide) (by decide) rfl (hb hby at_341) (hb hby at_337) (hb hby at_338) rfl (by decide) (by decide) rfl ?_
                refine g_iadd (q := 343) Xb68.here hx (hb hby at_342) rfl ?_
                refine g_iload (q := 345) Xb68.here hx (hb hby at_343) rfl rfl ?_
                refine g_selB_eq (q := 353) Xb68.here hx (hb hby at_345) (by decide) (by decide) rfl (hb hby at_352) (hb hby at_348) (hb hby at_349) rfl (by decide) (by decide) rfl ?_
                refine g_iadd (q := 354) Xb68.here hx (hb hby at_353) rfl ?_
                refine g_iload (q := 356) Xb68.here hx (hb hby at_354) rfl rfl ?_
                refine g_selB_eq (q := 364) Xb68.here hx (hb hby at_356) (by decide) (by decide) rfl (hb hby at_363) (hb hby at_359) (hb hby at_360) rfl (by decide) (by decide) rfl ?_
                refine g_iadd (q := 365) Xb68.here hx (hb hby at_364) rfl ?_
                refine g_istore (q := 367) (L' := #[.val (.long k0), .second, .val (.long k1), .second, .val (.long k2), .second, .val (.long k3), .second, .val (.long bd), .second, .val (.int msk), .val (.ref o1), .val (.int (b2i q0)), .val (.int (b2i q1)), .val (.int (b2i q2)), .val (.int (b2i q3)), .val (.int (b2i rev)), .val (.int hd), .val (.ref o36), .val (.int fo), .val (.int hd2), .val (.int (b2i e0_)), .val (.int (b2i e1_)), .val (.int (b2i e2_)), .val (.int (b2i e3_)), .val (.int ((((b2i e0_) + (b2i e1_)) + (b2i e2_)) + (b2i e3_)))]) Xb68.here hx (hb hby at_365) rfl rfl ?_
                obtain ⟨f1_, f2_, f3_, f4_, f5_⟩ := own_fin _hMp _I.2.2.2.2.2.2.2.2 rfl hfm hfr hfp _he0 _he1 _he2 _he3
                refine g_iload (q := 369) Xb68.here hx (hb hby at_367) rfl rfl ?_
                refine g_iload (q := 371) Xb68.here hx (hb hby at_369) rfl rfl ?_
                refine g_icmp_eq (q := 376) (q0 := 374) Xb68.here hx (hb hby at_371) (by decide) (by decide) rfl ?_ ?_
                · intro c69
                  have LP448_b70 : ∀ (Tb70 : State) (Xb70 : Stand p l e room_1 s m #[.long k0, .long k1, .long k2, .long k3, .long bd, .int msk] below meth c Tb70 (lcb34 ++ Lc51) (0 + 1 + RM_rm1.cells + 1 + RM_rm8.cells) (0 + 4 + RM_rm1.slots + 4 + RM_rm8.slots)) (eb70 : Tb70.heap = T51.heap), Go p e below (Fin0 s room_1 (fun v h L => v = some (.int 1) ∧ Fr n0 L)) (Tb70.setTop (mkF m 448 #[.val (.long k0), .second, .val (.long k1), .second, .val (.long k2), .second, .val (.long k3), .second, .val (.long bd), .second, .val (.int msk), .val (.ref o1), .val (.int (b2i q0)), .val (.int (b2i q1)), .val (.int (b2i q2)), .val (.int (b2i q3)), .val (.int (b2i rev)), .val (.int hd), .val (.ref o36), .val (.int fo), .val (.int hd2), .val (.int (b2i e0_)), .val (.int (b2i e1_)), .val (.int (b2i e2_)), .val (.int (b2i e3_)), .val (.int ((((b2i e0_) + (b2i e1_)) + (b2i e2_)) + (b2i e3_)))] [])) := by
                    intro Tb70 Xb70 eb70
                    refine g_iload (q := 450) Xb70.here hx (hb hby at_448) rfl rfl ?_
                    refine g_iload (q := 452) Xb70.here hx (hb hby at_450) rfl rfl ?_
                    refine g_sel_icmp_ne (q := 460) Xb70.here hx (hb hby at_452) (by decide) (by decide) rfl (hb hby at_459) (hb hby at_455) (hb hby at_456) rfl (by decide) (by decide) rfl ?_
                    exact g_zreturn (b := decide (hd.toInt = hd2.toInt)) Xb70 hx hlk hrt (hb hby at_460) (by decide) (by decide) ⟨okB (decide_eq_true (by rw [_hh])), N53⟩
                  have LP430_b71 : ∀ (Tb71 : State) (Xb71 : Stand p l e room_1 s m #[.long k0, .long k1, .long k2, .long k3, .long bd, .int msk] below meth c Tb71 (lcb34 ++ Lc51) (0 + 1 + RM_rm1.cells + 1 + RM_rm8.cells) (0 + 4 + RM_rm1.slots + 4 + RM_rm8.slots)) (eb71 : Tb71.heap = T51.heap), Go p e below (Fin0 s room_1 (fun v h L => v = some (.int 1) ∧ Fr n0 L)) (Tb71.setTop (mkF m 430 #[.val (.long k0), .second, .val (.long k1), .second, .val (.long k2), .second, .val (.long k3), .second, .val (.long bd), .second, .val (.int msk), .val (.ref o1), .val (.int (b2i q0)), .val (.int (b2i q1)), .val (.int (b2i q2)), .val (.int (b2i q3)), .val (.int (b2i rev)), .val (.int hd), .val (.ref o36), .val (.int fo), .val (.int hd2), .val (.int (b2i e0_)), .val (.int (b2i e1_)), .val (.int (b2i e2_)), .val (.int (b2i e3_)), .val (.int ((((b2i e0_) + (b2i e1_)) + (b2i e2_)) + (b2i e3_)))] [])) := by
                    intro Tb71 Xb71 eb71
                    refine g_iload (q := 432) Xb71.here hx (hb hby at_430) rfl rfl ?_
                    refine g_ifB_eq (q := 448) (q0 := 435) Xb71.here hx (hb hby at_432) (by decide) (by decide) rfl ?_ ?_
                    · intro c72
                      exact LP448_b70 _  Xb71 eb71 
                    · intro c72
                      refine g_aload (q := 437) Xb71.here hx (hb hby at_435) rfl rfl rfl ?_
                      refine g_iload (q := 439) Xb71.here hx (hb hby at_437) rfl rfl ?_
                      refine g_iconst (q := 440) (v := (3 : Int32)) Xb71.here hx (hb hby at_439) rfl rfl ?_
                      refine g_callS (q := 443) Xb71 hx hZ hown (hw _ (List.mem_of_getElem? (i := 51) rfl)) (hw _ (List.mem_of_getElem? (i := 52) rfl)) (hw _ (List.mem_of_getElem? (i := 53) rfl)) (hw _ (List.mem_of_getElem? (i := 54) rfl)) (by decide) (rm10 l Z a0 hw [] o36 fo (3 : Int32) T51.heap n0 Z63 x0_ x1_ x2_ x3_ A52 fm hfr hfm (f5_ c72)) (argsL := [.ref o36, .int fo, .int (3 : Int32)]) (rest := []) pd_4 rfl rfl rfl (hb hby at_440) rfl (by rw [hml]; rfl) eb71 (by decide) (W := 0) rfl (by decide) (by decide) (by decide) ?_
                      intro v73 T73 Lc73 X73 Q73
                      obtain ⟨rfl, e73, rfl⟩ := Q73
                      rw [List.append_nil] at X73
                      refine g_if_ne (q := 448) (q0 := 446) X73.here hx (hb hby at_443) (by decide) (by decide) rfl ?_ ?_
                      · intro c74
                        exact LP448_b70 _  X73 e73 
                      · intro c74; exact absurd c74 (by decide)
                  have LP412_b75 : ∀ (Tb75 : State) (Xb75 : Stand p l e room_1 s m #[.long k0, .long k1, .long k2, .long k3, .long bd, .int msk] below meth c Tb75 (lcb34 ++ Lc51) (0 + 1 + RM_rm1.cells + 1 + RM_rm8.cells) (0 + 4 + RM_rm1.slots + 4 + RM_rm8.slots)) (eb75 : Tb75.heap = T51.heap), Go p e below (Fin0 s room_1 (fun v h L => v = some (.int 1) ∧ Fr n0 L)) (Tb75.setTop (mkF m 412 #[.val (.long k0), .second, .val (.long k1), .second, .val (.long k2), .second, .val (.long k3), .second, .val (.long bd), .second, .val (.int msk), .val (.ref o1), .val (.int (b2i q0)), .val (.int (b2i q1)), .val (.int (b2i q2)), .val (.int (b2i q3)), .val (.int (b2i rev)), .val (.int hd), .val (.ref o36), .val (.int fo), .val (.int hd2), .val (.int (b2i e0_)), .val (.int (b2i e1_)), .val (.int (b2i e2_)), .val (.int (b2i e3_)), .val (.int ((((b2i e0_) + (b2i e1_)) + (b2i e2_)) + (b2i e3_)))] [])) := by
                    intro Tb75 Xb75 eb75
                    refine g_iload (q := 414) Xb75.here hx (hb hby at_412) rfl rfl ?_
                    refine g_ifB_eq (q := 430) (q0 := 417) Xb75.here hx (hb hby at_414) (by decide) (by decide) rfl ?_ ?_
                    · intro c76
                      exact LP430_b71 _  Xb75 eb75 
                    · intro c76
                      refine g_aload (q := 419) Xb75.here hx (hb hby at_417) rfl rfl rfl ?_
                      refine g_iload (q := 421) Xb75.here hx (hb hby at_419) rfl rfl ?_
                      refine g_iconst (q := 422) (v := (2 : Int32)) Xb75.here hx (hb hby at_421) rfl rfl ?_
                      refine g_callS (q := 425) Xb75 hx hZ hown (hw _ (List.mem_of_getElem? (i := 51) rfl)) (hw _ (List.mem_of_getElem? (i := 52) rfl)) (hw _ (List.mem_of_getElem? (i := 53) rfl)) (hw _ (List.mem_of_getElem? (i := 54) rfl)) (by decide) (rm10 l Z a0 hw [] o36 fo (2 : Int32) T51.heap n0 Z63 x0_ x1_ x2_ x3_ A52 fm hfr hfm (f4_ c76)) (argsL := [.ref o36, .int fo, .int (2 : Int32)]) (rest := []) pd_4 rfl rfl rfl (hb hby at_422) rfl (by rw [hml]; rfl) eb75 (by decide) (W := 0) rfl (by decide) (by decide) (by decide) ?_
                      intro v77 T77 Lc77 X77 Q77
                      obtain ⟨rfl, e77, rfl⟩ := Q77
                      rw [List.append_nil] at X77
                      refine g_if_ne (q := 430) (q0 := 428) X77.here hx (hb hby at_425) (by decide) (by decide) rfl ?_ ?_
                      · intro c78
                        exact LP430_b71 _  X77 e77 
                      · intro c78; exact absurd c78 (by decide)
                  have LP394_b79 : ∀ (Tb79 : State) (Xb79 : Stand p l e room_1 s m #[.long k0, .long k1, .long k2, .long k3, .long bd, .int msk] below meth c Tb79 (lcb34 ++ Lc51) (0 + 1 + RM_rm1.cells + 1 + RM_rm8.cells) (0 + 4 + RM_rm1.slots + 4 + RM_rm8.slots)) (eb79 : Tb79.heap = T51.heap), Go p e below (Fin0 s room_1 (fun v h L => v = some (.int 1) ∧ Fr n0 L)) (Tb79.setTop (mkF m 394 #[.val (.long k0), .second, .val (.long k1), .second, .val (.long k2), .second, .val (.long k3), .second, .val (.long bd), .second, .val (.int msk), .val (.ref o1), .val (.int (b2i q0)), .val (.int (b2i q1)), .val (.int (b2i q2)), .val (.int (b2i q3)), .val (.int (b2i rev)), .val (.int hd), .val (.ref o36), .val (.int fo), .val (.int hd2), .val (.int (b2i e0_)), .val (.int (b2i e1_)), .val (.int (b2i e2_)), .val (.int (b2i e3_)), .val (.int ((((b2i e0_) + (b2i e1_)) + (b2i e2_)) + (b2i e3_)))] [])) := by
                    intro Tb79 Xb79 eb79
                    refine g_iload (q := 396) Xb79.here hx (hb hby at_394) rfl rfl ?_
                    refine g_ifB_eq (q := 412) (q0 := 399) Xb79.here hx (hb hby at_396) (by decide) (by decide) rfl ?_ ?_
                    · intro c80
                      exact LP412_b75 _  Xb79 eb79 
                    · intro c80
                      refine g_aload (q := 401) Xb79.here hx (hb hby at_399) rfl rfl rfl ?_
                      refine g_iload (q := 403) Xb79.here hx (hb hby at_401) rfl rfl ?_
                      refine g_iconst (q := 404) (v := (1 : Int32)) Xb79.here hx (hb hby at_403) rfl rfl ?_
                      refine g_callS (q := 407) Xb79 hx hZ hown (hw _ (List.mem_of_getElem? (i := 51) rfl)) (hw _ (List.mem_of_getElem? (i := 52) rfl)) (hw _ (List.mem_of_getElem? (i := 53) rfl)) (hw _ (List.mem_of_getElem? (i := 54) rfl)) (by decide) (rm10 l Z a0 hw [] o36 fo (1 : Int32) T51.heap n0 Z63 x0_ x1_ x2_ x3_ A52 fm hfr hfm (f3_ c80)) (argsL := [.ref o36, .int fo, .int (1 : Int32)]) (rest := []) pd_4 rfl rfl rfl (hb hby at_404) rfl (by rw [hml]; rfl) eb79 (by decide) (W := 0) rfl (by decide) (by decide) (by decide) ?_
                      intro v81 T81 Lc81 X81 Q81
                      obtain ⟨rfl, e81, rfl⟩ := Q81
                      rw [List.append_nil] at X81
                      refine g_if_ne (q := 412) (q0 := 410) X81.here hx (hb hby at_407) (by decide) (by decide) rfl ?_ ?_
                      · intro c82
                        exact LP412_b75 _  X81 e81 
                      · intro c82; exact absurd c82 (by decide)
                  refine g_iload (q := 378) Xb68.here hx (hb hby at_376) rfl rfl ?_
                  refine g_ifB_eq (q := 394) (q0 := 381) Xb68.here hx (hb hby at_378) (by decide) (by decide) rfl ?_ ?_
                  · intro c83
                    exact LP394_b79 _  Xb68 eb68 
                  · intro c83
                    refine g_aload (q := 383) Xb68.here hx (hb hby at_381) rfl rfl rfl ?_
                    refine g_iload (q := 385) Xb68.here hx (hb hby at_383) rfl rfl ?_
                    refine g_iconst (q := 386) (v := (0 : Int32)) Xb68.here hx (hb hby at_385) rfl rfl ?_
                    refine g_callS (q := 389) Xb68 hx hZ hown (hw _ (List.mem_of_getElem? (i := 51) rfl)) (hw _ (List.mem_of_getElem? (i := 52) rfl)) (hw _ (List.mem_of_getElem? (i := 53) rfl)) (hw _ (List.mem_of_getElem? (i := 54) rfl)) (by decide) (rm10 l Z a0 hw [] o36 fo (0 : Int32) T51.heap n0 Z63 x0_ x1_ x2_ x3_ A52 fm hfr hfm (f2_ c83)) (argsL := [.ref o36, .int fo, .int (0 : Int32)]) (rest := []) pd_4 rfl rfl rfl (hb hby at_386) rfl (by rw [hml]; rfl) eb68 (by decide) (W := 0) rfl (by decide) (by decide) (by decide) ?_
                    intro v84 T84 Lc84 X84 Q84
                    obtain ⟨rfl, e84, rfl⟩ := Q84
                    rw [List.append_nil] at X84
                    refine g_if_ne (q := 394) (q0 := 392) X84.here hx (hb hby at_389) (by decide) (by decide) rfl ?_ ?_
                    · intro c85
                      exact LP394_b79 _  X84 e84 
                    · intro c85; exact absurd c85 (by decide)
                · intro c69
                  exact absurd f1_ c69
              refine g_iload (q := 304) Xb67.here hx (hb hby at_302) rfl rfl ?_
              refine g_ifB_eq (q := 319) (q0 := 307) Xb67.here hx (hb hby at_304) (by decide) (by decide) rfl ?_ ?_
              · intro c86
                refine g_iconst (q := 320) (v := (0 : Int32)) Xb67.here hx (hb hby at_319) rfl rfl ?_
                exact LP320_b68 _ false Xb67 eb67 (by rw [c86]; first | done | rfl)
              · intro c86
                refine g_lload (q := 309) Xb67.here hx (hb hby at_307) rfl rfl ?_
                refine g_lload (q := 311) Xb67.here hx (hb hby at_309) rfl rfl ?_
                refine g_sel_lcmp_gt (q := 320) (q1 := 312) Xb67.here hx (hb hby at_311) rfl (hb hby at_312) (by decide) (by decide) rfl (hb hby at_319) (hb hby at_315) (hb hby at_316) rfl (by decide) (by decide) rfl ?_
                exact LP320_b68 _ (decide (k3.toInt ≤ bd.toInt)) Xb67 eb67 (by rw [c86]; first | done | rfl)
            refine g_iload (q := 284) Xb66.here hx (hb hby at_282) rfl rfl ?_
            refine g_ifB_eq (q := 299) (q0 := 287) Xb66.here hx (hb hby at_284) (by decide) (by decide) rfl ?_ ?_
            · intro c87
              refine g_iconst (q := 300) (v := (0 : Int32)) Xb66.here hx (hb hby at_299) rfl rfl ?_
              exact LP300_b67 _ false Xb66 eb66 (by rw [c87]; first | done | rfl)
            · intro c87
              refine g_lload (q := 289) Xb66.here hx (hb hby at_287) rfl rfl ?_
              refine g_lload (q := 291) Xb66.here hx (hb hby at_289) rfl rfl ?_
              refine g_sel_lcmp_gt (q := 300) (q1 := 292) Xb66.here hx (hb hby at_291) rfl (hb hby at_292) (by decide) (by decide) rfl (hb hby at_299) (hb hby at_295) (hb hby at_296) rfl (by decide) (by decide) rfl ?_
              exact LP300_b67 _ (decide (k2.toInt ≤ bd.toInt)) Xb66 eb66 (by rw [c87]; first | done | rfl)
          refine g_iload (q := 265) Xb65.here hx (hb hby at_263) rfl rfl ?_
          refine g_ifB_eq (q := 279) (q0 := 268) Xb65.here hx (hb hby at_265) (by decide) (by decide) rfl ?_ ?_
          · intro c88
            refine g_iconst (q := 280) (v := (0 : Int32)) Xb65.here hx (hb hby at_279) rfl rfl ?_
            exact LP280_b66 _ false Xb65 eb65 (by rw [c88]; first | done | rfl)
          · intro c88
            refine g_lloadN (q := 269) Xb65.here hx (hb hby at_268) rfl rfl ?_
            refine g_lload (q := 271) Xb65.here hx (hb hby at_269) rfl rfl ?_
            refine g_sel_lcmp_gt (q := 280) (q1 := 272) Xb65.here hx (hb hby at_271) rfl (hb hby at_272) (by decide) (by decide) rfl (hb hby at_279) (hb hby at_275) (hb hby at_276) rfl (by decide) (by decide) rfl ?_
            exact LP280_b66 _ (decide (k1.toInt ≤ bd.toInt)) Xb65 eb65 (by rw [c88]; first | done | rfl)
        refine g_iload (q := 246) Xb64.here hx (hb hby at_244) rfl rfl ?_
        refine g_ifB_eq (q := 260) (q0 := 249) Xb64.here hx (hb hby at_246) (by decide) (by decide) rfl ?_ ?_
        · intro c89
          refine g_iconst (q := 261) (v := (0 : Int32)) Xb64.here hx (hb hby at_260) rfl rfl ?_
          exact LP261_b65 _ false Xb64 eb64 (by rw [c89]; first | done | rfl)
        · intro c89
          refine g_lloadN (q := 250) Xb64.here hx (hb hby at_249) rfl rfl ?_
          refine g_lload (q := 252) Xb64.here hx (hb hby at_250) rfl rfl ?_
          refine g_sel_lcmp_gt (q := 261) (q1 := 253) Xb64.here hx (hb hby at_252) rfl (hb hby at_253) (by decide) (by decide) rfl (hb hby at_260) (hb hby at_256) (hb hby at_257) rfl (by decide) (by decide) rfl ?_
          exact LP261_b65 _ (decide (k0.toInt ≤ bd.toInt)) Xb64 eb64 (by rw [c89]; first | done | rfl)
      refine g_aload (q := 227) X51.here hx (hb hby at_225) rfl rfl rfl ?_
      refine g_virtual (q := 230) X51 hx hZ hown (hw _ (List.mem_of_getElem? (i := 32) rfl)) (hw _ (List.mem_of_getElem? (i := 33) rfl)) (hw _ (List.mem_of_getElem? (i := 35) rfl)) (hw _ (List.mem_of_getElem? (i := 34) rfl)) (hw _ (List.mem_of_getElem? (i := 2) rfl)) (hw _ (List.mem_of_getElem? (i := 36) rfl)) (by decide) (rm6 l Z a0 hw [] o1 T51.heap n0 Z63 cn F58) F54 (argsL := []) (rest := []) pd_5 rfl rfl rfl (hb hby at_227) rfl (by rw [hml]; rfl) rfl (by decide) (W := 0) rfl (by decide) (by decide) (by decide) ?_
      intro v90 T90 Lc90 X90 Q90
      obtain ⟨rfl, e90, rfl⟩ := Q90
      rw [List.append_nil] at X90
      refine g_ifB_eq (q := 237) (q0 := 233) X90.here hx (hb hby at_230) (by decide) (by decide) rfl ?_ ?_
      · intro c91
        refine g_aload (q := 239) X90.here hx (hb hby at_237) rfl rfl rfl ?_
        refine g_virtual (q := 242) X90 hx hZ hown (hw _ (List.mem_of_getElem? (i := 37) rfl)) (hw _ (List.mem_of_getElem? (i := 38) rfl)) (hw _ (List.mem_of_getElem? (i := 40) rfl)) (hw _ (List.mem_of_getElem? (i := 39) rfl)) (hw _ (List.mem_of_getElem? (i := 2) rfl)) (hw _ (List.mem_of_getElem? (i := 41) rfl)) (by decide) (rm7 l Z a0 hw [] o1 T51.heap n0 Z63 o9 p0_ p1_ p2_ p3_ F55 F59) F54 (argsL := []) (rest := []) pd_6 rfl rfl rfl (hb hby at_239) rfl (by rw [hml]; rfl) e90 (by decide) (W := 0) rfl (by decide) (by decide) (by decide) ?_
        intro v92 T92 Lc92 X92 Q92
        obtain ⟨rfl, e92, rfl⟩ := Q92
        rw [List.append_nil] at X92
        exact LP242_b64 _ p0_ X92 e92 (_hd2 c91).symm
      · intro c91
        refine g_iconst (q := 234) (v := (-1 : Int32)) X90.here hx (hb hby at_233) rfl rfl ?_
        refine g_goto (q := 242) X90.here hx (hb hby at_234) (by decide) (by decide) ?_
        exact LP242_b64 _ (-1 : Int32) X90 e90 (_hd1 c91).symm
    refine g_aload (q := 192) Xb34.here hx (hb hby at_190) rfl rfl rfl ?_
    refine g_virtual (q := 195) Xb34 hx hZ hown (hw _ (List.mem_of_getElem? (i := 32) rfl)) (hw _ (List.mem_of_getElem? (i := 33) rfl)) (hw _ (List.mem_of_getElem? (i := 35) rfl)) (hw _ (List.mem_of_getElem? (i := 34) rfl)) (hw _ (List.mem_of_getElem? (i := 2) rfl)) (hw _ (List.mem_of_getElem? (i := 36) rfl)) (by decide) (rm6 l Z a0 hw [] o1 hh n0 Zb34 cn _F3) _E (argsL := []) (rest := []) pd_5 rfl rfl rfl (hb hby at_192) rfl (by rw [hml]; rfl) eb34 (by decide) (W := 0) rfl (by decide) (by decide) (by decide) ?_
    intro v93 T93 Lc93 X93 Q93
    obtain ⟨rfl, e93, rfl⟩ := Q93
    rw [List.append_nil] at X93
    refine g_ifB_eq (q := 202) (q0 := 198) X93.here hx (hb hby at_195) (by decide) (by decide) rfl ?_ ?_
    · intro c94
      refine g_aload (q := 204) X93.here hx (hb hby at_202) rfl rfl rfl ?_
      refine g_virtual (q := 207) X93 hx hZ hown (hw _ (List.mem_of_getElem? (i := 37) rfl)) (hw _ (List.mem_of_getElem? (i := 38) rfl)) (hw _ (List.mem_of_getElem? (i := 40) rfl)) (hw _ (List.mem_of_getElem? (i := 39) rfl)) (hw _ (List.mem_of_getElem? (i := 2) rfl)) (hw _ (List.mem_of_getElem? (i := 41) rfl)) (by decide) (rm7 l Z a0 hw [] o1 hh n0 Zb34 o9 p0_ p1_ p2_ p3_ _F0 _A0) _E (argsL := []) (rest := []) pd_6 rfl rfl rfl (hb hby at_204) rfl (by rw [hml]; rfl) e93 (by decide) (W := 0) rfl (by decide) (by decide) (by decide) ?_
      intro v95 T95 Lc95 X95 Q95
      obtain ⟨rfl, e95, rfl⟩ := Q95
      rw [List.append_nil] at X95
      exact LP207_b35 _ p0_ X95 e95 (fun h => absurd (h.symm.trans c94) (by decide)) (fun _ => rfl)
    · intro c94
      refine g_iconst (q := 199) (v := (-1 : Int32)) X93.here hx (hb hby at_198) rfl rfl ?_
      refine g_goto (q := 207) X93.here hx (hb hby at_199) (by decide) (by decide) ?_
      exact LP207_b35 _ (-1 : Int32) X93 e93 (fun _ => rfl) (fun h => absurd (c94.symm.trans h) (by decide))
set_option maxRecDepth 65536 in
set_option maxHeartbeats 40000000 in
theorem LT0_125_rm0 (l : Launch) (Z : State) (a0 : Array Value) (hw : ∀ d ∈ tables_1, d.before a0 Z = true) (k0 : Int64) (k1 : Int64) (k2 : Int64) (k3 : Int64) (bd : Int64) (msk : Int32) (h0 : Heap) (n0 : Nat) (Z0 : n0 ≤ h0.size) (p : Program) (e : Env) (s : State) (m : MethodId) (below : List Frame) (meth : Method) (c : Code) (hx : p.tables.exec = Jvm.exec) (hby : c.code = code) (hml : c.maxLocals = 26) (hrt : meth.sig.returnType = some .boolean) (hlk : meth.locks = false) (hnm : meth.name = "law") (hown : s.vm.findClass "com/example/hedged_dispatch/hedgeddispatch/stn/NodeQueueAtMostPinLaw" = some m.cls) (hZ : Z.Warmed39 s.vm) (o1 : Addr) (o9 : Addr) (o10 : Addr) (o11 : Addr) (n28 : o1 ≠ o9) (n29 : o1 ≠ o10) (n30 : o1 ≠ o11) (n15 : o9 ≠ o10) (n16 : o9 ≠ o11) (n17 : o10 ≠ o11) (g2 : n0 ≤ o1) (g31 : n0 ≤ o9) (g32 : n0 ≤ o10) (g33 : n0 ≤ o11) (q0 : Bool) (q1 : Bool) (q2 : Bool) (q3 : Bool) (rev : Bool) : ∀ (Tb96 : State) (hh : Heap) (lcb96 : List Loc) (hp : List Int32) (pl : List Int32) (ky : List Int64) (cn : Int32) (Xb96 : Stand p l e room_1 s m #[.long k0, .long k1, .long k2, .long k3, .long bd, .int msk] below meth c Tb96 (lcb96) (0 + 1 + RM_rm1.cells) (0 + 4 + RM_rm1.slots)) (eb96 : Tb96.heap = hh) (Nb96 : Fr n0 lcb96) (Zb96 : n0 ≤ hh.size) (_E : Exa Z hh o1 "com/example/hedged_dispatch/hedgeddispatch/stn/NodeQueue") (_F0 : Fld Z hh o1 "com/example/hedged_dispatch/hedgeddispatch/stn/NodeQueue" "heap" "[I" (.ref o9)) (_F1 : Fld Z hh o1 "com/example/hedged_dispatch/hedgeddispatch/stn/NodeQueue" "place" "[I" (.ref o10)) (_F2 : Fld Z hh o1 "com/example/hedged_dispatch/hedgeddispatch/stn/NodeQueue" "key" "[J" (.ref o11)) (_F3 : Fld Z hh o1 "com/example/hedged_dispatch/hedgeddispatch/stn/NodeQueue" "count" "I" (.int cn)) (_A0 : IA Z hh o9 hp) (_A1 : IA Z hh o10 pl) (_A2 : LA Z hh o11 ky) (_I : QInv hp pl ky cn (mb q1 1 ++ (mb q2 2 ++ (mb q3 3 ++ []))) [k0, k1, k2, k3]), Go p e below (Fin0 s room_1 (fun v h L => v = some (.int 1) ∧ Fr n0 L)) (Tb96.setTop (mkF m 125 #[.val (.long k0), .second, .val (.long k1), .second, .val (.long k2), .second, .val (.long k3), .second, .val (.long bd), .second, .val (.int msk), .val (.ref o1), .val (.int (b2i q0)), .val (.int (b2i q1)), .val (.int (b2i q2)), .val (.int (b2i q3)), .val (.int (b2i rev)), .unset, .unset, .unset, .unset, .unset, .unset, .unset, .unset, .unset] [])) := by
    have LP190_b34 := LT0_190_rm0 l Z a0 hw k0 k1 k2 k3 bd msk h0 n0 Z0  p e s m below meth c hx hby hml hrt hlk hnm hown hZ o1 o9 o10 o11 n28 n29 n30 n15 n16 n17 g2 g31 g32 g33 q0 q1 q2 q3 rev
    intro Tb96 hh lcb96 hp pl ky cn Xb96 eb96 Nb96 Zb96 _E _F0 _F1 _F2 _F3 _A0 _A1 _A2 _I
    refine g_iload (q := 127) Xb96.here hx (hb hby at_125) rfl rfl ?_
    refine g_ifB_eq (q := 190) (q0 := 130) Xb96.here hx (hb hby at_127) (by decide) (by decide) rfl ?_ ?_
    · intro c97
      exact LP190_b34 _ hh _ hp pl ky cn (mb q0 0 ++ (mb q1 1 ++ (mb q2 2 ++ (mb q3 3 ++ [])))) Xb96 eb96 Nb96 Zb96 _E _F0 _F1 _F2 _F3 _A0 _A1 _A2 (by rw [c97]; exact _I) (List.Perm.refl _) (own_ln (own_ln (own_ln (own_ln (Nat.zero_le 0)))))
    · intro c97
      refine g_aload (q := 132) Xb96.here hx (hb hby at_130) rfl rfl rfl ?_
      refine g_iconst (q := 133) (v := (0 : Int32)) Xb96.here hx (hb hby at_132) rfl rfl ?_
      refine g_lloadN (q := 134) Xb96.here hx (hb hby at_133) rfl rfl ?_
      refine g_virtual (q := 137) Xb96 hx hZ hown (hw _ (List.mem_of_getElem? (i := 21) rfl)) (hw _ (List.mem_of_getElem? (i := 22) rfl)) (hw _ (List.mem_of_getElem? (i := 24) rfl)) (hw _ (List.mem_of_getElem? (i := 23) rfl)) (hw _ (List.mem_of_getElem? (i := 2) rfl)) (hw _ (List.mem_of_getElem? (i := 25) rfl)) (by decide) (rm4 l Z a0 hw [] o1 (0 : Int32) k0 hh n0 Zb96 o9 o10 o11 hp pl ky cn (mb q1 1 ++ (mb q2 2 ++ (mb q3 3 ++ []))) [k0, k1, k2, k3] 0 _F0 _F1 _F2 _F3 _A0 _A1 _A2 _E n28 n29 n30 n15 n16 n17 g2 g31 g32 g33 rfl (by decide) _I (own_nin (by decide) (own_nin (by decide) (own_nin (by decide) List.not_mem_nil))) rfl (Nat.le_trans (own_ln (own_ln (own_ln (Nat.zero_le 0)))) (by decide))) _E (argsL := [.int (0 : Int32), .long k0]) (rest := []) pd_7 rfl rfl rfl (hb hby at_134) rfl (by rw [hml]; rfl) eb96 (by decide) (W := 0) rfl (by decide) (by decide) (by decide) ?_
      intro v98 T98 Lc98 X98 Q98
      obtain ⟨rfl, Nq98, Kq98, hp99, pl100, ky101, cn102, F103, F104, F105, F106, A107, A108, A109, I110⟩ := Q98
      have N111 := Fr.app Nb96 Nq98
      have F112 := Exa.keep _E Kq98
      have Z120 : n0 ≤ T98.heap.size := Nat.le_trans Zb96 Kq98.1
      refine g_goto (q := 190) X98.here hx (hb hby at_137) (by decide) (by decide) ?_
      exact LP190_b34 _ T98.heap _ hp99 pl100 ky101 cn102 (mb q0 0 ++ (mb q1 1 ++ (mb q2 2 ++ (mb q3 3 ++ [])))) X98 rfl N111 Z120 F112 F103 F104 F105 F106 A107 A108 A109 (by rw [c97]; exact I110) (List.Perm.refl _) (own_ln (own_ln (own_ln (own_ln (Nat.zero_le 0)))))
set_option maxRecDepth 65536 in
set_option maxHeartbeats 40000000 in
theorem LT0_113_rm0 (l : Launch) (Z : State) (a0 : Array Value) (hw : ∀ d ∈ tables_1, d.before a0 Z = true) (k0 : Int64) (k1 : Int64) (k2 : Int64) (k3 : Int64) (bd : Int64) (msk : Int32) (h0 : Heap) (n0 : Nat) (Z0 : n0 ≤ h0.size) (p : Program) (e : Env) (s : State) (m : MethodId) (below : List Frame) (meth : Method) (c : Code) (hx : p.tables.exec = Jvm.exec) (hby : c.code = code) (hml : c.maxLocals = 26) (hrt : meth.sig.returnType = some .boolean) (hlk : meth.locks = false) (hnm : meth.name = "law") (hown : s.vm.findClass "com/example/hedged_dispatch/hedgeddispatch/stn/NodeQueueAtMostPinLaw" = some m.cls) (hZ : Z.Warmed39 s.vm) (o1 : Addr) (o9 : Addr) (o10 : Addr) (o11 : Addr) (n28 : o1 ≠ o9) (n29 : o1 ≠ o10) (n30 : o1 ≠ o11) (n15 : o9 ≠ o10) (n16 : o9 ≠ o11) (n17 : o10 ≠ o11) (g2 : n0 ≤ o1) (g31 : n0 ≤ o9) (g32 : n0 ≤ o10) (g33 : n0 ≤ o11) (q0 : Bool) (q1 : Bool) (q2 : Bool) (q3 : Bool) (rev : Bool) : ∀ (Tb121 : State) (hh : Heap) (lcb121 : List Loc) (hp : List Int32) (pl : List Int32) (ky : List Int64) (cn : Int32) (Xb121 : Stand p l e room_1 s m #[.long k0, .long k1, .long k2, .long k3, .long bd, .int msk] below meth c Tb121 (lcb121) (0 + 1 + RM_rm1.cells) (0 + 4 + RM_rm1.slots)) (eb121 : Tb121.heap = hh) (Nb121 : Fr n0 lcb121) (Zb121 : n0 ≤ hh.size) (_E : Exa Z hh o1 "com/example/hedged_dispatch/hedgeddispatch/stn/NodeQueue") (_F0 : Fld Z hh o1 "com/example/hedged_dispatch/hedgeddispatch/stn/NodeQueue" "heap" "[I" (.ref o9)) (_F1 : Fld Z hh o1 "com/example/hedged_dispatch/hedgeddispatch/stn/NodeQueue" "place" "[I" (.ref o10)) (_F2 : Fld Z hh o1 "com/example/hedged_dispatch/hedgeddispatch/stn/NodeQueue" "key" "[J" (.ref o11)) (_F3 : Fld Z hh o1 "com/example/hedged_dispatch/hedgeddispatch/stn/NodeQueue" "count" "I" (.int cn)) (_A0 : IA Z hh o9 hp) (_A1 : IA Z hh o10 pl) (_A2 : LA Z hh o11 ky) (_I : QInv hp pl ky cn (mb q2 2 ++ (mb q3 3 ++ [])) [k0, k1, k2, k3]), Go p e below (Fin0 s room_1 (fun v h L => v = some (.int 1) ∧ Fr n0 L)) (Tb121.setTop (mkF m 113 #[.val (.long k0), .second, .val (.long k1), .second, .val (.long k2), .second, .val (.long k3), .second, .val (.long bd), .second, .val (.int msk), .val (.ref o1), .val (.int (b2i q0)), .val (.int (b2i q1)), .val (.int (b2i q2)), .val (.int (b2i q3)), .val (.int (b2i rev)), .unset, .unset, .unset, .unset, .unset, .unset, .unset, .unset, .unset] [])) := by
    have LP190_b34 := LT0_190_rm0 l Z a0 hw k0 k1 k2 k3 bd msk h0 n0 Z0  p e s m below meth c hx hby hml hrt hlk hnm hown hZ o1 o9 o10 o11 n28 n29 n30 n15 n16 n17 g2 g31 g32 g33 q0 q1 q2 q3 rev
    have LP125_b96 := LT0_125_rm0 l Z a0 hw k0 k1 k2 k3 bd msk h0 n0 Z0  p e s m below meth c hx hby hml hrt hlk hnm hown hZ o1 o9 o10 o11 n28 n29 n30 n15 n16 n17 g2 g31 g32 g33 q0 q1 q2 q3 rev
    intro Tb121 hh lcb121 hp pl ky cn Xb121 eb121 Nb121 Zb121 _E _F0 _F1 _F2 _F3 _A0 _A1 _A2 _I
    refine g_iload (q := 115) Xb121.here hx (hb hby at_113) rfl rfl ?_
    refine g_ifB_eq (q := 125) (q0 := 118) Xb121.here hx (hb hby at_115) (by decide) (by decide) rfl ?_ ?_
    · intro c122
      exact LP125_b96 _ hh _ hp pl ky cn Xb121 eb121 Nb121 Zb121 _E _F0 _F1 _F2 _F3 _A0 _A1 _A2 (by rw [c122]; exact _I)
    · intro c122
      refine g_aload (q := 120) Xb121.here hx (hb hby at_118) rfl rfl rfl ?_
      refine g_iconst (q := 121) (v := (1 : Int32)) Xb121.here hx (hb hby at_120) rfl rfl ?_
      refine g_lloadN (q := 122) Xb121.here hx (hb hby at_121) rfl rfl ?_
      refine g_virtual (q := 125) Xb121 hx hZ hown (hw _ (List.mem_of_getElem? (i := 21) rfl)) (hw _ (List.mem_of_getElem? (i := 22) rfl)) (hw _ (List.mem_of_getElem? (i := 24) rfl)) (hw _ (List.mem_of_getElem? (i := 23) rfl)) (hw _ (List.mem_of_getElem? (i := 2) rfl)) (hw _ (List.mem_of_getElem? (i := 25) rfl)) (by decide) (rm4 l Z a0 hw [] o1 (1 : Int32) k1 hh n0 Zb121 o9 o10 o11 hp pl ky cn (mb q2 2 ++ (mb q3 3 ++ [])) [k0, k1, k2, k3] 1 _F0 _F1 _F2 _F3 _A0 _A1 _A2 _E n28 n29 n30 n15 n16 n17 g2 g31 g32 g33 rfl (by decide) _I (own_nin (by decide) (own_nin (by decide) List.not_mem_nil)) rfl (Nat.le_trans (own_ln (own_ln (Nat.zero_le 0))) (by decide))) _E (argsL := [.int (1 : Int32), .long k1]) (rest := []) pd_7 rfl rfl rfl (hb hby at_122) rfl (by rw [hml]; rfl) eb121 (by decide) (W := 0) rfl (by decide) (by decide) (by decide) ?_
      intro v123 T123 Lc123 X123 Q123
      obtain ⟨rfl, Nq123, Kq123, hp124, pl125, ky126, cn127, F128, F129, F130, F131, A132, A133, A134, I135⟩ := Q123
      have N136 := Fr.app Nb121 Nq123
      have F137 := Exa.keep _E Kq123
      have Z145 : n0 ≤ T123.heap.size := Nat.le_trans Zb121 Kq123.1
      exact LP125_b96 _ T123.heap _ hp124 pl125 ky126 cn127 X123 rfl N136 Z145 F137 F128 F129 F130 F131 A132 A133 A134 (by rw [c122]; exact I135)
set_option maxRecDepth 65536 in
set_option maxHeartbeats 40000000 in
theorem LT0_100_rm0 (l : Launch) (Z : State) (a0 : Array Value) (hw : ∀ d ∈ tables_1, d.before a0 Z = true) (k0 : Int64) (k1 : Int64) (k2 : Int64) (k3 : Int64) (bd : Int64) (msk : Int32) (h0 : Heap) (n0 : Nat) (Z0 : n0 ≤ h0.size) (p : Program) (e : Env) (s : State) (m : MethodId) (below : List Frame) (meth : Method) (c : Code) (hx : p.tables.exec = Jvm.exec) (hby : c.code = code) (hml : c.maxLocals = 26) (hrt : meth.sig.returnType = some .boolean) (hlk : meth.locks = false) (hnm : meth.name = "law") (hown : s.vm.findClass "com/example/hedged_dispatch/hedgeddispatch/stn/NodeQueueAtMostPinLaw" = some m.cls) (hZ : Z.Warmed39 s.vm) (o1 : Addr) (o9 : Addr) (o10 : Addr) (o11 : Addr) (n28 : o1 ≠ o9) (n29 : o1 ≠ o10) (n30 : o1 ≠ o11) (n15 : o9 ≠ o10) (n16 : o9 ≠ o11) (n17 : o10 ≠ o11) (g2 : n0 ≤ o1) (g31 : n0 ≤ o9) (g32 : n0 ≤ o10) (g33 : n0 ≤ o11) (q0 : Bool) (q1 : Bool) (q2 : Bool) (q3 : Bool) (rev : Bool) : ∀ (Tb146 : State) (hh : Heap) (lcb146 : List Loc) (hp : List Int32) (pl : List Int32) (ky : List Int64) (cn : Int32) (Xb146 : Stand p l e room_1 s m #[.long k0, .long k1, .long k2, .long k3, .long bd, .int msk] below meth c Tb146 (lcb146) (0 + 1 + RM_rm1.cells) (0 + 4 + RM_rm1.slots)) (eb146 : Tb146.heap = hh) (Nb146 : Fr n0 lcb146) (Zb146 : n0 ≤ hh.size) (_E : Exa Z hh o1 "com/example/hedged_dispatch/hedgeddispatch/stn/NodeQueue") (_F0 : Fld Z hh o1 "com/example/hedged_dispatch/hedgeddispatch/stn/NodeQueue" "heap" "[I" (.ref o9)) (_F1 : Fld Z hh o1 "com/example/hedged_dispatch/hedgeddispatch/stn/NodeQueue" "place" "[I" (.ref o10)) (_F2 : Fld Z hh o1 "com/example/hedged_dispatch/hedgeddispatch/stn/NodeQueue" "key" "[J" (.ref o11)) (_F3 : Fld Z hh o1 "com/example/hedged_dispatch/hedgeddispatch/stn/NodeQueue" "count" "I" (.int cn)) (_A0 : IA Z hh o9 hp) (_A1 : IA Z hh o10 pl) (_A2 : LA Z hh o11 ky) (_I : QInv hp pl ky cn (mb q3 3 ++ []) [k0, k1, k2, k3]), Go p e below (Fin0 s room_1 (fun v h L => v = some (.int 1) ∧ Fr n0 L)) (Tb146.setTop (mkF m 100 #[.val (.long k0), .second, .val (.long k1), .second, .val (.long k2), .second, .val (.long k3), .second, .val (.long bd), .second, .val (.int msk), .val (.ref o1), .val (.int (b2i q0)), .val (.int (b2i q1)), .val (.int (b2i q2)), .val (.int (b2i q3)), .val (.int (b2i rev)), .unset, .unset, .unset, .unset, .unset, .unset, .unset, .unset, .unset] [])) := by
    have LP190_b34 := LT0_190_rm0 l Z a0 hw k0 k1 k2 k3 bd msk h0 n0 Z0  p e s m below meth c hx hby hml hrt hlk hnm hown hZ o1 o9 o10 o11 n28 n29 n30 n15 n16 n17 g2 g31 g32 g33 q0 q1 q2 q3 rev
    have LP125_b96 := LT0_125_rm0 l Z a0 hw k0 k1 k2 k3 bd msk h0 n0 Z0  p e s m below meth c hx hby hml hrt hlk hnm hown hZ o1 o9 o10 o11 n28 n29 n30 n15 n16 n17 g2 g31 g32 g33 q0 q1 q2 q3 rev
    have LP113_b121 := LT0_113_rm0 l Z a0 hw k0 k1 k2 k3 bd msk h0 n0 Z0  p e s m below meth c hx hby hml hrt hlk hnm hown hZ o1 o9 o10 o11 n28 n29 n30 n15 n16 n17 g2 g31 g32 g33 q0 q1 q2 q3 rev
    intro Tb146 hh lcb146 hp pl ky cn Xb146 eb146 Nb146 Zb146 _E _F0 _F1 _F2 _F3 _A0 _A1 _A2 _I
    refine g_iload (q := 102) Xb146.here hx (hb hby at_100) rfl rfl ?_
    refine g_ifB_eq (q := 113) (q0 := 105) Xb146.here hx (hb hby at_102) (by decide) (by decide) rfl ?_ ?_
    · intro c147
      exact LP113_b121 _ hh _ hp pl ky cn Xb146 eb146 Nb146 Zb146 _E _F0 _F1 _F2 _F3 _A0 _A1 _A2 (by rw [c147]; exact _I)
    · intro c147
      refine g_aload (q := 107) Xb146.here hx (hb hby at_105) rfl rfl rfl ?_
      refine g_iconst (q := 108) (v := (2 : Int32)) Xb146.here hx (hb hby at_107) rfl rfl ?_
      refine g_lload (q := 110) Xb146.here hx (hb hby at_108) rfl rfl ?_
      refine g_virtual (q := 113) Xb146 hx hZ hown (hw _ (List.mem_of_getElem? (i := 21) rfl)) (hw _ (List.mem_of_getElem? (i := 22) rfl)) (hw _ (List.mem_of_getElem? (i := 24) rfl)) (hw _ (List.mem_of_getElem? (i := 23) rfl)) (hw _ (List.mem_of_getElem? (i := 2) rfl)) (hw _ (List.mem_of_getElem? (i := 25) rfl)) (by decide) (rm4 l Z a0 hw [] o1 (2 : Int32) k2 hh n0 Zb146 o9 o10 o11 hp pl ky cn (mb q3 3 ++ []) [k0, k1, k2, k3] 2 _F0 _F1 _F2 _F3 _A0 _A1 _A2 _E n28 n29 n30 n15 n16 n17 g2 g31 g32 g33 rfl (by decide) _I (own_nin (by decide) List.not_mem_nil) rfl (Nat.le_trans (own_ln (Nat.zero_le 0)) (by decide))) _E (argsL := [.int (2 : Int32), .long k2]) (rest := []) pd_7 rfl rfl rfl (hb hby at_110) rfl (by rw [hml]; rfl) eb146 (by decide) (W := 0) rfl (by decide) (by decide) (by decide) ?_
      intro v148 T148 Lc148 X148 Q148
      obtain ⟨rfl, Nq148, Kq148, hp149, pl150, ky151, cn152, F153, F154, F155, F156, A157, A158, A159, I160⟩ := Q148
      have N161 := Fr.app Nb146 Nq148
      have F162 := Exa.keep _E Kq148
      have Z170 : n0 ≤ T148.heap.size := Nat.le_trans Zb146 Kq148.1
      exact LP113_b121 _ T148.heap _ hp149 pl150 ky151 cn152 X148 rfl N161 Z170 F162 F153 F154 F155 F156 A157 A158 A159 (by rw [c147]; exact I160)
set_option maxRecDepth 65536 in
set_option maxHeartbeats 40000000 in
theorem LT0_177_rm0 (l : Launch) (Z : State) (a0 : Array Value) (hw : ∀ d ∈ tables_1, d.before a0 Z = true) (k0 : Int64) (k1 : Int64) (k2 : Int64) (k3 : Int64) (bd : Int64) (msk : Int32) (h0 : Heap) (n0 : Nat) (Z0 : n0 ≤ h0.size) (p : Program) (e : Env) (s : State) (m : MethodId) (below : List Frame) (meth : Method) (c : Code) (hx : p.tables.exec = Jvm.exec) (hby : c.code = code) (hml : c.maxLocals = 26) (hrt : meth.sig.returnType = some .boolean) (hlk : meth.locks = false) (hnm : meth.name = "law") (hown : s.vm.findClass "com/example/hedged_dispatch/hedgeddispatch/stn/NodeQueueAtMostPinLaw" = some m.cls) (hZ : Z.Warmed39 s.vm) (o1 : Addr) (o9 : Addr) (o10 : Addr) (o11 : Addr) (n28 : o1 ≠ o9) (n29 : o1 ≠ o10) (n30 : o1 ≠ o11) (n15 : o9 ≠ o10) (n16 : o9 ≠ o11) (n17 : o10 ≠ o11) (g2 : n0 ≤ o1) (g31 : n0 ≤ o9) (g32 : n0 ≤ o10) (g33 : n0 ≤ o11) (q0 : Bool) (q1 : Bool) (q2 : Bool) (q3 : Bool) (rev : Bool) : ∀ (Tb171 : State) (hh : Heap) (lcb171 : List Loc) (hp : List Int32) (pl : List Int32) (ky : List Int64) (cn : Int32) (Xb171 : Stand p l e room_1 s m #[.long k0, .long k1, .long k2, .long k3, .long bd, .int msk] below meth c Tb171 (lcb171) (0 + 1 + RM_rm1.cells) (0 + 4 + RM_rm1.slots)) (eb171 : Tb171.heap = hh) (Nb171 : Fr n0 lcb171) (Zb171 : n0 ≤ hh.size) (_E : Exa Z hh o1 "com/example/hedged_dispatch/hedgeddispatch/stn/NodeQueue") (_F0 : Fld Z hh o1 "com/example/hedged_dispatch/hedgeddispatch/stn/NodeQueue" "heap" "[I" (.ref o9)) (_F1 : Fld Z hh o1 "com/example/hedged_dispatch/hedgeddispatch/stn/NodeQueue" "place" "[I" (.ref o10)) (_F2 : Fld Z hh o1 "com/example/hedged_dispatch/hedgeddispatch/stn/NodeQueue" "key" "[J" (.ref o11)) (_F3 : Fld Z hh o1 "com/example/hedged_dispatch/hedgeddispatch/stn/NodeQueue" "count" "I" (.int cn)) (_A0 : IA Z hh o9 hp) (_A1 : IA Z hh o10 pl) (_A2 : LA Z hh o11 ky) (_I : QInv hp pl ky cn (mb q2 2 ++ (mb q1 1 ++ (mb q0 0 ++ []))) [k0, k1, k2, k3]), Go p e below (Fin0 s room_1 (fun v h L => v = some (.int 1) ∧ Fr n0 L)) (Tb171.setTop (mkF m 177 #[.val (.long k0), .second, .val (.long k1), .second, .val (.long k2), .second, .val (.long k3), .second, .val (.long bd), .second, .val (.int msk), .val (.ref o1), .val (.int (b2i q0)), .val (.int (b2i q1)), .val (.int (b2i q2)), .val (.int (b2i q3)), .val (.int (b2i rev)), .unset, .unset, .unset, .unset, .unset, .unset, .unset, .unset, .unset] [])) := by
    have LP190_b34 := LT0_190_rm0 l Z a0 hw k0 k1 k2 k3 bd msk h0 n0 Z0  p e s m below meth c hx hby hml hrt hlk hnm hown hZ o1 o9 o10 o11 n28 n29 n30 n15 n16 n17 g2 g31 g32 g33 q0 q1 q2 q3 rev
    have LP125_b96 := LT0_125_rm0 l Z a0 hw k0 k1 k2 k3 bd msk h0 n0 Z0  p e s m below meth c hx hby hml hrt hlk hnm hown hZ o1 o9 o10 o11 n28 n29 n30 n15 n16 n17 g2 g31 g32 g33 q0 q1 q2 q3 rev
    have LP113_b121 := LT0_113_rm0 l Z a0 hw k0 k1 k2 k3 bd msk h0 n0 Z0  p e s m below meth c hx hby hml hrt hlk hnm hown hZ o1 o9 o10 o11 n28 n29 n30 n15 n16 n17 g2 g31 g32 g33 q0 q1 q2 q3 rev
    have LP100_b146 := LT0_100_rm0 l Z a0 hw k0 k1 k2 k3 bd msk h0 n0 Z0  p e s m below meth c hx hby hml hrt hlk hnm hown hZ o1 o9 o10 o11 n28 n29 n30 n15 n16 n17 g2 g31 g32 g33 q0 q1 q2 q3 rev
    intro Tb171 hh lcb171 hp pl ky cn Xb171 eb171 Nb171 Zb171 _E _F0 _F1 _F2 _F3 _A0 _A1 _A2 _I
    refine g_iload (q := 179) Xb171.here hx (hb hby at_177) rfl rfl ?_
    refine g_ifB_eq (q := 190) (q0 := 182) Xb171.here hx (hb hby at_179) (by decide) (by decide) rfl ?_ ?_
    · intro c172
      exact LP190_b34 _ hh _ hp pl ky cn (mb q3 3 ++ (mb q2 2 ++ (mb q1 1 ++ (mb q0 0 ++ [])))) Xb171 eb171 Nb171 Zb171 _E _F0 _F1 _F2 _F3 _A0 _A1 _A2 (by rw [c172]; exact _I) own_hd.symm (own_ln (own_ln (own_ln (own_ln (Nat.zero_le 0)))))
    · intro c172
      refine g_aload (q := 184) Xb171.here hx (hb hby at_182) rfl rfl rfl ?_
      refine g_iconst (q := 185) (v := (3 : Int32)) Xb171.here hx (hb hby at_184) rfl rfl ?_
      refine g_lload (q := 187) Xb171.here hx (hb hby at_185) rfl rfl ?_
      refine g_virtual (q := 190) Xb171 hx hZ hown (hw _ (List.mem_of_getElem? (i := 21) rfl)) (hw _ (List.mem_of_getElem? (i := 22) rfl)) (hw _ (List.mem_of_getElem? (i := 24) rfl)) (hw _ (List.mem_of_getElem? (i := 23) rfl)) (hw _ (List.mem_of_getElem? (i := 2) rfl)) (hw _ (List.mem_of_getElem? (i := 25) rfl)) (by decide) (rm4 l Z a0 hw [] o1 (3 : Int32) k3 hh n0 Zb171 o9 o10 o11 hp pl ky cn (mb q2 2 ++ (mb q1 1 ++ (mb q0 0 ++ []))) [k0, k1, k2, k3] 3 _F0 _F1 _F2 _F3 _A0 _A1 _A2 _E n28 n29 n30 n15 n16 n17 g2 g31 g32 g33 rfl (by decide) _I (own_nin (by decide) (own_nin (by decide) (own_nin (by decide) List.not_mem_nil))) rfl (Nat.le_trans (own_ln (own_ln (own_ln (Nat.zero_le 0)))) (by decide))) _E (argsL := [.int (3 : Int32), .long k3]) (rest := []) pd_7 rfl rfl rfl (hb hby at_187) rfl (by rw [hml]; rfl) eb171 (by decide) (W := 0) rfl (by decide) (by decide) (by decide) ?_
      intro v173 T173 Lc173 X173 Q173
      obtain ⟨rfl, Nq173, Kq173, hp174, pl175, ky176, cn177, F178, F179, F180, F181, A182, A183, A184, I185⟩ := Q173
      have N186 := Fr.app Nb171 Nq173
      have F187 := Exa.keep _E Kq173
      have Z195 : n0 ≤ T173.heap.size := Nat.le_trans Zb171 Kq173.1
      exact LP190_b34 _ T173.heap _ hp174 pl175 ky176 cn177 (mb q3 3 ++ (mb q2 2 ++ (mb q1 1 ++ (mb q0 0 ++ [])))) X173 rfl N186 Z195 F187 F178 F179 F180 F181 A182 A183 A184 (by rw [c172]; exact I185) own_hd.symm (own_ln (own_ln (own_ln (own_ln (Nat.zero_le 0)))))
set_option maxRecDepth 65536 in
set_option maxHeartbeats 40000000 in
theorem LT0_164_rm0 (l : Launch) (Z : State) (a0 : Array Value) (hw : ∀ d ∈ tables_1, d.before a0 Z = true) (k0 : Int64) (k1 : Int64) (k2 : Int64) (k3 : Int64) (bd : Int64) (msk : Int32) (h0 : Heap) (n0 : Nat) (Z0 : n0 ≤ h0.size) (p : Program) (e : Env) (s : State) (m : MethodId) (below : List Frame) (meth : Method) (c : Code) (hx : p.tables.exec = Jvm.exec) (hby : c.code = code) (hml : c.maxLocals = 26) (hrt : meth.sig.returnType = some .boolean) (hlk : meth.locks = false) (hnm : meth.name = "law") (hown : s.vm.findClass "com/example/hedged_dispatch/hedgeddispatch/stn/NodeQueueAtMostPinLaw" = some m.cls) (hZ : Z.Warmed39 s.vm) (o1 : Addr) (o9 : Addr) (o10 : Addr) (o11 : Addr) (n28 : o1 ≠ o9) (n29 : o1 ≠ o10) (n30 : o1 ≠ o11) (n15 : o9 ≠ o10) (n16 : o9 ≠ o11) (n17 : o10 ≠ o11) (g2 : n0 ≤ o1) (g31 : n0 ≤ o9) (g32 : n0 ≤ o10) (g33 : n0 ≤ o11) (q0 : Bool) (q1 : Bool) (q2 : Bool) (q3 : Bool) (rev : Bool) : ∀ (Tb196 : State) (hh : Heap) (lcb196 : List Loc) (hp : List Int32) (pl : List Int32) (ky : List Int64) (cn : Int32) (Xb196 : Stand p l e room_1 s m #[.long k0, .long k1, .long k2, .long k3, .long bd, .int msk] below meth c Tb196 (lcb196) (0 + 1 + RM_rm1.cells) (0 + 4 + RM_rm1.slots)) (eb196 : Tb196.heap = hh) (Nb196 : Fr n0 lcb196) (Zb196 : n0 ≤ hh.size) (_E : Exa Z hh o1 "com/example/hedged_dispatch/hedgeddispatch/stn/NodeQueue") (_F0 : Fld Z hh o1 "com/example/hedged_dispatch/hedgeddispatch/stn/NodeQueue" "heap" "[I" (.ref o9)) (_F1 : Fld Z hh o1 "com/example/hedged_dispatch/hedgeddispatch/stn/NodeQueue" "place" "[I" (.ref o10)) (_F2 : Fld Z hh o1 "com/example/hedged_dispatch/hedgeddispatch/stn/NodeQueue" "key" "[J" (.ref o11)) (_F3 : Fld Z hh o1 "com/example/hedged_dispatch/hedgeddispatch/stn/NodeQueue" "count" "I" (.int cn)) (_A0 : IA Z hh o9 hp) (_A1 : IA Z hh o10 pl) (_A2 : LA Z hh o11 ky) (_I : QInv hp pl ky cn (mb q1 1 ++ (mb q0 0 ++ [])) [k0, k1, k2, k3]), Go p e below (Fin0 s room_1 (fun v h L => v = some (.int 1) ∧ Fr n0 L)) (Tb196.setTop (mkF m 164 #[.val (.long k0), .second, .val (.long k1), .second, .val (.long k2), .second, .val (.long k3), .second, .val (.long bd), .second, .val (.int msk), .val (.ref o1), .val (.int (b2i q0)), .val (.int (b2i q1)), .val (.int (b2i q2)), .val (.int (b2i q3)), .val (.int (b2i rev)), .unset, .unset, .unset, .unset, .unset, .unset, .unset, .unset, .unset] [])) := by
    have LP190_b34 := LT0_190_rm0 l Z a0 hw k0 k1 k2 k3 bd msk h0 n0 Z0  p e s m below meth c hx hby hml hrt hlk hnm hown hZ o1 o9 o10 o11 n28 n29 n30 n15 n16 n17 g2 g31 g32 g33 q0 q1 q2 q3 rev
    have LP125_b96 := LT0_125_rm0 l Z a0 hw k0 k1 k2 k3 bd msk h0 n0 Z0  p e s m below meth c hx hby hml hrt hlk hnm hown hZ o1 o9 o10 o11 n28 n29 n30 n15 n16 n17 g2 g31 g32 g33 q0 q1 q2 q3 rev
    have LP113_b121 := LT0_113_rm0 l Z a0 hw k0 k1 k2 k3 bd msk h0 n0 Z0  p e s m below meth c hx hby hml hrt hlk hnm hown hZ o1 o9 o10 o11 n28 n29 n30 n15 n16 n17 g2 g31 g32 g33 q0 q1 q2 q3 rev
    have LP100_b146 := LT0_100_rm0 l Z a0 hw k0 k1 k2 k3 bd msk h0 n0 Z0  p e s m below meth c hx hby hml hrt hlk hnm hown hZ o1 o9 o10 o11 n28 n29 n30 n15 n16 n17 g2 g31 g32 g33 q0 q1 q2 q3 rev
    have LP177_b171 := LT0_177_rm0 l Z a0 hw k0 k1 k2 k3 bd msk h0 n0 Z0  p e s m below meth c hx hby hml hrt hlk hnm hown hZ o1 o9 o10 o11 n28 n29 n30 n15 n16 n17 g2 g31 g32 g33 q0 q1 q2 q3 rev
    intro Tb196 hh lcb196 hp pl ky cn Xb196 eb196 Nb196 Zb196 _E _F0 _F1 _F2 _F3 _A0 _A1 _A2 _I
    refine g_iload (q := 166) Xb196.here hx (hb hby at_164) rfl rfl ?_
    refine g_ifB_eq (q := 177) (q0 := 169) Xb196.here hx (hb hby at_166) (by decide) (by decide) rfl ?_ ?_
    · intro c197
      exact LP177_b171 _ hh _ hp pl ky cn Xb196 eb196 Nb196 Zb196 _E _F0 _F1 _F2 _F3 _A0 _A1 _A2 (by rw [c197]; exact _I)
    · intro c197
      refine g_aload (q := 171) Xb196.here hx (hb hby at_169) rfl rfl rfl ?_
      refine g_iconst (q := 172) (v := (2 : Int32)) Xb196.here hx (hb hby at_171) rfl rfl ?_
      refine g_lload (q := 174) Xb196.here hx (hb hby at_172) rfl rfl ?_
      refine g_virtual (q := 177) Xb196 hx hZ hown (hw _ (List.mem_of_getElem? (i := 21) rfl)) (hw _ (List.mem_of_getElem? (i := 22) rfl)) (hw _ (List.mem_of_getElem? (i := 24) rfl)) (hw _ (List.mem_of_getElem? (i := 23) rfl)) (hw _ (List.mem_of_getElem? (i := 2) rfl)) (hw _ (List.mem_of_getElem? (i := 25) rfl)) (by decide) (rm4 l Z a0 hw [] o1 (2 : Int32) k2 hh n0 Zb196 o9 o10 o11 hp pl ky cn (mb q1 1 ++ (mb q0 0 ++ [])) [k0, k1, k2, k3] 2 _F0 _F1 _F2 _F3 _A0 _A1 _A2 _E n28 n29 n30 n15 n16 n17 g2 g31 g32 g33 rfl (by decide) _I (own_nin (by decide) (own_nin (by decide) List.not_mem_nil)) rfl (Nat.le_trans (own_ln (own_ln (Nat.zero_le 0))) (by decide))) _E (argsL := [.int (2 : Int32), .long k2]) (rest := []) pd_7 rfl rfl rfl (hb hby at_174) rfl (by rw [hml]; rfl) eb196 (by decide) (W := 0) rfl (by decide) (by decide) (by decide) ?_
      intro v198 T198 Lc198 X198 Q198
      obtain ⟨rfl, Nq198, Kq198, hp199, pl200, ky201, cn202, F203, F204, F205, F206, A207, A208, A209, I210⟩ := Q198
      have N211 := Fr.app Nb196 Nq198
      have F212 := Exa.keep _E Kq198
      have Z220 : n0 ≤ T198.heap.size := Nat.le_trans Zb196 Kq198.1
      exact LP177_b171 _ T198.heap _ hp199 pl200 ky201 cn202 X198 rfl N211 Z220 F212 F203 F204 F205 F206 A207 A208 A209 (by rw [c197]; exact I210)
set_option maxRecDepth 65536 in
set_option maxHeartbeats 40000000 in
theorem LT0_152_rm0 (l : Launch) (Z : State) (a0 : Array Value) (hw : ∀ d ∈ tables_1, d.before a0 Z = true) (k0 : Int64) (k1 : Int64) (k2 : Int64) (k3 : Int64) (bd : Int64) (msk : Int32) (h0 : Heap) (n0 : Nat) (Z0 : n0 ≤ h0.size) (p : Program) (e : Env) (s : State) (m : MethodId) (below : List Frame) (meth : Method) (c : Code) (hx : p.tables.exec = Jvm.exec) (hby : c.code = code) (hml : c.maxLocals = 26) (hrt : meth.sig.returnType = some .boolean) (hlk : meth.locks = false) (hnm : meth.name = "law") (hown : s.vm.findClass "com/example/hedged_dispatch/hedgeddispatch/stn/NodeQueueAtMostPinLaw" = some m.cls) (hZ : Z.Warmed39 s.vm) (o1 : Addr) (o9 : Addr) (o10 : Addr) (o11 : Addr) (n28 : o1 ≠ o9) (n29 : o1 ≠ o10) (n30 : o1 ≠ o11) (n15 : o9 ≠ o10) (n16 : o9 ≠ o11) (n17 : o10 ≠ o11) (g2 : n0 ≤ o1) (g31 : n0 ≤ o9) (g32 : n0 ≤ o10) (g33 : n0 ≤ o11) (q0 : Bool) (q1 : Bool) (q2 : Bool) (q3 : Bool) (rev : Bool) : ∀ (Tb221 : State) (hh : Heap) (lcb221 : List Loc) (hp : List Int32) (pl : List Int32) (ky : List Int64) (cn : Int32) (Xb221 : Stand p l e room_1 s m #[.long k0, .long k1, .long k2, .long k3, .long bd, .int msk] below meth c Tb221 (lcb221) (0 + 1 + RM_rm1.cells) (0 + 4 + RM_rm1.slots)) (eb221 : Tb221.heap = hh) (Nb221 : Fr n0 lcb221) (Zb221 : n0 ≤ hh.size) (_E : Exa Z hh o1 "com/example/hedged_dispatch/hedgeddispatch/stn/NodeQueue") (_F0 : Fld Z hh o1 "com/example/hedged_dispatch/hedgeddispatch/stn/NodeQueue" "heap" "[I" (.ref o9)) (_F1 : Fld Z hh o1 "com/example/hedged_dispatch/hedgeddispatch/stn/NodeQueue" "place" "[I" (.ref o10)) (_F2 : Fld Z hh o1 "com/example/hedged_dispatch/hedgeddispatch/stn/NodeQueue" "key" "[J" (.ref o11)) (_F3 : Fld Z hh o1 "com/example/hedged_dispatch/hedgeddispatch/stn/NodeQueue" "count" "I" (.int cn)) (_A0 : IA Z hh o9 hp) (_A1 : IA Z hh o10 pl) (_A2 : LA Z hh o11 ky) (_I : QInv hp pl ky cn (mb q0 0 ++ []) [k0, k1, k2, k3]), Go p e below (Fin0 s room_1 (fun v h L => v = some (.int 1) ∧ Fr n0 L)) (Tb221.setTop (mkF m 152 #[.val (.long k0), .second, .val (.long k1), .second, .val (.long k2), .second, .val (.long k3), .second, .val (.long bd), .second, .val (.int msk), .val (.ref o1), .val (.int (b2i q0)), .val (.int (b2i q1)), .val (.int (b2i q2)), .val (.int (b2i q3)), .val (.int (b2i rev)), .unset, .unset, .unset, .unset, .unset, .unset, .unset, .unset, .unset] [])) := by
    have LP190_b34 := LT0_190_rm0 l Z a0 hw k0 k1 k2 k3 bd msk h0 n0 Z0  p e s m below meth c hx hby hml hrt hlk hnm hown hZ o1 o9 o10 o11 n28 n29 n30 n15 n16 n17 g2 g31 g32 g33 q0 q1 q2 q3 rev
    have LP125_b96 := LT0_125_rm0 l Z a0 hw k0 k1 k2 k3 bd msk h0 n0 Z0  p e s m below meth c hx hby hml hrt hlk hnm hown hZ o1 o9 o10 o11 n28 n29 n30 n15 n16 n17 g2 g31 g32 g33 q0 q1 q2 q3 rev
    have LP113_b121 := LT0_113_rm0 l Z a0 hw k0 k1 k2 k3 bd msk h0 n0 Z0  p e s m below meth c hx hby hml hrt hlk hnm hown hZ o1 o9 o10 o11 n28 n29 n30 n15 n16 n17 g2 g31 g32 g33 q0 q1 q2 q3 rev
    have LP100_b146 := LT0_100_rm0 l Z a0 hw k0 k1 k2 k3 bd msk h0 n0 Z0  p e s m below meth c hx hby hml hrt hlk hnm hown hZ o1 o9 o10 o11 n28 n29 n30 n15 n16 n17 g2 g31 g32 g33 q0 q1 q2 q3 rev
    have LP177_b171 := LT0_177_rm0 l Z a0 hw k0 k1 k2 k3 bd msk h0 n0 Z0  p e s m below meth c hx hby hml hrt hlk hnm hown hZ o1 o9 o10 o11 n28 n29 n30 n15 n16 n17 g2 g31 g32 g33 q0 q1 q2 q3 rev
    have LP164_b196 := LT0_164_rm0 l Z a0 hw k0 k1 k2 k3 bd msk h0 n0 Z0  p e s m below meth c hx hby hml hrt hlk hnm hown hZ o1 o9 o10 o11 n28 n29 n30 n15 n16 n17 g2 g31 g32 g33 q0 q1 q2 q3 rev
    intro Tb221 hh lcb221 hp pl ky cn Xb221 eb221 Nb221 Zb221 _E _F0 _F1 _F2 _F3 _A0 _A1 _A2 _I
    refine g_iload (q := 154) Xb221.here hx (hb hby at_152) rfl rfl ?_
    refine g_ifB_eq (q := 164) (q0 := 157) Xb221.here hx (hb hby at_154) (by decide) (by decide) rfl ?_ ?_
    · intro c222
      exact LP164_b196 _ hh _ hp pl ky cn Xb221 eb221 Nb221 Zb221 _E _F0 _F1 _F2 _F3 _A0 _A1 _A2 (by rw [c222]; exact _I)
    · intro c222
      refine g_aload (q := 159) Xb221.here hx (hb hby at_157) rfl rfl rfl ?_
      refine g_iconst (q := 160) (v := (1 : Int32)) Xb221.here hx (hb hby at_159) rfl rfl ?_
      refine g_lloadN (q := 161) Xb221.here hx (hb hby at_160) rfl rfl ?_
      refine g_virtual (q := 164) Xb221 hx hZ hown (hw _ (List.mem_of_getElem? (i := 21) rfl)) (hw _ (List.mem_of_getElem? (i := 22) rfl)) (hw _ (List.mem_of_getElem? (i := 24) rfl)) (hw _ (List.mem_of_getElem? (i := 23) rfl)) (hw _ (List.mem_of_getElem? (i := 2) rfl)) (hw _ (List.mem_of_getElem? (i := 25) rfl)) (by decide) (rm4 l Z a0 hw [] o1 (1 : Int32) k1 hh n0 Zb221 o9 o10 o11 hp pl ky cn (mb q0 0 ++ []) [k0, k1, k2, k3] 1 _F0 _F1 _F2 _F3 _A0 _A1 _A2 _E n28 n29 n30 n15 n16 n17 g2 g31 g32 g33 rfl (by decide) _I (own_nin (by decide) List.not_mem_nil) rfl (Nat.le_trans (own_ln (Nat.zero_le 0)) (by decide))) _E (argsL := [.int (1 : Int32), .long k1]) (rest := []) pd_7 rfl rfl rfl (hb hby at_161) rfl (by rw [hml]; rfl) eb221 (by decide) (W := 0) rfl (by decide) (by decide) (by decide) ?_
      intro v223 T223 Lc223 X223 Q223
      obtain ⟨rfl, Nq223, Kq223, hp224, pl225, ky226, cn227, F228, F229, F230, F231, A232, A233, A234, I235⟩ := Q223
      have N236 := Fr.app Nb221 Nq223
      have F237 := Exa.keep _E Kq223
      have Z245 : n0 ≤ T223.heap.size := Nat.le_trans Zb221 Kq223.1
      exact LP164_b196 _ T223.heap _ hp224 pl225 ky226 cn227 X223 rfl N236 Z245 F237 F228 F229 F230 F231 A232 A233 A234 (by rw [c222]; exact I235)
set_option maxRecDepth 65536 in
set_option maxHeartbeats 40000000 in
theorem rm0 (l : Launch) (Z : State) (a0 : Array Value) (hw : ∀ d ∈ tables_1, d.before a0 Z = true) (ws : List Jvm.Cond) (k0 : Int64) (k1 : Int64) (k2 : Int64) (k3 : Int64) (bd : Int64) (msk : Int32) (h0 : Heap) (n0 : Nat) (Z0 : n0 ≤ h0.size) :
    Ctr l Z x code maxLocals ret room_1 ws #[.long k0, .long k1, .long k2, .long k3, .long bd, .int msk] h0 (fun v h L => v = some (.int 1) ∧ Fr n0 L) := by
  refine Ctr.of (plainFor_of_name pn_2) ?_
  intro p e s m below meth c s₁ hx hby hml hrt hlk hnm hown hZ X0 e0
  have N0 := Fr.nil n0
  refine Go.cast (ef_0 m k0 k1 k2 k3 bd msk) ?_
  replace hown : s.vm.findClass "com/example/hedged_dispatch/hedgeddispatch/stn/NodeQueueAtMostPinLaw" = some m.cls := hown
  replace hml : c.maxLocals = 26 := hml
  replace hrt : meth.sig.returnType = some .boolean := hrt
  refine g_newO (q := 3) X0 hx hZ hown (hw _ (List.mem_of_getElem? (i := 0) rfl)) (hw _ (List.mem_of_getElem? (i := 1) rfl)) (hw _ (List.mem_of_getElem? (i := 2) rfl)) e0 (hb hby at_0) rfl (by decide) (by decide) ?_
  intro T1 h1 o1 X1 e1 E1 q1 A1 D1
  have g2 : n0 ≤ o1 := ge_new Z0 q1
  have Z3 : n0 ≤ h1.size := Nat.le_trans Z0 E1.1
  have F4 : Fld Z h1 o1 "com/example/hedged_dispatch/hedgeddispatch/stn/NodeQueue" "heap" "[I" (.null) := D1 (Or.inr (hw _ (List.mem_of_getElem? (i := 11) rfl))) (ty := (.array .int)) (by decide)
  have F5 : Fld Z h1 o1 "com/example/hedged_dispatch/hedgeddispatch/stn/NodeQueue" "place" "[I" (.null) := D1 (Or.inr (hw _ (List.mem_of_getElem? (i := 13) rfl))) (ty := (.array .int)) (by decide)
  have F6 : Fld Z h1 o1 "com/example/hedged_dispatch/hedgeddispatch/stn/NodeQueue" "key" "[J" (.null) := D1 (Or.inr (hw _ (List.mem_of_getElem? (i := 16) rfl))) (ty := (.array .long)) (by decide)
  have F7 : Fld Z h1 o1 "com/example/hedged_dispatch/hedgeddispatch/stn/NodeQueue" "count" "I" (.int (0 : Int32)) := D1 (Or.inl (hw _ (List.mem_of_getElem? (i := 27) rfl))) (ty := .int) (by decide)
  refine g_dup (q := 4) X1.here hx (hb hby at_3) rfl rfl ?_
  refine g_iconst (q := 5) (v := (4 : Int32)) X1.here hx (hb hby at_4) rfl rfl ?_
  refine g_special (q := 8) X1 hx hZ rfl hown (hw _ (List.mem_of_getElem? (i := 3) rfl)) (hw _ (List.mem_of_getElem? (i := 4) rfl)) (hw _ (List.mem_of_getElem? (i := 2) rfl)) (hw _ (List.mem_of_getElem? (i := 5) rfl)) (by decide) (rm1 l Z a0 hw [] o1 h1 n0 Z3 F4 F5 F6 F7 A1 g2) (argsL := [.int (4 : Int32)]) (rest := [.ref o1]) pd_2 rfl rfl rfl (hb hby at_5) rfl (by rw [hml]; rfl) e1 (by decide) (W := 1) rfl (by decide) (by decide) (by decide) ?_
  intro v8 T8 Lc8 X8 Q8
  obtain ⟨rfl, Nq8, Kq8, o9, o10, o11, g12, g13, g14, n15, n16, n17, F18, F19, F20, F21, A22, A23, A24⟩ := Q8
  have N25 := Fr.app N0 Nq8
  have F26 := Exa.keep A1 Kq8
  have Z27 : n0 ≤ T8.heap.size := Nat.le_trans Z3 Kq8.1
  have n28 : o1 ≠ o9 := ne_ge F7.lt g12
  have n29 : o1 ≠ o10 := ne_ge F7.lt g13
  have n30 : o1 ≠ o11 := ne_ge F7.lt g14
  have g31 : n0 ≤ o9 := Nat.le_trans Z3 g12
  have g32 : n0 ≤ o10 := Nat.le_trans Z3 g13
  have g33 : n0 ≤ o11 := Nat.le_trans Z3 g14
  refine g_astore (q := 10) (L' := #[.val (.long k0), .second, .val (.long k1), .second, .val (.long k2), .second, .val (.long k3), .second, .val (.long bd), .second, .val (.int msk), .val (.ref o1), .unset, .unset, .unset, .unset, .unset, .unset, .unset, .unset, .unset, .unset, .unset, .unset, .unset, .unset]) X8.here hx (hb hby at_8) rfl rfl rfl ?_
  refine g_iload (q := 12) X8.here hx (hb hby at_10) rfl rfl ?_
  refine g_iconst (q := 13) (v := (1 : Int32)) X8.here hx (hb hby at_12) rfl rfl ?_
  refine g_iand (q := 14) X8.here hx (hb hby at_13) rfl ?_
  refine g_sel_if_eq (q := 22) X8.here hx (hb hby at_14) (by decide) (by decide) rfl (hb hby at_21) (hb hby at_17) (hb hby at_18) rfl (by decide) (by decide) rfl ?_
  generalize decide ((msk &&& (1 : Int32)).toInt ≠ 0) = q0
  refine g_istore (q := 24) (L' := #[.val (.long k0), .second, .val (.long k1), .second, .val (.long k2), .second, .val (.long k3), .second, .val (.long bd), .second, .val (.int msk), .val (.ref o1), .val (.int (b2i q0)), .unset, .unset, .unset, .unset, .unset, .unset, .unset, .unset, .unset, .unset, .unset, .unset, .unset]) X8.here hx (hb hby at_22) rfl rfl ?_
  refine g_iload (q := 26) X8.here hx (hb hby at_24) rfl rfl ?_
  refine g_iconst (q := 27) (v := (2 : Int32)) X8.here hx (hb hby at_26) rfl rfl ?_
  refine g_iand (q := 28) X8.here hx (hb hby at_27) rfl ?_
  refine g_sel_if_eq (q := 36) X8.here hx (hb hby at_28) (by decide) (by decide) rfl (hb hby at_35) (hb hby at_31) (hb hby at_32) rfl (by decide) (by decide) rfl ?_
  generalize decide ((msk &&& (2 : Int32)).toInt ≠ 0) = q1
  refine g_istore (q := 38) (L' := #[.val (.long k0), .second, .val (.long k1), .second, .val (.long k2), .second, .val (.long k3), .second, .val (.long bd), .second, .val (.int msk), .val (.ref o1), .val (.int (b2i q0)), .val (.int (b2i q1)), .unset, .unset, .unset, .unset, .unset, .unset, .unset, .unset, .unset, .unset, .unset, .unset]) X8.here hx (hb hby at_36) rfl rfl ?_
  refine g_iload (q := 40) X8.here hx (hb hby at_38) rfl rfl ?_
  refine g_iconst (q := 41) (v := (4 : Int32)) X8.here hx (hb hby at_40) rfl rfl ?_
  refine g_iand (q := 42) X8.here hx (hb hby at_41) rfl ?_
  refine g_sel_if_eq (q := 50) X8.here hx (hb hby at_42) (by decide) (by decide) rfl (hb hby at_49) (hb hby at_45) (hb hby at_46) rfl (by decide) (by decide) rfl ?_
  generalize decide ((msk &&& (4 : Int32)).toInt ≠ 0) = q2
  refine g_istore (q := 52) (L' := #[.val (.long k0), .second, .val (.long k1), .second, .val (.long k2), .second, .val (.long k3), .second, .val (.long bd), .second, .val (.int msk), .val (.ref o1), .val (.int (b2i q0)), .val (.int (b2i q1)), .val (.int (b2i q2)), .unset, .unset, .unset, .unset, .unset, .unset, .unset, .unset, .unset, .unset, .unset]) X8.here hx (hb hby at_50) rfl rfl ?_
  refine g_iload (q := 54) X8.here hx (hb hby at_52) rfl rfl ?_
  refine g_bipush (q := 56) (v := (8 : Int32)) X8.here hx (hb hby at_54) rfl rfl ?_
  refine g_iand (q := 57) X8.here hx (hb hby at_56) rfl ?_
  refine g_sel_if_eq (q := 65) X8.here hx (hb hby at_57) (by decide) (by decide) rfl (hb hby at_64) (hb hby at_60) (hb hby at_61) rfl (by decide) (by decide) rfl ?_
  generalize decide ((msk &&& (8 : Int32)).toInt ≠ 0) = q3
  refine g_istore (q := 67) (L' := #[.val (.long k0), .second, .val (.long k1), .second, .val (.long k2), .second, .val (.long k3), .second, .val (.long bd), .second, .val (.int msk), .val (.ref o1), .val (.int (b2i q0)), .val (.int (b2i q1)), .val (.int (b2i q2)), .val (.int (b2i q3)), .unset, .unset, .unset, .unset, .unset, .unset, .unset, .unset, .unset, .unset]) X8.here hx (hb hby at_65) rfl rfl ?_
  refine g_iload (q := 69) X8.here hx (hb hby at_67) rfl rfl ?_
  refine g_bipush (q := 71) (v := (16 : Int32)) X8.here hx (hb hby at_69) rfl rfl ?_
  refine g_iand (q := 72) X8.here hx (hb hby at_71) rfl ?_
  refine g_sel_if_eq (q := 80) X8.here hx (hb hby at_72) (by decide) (by decide) rfl (hb hby at_79) (hb hby at_75) (hb hby at_76) rfl (by decide) (by decide) rfl ?_
  generalize decide ((msk &&& (16 : Int32)).toInt ≠ 0) = rev
  refine g_istore (q := 82) (L' := #[.val (.long k0), .second, .val (.long k1), .second, .val (.long k2), .second, .val (.long k3), .second, .val (.long bd), .second, .val (.int msk), .val (.ref o1), .val (.int (b2i q0)), .val (.int (b2i q1)), .val (.int (b2i q2)), .val (.int (b2i q3)), .val (.int (b2i rev)), .unset, .unset, .unset, .unset, .unset, .unset, .unset, .unset, .unset]) X8.here hx (hb hby at_80) rfl rfl ?_
  have LP190_b34 := LT0_190_rm0 l Z a0 hw k0 k1 k2 k3 bd msk h0 n0 Z0  p e s m below meth c hx hby hml hrt hlk hnm hown hZ o1 o9 o10 o11 n28 n29 n30 n15 n16 n17 g2 g31 g32 g33 q0 q1 q2 q3 rev
  have LP125_b96 := LT0_125_rm0 l Z a0 hw k0 k1 k2 k3 bd msk h0 n0 Z0  p e s m below meth c hx hby hml hrt hlk hnm hown hZ o1 o9 o10 o11 n28 n29 n30 n15 n16 n17 g2 g31 g32 g33 q0 q1 q2 q3 rev
  have LP113_b121 := LT0_113_rm0 l Z a0 hw k0 k1 k2 k3 bd msk h0 n0 Z0  p e s m below meth c hx hby hml hrt hlk hnm hown hZ o1 o9 o10 o11 n28 n29 n30 n15 n16 n17 g2 g31 g32 g33 q0 q1 q2 q3 rev
  have LP100_b146 := LT0_100_rm0 l Z a0 hw k0 k1 k2 k3 bd msk h0 n0 Z0  p e s m below meth c hx hby hml hrt hlk hnm hown hZ o1 o9 o10 o11 n28 n29 n30 n15 n16 n17 g2 g31 g32 g33 q0 q1 q2 q3 rev
  have LP177_b171 := LT0_177_rm0 l Z a0 hw k0 k1 k2 k3 bd msk h0 n0 Z0  p e s m below meth c hx hby hml hrt hlk hnm hown hZ o1 o9 o10 o11 n28 n29 n30 n15 n16 n17 g2 g31 g32 g33 q0 q1 q2 q3 rev
  have LP164_b196 := LT0_164_rm0 l Z a0 hw k0 k1 k2 k3 bd msk h0 n0 Z0  p e s m below meth c hx hby hml hrt hlk hnm hown hZ o1 o9 o10 o11 n28 n29 n30 n15 n16 n17 g2 g31 g32 g33 q0 q1 q2 q3 rev
  have LP152_b221 := LT0_152_rm0 l Z a0 hw k0 k1 k2 k3 bd msk h0 n0 Z0  p e s m below meth c hx hby hml hrt hlk hnm hown hZ o1 o9 o10 o11 n28 n29 n30 n15 n16 n17 g2 g31 g32 g33 q0 q1 q2 q3 rev
  refine g_iload (q := 84) X8.here hx (hb hby at_82) rfl rfl ?_
  refine g_ifB_eq (q := 140) (q0 := 87) X8.here hx (hb hby at_84) (by decide) (by decide) rfl ?_ ?_
  · intro c246
    refine g_iload (q := 142) X8.here hx (hb hby at_140) rfl rfl ?_
    refine g_ifB_eq (q := 152) (q0 := 145) X8.here hx (hb hby at_142) (by decide) (by decide) rfl ?_ ?_
    · intro c247
      exact LP152_b221 _ T8.heap _ [(0 : Int32), (0 : Int32), (0 : Int32), (0 : Int32)] [(-1 : Int32), (-1 : Int32), (-1 : Int32), (-1 : Int32)] [(0 : Int64), (0 : Int64), (0 : Int64), (0 : Int64)] (0 : Int32) X8 rfl N25 Z27 F26 F18 F19 F20 F21 A22 A23 A24 (by rw [c247]; exact (own_inv0 [k0, k1, k2, k3]))
    · intro c247
      refine g_aload (q := 147) X8.here hx (hb hby at_145) rfl rfl rfl ?_
      refine g_iconst (q := 148) (v := (0 : Int32)) X8.here hx (hb hby at_147) rfl rfl ?_
      refine g_lloadN (q := 149) X8.here hx (hb hby at_148) rfl rfl ?_
      refine g_virtual (q := 152) X8 hx hZ hown (hw _ (List.mem_of_getElem? (i := 21) rfl)) (hw _ (List.mem_of_getElem? (i := 22) rfl)) (hw _ (List.mem_of_getElem? (i := 24) rfl)) (hw _ (List.mem_of_getElem? (i := 23) rfl)) (hw _ (List.mem_of_getElem? (i := 2) rfl)) (hw _ (List.mem_of_getElem? (i := 25) rfl)) (by decide) (rm4 l Z a0 hw [] o1 (0 : Int32) k0 T8.heap n0 Z27 o9 o10 o11 [(0 : Int32), (0 : Int32), (0 : Int32), (0 : Int32)] [(-1 : Int32), (-1 : Int32), (-1 : Int32), (-1 : Int32)] [(0 : Int64), (0 : Int64), (0 : Int64), (0 : Int64)] (0 : Int32) [] [k0, k1, k2, k3] 0 F18 F19 F20 F21 A22 A23 A24 F26 n28 n29 n30 n15 n16 n17 g2 g31 g32 g33 rfl (by decide) (own_inv0 [k0, k1, k2, k3]) List.not_mem_nil rfl (Nat.le_trans (Nat.zero_le 0) (by decide))) F26 (argsL := [.int (0 : Int32), .long k0]) (rest := []) pd_7 rfl rfl rfl (hb hby at_149) rfl (by rw [hml]; rfl) rfl (by decide) (W := 0) rfl (by decide) (by decide) (by decide) ?_
      intro v248 T248 Lc248 X248 Q248
      obtain ⟨rfl, Nq248, Kq248, hp249, pl250, ky251, cn252, F253, F254, F255, F256, A257, A258, A259, I260⟩ := Q248
      have N261 := Fr.app N25 Nq248
      have F262 := Exa.keep F26 Kq248
      have Z270 : n0 ≤ T248.heap.size := Nat.le_trans Z27 Kq248.1
      exact LP152_b221 _ T248.heap _ hp249 pl250 ky251 cn252 X248 rfl N261 Z270 F262 F253 F254 F255 F256 A257 A258 A259 (by rw [c247]; exact I260)
  · intro c246
    refine g_iload (q := 89) X8.here hx (hb hby at_87) rfl rfl ?_
    refine g_ifB_eq (q := 100) (q0 := 92) X8.here hx (hb hby at_89) (by decide) (by decide) rfl ?_ ?_
    · intro c271
      exact LP100_b146 _ T8.heap _ [(0 : Int32), (0 : Int32), (0 : Int32), (0 : Int32)] [(-1 : Int32), (-1 : Int32), (-1 : Int32), (-1 : Int32)] [(0 : Int64), (0 : Int64), (0 : Int64), (0 : Int64)] (0 : Int32) X8 rfl N25 Z27 F26 F18 F19 F20 F21 A22 A23 A24 (by rw [c271]; exact (own_inv0 [k0, k1, k2, k3]))
    · intro c271
      refine g_aload (q := 94) X8.here hx (hb hby at_92) rfl rfl rfl ?_
      refine g_iconst (q := 95) (v := (3 : Int32)) X8.here hx (hb hby at_94) rfl rfl ?_
      refine g_lload (q := 97) X8.here hx (hb hby at_95) rfl rfl ?_
      refine g_virtual (q := 100) X8 hx hZ hown (hw _ (List.mem_of_getElem? (i := 21) rfl)) (hw _ (List.mem_of_getElem? (i := 22) rfl)) (hw _ (List.mem_of_getElem? (i := 24) rfl)) (hw _ (List.mem_of_getElem? (i := 23) rfl)) (hw _ (List.mem_of_getElem? (i := 2) rfl)) (hw _ (List.mem_of_getElem? (i := 25) rfl)) (by decide) (rm4 l Z a0 hw [] o1 (3 : Int32) k3 T8.heap n0 Z27 o9 o10 o11 [(0 : Int32), (0 : Int32), (0 : Int32), (0 : Int32)] [(-1 : Int32), (-1 : Int32), (-1 : Int32), (-1 : Int32)] [(0 : Int64), (0 : Int64), (0 : Int64), (0 : Int64)] (0 : Int32) [] [k0, k1, k2, k3] 3 F18 F19 F20 F21 A22 A23 A24 F26 n28 n29 n30 n15 n16 n17 g2 g31 g32 g33 rfl (by decide) (own_inv0 [k0, k1, k2, k3]) List.not_mem_nil rfl (Nat.le_trans (Nat.zero_le 0) (by decide))) F26 (argsL := [.int (3 : Int32), .long k3]) (rest := []) pd_7 rfl rfl rfl (hb hby at_97) rfl (by rw [hml]; rfl) rfl (by decide) (W := 0) rfl (by decide) (by decide) (by decide) ?_
      intro v272 T272 Lc272 X272 Q272
      obtain ⟨rfl, Nq272, Kq272, hp273, pl274, ky275, cn276, F277, F278, F279, F280, A281, A282, A283, I284⟩ := Q272
      have N285 := Fr.app N25 Nq272
      have F286 := Exa.keep F26 Kq272
      have Z294 : n0 ≤ T272.heap.size := Nat.le_trans Z27 Kq272.1
      exact LP100_b146 _ T272.heap _ hp273 pl274 ky275 cn276 X272 rfl N285 Z294 F286 F277 F278 F279 F280 A281 A282 A283 (by rw [c271]; exact I284)
set_option maxRecDepth 65536 in
set_option maxHeartbeats 40000000 in
theorem comes_1 {Post : Tables → Env → Array Value → State → Outcome → State → Prop} (hpost : ∀ tb e args s v u, (limb_1_1.after args s (.returned v) u = true ∧ limb_1_2.after args s (.returned v) u = true ∧ True) → FrameEnd s (.returned v) u (Jvm.fieldLocs frame_1_writes args s ++ Jvm.arrayLocs frame_1_arrays args s ++ Jvm.staticLocs frame_1_statics s) 24 128 → Post tb e args s (.returned v) u) :
    ArmFor flags0 classFile x code maxLocals ret World_1 tables_1 room_1 Calls_1 rest_1 Pre_1 Post := by
  intro l hfl _ _ p e ha hc hk s m args below hf hA hF happ hP
  obtain ⟨hcalls, hrest, hpre⟩ := hP
  obtain ⟨-, -, -, hnamed, -, -, -, hat⟩ := (Spec.applies_iff hf).mp happ
  obtain ⟨hg, hn⟩ := and_e (Cond.before_iff.mp (show (Jvm.Cond.and given_1 narrow_1).before args s = true from hpre))
  obtain ⟨g1, g2⟩ := and_e hg
  obtain ⟨g3, g4⟩ := and_e g2
  obtain ⟨g5, g6⟩ := and_e g4
  obtain ⟨g7, g8⟩ := and_e g6
  obtain ⟨g9, g10⟩ := and_e g8
  obtain ⟨g11, g12⟩ := and_e g10
  obtain ⟨w0, w1, w2, w3, w4, w5, rfl⟩ : ∃ w0 w1 w2 w3 w4 w5 : Value, args = #[w0, w1, w2, w3, w4, w5] := by
    have hs : args.size = 6 := by simpa [Cond.value, given_1] using g1
    obtain ⟨L⟩ := args
    match L, hs with
    | [w0, w1, w2, w3, w4, w5], _ => exact ⟨w0, w1, w2, w3, w4, w5, rfl⟩
  have hw := fun d (hd : d ∈ tables_1) => atoms_spec (ws := Jvm.Cond.code x code maxLocals ret :: tables_1) hat d (List.mem_cons_of_mem _ hd)
  obtain ⟨i0, ei0⟩ := isL_v g3
  obtain rfl : w0 = (.long i0) := Option.some.inj ei0
  obtain ⟨i1, ei1⟩ := isL_v g5
  obtain rfl : w1 = (.long i1) := Option.some.inj ei1
  obtain ⟨i2, ei2⟩ := isL_v g7
  obtain rfl : w2 = (.long i2) := Option.some.inj ei2
  obtain ⟨i3, ei3⟩ := isL_v g9
  obtain rfl : w3 = (.long i3) := Option.some.inj ei3
  obtain ⟨i4, ei4⟩ := isL_v g11
  obtain rfl : w4 = (.long i4) := Option.some.inj ei4
  obtain ⟨i5, ei5⟩ := is_v g12
  obtain rfl : w5 = (.int i5) := Option.some.inj ei5
  obtain ⟨n, o, h1, h2, h3, _, L, rfl, ⟨rfl, N⟩, hq⟩ := rm0 l s _ hw tables_1 i0 i1 i2 i3 i4 i5 s.heap s.heap.size (Nat.le_refl _) p e ha hc hk s m _ below hf ((Spec.applies_iff_loose hf).mp happ).1 ⟨rfl, State.Warmed39.refl s, rfl⟩ trivial
  refine ⟨n, _, h1, h2, h3, hpost _ _ _ _ _ _ ⟨Cond.after_iff.mpr rfl, Cond.after_iff.mpr (eq_i res_at (Term.int_eval (1)) rfl), trivial⟩ ⟨hq.1, hq.2.1, (hq.2.2.sift fun y hy => Or.inr (N y hy)).mono (by decide) (by decide)⟩⟩
theorem main_1_1 : Claimed_1_1 := comes_1 fun _ _ _ _ _ _ h hF => ⟨h.1, hF⟩
theorem main_1_2 : Claimed_1_2 := comes_1 fun _ _ _ _ _ _ h hF => ⟨h.2.1, hF⟩
end Jvm.Pilot.@@N@@
namespace Jvm.Pilot.@@N@@
open Jvm Jvm.ClassFile Sem Op Lib Jvm.Free Jvm.Stand Jvm.Pilot.@@N@@.Jvm.D
/-! MADE BY PROGRAM (witnessworld.py) out of the Statement's table words and the real class files: 12 classes; the members and pool entries that the words name. The judged class is class 1, her method 1. -/
namespace start1
open Jvm.ClassFile
def u (s : String) : CpInfo := .utf8 (stringToUtf16 s)
/-- a pool by its gaps: so many unusable entries, then the entry; so many at the end -/
def gap : Nat → List CpInfo → List CpInfo
  | 0, r => r
  | n + 1, r => .unusable :: gap n r
def poolList (es : List (Nat × CpInfo)) (last : Nat) : List CpInfo := es.foldr (fun e r => gap e.1 (e.2 :: r)) (gap last [])
def pool (es : List (Nat × CpInfo)) (last : Nat) : Array CpInfo := ⟨poolList es last⟩
def fileOf (pool : Array CpInfo) (this : Nat) (attrs : Array Attribute := #[]) (ms : Array MethodInfo := #[]) (fl : Nat := 33) (sup : Nat := 0) (ifs : Array Nat := #[]) (fds : Array FieldInfo := #[]) : ClassFile where
  minorVersion := 0
  majorVersion := 65
  constantPool := pool
  accessFlags := fl
  thisClass := this
  superClass := sup
  interfaces := ifs
  fields := fds
  methods := ms
  attributes := attrs
def plain (name : String) (sup : Option ClassId) : Class where
  name := name
  kind := .ordinary
  loader := none
  accessFlags := 33
  super := sup
  interfaces := #[]
  cf := none
  fields := #[]
  methods := #[]
  instanceTypes := #[]
  staticTypes := #[]
  resolved := #[]
  callSites := []
  init := .initialized
  statics := none
  mirror := none

def pool0 : Array CpInfo := pool [(5, u "<init>"), (0, u "()V"), (1, .class_ 10), (1, u "java/lang/Object")] 113

def k0c0 : Code := { maxStack := 0, maxLocals := 1, code := object_method_1_code, exceptionTable := #[], attributes := #[] }
def k0m0 : Method := { name := "<init>", desc := "()V", sig := { parameters := [], returnType := none }, accessFlags := 1, code := some k0c0 }
/-- java/lang/Object -/
def k0 : Class := { plain "java/lang/Object" none with
  accessFlags := 33
  interfaces := #[]
  cf := some (fileOf pool0 8 #[] #[{ accessFlags := 1, nameIndex := 5, descriptorIndex := 6, attributes := #[] }] 33 0 #[] #[])
  fields := #[]
  methods := #[k0m0]
  instanceTypes := #[]
  staticTypes := #[]
  resolved := Array.replicate 124 none
  statics := none }

def pool1 : Array CpInfo := pool [(2, .class_ 4), (1, u "java/lang/Object"), (0, u "<init>"), (0, u "()V"), (0, .class_ 8), (0, u "com/example/hedged_dispatch/hedgeddispatch/stn/NodeQueue"), (0, .methodref 7 10), (0, .nameAndType 5 11), (0, u "(I)V"), (0, .methodref 7 13), (0, .nameAndType 14 15), (0, u "put"), (0, u "(IJ)V"), (0, .methodref 7 17), (0, .nameAndType 18 19), (0, u "isEmpty"), (0, u "()Z"), (0, .methodref 7 21), (0, .nameAndType 22 23), (0, u "peek"), (0, u "()I"), (0, .methodref 7 25), (0, .nameAndType 26 27), (0, u "atMost"), (0, u "(J[I)I"), (0, .methodref 29 30), (0, .class_ 31), (0, .nameAndType 32 33), (0, u "com/example/hedged_dispatch/hedgeddispatch/stn/NodeQueueAtMostPinLaw"), (0, u "has"), (0, u "([III)Z"), (2, u "law"), (0, u "(JJJJJI)Z")] 5

def k1m0 : Method := { name := "<init>", desc := "()V", sig := { parameters := [], returnType := none }, accessFlags := 1, code := none }
def k1c1 : Code := { maxStack := 4, maxLocals := 26, code := code, exceptionTable := #[], attributes := #[] }
def k1m1 : Method := { name := "law", desc := "(JJJJJI)Z", sig := { parameters := [.long, .long, .long, .long, .long, .int], returnType := some .boolean }, accessFlags := 9, code := some k1c1 }
def k1c2 : Code := { maxStack := 2, maxLocals := 3, code := method_3_code, exceptionTable := #[], attributes := #[] }
def k1m2 : Method := { name := "has", desc := "([III)Z", sig := { parameters := [(.array .int), .int, .int], returnType := some .boolean }, accessFlags := 10, code := some k1c2 }
/-- com/example/hedged_dispatch/hedgeddispatch/stn/NodeQueueAtMostPinLaw -/
def k1 : Class := { plain "com/example/hedged_dispatch/hedgeddispatch/stn/NodeQueueAtMostPinLaw" (some 0) with
  accessFlags := 49
  interfaces := #[]
  cf := some (fileOf pool1 29 #[] #[{ accessFlags := 1, nameIndex := 5, descriptorIndex := 6, attributes := #[] }, { accessFlags := 9, nameIndex := 36, descriptorIndex := 37, attributes := #[] }, { accessFlags := 10, nameIndex := 32, descriptorIndex := 33, attributes := #[] }] 49 2 #[] #[])
  fields := #[]
  methods := #[k1m0, k1m1, k1m2]
  instanceTypes := #[]
  staticTypes := #[]
  resolved := Array.replicate 43 none
  statics := none }

def pool2 : Array CpInfo := pool [(1, .methodref 2 3), (0, .class_ 4), (0, .nameAndType 5 6), (0, u "java/lang/Object"), (0, u "<init>"), (0, u "()V"), (0, .fieldref 8 9), (0, .class_ 10), (0, .nameAndType 11 12), (0, u "com/example/hedged_dispatch/hedgeddispatch/stn/NodeQueue"), (0, u "heap"), (0, u "[I"), (0, .fieldref 8 14), (0, .nameAndType 15 12), (0, u "place"), (0, .fieldref 8 17), (0, .nameAndType 18 19), (0, u "key"), (0, u "[J"), (0, .methodref 21 22), (0, .class_ 23), (0, .nameAndType 24 25), (0, u "java/util/Arrays"), (0, u "fill"), (0, u "([II)V"), (0, .fieldref 8 27), (0, .nameAndType 28 29), (0, u "count"), (0, u "I"), (0, .methodref 8 31), (0, .nameAndType 32 33), (0, u "siftUp"), (0, u "(I)V"), (6, .methodref 8 41), (0, .nameAndType 42 43), (0, u "before"), (0, u "(II)Z"), (0, u "ABSENT"), (4, u "isEmpty"), (0, u "()Z"), (2, u "put"), (0, u "(IJ)V"), (0, u "peek"), (0, u "()I"), (1, u "atMost"), (0, u "(J[I)I")] 2

def k2c0 : Code := { maxStack := 2, maxLocals := 2, code := prog_77_method_1_code, exceptionTable := #[], attributes := #[] }
def k2m0 : Method := { name := "<init>", desc := "(I)V", sig := { parameters := [.int], returnType := none }, accessFlags := 1, code := some k2c0 }
def k2c1 : Code := { maxStack := 1, maxLocals := 1, code := prog_77_method_2_code, exceptionTable := #[], attributes := #[] }
def k2m1 : Method := { name := "isEmpty", desc := "()Z", sig := { parameters := [], returnType := some .boolean }, accessFlags := 1, code := some k2c1 }
def k2c2 : Code := { maxStack := 5, maxLocals := 4, code := prog_77_method_4_code, exceptionTable := #[], attributes := #[] }
def k2m2 : Method := { name := "put", desc := "(IJ)V", sig := { parameters := [.int, .long], returnType := none }, accessFlags := 1, code := some k2c2 }
def k2c3 : Code := { maxStack := 2, maxLocals := 1, code := prog_77_method_5_code, exceptionTable := #[], attributes := #[] }
def k2m3 : Method := { name := "peek", desc := "()I", sig := { parameters := [], returnType := some .int }, accessFlags := 1, code := some k2c3 }
def k2c4 : Code := { maxStack := 5, maxLocals := 8, code := prog_77_method_8_code, exceptionTable := #[], attributes := #[] }
def k2m4 : Method := { name := "atMost", desc := "(J[I)I", sig := { parameters := [.long, (.array .int)], returnType := some .int }, accessFlags := 1, code := some k2c4 }
def k2c5 : Code := { maxStack := 3, maxLocals := 5, code := prog_77_method_9_code, exceptionTable := #[], attributes := #[] }
def k2m5 : Method := { name := "siftUp", desc := "(I)V", sig := { parameters := [.int], returnType := none }, accessFlags := 2, code := some k2c5 }
def k2c6 : Code := { maxStack := 4, maxLocals := 3, code := prog_77_method_11_code, exceptionTable := #[], attributes := #[] }
def k2m6 : Method := { name := "before", desc := "(II)Z", sig := { parameters := [.int, .int], returnType := some .boolean }, accessFlags := 2, code := some k2c6 }
/-- com/example/hedged_dispatch/hedgeddispatch/stn/NodeQueue -/
def k2 : Class := { plain "com/example/hedged_dispatch/hedgeddispatch/stn/NodeQueue" (some 0) with
  accessFlags := 49
  interfaces := #[]
  cf := some (fileOf pool2 8 #[] #[{ accessFlags := 1, nameIndex := 5, descriptorIndex := 33, attributes := #[] }, { accessFlags := 1, nameIndex := 49, descriptorIndex := 50, attributes := #[] }, { accessFlags := 1, nameIndex := 53, descriptorIndex := 54, attributes := #[] }, { accessFlags := 1, nameIndex := 55, descriptorIndex := 56, attributes := #[] }, { accessFlags := 1, nameIndex := 58, descriptorIndex := 59, attributes := #[] }, { accessFlags := 2, nameIndex := 32, descriptorIndex := 33, attributes := #[] }, { accessFlags := 2, nameIndex := 42, descriptorIndex := 43, attributes := #[] }] 49 2 #[] #[{ accessFlags := 26, nameIndex := 44, descriptorIndex := 29, attributes := #[] }, { accessFlags := 18, nameIndex := 11, descriptorIndex := 12, attributes := #[] }, { accessFlags := 18, nameIndex := 15, descriptorIndex := 12, attributes := #[] }, { accessFlags := 18, nameIndex := 18, descriptorIndex := 19, attributes := #[] }, { accessFlags := 2, nameIndex := 28, descriptorIndex := 29, attributes := #[] }])
  fields := #[{ name := "ABSENT", type := .int, accessFlags := 26, slot := 0, constantValue := 0 }, { name := "heap", type := (.array .int), accessFlags := 18, slot := 0, constantValue := 0 }, { name := "place", type := (.array .int), accessFlags := 18, slot := 1, constantValue := 0 }, { name := "key", type := (.array .long), accessFlags := 18, slot := 2, constantValue := 0 }, { name := "count", type := .int, accessFlags := 2, slot := 3, constantValue := 0 }]
  methods := #[k2m0, k2m1, k2m2, k2m3, k2m4, k2m5, k2m6]
  instanceTypes := #[(.array .int), (.array .int), (.array .long), .int]
  staticTypes := #[.int]
  resolved := Array.replicate 62 none
  statics := none }

def pool3 : Array CpInfo := pool [(2, .class_ 4), (1, u "java/lang/Object"), (0, u "<init>"), (0, u "()V"), (7, .class_ 16), (1, u "java/util/Arrays"), (57, .class_ 76), (1, u "java/util/Arrays$NaturalOrder"), (36, .class_ 115), (1, u "java/util/Arrays$LegacyMergeSort"), (1, u "Z"), (257, .class_ 376), (0, u "java/util/Arrays$ArrayList"), (68, u "$assertionsDisabled"), (269, u "MIN_ARRAY_SORT_GRAN"), (0, u "I"), (2, u "INSERTIONSORT_THRESHOLD"), (120, u "fill"), (4, u "([II)V"), (129, .class_ 976), (0, u "java/util/Arrays$ArrayItr")] 52

def k3m0 : Method := { name := "<init>", desc := "()V", sig := { parameters := [], returnType := none }, accessFlags := 2, code := none }
def k3c1 : Code := { maxStack := 3, maxLocals := 4, code := jdk_65_method_103_code, exceptionTable := #[], attributes := #[] }
def k3m1 : Method := { name := "fill", desc := "([II)V", sig := { parameters := [(.array .int), .int], returnType := none }, accessFlags := 9, code := some k3c1 }
/-- java/util/Arrays -/
def k3 : Class := { plain "java/util/Arrays" (some 0) with
  accessFlags := 49
  interfaces := #[]
  cf := some (fileOf pool3 14 #[.nestMembers #[975, 375, 113, 74]] #[{ accessFlags := 2, nameIndex := 5, descriptorIndex := 6, attributes := #[] }, { accessFlags := 9, nameIndex := 840, descriptorIndex := 845, attributes := #[] }] 49 2 #[] #[{ accessFlags := 26, nameIndex := 715, descriptorIndex := 716, attributes := #[] }, { accessFlags := 26, nameIndex := 719, descriptorIndex := 716, attributes := #[] }, { accessFlags := 4120, nameIndex := 445, descriptorIndex := 117, attributes := #[] }])
  fields := #[{ name := "MIN_ARRAY_SORT_GRAN", type := .int, accessFlags := 26, slot := 0, constantValue := 0 }, { name := "INSERTIONSORT_THRESHOLD", type := .int, accessFlags := 26, slot := 1, constantValue := 0 }, { name := "$assertionsDisabled", type := .boolean, accessFlags := 4120, slot := 2, constantValue := 0 }]
  methods := #[k3m0, k3m1]
  instanceTypes := #[]
  staticTypes := #[.int, .int, .boolean]
  resolved := Array.replicate 1029 none
  statics := none }

def pool4 : Array CpInfo := pool [(1, u "java/lang/Cloneable"), (0, .class_ 1), (0, u "java/lang/Object"), (0, .class_ 3)] 3

/-- java/lang/Cloneable -/
def k4 : Class := { plain "java/lang/Cloneable" (some 0) with
  accessFlags := 1537
  interfaces := #[]
  cf := some (fileOf pool4 2 #[] #[] 1537 4 #[] #[])
  fields := #[]
  methods := #[]
  instanceTypes := #[]
  staticTypes := #[]
  resolved := Array.replicate 8 none
  statics := none }

def pool5 : Array CpInfo := pool [(1, u "java/io/Serializable"), (0, .class_ 1), (0, u "java/lang/Object"), (0, .class_ 3)] 3

/-- java/io/Serializable -/
def k5 : Class := { plain "java/io/Serializable" (some 0) with
  accessFlags := 1537
  interfaces := #[]
  cf := some (fileOf pool5 2 #[] #[] 1537 4 #[] #[])
  fields := #[]
  methods := #[]
  instanceTypes := #[]
  staticTypes := #[]
  resolved := Array.replicate 8 none
  statics := none }

/-- the primitive byte -/
def k6 : Class := { plain "byte" none with kind := .primitive 'B', accessFlags := 0x411 }
/-- [B -/
def k7 : Class := { plain "[B" (some 0) with kind := .array 6 .byte, interfaces := #[4, 5], accessFlags := 1041 }

/-- the primitive int -/
def k8 : Class := { plain "int" none with kind := .primitive 'I', accessFlags := 0x411 }
/-- [I -/
def k9 : Class := { plain "[I" (some 0) with kind := .array 8 .int, interfaces := #[4, 5], accessFlags := 1041 }

/-- the primitive long -/
def k10 : Class := { plain "long" none with kind := .primitive 'J', accessFlags := 0x411 }
/-- [J -/
def k11 : Class := { plain "[J" (some 0) with kind := .array 10 .long, interfaces := #[4, 5], accessFlags := 1041 }

def heap : Heap := #[]
def classes : Array Class := #[k0, k1, k2, k3, k4, k5, k6, k7, k8, k9, k10, k11]
def interned : List (Array UInt16 × Addr) := []
def slotsUsed : Nat := 0
def theMethod : MethodId := ⟨1, 1⟩
def args0 : Array Value := #[.long 5, .long 6, .long 7, .long 8, .long 9, .int 10]
def aboutOver (below : List Frame) : State where
  vm := { classes := classes, interned := interned.toArray }
  heap := heap
  slotsUsed := slotsUsed
  threads := #[{ frames := .invoking theMethod args0 :: below }]
def below0 : List Frame := [.native { method := ⟨0, 0⟩, args := #[] }]
def about1 : State := aboutOver below0
def p0 : Program := .bare "" "" ""
def e0 : Env := launch0.env 0 0 0
theorem w_frames : about1.frames = Frame.invoking theMethod args0 :: below0 := rfl
set_option maxRecDepth 65536 in
theorem w_args : argsFit about1.vm theMethod args0 = true := by decide +kernel
set_option maxRecDepth 65536 in
theorem w_heap : heapFits about1 = true := by decide +kernel
set_option maxRecDepth 65536 in
theorem w_runnable : about1.curStatus? = some .runnable := by decide +kernel
set_option maxRecDepth 65536 in
theorem w_alone : about1.alone = true := by decide +kernel
set_option maxRecDepth 65536 in
theorem w_named : about1.methodNamed? x = some theMethod := by decide +kernel
set_option maxRecDepth 65536 in
theorem w_hears : about1.hears theMethod below0 = true := by decide +kernel
set_option maxRecDepth 65536 in
theorem w_ripe : about1.ripe theMethod args0 below0 = true := by decide +kernel
theorem w_running : about1.status = .running := rfl
set_option maxRecDepth 65536 in
theorem w_room : about1.hasRoom e0.platform room_1 = true :=
  launch0.hasRoom_least _ room_1 (by decide +kernel) (by decide +kernel) (by decide +kernel) (by decide +kernel) (by decide +kernel) (by decide +kernel)
theorem allAtoms_all (ts : List Jvm.Cond) (a : Array Jvm.Value) (st : Jvm.State) : (allAtoms ts).before a st = ts.all (fun c => c.before a st) := by
  induction ts with
  | nil => rfl
  | cons c t ih =>
    show (Jvm.Cond.and c (allAtoms t)).before a st = _
    rw [Jvm.Cond.before_and, ih, List.all_cons]
def words1 : List Jvm.Cond := Jvm.Cond.code x code maxLocals ret :: tables_1
/-- a 'code' word, met by the world's own term for the bytes: nothing is compared byte by byte -/
theorem code_word {y : MethodName} {bytes : ByteArray} {mx : Nat} {rt : Option FieldType} {a : Array Value} {s : State} {m : MethodId} {meth : Method} {c : Code} (h1 : s.methodNamed? y = some m) (h2 : s.vm.method? m = some meth) (h3 : meth.code = some c) (h4 : c.code = bytes)
    (h5 : (c.maxLocals == mx && c.exceptionTable.isEmpty && decide (c.maxStack ≤ mostOperands) && decide (meth.sig.returnType = rt) && !meth.locks && decide (parseMethodDescriptor y.desc = some meth.sig)) = true) : (Jvm.Cond.code y bytes mx rt).before a s = true := by
  simp only [Bool.and_eq_true, beq_iff_eq, Bool.not_eq_true', decide_eq_true_eq] at h5
  obtain ⟨⟨⟨⟨⟨g1, g2⟩, g3⟩, g4⟩, g5⟩, g6⟩ := h5
  simp [Cond.before, Cond.holds, Cond.value, h1, h2, h3, h4, g1, g2, g3, g4, g5, g6]
def isCode : Jvm.Cond → Bool
  | .code _ _ _ _ => true
  | _ => false
theorem all_split {L : List Jvm.Cond} {P : Jvm.Cond → Bool} (h1 : L.all (fun c => isCode c || P c) = true) (h2 : ∀ c ∈ L.filter isCode, P c = true) : L.all P = true := by
  refine List.all_eq_true.mpr fun c hc => ?_
  have h := List.all_eq_true.mp h1 c hc
  rcases Bool.eq_false_or_eq_true (isCode c) with hi | hi
  · exact h2 c (List.mem_filter.mpr ⟨hc, hi⟩)
  · simpa [hi] using h
set_option maxRecDepth 65536 in
theorem w_c0 : (Jvm.Cond.code x code maxLocals ret).before args0 about1 = true := code_word (m := ⟨1, 1⟩) (meth := k1m1) (c := k1c1) (by decide +kernel) rfl rfl rfl (by decide +kernel)
set_option maxRecDepth 65536 in
theorem w_c1 : (Jvm.Cond.code ({ cls := "com/example/hedged_dispatch/hedgeddispatch/stn/NodeQueue", name := "<init>", desc := "(I)V" } : Jvm.MethodName) prog_77_method_1_code (2 : Nat) (Option.none : Option Jvm.ClassFile.FieldType)).before args0 about1 = true := code_word (m := ⟨2, 0⟩) (meth := k2m0) (c := k2c0) (by decide +kernel) rfl rfl rfl (by decide +kernel)
set_option maxRecDepth 65536 in
theorem w_c2 : (Jvm.Cond.code ({ cls := "java/lang/Object", name := "<init>", desc := "()V" } : Jvm.MethodName) object_method_1_code (1 : Nat) (Option.none : Option Jvm.ClassFile.FieldType)).before args0 about1 = true := code_word (m := ⟨0, 0⟩) (meth := k0m0) (c := k0c0) (by decide +kernel) rfl rfl rfl (by decide +kernel)
set_option maxRecDepth 65536 in
theorem w_c3 : (Jvm.Cond.code ({ cls := "java/util/Arrays", name := "fill", desc := "([II)V" } : Jvm.MethodName) jdk_65_method_103_code (4 : Nat) (Option.none : Option Jvm.ClassFile.FieldType)).before args0 about1 = true := code_word (m := ⟨3, 1⟩) (meth := k3m1) (c := k3c1) (by decide +kernel) rfl rfl rfl (by decide +kernel)
set_option maxRecDepth 65536 in
theorem w_c4 : (Jvm.Cond.code ({ cls := "com/example/hedged_dispatch/hedgeddispatch/stn/NodeQueue", name := "put", desc := "(IJ)V" } : Jvm.MethodName) prog_77_method_4_code (4 : Nat) (Option.none : Option Jvm.ClassFile.FieldType)).before args0 about1 = true := code_word (m := ⟨2, 2⟩) (meth := k2m2) (c := k2c2) (by decide +kernel) rfl rfl rfl (by decide +kernel)
set_option maxRecDepth 65536 in
theorem w_c5 : (Jvm.Cond.code ({ cls := "com/example/hedged_dispatch/hedgeddispatch/stn/NodeQueue", name := "siftUp", desc := "(I)V" } : Jvm.MethodName) prog_77_method_9_code (5 : Nat) (Option.none : Option Jvm.ClassFile.FieldType)).before args0 about1 = true := code_word (m := ⟨2, 5⟩) (meth := k2m5) (c := k2c5) (by decide +kernel) rfl rfl rfl (by decide +kernel)
set_option maxRecDepth 65536 in
theorem w_c6 : (Jvm.Cond.code ({ cls := "com/example/hedged_dispatch/hedgeddispatch/stn/NodeQueue", name := "isEmpty", desc := "()Z" } : Jvm.MethodName) prog_77_method_2_code (1 : Nat) (Option.some Jvm.ClassFile.FieldType.boolean)).before args0 about1 = true := code_word (m := ⟨2, 1⟩) (meth := k2m1) (c := k2c1) (by decide +kernel) rfl rfl rfl (by decide +kernel)
set_option maxRecDepth 65536 in
theorem w_c7 : (Jvm.Cond.code ({ cls := "com/example/hedged_dispatch/hedgeddispatch/stn/NodeQueue", name := "peek", desc := "()I" } : Jvm.MethodName) prog_77_method_5_code (1 : Nat) (Option.some Jvm.ClassFile.FieldType.int)).before args0 about1 = true := code_word (m := ⟨2, 3⟩) (meth := k2m3) (c := k2c3) (by decide +kernel) rfl rfl rfl (by decide +kernel)
set_option maxRecDepth 65536 in
theorem w_c8 : (Jvm.Cond.code ({ cls := "com/example/hedged_dispatch/hedgeddispatch/stn/NodeQueue", name := "atMost", desc := "(J[I)I" } : Jvm.MethodName) prog_77_method_8_code (8 : Nat) (Option.some Jvm.ClassFile.FieldType.int)).before args0 about1 = true := code_word (m := ⟨2, 4⟩) (meth := k2m4) (c := k2c4) (by decide +kernel) rfl rfl rfl (by decide +kernel)
set_option maxRecDepth 65536 in
theorem w_c9 : (Jvm.Cond.code ({ cls := "com/example/hedged_dispatch/hedgeddispatch/stn/NodeQueue", name := "before", desc := "(II)Z" } : Jvm.MethodName) prog_77_method_11_code (3 : Nat) (Option.some Jvm.ClassFile.FieldType.boolean)).before args0 about1 = true := code_word (m := ⟨2, 6⟩) (meth := k2m6) (c := k2c6) (by decide +kernel) rfl rfl rfl (by decide +kernel)
set_option maxRecDepth 65536 in
theorem w_c10 : (Jvm.Cond.code ({ cls := "com/example/hedged_dispatch/hedgeddispatch/stn/NodeQueueAtMostPinLaw", name := "has", desc := "([III)Z" } : Jvm.MethodName) method_3_code (3 : Nat) (Option.some Jvm.ClassFile.FieldType.boolean)).before args0 about1 = true := code_word (m := ⟨1, 2⟩) (meth := k1m2) (c := k1c2) (by decide +kernel) rfl rfl rfl (by decide +kernel)
def codes1 : List Jvm.Cond := [Jvm.Cond.code x code maxLocals ret, Jvm.Cond.code ({ cls := "com/example/hedged_dispatch/hedgeddispatch/stn/NodeQueue", name := "<init>", desc := "(I)V" } : Jvm.MethodName) prog_77_method_1_code (2 : Nat) (Option.none : Option Jvm.ClassFile.FieldType), Jvm.Cond.code ({ cls := "java/lang/Object", name := "<init>", desc := "()V" } : Jvm.MethodName) object_method_1_code (1 : Nat) (Option.none : Option Jvm.ClassFile.FieldType), Jvm.Cond.code ({ cls := "java/util/Arrays", name := "fill", desc := "([II)V" } : Jvm.MethodName) jdk_65_method_103_code (4 : Nat) (Option.none : Option Jvm.ClassFile.FieldType), Jvm.Cond.code ({ cls := "com/example/hedged_dispatch/hedgeddispatch/stn/NodeQueue", name := "put", desc := "(IJ)V" } : Jvm.MethodName) prog_77_method_4_code (4 : Nat) (Option.none : Option Jvm.ClassFile.FieldType), Jvm.Cond.code ({ cls := "com/example/hedged_dispatch/hedgeddispatch/stn/NodeQueue", name := "siftUp", desc := "(I)V" } : Jvm.MethodName) prog_77_method_9_code (5 : Nat) (Option.none : Option Jvm.ClassFile.FieldType), Jvm.Cond.code ({ cls := "com/example/hedged_dispatch/hedgeddispatch/stn/NodeQueue", name := "isEmpty", desc := "()Z" } : Jvm.MethodName) prog_77_method_2_code (1 : Nat) (Option.some Jvm.ClassFile.FieldType.boolean), Jvm.Cond.code ({ cls := "com/example/hedged_dispatch/hedgeddispatch/stn/NodeQueue", name := "peek", desc := "()I" } : Jvm.MethodName) prog_77_method_5_code (1 : Nat) (Option.some Jvm.ClassFile.FieldType.int), Jvm.Cond.code ({ cls := "com/example/hedged_dispatch/hedgeddispatch/stn/NodeQueue", name := "atMost", desc := "(J[I)I" } : Jvm.MethodName) prog_77_method_8_code (8 : Nat) (Option.some Jvm.ClassFile.FieldType.int), Jvm.Cond.code ({ cls := "com/example/hedged_dispatch/hedgeddispatch/stn/NodeQueue", name := "before", desc := "(II)Z" } : Jvm.MethodName) prog_77_method_11_code (3 : Nat) (Option.some Jvm.ClassFile.FieldType.boolean), Jvm.Cond.code ({ cls := "com/example/hedged_dispatch/hedgeddispatch/stn/NodeQueueAtMostPinLaw", name := "has", desc := "([III)Z" } : Jvm.MethodName) method_3_code (3 : Nat) (Option.some Jvm.ClassFile.FieldType.boolean)]
set_option maxRecDepth 65536 in
theorem codes_eq : words1.filter isCode = codes1 := rfl
theorem w_codes : ∀ c ∈ words1.filter isCode, c.before args0 about1 = true := by
  rw [codes_eq]
  intro c hc
  simp only [codes1, List.mem_cons, List.not_mem_nil, or_false] at hc
  rcases hc with rfl | rfl | rfl | rfl | rfl | rfl | rfl | rfl | rfl | rfl | rfl
  · exact w_c0
  · exact w_c1
  · exact w_c2
  · exact w_c3
  · exact w_c4
  · exact w_c5
  · exact w_c6
  · exact w_c7
  · exact w_c8
  · exact w_c9
  · exact w_c10
set_option maxRecDepth 65536 in
theorem w_t1 : (words1.take 24).all (fun c => isCode c || c.before args0 about1) = true := by decide +kernel
set_option maxRecDepth 65536 in
theorem w_t2 : ((words1.drop 24).take 24).all (fun c => isCode c || c.before args0 about1) = true := by decide +kernel
set_option maxRecDepth 65536 in
theorem w_t3 : ((words1.drop 24).drop 24).all (fun c => isCode c || c.before args0 about1) = true := by decide +kernel
theorem w_tables : (allAtoms (Jvm.Cond.code x code maxLocals ret :: tables_1)).before args0 about1 = true := by
  rw [allAtoms_all]
  show words1.all (fun c => c.before args0 about1) = true
  refine all_split ?_ w_codes
  rw [← List.take_append_drop 24 words1, List.all_append, w_t1, ← List.take_append_drop 24 (words1.drop 24), List.all_append, w_t2, w_t3]
  rfl
set_option maxRecDepth 65536 in
theorem w_case : (Jvm.Cond.and given_1 narrow_1).before args0 about1 = true := by decide +kernel
theorem w_applies : (headSpec (Jvm.Cond.code x code maxLocals ret :: tables_1) room_1).applies x e0.platform about1 = true :=
  (Spec.applies_iff w_frames).mpr ⟨w_running, w_runnable, w_alone, w_named, w_hears, w_ripe, w_room, w_tables⟩
theorem atStart : AtStart classFile x code maxLocals ret World_1 tables_1 room_1 Calls_1 rest_1 Pre_1 launch0 p0 e0 about1 theMethod args0 below0 :=
  ⟨lists_1, trivial, launch0.admits_env _ _ _, launch0.least_env, fairChoices_fair.cas, fairChoices_fair.clock, w_frames, w_args, w_heap, w_applies, trivial, trivial, w_case⟩
end start1
theorem witness_1 : WitnessClaimed_1 := ⟨start1.p0, start1.e0, start1.about1, start1.theMethod, start1.args0, start1.below0, start1.atStart⟩
end Jvm.Pilot.@@N@@
