import JvmDerived
import JvmDerived.Pilot.@@N@@Statement
import JvmDerived.Pilot.@@N@@Code
set_option linter.unusedVariables false
set_option linter.unusedSimpArgs false
namespace Jvm.Pilot.@@N@@
open Jvm Jvm.ClassFile Sem Op Lib Jvm.Free Jvm.Stand Jvm.LawKit Jvm.RoadKit Bundle Jvm.Pilot.@@N@@.Jvm.D

/-! ### the own kit: a walk's goal in continuation form -/
def Go (p : Program) (e : Env) (below : List Frame) (Φ : Outcome → State → Prop) (U : State) : Prop :=
  ∃ s₂ o, Steps p.tables e below U s₂ ∧ s₂.status = .running ∧ Ended s₂ below o ∧ Φ o s₂
def Fin0 (s : State) (rm : Room) (Q : Option Value → Heap → List Loc → Prop) : Outcome → State → Prop :=
  fun o U' => ∃ v L, o = .returned v ∧ Q v U'.heap L ∧ FrameEnd s o U' L rm.cells rm.slots
abbrev Ctr (l : Launch) (Z : State) (y : MethodName) (bytes : ByteArray) (ml : Nat) (rt : Option FieldType) (rm : Room) (ws : List Jvm.Cond) (as' : Array Value) (h0 : Heap) (Q : Option Value → Heap → List Loc → Prop) : Prop :=
  MetFree l y (head1 (Jvm.Cond.code y bytes ml rt :: ws) rm) (fun a U => a = as' ∧ Z.Warmed39 U.vm ∧ U.heap = h0) (fun _ _ _ _ _ => True) (fun _ U o U' => ∃ v L, o = .returned v ∧ Q v U'.heap L ∧ FrameEnd U o U' L rm.cells rm.slots)
def b2i (b : Bool) : Int32 := if b then 1 else 0
theorem b2i_t : b2i true = 1 := rfl
theorem b2i_f : b2i false = 0 := rfl
theorem b2i_nar (b : Bool) : nar .boolean (b2i b) = b2i b := by cases b <;> rfl
theorem b2i_or (b : Bool) : (b = true ∧ (b2i b).toInt = 1) ∨ (b = false ∧ (b2i b).toInt = 0) := by cases b <;> decide
theorem b2i_dec {P : Prop} [Decidable P] : (P ∧ (b2i (decide P)).toInt = 1) ∨ (¬ P ∧ (b2i (decide P)).toInt = 0) := by
  by_cases h : P
  · exact Or.inl ⟨h, by rw [decide_eq_true h]; rfl⟩
  · exact Or.inr ⟨h, by rw [decide_eq_false h]; rfl⟩
theorem b2i_inj {a b : Bool} : b2i a = b2i b ↔ a = b := by cases a <;> cases b <;> decide
theorem i32e {x y : Int32} : x = y ↔ x.toInt = y.toInt := Int32.toInt_inj.symm
theorem i64e {x y : Int64} : x = y ↔ x.toInt = y.toInt := Int64.toInt_inj.symm
theorem okB {b : Bool} (h : b = true) : some (Value.int (b2i b)) = some (Value.int 1) := by rw [h]; rfl
theorem eqT {P : Prop} [Decidable P] (h : P) : some (Value.int (b2i true)) = some (Value.int (b2i (decide P))) := by rw [decide_eq_true h]
theorem eqF {P : Prop} [Decidable P] (h : ¬ P) : some (Value.int (b2i false)) = some (Value.int (b2i (decide P))) := by rw [decide_eq_false h]
theorem eqD {P Q : Prop} [Decidable P] [Decidable Q] (h : Q ↔ P) : some (Value.int (b2i (decide Q))) = some (Value.int (b2i (decide P))) := by rw [decide_eq_decide.mpr h]
theorem eqB {P : Prop} [Decidable P] {b : Bool} (h : b = true ↔ P) : some (Value.int (b2i b)) = some (Value.int (b2i (decide P))) := by
  rw [show b = decide P from by by_cases q : P <;> simp [q, h] <;> (cases b <;> simp_all)]
/-- what a pure callee leaves that returns an int (a long) of which P is said -/
def IQ (P : Int32 → Prop) (h0 : Heap) : Option Value → Heap → List Loc → Prop := fun v h L => ∃ r, v = some (.int r) ∧ P r ∧ h = h0 ∧ L = []
def JQ (P : Int64 → Prop) (h0 : Heap) : Option Value → Heap → List Loc → Prop := fun v h L => ∃ r, v = some (.long r) ∧ P r ∧ h = h0 ∧ L = []
/-- what a pure callee leaves -/
def PQ (r : Value) (h0 : Heap) : Option Value → Heap → List Loc → Prop := fun v h L => v = some r ∧ h = h0 ∧ L = []
theorem Ctr.of {l : Launch} {Z : State} {y : MethodName} {bytes : ByteArray} {ml : Nat} {rt : Option FieldType} {rm : Room} {ws : List Jvm.Cond} {as' : Array Value} {h0 : Heap} {Q : Option Value → Heap → List Loc → Prop} (hp : plainFor y = true)
    (body : ∀ (p : Program) (e : Env) (s : State) (m : MethodId) (below : List Frame) (meth : Method) (c : Code) (s₁ : State), p.tables.exec = Jvm.exec → c.code = bytes → c.maxLocals = ml → meth.sig.returnType = rt → meth.locks = false → meth.name = y.name → s.vm.findClass y.cls = some m.cls → Z.Warmed39 s.vm → Stand p l e rm s m as' below meth c s₁ [] 0 0 → s₁.heap = h0 →
      Go p e below (Fin0 s rm Q) (s₁.setTop (entryFrame m as' ml))) : Ctr l Z y bytes ml rt rm ws as' h0 Q := by
  refine MetFree.of_bodySF hp hisR ?_
  intro p e s m args below meth c s₁ Bd hml0 hP hK
  obtain ⟨rfl, hZ, hh⟩ := hP
  obtain ⟨s₂, o, g1, g2, g3, v, L, g4, g5, g6⟩ := body p e s m below meth c s₁ Bd.exec Bd.bytes hml0 Bd.returns Bd.notSynchronized (name_of_methodNamed Bd.named Bd.method).1 (findClass_of_methodNamed Bd.named) hZ (Stand.of_body Bd) (by rw [← hh, Bd.state]; rfl)
  exact ⟨s₂, o, g1, g2, g3, v, L, g4, g5, g6⟩
theorem st_one {L L' : Array Slot} {i : Nat} {o : Slot} {v : Value} (h : L[i]? = some o) (ho : One o) (hv : v.category = 1) (hL : L.setIfInBounds i (.val v) = L') : storeLocals L i v = some L' := by
  rw [XS.store1 h ho hv, hL]
section OwnKit
variable {p : Program} {l : Launch} {e : Env} {R : Room} {s : State} {m : MethodId} {args : Array Value} {below : List Frame} {meth : Method} {c : Code} {T : State} {locs : List Loc} {cells slots : Nat} {Z : State} {a0 : Array Value} {h : Heap} {Φ : Outcome → State → Prop} {pc q : Nat} {L : Array Slot} {S : List Value}
theorem Go.by {U U' : State} (h : ∀ t, Steps p.tables e below U' t → Steps p.tables e below U t) (k : Go p e below Φ U') : Go p e below Φ U := by
  obtain ⟨s₂, o, h1, r⟩ := k; exact ⟨s₂, o, h _ h1, r⟩
theorem Go.cast {g g' : JFrame} (q : g = g') (k : Go p e below Φ (T.setTop g')) : Go p e below Φ (T.setTop g) := q ▸ k
theorem g_iloadN (hA : At T m c below) (hx : p.tables.exec = Jvm.exec) {j : Fin 4} {v : Int32} (hd : decode c.code pc = .ok (.iload_n j, 1)) (hl : L[j.val]? = some (.val (.int v))) (hq : pc + 1 = q) (k : Go p e below Φ (T.setTop (mkF m q L (.int v :: S)))) : Go p e below Φ (T.setTop (mkF m pc L S)) := by
  subst hq; exact Go.by (fun _ => XS.iloadN hA hx rfl hd hl) k
theorem g_iload (hA : At T m c below) (hx : p.tables.exec = Jvm.exec) {j : Nat} {v : Int32} (hd : decode c.code pc = .ok (.iload j, 2)) (hl : L[j]? = some (.val (.int v))) (hq : pc + 2 = q) (k : Go p e below Φ (T.setTop (mkF m q L (.int v :: S)))) : Go p e below Φ (T.setTop (mkF m pc L S)) := by
  subst hq; exact Go.by (fun _ => XS.iload hA hx rfl hd hl) k
theorem g_istoreN (hA : At T m c below) (hx : p.tables.exec = Jvm.exec) {j : Fin 4} {v : Int32} {L' : Array Slot} (hd : decode c.code pc = .ok (.istore_n j, 1)) (hl : storeLocals L j.val (.int v) = some L') (hq : pc + 1 = q) (k : Go p e below Φ (T.setTop (mkF m q L' S))) : Go p e below Φ (T.setTop (mkF m pc L (.int v :: S))) := by
  subst hq; exact Go.by (fun _ => XS.istoreN hA hx rfl hd rfl hl) k
theorem g_istore (hA : At T m c below) (hx : p.tables.exec = Jvm.exec) {j : Nat} {v : Int32} {L' : Array Slot} (hd : decode c.code pc = .ok (.istore j, 2)) (hl : storeLocals L j (.int v) = some L') (hq : pc + 2 = q) (k : Go p e below Φ (T.setTop (mkF m q L' S))) : Go p e below Φ (T.setTop (mkF m pc L (.int v :: S))) := by
  subst hq; exact Go.by (fun _ => XS.istore hA hx rfl hd rfl hl) k
theorem g_lloadN (hA : At T m c below) (hx : p.tables.exec = Jvm.exec) {j : Fin 4} {v : Int64} (hd : decode c.code pc = .ok (.lload_n j, 1)) (hl : L[j.val]? = some (.val (.long v))) (hq : pc + 1 = q) (k : Go p e below Φ (T.setTop (mkF m q L (.long v :: S)))) : Go p e below Φ (T.setTop (mkF m pc L S)) := by
  subst hq; exact Go.by (fun _ => XS.lloadN hA hx rfl hd hl) k
theorem g_lload (hA : At T m c below) (hx : p.tables.exec = Jvm.exec) {j : Nat} {v : Int64} (hd : decode c.code pc = .ok (.lload j, 2)) (hl : L[j]? = some (.val (.long v))) (hq : pc + 2 = q) (k : Go p e below Φ (T.setTop (mkF m q L (.long v :: S)))) : Go p e below Φ (T.setTop (mkF m pc L S)) := by
  subst hq; exact Go.by (fun _ => XS.lload hA hx rfl hd hl) k
theorem g_lstoreN (hA : At T m c below) (hx : p.tables.exec = Jvm.exec) {j : Fin 4} {v : Int64} {L' : Array Slot} (hd : decode c.code pc = .ok (.lstore_n j, 1)) (hl : storeLocals L j.val (.long v) = some L') (hq : pc + 1 = q) (k : Go p e below Φ (T.setTop (mkF m q L' S))) : Go p e below Φ (T.setTop (mkF m pc L (.long v :: S))) := by
  subst hq; exact Go.by (fun _ => XS.lstoreN hA hx rfl hd rfl hl) k
theorem g_lstore (hA : At T m c below) (hx : p.tables.exec = Jvm.exec) {j : Nat} {v : Int64} {L' : Array Slot} (hd : decode c.code pc = .ok (.lstore j, 2)) (hl : storeLocals L j (.long v) = some L') (hq : pc + 2 = q) (k : Go p e below Φ (T.setTop (mkF m q L' S))) : Go p e below Φ (T.setTop (mkF m pc L (.long v :: S))) := by
  subst hq; exact Go.by (fun _ => XS.lstore hA hx rfl hd rfl hl) k
theorem g_aloadN (hA : At T m c below) (hx : p.tables.exec = Jvm.exec) {j : Fin 4} {v : Value} (hd : decode c.code pc = .ok (.aload_n j, 1)) (hl : L[j.val]? = some (.val v)) (hv : v.isRef = true) (hq : pc + 1 = q) (k : Go p e below Φ (T.setTop (mkF m q L (v :: S)))) : Go p e below Φ (T.setTop (mkF m pc L S)) := by
  subst hq; exact Go.by (fun _ => XS.aloadN hA hx rfl hd hl hv) k
theorem g_aload (hA : At T m c below) (hx : p.tables.exec = Jvm.exec) {j : Nat} {v : Value} (hd : decode c.code pc = .ok (.aload j, 2)) (hl : L[j]? = some (.val v)) (hv : v.isRef = true) (hq : pc + 2 = q) (k : Go p e below Φ (T.setTop (mkF m q L (v :: S)))) : Go p e below Φ (T.setTop (mkF m pc L S)) := by
  subst hq; exact Go.by (fun _ => XS.aload hA hx rfl hd hl hv) k
theorem g_astoreN (hA : At T m c below) (hx : p.tables.exec = Jvm.exec) {j : Fin 4} {v : Value} {L' : Array Slot} (hd : decode c.code pc = .ok (.astore_n j, 1)) (hv : v.isRef = true) (hl : storeLocals L j.val v = some L') (hq : pc + 1 = q) (k : Go p e below Φ (T.setTop (mkF m q L' S))) : Go p e below Φ (T.setTop (mkF m pc L (v :: S))) := by
  subst hq; exact Go.by (fun _ => XS.astoreN hA hx rfl hd rfl hv hl) k
theorem g_astore (hA : At T m c below) (hx : p.tables.exec = Jvm.exec) {j : Nat} {v : Value} {L' : Array Slot} (hd : decode c.code pc = .ok (.astore j, 2)) (hv : v.isRef = true) (hl : storeLocals L j v = some L') (hq : pc + 2 = q) (k : Go p e below Φ (T.setTop (mkF m q L' S))) : Go p e below Φ (T.setTop (mkF m pc L (v :: S))) := by
  subst hq; exact Go.by (fun _ => XS.astore hA hx rfl hd rfl hv hl) k
theorem g_iconst (hA : At T m c below) (hx : p.tables.exec = Jvm.exec) {i : Int} {v : Int32} (hd : decode c.code pc = .ok (.iconst i, 1)) (hv : Int32.ofInt i = v) (hq : pc + 1 = q) (k : Go p e below Φ (T.setTop (mkF m q L (.int v :: S)))) : Go p e below Φ (T.setTop (mkF m pc L S)) := by
  subst hq hv; exact Go.by (fun _ => XS.iconst hA hx rfl hd) k
theorem g_bipush (hA : At T m c below) (hx : p.tables.exec = Jvm.exec) {i : Int} {v : Int32} (hd : decode c.code pc = .ok (.bipush i, 2)) (hv : (Int8.ofInt i).toInt32 = v) (hq : pc + 2 = q) (k : Go p e below Φ (T.setTop (mkF m q L (.int v :: S)))) : Go p e below Φ (T.setTop (mkF m pc L S)) := by
  subst hq hv; exact Go.by (fun _ => XS.bipush hA hx rfl hd) k
theorem g_sipush (hA : At T m c below) (hx : p.tables.exec = Jvm.exec) {i : Int} {v : Int32} (hd : decode c.code pc = .ok (.sipush i, 3)) (hv : (Int16.ofInt i).toInt32 = v) (hq : pc + 3 = q) (k : Go p e below Φ (T.setTop (mkF m q L (.int v :: S)))) : Go p e below Φ (T.setTop (mkF m pc L S)) := by
  subst hq hv; exact Go.by (fun _ => XS.sipush hA hx rfl hd) k
theorem g_lconst0 (hA : At T m c below) (hx : p.tables.exec = Jvm.exec) (hd : decode c.code pc = .ok (.lconst 0, 1)) (hq : pc + 1 = q) (k : Go p e below Φ (T.setTop (mkF m q L (.long 0 :: S)))) : Go p e below Φ (T.setTop (mkF m pc L S)) := by
  subst hq; exact Go.by (fun _ => XS.lconst hA hx rfl hd) k
theorem g_lconst1 (hA : At T m c below) (hx : p.tables.exec = Jvm.exec) (hd : decode c.code pc = .ok (.lconst 1, 1)) (hq : pc + 1 = q) (k : Go p e below Φ (T.setTop (mkF m q L (.long 1 :: S)))) : Go p e below Φ (T.setTop (mkF m pc L S)) := by
  subst hq; exact Go.by (fun _ => XS.lconst hA hx rfl hd) k
theorem g_aconst_null (hA : At T m c below) (hx : p.tables.exec = Jvm.exec) (hd : decode c.code pc = .ok (.aconst_null, 1)) (hq : pc + 1 = q) (k : Go p e below Φ (T.setTop (mkF m q L (.null :: S)))) : Go p e below Φ (T.setTop (mkF m pc L S)) := by
  subst hq; exact Go.by (fun _ => XS.aconstNull hA hx rfl hd) k
theorem g_iadd (hA : At T m c below) (hx : p.tables.exec = Jvm.exec) {x y : Int32} (hd : decode c.code pc = .ok (.iadd, 1)) (hq : pc + 1 = q) (k : Go p e below Φ (T.setTop (mkF m q L (.int (x + y) :: S)))) : Go p e below Φ (T.setTop (mkF m pc L (.int y :: .int x :: S))) := by
  subst hq; exact Go.by (fun _ => XS.iadd hA hx rfl hd rfl) k
theorem g_isub (hA : At T m c below) (hx : p.tables.exec = Jvm.exec) {x y : Int32} (hd : decode c.code pc = .ok (.isub, 1)) (hq : pc + 1 = q) (k : Go p e below Φ (T.setTop (mkF m q L (.int (x - y) :: S)))) : Go p e below Φ (T.setTop (mkF m pc L (.int y :: .int x :: S))) := by
  subst hq; exact Go.by (fun _ => XS.isub hA hx rfl hd rfl) k
theorem g_imul (hA : At T m c below) (hx : p.tables.exec = Jvm.exec) {x y : Int32} (hd : decode c.code pc = .ok (.imul, 1)) (hq : pc + 1 = q) (k : Go p e below Φ (T.setTop (mkF m q L (.int (x * y) :: S)))) : Go p e below Φ (T.setTop (mkF m pc L (.int y :: .int x :: S))) := by
  subst hq; exact Go.by (fun _ => XS.imul hA hx rfl hd rfl) k
theorem g_iand (hA : At T m c below) (hx : p.tables.exec = Jvm.exec) {x y : Int32} (hd : decode c.code pc = .ok (.iand, 1)) (hq : pc + 1 = q) (k : Go p e below Φ (T.setTop (mkF m q L (.int (x &&& y) :: S)))) : Go p e below Φ (T.setTop (mkF m pc L (.int y :: .int x :: S))) := by
  subst hq; exact Go.by (fun _ => XS.iand hA hx rfl hd rfl) k
theorem g_ior (hA : At T m c below) (hx : p.tables.exec = Jvm.exec) {x y : Int32} (hd : decode c.code pc = .ok (.ior, 1)) (hq : pc + 1 = q) (k : Go p e below Φ (T.setTop (mkF m q L (.int (x ||| y) :: S)))) : Go p e below Φ (T.setTop (mkF m pc L (.int y :: .int x :: S))) := by
  subst hq; exact Go.by (fun _ => XS.ior hA hx rfl hd rfl) k
theorem g_ixor (hA : At T m c below) (hx : p.tables.exec = Jvm.exec) {x y : Int32} (hd : decode c.code pc = .ok (.ixor, 1)) (hq : pc + 1 = q) (k : Go p e below Φ (T.setTop (mkF m q L (.int (x ^^^ y) :: S)))) : Go p e below Φ (T.setTop (mkF m pc L (.int y :: .int x :: S))) := by
  subst hq; exact Go.by (fun _ => XS.ixor hA hx rfl hd rfl) k
theorem g_ishl (hA : At T m c below) (hx : p.tables.exec = Jvm.exec) {x y : Int32} (hd : decode c.code pc = .ok (.ishl, 1)) (hq : pc + 1 = q) (k : Go p e below Φ (T.setTop (mkF m q L (.int (x <<< (y &&& 31)) :: S)))) : Go p e below Φ (T.setTop (mkF m pc L (.int y :: .int x :: S))) := by
  subst hq; exact Go.by (fun _ => XS.ishl hA hx rfl hd rfl) k
theorem g_ishr (hA : At T m c below) (hx : p.tables.exec = Jvm.exec) {x y : Int32} (hd : decode c.code pc = .ok (.ishr, 1)) (hq : pc + 1 = q) (k : Go p e below Φ (T.setTop (mkF m q L (.int (x >>> (y &&& 31)) :: S)))) : Go p e below Φ (T.setTop (mkF m pc L (.int y :: .int x :: S))) := by
  subst hq; exact Go.by (fun _ => XS.ishr hA hx rfl hd rfl) k
theorem g_iushr (hA : At T m c below) (hx : p.tables.exec = Jvm.exec) {x y : Int32} (hd : decode c.code pc = .ok (.iushr, 1)) (hq : pc + 1 = q) (k : Go p e below Φ (T.setTop (mkF m q L (.int ((x.toUInt32 >>> (y &&& 31).toUInt32).toInt32) :: S)))) : Go p e below Φ (T.setTop (mkF m pc L (.int y :: .int x :: S))) := by
  subst hq; exact Go.by (fun _ => XS.iushr hA hx rfl hd rfl) k
theorem g_ladd (hA : At T m c below) (hx : p.tables.exec = Jvm.exec) {x y : Int64} (hd : decode c.code pc = .ok (.ladd, 1)) (hq : pc + 1 = q) (k : Go p e below Φ (T.setTop (mkF m q L (.long (x + y) :: S)))) : Go p e below Φ (T.setTop (mkF m pc L (.long y :: .long x :: S))) := by
  subst hq; exact Go.by (fun _ => XS.ladd hA hx rfl hd rfl) k
theorem g_lsub (hA : At T m c below) (hx : p.tables.exec = Jvm.exec) {x y : Int64} (hd : decode c.code pc = .ok (.lsub, 1)) (hq : pc + 1 = q) (k : Go p e below Φ (T.setTop (mkF m q L (.long (x - y) :: S)))) : Go p e below Φ (T.setTop (mkF m pc L (.long y :: .long x :: S))) := by
  subst hq; exact Go.by (fun _ => XS.lsub hA hx rfl hd rfl) k
theorem g_lmul (hA : At T m c below) (hx : p.tables.exec = Jvm.exec) {x y : Int64} (hd : decode c.code pc = .ok (.lmul, 1)) (hq : pc + 1 = q) (k : Go p e below Φ (T.setTop (mkF m q L (.long (x * y) :: S)))) : Go p e below Φ (T.setTop (mkF m pc L (.long y :: .long x :: S))) := by
  subst hq; exact Go.by (fun _ => XS.lmul hA hx rfl hd rfl) k
theorem g_land (hA : At T m c below) (hx : p.tables.exec = Jvm.exec) {x y : Int64} (hd : decode c.code pc = .ok (.land, 1)) (hq : pc + 1 = q) (k : Go p e below Φ (T.setTop (mkF m q L (.long (x &&& y) :: S)))) : Go p e below Φ (T.setTop (mkF m pc L (.long y :: .long x :: S))) := by
  subst hq; exact Go.by (fun _ => XS.land hA hx rfl hd rfl) k
theorem g_lor (hA : At T m c below) (hx : p.tables.exec = Jvm.exec) {x y : Int64} (hd : decode c.code pc = .ok (.lor, 1)) (hq : pc + 1 = q) (k : Go p e below Φ (T.setTop (mkF m q L (.long (x ||| y) :: S)))) : Go p e below Φ (T.setTop (mkF m pc L (.long y :: .long x :: S))) := by
  subst hq; exact Go.by (fun _ => XS.lor hA hx rfl hd rfl) k
theorem g_lxor (hA : At T m c below) (hx : p.tables.exec = Jvm.exec) {x y : Int64} (hd : decode c.code pc = .ok (.lxor, 1)) (hq : pc + 1 = q) (k : Go p e below Φ (T.setTop (mkF m q L (.long (x ^^^ y) :: S)))) : Go p e below Φ (T.setTop (mkF m pc L (.long y :: .long x :: S))) := by
  subst hq; exact Go.by (fun _ => XS.lxor hA hx rfl hd rfl) k
theorem g_lshl (hA : At T m c below) (hx : p.tables.exec = Jvm.exec) {x : Int64} {y : Int32} (hd : decode c.code pc = .ok (.lshl, 1)) (hq : pc + 1 = q) (k : Go p e below Φ (T.setTop (mkF m q L (.long (x <<< (y &&& 0x3f).toInt64) :: S)))) : Go p e below Φ (T.setTop (mkF m pc L (.int y :: .long x :: S))) := by
  subst hq; exact Go.by (fun _ => XS.lshl hA hx rfl hd rfl) k
theorem g_lshr (hA : At T m c below) (hx : p.tables.exec = Jvm.exec) {x : Int64} {y : Int32} (hd : decode c.code pc = .ok (.lshr, 1)) (hq : pc + 1 = q) (k : Go p e below Φ (T.setTop (mkF m q L (.long (x >>> (y &&& 0x3f).toInt64) :: S)))) : Go p e below Φ (T.setTop (mkF m pc L (.int y :: .long x :: S))) := by
  subst hq; exact Go.by (fun _ => XS.lshr hA hx rfl hd rfl) k
theorem g_lushr (hA : At T m c below) (hx : p.tables.exec = Jvm.exec) {x : Int64} {y : Int32} (hd : decode c.code pc = .ok (.lushr, 1)) (hq : pc + 1 = q) (k : Go p e below Φ (T.setTop (mkF m q L (.long ((x.toUInt64 >>> (y &&& 0x3f).toInt64.toUInt64).toInt64) :: S)))) : Go p e below Φ (T.setTop (mkF m pc L (.int y :: .long x :: S))) := by
  subst hq; exact Go.by (fun _ => XS.lushr hA hx rfl hd rfl) k
theorem g_idiv (hA : At T m c below) (hx : p.tables.exec = Jvm.exec) {x y : Int32} (hd : decode c.code pc = .ok (.idiv, 1)) (hy : y ≠ 0) (hq : pc + 1 = q) (k : Go p e below Φ (T.setTop (mkF m q L (.int (x / y) :: S)))) : Go p e below Φ (T.setTop (mkF m pc L (.int y :: .int x :: S))) := by
  subst hq; exact Go.by (fun _ => XS.idiv hA hx rfl hd rfl hy) k
theorem g_irem (hA : At T m c below) (hx : p.tables.exec = Jvm.exec) {x y : Int32} (hd : decode c.code pc = .ok (.irem, 1)) (hy : y ≠ 0) (hq : pc + 1 = q) (k : Go p e below Φ (T.setTop (mkF m q L (.int (x % y) :: S)))) : Go p e below Φ (T.setTop (mkF m pc L (.int y :: .int x :: S))) := by
  subst hq; exact Go.by (fun _ => fun r => XS.irem hA hx rfl hd rfl hy (by rw [irem_eq_mod x y]; exact r)) k
theorem g_ldiv (hA : At T m c below) (hx : p.tables.exec = Jvm.exec) {x y : Int64} (hd : decode c.code pc = .ok (.ldiv, 1)) (hy : y ≠ 0) (hq : pc + 1 = q) (k : Go p e below Φ (T.setTop (mkF m q L (.long (x / y) :: S)))) : Go p e below Φ (T.setTop (mkF m pc L (.long y :: .long x :: S))) := by
  subst hq; exact Go.by (fun _ => XS.ldiv hA hx rfl hd rfl hy) k
theorem g_lrem (hA : At T m c below) (hx : p.tables.exec = Jvm.exec) {x y : Int64} (hd : decode c.code pc = .ok (.lrem, 1)) (hy : y ≠ 0) (hq : pc + 1 = q) (k : Go p e below Φ (T.setTop (mkF m q L (.long (x % y) :: S)))) : Go p e below Φ (T.setTop (mkF m pc L (.long y :: .long x :: S))) := by
  subst hq; exact Go.by (fun _ => fun r => XS.lrem hA hx rfl hd rfl hy (by rw [lrem_mod x y]; exact r)) k
theorem g_ineg (hA : At T m c below) (hx : p.tables.exec = Jvm.exec) {x : Int32} (hd : decode c.code pc = .ok (.ineg, 1)) (hq : pc + 1 = q) (k : Go p e below Φ (T.setTop (mkF m q L (.int (-x) :: S)))) : Go p e below Φ (T.setTop (mkF m pc L (.int x :: S))) := by
  subst hq; exact Go.by (fun _ => XS.ineg hA hx rfl hd rfl) k
theorem g_i2l (hA : At T m c below) (hx : p.tables.exec = Jvm.exec) {x : Int32} (hd : decode c.code pc = .ok (.i2l, 1)) (hq : pc + 1 = q) (k : Go p e below Φ (T.setTop (mkF m q L (.long x.toInt64 :: S)))) : Go p e below Φ (T.setTop (mkF m pc L (.int x :: S))) := by
  subst hq; exact Go.by (fun _ => XS.i2l hA hx rfl hd rfl) k
theorem g_l2i (hA : At T m c below) (hx : p.tables.exec = Jvm.exec) {x : Int64} (hd : decode c.code pc = .ok (.l2i, 1)) (hq : pc + 1 = q) (k : Go p e below Φ (T.setTop (mkF m q L (.int x.toInt32 :: S)))) : Go p e below Φ (T.setTop (mkF m pc L (.long x :: S))) := by
  subst hq; exact Go.by (fun _ => XS.l2i hA hx rfl hd rfl) k
theorem g_i2c (hA : At T m c below) (hx : p.tables.exec = Jvm.exec) {x : Int32} (hd : decode c.code pc = .ok (.i2c, 1)) (hq : pc + 1 = q) (k : Go p e below Φ (T.setTop (mkF m q L (.int x.toUInt32.toUInt16.toUInt32.toInt32 :: S)))) : Go p e below Φ (T.setTop (mkF m pc L (.int x :: S))) := by
  subst hq; exact Go.by (fun _ => XS.i2c hA hx rfl hd rfl) k
theorem g_lcmp (hA : At T m c below) (hx : p.tables.exec = Jvm.exec) {x y : Int64} (hd : decode c.code pc = .ok (.lcmp, 1)) (hq : pc + 1 = q) (k : Go p e below Φ (T.setTop (mkF m q L (.int (lcmpW x y) :: S)))) : Go p e below Φ (T.setTop (mkF m pc L (.long y :: .long x :: S))) := by
  subst hq; exact Go.by (fun _ => XS.lcmp hA hx rfl hd rfl) k
theorem g_iinc (hA : At T m c below) (hx : p.tables.exec = Jvm.exec) {j : Nat} {i : Int} {x v : Int32} {L' : Array Slot} (hd : decode c.code pc = .ok (.iinc j i, 3)) (hl : L[j]? = some (.val (.int x))) (hv : x + Int32.ofInt i = v) (hl' : storeLocals L j (.int v) = some L') (hq : pc + 3 = q) (k : Go p e below Φ (T.setTop (mkF m q L' S))) : Go p e below Φ (T.setTop (mkF m pc L S)) := by
  subst hq; exact Go.by (fun _ => XS.iinc hA hx rfl hd hl (by rw [hv]; exact hl')) k
theorem g_dup (hA : At T m c below) (hx : p.tables.exec = Jvm.exec) {v : Value} (hd : decode c.code pc = .ok (.dup, 1)) (hv : v.category = 1) (hq : pc + 1 = q) (k : Go p e below Φ (T.setTop (mkF m q L (v :: v :: S)))) : Go p e below Φ (T.setTop (mkF m pc L (v :: S))) := by
  subst hq; exact Go.by (fun _ => XS.dup hA hx rfl hd rfl hv) k
theorem g_pop (hA : At T m c below) (hx : p.tables.exec = Jvm.exec) {v : Value} (hd : decode c.code pc = .ok (.pop, 1)) (hv : v.category = 1) (hq : pc + 1 = q) (k : Go p e below Φ (T.setTop (mkF m q L S))) : Go p e below Φ (T.setTop (mkF m pc L (v :: S))) := by
  subst hq; exact Go.by (fun _ => XS.pop hA hx rfl hd rfl hv) k
theorem g_dupX1 (hA : At T m c below) (hx : p.tables.exec = Jvm.exec) {v w : Value} (hd : decode c.code pc = .ok (.dup_x1, 1)) (hv : v.category = 1) (hw' : w.category = 1) (hq : pc + 1 = q) (k : Go p e below Φ (T.setTop (mkF m q L (v :: w :: v :: S)))) : Go p e below Φ (T.setTop (mkF m pc L (v :: w :: S))) := by
  subst hq; exact Go.by (fun _ => XS.dupX1 hA hx rfl hd rfl hv hw') k
theorem g_dup2 (hA : At T m c below) (hx : p.tables.exec = Jvm.exec) {v w : Value} (hd : decode c.code pc = .ok (.dup2, 1)) (hv : v.category = 1) (hw' : w.category = 1) (hq : pc + 1 = q) (k : Go p e below Φ (T.setTop (mkF m q L (v :: w :: v :: w :: S)))) : Go p e below Φ (T.setTop (mkF m pc L (v :: w :: S))) := by
  subst hq; exact Go.by (fun _ => Jvm.Free.XT.dup2 hA hx rfl hd rfl hv hw') k
theorem g_goto (hA : At T m c below) (hx : p.tables.exec = Jvm.exec) {o : Int} (hd : decode c.code pc = .ok (.goto o, 3)) (ho : 0 ≤ (pc : Int) + o) (hq : ((pc : Int) + o).toNat = q) (k : Go p e below Φ (T.setTop (mkF m q L S))) : Go p e below Φ (T.setTop (mkF m pc L S)) := Go.by (fun _ => XS.goto hA hx rfl rfl hd ho hq) k
theorem g_icmp (hA : At T m c below) (hx : p.tables.exec = Jvm.exec) {cd : ClassFile.Cond} {o : Int} {q0 : Nat} {x y : Int32} (hd : decode c.code pc = .ok (.if_icmp cd o, 3)) (ho : 0 ≤ (pc : Int) + o) (hq : ((pc : Int) + o).toNat = q) (hq0 : pc + 3 = q0) (k1 : if_icmp.holds cd x y = true → Go p e below Φ (T.setTop (mkF m q L S))) (k0 : if_icmp.holds cd x y = false → Go p e below Φ (T.setTop (mkF m q0 L S))) : Go p e below Φ (T.setTop (mkF m pc L (.int y :: .int x :: S))) := by
  subst hq0
  cases hb : if_icmp.holds cd x y
  · exact Go.by (fun _ => XS.icmpNo hA hx rfl hd rfl hb) (k0 hb)
  · exact Go.by (fun _ => XS.icmpYes hA hx rfl rfl hd rfl hb ho hq) (k1 hb)
theorem g_if0 (hA : At T m c below) (hx : p.tables.exec = Jvm.exec) {cd : ClassFile.Cond} {o : Int} {q0 : Nat} {x : Int32} (hd : decode c.code pc = .ok (.ifCond cd o, 3)) (ho : 0 ≤ (pc : Int) + o) (hq : ((pc : Int) + o).toNat = q) (hq0 : pc + 3 = q0) (k1 : if_icmp.holds cd x 0 = true → Go p e below Φ (T.setTop (mkF m q L S))) (k0 : if_icmp.holds cd x 0 = false → Go p e below Φ (T.setTop (mkF m q0 L S))) : Go p e below Φ (T.setTop (mkF m pc L (.int x :: S))) := by
  subst hq0
  cases hb : if_icmp.holds cd x 0
  · exact Go.by (fun _ => XS.ifNo hA hx rfl hd rfl ((if0 _ _).trans hb)) (k0 hb)
  · exact Go.by (fun _ => XS.ifYes hA hx rfl rfl hd rfl ((if0 _ _).trans hb) ho hq) (k1 hb)
theorem rel_eq {x y : Int32} : (if_icmp.holds .eq x y = true → x.toInt = y.toInt) ∧ (if_icmp.holds .eq x y = false → x.toInt ≠ y.toInt) := by
  constructor <;> intro h <;> simp [if_icmp.holds, Int32.lt_iff_toInt_lt, Int32.le_iff_toInt_le, ← Int32.toInt_inj] at h <;> omega
theorem g_icmp_eq (hA : At T m c below) (hx : p.tables.exec = Jvm.exec) {o : Int} {q0 : Nat} {x y : Int32} (hd : decode c.code pc = .ok (.if_icmp .eq o, 3)) (ho : 0 ≤ (pc : Int) + o) (hq : ((pc : Int) + o).toNat = q) (hq0 : pc + 3 = q0) (k1 : x.toInt = y.toInt → Go p e below Φ (T.setTop (mkF m q L S))) (k0 : x.toInt ≠ y.toInt → Go p e below Φ (T.setTop (mkF m q0 L S))) : Go p e below Φ (T.setTop (mkF m pc L (.int y :: .int x :: S))) := g_icmp hA hx hd ho hq hq0 (fun h => k1 (rel_eq.1 h)) (fun h => k0 (rel_eq.2 h))
theorem g_if_eq (hA : At T m c below) (hx : p.tables.exec = Jvm.exec) {o : Int} {q0 : Nat} {x : Int32} (hd : decode c.code pc = .ok (.ifCond .eq o, 3)) (ho : 0 ≤ (pc : Int) + o) (hq : ((pc : Int) + o).toNat = q) (hq0 : pc + 3 = q0) (k1 : x.toInt = 0 → Go p e below Φ (T.setTop (mkF m q L S))) (k0 : x.toInt ≠ 0 → Go p e below Φ (T.setTop (mkF m q0 L S))) : Go p e below Φ (T.setTop (mkF m pc L (.int x :: S))) := g_if0 hA hx hd ho hq hq0 (fun h => k1 (rel_eq.1 h)) (fun h => k0 (rel_eq.2 h))
theorem rell_eq {x y : Int64} : (if_icmp.holds .eq (lcmpW x y) 0 = true → x.toInt = y.toInt) ∧ (if_icmp.holds .eq (lcmpW x y) 0 = false → x.toInt ≠ y.toInt) := by
  have q := c_lcmp x y
  constructor <;> intro h
  · have h' := (rel_eq (x := lcmpW x y) (y := 0)).1 h; rw [show (0 : Int32).toInt = 0 from rfl] at h'; generalize lcmpW x y = w at *; omega
  · have h' := (rel_eq (x := lcmpW x y) (y := 0)).2 h; rw [show (0 : Int32).toInt = 0 from rfl] at h'; generalize lcmpW x y = w at *; omega
theorem g_lcmp_eq (hA : At T m c below) (hx : p.tables.exec = Jvm.exec) {o : Int} {q1 q0 : Nat} {x y : Int64} (hd : decode c.code pc = .ok (.lcmp, 1)) (hq1 : pc + 1 = q1) (hd' : decode c.code q1 = .ok (.ifCond .eq o, 3)) (ho : 0 ≤ (q1 : Int) + o) (hq : ((q1 : Int) + o).toNat = q) (hq0 : q1 + 3 = q0) (k1 : x.toInt = y.toInt → Go p e below Φ (T.setTop (mkF m q L S))) (k0 : x.toInt ≠ y.toInt → Go p e below Φ (T.setTop (mkF m q0 L S))) : Go p e below Φ (T.setTop (mkF m pc L (.long y :: .long x :: S))) := g_lcmp hA hx hd hq1 (g_if0 hA hx hd' ho hq hq0 (fun h => k1 (rell_eq.1 h)) (fun h => k0 (rell_eq.2 h)))
theorem rel_ne {x y : Int32} : (if_icmp.holds .ne x y = true → x.toInt ≠ y.toInt) ∧ (if_icmp.holds .ne x y = false → x.toInt = y.toInt) := by
  constructor <;> intro h <;> simp [if_icmp.holds, Int32.lt_iff_toInt_lt, Int32.le_iff_toInt_le, ← Int32.toInt_inj] at h <;> omega
theorem g_icmp_ne (hA : At T m c below) (hx : p.tables.exec = Jvm.exec) {o : Int} {q0 : Nat} {x y : Int32} (hd : decode c.code pc = .ok (.if_icmp .ne o, 3)) (ho : 0 ≤ (pc : Int) + o) (hq : ((pc : Int) + o).toNat = q) (hq0 : pc + 3 = q0) (k1 : x.toInt ≠ y.toInt → Go p e below Φ (T.setTop (mkF m q L S))) (k0 : x.toInt = y.toInt → Go p e below Φ (T.setTop (mkF m q0 L S))) : Go p e below Φ (T.setTop (mkF m pc L (.int y :: .int x :: S))) := g_icmp hA hx hd ho hq hq0 (fun h => k1 (rel_ne.1 h)) (fun h => k0 (rel_ne.2 h))
theorem g_if_ne (hA : At T m c below) (hx : p.tables.exec = Jvm.exec) {o : Int} {q0 : Nat} {x : Int32} (hd : decode c.code pc = .ok (.ifCond .ne o, 3)) (ho : 0 ≤ (pc : Int) + o) (hq : ((pc : Int) + o).toNat = q) (hq0 : pc + 3 = q0) (k1 : x.toInt ≠ 0 → Go p e below Φ (T.setTop (mkF m q L S))) (k0 : x.toInt = 0 → Go p e below Φ (T.setTop (mkF m q0 L S))) : Go p e below Φ (T.setTop (mkF m pc L (.int x :: S))) := g_if0 hA hx hd ho hq hq0 (fun h => k1 (rel_ne.1 h)) (fun h => k0 (rel_ne.2 h))
theorem rell_ne {x y : Int64} : (if_icmp.holds .ne (lcmpW x y) 0 = true → x.toInt ≠ y.toInt) ∧ (if_icmp.holds .ne (lcmpW x y) 0 = false → x.toInt = y.toInt) := by
  have q := c_lcmp x y
  constructor <;> intro h
  · have h' := (rel_ne (x := lcmpW x y) (y := 0)).1 h; rw [show (0 : Int32).toInt = 0 from rfl] at h'; generalize lcmpW x y = w at *; omega
  · have h' := (rel_ne (x := lcmpW x y) (y := 0)).2 h; rw [show (0 : Int32).toInt = 0 from rfl] at h'; generalize lcmpW x y = w at *; omega
theorem g_lcmp_ne (hA : At T m c below) (hx : p.tables.exec = Jvm.exec) {o : Int} {q1 q0 : Nat} {x y : Int64} (hd : decode c.code pc = .ok (.lcmp, 1)) (hq1 : pc + 1 = q1) (hd' : decode c.code q1 = .ok (.ifCond .ne o, 3)) (ho : 0 ≤ (q1 : Int) + o) (hq : ((q1 : Int) + o).toNat = q) (hq0 : q1 + 3 = q0) (k1 : x.toInt ≠ y.toInt → Go p e below Φ (T.setTop (mkF m q L S))) (k0 : x.toInt = y.toInt → Go p e below Φ (T.setTop (mkF m q0 L S))) : Go p e below Φ (T.setTop (mkF m pc L (.long y :: .long x :: S))) := g_lcmp hA hx hd hq1 (g_if0 hA hx hd' ho hq hq0 (fun h => k1 (rell_ne.1 h)) (fun h => k0 (rell_ne.2 h)))
theorem rel_lt {x y : Int32} : (if_icmp.holds .lt x y = true → x.toInt < y.toInt) ∧ (if_icmp.holds .lt x y = false → y.toInt ≤ x.toInt) := by
  constructor <;> intro h <;> simp [if_icmp.holds, Int32.lt_iff_toInt_lt, Int32.le_iff_toInt_le, ← Int32.toInt_inj] at h <;> omega
theorem g_icmp_lt (hA : At T m c below) (hx : p.tables.exec = Jvm.exec) {o : Int} {q0 : Nat} {x y : Int32} (hd : decode c.code pc = .ok (.if_icmp .lt o, 3)) (ho : 0 ≤ (pc : Int) + o) (hq : ((pc : Int) + o).toNat = q) (hq0 : pc + 3 = q0) (k1 : x.toInt < y.toInt → Go p e below Φ (T.setTop (mkF m q L S))) (k0 : y.toInt ≤ x.toInt → Go p e below Φ (T.setTop (mkF m q0 L S))) : Go p e below Φ (T.setTop (mkF m pc L (.int y :: .int x :: S))) := g_icmp hA hx hd ho hq hq0 (fun h => k1 (rel_lt.1 h)) (fun h => k0 (rel_lt.2 h))
theorem g_if_lt (hA : At T m c below) (hx : p.tables.exec = Jvm.exec) {o : Int} {q0 : Nat} {x : Int32} (hd : decode c.code pc = .ok (.ifCond .lt o, 3)) (ho : 0 ≤ (pc : Int) + o) (hq : ((pc : Int) + o).toNat = q) (hq0 : pc + 3 = q0) (k1 : x.toInt < 0 → Go p e below Φ (T.setTop (mkF m q L S))) (k0 : 0 ≤ x.toInt → Go p e below Φ (T.setTop (mkF m q0 L S))) : Go p e below Φ (T.setTop (mkF m pc L (.int x :: S))) := g_if0 hA hx hd ho hq hq0 (fun h => k1 (rel_lt.1 h)) (fun h => k0 (rel_lt.2 h))
theorem rell_lt {x y : Int64} : (if_icmp.holds .lt (lcmpW x y) 0 = true → x.toInt < y.toInt) ∧ (if_icmp.holds .lt (lcmpW x y) 0 = false → y.toInt ≤ x.toInt) := by
  have q := c_lcmp x y
  constructor <;> intro h
  · have h' := (rel_lt (x := lcmpW x y) (y := 0)).1 h; rw [show (0 : Int32).toInt = 0 from rfl] at h'; generalize lcmpW x y = w at *; omega
  · have h' := (rel_lt (x := lcmpW x y) (y := 0)).2 h; rw [show (0 : Int32).toInt = 0 from rfl] at h'; generalize lcmpW x y = w at *; omega
theorem g_lcmp_lt (hA : At T m c below) (hx : p.tables.exec = Jvm.exec) {o : Int} {q1 q0 : Nat} {x y : Int64} (hd : decode c.code pc = .ok (.lcmp, 1)) (hq1 : pc + 1 = q1) (hd' : decode c.code q1 = .ok (.ifCond .lt o, 3)) (ho : 0 ≤ (q1 : Int) + o) (hq : ((q1 : Int) + o).toNat = q) (hq0 : q1 + 3 = q0) (k1 : x.toInt < y.toInt → Go p e below Φ (T.setTop (mkF m q L S))) (k0 : y.toInt ≤ x.toInt → Go p e below Φ (T.setTop (mkF m q0 L S))) : Go p e below Φ (T.setTop (mkF m pc L (.long y :: .long x :: S))) := g_lcmp hA hx hd hq1 (g_if0 hA hx hd' ho hq hq0 (fun h => k1 (rell_lt.1 h)) (fun h => k0 (rell_lt.2 h)))
theorem rel_ge {x y : Int32} : (if_icmp.holds .ge x y = true → y.toInt ≤ x.toInt) ∧ (if_icmp.holds .ge x y = false → x.toInt < y.toInt) := by
  constructor <;> intro h <;> simp [if_icmp.holds, Int32.lt_iff_toInt_lt, Int32.le_iff_toInt_le, ← Int32.toInt_inj] at h <;> omega
theorem g_icmp_ge (hA : At T m c below) (hx : p.tables.exec = Jvm.exec) {o : Int} {q0 : Nat} {x y : Int32} (hd : decode c.code pc = .ok (.if_icmp .ge o, 3)) (ho : 0 ≤ (pc : Int) + o) (hq : ((pc : Int) + o).toNat = q) (hq0 : pc + 3 = q0) (k1 : y.toInt ≤ x.toInt → Go p e below Φ (T.setTop (mkF m q L S))) (k0 : x.toInt < y.toInt → Go p e below Φ (T.setTop (mkF m q0 L S))) : Go p e below Φ (T.setTop (mkF m pc L (.int y :: .int x :: S))) := g_icmp hA hx hd ho hq hq0 (fun h => k1 (rel_ge.1 h)) (fun h => k0 (rel_ge.2 h))
theorem g_if_ge (hA : At T m c below) (hx : p.tables.exec = Jvm.exec) {o : Int} {q0 : Nat} {x : Int32} (hd : decode c.code pc = .ok (.ifCond .ge o, 3)) (ho : 0 ≤ (pc : Int) + o) (hq : ((pc : Int) + o).toNat = q) (hq0 : pc + 3 = q0) (k1 : 0 ≤ x.toInt → Go p e below Φ (T.setTop (mkF m q L S))) (k0 : x.toInt < 0 → Go p e below Φ (T.setTop (mkF m q0 L S))) : Go p e below Φ (T.setTop (mkF m pc L (.int x :: S))) := g_if0 hA hx hd ho hq hq0 (fun h => k1 (rel_ge.1 h)) (fun h => k0 (rel_ge.2 h))
theorem rell_ge {x y : Int64} : (if_icmp.holds .ge (lcmpW x y) 0 = true → y.toInt ≤ x.toInt) ∧ (if_icmp.holds .ge (lcmpW x y) 0 = false → x.toInt < y.toInt) := by
  have q := c_lcmp x y
  constructor <;> intro h
  · have h' := (rel_ge (x := lcmpW x y) (y := 0)).1 h; rw [show (0 : Int32).toInt = 0 from rfl] at h'; generalize lcmpW x y = w at *; omega
  · have h' := (rel_ge (x := lcmpW x y) (y := 0)).2 h; rw [show (0 : Int32).toInt = 0 from rfl] at h'; generalize lcmpW x y = w at *; omega
theorem g_lcmp_ge (hA : At T m c below) (hx : p.tables.exec = Jvm.exec) {o : Int} {q1 q0 : Nat} {x y : Int64} (hd : decode c.code pc = .ok (.lcmp, 1)) (hq1 : pc + 1 = q1) (hd' : decode c.code q1 = .ok (.ifCond .ge o, 3)) (ho : 0 ≤ (q1 : Int) + o) (hq : ((q1 : Int) + o).toNat = q) (hq0 : q1 + 3 = q0) (k1 : y.toInt ≤ x.toInt → Go p e below Φ (T.setTop (mkF m q L S))) (k0 : x.toInt < y.toInt → Go p e below Φ (T.setTop (mkF m q0 L S))) : Go p e below Φ (T.setTop (mkF m pc L (.long y :: .long x :: S))) := g_lcmp hA hx hd hq1 (g_if0 hA hx hd' ho hq hq0 (fun h => k1 (rell_ge.1 h)) (fun h => k0 (rell_ge.2 h)))
theorem rel_gt {x y : Int32} : (if_icmp.holds .gt x y = true → y.toInt < x.toInt) ∧ (if_icmp.holds .gt x y = false → x.toInt ≤ y.toInt) := by
  constructor <;> intro h <;> simp [if_icmp.holds, Int32.lt_iff_toInt_lt, Int32.le_iff_toInt_le, ← Int32.toInt_inj] at h <;> omega
theorem g_icmp_gt (hA : At T m c below) (hx : p.tables.exec = Jvm.exec) {o : Int} {q0 : Nat} {x y : Int32} (hd : decode c.code pc = .ok (.if_icmp .gt o, 3)) (ho : 0 ≤ (pc : Int) + o) (hq : ((pc : Int) + o).toNat = q) (hq0 : pc + 3 = q0) (k1 : y.toInt < x.toInt → Go p e below Φ (T.setTop (mkF m q L S))) (k0 : x.toInt ≤ y.toInt → Go p e below Φ (T.setTop (mkF m q0 L S))) : Go p e below Φ (T.setTop (mkF m pc L (.int y :: .int x :: S))) := g_icmp hA hx hd ho hq hq0 (fun h => k1 (rel_gt.1 h)) (fun h => k0 (rel_gt.2 h))
theorem g_if_gt (hA : At T m c below) (hx : p.tables.exec = Jvm.exec) {o : Int} {q0 : Nat} {x : Int32} (hd : decode c.code pc = .ok (.ifCond .gt o, 3)) (ho : 0 ≤ (pc : Int) + o) (hq : ((pc : Int) + o).toNat = q) (hq0 : pc + 3 = q0) (k1 : 0 < x.toInt → Go p e below Φ (T.setTop (mkF m q L S))) (k0 : x.toInt ≤ 0 → Go p e below Φ (T.setTop (mkF m q0 L S))) : Go p e below Φ (T.setTop (mkF m pc L (.int x :: S))) := g_if0 hA hx hd ho hq hq0 (fun h => k1 (rel_gt.1 h)) (fun h => k0 (rel_gt.2 h))
theorem rell_gt {x y : Int64} : (if_icmp.holds .gt (lcmpW x y) 0 = true → y.toInt < x.toInt) ∧ (if_icmp.holds .gt (lcmpW x y) 0 = false → x.toInt ≤ y.toInt) := by
  have q := c_lcmp x y
  constructor <;> intro h
  · have h' := (rel_gt (x := lcmpW x y) (y := 0)).1 h; rw [show (0 : Int32).toInt = 0 from rfl] at h'; generalize lcmpW x y = w at *; omega
  · have h' := (rel_gt (x := lcmpW x y) (y := 0)).2 h; rw [show (0 : Int32).toInt = 0 from rfl] at h'; generalize lcmpW x y = w at *; omega
theorem g_lcmp_gt (hA : At T m c below) (hx : p.tables.exec = Jvm.exec) {o : Int} {q1 q0 : Nat} {x y : Int64} (hd : decode c.code pc = .ok (.lcmp, 1)) (hq1 : pc + 1 = q1) (hd' : decode c.code q1 = .ok (.ifCond .gt o, 3)) (ho : 0 ≤ (q1 : Int) + o) (hq : ((q1 : Int) + o).toNat = q) (hq0 : q1 + 3 = q0) (k1 : y.toInt < x.toInt → Go p e below Φ (T.setTop (mkF m q L S))) (k0 : x.toInt ≤ y.toInt → Go p e below Φ (T.setTop (mkF m q0 L S))) : Go p e below Φ (T.setTop (mkF m pc L (.long y :: .long x :: S))) := g_lcmp hA hx hd hq1 (g_if0 hA hx hd' ho hq hq0 (fun h => k1 (rell_gt.1 h)) (fun h => k0 (rell_gt.2 h)))
theorem rel_le {x y : Int32} : (if_icmp.holds .le x y = true → x.toInt ≤ y.toInt) ∧ (if_icmp.holds .le x y = false → y.toInt < x.toInt) := by
  constructor <;> intro h <;> simp [if_icmp.holds, Int32.lt_iff_toInt_lt, Int32.le_iff_toInt_le, ← Int32.toInt_inj] at h <;> omega
theorem g_icmp_le (hA : At T m c below) (hx : p.tables.exec = Jvm.exec) {o : Int} {q0 : Nat} {x y : Int32} (hd : decode c.code pc = .ok (.if_icmp .le o, 3)) (ho : 0 ≤ (pc : Int) + o) (hq : ((pc : Int) + o).toNat = q) (hq0 : pc + 3 = q0) (k1 : x.toInt ≤ y.toInt → Go p e below Φ (T.setTop (mkF m q L S))) (k0 : y.toInt < x.toInt → Go p e below Φ (T.setTop (mkF m q0 L S))) : Go p e below Φ (T.setTop (mkF m pc L (.int y :: .int x :: S))) := g_icmp hA hx hd ho hq hq0 (fun h => k1 (rel_le.1 h)) (fun h => k0 (rel_le.2 h))
theorem g_if_le (hA : At T m c below) (hx : p.tables.exec = Jvm.exec) {o : Int} {q0 : Nat} {x : Int32} (hd : decode c.code pc = .ok (.ifCond .le o, 3)) (ho : 0 ≤ (pc : Int) + o) (hq : ((pc : Int) + o).toNat = q) (hq0 : pc + 3 = q0) (k1 : x.toInt ≤ 0 → Go p e below Φ (T.setTop (mkF m q L S))) (k0 : 0 < x.toInt → Go p e below Φ (T.setTop (mkF m q0 L S))) : Go p e below Φ (T.setTop (mkF m pc L (.int x :: S))) := g_if0 hA hx hd ho hq hq0 (fun h => k1 (rel_le.1 h)) (fun h => k0 (rel_le.2 h))
theorem rell_le {x y : Int64} : (if_icmp.holds .le (lcmpW x y) 0 = true → x.toInt ≤ y.toInt) ∧ (if_icmp.holds .le (lcmpW x y) 0 = false → y.toInt < x.toInt) := by
  have q := c_lcmp x y
  constructor <;> intro h
  · have h' := (rel_le (x := lcmpW x y) (y := 0)).1 h; rw [show (0 : Int32).toInt = 0 from rfl] at h'; generalize lcmpW x y = w at *; omega
  · have h' := (rel_le (x := lcmpW x y) (y := 0)).2 h; rw [show (0 : Int32).toInt = 0 from rfl] at h'; generalize lcmpW x y = w at *; omega
theorem g_lcmp_le (hA : At T m c below) (hx : p.tables.exec = Jvm.exec) {o : Int} {q1 q0 : Nat} {x y : Int64} (hd : decode c.code pc = .ok (.lcmp, 1)) (hq1 : pc + 1 = q1) (hd' : decode c.code q1 = .ok (.ifCond .le o, 3)) (ho : 0 ≤ (q1 : Int) + o) (hq : ((q1 : Int) + o).toNat = q) (hq0 : q1 + 3 = q0) (k1 : x.toInt ≤ y.toInt → Go p e below Φ (T.setTop (mkF m q L S))) (k0 : y.toInt < x.toInt → Go p e below Φ (T.setTop (mkF m q0 L S))) : Go p e below Φ (T.setTop (mkF m pc L (.long y :: .long x :: S))) := g_lcmp hA hx hd hq1 (g_if0 hA hx hd' ho hq hq0 (fun h => k1 (rell_le.1 h)) (fun h => k0 (rell_le.2 h)))
theorem g_ifB_ne (hA : At T m c below) (hx : p.tables.exec = Jvm.exec) {o : Int} {q0 : Nat} {b : Bool} (hd : decode c.code pc = .ok (.ifCond .ne o, 3)) (ho : 0 ≤ (pc : Int) + o) (hq : ((pc : Int) + o).toNat = q) (hq0 : pc + 3 = q0) (k1 : b = true → Go p e below Φ (T.setTop (mkF m q L S))) (k0 : b = false → Go p e below Φ (T.setTop (mkF m q0 L S))) : Go p e below Φ (T.setTop (mkF m pc L (.int (b2i b) :: S))) := g_if0 hA hx hd ho hq hq0 (fun h => k1 (by cases b <;> first | rfl | exact Bool.noConfusion h)) (fun h => k0 (by cases b <;> first | rfl | exact Bool.noConfusion h))
theorem g_ifB_eq (hA : At T m c below) (hx : p.tables.exec = Jvm.exec) {o : Int} {q0 : Nat} {b : Bool} (hd : decode c.code pc = .ok (.ifCond .eq o, 3)) (ho : 0 ≤ (pc : Int) + o) (hq : ((pc : Int) + o).toNat = q) (hq0 : pc + 3 = q0) (k1 : b = false → Go p e below Φ (T.setTop (mkF m q L S))) (k0 : b = true → Go p e below Φ (T.setTop (mkF m q0 L S))) : Go p e below Φ (T.setTop (mkF m pc L (.int (b2i b) :: S))) := g_if0 hA hx hd ho hq hq0 (fun h => k1 (by cases b <;> first | rfl | exact Bool.noConfusion h)) (fun h => k0 (by cases b <;> first | rfl | exact Bool.noConfusion h))
theorem g_sel_icmp_eq (hA : At T m c below) (hx : p.tables.exec = Jvm.exec) {o o' : Int} {z t t' : Nat} {x y : Int32} (hd : decode c.code pc = .ok (.if_icmp .eq o, 3)) (ho : 0 ≤ (pc : Int) + o) (hz' : ((pc : Int) + o).toNat = z) (ht0 : pc + 3 = t) (hz : decode c.code z = .ok (.iconst 0, 1)) (ht : decode c.code t = .ok (.iconst 1, 1)) (hg : decode c.code t' = .ok (.goto o', 3)) (ht' : t + 1 = t') (hog : 0 ≤ (t' : Int) + o') (hj : ((t' : Int) + o').toNat = q) (hj' : z + 1 = q) (k : Go p e below Φ (T.setTop (mkF m q L (.int (b2i (decide (x.toInt ≠ y.toInt))) :: S)))) : Go p e below Φ (T.setTop (mkF m pc L (.int y :: .int x :: S))) :=
  g_icmp_eq hA hx hd ho hz' ht0 (fun h => g_iconst hA hx hz rfl hj' (by rw [show decide (x.toInt ≠ y.toInt) = false from decide_eq_false (by omega)] at k; exact k)) (fun h => g_iconst hA hx ht rfl ht' (g_goto hA hx hg hog hj (by rw [show decide (x.toInt ≠ y.toInt) = true from decide_eq_true (by omega)] at k; exact k)))
theorem g_sel_icmp_ne (hA : At T m c below) (hx : p.tables.exec = Jvm.exec) {o o' : Int} {z t t' : Nat} {x y : Int32} (hd : decode c.code pc = .ok (.if_icmp .ne o, 3)) (ho : 0 ≤ (pc : Int) + o) (hz' : ((pc : Int) + o).toNat = z) (ht0 : pc + 3 = t) (hz : decode c.code z = .ok (.iconst 0, 1)) (ht : decode c.code t = .ok (.iconst 1, 1)) (hg : decode c.code t' = .ok (.goto o', 3)) (ht' : t + 1 = t') (hog : 0 ≤ (t' : Int) + o') (hj : ((t' : Int) + o').toNat = q) (hj' : z + 1 = q) (k : Go p e below Φ (T.setTop (mkF m q L (.int (b2i (decide (x.toInt = y.toInt))) :: S)))) : Go p e below Φ (T.setTop (mkF m pc L (.int y :: .int x :: S))) :=
  g_icmp_ne hA hx hd ho hz' ht0 (fun h => g_iconst hA hx hz rfl hj' (by rw [show decide (x.toInt = y.toInt) = false from decide_eq_false (by omega)] at k; exact k)) (fun h => g_iconst hA hx ht rfl ht' (g_goto hA hx hg hog hj (by rw [show decide (x.toInt = y.toInt) = true from decide_eq_true (by omega)] at k; exact k)))
theorem g_sel_icmp_lt (hA : At T m c below) (hx : p.tables.exec = Jvm.exec) {o o' : Int} {z t t' : Nat} {x y : Int32} (hd : decode c.code pc = .ok (.if_icmp .lt o, 3)) (ho : 0 ≤ (pc : Int) + o) (hz' : ((pc : Int) + o).toNat = z) (ht0 : pc + 3 = t) (hz : decode c.code z = .ok (.iconst 0, 1)) (ht : decode c.code t = .ok (.iconst 1, 1)) (hg : decode c.code t' = .ok (.goto o', 3)) (ht' : t + 1 = t') (hog : 0 ≤ (t' : Int) + o') (hj : ((t' : Int) + o').toNat = q) (hj' : z + 1 = q) (k : Go p e below Φ (T.setTop (mkF m q L (.int (b2i (decide (y.toInt ≤ x.toInt))) :: S)))) : Go p e below Φ (T.setTop (mkF m pc L (.int y :: .int x :: S))) :=
  g_icmp_lt hA hx hd ho hz' ht0 (fun h => g_iconst hA hx hz rfl hj' (by rw [show decide (y.toInt ≤ x.toInt) = false from decide_eq_false (by omega)] at k; exact k)) (fun h => g_iconst hA hx ht rfl ht' (g_goto hA hx hg hog hj (by rw [show decide (y.toInt ≤ x.toInt) = true from decide_eq_true (by omega)] at k; exact k)))
theorem g_sel_icmp_ge (hA : At T m c below) (hx : p.tables.exec = Jvm.exec) {o o' : Int} {z t t' : Nat} {x y : Int32} (hd : decode c.code pc = .ok (.if_icmp .ge o, 3)) (ho : 0 ≤ (pc : Int) + o) (hz' : ((pc : Int) + o).toNat = z) (ht0 : pc + 3 = t) (hz : decode c.code z = .ok (.iconst 0, 1)) (ht : decode c.code t = .ok (.iconst 1, 1)) (hg : decode c.code t' = .ok (.goto o', 3)) (ht' : t + 1 = t') (hog : 0 ≤ (t' : Int) + o') (hj : ((t' : Int) + o').toNat = q) (hj' : z + 1 = q) (k : Go p e below Φ (T.setTop (mkF m q L (.int (b2i (decide (x.toInt < y.toInt))) :: S)))) : Go p e below Φ (T.setTop (mkF m pc L (.int y :: .int x :: S))) :=
  g_icmp_ge hA hx hd ho hz' ht0 (fun h => g_iconst hA hx hz rfl hj' (by rw [show decide (x.toInt < y.toInt) = false from decide_eq_false (by omega)] at k; exact k)) (fun h => g_iconst hA hx ht rfl ht' (g_goto hA hx hg hog hj (by rw [show decide (x.toInt < y.toInt) = true from decide_eq_true (by omega)] at k; exact k)))
theorem g_sel_icmp_gt (hA : At T m c below) (hx : p.tables.exec = Jvm.exec) {o o' : Int} {z t t' : Nat} {x y : Int32} (hd : decode c.code pc = .ok (.if_icmp .gt o, 3)) (ho : 0 ≤ (pc : Int) + o) (hz' : ((pc : Int) + o).toNat = z) (ht0 : pc + 3 = t) (hz : decode c.code z = .ok (.iconst 0, 1)) (ht : decode c.code t = .ok (.iconst 1, 1)) (hg : decode c.code t' = .ok (.goto o', 3)) (ht' : t + 1 = t') (hog : 0 ≤ (t' : Int) + o') (hj : ((t' : Int) + o').toNat = q) (hj' : z + 1 = q) (k : Go p e below Φ (T.setTop (mkF m q L (.int (b2i (decide (x.toInt ≤ y.toInt))) :: S)))) : Go p e below Φ (T.setTop (mkF m pc L (.int y :: .int x :: S))) :=
  g_icmp_gt hA hx hd ho hz' ht0 (fun h => g_iconst hA hx hz rfl hj' (by rw [show decide (x.toInt ≤ y.toInt) = false from decide_eq_false (by omega)] at k; exact k)) (fun h => g_iconst hA hx ht rfl ht' (g_goto hA hx hg hog hj (by rw [show decide (x.toInt ≤ y.toInt) = true from decide_eq_true (by omega)] at k; exact k)))
theorem g_sel_icmp_le (hA : At T m c below) (hx : p.tables.exec = Jvm.exec) {o o' : Int} {z t t' : Nat} {x y : Int32} (hd : decode c.code pc = .ok (.if_icmp .le o, 3)) (ho : 0 ≤ (pc : Int) + o) (hz' : ((pc : Int) + o).toNat = z) (ht0 : pc + 3 = t) (hz : decode c.code z = .ok (.iconst 0, 1)) (ht : decode c.code t = .ok (.iconst 1, 1)) (hg : decode c.code t' = .ok (.goto o', 3)) (ht' : t + 1 = t') (hog : 0 ≤ (t' : Int) + o') (hj : ((t' : Int) + o').toNat = q) (hj' : z + 1 = q) (k : Go p e below Φ (T.setTop (mkF m q L (.int (b2i (decide (y.toInt < x.toInt))) :: S)))) : Go p e below Φ (T.setTop (mkF m pc L (.int y :: .int x :: S))) :=
  g_icmp_le hA hx hd ho hz' ht0 (fun h => g_iconst hA hx hz rfl hj' (by rw [show decide (y.toInt < x.toInt) = false from decide_eq_false (by omega)] at k; exact k)) (fun h => g_iconst hA hx ht rfl ht' (g_goto hA hx hg hog hj (by rw [show decide (y.toInt < x.toInt) = true from decide_eq_true (by omega)] at k; exact k)))
theorem g_sel_if_eq (hA : At T m c below) (hx : p.tables.exec = Jvm.exec) {o o' : Int} {z t t' : Nat} {x : Int32} (hd : decode c.code pc = .ok (.ifCond .eq o, 3)) (ho : 0 ≤ (pc : Int) + o) (hz' : ((pc : Int) + o).toNat = z) (ht0 : pc + 3 = t) (hz : decode c.code z = .ok (.iconst 0, 1)) (ht : decode c.code t = .ok (.iconst 1, 1)) (hg : decode c.code t' = .ok (.goto o', 3)) (ht' : t + 1 = t') (hog : 0 ≤ (t' : Int) + o') (hj : ((t' : Int) + o').toNat = q) (hj' : z + 1 = q) (k : Go p e below Φ (T.setTop (mkF m q L (.int (b2i (decide (x.toInt ≠ 0))) :: S)))) : Go p e below Φ (T.setTop (mkF m pc L (.int x :: S))) :=
  g_if_eq hA hx hd ho hz' ht0 (fun h => g_iconst hA hx hz rfl hj' (by rw [show decide (x.toInt ≠ 0) = false from decide_eq_false (by omega)] at k; exact k)) (fun h => g_iconst hA hx ht rfl ht' (g_goto hA hx hg hog hj (by rw [show decide (x.toInt ≠ 0) = true from decide_eq_true (by omega)] at k; exact k)))
theorem g_sel_if_ne (hA : At T m c below) (hx : p.tables.exec = Jvm.exec) {o o' : Int} {z t t' : Nat} {x : Int32} (hd : decode c.code pc = .ok (.ifCond .ne o, 3)) (ho : 0 ≤ (pc : Int) + o) (hz' : ((pc : Int) + o).toNat = z) (ht0 : pc + 3 = t) (hz : decode c.code z = .ok (.iconst 0, 1)) (ht : decode c.code t = .ok (.iconst 1, 1)) (hg : decode c.code t' = .ok (.goto o', 3)) (ht' : t + 1 = t') (hog : 0 ≤ (t' : Int) + o') (hj : ((t' : Int) + o').toNat = q) (hj' : z + 1 = q) (k : Go p e below Φ (T.setTop (mkF m q L (.int (b2i (decide (x.toInt = 0))) :: S)))) : Go p e below Φ (T.setTop (mkF m pc L (.int x :: S))) :=
  g_if_ne hA hx hd ho hz' ht0 (fun h => g_iconst hA hx hz rfl hj' (by rw [show decide (x.toInt = 0) = false from decide_eq_false (by omega)] at k; exact k)) (fun h => g_iconst hA hx ht rfl ht' (g_goto hA hx hg hog hj (by rw [show decide (x.toInt = 0) = true from decide_eq_true (by omega)] at k; exact k)))
theorem g_sel_if_lt (hA : At T m c below) (hx : p.tables.exec = Jvm.exec) {o o' : Int} {z t t' : Nat} {x : Int32} (hd : decode c.code pc = .ok (.ifCond .lt o, 3)) (ho : 0 ≤ (pc : Int) + o) (hz' : ((pc : Int) + o).toNat = z) (ht0 : pc + 3 = t) (hz : decode c.code z = .ok (.iconst 0, 1)) (ht : decode c.code t = .ok (.iconst 1, 1)) (hg : decode c.code t' = .ok (.goto o', 3)) (ht' : t + 1 = t') (hog : 0 ≤ (t' : Int) + o') (hj : ((t' : Int) + o').toNat = q) (hj' : z + 1 = q) (k : Go p e below Φ (T.setTop (mkF m q L (.int (b2i (decide (0 ≤ x.toInt))) :: S)))) : Go p e below Φ (T.setTop (mkF m pc L (.int x :: S))) :=
  g_if_lt hA hx hd ho hz' ht0 (fun h => g_iconst hA hx hz rfl hj' (by rw [show decide (0 ≤ x.toInt) = false from decide_eq_false (by omega)] at k; exact k)) (fun h => g_iconst hA hx ht rfl ht' (g_goto hA hx hg hog hj (by rw [show decide (0 ≤ x.toInt) = true from decide_eq_true (by omega)] at k; exact k)))
theorem g_sel_if_ge (hA : At T m c below) (hx : p.tables.exec = Jvm.exec) {o o' : Int} {z t t' : Nat} {x : Int32} (hd : decode c.code pc = .ok (.ifCond .ge o, 3)) (ho : 0 ≤ (pc : Int) + o) (hz' : ((pc : Int) + o).toNat = z) (ht0 : pc + 3 = t) (hz : decode c.code z = .ok (.iconst 0, 1)) (ht : decode c.code t = .ok (.iconst 1, 1)) (hg : decode c.code t' = .ok (.goto o', 3)) (ht' : t + 1 = t') (hog : 0 ≤ (t' : Int) + o') (hj : ((t' : Int) + o').toNat = q) (hj' : z + 1 = q) (k : Go p e below Φ (T.setTop (mkF m q L (.int (b2i (decide (x.toInt < 0))) :: S)))) : Go p e below Φ (T.setTop (mkF m pc L (.int x :: S))) :=
  g_if_ge hA hx hd ho hz' ht0 (fun h => g_iconst hA hx hz rfl hj' (by rw [show decide (x.toInt < 0) = false from decide_eq_false (by omega)] at k; exact k)) (fun h => g_iconst hA hx ht rfl ht' (g_goto hA hx hg hog hj (by rw [show decide (x.toInt < 0) = true from decide_eq_true (by omega)] at k; exact k)))
theorem g_sel_if_gt (hA : At T m c below) (hx : p.tables.exec = Jvm.exec) {o o' : Int} {z t t' : Nat} {x : Int32} (hd : decode c.code pc = .ok (.ifCond .gt o, 3)) (ho : 0 ≤ (pc : Int) + o) (hz' : ((pc : Int) + o).toNat = z) (ht0 : pc + 3 = t) (hz : decode c.code z = .ok (.iconst 0, 1)) (ht : decode c.code t = .ok (.iconst 1, 1)) (hg : decode c.code t' = .ok (.goto o', 3)) (ht' : t + 1 = t') (hog : 0 ≤ (t' : Int) + o') (hj : ((t' : Int) + o').toNat = q) (hj' : z + 1 = q) (k : Go p e below Φ (T.setTop (mkF m q L (.int (b2i (decide (x.toInt ≤ 0))) :: S)))) : Go p e below Φ (T.setTop (mkF m pc L (.int x :: S))) :=
  g_if_gt hA hx hd ho hz' ht0 (fun h => g_iconst hA hx hz rfl hj' (by rw [show decide (x.toInt ≤ 0) = false from decide_eq_false (by omega)] at k; exact k)) (fun h => g_iconst hA hx ht rfl ht' (g_goto hA hx hg hog hj (by rw [show decide (x.toInt ≤ 0) = true from decide_eq_true (by omega)] at k; exact k)))
theorem g_sel_if_le (hA : At T m c below) (hx : p.tables.exec = Jvm.exec) {o o' : Int} {z t t' : Nat} {x : Int32} (hd : decode c.code pc = .ok (.ifCond .le o, 3)) (ho : 0 ≤ (pc : Int) + o) (hz' : ((pc : Int) + o).toNat = z) (ht0 : pc + 3 = t) (hz : decode c.code z = .ok (.iconst 0, 1)) (ht : decode c.code t = .ok (.iconst 1, 1)) (hg : decode c.code t' = .ok (.goto o', 3)) (ht' : t + 1 = t') (hog : 0 ≤ (t' : Int) + o') (hj : ((t' : Int) + o').toNat = q) (hj' : z + 1 = q) (k : Go p e below Φ (T.setTop (mkF m q L (.int (b2i (decide (0 < x.toInt))) :: S)))) : Go p e below Φ (T.setTop (mkF m pc L (.int x :: S))) :=
  g_if_le hA hx hd ho hz' ht0 (fun h => g_iconst hA hx hz rfl hj' (by rw [show decide (0 < x.toInt) = false from decide_eq_false (by omega)] at k; exact k)) (fun h => g_iconst hA hx ht rfl ht' (g_goto hA hx hg hog hj (by rw [show decide (0 < x.toInt) = true from decide_eq_true (by omega)] at k; exact k)))
theorem g_sel_lcmp_eq (hA : At T m c below) (hx : p.tables.exec = Jvm.exec) {o o' : Int} {q1 z t t' : Nat} {x y : Int64} (hd : decode c.code pc = .ok (.lcmp, 1)) (hq1 : pc + 1 = q1) (hd' : decode c.code q1 = .ok (.ifCond .eq o, 3)) (ho : 0 ≤ (q1 : Int) + o) (hz' : ((q1 : Int) + o).toNat = z) (ht0 : q1 + 3 = t) (hz : decode c.code z = .ok (.iconst 0, 1)) (ht : decode c.code t = .ok (.iconst 1, 1)) (hg : decode c.code t' = .ok (.goto o', 3)) (ht' : t + 1 = t') (hog : 0 ≤ (t' : Int) + o') (hj : ((t' : Int) + o').toNat = q) (hj' : z + 1 = q) (k : Go p e below Φ (T.setTop (mkF m q L (.int (b2i (decide (x.toInt ≠ y.toInt))) :: S)))) : Go p e below Φ (T.setTop (mkF m pc L (.long y :: .long x :: S))) :=
  g_lcmp_eq hA hx hd hq1 hd' ho hz' ht0 (fun h => g_iconst hA hx hz rfl hj' (by rw [show decide (x.toInt ≠ y.toInt) = false from decide_eq_false (by omega)] at k; exact k)) (fun h => g_iconst hA hx ht rfl ht' (g_goto hA hx hg hog hj (by rw [show decide (x.toInt ≠ y.toInt) = true from decide_eq_true (by omega)] at k; exact k)))
theorem g_sel_lcmp_ne (hA : At T m c below) (hx : p.tables.exec = Jvm.exec) {o o' : Int} {q1 z t t' : Nat} {x y : Int64} (hd : decode c.code pc = .ok (.lcmp, 1)) (hq1 : pc + 1 = q1) (hd' : decode c.code q1 = .ok (.ifCond .ne o, 3)) (ho : 0 ≤ (q1 : Int) + o) (hz' : ((q1 : Int) + o).toNat = z) (ht0 : q1 + 3 = t) (hz : decode c.code z = .ok (.iconst 0, 1)) (ht : decode c.code t = .ok (.iconst 1, 1)) (hg : decode c.code t' = .ok (.goto o', 3)) (ht' : t + 1 = t') (hog : 0 ≤ (t' : Int) + o') (hj : ((t' : Int) + o').toNat = q) (hj' : z + 1 = q) (k : Go p e below Φ (T.setTop (mkF m q L (.int (b2i (decide (x.toInt = y.toInt))) :: S)))) : Go p e below Φ (T.setTop (mkF m pc L (.long y :: .long x :: S))) :=
  g_lcmp_ne hA hx hd hq1 hd' ho hz' ht0 (fun h => g_iconst hA hx hz rfl hj' (by rw [show decide (x.toInt = y.toInt) = false from decide_eq_false (by omega)] at k; exact k)) (fun h => g_iconst hA hx ht rfl ht' (g_goto hA hx hg hog hj (by rw [show decide (x.toInt = y.toInt) = true from decide_eq_true (by omega)] at k; exact k)))
theorem g_sel_lcmp_lt (hA : At T m c below) (hx : p.tables.exec = Jvm.exec) {o o' : Int} {q1 z t t' : Nat} {x y : Int64} (hd : decode c.code pc = .ok (.lcmp, 1)) (hq1 : pc + 1 = q1) (hd' : decode c.code q1 = .ok (.ifCond .lt o, 3)) (ho : 0 ≤ (q1 : Int) + o) (hz' : ((q1 : Int) + o).toNat = z) (ht0 : q1 + 3 = t) (hz : decode c.code z = .ok (.iconst 0, 1)) (ht : decode c.code t = .ok (.iconst 1, 1)) (hg : decode c.code t' = .ok (.goto o', 3)) (ht' : t + 1 = t') (hog : 0 ≤ (t' : Int) + o') (hj : ((t' : Int) + o').toNat = q) (hj' : z + 1 = q) (k : Go p e below Φ (T.setTop (mkF m q L (.int (b2i (decide (y.toInt ≤ x.toInt))) :: S)))) : Go p e below Φ (T.setTop (mkF m pc L (.long y :: .long x :: S))) :=
  g_lcmp_lt hA hx hd hq1 hd' ho hz' ht0 (fun h => g_iconst hA hx hz rfl hj' (by rw [show decide (y.toInt ≤ x.toInt) = false from decide_eq_false (by omega)] at k; exact k)) (fun h => g_iconst hA hx ht rfl ht' (g_goto hA hx hg hog hj (by rw [show decide (y.toInt ≤ x.toInt) = true from decide_eq_true (by omega)] at k; exact k)))
theorem g_sel_lcmp_ge (hA : At T m c below) (hx : p.tables.exec = Jvm.exec) {o o' : Int} {q1 z t t' : Nat} {x y : Int64} (hd : decode c.code pc = .ok (.lcmp, 1)) (hq1 : pc + 1 = q1) (hd' : decode c.code q1 = .ok (.ifCond .ge o, 3)) (ho : 0 ≤ (q1 : Int) + o) (hz' : ((q1 : Int) + o).toNat = z) (ht0 : q1 + 3 = t) (hz : decode c.code z = .ok (.iconst 0, 1)) (ht : decode c.code t = .ok (.iconst 1, 1)) (hg : decode c.code t' = .ok (.goto o', 3)) (ht' : t + 1 = t') (hog : 0 ≤ (t' : Int) + o') (hj : ((t' : Int) + o').toNat = q) (hj' : z + 1 = q) (k : Go p e below Φ (T.setTop (mkF m q L (.int (b2i (decide (x.toInt < y.toInt))) :: S)))) : Go p e below Φ (T.setTop (mkF m pc L (.long y :: .long x :: S))) :=
  g_lcmp_ge hA hx hd hq1 hd' ho hz' ht0 (fun h => g_iconst hA hx hz rfl hj' (by rw [show decide (x.toInt < y.toInt) = false from decide_eq_false (by omega)] at k; exact k)) (fun h => g_iconst hA hx ht rfl ht' (g_goto hA hx hg hog hj (by rw [show decide (x.toInt < y.toInt) = true from decide_eq_true (by omega)] at k; exact k)))
theorem g_sel_lcmp_gt (hA : At T m c below) (hx : p.tables.exec = Jvm.exec) {o o' : Int} {q1 z t t' : Nat} {x y : Int64} (hd : decode c.code pc = .ok (.lcmp, 1)) (hq1 : pc + 1 = q1) (hd' : decode c.code q1 = .ok (.ifCond .gt o, 3)) (ho : 0 ≤ (q1 : Int) + o) (hz' : ((q1 : Int) + o).toNat = z) (ht0 : q1 + 3 = t) (hz : decode c.code z = .ok (.iconst 0, 1)) (ht : decode c.code t = .ok (.iconst 1, 1)) (hg : decode c.code t' = .ok (.goto o', 3)) (ht' : t + 1 = t') (hog : 0 ≤ (t' : Int) + o') (hj : ((t' : Int) + o').toNat = q) (hj' : z + 1 = q) (k : Go p e below Φ (T.setTop (mkF m q L (.int (b2i (decide (x.toInt ≤ y.toInt))) :: S)))) : Go p e below Φ (T.setTop (mkF m pc L (.long y :: .long x :: S))) :=
  g_lcmp_gt hA hx hd hq1 hd' ho hz' ht0 (fun h => g_iconst hA hx hz rfl hj' (by rw [show decide (x.toInt ≤ y.toInt) = false from decide_eq_false (by omega)] at k; exact k)) (fun h => g_iconst hA hx ht rfl ht' (g_goto hA hx hg hog hj (by rw [show decide (x.toInt ≤ y.toInt) = true from decide_eq_true (by omega)] at k; exact k)))
theorem g_sel_lcmp_le (hA : At T m c below) (hx : p.tables.exec = Jvm.exec) {o o' : Int} {q1 z t t' : Nat} {x y : Int64} (hd : decode c.code pc = .ok (.lcmp, 1)) (hq1 : pc + 1 = q1) (hd' : decode c.code q1 = .ok (.ifCond .le o, 3)) (ho : 0 ≤ (q1 : Int) + o) (hz' : ((q1 : Int) + o).toNat = z) (ht0 : q1 + 3 = t) (hz : decode c.code z = .ok (.iconst 0, 1)) (ht : decode c.code t = .ok (.iconst 1, 1)) (hg : decode c.code t' = .ok (.goto o', 3)) (ht' : t + 1 = t') (hog : 0 ≤ (t' : Int) + o') (hj : ((t' : Int) + o').toNat = q) (hj' : z + 1 = q) (k : Go p e below Φ (T.setTop (mkF m q L (.int (b2i (decide (y.toInt < x.toInt))) :: S)))) : Go p e below Φ (T.setTop (mkF m pc L (.long y :: .long x :: S))) :=
  g_lcmp_le hA hx hd hq1 hd' ho hz' ht0 (fun h => g_iconst hA hx hz rfl hj' (by rw [show decide (y.toInt < x.toInt) = false from decide_eq_false (by omega)] at k; exact k)) (fun h => g_iconst hA hx ht rfl ht' (g_goto hA hx hg hog hj (by rw [show decide (y.toInt < x.toInt) = true from decide_eq_true (by omega)] at k; exact k)))
theorem g_selB_ne (hA : At T m c below) (hx : p.tables.exec = Jvm.exec) {o o' : Int} {z t t' : Nat} {b : Bool} (hd : decode c.code pc = .ok (.ifCond .ne o, 3)) (ho : 0 ≤ (pc : Int) + o) (hz' : ((pc : Int) + o).toNat = z) (ht0 : pc + 3 = t) (hz : decode c.code z = .ok (.iconst 0, 1)) (ht : decode c.code t = .ok (.iconst 1, 1)) (hg : decode c.code t' = .ok (.goto o', 3)) (ht' : t + 1 = t') (hog : 0 ≤ (t' : Int) + o') (hj : ((t' : Int) + o').toNat = q) (hj' : z + 1 = q) (k : Go p e below Φ (T.setTop (mkF m q L (.int (b2i (!b)) :: S)))) : Go p e below Φ (T.setTop (mkF m pc L (.int (b2i b) :: S))) :=
  g_ifB_ne hA hx hd ho hz' ht0 (fun h => g_iconst hA hx hz rfl hj' (by subst h; exact k)) (fun h => g_iconst hA hx ht rfl ht' (g_goto hA hx hg hog hj (by subst h; exact k)))
theorem g_selB_eq (hA : At T m c below) (hx : p.tables.exec = Jvm.exec) {o o' : Int} {z t t' : Nat} {b : Bool} (hd : decode c.code pc = .ok (.ifCond .eq o, 3)) (ho : 0 ≤ (pc : Int) + o) (hz' : ((pc : Int) + o).toNat = z) (ht0 : pc + 3 = t) (hz : decode c.code z = .ok (.iconst 0, 1)) (ht : decode c.code t = .ok (.iconst 1, 1)) (hg : decode c.code t' = .ok (.goto o', 3)) (ht' : t + 1 = t') (hog : 0 ≤ (t' : Int) + o') (hj : ((t' : Int) + o').toNat = q) (hj' : z + 1 = q) (k : Go p e below Φ (T.setTop (mkF m q L (.int (b2i (b)) :: S)))) : Go p e below Φ (T.setTop (mkF m pc L (.int (b2i b) :: S))) :=
  g_ifB_eq hA hx hd ho hz' ht0 (fun h => g_iconst hA hx hz rfl hj' (by subst h; exact k)) (fun h => g_iconst hA hx ht rfl ht' (g_goto hA hx hg hog hj (by subst h; exact k)))
theorem g_selBB_ne (hA : At T m c below) (hx : p.tables.exec = Jvm.exec) {o o' : Int} {z t t' : Nat} {a b : Bool} (hd : decode c.code pc = .ok (.if_icmp .ne o, 3)) (ho : 0 ≤ (pc : Int) + o) (hz' : ((pc : Int) + o).toNat = z) (ht0 : pc + 3 = t) (hz : decode c.code z = .ok (.iconst 0, 1)) (ht : decode c.code t = .ok (.iconst 1, 1)) (hg : decode c.code t' = .ok (.goto o', 3)) (ht' : t + 1 = t') (hog : 0 ≤ (t' : Int) + o') (hj : ((t' : Int) + o').toNat = q) (hj' : z + 1 = q) (k : Go p e below Φ (T.setTop (mkF m q L (.int (b2i (a == b)) :: S)))) : Go p e below Φ (T.setTop (mkF m pc L (.int (b2i b) :: .int (b2i a) :: S))) :=
  g_icmp hA hx hd ho hz' ht0 (fun h => g_iconst hA hx hz rfl hj' (by cases a <;> cases b <;> first | exact k | exact Bool.noConfusion h)) (fun h => g_iconst hA hx ht rfl ht' (g_goto hA hx hg hog hj (by cases a <;> cases b <;> first | exact k | exact Bool.noConfusion h)))
theorem g_selBB_eq (hA : At T m c below) (hx : p.tables.exec = Jvm.exec) {o o' : Int} {z t t' : Nat} {a b : Bool} (hd : decode c.code pc = .ok (.if_icmp .eq o, 3)) (ho : 0 ≤ (pc : Int) + o) (hz' : ((pc : Int) + o).toNat = z) (ht0 : pc + 3 = t) (hz : decode c.code z = .ok (.iconst 0, 1)) (ht : decode c.code t = .ok (.iconst 1, 1)) (hg : decode c.code t' = .ok (.goto o', 3)) (ht' : t + 1 = t') (hog : 0 ≤ (t' : Int) + o') (hj : ((t' : Int) + o').toNat = q) (hj' : z + 1 = q) (k : Go p e below Φ (T.setTop (mkF m q L (.int (b2i (a != b)) :: S)))) : Go p e below Φ (T.setTop (mkF m pc L (.int (b2i b) :: .int (b2i a) :: S))) :=
  g_icmp hA hx hd ho hz' ht0 (fun h => g_iconst hA hx hz rfl hj' (by cases a <;> cases b <;> first | exact k | exact Bool.noConfusion h)) (fun h => g_iconst hA hx ht rfl ht' (g_goto hA hx hg hog hj (by cases a <;> cases b <;> first | exact k | exact Bool.noConfusion h)))
theorem g_ldcI (X : Stand p l e R s m args below meth c T locs cells slots) (hx : p.tables.exec = Jvm.exec) (hZ : Z.Warmed39 s.vm) {own : String} {index : Nat} {v : Int32} (hown : s.vm.findClass own = some m.cls) (w : (Jvm.Cond.constant own index v).before a0 Z = true) (hd : decode c.code pc = .ok (.ldc index, 2)) (hq : pc + 2 = q) (k : Go p e below Φ (T.setTop (mkF m q L (.int v :: S)))) : Go p e below Φ (T.setTop (mkF m pc L S)) := by
  subst hq; exact Go.by (X.ldcInt hx hown (mvT hZ w) rfl hd) k
theorem g_ldcWI (X : Stand p l e R s m args below meth c T locs cells slots) (hx : p.tables.exec = Jvm.exec) (hZ : Z.Warmed39 s.vm) {own : String} {index : Nat} {v : Int32} (hown : s.vm.findClass own = some m.cls) (w : (Jvm.Cond.constant own index v).before a0 Z = true) (hd : decode c.code pc = .ok (.ldc_w index, 3)) (hq : pc + 3 = q) (k : Go p e below Φ (T.setTop (mkF m q L (.int v :: S)))) : Go p e below Φ (T.setTop (mkF m pc L S)) := by
  subst hq; exact Go.by (X.ldcWInt hx hown (mvT hZ w) rfl hd) k
theorem g_ldc2J (X : Stand p l e R s m args below meth c T locs cells slots) (hx : p.tables.exec = Jvm.exec) (hZ : Z.Warmed39 s.vm) {own : String} {index : Nat} {v : Int64} (hown : s.vm.findClass own = some m.cls) (w : (Jvm.Cond.constantLong own index v).before a0 Z = true) (hd : decode c.code pc = .ok (.ldc2_w index, 3)) (hq : pc + 3 = q) (k : Go p e below Φ (T.setTop (mkF m q L (.long v :: S)))) : Go p e below Φ (T.setTop (mkF m pc L S)) := by
  subst hq; exact Go.by (X.ldc2Long hx hown (mvT hZ w) rfl hd) k
theorem g_ireturn (X : Stand p l e R s m args below meth c T locs cells slots) (hx : p.tables.exec = Jvm.exec) {Q : Option Value → Heap → List Loc → Prop} {rm : Room} (hlk : meth.locks = false) {z : Int32} (hrt : meth.sig.returnType = some .int) (hd : decode c.code pc = .ok (.ireturn, 1)) (hc : cells ≤ rm.cells) (hs : slots ≤ rm.slots) (hQ : Q (some (.int z)) T.heap locs) : Go p e below (Fin0 s rm Q) (T.setTop (mkF m pc L (.int z :: S))) := by
  obtain ⟨fs, hr, hrun, hended, hW, hsame⟩ := X.leave (v := (some (.int z))) (fun h => by rw [hrt] at h; cases h) hlk
  exact ⟨_, _, retOut X hx hrt rfl (Or.inl ⟨rfl, Or.inl rfl, z, rfl⟩) hd hr, hrun, hended, _, _, rfl, hQ, ⟨_, rfl⟩, hW, hsame.mono hc hs⟩
theorem g_lreturn (X : Stand p l e R s m args below meth c T locs cells slots) (hx : p.tables.exec = Jvm.exec) {Q : Option Value → Heap → List Loc → Prop} {rm : Room} (hlk : meth.locks = false) {z : Int64} (hrt : meth.sig.returnType = some .long) (hd : decode c.code pc = .ok (.lreturn, 1)) (hc : cells ≤ rm.cells) (hs : slots ≤ rm.slots) (hQ : Q (some (.long z)) T.heap locs) : Go p e below (Fin0 s rm Q) (T.setTop (mkF m pc L (.long z :: S))) := by
  obtain ⟨fs, hr, hrun, hended, hW, hsame⟩ := X.leave (v := (some (.long z))) (fun h => by rw [hrt] at h; cases h) hlk
  exact ⟨_, _, retOut X hx hrt rfl (Or.inr (Or.inl ⟨rfl, rfl, z, rfl⟩)) hd hr, hrun, hended, _, _, rfl, hQ, ⟨_, rfl⟩, hW, hsame.mono hc hs⟩
theorem g_areturn (X : Stand p l e R s m args below meth c T locs cells slots) (hx : p.tables.exec = Jvm.exec) {Q : Option Value → Heap → List Loc → Prop} {rm : Room} (hlk : meth.locks = false) {w : Value} {t : FieldType} (hw : w.isRef = true) (hrt : meth.sig.returnType = some t) (ht : t.isReference = true) (hd : decode c.code pc = .ok (.areturn, 1)) (hc : cells ≤ rm.cells) (hs : slots ≤ rm.slots) (hQ : Q (some w) T.heap locs) : Go p e below (Fin0 s rm Q) (T.setTop (mkF m pc L (w :: S))) := by
  obtain ⟨fs, hr, hrun, hended, hW, hsame⟩ := X.leave (v := (some w)) (fun h => by rw [hrt] at h; cases h) hlk
  exact ⟨_, _, retOut X hx hrt (by cases t <;> first | rfl | cases ht) (Or.inr (Or.inr (Or.inr (Or.inr ⟨rfl, ht, hw⟩)))) hd hr, hrun, hended, _, _, rfl, hQ, ⟨_, rfl⟩, hW, hsame.mono hc hs⟩
theorem g_zreturn (X : Stand p l e R s m args below meth c T locs cells slots) (hx : p.tables.exec = Jvm.exec) {Q : Option Value → Heap → List Loc → Prop} {rm : Room} (hlk : meth.locks = false) {b : Bool} (hrt : meth.sig.returnType = some .boolean) (hd : decode c.code pc = .ok (.ireturn, 1)) (hc : cells ≤ rm.cells) (hs : slots ≤ rm.slots) (hQ : Q (some (.int (b2i b))) T.heap locs) : Go p e below (Fin0 s rm Q) (T.setTop (mkF m pc L (.int (b2i b) :: S))) := by
  obtain ⟨fs, hr, hrun, hended, hW, hsame⟩ := X.leave (v := (some (.int (b2i b)))) (fun h => by rw [hrt] at h; cases h) hlk
  exact ⟨_, _, retOut X hx hrt (by cases b <;> rfl) (Or.inl ⟨rfl, Or.inr (Or.inl rfl), _, rfl⟩) hd hr, hrun, hended, _, _, rfl, hQ, ⟨_, rfl⟩, hW, hsame.mono hc hs⟩
theorem g_nreturn (X : Stand p l e R s m args below meth c T locs cells slots) (hx : p.tables.exec = Jvm.exec) {Q : Option Value → Heap → List Loc → Prop} {rm : Room} (hlk : meth.locks = false) {z : Int32} {t : FieldType} (hn : narrow t (.int z) = .int z) (ht : t = .int ∨ t = .boolean ∨ t = .byte ∨ t = .char ∨ t = .short) (hrt : meth.sig.returnType = some t) (hd : decode c.code pc = .ok (.ireturn, 1)) (hc : cells ≤ rm.cells) (hs : slots ≤ rm.slots) (hQ : Q (some (.int z)) T.heap locs) : Go p e below (Fin0 s rm Q) (T.setTop (mkF m pc L (.int z :: S))) := by
  obtain ⟨fs, hr, hrun, hended, hW, hsame⟩ := X.leave (v := (some (.int z))) (fun h => by rw [hrt] at h; cases h) hlk
  exact ⟨_, _, retOut X hx hrt hn (Or.inl ⟨rfl, ht, z, rfl⟩) hd hr, hrun, hended, _, _, rfl, hQ, ⟨_, rfl⟩, hW, hsame.mono hc hs⟩
theorem g_ret (X : Stand p l e R s m args below meth c T locs cells slots) (hx : p.tables.exec = Jvm.exec) {Q : Option Value → Heap → List Loc → Prop} {rm : Room} (hlk : meth.locks = false) (hrt : meth.sig.returnType = none) (hd : decode c.code pc = .ok (.return_, 1)) (hc : cells ≤ rm.cells) (hs : slots ≤ rm.slots) (hQ : Q none T.heap locs) : Go p e below (Fin0 s rm Q) (T.setTop (mkF m pc L [])) := by
  obtain ⟨fs, hr, hrun, hended, hW, hsame⟩ := X.leave (v := none) (fun _ => rfl) hlk
  exact ⟨_, _, X.returnOut hx hrt hd hr, hrun, hended, _, _, rfl, hQ, ⟨_, rfl⟩, hW, hsame.mono hc hs⟩
theorem g_callS (X : Stand p l e R s m args below meth c T locs cells slots) (hx : p.tables.exec = Jvm.exec) (hZ : Z.Warmed39 s.vm) {own : String} {index : Nat} {y : MethodName} {bytes : ByteArray} {maxL : Nat} {ret : Option FieldType} (hown : s.vm.findClass own = some m.cls) (w1 : (Jvm.Cond.methodLink own index y).before a0 Z = true) (w2 : (Jvm.Cond.static y).before a0 Z = true) (w3 : (Jvm.Cond.initialized y.cls).before a0 Z = true) (w4 : (Jvm.Cond.code y bytes maxL ret).before a0 Z = true) (hy : y.cls ≠ "java/lang/invoke/MethodHandle" ∧ y.cls ≠ "java/lang/invoke/VarHandle")
    {rm : Room} {as' : Array Value} {Q : Option Value → Heap → List Loc → Prop} (C : Ctr l Z y bytes maxL ret rm [] as' h Q) {argsL rest : List Value} {ps : List FieldType} {rt : Option FieldType} (hpd : parseMethodDescriptor y.desc = some ⟨ps, rt⟩) (hlen : argsL.length = ps.length) (hst : S = argsL.reverse ++ rest) (has : argsL.toArray = as') (hd : decode c.code pc = .ok (.invokestatic index, 3)) (hq : pc + 3 = q) (hsz : L.size = c.maxLocals) (eT : T.heap = h)
    (hf : rm.frames + 1 ≤ R.frames) {W : Nat} (hW : (rest.map fun v => v.category).sum = W) (hl : W + (maxL + 11) + rm.locals ≤ R.locals) (hc : cells + rm.cells ≤ R.cells) (hs : slots + rm.slots ≤ R.slots)
    (k : ∀ v T' Lc, Stand p l e R s m args below meth c T' (locs ++ Lc) (cells + rm.cells) (slots + rm.slots) → Q v T'.heap Lc → Go p e below Φ (T'.setTop (mkF m q L (v.toList ++ rest)))) : Go p e below Φ (T.setTop (mkF m pc L S)) := by
  subst hq has
  obtain ⟨v, _, ⟨T', L', k', n'⟩, -, X', ⟨Lc, hQ, l1, y1, z1⟩, st⟩ := Jvm.LawKit.callS X hx (y := y) hown (mvT hZ w1) (mvT hZ w2) (mvT hZ w3) (mvT hZ w4) hy (backOf (W := W) C hZ w4 w3 hf hl) (g := mkF m pc L S) rfl hsz (argsL := argsL) (rest := rest) (lenOf hpd hlen) hst (by show 2 * 0 + _ ≤ _; omega) hd (fun _ _ => ⟨rfl, eT, hc, hs⟩)
  dsimp only [Pt.U, Pt.locs, Pt.cells, Pt.slots] at X' l1 y1 z1 st hQ
  subst l1 y1 z1
  exact Go.by st (k v T' Lc X' hQ)
theorem g_callSP (X : Stand p l e R s m args below meth c T locs cells slots) (hx : p.tables.exec = Jvm.exec) (hZ : Z.Warmed39 s.vm) {own : String} {index : Nat} {y : MethodName} {bytes : ByteArray} {maxL : Nat} {ret : Option FieldType} (hown : s.vm.findClass own = some m.cls) (w1 : (Jvm.Cond.methodLink own index y).before a0 Z = true) (w2 : (Jvm.Cond.static y).before a0 Z = true) (w3 : (Jvm.Cond.initialized y.cls).before a0 Z = true) (w4 : (Jvm.Cond.code y bytes maxL ret).before a0 Z = true) (hy : y.cls ≠ "java/lang/invoke/MethodHandle" ∧ y.cls ≠ "java/lang/invoke/VarHandle")
    {rm : Room} {as' : Array Value} {r : Value} (C : Ctr l Z y bytes maxL ret rm [] as' h (PQ r h)) {argsL rest : List Value} {ps : List FieldType} {rt : Option FieldType} (hpd : parseMethodDescriptor y.desc = some ⟨ps, rt⟩) (hlen : argsL.length = ps.length) (hst : S = argsL.reverse ++ rest) (has : argsL.toArray = as') (hd : decode c.code pc = .ok (.invokestatic index, 3)) (hq : pc + 3 = q) (hsz : L.size = c.maxLocals) (eT : T.heap = h)
    (hf : rm.frames + 1 ≤ R.frames) {W : Nat} (hW : (rest.map fun v => v.category).sum = W) (hl : W + (maxL + 11) + rm.locals ≤ R.locals) (hc : rm.cells = 0) (hs : rm.slots = 0) (hc' : cells ≤ R.cells) (hs' : slots ≤ R.slots)
    (k : ∀ T', Stand p l e R s m args below meth c T' locs cells slots → T'.heap = h → Go p e below Φ (T'.setTop (mkF m q L (r :: rest)))) : Go p e below Φ (T.setTop (mkF m pc L S)) := by
  refine g_callS X hx hZ hown w1 w2 w3 w4 hy C hpd hlen hst has hd hq hsz eT hf hW hl (by omega) (by omega) ?_
  intro v T' Lc X' hQ
  obtain ⟨rfl, e1, rfl⟩ := hQ
  rw [hc, hs, List.append_nil] at X'
  exact k T' X' e1
theorem g_callSI (X : Stand p l e R s m args below meth c T locs cells slots) (hx : p.tables.exec = Jvm.exec) (hZ : Z.Warmed39 s.vm) {own : String} {index : Nat} {y : MethodName} {bytes : ByteArray} {maxL : Nat} {ret : Option FieldType} (hown : s.vm.findClass own = some m.cls) (w1 : (Jvm.Cond.methodLink own index y).before a0 Z = true) (w2 : (Jvm.Cond.static y).before a0 Z = true) (w3 : (Jvm.Cond.initialized y.cls).before a0 Z = true) (w4 : (Jvm.Cond.code y bytes maxL ret).before a0 Z = true) (hy : y.cls ≠ "java/lang/invoke/MethodHandle" ∧ y.cls ≠ "java/lang/invoke/VarHandle")
    {rm : Room} {as' : Array Value} {P : Int32 → Prop} (C : Ctr l Z y bytes maxL ret rm [] as' h (IQ P h)) {argsL rest : List Value} {ps : List FieldType} {rt : Option FieldType} (hpd : parseMethodDescriptor y.desc = some ⟨ps, rt⟩) (hlen : argsL.length = ps.length) (hst : S = argsL.reverse ++ rest) (has : argsL.toArray = as') (hd : decode c.code pc = .ok (.invokestatic index, 3)) (hq : pc + 3 = q) (hsz : L.size = c.maxLocals) (eT : T.heap = h)
    (hf : rm.frames + 1 ≤ R.frames) {W : Nat} (hW : (rest.map fun v => v.category).sum = W) (hl : W + (maxL + 11) + rm.locals ≤ R.locals) (hc : rm.cells = 0) (hs : rm.slots = 0) (hc' : cells ≤ R.cells) (hs' : slots ≤ R.slots)
    (k : ∀ T' r, Stand p l e R s m args below meth c T' locs cells slots → T'.heap = h → P r → Go p e below Φ (T'.setTop (mkF m q L (.int r :: rest)))) : Go p e below Φ (T.setTop (mkF m pc L S)) := by
  refine g_callS X hx hZ hown w1 w2 w3 w4 hy C hpd hlen hst has hd hq hsz eT hf hW hl (by omega) (by omega) ?_
  intro v T' Lc X' hQ
  obtain ⟨r, rfl, hP, e1, rfl⟩ := hQ
  rw [hc, hs, List.append_nil] at X'
  exact k T' r X' e1 hP
theorem g_callSJ (X : Stand p l e R s m args below meth c T locs cells slots) (hx : p.tables.exec = Jvm.exec) (hZ : Z.Warmed39 s.vm) {own : String} {index : Nat} {y : MethodName} {bytes : ByteArray} {maxL : Nat} {ret : Option FieldType} (hown : s.vm.findClass own = some m.cls) (w1 : (Jvm.Cond.methodLink own index y).before a0 Z = true) (w2 : (Jvm.Cond.static y).before a0 Z = true) (w3 : (Jvm.Cond.initialized y.cls).before a0 Z = true) (w4 : (Jvm.Cond.code y bytes maxL ret).before a0 Z = true) (hy : y.cls ≠ "java/lang/invoke/MethodHandle" ∧ y.cls ≠ "java/lang/invoke/VarHandle")
    {rm : Room} {as' : Array Value} {P : Int64 → Prop} (C : Ctr l Z y bytes maxL ret rm [] as' h (JQ P h)) {argsL rest : List Value} {ps : List FieldType} {rt : Option FieldType} (hpd : parseMethodDescriptor y.desc = some ⟨ps, rt⟩) (hlen : argsL.length = ps.length) (hst : S = argsL.reverse ++ rest) (has : argsL.toArray = as') (hd : decode c.code pc = .ok (.invokestatic index, 3)) (hq : pc + 3 = q) (hsz : L.size = c.maxLocals) (eT : T.heap = h)
    (hf : rm.frames + 1 ≤ R.frames) {W : Nat} (hW : (rest.map fun v => v.category).sum = W) (hl : W + (maxL + 11) + rm.locals ≤ R.locals) (hc : rm.cells = 0) (hs : rm.slots = 0) (hc' : cells ≤ R.cells) (hs' : slots ≤ R.slots)
    (k : ∀ T' r, Stand p l e R s m args below meth c T' locs cells slots → T'.heap = h → P r → Go p e below Φ (T'.setTop (mkF m q L (.long r :: rest)))) : Go p e below Φ (T.setTop (mkF m pc L S)) := by
  refine g_callS X hx hZ hown w1 w2 w3 w4 hy C hpd hlen hst has hd hq hsz eT hf hW hl (by omega) (by omega) ?_
  intro v T' Lc X' hQ
  obtain ⟨r, rfl, hP, e1, rfl⟩ := hQ
  rw [hc, hs, List.append_nil] at X'
  exact k T' r X' e1 hP
end OwnKit
def RM_rm3 : Room := ({ frames := 0, cells := 0, slots := 0, locals := 0 } : Room)
theorem d3_0 : decode method_2_code 0 = .ok (.iload_n 1, 1) := by decide +kernel
theorem d3_1 : decode method_2_code 1 = .ok (.iload_n 0, 1) := by decide +kernel
theorem d3_2 : decode method_2_code 2 = .ok (.if_icmp .gt 12, 3) := by decide +kernel
theorem d3_5 : decode method_2_code 5 = .ok (.iload_n 0, 1) := by decide +kernel
theorem d3_6 : decode method_2_code 6 = .ok (.iload_n 2, 1) := by decide +kernel
theorem d3_7 : decode method_2_code 7 = .ok (.if_icmp .gt 7, 3) := by decide +kernel
theorem d3_10 : decode method_2_code 10 = .ok (.iconst 1, 1) := by decide +kernel
theorem d3_11 : decode method_2_code 11 = .ok (.goto 4, 3) := by decide +kernel
theorem d3_14 : decode method_2_code 14 = .ok (.iconst 0, 1) := by decide +kernel
theorem d3_15 : decode method_2_code 15 = .ok (.ireturn, 1) := by decide +kernel
theorem ef_3 (m : MethodId) (z0 : Int32) (z1 : Int32) (z2 : Int32) : entryFrame m #[.int z0, .int z1, .int z2] 3 = mkF m 0 #[.val (.int z0), .val (.int z1), .val (.int z2)] [] := by first | (simp [entryFrame, mkF, argsToLocals, Value.category]; done) | rfl
theorem pn_0 : plainName x.cls = true := by first | (simp [plainName, overriddenIn]; done) | decide +kernel
set_option maxRecDepth 65536 in
set_option maxHeartbeats 40000000 in
theorem rm3 (l : Launch) (Z : State) (a0 : Array Value) (hw : ∀ d ∈ tables_1, d.before a0 Z = true) (ws : List Jvm.Cond) (a : Int32) (b : Int32) (d : Int32) (h0 : Heap) (n0 : Nat) (Z0 : n0 ≤ h0.size) :
    Ctr l Z method_2 method_2_code 3 (some .boolean) RM_rm3 ws #[.int a, .int b, .int d] h0 (PQ (.int (b2i (decide (b.toInt ≤ a.toInt ∧ a.toInt ≤ d.toInt)))) h0) := by
  refine Ctr.of (plainFor_of_name pn_0) ?_
  intro p e s m below meth c s₁ hx hby hml hrt hlk hnm hown hZ X0 e0
  have N0 := Fr.nil n0
  refine Go.cast (ef_3 m a b d) ?_
  refine g_iloadN (q := 1) X0.here hx (hb hby d3_0) rfl rfl ?_
  refine g_iloadN (q := 2) X0.here hx (hb hby d3_1) rfl rfl ?_
  refine g_icmp_gt (q := 14) (q0 := 5) X0.here hx (hb hby d3_2) (by decide) (by decide) rfl ?_ ?_
  · intro c1
    refine g_iconst (q := 15) (v := (0 : Int32)) X0.here hx (hb hby d3_14) rfl rfl ?_
    exact g_zreturn (b := false) X0 hx hlk hrt (hb hby d3_15) (by decide) (by decide) ⟨eqF (by (try simp only [Int32.reduceToInt, Int64.reduceToInt] at c1); have f1 := rng32 a; (try simp only [Int32.reduceToInt, Int64.reduceToInt] at f1); have f3 := rng32 b; (try simp only [Int32.reduceToInt, Int64.reduceToInt] at f3); have f5 := rng32 d; (try simp only [Int32.reduceToInt, Int64.reduceToInt] at f5); (try simp only [Int32.reduceToInt, Int64.reduceToInt, and_true, true_and, or_true, true_or]); (first | done | omega)), e0, rfl⟩
  · intro c1
    refine g_iloadN (q := 6) X0.here hx (hb hby d3_5) rfl rfl ?_
    refine g_iloadN (q := 7) X0.here hx (hb hby d3_6) rfl rfl ?_
    refine g_sel_icmp_gt (q := 15) X0.here hx (hb hby d3_7) (by decide) (by decide) rfl (hb hby d3_14) (hb hby d3_10) (hb hby d3_11) rfl (by decide) (by decide) rfl ?_
    exact g_zreturn (b := decide (a.toInt ≤ d.toInt)) X0 hx hlk hrt (hb hby d3_15) (by decide) (by decide) ⟨eqD (by (try simp only [Int32.reduceToInt, Int64.reduceToInt] at c1); have f1 := rng32 a; (try simp only [Int32.reduceToInt, Int64.reduceToInt] at f1); have f3 := rng32 b; (try simp only [Int32.reduceToInt, Int64.reduceToInt] at f3); have f5 := rng32 d; (try simp only [Int32.reduceToInt, Int64.reduceToInt] at f5); (try simp only [Int32.reduceToInt, Int64.reduceToInt, and_true, true_and, or_true, true_or]); (first | done | omega)), e0, rfl⟩
theorem own_d {P : Prop} [Decidable P] : (decide P = true → P) ∧ (decide P = false → ¬ P) := ⟨of_decide_eq_true, of_decide_eq_false⟩
theorem pd_0 : parseMethodDescriptor "(III)Z" = some ⟨[.int, .int, .int], some .boolean⟩ := by decide +kernel
def RM_rm2 : Room := ({ frames := 1, cells := 0, slots := 0, locals := 14 } : Room)
theorem d2_0 : decode method_3_code 0 = .ok (.iload_n 0, 1) := by decide +kernel
theorem d2_1 : decode method_3_code 1 = .ok (.bipush 32, 2) := by decide +kernel
theorem d2_3 : decode method_3_code 3 = .ok (.ldc 7, 2) := by decide +kernel
theorem d2_5 : decode method_3_code 5 = .ok (.invokestatic 8, 3) := by decide +kernel
theorem d2_8 : decode method_3_code 8 = .ok (.ifCond .ne 25, 3) := by decide +kernel
theorem d2_11 : decode method_3_code 11 = .ok (.iload_n 0, 1) := by decide +kernel
theorem d2_12 : decode method_3_code 12 = .ok (.ldc 14, 2) := by decide +kernel
theorem d2_14 : decode method_3_code 14 = .ok (.ldc 15, 2) := by decide +kernel
theorem d2_16 : decode method_3_code 16 = .ok (.invokestatic 8, 3) := by decide +kernel
theorem d2_19 : decode method_3_code 19 = .ok (.ifCond .ne 14, 3) := by decide +kernel
theorem d2_22 : decode method_3_code 22 = .ok (.iload_n 0, 1) := by decide +kernel
theorem d2_23 : decode method_3_code 23 = .ok (.ldc 16, 2) := by decide +kernel
theorem d2_25 : decode method_3_code 25 = .ok (.ldc 17, 2) := by decide +kernel
theorem d2_27 : decode method_3_code 27 = .ok (.invokestatic 8, 3) := by decide +kernel
theorem d2_30 : decode method_3_code 30 = .ok (.ifCond .eq 7, 3) := by decide +kernel
theorem d2_33 : decode method_3_code 33 = .ok (.iconst 1, 1) := by decide +kernel
theorem d2_34 : decode method_3_code 34 = .ok (.goto 4, 3) := by decide +kernel
theorem d2_37 : decode method_3_code 37 = .ok (.iconst 0, 1) := by decide +kernel
theorem d2_38 : decode method_3_code 38 = .ok (.istore_n 2, 1) := by decide +kernel
theorem d2_39 : decode method_3_code 39 = .ok (.iload_n 1, 1) := by decide +kernel
theorem d2_40 : decode method_3_code 40 = .ok (.ifCond .eq 23, 3) := by decide +kernel
theorem d2_43 : decode method_3_code 43 = .ok (.iload_n 2, 1) := by decide +kernel
theorem d2_44 : decode method_3_code 44 = .ok (.ifCond .ne 13, 3) := by decide +kernel
theorem d2_47 : decode method_3_code 47 = .ok (.iload_n 0, 1) := by decide +kernel
theorem d2_48 : decode method_3_code 48 = .ok (.iconst 1, 1) := by decide +kernel
theorem d2_49 : decode method_3_code 49 = .ok (.bipush 31, 2) := by decide +kernel
theorem d2_51 : decode method_3_code 51 = .ok (.invokestatic 8, 3) := by decide +kernel
theorem d2_54 : decode method_3_code 54 = .ok (.ifCond .eq 7, 3) := by decide +kernel
theorem d2_57 : decode method_3_code 57 = .ok (.iconst 1, 1) := by decide +kernel
theorem d2_58 : decode method_3_code 58 = .ok (.goto 4, 3) := by decide +kernel
theorem d2_61 : decode method_3_code 61 = .ok (.iconst 0, 1) := by decide +kernel
theorem d2_62 : decode method_3_code 62 = .ok (.ireturn, 1) := by decide +kernel
theorem d2_63 : decode method_3_code 63 = .ok (.iload_n 2, 1) := by decide +kernel
theorem d2_64 : decode method_3_code 64 = .ok (.ifCond .ne 21, 3) := by decide +kernel
theorem d2_67 : decode method_3_code 67 = .ok (.iload_n 0, 1) := by decide +kernel
theorem d2_68 : decode method_3_code 68 = .ok (.bipush 9, 2) := by decide +kernel
theorem d2_70 : decode method_3_code 70 = .ok (.if_icmp .eq 15, 3) := by decide +kernel
theorem d2_73 : decode method_3_code 73 = .ok (.iload_n 0, 1) := by decide +kernel
theorem d2_74 : decode method_3_code 74 = .ok (.bipush 10, 2) := by decide +kernel
theorem d2_76 : decode method_3_code 76 = .ok (.if_icmp .eq 9, 3) := by decide +kernel
theorem d2_79 : decode method_3_code 79 = .ok (.iload_n 0, 1) := by decide +kernel
theorem d2_80 : decode method_3_code 80 = .ok (.bipush 13, 2) := by decide +kernel
theorem d2_82 : decode method_3_code 82 = .ok (.if_icmp .ne 7, 3) := by decide +kernel
theorem d2_85 : decode method_3_code 85 = .ok (.iconst 1, 1) := by decide +kernel
theorem d2_86 : decode method_3_code 86 = .ok (.goto 4, 3) := by decide +kernel
theorem d2_89 : decode method_3_code 89 = .ok (.iconst 0, 1) := by decide +kernel
theorem d2_90 : decode method_3_code 90 = .ok (.ireturn, 1) := by decide +kernel
theorem ef_2 (m : MethodId) (z0 : Int32) (z1 : Bool) : entryFrame m #[.int z0, .int (b2i z1)] 3 = mkF m 0 #[.val (.int z0), .val (.int (b2i z1)), .unset] [] := by first | (simp [entryFrame, mkF, argsToLocals, Value.category]; done) | rfl
set_option maxRecDepth 65536 in
set_option maxHeartbeats 40000000 in
theorem rm2 (l : Launch) (Z : State) (a0 : Array Value) (hw : ∀ d ∈ tables_1, d.before a0 Z = true) (ws : List Jvm.Cond) (a : Int32) (bx : Bool) (h0 : Heap) (n0 : Nat) (Z0 : n0 ≤ h0.size) :
    Ctr l Z method_3 method_3_code 3 (some .boolean) RM_rm2 ws #[.int a, .int (b2i bx)] h0 (PQ (.int (b2i (decide (((32 ≤ a.toInt ∧ a.toInt ≤ 55295) ∨ (57344 ≤ a.toInt ∧ a.toInt ≤ 65533) ∨ (65536 ≤ a.toInt ∧ a.toInt ≤ 1114111)) ∨ (bx = true ∧ 1 ≤ a.toInt ∧ a.toInt ≤ 31) ∨ (bx = false ∧ (a.toInt = 9 ∨ a.toInt = 10 ∨ a.toInt = 13)))))) h0) := by
  refine Ctr.of (plainFor_of_name pn_0) ?_
  intro p e s m below meth c s₁ hx hby hml hrt hlk hnm hown hZ X0 e0
  have N0 := Fr.nil n0
  refine Go.cast (ef_2 m a bx) ?_
  refine g_iloadN (q := 1) X0.here hx (hb hby d2_0) rfl rfl ?_
  refine g_bipush (q := 3) (v := (32 : Int32)) X0.here hx (hb hby d2_1) rfl rfl ?_
  refine g_ldcI (q := 5) X0 hx hZ hown (hw _ (List.mem_of_getElem? (i := 8) rfl)) (hb hby d2_3) rfl ?_
  refine g_callSP (q := 8) X0 hx hZ hown (hw _ (List.mem_of_getElem? (i := 9) rfl)) (hw _ (List.mem_of_getElem? (i := 10) rfl)) (hw _ (List.mem_of_getElem? (i := 6) rfl)) (hw _ (List.mem_of_getElem? (i := 11) rfl)) (by decide) (rm3 l Z a0 hw [] a (32 : Int32) (55295 : Int32) h0 n0 Z0) (argsL := [.int a, .int (32 : Int32), .int (55295 : Int32)]) (rest := []) pd_0 rfl rfl rfl (hb hby d2_5) rfl (by rw [hml]; rfl) e0 (by decide) (W := 0) rfl (by decide) rfl rfl (by decide) (by decide) ?_
  intro T1 X1 e1
  refine g_ifB_ne (q := 33) (q0 := 11) X1.here hx (hb hby d2_8) (by decide) (by decide) rfl ?_ ?_
  · intro c2
    refine g_iconst (q := 34) (v := (1 : Int32)) X1.here hx (hb hby d2_33) rfl rfl ?_
    refine g_goto (q := 38) X1.here hx (hb hby d2_34) (by decide) (by decide) ?_
    refine g_istoreN (q := 39) (L' := #[.val (.int a), .val (.int (b2i bx)), .val (.int (1 : Int32))]) X1.here hx (hb hby d2_38) rfl rfl ?_
    refine g_iloadN (q := 40) X1.here hx (hb hby d2_39) rfl rfl ?_
    refine g_ifB_eq (q := 63) (q0 := 43) X1.here hx (hb hby d2_40) (by decide) (by decide) rfl ?_ ?_
    · intro c3
      refine g_iloadN (q := 64) X1.here hx (hb hby d2_63) rfl rfl ?_
      refine g_if_ne (q := 85) (q0 := 67) X1.here hx (hb hby d2_64) (by decide) (by decide) rfl ?_ ?_
      · intro c4
        refine g_iconst (q := 86) (v := (1 : Int32)) X1.here hx (hb hby d2_85) rfl rfl ?_
        refine g_goto (q := 90) X1.here hx (hb hby d2_86) (by decide) (by decide) ?_
        exact g_zreturn (b := true) X1 hx hlk hrt (hb hby d2_90) (by decide) (by decide) ⟨eqT (by (try replace c2 := own_d.1 c2); (try replace c2 := own_d.2 c2); (try subst c2); (try replace c3 := own_d.1 c3); (try replace c3 := own_d.2 c3); (try subst c3); (try replace c4 := own_d.1 c4); (try replace c4 := own_d.2 c4); (try subst c4); (try simp only [Bool.false_eq_true, Bool.true_eq_false, reduceCtorEq, true_and, false_and, or_false, false_or, and_true, and_false] at *); (try simp only [Int32.reduceToInt, Int64.reduceToInt] at c2); (try simp only [Int32.reduceToInt, Int64.reduceToInt] at c3); (try simp only [Int32.reduceToInt, Int64.reduceToInt] at c4); have f2 := rng32 a; (try simp only [Int32.reduceToInt, Int64.reduceToInt] at f2); (try simp only [Int32.reduceToInt, Int64.reduceToInt, and_true, true_and, or_true, true_or]); (first | done | omega)), e1, rfl⟩
      · intro c4; exact absurd c4 (by decide)
    · intro c3
      refine g_iloadN (q := 44) X1.here hx (hb hby d2_43) rfl rfl ?_
      refine g_if_ne (q := 57) (q0 := 47) X1.here hx (hb hby d2_44) (by decide) (by decide) rfl ?_ ?_
      · intro c5
        refine g_iconst (q := 58) (v := (1 : Int32)) X1.here hx (hb hby d2_57) rfl rfl ?_
        refine g_goto (q := 62) X1.here hx (hb hby d2_58) (by decide) (by decide) ?_
        exact g_zreturn (b := true) X1 hx hlk hrt (hb hby d2_62) (by decide) (by decide) ⟨eqT (by (try replace c2 := own_d.1 c2); (try replace c2 := own_d.2 c2); (try subst c2); (try replace c3 := own_d.1 c3); (try replace c3 := own_d.2 c3); (try subst c3); (try replace c5 := own_d.1 c5); (try replace c5 := own_d.2 c5); (try subst c5); (try simp only [Bool.false_eq_true, Bool.true_eq_false, reduceCtorEq, true_and, false_and, or_false, false_or, and_true, and_false] at *); (try simp only [Int32.reduceToInt, Int64.reduceToInt] at c2); (try simp only [Int32.reduceToInt, Int64.reduceToInt] at c3); (try simp only [Int32.reduceToInt, Int64.reduceToInt] at c5); have f2 := rng32 a; (try simp only [Int32.reduceToInt, Int64.reduceToInt] at f2); (try simp only [Int32.reduceToInt, Int64.reduceToInt, and_true, true_and, or_true, true_or]); (first | done | omega)), e1, rfl⟩
      · intro c5; exact absurd c5 (by decide)
  · intro c2
    refine g_iloadN (q := 12) X1.here hx (hb hby d2_11) rfl rfl ?_
    refine g_ldcI (q := 14) X1 hx hZ hown (hw _ (List.mem_of_getElem? (i := 12) rfl)) (hb hby d2_12) rfl ?_
    refine g_ldcI (q := 16) X1 hx hZ hown (hw _ (List.mem_of_getElem? (i := 13) rfl)) (hb hby d2_14) rfl ?_
    refine g_callSP (q := 19) X1 hx hZ hown (hw _ (List.mem_of_getElem? (i := 9) rfl)) (hw _ (List.mem_of_getElem? (i := 10) rfl)) (hw _ (List.mem_of_getElem? (i := 6) rfl)) (hw _ (List.mem_of_getElem? (i := 11) rfl)) (by decide) (rm3 l Z a0 hw [] a (57344 : Int32) (65533 : Int32) h0 n0 Z0) (argsL := [.int a, .int (57344 : Int32), .int (65533 : Int32)]) (rest := []) pd_0 rfl rfl rfl (hb hby d2_16) rfl (by rw [hml]; rfl) e1 (by decide) (W := 0) rfl (by decide) rfl rfl (by decide) (by decide) ?_
    intro T6 X6 e6
    refine g_ifB_ne (q := 33) (q0 := 22) X6.here hx (hb hby d2_19) (by decide) (by decide) rfl ?_ ?_
    · intro c7
      refine g_iconst (q := 34) (v := (1 : Int32)) X6.here hx (hb hby d2_33) rfl rfl ?_
      refine g_goto (q := 38) X6.here hx (hb hby d2_34) (by decide) (by decide) ?_
      refine g_istoreN (q := 39) (L' := #[.val (.int a), .val (.int (b2i bx)), .val (.int (1 : Int32))]) X6.here hx (hb hby d2_38) rfl rfl ?_
      refine g_iloadN (q := 40) X6.here hx (hb hby d2_39) rfl rfl ?_
      refine g_ifB_eq (q := 63) (q0 := 43) X6.here hx (hb hby d2_40) (by decide) (by decide) rfl ?_ ?_
      · intro c8
        refine g_iloadN (q := 64) X6.here hx (hb hby d2_63) rfl rfl ?_
        refine g_if_ne (q := 85) (q0 := 67) X6.here hx (hb hby d2_64) (by decide) (by decide) rfl ?_ ?_
        · intro c9
          refine g_iconst (q := 86) (v := (1 : Int32)) X6.here hx (hb hby d2_85) rfl rfl ?_
          refine g_goto (q := 90) X6.here hx (hb hby d2_86) (by decide) (by decide) ?_
          exact g_zreturn (b := true) X6 hx hlk hrt (hb hby d2_90) (by decide) (by decide) ⟨eqT (by (try replace c2 := own_d.1 c2); (try replace c2 := own_d.2 c2); (try subst c2); (try replace c7 := own_d.1 c7); (try replace c7 := own_d.2 c7); (try subst c7); (try replace c8 := own_d.1 c8); (try replace c8 := own_d.2 c8); (try subst c8); (try replace c9 := own_d.1 c9); (try replace c9 := own_d.2 c9); (try subst c9); (try simp only [Bool.false_eq_true, Bool.true_eq_false, reduceCtorEq, true_and, false_and, or_false, false_or, and_true, and_false] at *); (try simp only [Int32.reduceToInt, Int64.reduceToInt] at c2); (try simp only [Int32.reduceToInt, Int64.reduceToInt] at c7); (try simp only [Int32.reduceToInt, Int64.reduceToInt] at c8); (try simp only [Int32.reduceToInt, Int64.reduceToInt] at c9); have f2 := rng32 a; (try simp only [Int32.reduceToInt, Int64.reduceToInt] at f2); (try simp only [Int32.reduceToInt, Int64.reduceToInt, and_true, true_and, or_true, true_or]); (first | done | omega)), e6, rfl⟩
        · intro c9; exact absurd c9 (by decide)
      · intro c8
        refine g_iloadN (q := 44) X6.here hx (hb hby d2_43) rfl rfl ?_
        refine g_if_ne (q := 57) (q0 := 47) X6.here hx (hb hby d2_44) (by decide) (by decide) rfl ?_ ?_
        · intro c10
          refine g_iconst (q := 58) (v := (1 : Int32)) X6.here hx (hb hby d2_57) rfl rfl ?_
          refine g_goto (q := 62) X6.here hx (hb hby d2_58) (by decide) (by decide) ?_
          exact g_zreturn (b := true) X6 hx hlk hrt (hb hby d2_62) (by decide) (by decide) ⟨eqT (by (try replace c2 := own_d.1 c2); (try replace c2 := own_d.2 c2); (try subst c2); (try replace c7 := own_d.1 c7); (try replace c7 := own_d.2 c7); (try subst c7); (try replace c8 := own_d.1 c8); (try replace c8 := own_d.2 c8); (try subst c8); (try replace c10 := own_d.1 c10); (try replace c10 := own_d.2 c10); (try subst c10); (try simp only [Bool.false_eq_true, Bool.true_eq_false, reduceCtorEq, true_and, false_and, or_false, false_or, and_true, and_false] at *); (try simp only [Int32.reduceToInt, Int64.reduceToInt] at c2); (try simp only [Int32.reduceToInt, Int64.reduceToInt] at c7); (try simp only [Int32.reduceToInt, Int64.reduceToInt] at c8); (try simp only [Int32.reduceToInt, Int64.reduceToInt] at c10); have f2 := rng32 a; (try simp only [Int32.reduceToInt, Int64.reduceToInt] at f2); (try simp only [Int32.reduceToInt, Int64.reduceToInt, and_true, true_and, or_true, true_or]); (first | done | omega)), e6, rfl⟩
        · intro c10; exact absurd c10 (by decide)
    · intro c7
      refine g_iloadN (q := 23) X6.here hx (hb hby d2_22) rfl rfl ?_
      refine g_ldcI (q := 25) X6 hx hZ hown (hw _ (List.mem_of_getElem? (i := 14) rfl)) (hb hby d2_23) rfl ?_
      refine g_ldcI (q := 27) X6 hx hZ hown (hw _ (List.mem_of_getElem? (i := 15) rfl)) (hb hby d2_25) rfl ?_
      refine g_callSP (q := 30) X6 hx hZ hown (hw _ (List.mem_of_getElem? (i := 9) rfl)) (hw _ (List.mem_of_getElem? (i := 10) rfl)) (hw _ (List.mem_of_getElem? (i := 6) rfl)) (hw _ (List.mem_of_getElem? (i := 11) rfl)) (by decide) (rm3 l Z a0 hw [] a (65536 : Int32) (1114111 : Int32) h0 n0 Z0) (argsL := [.int a, .int (65536 : Int32), .int (1114111 : Int32)]) (rest := []) pd_0 rfl rfl rfl (hb hby d2_27) rfl (by rw [hml]; rfl) e6 (by decide) (W := 0) rfl (by decide) rfl rfl (by decide) (by decide) ?_
      intro T11 X11 e11
      refine g_selB_eq (q := 38) X11.here hx (hb hby d2_30) (by decide) (by decide) rfl (hb hby d2_37) (hb hby d2_33) (hb hby d2_34) rfl (by decide) (by decide) rfl ?_
      refine g_istoreN (q := 39) (L' := #[.val (.int a), .val (.int (b2i bx)), .val (.int (b2i (decide ((65536 : Int32).toInt ≤ a.toInt ∧ a.toInt ≤ (1114111 : Int32).toInt))))]) X11.here hx (hb hby d2_38) rfl rfl ?_
      refine g_iloadN (q := 40) X11.here hx (hb hby d2_39) rfl rfl ?_
      refine g_ifB_eq (q := 63) (q0 := 43) X11.here hx (hb hby d2_40) (by decide) (by decide) rfl ?_ ?_
      · intro c12
        refine g_iloadN (q := 64) X11.here hx (hb hby d2_63) rfl rfl ?_
        refine g_ifB_ne (q := 85) (q0 := 67) X11.here hx (hb hby d2_64) (by decide) (by decide) rfl ?_ ?_
        · intro c13
          refine g_iconst (q := 86) (v := (1 : Int32)) X11.here hx (hb hby d2_85) rfl rfl ?_
          refine g_goto (q := 90) X11.here hx (hb hby d2_86) (by decide) (by decide) ?_
          exact g_zreturn (b := true) X11 hx hlk hrt (hb hby d2_90) (by decide) (by decide) ⟨eqT (by (try replace c2 := own_d.1 c2); (try replace c2 := own_d.2 c2); (try subst c2); (try replace c7 := own_d.1 c7); (try replace c7 := own_d.2 c7); (try subst c7); (try replace c12 := own_d.1 c12); (try replace c12 := own_d.2 c12); (try subst c12); (try replace c13 := own_d.1 c13); (try replace c13 := own_d.2 c13); (try subst c13); (try simp only [Bool.false_eq_true, Bool.true_eq_false, reduceCtorEq, true_and, false_and, or_false, false_or, and_true, and_false] at *); (try simp only [Int32.reduceToInt, Int64.reduceToInt] at c2); (try simp only [Int32.reduceToInt, Int64.reduceToInt] at c7); (try simp only [Int32.reduceToInt, Int64.reduceToInt] at c12); (try simp only [Int32.reduceToInt, Int64.reduceToInt] at c13); have f2 := rng32 a; (try simp only [Int32.reduceToInt, Int64.reduceToInt] at f2); (try simp only [Int32.reduceToInt, Int64.reduceToInt, and_true, true_and, or_true, true_or]); (first | done | omega)), e11, rfl⟩
        · intro c13
          refine g_iloadN (q := 68) X11.here hx (hb hby d2_67) rfl rfl ?_
          refine g_bipush (q := 70) (v := (9 : Int32)) X11.here hx (hb hby d2_68) rfl rfl ?_
          refine g_icmp_eq (q := 85) (q0 := 73) X11.here hx (hb hby d2_70) (by decide) (by decide) rfl ?_ ?_
          · intro c14
            refine g_iconst (q := 86) (v := (1 : Int32)) X11.here hx (hb hby d2_85) rfl rfl ?_
            refine g_goto (q := 90) X11.here hx (hb hby d2_86) (by decide) (by decide) ?_
            exact g_zreturn (b := true) X11 hx hlk hrt (hb hby d2_90) (by decide) (by decide) ⟨eqT (by (try replace c2 := own_d.1 c2); (try replace c2 := own_d.2 c2); (try subst c2); (try replace c7 := own_d.1 c7); (try replace c7 := own_d.2 c7); (try subst c7); (try replace c12 := own_d.1 c12); (try replace c12 := own_d.2 c12); (try subst c12); (try replace c13 := own_d.1 c13); (try replace c13 := own_d.2 c13); (try subst c13); (try replace c14 := own_d.1 c14); (try replace c14 := own_d.2 c14); (try subst c14); (try simp only [Bool.false_eq_true, Bool.true_eq_false, reduceCtorEq, true_and, false_and, or_false, false_or, and_true, and_false] at *); (try simp only [Int32.reduceToInt, Int64.reduceToInt] at c2); (try simp only [Int32.reduceToInt, Int64.reduceToInt] at c7); (try simp only [Int32.reduceToInt, Int64.reduceToInt] at c12); (try simp only [Int32.reduceToInt, Int64.reduceToInt] at c13); (try simp only [Int32.reduceToInt, Int64.reduceToInt] at c14); have f2 := rng32 a; (try simp only [Int32.reduceToInt, Int64.reduceToInt] at f2); (try simp only [Int32.reduceToInt, Int64.reduceToInt, and_true, true_and, or_true, true_or]); (first | done | omega)), e11, rfl⟩
          · intro c14
            refine g_iloadN (q := 74) X11.here hx (hb hby d2_73) rfl rfl ?_
            refine g_bipush (q := 76) (v := (10 : Int32)) X11.here hx (hb hby d2_74) rfl rfl ?_
            refine g_icmp_eq (q := 85) (q0 := 79) X11.here hx (hb hby d2_76) (by decide) (by decide) rfl ?_ ?_
            · intro c15
              refine g_iconst (q := 86) (v := (1 : Int32)) X11.here hx (hb hby d2_85) rfl rfl ?_
              refine g_goto (q := 90) X11.here hx (hb hby d2_86) (by decide) (by decide) ?_
              exact g_zreturn (b := true) X11 hx hlk hrt (hb hby d2_90) (by decide) (by decide) ⟨eqT (by (try replace c2 := own_d.1 c2); (try replace c2 := own_d.2 c2); (try subst c2); (try replace c7 := own_d.1 c7); (try replace c7 := own_d.2 c7); (try subst c7); (try replace c12 := own_d.1 c12); (try replace c12 := own_d.2 c12); (try subst c12); (try replace c13 := own_d.1 c13); (try replace c13 := own_d.2 c13); (try subst c13); (try replace c14 := own_d.1 c14); (try replace c14 := own_d.2 c14); (try subst c14); (try replace c15 := own_d.1 c15); (try replace c15 := own_d.2 c15); (try subst c15); (try simp only [Bool.false_eq_true, Bool.true_eq_false, reduceCtorEq, true_and, false_and, or_false, false_or, and_true, and_false] at *); (try simp only [Int32.reduceToInt, Int64.reduceToInt] at c2); (try simp only [Int32.reduceToInt, Int64.reduceToInt] at c7); (try simp only [Int32.reduceToInt, Int64.reduceToInt] at c12); (try simp only [Int32.reduceToInt, Int64.reduceToInt] at c13); (try simp only [Int32.reduceToInt, Int64.reduceToInt] at c14); (try simp only [Int32.reduceToInt, Int64.reduceToInt] at c15); have f2 := rng32 a; (try simp only [Int32.reduceToInt, Int64.reduceToInt] at f2); (try simp only [Int32.reduceToInt, Int64.reduceToInt, and_true, true_and, or_true, true_or]); (first | done | omega)), e11, rfl⟩
            · intro c15
              refine g_iloadN (q := 80) X11.here hx (hb hby d2_79) rfl rfl ?_
              refine g_bipush (q := 82) (v := (13 : Int32)) X11.here hx (hb hby d2_80) rfl rfl ?_
              refine g_sel_icmp_ne (q := 90) X11.here hx (hb hby d2_82) (by decide) (by decide) rfl (hb hby d2_89) (hb hby d2_85) (hb hby d2_86) rfl (by decide) (by decide) rfl ?_
              exact g_zreturn (b := decide (a.toInt = (13 : Int32).toInt)) X11 hx hlk hrt (hb hby d2_90) (by decide) (by decide) ⟨eqD (by (try replace c2 := own_d.1 c2); (try replace c2 := own_d.2 c2); (try subst c2); (try replace c7 := own_d.1 c7); (try replace c7 := own_d.2 c7); (try subst c7); (try replace c12 := own_d.1 c12); (try replace c12 := own_d.2 c12); (try subst c12); (try replace c13 := own_d.1 c13); (try replace c13 := own_d.2 c13); (try subst c13); (try replace c14 := own_d.1 c14); (try replace c14 := own_d.2 c14); (try subst c14); (try replace c15 := own_d.1 c15); (try replace c15 := own_d.2 c15); (try subst c15); (try simp only [Bool.false_eq_true, Bool.true_eq_false, reduceCtorEq, true_and, false_and, or_false, false_or, and_true, and_false] at *); (try simp only [Int32.reduceToInt, Int64.reduceToInt] at c2); (try simp only [Int32.reduceToInt, Int64.reduceToInt] at c7); (try simp only [Int32.reduceToInt, Int64.reduceToInt] at c12); (try simp only [Int32.reduceToInt, Int64.reduceToInt] at c13); (try simp only [Int32.reduceToInt, Int64.reduceToInt] at c14); (try simp only [Int32.reduceToInt, Int64.reduceToInt] at c15); have f2 := rng32 a; (try simp only [Int32.reduceToInt, Int64.reduceToInt] at f2); (try simp only [Int32.reduceToInt, Int64.reduceToInt, and_true, true_and, or_true, true_or]); (first | done | omega)), e11, rfl⟩
      · intro c12
        refine g_iloadN (q := 44) X11.here hx (hb hby d2_43) rfl rfl ?_
        refine g_ifB_ne (q := 57) (q0 := 47) X11.here hx (hb hby d2_44) (by decide) (by decide) rfl ?_ ?_
        · intro c16
          refine g_iconst (q := 58) (v := (1 : Int32)) X11.here hx (hb hby d2_57) rfl rfl ?_
          refine g_goto (q := 62) X11.here hx (hb hby d2_58) (by decide) (by decide) ?_
          exact g_zreturn (b := true) X11 hx hlk hrt (hb hby d2_62) (by decide) (by decide) ⟨eqT (by (try replace c2 := own_d.1 c2); (try replace c2 := own_d.2 c2); (try subst c2); (try replace c7 := own_d.1 c7); (try replace c7 := own_d.2 c7); (try subst c7); (try replace c12 := own_d.1 c12); (try replace c12 := own_d.2 c12); (try subst c12); (try replace c16 := own_d.1 c16); (try replace c16 := own_d.2 c16); (try subst c16); (try simp only [Bool.false_eq_true, Bool.true_eq_false, reduceCtorEq, true_and, false_and, or_false, false_or, and_true, and_false] at *); (try simp only [Int32.reduceToInt, Int64.reduceToInt] at c2); (try simp only [Int32.reduceToInt, Int64.reduceToInt] at c7); (try simp only [Int32.reduceToInt, Int64.reduceToInt] at c12); (try simp only [Int32.reduceToInt, Int64.reduceToInt] at c16); have f2 := rng32 a; (try simp only [Int32.reduceToInt, Int64.reduceToInt] at f2); (try simp only [Int32.reduceToInt, Int64.reduceToInt, and_true, true_and, or_true, true_or]); (first | done | omega)), e11, rfl⟩
        · intro c16
          refine g_iloadN (q := 48) X11.here hx (hb hby d2_47) rfl rfl ?_
          refine g_iconst (q := 49) (v := (1 : Int32)) X11.here hx (hb hby d2_48) rfl rfl ?_
          refine g_bipush (q := 51) (v := (31 : Int32)) X11.here hx (hb hby d2_49) rfl rfl ?_
          refine g_callSP (q := 54) X11 hx hZ hown (hw _ (List.mem_of_getElem? (i := 9) rfl)) (hw _ (List.mem_of_getElem? (i := 10) rfl)) (hw _ (List.mem_of_getElem? (i := 6) rfl)) (hw _ (List.mem_of_getElem? (i := 11) rfl)) (by decide) (rm3 l Z a0 hw [] a (1 : Int32) (31 : Int32) h0 n0 Z0) (argsL := [.int a, .int (1 : Int32), .int (31 : Int32)]) (rest := []) pd_0 rfl rfl rfl (hb hby d2_51) rfl (by rw [hml]; rfl) e11 (by decide) (W := 0) rfl (by decide) rfl rfl (by decide) (by decide) ?_
          intro T17 X17 e17
          refine g_selB_eq (q := 62) X17.here hx (hb hby d2_54) (by decide) (by decide) rfl (hb hby d2_61) (hb hby d2_57) (hb hby d2_58) rfl (by decide) (by decide) rfl ?_
          exact g_zreturn (b := decide ((1 : Int32).toInt ≤ a.toInt ∧ a.toInt ≤ (31 : Int32).toInt)) X17 hx hlk hrt (hb hby d2_62) (by decide) (by decide) ⟨eqD (by (try replace c2 := own_d.1 c2); (try replace c2 := own_d.2 c2); (try subst c2); (try replace c7 := own_d.1 c7); (try replace c7 := own_d.2 c7); (try subst c7); (try replace c12 := own_d.1 c12); (try replace c12 := own_d.2 c12); (try subst c12); (try replace c16 := own_d.1 c16); (try replace c16 := own_d.2 c16); (try subst c16); (try simp only [Bool.false_eq_true, Bool.true_eq_false, reduceCtorEq, true_and, false_and, or_false, false_or, and_true, and_false] at *); (try simp only [Int32.reduceToInt, Int64.reduceToInt] at c2); (try simp only [Int32.reduceToInt, Int64.reduceToInt] at c7); (try simp only [Int32.reduceToInt, Int64.reduceToInt] at c12); (try simp only [Int32.reduceToInt, Int64.reduceToInt] at c16); have f2 := rng32 a; (try simp only [Int32.reduceToInt, Int64.reduceToInt] at f2); (try simp only [Int32.reduceToInt, Int64.reduceToInt, and_true, true_and, or_true, true_or]); (first | done | omega)), e17, rfl⟩
def RM_rm1 : Room := ({ frames := 0, cells := 0, slots := 0, locals := 0 } : Room)
theorem d1_0 : decode prog_39_method_5_code 0 = .ok (.iload_n 0, 1) := by decide +kernel
theorem d1_1 : decode prog_39_method_5_code 1 = .ok (.bipush 32, 2) := by decide +kernel
theorem d1_3 : decode prog_39_method_5_code 3 = .ok (.if_icmp .ge 43, 3) := by decide +kernel
theorem d1_6 : decode prog_39_method_5_code 6 = .ok (.iload_n 1, 1) := by decide +kernel
theorem d1_7 : decode prog_39_method_5_code 7 = .ok (.ifCond .eq 15, 3) := by decide +kernel
theorem d1_10 : decode prog_39_method_5_code 10 = .ok (.iload_n 0, 1) := by decide +kernel
theorem d1_11 : decode prog_39_method_5_code 11 = .ok (.ifCond .eq 7, 3) := by decide +kernel
theorem d1_14 : decode prog_39_method_5_code 14 = .ok (.iconst 1, 1) := by decide +kernel
theorem d1_15 : decode prog_39_method_5_code 15 = .ok (.goto 30, 3) := by decide +kernel
theorem d1_18 : decode prog_39_method_5_code 18 = .ok (.iconst 0, 1) := by decide +kernel
theorem d1_19 : decode prog_39_method_5_code 19 = .ok (.goto 26, 3) := by decide +kernel
theorem d1_22 : decode prog_39_method_5_code 22 = .ok (.iload_n 0, 1) := by decide +kernel
theorem d1_23 : decode prog_39_method_5_code 23 = .ok (.bipush 9, 2) := by decide +kernel
theorem d1_25 : decode prog_39_method_5_code 25 = .ok (.if_icmp .eq 15, 3) := by decide +kernel
theorem d1_28 : decode prog_39_method_5_code 28 = .ok (.iload_n 0, 1) := by decide +kernel
theorem d1_29 : decode prog_39_method_5_code 29 = .ok (.bipush 10, 2) := by decide +kernel
theorem d1_31 : decode prog_39_method_5_code 31 = .ok (.if_icmp .eq 9, 3) := by decide +kernel
theorem d1_34 : decode prog_39_method_5_code 34 = .ok (.iload_n 0, 1) := by decide +kernel
theorem d1_35 : decode prog_39_method_5_code 35 = .ok (.bipush 13, 2) := by decide +kernel
theorem d1_37 : decode prog_39_method_5_code 37 = .ok (.if_icmp .ne 7, 3) := by decide +kernel
theorem d1_40 : decode prog_39_method_5_code 40 = .ok (.iconst 1, 1) := by decide +kernel
theorem d1_41 : decode prog_39_method_5_code 41 = .ok (.goto 4, 3) := by decide +kernel
theorem d1_44 : decode prog_39_method_5_code 44 = .ok (.iconst 0, 1) := by decide +kernel
theorem d1_45 : decode prog_39_method_5_code 45 = .ok (.ireturn, 1) := by decide +kernel
theorem d1_46 : decode prog_39_method_5_code 46 = .ok (.iload_n 0, 1) := by decide +kernel
theorem d1_47 : decode prog_39_method_5_code 47 = .ok (.ldc 31, 2) := by decide +kernel
theorem d1_49 : decode prog_39_method_5_code 49 = .ok (.if_icmp .le 27, 3) := by decide +kernel
theorem d1_52 : decode prog_39_method_5_code 52 = .ok (.iload_n 0, 1) := by decide +kernel
theorem d1_53 : decode prog_39_method_5_code 53 = .ok (.ldc 32, 2) := by decide +kernel
theorem d1_55 : decode prog_39_method_5_code 55 = .ok (.if_icmp .lt 9, 3) := by decide +kernel
theorem d1_58 : decode prog_39_method_5_code 58 = .ok (.iload_n 0, 1) := by decide +kernel
theorem d1_59 : decode prog_39_method_5_code 59 = .ok (.ldc 33, 2) := by decide +kernel
theorem d1_61 : decode prog_39_method_5_code 61 = .ok (.if_icmp .le 15, 3) := by decide +kernel
theorem d1_64 : decode prog_39_method_5_code 64 = .ok (.iload_n 0, 1) := by decide +kernel
theorem d1_65 : decode prog_39_method_5_code 65 = .ok (.ldc 34, 2) := by decide +kernel
theorem d1_67 : decode prog_39_method_5_code 67 = .ok (.if_icmp .lt 13, 3) := by decide +kernel
theorem d1_70 : decode prog_39_method_5_code 70 = .ok (.iload_n 0, 1) := by decide +kernel
theorem d1_71 : decode prog_39_method_5_code 71 = .ok (.ldc 35, 2) := by decide +kernel
theorem d1_73 : decode prog_39_method_5_code 73 = .ok (.if_icmp .gt 7, 3) := by decide +kernel
theorem d1_76 : decode prog_39_method_5_code 76 = .ok (.iconst 1, 1) := by decide +kernel
theorem d1_77 : decode prog_39_method_5_code 77 = .ok (.goto 4, 3) := by decide +kernel
theorem d1_80 : decode prog_39_method_5_code 80 = .ok (.iconst 0, 1) := by decide +kernel
theorem d1_81 : decode prog_39_method_5_code 81 = .ok (.ireturn, 1) := by decide +kernel
theorem ef_1 (m : MethodId) (z0 : Int32) (z1 : Bool) : entryFrame m #[.int z0, .int (b2i z1)] 2 = mkF m 0 #[.val (.int z0), .val (.int (b2i z1))] [] := by first | (simp [entryFrame, mkF, argsToLocals, Value.category]; done) | rfl
theorem pn_1 : plainName site_66.cls = true := by first | (simp [plainName, overriddenIn]; done) | decide +kernel
set_option maxRecDepth 65536 in
set_option maxHeartbeats 40000000 in
theorem rm1 (l : Launch) (Z : State) (a0 : Array Value) (hw : ∀ d ∈ tables_1, d.before a0 Z = true) (ws : List Jvm.Cond) (a : Int32) (bx : Bool) (h0 : Heap) (n0 : Nat) (Z0 : n0 ≤ h0.size) (hpos : 0 ≤ a.toInt) :
    Ctr l Z site_66 prog_39_method_5_code 2 (some .boolean) RM_rm1 ws #[.int a, .int (b2i bx)] h0 (PQ (.int (b2i (decide (((32 ≤ a.toInt ∧ a.toInt ≤ 55295) ∨ (57344 ≤ a.toInt ∧ a.toInt ≤ 65533) ∨ (65536 ≤ a.toInt ∧ a.toInt ≤ 1114111)) ∨ (bx = true ∧ 1 ≤ a.toInt ∧ a.toInt ≤ 31) ∨ (bx = false ∧ (a.toInt = 9 ∨ a.toInt = 10 ∨ a.toInt = 13)))))) h0) := by
  refine Ctr.of (plainFor_of_name pn_1) ?_
  intro p e s m below meth c s₁ hx hby hml hrt hlk hnm hown hZ X0 e0
  have N0 := Fr.nil n0
  refine Go.cast (ef_1 m a bx) ?_
  refine g_iloadN (q := 1) X0.here hx (hb hby d1_0) rfl rfl ?_
  refine g_bipush (q := 3) (v := (32 : Int32)) X0.here hx (hb hby d1_1) rfl rfl ?_
  refine g_icmp_ge (q := 46) (q0 := 6) X0.here hx (hb hby d1_3) (by decide) (by decide) rfl ?_ ?_
  · intro c1
    refine g_iloadN (q := 47) X0.here hx (hb hby d1_46) rfl rfl ?_
    refine g_ldcI (q := 49) X0 hx hZ hown (hw _ (List.mem_of_getElem? (i := 17) rfl)) (hb hby d1_47) rfl ?_
    refine g_icmp_le (q := 76) (q0 := 52) X0.here hx (hb hby d1_49) (by decide) (by decide) rfl ?_ ?_
    · intro c2
      refine g_iconst (q := 77) (v := (1 : Int32)) X0.here hx (hb hby d1_76) rfl rfl ?_
      refine g_goto (q := 81) X0.here hx (hb hby d1_77) (by decide) (by decide) ?_
      exact g_zreturn (b := true) X0 hx hlk hrt (hb hby d1_81) (by decide) (by decide) ⟨eqT (by (try replace c1 := own_d.1 c1); (try replace c1 := own_d.2 c1); (try subst c1); (try replace c2 := own_d.1 c2); (try replace c2 := own_d.2 c2); (try subst c2); (try simp only [Bool.false_eq_true, Bool.true_eq_false, reduceCtorEq, true_and, false_and, or_false, false_or, and_true, and_false] at *); (try simp only [Int32.reduceToInt, Int64.reduceToInt] at c1); (try simp only [Int32.reduceToInt, Int64.reduceToInt] at c2); have f1 := rng32 a; (try simp only [Int32.reduceToInt, Int64.reduceToInt] at f1); (try simp only [Int32.reduceToInt, Int64.reduceToInt, and_true, true_and, or_true, true_or]); (first | done | omega)), e0, rfl⟩
    · intro c2
      refine g_iloadN (q := 53) X0.here hx (hb hby d1_52) rfl rfl ?_
      refine g_ldcI (q := 55) X0 hx hZ hown (hw _ (List.mem_of_getElem? (i := 19) rfl)) (hb hby d1_53) rfl ?_
      refine g_icmp_lt (q := 64) (q0 := 58) X0.here hx (hb hby d1_55) (by decide) (by decide) rfl ?_ ?_
      · intro c3
        refine g_iloadN (q := 65) X0.here hx (hb hby d1_64) rfl rfl ?_
        refine g_ldcI (q := 67) X0 hx hZ hown (hw _ (List.mem_of_getElem? (i := 21) rfl)) (hb hby d1_65) rfl ?_
        refine g_icmp_lt (q := 80) (q0 := 70) X0.here hx (hb hby d1_67) (by decide) (by decide) rfl ?_ ?_
        · intro c4
          refine g_iconst (q := 81) (v := (0 : Int32)) X0.here hx (hb hby d1_80) rfl rfl ?_
          exact g_zreturn (b := false) X0 hx hlk hrt (hb hby d1_81) (by decide) (by decide) ⟨eqF (by (try replace c1 := own_d.1 c1); (try replace c1 := own_d.2 c1); (try subst c1); (try replace c2 := own_d.1 c2); (try replace c2 := own_d.2 c2); (try subst c2); (try replace c3 := own_d.1 c3); (try replace c3 := own_d.2 c3); (try subst c3); (try replace c4 := own_d.1 c4); (try replace c4 := own_d.2 c4); (try subst c4); (try simp only [Bool.false_eq_true, Bool.true_eq_false, reduceCtorEq, true_and, false_and, or_false, false_or, and_true, and_false] at *); (try simp only [Int32.reduceToInt, Int64.reduceToInt] at c1); (try simp only [Int32.reduceToInt, Int64.reduceToInt] at c2); (try simp only [Int32.reduceToInt, Int64.reduceToInt] at c3); (try simp only [Int32.reduceToInt, Int64.reduceToInt] at c4); have f1 := rng32 a; (try simp only [Int32.reduceToInt, Int64.reduceToInt] at f1); (try simp only [Int32.reduceToInt, Int64.reduceToInt, and_true, true_and, or_true, true_or]); (first | done | omega)), e0, rfl⟩
        · intro c4
          refine g_iloadN (q := 71) X0.here hx (hb hby d1_70) rfl rfl ?_
          refine g_ldcI (q := 73) X0 hx hZ hown (hw _ (List.mem_of_getElem? (i := 22) rfl)) (hb hby d1_71) rfl ?_
          refine g_sel_icmp_gt (q := 81) X0.here hx (hb hby d1_73) (by decide) (by decide) rfl (hb hby d1_80) (hb hby d1_76) (hb hby d1_77) rfl (by decide) (by decide) rfl ?_
          exact g_zreturn (b := decide (a.toInt ≤ (1114111 : Int32).toInt)) X0 hx hlk hrt (hb hby d1_81) (by decide) (by decide) ⟨eqD (by (try replace c1 := own_d.1 c1); (try replace c1 := own_d.2 c1); (try subst c1); (try replace c2 := own_d.1 c2); (try replace c2 := own_d.2 c2); (try subst c2); (try replace c3 := own_d.1 c3); (try replace c3 := own_d.2 c3); (try subst c3); (try replace c4 := own_d.1 c4); (try replace c4 := own_d.2 c4); (try subst c4); (try simp only [Bool.false_eq_true, Bool.true_eq_false, reduceCtorEq, true_and, false_and, or_false, false_or, and_true, and_false] at *); (try simp only [Int32.reduceToInt, Int64.reduceToInt] at c1); (try simp only [Int32.reduceToInt, Int64.reduceToInt] at c2); (try simp only [Int32.reduceToInt, Int64.reduceToInt] at c3); (try simp only [Int32.reduceToInt, Int64.reduceToInt] at c4); have f1 := rng32 a; (try simp only [Int32.reduceToInt, Int64.reduceToInt] at f1); (try simp only [Int32.reduceToInt, Int64.reduceToInt, and_true, true_and, or_true, true_or]); (first | done | omega)), e0, rfl⟩
      · intro c3
        refine g_iloadN (q := 59) X0.here hx (hb hby d1_58) rfl rfl ?_
        refine g_ldcI (q := 61) X0 hx hZ hown (hw _ (List.mem_of_getElem? (i := 20) rfl)) (hb hby d1_59) rfl ?_
        refine g_icmp_le (q := 76) (q0 := 64) X0.here hx (hb hby d1_61) (by decide) (by decide) rfl ?_ ?_
        · intro c5
          refine g_iconst (q := 77) (v := (1 : Int32)) X0.here hx (hb hby d1_76) rfl rfl ?_
          refine g_goto (q := 81) X0.here hx (hb hby d1_77) (by decide) (by decide) ?_
          exact g_zreturn (b := true) X0 hx hlk hrt (hb hby d1_81) (by decide) (by decide) ⟨eqT (by (try replace c1 := own_d.1 c1); (try replace c1 := own_d.2 c1); (try subst c1); (try replace c2 := own_d.1 c2); (try replace c2 := own_d.2 c2); (try subst c2); (try replace c3 := own_d.1 c3); (try replace c3 := own_d.2 c3); (try subst c3); (try replace c5 := own_d.1 c5); (try replace c5 := own_d.2 c5); (try subst c5); (try simp only [Bool.false_eq_true, Bool.true_eq_false, reduceCtorEq, true_and, false_and, or_false, false_or, and_true, and_false] at *); (try simp only [Int32.reduceToInt, Int64.reduceToInt] at c1); (try simp only [Int32.reduceToInt, Int64.reduceToInt] at c2); (try simp only [Int32.reduceToInt, Int64.reduceToInt] at c3); (try simp only [Int32.reduceToInt, Int64.reduceToInt] at c5); have f1 := rng32 a; (try simp only [Int32.reduceToInt, Int64.reduceToInt] at f1); (try simp only [Int32.reduceToInt, Int64.reduceToInt, and_true, true_and, or_true, true_or]); (first | done | omega)), e0, rfl⟩
        · intro c5
          refine g_iloadN (q := 65) X0.here hx (hb hby d1_64) rfl rfl ?_
          refine g_ldcI (q := 67) X0 hx hZ hown (hw _ (List.mem_of_getElem? (i := 21) rfl)) (hb hby d1_65) rfl ?_
          refine g_icmp_lt (q := 80) (q0 := 70) X0.here hx (hb hby d1_67) (by decide) (by decide) rfl ?_ ?_
          · intro c6
            refine g_iconst (q := 81) (v := (0 : Int32)) X0.here hx (hb hby d1_80) rfl rfl ?_
            exact g_zreturn (b := false) X0 hx hlk hrt (hb hby d1_81) (by decide) (by decide) ⟨eqF (by (try replace c1 := own_d.1 c1); (try replace c1 := own_d.2 c1); (try subst c1); (try replace c2 := own_d.1 c2); (try replace c2 := own_d.2 c2); (try subst c2); (try replace c3 := own_d.1 c3); (try replace c3 := own_d.2 c3); (try subst c3); (try replace c5 := own_d.1 c5); (try replace c5 := own_d.2 c5); (try subst c5); (try replace c6 := own_d.1 c6); (try replace c6 := own_d.2 c6); (try subst c6); (try simp only [Bool.false_eq_true, Bool.true_eq_false, reduceCtorEq, true_and, false_and, or_false, false_or, and_true, and_false] at *); (try simp only [Int32.reduceToInt, Int64.reduceToInt] at c1); (try simp only [Int32.reduceToInt, Int64.reduceToInt] at c2); (try simp only [Int32.reduceToInt, Int64.reduceToInt] at c3); (try simp only [Int32.reduceToInt, Int64.reduceToInt] at c5); (try simp only [Int32.reduceToInt, Int64.reduceToInt] at c6); have f1 := rng32 a; (try simp only [Int32.reduceToInt, Int64.reduceToInt] at f1); (try simp only [Int32.reduceToInt, Int64.reduceToInt, and_true, true_and, or_true, true_or]); (first | done | omega)), e0, rfl⟩
          · intro c6
            refine g_iloadN (q := 71) X0.here hx (hb hby d1_70) rfl rfl ?_
            refine g_ldcI (q := 73) X0 hx hZ hown (hw _ (List.mem_of_getElem? (i := 22) rfl)) (hb hby d1_71) rfl ?_
            refine g_sel_icmp_gt (q := 81) X0.here hx (hb hby d1_73) (by decide) (by decide) rfl (hb hby d1_80) (hb hby d1_76) (hb hby d1_77) rfl (by decide) (by decide) rfl ?_
            exact g_zreturn (b := decide (a.toInt ≤ (1114111 : Int32).toInt)) X0 hx hlk hrt (hb hby d1_81) (by decide) (by decide) ⟨eqD (by (try replace c1 := own_d.1 c1); (try replace c1 := own_d.2 c1); (try subst c1); (try replace c2 := own_d.1 c2); (try replace c2 := own_d.2 c2); (try subst c2); (try replace c3 := own_d.1 c3); (try replace c3 := own_d.2 c3); (try subst c3); (try replace c5 := own_d.1 c5); (try replace c5 := own_d.2 c5); (try subst c5); (try replace c6 := own_d.1 c6); (try replace c6 := own_d.2 c6); (try subst c6); (try simp only [Bool.false_eq_true, Bool.true_eq_false, reduceCtorEq, true_and, false_and, or_false, false_or, and_true, and_false] at *); (try simp only [Int32.reduceToInt, Int64.reduceToInt] at c1); (try simp only [Int32.reduceToInt, Int64.reduceToInt] at c2); (try simp only [Int32.reduceToInt, Int64.reduceToInt] at c3); (try simp only [Int32.reduceToInt, Int64.reduceToInt] at c5); (try simp only [Int32.reduceToInt, Int64.reduceToInt] at c6); have f1 := rng32 a; (try simp only [Int32.reduceToInt, Int64.reduceToInt] at f1); (try simp only [Int32.reduceToInt, Int64.reduceToInt, and_true, true_and, or_true, true_or]); (first | done | omega)), e0, rfl⟩
  · intro c1
    refine g_iloadN (q := 7) X0.here hx (hb hby d1_6) rfl rfl ?_
    refine g_ifB_eq (q := 22) (q0 := 10) X0.here hx (hb hby d1_7) (by decide) (by decide) rfl ?_ ?_
    · intro c7
      refine g_iloadN (q := 23) X0.here hx (hb hby d1_22) rfl rfl ?_
      refine g_bipush (q := 25) (v := (9 : Int32)) X0.here hx (hb hby d1_23) rfl rfl ?_
      refine g_icmp_eq (q := 40) (q0 := 28) X0.here hx (hb hby d1_25) (by decide) (by decide) rfl ?_ ?_
      · intro c8
        refine g_iconst (q := 41) (v := (1 : Int32)) X0.here hx (hb hby d1_40) rfl rfl ?_
        refine g_goto (q := 45) X0.here hx (hb hby d1_41) (by decide) (by decide) ?_
        exact g_zreturn (b := true) X0 hx hlk hrt (hb hby d1_45) (by decide) (by decide) ⟨eqT (by (try replace c1 := own_d.1 c1); (try replace c1 := own_d.2 c1); (try subst c1); (try replace c7 := own_d.1 c7); (try replace c7 := own_d.2 c7); (try subst c7); (try replace c8 := own_d.1 c8); (try replace c8 := own_d.2 c8); (try subst c8); (try simp only [Bool.false_eq_true, Bool.true_eq_false, reduceCtorEq, true_and, false_and, or_false, false_or, and_true, and_false] at *); (try simp only [Int32.reduceToInt, Int64.reduceToInt] at c1); (try simp only [Int32.reduceToInt, Int64.reduceToInt] at c7); (try simp only [Int32.reduceToInt, Int64.reduceToInt] at c8); have f1 := rng32 a; (try simp only [Int32.reduceToInt, Int64.reduceToInt] at f1); (try simp only [Int32.reduceToInt, Int64.reduceToInt, and_true, true_and, or_true, true_or]); (first | done | omega)), e0, rfl⟩
      · intro c8
        refine g_iloadN (q := 29) X0.here hx (hb hby d1_28) rfl rfl ?_
        refine g_bipush (q := 31) (v := (10 : Int32)) X0.here hx (hb hby d1_29) rfl rfl ?_
        refine g_icmp_eq (q := 40) (q0 := 34) X0.here hx (hb hby d1_31) (by decide) (by decide) rfl ?_ ?_
        · intro c9
          refine g_iconst (q := 41) (v := (1 : Int32)) X0.here hx (hb hby d1_40) rfl rfl ?_
          refine g_goto (q := 45) X0.here hx (hb hby d1_41) (by decide) (by decide) ?_
          exact g_zreturn (b := true) X0 hx hlk hrt (hb hby d1_45) (by decide) (by decide) ⟨eqT (by (try replace c1 := own_d.1 c1); (try replace c1 := own_d.2 c1); (try subst c1); (try replace c7 := own_d.1 c7); (try replace c7 := own_d.2 c7); (try subst c7); (try replace c8 := own_d.1 c8); (try replace c8 := own_d.2 c8); (try subst c8); (try replace c9 := own_d.1 c9); (try replace c9 := own_d.2 c9); (try subst c9); (try simp only [Bool.false_eq_true, Bool.true_eq_false, reduceCtorEq, true_and, false_and, or_false, false_or, and_true, and_false] at *); (try simp only [Int32.reduceToInt, Int64.reduceToInt] at c1); (try simp only [Int32.reduceToInt, Int64.reduceToInt] at c7); (try simp only [Int32.reduceToInt, Int64.reduceToInt] at c8); (try simp only [Int32.reduceToInt, Int64.reduceToInt] at c9); have f1 := rng32 a; (try simp only [Int32.reduceToInt, Int64.reduceToInt] at f1); (try simp only [Int32.reduceToInt, Int64.reduceToInt, and_true, true_and, or_true, true_or]); (first | done | omega)), e0, rfl⟩
        · intro c9
          refine g_iloadN (q := 35) X0.here hx (hb hby d1_34) rfl rfl ?_
          refine g_bipush (q := 37) (v := (13 : Int32)) X0.here hx (hb hby d1_35) rfl rfl ?_
          refine g_sel_icmp_ne (q := 45) X0.here hx (hb hby d1_37) (by decide) (by decide) rfl (hb hby d1_44) (hb hby d1_40) (hb hby d1_41) rfl (by decide) (by decide) rfl ?_
          exact g_zreturn (b := decide (a.toInt = (13 : Int32).toInt)) X0 hx hlk hrt (hb hby d1_45) (by decide) (by decide) ⟨eqD (by (try replace c1 := own_d.1 c1); (try replace c1 := own_d.2 c1); (try subst c1); (try replace c7 := own_d.1 c7); (try replace c7 := own_d.2 c7); (try subst c7); (try replace c8 := own_d.1 c8); (try replace c8 := own_d.2 c8); (try subst c8); (try replace c9 := own_d.1 c9); (try replace c9 := own_d.2 c9); (try subst c9); (try simp only [Bool.false_eq_true, Bool.true_eq_false, reduceCtorEq, true_and, false_and, or_false, false_or, and_true, and_false] at *); (try simp only [Int32.reduceToInt, Int64.reduceToInt] at c1); (try simp only [Int32.reduceToInt, Int64.reduceToInt] at c7); (try simp only [Int32.reduceToInt, Int64.reduceToInt] at c8); (try simp only [Int32.reduceToInt, Int64.reduceToInt] at c9); have f1 := rng32 a; (try simp only [Int32.reduceToInt, Int64.reduceToInt] at f1); (try simp only [Int32.reduceToInt, Int64.reduceToInt, and_true, true_and, or_true, true_or]); (first | done | omega)), e0, rfl⟩
    · intro c7
      refine g_iloadN (q := 11) X0.here hx (hb hby d1_10) rfl rfl ?_
      refine g_if_eq (q := 18) (q0 := 14) X0.here hx (hb hby d1_11) (by decide) (by decide) rfl ?_ ?_
      · intro c10
        refine g_iconst (q := 19) (v := (0 : Int32)) X0.here hx (hb hby d1_18) rfl rfl ?_
        refine g_goto (q := 45) X0.here hx (hb hby d1_19) (by decide) (by decide) ?_
        exact g_zreturn (b := false) X0 hx hlk hrt (hb hby d1_45) (by decide) (by decide) ⟨eqF (by (try replace c1 := own_d.1 c1); (try replace c1 := own_d.2 c1); (try subst c1); (try replace c7 := own_d.1 c7); (try replace c7 := own_d.2 c7); (try subst c7); (try replace c10 := own_d.1 c10); (try replace c10 := own_d.2 c10); (try subst c10); (try simp only [Bool.false_eq_true, Bool.true_eq_false, reduceCtorEq, true_and, false_and, or_false, false_or, and_true, and_false] at *); (try simp only [Int32.reduceToInt, Int64.reduceToInt] at c1); (try simp only [Int32.reduceToInt, Int64.reduceToInt] at c7); (try simp only [Int32.reduceToInt, Int64.reduceToInt] at c10); have f1 := rng32 a; (try simp only [Int32.reduceToInt, Int64.reduceToInt] at f1); (try simp only [Int32.reduceToInt, Int64.reduceToInt, and_true, true_and, or_true, true_or]); (first | done | omega)), e0, rfl⟩
      · intro c10
        refine g_iconst (q := 15) (v := (1 : Int32)) X0.here hx (hb hby d1_14) rfl rfl ?_
        refine g_goto (q := 45) X0.here hx (hb hby d1_15) (by decide) (by decide) ?_
        exact g_zreturn (b := true) X0 hx hlk hrt (hb hby d1_45) (by decide) (by decide) ⟨eqT (by (try replace c1 := own_d.1 c1); (try replace c1 := own_d.2 c1); (try subst c1); (try replace c7 := own_d.1 c7); (try replace c7 := own_d.2 c7); (try subst c7); (try replace c10 := own_d.1 c10); (try replace c10 := own_d.2 c10); (try subst c10); (try simp only [Bool.false_eq_true, Bool.true_eq_false, reduceCtorEq, true_and, false_and, or_false, false_or, and_true, and_false] at *); (try simp only [Int32.reduceToInt, Int64.reduceToInt] at c1); (try simp only [Int32.reduceToInt, Int64.reduceToInt] at c7); (try simp only [Int32.reduceToInt, Int64.reduceToInt] at c10); have f1 := rng32 a; (try simp only [Int32.reduceToInt, Int64.reduceToInt] at f1); (try simp only [Int32.reduceToInt, Int64.reduceToInt, and_true, true_and, or_true, true_or]); (first | done | omega)), e0, rfl⟩
theorem pd_1 : parseMethodDescriptor "(IZ)Z" = some ⟨[.int, .boolean], some .boolean⟩ := by decide +kernel
theorem ef_0 (m : MethodId) (z0 : Int32) (z1 : Int32) : entryFrame m #[.int z0, .int z1] maxLocals = mkF m 0 #[.val (.int z0), .val (.int z1), .unset, .unset, .unset] [] := by first | (simp [entryFrame, mkF, argsToLocals, Value.category, maxLocals]; done) | rfl
set_option maxRecDepth 65536 in
set_option maxHeartbeats 40000000 in
theorem rm0 (l : Launch) (Z : State) (a0 : Array Value) (hw : ∀ d ∈ tables_1, d.before a0 Z = true) (ws : List Jvm.Cond) (a : Int32) (k : Int32) (h0 : Heap) (n0 : Nat) (Z0 : n0 ≤ h0.size) :
    Ctr l Z x code maxLocals ret room_1 ws #[.int a, .int k] h0 (fun v h L => v = some (.int 1) ∧ Fr n0 L) := by
  refine Ctr.of (plainFor_of_name pn_0) ?_
  intro p e s m below meth c s₁ hx hby hml hrt hlk hnm hown hZ X0 e0
  have N0 := Fr.nil n0
  refine Go.cast (ef_0 m a k) ?_
  replace hown : s.vm.findClass x.cls = some m.cls := hown
  replace hml : c.maxLocals = 5 := hml
  replace hrt : meth.sig.returnType = some .boolean := hrt
  refine g_iloadN (q := 1) X0.here hx (hb hby at_0) rfl rfl ?_
  refine g_iconst (q := 2) (v := (3 : Int32)) X0.here hx (hb hby at_1) rfl rfl ?_
  refine g_iand (q := 3) X0.here hx (hb hby at_2) rfl ?_
  refine g_istoreN (q := 4) (L' := #[.val (.int a), .val (.int k), .val (.int (k &&& (3 : Int32))), .unset, .unset]) X0.here hx (hb hby at_3) rfl rfl ?_
  refine g_iloadN (q := 5) X0.here hx (hb hby at_4) rfl rfl ?_
  refine g_iconst (q := 6) (v := (4 : Int32)) X0.here hx (hb hby at_5) rfl rfl ?_
  refine g_iand (q := 7) X0.here hx (hb hby at_6) rfl ?_
  refine g_sel_if_eq (q := 15) X0.here hx (hb hby at_7) (by decide) (by decide) rfl (hb hby at_14) (hb hby at_10) (hb hby at_11) rfl (by decide) (by decide) rfl ?_
  refine g_istoreN (q := 16) (L' := #[.val (.int a), .val (.int k), .val (.int (k &&& (3 : Int32))), .val (.int (b2i (decide ((k &&& (4 : Int32)).toInt ≠ 0)))), .unset]) X0.here hx (hb hby at_15) rfl rfl ?_
  refine g_iloadN (q := 17) X0.here hx (hb hby at_16) rfl rfl ?_
  refine g_if_ne (q := 29) (q0 := 20) X0.here hx (hb hby at_17) (by decide) (by decide) rfl ?_ ?_
  · intro c1
    refine g_iloadN (q := 30) X0.here hx (hb hby at_29) rfl rfl ?_
    refine g_iconst (q := 31) (v := (1 : Int32)) X0.here hx (hb hby at_30) rfl rfl ?_
    refine g_icmp_ne (q := 43) (q0 := 34) X0.here hx (hb hby at_31) (by decide) (by decide) rfl ?_ ?_
    · intro c2
      refine g_iloadN (q := 44) X0.here hx (hb hby at_43) rfl rfl ?_
      refine g_iconst (q := 45) (v := (2 : Int32)) X0.here hx (hb hby at_44) rfl rfl ?_
      refine g_icmp_ne (q := 57) (q0 := 48) X0.here hx (hb hby at_45) (by decide) (by decide) rfl ?_ ?_
      · intro c3
        refine g_iloadN (q := 58) X0.here hx (hb hby at_57) rfl rfl ?_
        refine g_bipush (q := 60) (v := (63 : Int32)) X0.here hx (hb hby at_58) rfl rfl ?_
        refine g_iand (q := 61) X0.here hx (hb hby at_60) rfl ?_
        refine g_istore (q := 63) (L' := #[.val (.int a), .val (.int k), .val (.int (k &&& (3 : Int32))), .val (.int (b2i (decide ((k &&& (4 : Int32)).toInt ≠ 0)))), .val (.int (a &&& (63 : Int32)))]) X0.here hx (hb hby at_61) rfl rfl ?_
        refine g_iload (q := 65) X0.here hx (hb hby at_63) rfl rfl ?_
        refine g_iloadN (q := 66) X0.here hx (hb hby at_65) rfl rfl ?_
        refine g_callSP (q := 69) X0 hx hZ hown (hw _ (List.mem_of_getElem? (i := 0) rfl)) (hw _ (List.mem_of_getElem? (i := 1) rfl)) (hw _ (List.mem_of_getElem? (i := 2) rfl)) (hw _ (List.mem_of_getElem? (i := 3) rfl)) (by decide) (rm1 l Z a0 hw [] (a &&& (63 : Int32)) (decide ((k &&& (4 : Int32)).toInt ≠ 0)) h0 n0 Z0 (by (try simp only [Int32.reduceToInt, Int64.reduceToInt] at c1); (try simp only [Int32.reduceToInt, Int64.reduceToInt] at c2); (try simp only [Int32.reduceToInt, Int64.reduceToInt] at c3); have f2 := rng32 k; (try simp only [Int32.reduceToInt, Int64.reduceToInt] at f2); have f3 := rng32 (k &&& (3 : Int32)); (try simp only [Int32.reduceToInt, Int64.reduceToInt] at f3); have f4 := c_mask k (3 : Int32) 2 (by decide) (by decide); (try simp only [Int32.reduceToInt, Int64.reduceToInt] at f4); (try have f4e : (k &&& (3 : Int32)).toInt = k.toInt ∨ (k &&& (3 : Int32)).toInt = k.toInt + 4 := (by omega)); have f7 := rng32 a; (try simp only [Int32.reduceToInt, Int64.reduceToInt] at f7); have f8 := rng32 (a &&& (63 : Int32)); (try simp only [Int32.reduceToInt, Int64.reduceToInt] at f8); have f9 := c_mask a (63 : Int32) 6 (by decide) (by decide); (try simp only [Int32.reduceToInt, Int64.reduceToInt] at f9); (try have f9e : (a &&& (63 : Int32)).toInt = a.toInt ∨ (a &&& (63 : Int32)).toInt = a.toInt + 64 := (by omega)); (try simp only [Int32.reduceToInt, Int64.reduceToInt, and_true, true_and, or_true, true_or]); (first | done | omega))) (argsL := [.int (a &&& (63 : Int32)), .int (b2i (decide ((k &&& (4 : Int32)).toInt ≠ 0)))]) (rest := []) pd_1 rfl rfl rfl (hb hby at_66) rfl (by rw [hml]; rfl) e0 (by decide) (W := 0) rfl (by decide) rfl rfl (by decide) (by decide) ?_
        intro T4 X4 e4
        refine g_iload (q := 71) X4.here hx (hb hby at_69) rfl rfl ?_
        refine g_iloadN (q := 72) X4.here hx (hb hby at_71) rfl rfl ?_
        refine g_callSP (q := 75) X4 hx hZ hown (hw _ (List.mem_of_getElem? (i := 4) rfl)) (hw _ (List.mem_of_getElem? (i := 5) rfl)) (hw _ (List.mem_of_getElem? (i := 6) rfl)) (hw _ (List.mem_of_getElem? (i := 7) rfl)) (by decide) (rm2 l Z a0 hw [] (a &&& (63 : Int32)) (decide ((k &&& (4 : Int32)).toInt ≠ 0)) h0 n0 Z0) (argsL := [.int (a &&& (63 : Int32)), .int (b2i (decide ((k &&& (4 : Int32)).toInt ≠ 0)))]) (rest := [.int (b2i (decide (((32 ≤ (a &&& (63 : Int32)).toInt ∧ (a &&& (63 : Int32)).toInt ≤ 55295) ∨ (57344 ≤ (a &&& (63 : Int32)).toInt ∧ (a &&& (63 : Int32)).toInt ≤ 65533) ∨ (65536 ≤ (a &&& (63 : Int32)).toInt ∧ (a &&& (63 : Int32)).toInt ≤ 1114111)) ∨ ((decide ((k &&& (4 : Int32)).toInt ≠ 0)) = true ∧ 1 ≤ (a &&& (63 : Int32)).toInt ∧ (a &&& (63 : Int32)).toInt ≤ 31) ∨ ((decide ((k &&& (4 : Int32)).toInt ≠ 0)) = false ∧ ((a &&& (63 : Int32)).toInt = 9 ∨ (a &&& (63 : Int32)).toInt = 10 ∨ (a &&& (63 : Int32)).toInt = 13)))))]) pd_1 rfl rfl rfl (hb hby at_72) rfl (by rw [hml]; rfl) e4 (by decide) (W := 1) rfl (by decide) rfl rfl (by decide) (by decide) ?_
        intro T5 X5 e5
        refine g_selBB_ne (q := 83) X5.here hx (hb hby at_75) (by decide) (by decide) rfl (hb hby at_82) (hb hby at_78) (hb hby at_79) rfl (by decide) (by decide) rfl ?_
        exact g_zreturn (b := ((decide (((32 ≤ (a &&& (63 : Int32)).toInt ∧ (a &&& (63 : Int32)).toInt ≤ 55295) ∨ (57344 ≤ (a &&& (63 : Int32)).toInt ∧ (a &&& (63 : Int32)).toInt ≤ 65533) ∨ (65536 ≤ (a &&& (63 : Int32)).toInt ∧ (a &&& (63 : Int32)).toInt ≤ 1114111)) ∨ ((decide ((k &&& (4 : Int32)).toInt ≠ 0)) = true ∧ 1 ≤ (a &&& (63 : Int32)).toInt ∧ (a &&& (63 : Int32)).toInt ≤ 31) ∨ ((decide ((k &&& (4 : Int32)).toInt ≠ 0)) = false ∧ ((a &&& (63 : Int32)).toInt = 9 ∨ (a &&& (63 : Int32)).toInt = 10 ∨ (a &&& (63 : Int32)).toInt = 13)))) == (decide (((32 ≤ (a &&& (63 : Int32)).toInt ∧ (a &&& (63 : Int32)).toInt ≤ 55295) ∨ (57344 ≤ (a &&& (63 : Int32)).toInt ∧ (a &&& (63 : Int32)).toInt ≤ 65533) ∨ (65536 ≤ (a &&& (63 : Int32)).toInt ∧ (a &&& (63 : Int32)).toInt ≤ 1114111)) ∨ ((decide ((k &&& (4 : Int32)).toInt ≠ 0)) = true ∧ 1 ≤ (a &&& (63 : Int32)).toInt ∧ (a &&& (63 : Int32)).toInt ≤ 31) ∨ ((decide ((k &&& (4 : Int32)).toInt ≠ 0)) = false ∧ ((a &&& (63 : Int32)).toInt = 9 ∨ (a &&& (63 : Int32)).toInt = 10 ∨ (a &&& (63 : Int32)).toInt = 13)))))) X5 hx hlk hrt (hb hby at_83) (by decide) (by decide) ⟨okB (beq_self_eq_true _), (Fr.nil n0)⟩
      · intro c3
        refine g_iloadN (q := 49) X0.here hx (hb hby at_48) rfl rfl ?_
        refine g_ldcI (q := 51) X0 hx hZ hown (hw _ (List.mem_of_getElem? (i := 23) rfl)) (hb hby at_49) rfl ?_
        refine g_iand (q := 52) X0.here hx (hb hby at_51) rfl ?_
        refine g_istore (q := 54) (L' := #[.val (.int a), .val (.int k), .val (.int (k &&& (3 : Int32))), .val (.int (b2i (decide ((k &&& (4 : Int32)).toInt ≠ 0)))), .val (.int (a &&& (65535 : Int32)))]) X0.here hx (hb hby at_52) rfl rfl ?_
        refine g_goto (q := 63) X0.here hx (hb hby at_54) (by decide) (by decide) ?_
        refine g_iload (q := 65) X0.here hx (hb hby at_63) rfl rfl ?_
        refine g_iloadN (q := 66) X0.here hx (hb hby at_65) rfl rfl ?_
        refine g_callSP (q := 69) X0 hx hZ hown (hw _ (List.mem_of_getElem? (i := 0) rfl)) (hw _ (List.mem_of_getElem? (i := 1) rfl)) (hw _ (List.mem_of_getElem? (i := 2) rfl)) (hw _ (List.mem_of_getElem? (i := 3) rfl)) (by decide) (rm1 l Z a0 hw [] (a &&& (65535 : Int32)) (decide ((k &&& (4 : Int32)).toInt ≠ 0)) h0 n0 Z0 (by (try simp only [Int32.reduceToInt, Int64.reduceToInt] at c1); (try simp only [Int32.reduceToInt, Int64.reduceToInt] at c2); (try simp only [Int32.reduceToInt, Int64.reduceToInt] at c3); have f2 := rng32 k; (try simp only [Int32.reduceToInt, Int64.reduceToInt] at f2); have f3 := rng32 (k &&& (3 : Int32)); (try simp only [Int32.reduceToInt, Int64.reduceToInt] at f3); have f4 := c_mask k (3 : Int32) 2 (by decide) (by decide); (try simp only [Int32.reduceToInt, Int64.reduceToInt] at f4); (try have f4e : (k &&& (3 : Int32)).toInt = k.toInt ∨ (k &&& (3 : Int32)).toInt = k.toInt + 4 := (by omega)); have f7 := rng32 a; (try simp only [Int32.reduceToInt, Int64.reduceToInt] at f7); have f8 := rng32 (a &&& (65535 : Int32)); (try simp only [Int32.reduceToInt, Int64.reduceToInt] at f8); have f9 := c_mask a (65535 : Int32) 16 (by decide) (by decide); (try simp only [Int32.reduceToInt, Int64.reduceToInt] at f9); (try have f9e : (a &&& (65535 : Int32)).toInt = a.toInt ∨ (a &&& (65535 : Int32)).toInt = a.toInt + 65536 := (by omega)); (try simp only [Int32.reduceToInt, Int64.reduceToInt, and_true, true_and, or_true, true_or]); (first | done | omega))) (argsL := [.int (a &&& (65535 : Int32)), .int (b2i (decide ((k &&& (4 : Int32)).toInt ≠ 0)))]) (rest := []) pd_1 rfl rfl rfl (hb hby at_66) rfl (by rw [hml]; rfl) e0 (by decide) (W := 0) rfl (by decide) rfl rfl (by decide) (by decide) ?_
        intro T6 X6 e6
        refine g_iload (q := 71) X6.here hx (hb hby at_69) rfl rfl ?_
        refine g_iloadN (q := 72) X6.here hx (hb hby at_71) rfl rfl ?_
        refine g_callSP (q := 75) X6 hx hZ hown (hw _ (List.mem_of_getElem? (i := 4) rfl)) (hw _ (List.mem_of_getElem? (i := 5) rfl)) (hw _ (List.mem_of_getElem? (i := 6) rfl)) (hw _ (List.mem_of_getElem? (i := 7) rfl)) (by decide) (rm2 l Z a0 hw [] (a &&& (65535 : Int32)) (decide ((k &&& (4 : Int32)).toInt ≠ 0)) h0 n0 Z0) (argsL := [.int (a &&& (65535 : Int32)), .int (b2i (decide ((k &&& (4 : Int32)).toInt ≠ 0)))]) (rest := [.int (b2i (decide (((32 ≤ (a &&& (65535 : Int32)).toInt ∧ (a &&& (65535 : Int32)).toInt ≤ 55295) ∨ (57344 ≤ (a &&& (65535 : Int32)).toInt ∧ (a &&& (65535 : Int32)).toInt ≤ 65533) ∨ (65536 ≤ (a &&& (65535 : Int32)).toInt ∧ (a &&& (65535 : Int32)).toInt ≤ 1114111)) ∨ ((decide ((k &&& (4 : Int32)).toInt ≠ 0)) = true ∧ 1 ≤ (a &&& (65535 : Int32)).toInt ∧ (a &&& (65535 : Int32)).toInt ≤ 31) ∨ ((decide ((k &&& (4 : Int32)).toInt ≠ 0)) = false ∧ ((a &&& (65535 : Int32)).toInt = 9 ∨ (a &&& (65535 : Int32)).toInt = 10 ∨ (a &&& (65535 : Int32)).toInt = 13)))))]) pd_1 rfl rfl rfl (hb hby at_72) rfl (by rw [hml]; rfl) e6 (by decide) (W := 1) rfl (by decide) rfl rfl (by decide) (by decide) ?_
        intro T7 X7 e7
        refine g_selBB_ne (q := 83) X7.here hx (hb hby at_75) (by decide) (by decide) rfl (hb hby at_82) (hb hby at_78) (hb hby at_79) rfl (by decide) (by decide) rfl ?_
        exact g_zreturn (b := ((decide (((32 ≤ (a &&& (65535 : Int32)).toInt ∧ (a &&& (65535 : Int32)).toInt ≤ 55295) ∨ (57344 ≤ (a &&& (65535 : Int32)).toInt ∧ (a &&& (65535 : Int32)).toInt ≤ 65533) ∨ (65536 ≤ (a &&& (65535 : Int32)).toInt ∧ (a &&& (65535 : Int32)).toInt ≤ 1114111)) ∨ ((decide ((k &&& (4 : Int32)).toInt ≠ 0)) = true ∧ 1 ≤ (a &&& (65535 : Int32)).toInt ∧ (a &&& (65535 : Int32)).toInt ≤ 31) ∨ ((decide ((k &&& (4 : Int32)).toInt ≠ 0)) = false ∧ ((a &&& (65535 : Int32)).toInt = 9 ∨ (a &&& (65535 : Int32)).toInt = 10 ∨ (a &&& (65535 : Int32)).toInt = 13)))) == (decide (((32 ≤ (a &&& (65535 : Int32)).toInt ∧ (a &&& (65535 : Int32)).toInt ≤ 55295) ∨ (57344 ≤ (a &&& (65535 : Int32)).toInt ∧ (a &&& (65535 : Int32)).toInt ≤ 65533) ∨ (65536 ≤ (a &&& (65535 : Int32)).toInt ∧ (a &&& (65535 : Int32)).toInt ≤ 1114111)) ∨ ((decide ((k &&& (4 : Int32)).toInt ≠ 0)) = true ∧ 1 ≤ (a &&& (65535 : Int32)).toInt ∧ (a &&& (65535 : Int32)).toInt ≤ 31) ∨ ((decide ((k &&& (4 : Int32)).toInt ≠ 0)) = false ∧ ((a &&& (65535 : Int32)).toInt = 9 ∨ (a &&& (65535 : Int32)).toInt = 10 ∨ (a &&& (65535 : Int32)).toInt = 13)))))) X7 hx hlk hrt (hb hby at_83) (by decide) (by decide) ⟨okB (beq_self_eq_true _), (Fr.nil n0)⟩
    · intro c2
      refine g_iloadN (q := 35) X0.here hx (hb hby at_34) rfl rfl ?_
      refine g_ldcI (q := 37) X0 hx hZ hown (hw _ (List.mem_of_getElem? (i := 16) rfl)) (hb hby at_35) rfl ?_
      refine g_iand (q := 38) X0.here hx (hb hby at_37) rfl ?_
      refine g_istore (q := 40) (L' := #[.val (.int a), .val (.int k), .val (.int (k &&& (3 : Int32))), .val (.int (b2i (decide ((k &&& (4 : Int32)).toInt ≠ 0)))), .val (.int (a &&& (2097151 : Int32)))]) X0.here hx (hb hby at_38) rfl rfl ?_
      refine g_goto (q := 63) X0.here hx (hb hby at_40) (by decide) (by decide) ?_
      refine g_iload (q := 65) X0.here hx (hb hby at_63) rfl rfl ?_
      refine g_iloadN (q := 66) X0.here hx (hb hby at_65) rfl rfl ?_
      refine g_callSP (q := 69) X0 hx hZ hown (hw _ (List.mem_of_getElem? (i := 0) rfl)) (hw _ (List.mem_of_getElem? (i := 1) rfl)) (hw _ (List.mem_of_getElem? (i := 2) rfl)) (hw _ (List.mem_of_getElem? (i := 3) rfl)) (by decide) (rm1 l Z a0 hw [] (a &&& (2097151 : Int32)) (decide ((k &&& (4 : Int32)).toInt ≠ 0)) h0 n0 Z0 (by (try simp only [Int32.reduceToInt, Int64.reduceToInt] at c1); (try simp only [Int32.reduceToInt, Int64.reduceToInt] at c2); have f2 := rng32 k; (try simp only [Int32.reduceToInt, Int64.reduceToInt] at f2); have f3 := rng32 (k &&& (3 : Int32)); (try simp only [Int32.reduceToInt, Int64.reduceToInt] at f3); have f4 := c_mask k (3 : Int32) 2 (by decide) (by decide); (try simp only [Int32.reduceToInt, Int64.reduceToInt] at f4); (try have f4e : (k &&& (3 : Int32)).toInt = k.toInt ∨ (k &&& (3 : Int32)).toInt = k.toInt + 4 := (by omega)); have f7 := rng32 a; (try simp only [Int32.reduceToInt, Int64.reduceToInt] at f7); have f8 := rng32 (a &&& (2097151 : Int32)); (try simp only [Int32.reduceToInt, Int64.reduceToInt] at f8); have f9 := c_mask a (2097151 : Int32) 21 (by decide) (by decide); (try simp only [Int32.reduceToInt, Int64.reduceToInt] at f9); (try have f9e : (a &&& (2097151 : Int32)).toInt = a.toInt ∨ (a &&& (2097151 : Int32)).toInt = a.toInt + 2097152 := (by omega)); (try simp only [Int32.reduceToInt, Int64.reduceToInt, and_true, true_and, or_true, true_or]); (first | done | omega))) (argsL := [.int (a &&& (2097151 : Int32)), .int (b2i (decide ((k &&& (4 : Int32)).toInt ≠ 0)))]) (rest := []) pd_1 rfl rfl rfl (hb hby at_66) rfl (by rw [hml]; rfl) e0 (by decide) (W := 0) rfl (by decide) rfl rfl (by decide) (by decide) ?_
      intro T8 X8 e8
      refine g_iload (q := 71) X8.here hx (hb hby at_69) rfl rfl ?_
      refine g_iloadN (q := 72) X8.here hx (hb hby at_71) rfl rfl ?_
      refine g_callSP (q := 75) X8 hx hZ hown (hw _ (List.mem_of_getElem? (i := 4) rfl)) (hw _ (List.mem_of_getElem? (i := 5) rfl)) (hw _ (List.mem_of_getElem? (i := 6) rfl)) (hw _ (List.mem_of_getElem? (i := 7) rfl)) (by decide) (rm2 l Z a0 hw [] (a &&& (2097151 : Int32)) (decide ((k &&& (4 : Int32)).toInt ≠ 0)) h0 n0 Z0) (argsL := [.int (a &&& (2097151 : Int32)), .int (b2i (decide ((k &&& (4 : Int32)).toInt ≠ 0)))]) (rest := [.int (b2i (decide (((32 ≤ (a &&& (2097151 : Int32)).toInt ∧ (a &&& (2097151 : Int32)).toInt ≤ 55295) ∨ (57344 ≤ (a &&& (2097151 : Int32)).toInt ∧ (a &&& (2097151 : Int32)).toInt ≤ 65533) ∨ (65536 ≤ (a &&& (2097151 : Int32)).toInt ∧ (a &&& (2097151 : Int32)).toInt ≤ 1114111)) ∨ ((decide ((k &&& (4 : Int32)).toInt ≠ 0)) = true ∧ 1 ≤ (a &&& (2097151 : Int32)).toInt ∧ (a &&& (2097151 : Int32)).toInt ≤ 31) ∨ ((decide ((k &&& (4 : Int32)).toInt ≠ 0)) = false ∧ ((a &&& (2097151 : Int32)).toInt = 9 ∨ (a &&& (2097151 : Int32)).toInt = 10 ∨ (a &&& (2097151 : Int32)).toInt = 13)))))]) pd_1 rfl rfl rfl (hb hby at_72) rfl (by rw [hml]; rfl) e8 (by decide) (W := 1) rfl (by decide) rfl rfl (by decide) (by decide) ?_
      intro T9 X9 e9
      refine g_selBB_ne (q := 83) X9.here hx (hb hby at_75) (by decide) (by decide) rfl (hb hby at_82) (hb hby at_78) (hb hby at_79) rfl (by decide) (by decide) rfl ?_
      exact g_zreturn (b := ((decide (((32 ≤ (a &&& (2097151 : Int32)).toInt ∧ (a &&& (2097151 : Int32)).toInt ≤ 55295) ∨ (57344 ≤ (a &&& (2097151 : Int32)).toInt ∧ (a &&& (2097151 : Int32)).toInt ≤ 65533) ∨ (65536 ≤ (a &&& (2097151 : Int32)).toInt ∧ (a &&& (2097151 : Int32)).toInt ≤ 1114111)) ∨ ((decide ((k &&& (4 : Int32)).toInt ≠ 0)) = true ∧ 1 ≤ (a &&& (2097151 : Int32)).toInt ∧ (a &&& (2097151 : Int32)).toInt ≤ 31) ∨ ((decide ((k &&& (4 : Int32)).toInt ≠ 0)) = false ∧ ((a &&& (2097151 : Int32)).toInt = 9 ∨ (a &&& (2097151 : Int32)).toInt = 10 ∨ (a &&& (2097151 : Int32)).toInt = 13)))) == (decide (((32 ≤ (a &&& (2097151 : Int32)).toInt ∧ (a &&& (2097151 : Int32)).toInt ≤ 55295) ∨ (57344 ≤ (a &&& (2097151 : Int32)).toInt ∧ (a &&& (2097151 : Int32)).toInt ≤ 65533) ∨ (65536 ≤ (a &&& (2097151 : Int32)).toInt ∧ (a &&& (2097151 : Int32)).toInt ≤ 1114111)) ∨ ((decide ((k &&& (4 : Int32)).toInt ≠ 0)) = true ∧ 1 ≤ (a &&& (2097151 : Int32)).toInt ∧ (a &&& (2097151 : Int32)).toInt ≤ 31) ∨ ((decide ((k &&& (4 : Int32)).toInt ≠ 0)) = false ∧ ((a &&& (2097151 : Int32)).toInt = 9 ∨ (a &&& (2097151 : Int32)).toInt = 10 ∨ (a &&& (2097151 : Int32)).toInt = 13)))))) X9 hx hlk hrt (hb hby at_83) (by decide) (by decide) ⟨okB (beq_self_eq_true _), (Fr.nil n0)⟩
  · intro c1
    refine g_iloadN (q := 21) X0.here hx (hb hby at_20) rfl rfl ?_
    refine g_ldcI (q := 23) X0 hx hZ hown (hw _ (List.mem_of_getElem? (i := 18) rfl)) (hb hby at_21) rfl ?_
    refine g_iand (q := 24) X0.here hx (hb hby at_23) rfl ?_
    refine g_istore (q := 26) (L' := #[.val (.int a), .val (.int k), .val (.int (k &&& (3 : Int32))), .val (.int (b2i (decide ((k &&& (4 : Int32)).toInt ≠ 0)))), .val (.int (a &&& (2147483647 : Int32)))]) X0.here hx (hb hby at_24) rfl rfl ?_
    refine g_goto (q := 63) X0.here hx (hb hby at_26) (by decide) (by decide) ?_
    refine g_iload (q := 65) X0.here hx (hb hby at_63) rfl rfl ?_
    refine g_iloadN (q := 66) X0.here hx (hb hby at_65) rfl rfl ?_
    refine g_callSP (q := 69) X0 hx hZ hown (hw _ (List.mem_of_getElem? (i := 0) rfl)) (hw _ (List.mem_of_getElem? (i := 1) rfl)) (hw _ (List.mem_of_getElem? (i := 2) rfl)) (hw _ (List.mem_of_getElem? (i := 3) rfl)) (by decide) (rm1 l Z a0 hw [] (a &&& (2147483647 : Int32)) (decide ((k &&& (4 : Int32)).toInt ≠ 0)) h0 n0 Z0 (by (try simp only [Int32.reduceToInt, Int64.reduceToInt] at c1); have f2 := rng32 k; (try simp only [Int32.reduceToInt, Int64.reduceToInt] at f2); have f3 := rng32 (k &&& (3 : Int32)); (try simp only [Int32.reduceToInt, Int64.reduceToInt] at f3); have f4 := c_mask k (3 : Int32) 2 (by decide) (by decide); (try simp only [Int32.reduceToInt, Int64.reduceToInt] at f4); (try have f4e : (k &&& (3 : Int32)).toInt = k.toInt ∨ (k &&& (3 : Int32)).toInt = k.toInt + 4 := (by omega)); have f7 := rng32 a; (try simp only [Int32.reduceToInt, Int64.reduceToInt] at f7); have f8 := rng32 (a &&& (2147483647 : Int32)); (try simp only [Int32.reduceToInt, Int64.reduceToInt] at f8); have f9 := c_mask a (2147483647 : Int32) 31 (by decide) (by decide); (try simp only [Int32.reduceToInt, Int64.reduceToInt] at f9); (try have f9e : (a &&& (2147483647 : Int32)).toInt = a.toInt ∨ (a &&& (2147483647 : Int32)).toInt = a.toInt + 2147483648 := (by omega)); (try simp only [Int32.reduceToInt, Int64.reduceToInt, and_true, true_and, or_true, true_or]); (first | done | omega))) (argsL := [.int (a &&& (2147483647 : Int32)), .int (b2i (decide ((k &&& (4 : Int32)).toInt ≠ 0)))]) (rest := []) pd_1 rfl rfl rfl (hb hby at_66) rfl (by rw [hml]; rfl) e0 (by decide) (W := 0) rfl (by decide) rfl rfl (by decide) (by decide) ?_
    intro T10 X10 e10
    refine g_iload (q := 71) X10.here hx (hb hby at_69) rfl rfl ?_
    refine g_iloadN (q := 72) X10.here hx (hb hby at_71) rfl rfl ?_
    refine g_callSP (q := 75) X10 hx hZ hown (hw _ (List.mem_of_getElem? (i := 4) rfl)) (hw _ (List.mem_of_getElem? (i := 5) rfl)) (hw _ (List.mem_of_getElem? (i := 6) rfl)) (hw _ (List.mem_of_getElem? (i := 7) rfl)) (by decide) (rm2 l Z a0 hw [] (a &&& (2147483647 : Int32)) (decide ((k &&& (4 : Int32)).toInt ≠ 0)) h0 n0 Z0) (argsL := [.int (a &&& (2147483647 : Int32)), .int (b2i (decide ((k &&& (4 : Int32)).toInt ≠ 0)))]) (rest := [.int (b2i (decide (((32 ≤ (a &&& (2147483647 : Int32)).toInt ∧ (a &&& (2147483647 : Int32)).toInt ≤ 55295) ∨ (57344 ≤ (a &&& (2147483647 : Int32)).toInt ∧ (a &&& (2147483647 : Int32)).toInt ≤ 65533) ∨ (65536 ≤ (a &&& (2147483647 : Int32)).toInt ∧ (a &&& (2147483647 : Int32)).toInt ≤ 1114111)) ∨ ((decide ((k &&& (4 : Int32)).toInt ≠ 0)) = true ∧ 1 ≤ (a &&& (2147483647 : Int32)).toInt ∧ (a &&& (2147483647 : Int32)).toInt ≤ 31) ∨ ((decide ((k &&& (4 : Int32)).toInt ≠ 0)) = false ∧ ((a &&& (2147483647 : Int32)).toInt = 9 ∨ (a &&& (2147483647 : Int32)).toInt = 10 ∨ (a &&& (2147483647 : Int32)).toInt = 13)))))]) pd_1 rfl rfl rfl (hb hby at_72) rfl (by rw [hml]; rfl) e10 (by decide) (W := 1) rfl (by decide) rfl rfl (by decide) (by decide) ?_
    intro T11 X11 e11
    refine g_selBB_ne (q := 83) X11.here hx (hb hby at_75) (by decide) (by decide) rfl (hb hby at_82) (hb hby at_78) (hb hby at_79) rfl (by decide) (by decide) rfl ?_
    exact g_zreturn (b := ((decide (((32 ≤ (a &&& (2147483647 : Int32)).toInt ∧ (a &&& (2147483647 : Int32)).toInt ≤ 55295) ∨ (57344 ≤ (a &&& (2147483647 : Int32)).toInt ∧ (a &&& (2147483647 : Int32)).toInt ≤ 65533) ∨ (65536 ≤ (a &&& (2147483647 : Int32)).toInt ∧ (a &&& (2147483647 : Int32)).toInt ≤ 1114111)) ∨ ((decide ((k &&& (4 : Int32)).toInt ≠ 0)) = true ∧ 1 ≤ (a &&& (2147483647 : Int32)).toInt ∧ (a &&& (2147483647 : Int32)).toInt ≤ 31) ∨ ((decide ((k &&& (4 : Int32)).toInt ≠ 0)) = false ∧ ((a &&& (2147483647 : Int32)).toInt = 9 ∨ (a &&& (2147483647 : Int32)).toInt = 10 ∨ (a &&& (2147483647 : Int32)).toInt = 13)))) == (decide (((32 ≤ (a &&& (2147483647 : Int32)).toInt ∧ (a &&& (2147483647 : Int32)).toInt ≤ 55295) ∨ (57344 ≤ (a &&& (2147483647 : Int32)).toInt ∧ (a &&& (2147483647 : Int32)).toInt ≤ 65533) ∨ (65536 ≤ (a &&& (2147483647 : Int32)).toInt ∧ (a &&& (2147483647 : Int32)).toInt ≤ 1114111)) ∨ ((decide ((k &&& (4 : Int32)).toInt ≠ 0)) = true ∧ 1 ≤ (a &&& (2147483647 : Int32)).toInt ∧ (a &&& (2147483647 : Int32)).toInt ≤ 31) ∨ ((decide ((k &&& (4 : Int32)).toInt ≠ 0)) = false ∧ ((a &&& (2147483647 : Int32)).toInt = 9 ∨ (a &&& (2147483647 : Int32)).toInt = 10 ∨ (a &&& (2147483647 : Int32)).toInt = 13)))))) X11 hx hlk hrt (hb hby at_83) (by decide) (by decide) ⟨okB (beq_self_eq_true _), (Fr.nil n0)⟩
set_option maxRecDepth 65536 in
set_option maxHeartbeats 40000000 in
theorem comes_1 {Post : Tables → Env → Array Value → State → Outcome → State → Prop} (hpost : ∀ tb e args s v u, (limb_1_1.after args s (.returned v) u = true ∧ limb_1_2.after args s (.returned v) u = true ∧ True) → FrameEnd s (.returned v) u (Jvm.fieldLocs frame_1_writes args s ++ Jvm.arrayLocs frame_1_arrays args s ++ Jvm.staticLocs frame_1_statics s) 0 0 → Post tb e args s (.returned v) u) :
    ArmFor flags0 classFile x code maxLocals ret World_1 tables_1 room_1 Calls_1 rest_1 Pre_1 Post := by
  intro l hfl _ _ p e ha hc hk s m args below hf hA hF happ hP
  obtain ⟨hcalls, hrest, hpre⟩ := hP
  obtain ⟨-, -, -, hnamed, -, -, -, hat⟩ := (Spec.applies_iff hf).mp happ
  obtain ⟨hg, hn⟩ := and_e (Cond.before_iff.mp (show (Jvm.Cond.and given_1 narrow_1).before args s = true from hpre))
  obtain ⟨g1, g2⟩ := and_e hg
  obtain ⟨g3, g4⟩ := and_e g2
  obtain ⟨w0, w1, rfl⟩ : ∃ w0 w1 : Value, args = #[w0, w1] := by
    have hs : args.size = 2 := by simpa [Cond.value, given_1] using g1
    obtain ⟨L⟩ := args
    match L, hs with
    | [w0, w1], _ => exact ⟨w0, w1, rfl⟩
  have hw := fun d (hd : d ∈ tables_1) => atoms_spec (ws := Jvm.Cond.code x code maxLocals ret :: tables_1) hat d (List.mem_cons_of_mem _ hd)
  obtain ⟨i0, ei0⟩ := is_v g3
  obtain rfl : w0 = (.int i0) := Option.some.inj ei0
  obtain ⟨i1, ei1⟩ := is_v g4
  obtain rfl : w1 = (.int i1) := Option.some.inj ei1
  obtain ⟨n, o, h1, h2, h3, _, L, rfl, ⟨rfl, N⟩, hq⟩ := rm0 l s _ hw tables_1 i0 i1 s.heap s.heap.size (Nat.le_refl _) p e ha hc hk s m _ below hf ((Spec.applies_iff_loose hf).mp happ).1 ⟨rfl, State.Warmed39.refl s, rfl⟩ trivial
  refine ⟨n, _, h1, h2, h3, hpost _ _ _ _ _ _ ⟨Cond.after_iff.mpr rfl, Cond.after_iff.mpr (eq_i res_at (Term.int_eval (1)) rfl), trivial⟩ ⟨hq.1, hq.2.1, (hq.2.2.sift fun y hy => Or.inr (N y hy)).mono (by decide) (by decide)⟩⟩
theorem main_1_1 : Claimed_1_1 := comes_1 fun _ _ _ _ _ _ h hF => ⟨h.1, hF⟩
theorem main_1_2 : Claimed_1_2 := comes_1 fun _ _ _ _ _ _ h hF => ⟨h.2.1, hF⟩
end Jvm.Pilot.@@N@@
namespace Jvm.Pilot.@@N@@
open Jvm Jvm.ClassFile Sem Op Lib Jvm.Free Jvm.Stand Jvm.Pilot.@@N@@.Jvm.D
/-! MADE BY PROGRAM (witnessworld.py) out of the Statement's table words and the real class files: 9 classes; the members and pool entries that the words name. The judged class is class 1, her method 3. -/
namespace start1
open Jvm.ClassFile
def u (s : String) : CpInfo := .utf8 (stringToUtf16 s)
/-- a pool by its gaps: so many unusable entries, then the entry; so many at the end -/
def gap : Nat → List CpInfo → List CpInfo
  | 0, r => r
  | n + 1, r => .unusable :: gap n r
def poolList (es : List (Nat × CpInfo)) (last : Nat) : List CpInfo := es.foldr (fun e r => gap e.1 (e.2 :: r)) (gap last [])
def pool (es : List (Nat × CpInfo)) (last : Nat) : Array CpInfo := ⟨poolList es last⟩
def fileOf (pool : Array CpInfo) (this : Nat) (attrs : Array Attribute := #[]) (ms : Array MethodInfo := #[]) (fl : Nat := 33) (sup : Nat := 0) (ifs : Array Nat := #[]) (fds : Array FieldInfo := #[]) : ClassFile where
  minorVersion := 0
  majorVersion := 65
  constantPool := pool
  accessFlags := fl
  thisClass := this
  superClass := sup
  interfaces := ifs
  fields := fds
  methods := ms
  attributes := attrs
def plain (name : String) (sup : Option ClassId) : Class where
  name := name
  kind := .ordinary
  loader := none
  accessFlags := 33
  super := sup
  interfaces := #[]
  cf := none
  fields := #[]
  methods := #[]
  instanceTypes := #[]
  staticTypes := #[]
  resolved := #[]
  callSites := []
  init := .initialized
  statics := none
  mirror := none

def pool0 : Array CpInfo := pool [(5, u "<init>"), (0, u "()V"), (1, .class_ 10), (1, u "java/lang/Object")] 113

def k0m0 : Method := { name := "<init>", desc := "()V", sig := { parameters := [], returnType := none }, accessFlags := 1, code := none }
/-- java/lang/Object -/
def k0 : Class := { plain "java/lang/Object" none with
  accessFlags := 33
  interfaces := #[]
  cf := some (fileOf pool0 8 #[] #[{ accessFlags := 1, nameIndex := 5, descriptorIndex := 6, attributes := #[] }] 33 0 #[] #[])
  fields := #[]
  methods := #[k0m0]
  instanceTypes := #[]
  staticTypes := #[]
  resolved := Array.replicate 124 none
  statics := none }

def pool1 : Array CpInfo := pool [(2, .class_ 4), (1, u "java/lang/Object"), (0, u "<init>"), (0, u "()V"), (0, .integer 55295), (0, .methodref 9 10), (0, .class_ 11), (0, .nameAndType 12 13), (0, u x.cls), (0, u "inRange"), (0, u "(III)Z"), (0, .integer 57344), (0, .integer 65533), (0, .integer 65536), (0, .integer 1114111), (0, .integer 2147483647), (0, .integer 2097151), (0, .integer 65535), (0, .methodref 22 23), (0, .class_ 24), (0, .nameAndType 25 26), (0, u site_66.cls), (0, u "isCharacter"), (0, u "(IZ)Z"), (0, .methodref 9 28), (0, .nameAndType 29 26), (0, u "expected"), (3, u "law"), (0, u "(II)Z")] 2

def k1m0 : Method := { name := "<init>", desc := "()V", sig := { parameters := [], returnType := none }, accessFlags := 2, code := none }
def k1c1 : Code := { maxStack := 2, maxLocals := 3, code := method_2_code, exceptionTable := #[], attributes := #[] }
def k1m1 : Method := { name := "inRange", desc := "(III)Z", sig := { parameters := [.int, .int, .int], returnType := some .boolean }, accessFlags := 10, code := some k1c1 }
def k1c2 : Code := { maxStack := 3, maxLocals := 3, code := method_3_code, exceptionTable := #[], attributes := #[] }
def k1m2 : Method := { name := "expected", desc := "(IZ)Z", sig := { parameters := [.int, .boolean], returnType := some .boolean }, accessFlags := 10, code := some k1c2 }
def k1c3 : Code := { maxStack := 3, maxLocals := 5, code := code, exceptionTable := #[], attributes := #[] }
def k1m3 : Method := { name := "law", desc := "(II)Z", sig := { parameters := [.int, .int], returnType := some .boolean }, accessFlags := 9, code := some k1c3 }
def k1 : Class := { plain x.cls (some 0) with
  accessFlags := 49
  interfaces := #[]
  cf := some (fileOf pool1 9 #[] #[{ accessFlags := 2, nameIndex := 5, descriptorIndex := 6, attributes := #[] }, { accessFlags := 10, nameIndex := 12, descriptorIndex := 13, attributes := #[] }, { accessFlags := 10, nameIndex := 29, descriptorIndex := 26, attributes := #[] }, { accessFlags := 9, nameIndex := 33, descriptorIndex := 34, attributes := #[] }] 49 2 #[] #[])
  fields := #[]
  methods := #[k1m0, k1m1, k1m2, k1m3]
  instanceTypes := #[]
  staticTypes := #[]
  resolved := Array.replicate 37 none
  statics := none }

def pool2 : Array CpInfo := pool [(2, .class_ 4), (1, u "java/lang/Object"), (0, u "<init>"), (0, u "()V"), (11, .class_ 20), (1, u site_66.cls), (10, .integer 55295), (0, .integer 57344), (0, .integer 65533), (0, .integer 65536), (0, .integer 1114111), (40, u "isCharacter"), (0, u "(IZ)Z")] 22

def k2m0 : Method := { name := "<init>", desc := "()V", sig := { parameters := [], returnType := none }, accessFlags := 2, code := none }
def k2c1 : Code := { maxStack := 2, maxLocals := 2, code := prog_39_method_5_code, exceptionTable := #[], attributes := #[] }
def k2m1 : Method := { name := "isCharacter", desc := "(IZ)Z", sig := { parameters := [.int, .boolean], returnType := some .boolean }, accessFlags := 8, code := some k2c1 }
def k2 : Class := { plain site_66.cls (some 0) with
  accessFlags := 32
  interfaces := #[]
  cf := some (fileOf pool2 18 #[] #[{ accessFlags := 2, nameIndex := 5, descriptorIndex := 6, attributes := #[] }, { accessFlags := 8, nameIndex := 76, descriptorIndex := 77, attributes := #[] }] 32 2 #[] #[])
  fields := #[]
  methods := #[k2m0, k2m1]
  instanceTypes := #[]
  staticTypes := #[]
  resolved := Array.replicate 100 none
  statics := none }

def pool3 : Array CpInfo := pool [(1, u "java/lang/Cloneable"), (0, .class_ 1), (0, u "java/lang/Object"), (0, .class_ 3)] 3

/-- java/lang/Cloneable -/
def k3 : Class := { plain "java/lang/Cloneable" (some 0) with
  accessFlags := 1537
  interfaces := #[]
  cf := some (fileOf pool3 2 #[] #[] 1537 4 #[] #[])
  fields := #[]
  methods := #[]
  instanceTypes := #[]
  staticTypes := #[]
  resolved := Array.replicate 8 none
  statics := none }

def pool4 : Array CpInfo := pool [(1, u "java/io/Serializable"), (0, .class_ 1), (0, u "java/lang/Object"), (0, .class_ 3)] 3

/-- java/io/Serializable -/
def k4 : Class := { plain "java/io/Serializable" (some 0) with
  accessFlags := 1537
  interfaces := #[]
  cf := some (fileOf pool4 2 #[] #[] 1537 4 #[] #[])
  fields := #[]
  methods := #[]
  instanceTypes := #[]
  staticTypes := #[]
  resolved := Array.replicate 8 none
  statics := none }

/-- the primitive byte -/
def k5 : Class := { plain "byte" none with kind := .primitive 'B', accessFlags := 0x411 }
/-- [B -/
def k6 : Class := { plain "[B" (some 0) with kind := .array 5 .byte, interfaces := #[3, 4], accessFlags := 1041 }

/-- the primitive int -/
def k7 : Class := { plain "int" none with kind := .primitive 'I', accessFlags := 0x411 }
/-- [I -/
def k8 : Class := { plain "[I" (some 0) with kind := .array 7 .int, interfaces := #[3, 4], accessFlags := 1041 }

def heap : Heap := #[]
def classes : Array Class := #[k0, k1, k2, k3, k4, k5, k6, k7, k8]
def interned : List (Array UInt16 × Addr) := []
def slotsUsed : Nat := 0
def theMethod : MethodId := ⟨1, 3⟩
def args0 : Array Value := #[.int 5, .int 6]
def aboutOver (below : List Frame) : State where
  vm := { classes := classes, interned := interned.toArray }
  heap := heap
  slotsUsed := slotsUsed
  threads := #[{ frames := .invoking theMethod args0 :: below }]
def below0 : List Frame := [.native { method := ⟨0, 0⟩, args := #[] }]
def about1 : State := aboutOver below0
def p0 : Program := .bare "" "" ""
def e0 : Env := launch0.env 0 0 0
theorem w_frames : about1.frames = Frame.invoking theMethod args0 :: below0 := rfl
set_option maxRecDepth 65536 in
theorem w_args : argsFit about1.vm theMethod args0 = true := by decide +kernel
set_option maxRecDepth 65536 in
theorem w_heap : heapFits about1 = true := by decide +kernel
set_option maxRecDepth 65536 in
theorem w_runnable : about1.curStatus? = some .runnable := by decide +kernel
set_option maxRecDepth 65536 in
theorem w_alone : about1.alone = true := by decide +kernel
set_option maxRecDepth 65536 in
theorem w_named : about1.methodNamed? x = some theMethod := by decide +kernel
set_option maxRecDepth 65536 in
theorem w_hears : about1.hears theMethod below0 = true := by decide +kernel
set_option maxRecDepth 65536 in
theorem w_ripe : about1.ripe theMethod args0 below0 = true := by decide +kernel
theorem w_running : about1.status = .running := rfl
set_option maxRecDepth 65536 in
theorem w_room : about1.hasRoom e0.platform room_1 = true :=
  launch0.hasRoom_least _ room_1 (by decide +kernel) (by decide +kernel) (by decide +kernel) (by decide +kernel) (by decide +kernel) (by decide +kernel)
theorem allAtoms_all (ts : List Jvm.Cond) (a : Array Jvm.Value) (st : Jvm.State) : (allAtoms ts).before a st = ts.all (fun c => c.before a st) := by
  induction ts with
  | nil => rfl
  | cons c t ih =>
    show (Jvm.Cond.and c (allAtoms t)).before a st = _
    rw [Jvm.Cond.before_and, ih, List.all_cons]
def words1 : List Jvm.Cond := Jvm.Cond.code x code maxLocals ret :: tables_1
/-- a 'code' word, met by the world's own term for the bytes: nothing is compared byte by byte -/
theorem code_word {y : MethodName} {bytes : ByteArray} {mx : Nat} {rt : Option FieldType} {a : Array Value} {s : State} {m : MethodId} {meth : Method} {c : Code} (h1 : s.methodNamed? y = some m) (h2 : s.vm.method? m = some meth) (h3 : meth.code = some c) (h4 : c.code = bytes)
    (h5 : (c.maxLocals == mx && c.exceptionTable.isEmpty && decide (c.maxStack ≤ mostOperands) && decide (meth.sig.returnType = rt) && !meth.locks && decide (parseMethodDescriptor y.desc = some meth.sig)) = true) : (Jvm.Cond.code y bytes mx rt).before a s = true := by
  simp only [Bool.and_eq_true, beq_iff_eq, Bool.not_eq_true', decide_eq_true_eq] at h5
  obtain ⟨⟨⟨⟨⟨g1, g2⟩, g3⟩, g4⟩, g5⟩, g6⟩ := h5
  simp [Cond.before, Cond.holds, Cond.value, h1, h2, h3, h4, g1, g2, g3, g4, g5, g6]
def isCode : Jvm.Cond → Bool
  | .code _ _ _ _ => true
  | _ => false
theorem all_split {L : List Jvm.Cond} {P : Jvm.Cond → Bool} (h1 : L.all (fun c => isCode c || P c) = true) (h2 : ∀ c ∈ L.filter isCode, P c = true) : L.all P = true := by
  refine List.all_eq_true.mpr fun c hc => ?_
  have h := List.all_eq_true.mp h1 c hc
  rcases Bool.eq_false_or_eq_true (isCode c) with hi | hi
  · exact h2 c (List.mem_filter.mpr ⟨hc, hi⟩)
  · simpa [hi] using h
set_option maxRecDepth 65536 in
theorem w_c0 : (Jvm.Cond.code x code maxLocals ret).before args0 about1 = true := code_word (m := ⟨1, 3⟩) (meth := k1m3) (c := k1c3) (by decide +kernel) rfl rfl rfl (by decide +kernel)
set_option maxRecDepth 65536 in
theorem w_c1 : (Jvm.Cond.code site_66 prog_39_method_5_code (2 : Nat) (Option.some Jvm.ClassFile.FieldType.boolean)).before args0 about1 = true := code_word (m := ⟨2, 1⟩) (meth := k2m1) (c := k2c1) (by decide +kernel) rfl rfl rfl (by decide +kernel)
set_option maxRecDepth 65536 in
theorem w_c2 : (Jvm.Cond.code method_3 method_3_code (3 : Nat) (Option.some Jvm.ClassFile.FieldType.boolean)).before args0 about1 = true := code_word (m := ⟨1, 2⟩) (meth := k1m2) (c := k1c2) (by decide +kernel) rfl rfl rfl (by decide +kernel)
set_option maxRecDepth 65536 in
theorem w_c3 : (Jvm.Cond.code method_2 method_2_code (3 : Nat) (Option.some Jvm.ClassFile.FieldType.boolean)).before args0 about1 = true := code_word (m := ⟨1, 1⟩) (meth := k1m1) (c := k1c1) (by decide +kernel) rfl rfl rfl (by decide +kernel)
def codes1 : List Jvm.Cond := [Jvm.Cond.code x code maxLocals ret, Jvm.Cond.code site_66 prog_39_method_5_code (2 : Nat) (Option.some Jvm.ClassFile.FieldType.boolean), Jvm.Cond.code method_3 method_3_code (3 : Nat) (Option.some Jvm.ClassFile.FieldType.boolean), Jvm.Cond.code method_2 method_2_code (3 : Nat) (Option.some Jvm.ClassFile.FieldType.boolean)]
set_option maxRecDepth 65536 in
theorem codes_eq : words1.filter isCode = codes1 := rfl
theorem w_codes : ∀ c ∈ words1.filter isCode, c.before args0 about1 = true := by
  rw [codes_eq]
  intro c hc
  simp only [codes1, List.mem_cons, List.not_mem_nil, or_false] at hc
  rcases hc with rfl | rfl | rfl | rfl
  · exact w_c0
  · exact w_c1
  · exact w_c2
  · exact w_c3
set_option maxRecDepth 65536 in
theorem w_t1 : (words1.take 24).all (fun c => isCode c || c.before args0 about1) = true := by decide +kernel
set_option maxRecDepth 65536 in
theorem w_t2 : (words1.drop 24).all (fun c => isCode c || c.before args0 about1) = true := by decide +kernel
theorem w_tables : (allAtoms (Jvm.Cond.code x code maxLocals ret :: tables_1)).before args0 about1 = true := by
  rw [allAtoms_all]
  show words1.all (fun c => c.before args0 about1) = true
  refine all_split ?_ w_codes
  rw [← List.take_append_drop 24 words1, List.all_append, w_t1, w_t2]
  rfl
set_option maxRecDepth 65536 in
theorem w_case : (Jvm.Cond.and given_1 narrow_1).before args0 about1 = true := by decide +kernel
theorem w_applies : (headSpec (Jvm.Cond.code x code maxLocals ret :: tables_1) room_1).applies x e0.platform about1 = true :=
  (Spec.applies_iff w_frames).mpr ⟨w_running, w_runnable, w_alone, w_named, w_hears, w_ripe, w_room, w_tables⟩
theorem atStart : AtStart classFile x code maxLocals ret World_1 tables_1 room_1 Calls_1 rest_1 Pre_1 launch0 p0 e0 about1 theMethod args0 below0 :=
  ⟨lists_1, trivial, launch0.admits_env _ _ _, launch0.least_env, fairChoices_fair.cas, fairChoices_fair.clock, w_frames, w_args, w_heap, w_applies, trivial, trivial, w_case⟩
end start1
theorem witness_1 : WitnessClaimed_1 := ⟨start1.p0, start1.e0, start1.about1, start1.theMethod, start1.args0, start1.below0, start1.atStart⟩
end Jvm.Pilot.@@N@@
