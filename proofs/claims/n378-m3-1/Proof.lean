import JvmDerived
import JvmDerived.Pilot.@@N@@Statement
import JvmDerived.Pilot.@@N@@Code
set_option linter.unusedVariables false
set_option linter.unusedSimpArgs false
namespace Jvm.Pilot.@@N@@
open Jvm Jvm.ClassFile Sem Op Lib Jvm.Free Jvm.Stand Jvm.LawKit Jvm.RoadKit Bundle Jvm.Pilot.@@N@@.Jvm.D

/-! ### the own kit: a walk's goal in continuation form -/
def Go (p : Program) (e : Env) (below : List Frame) (Φ : Outcome → State → Prop) (U : State) : Prop :=
  ∃ s₂ o, Steps p.tables e below U s₂ ∧ s₂.status = .running ∧ Ended s₂ below o ∧ Φ o s₂
def Fin0 (s : State) (rm : Room) (Q : Option Value → Heap → List Loc → Prop) : Outcome → State → Prop :=
  fun o U' => ∃ v L, o = .returned v ∧ Q v U'.heap L ∧ FrameEnd s o U' L rm.cells rm.slots
abbrev Ctr (l : Launch) (Z : State) (y : MethodName) (bytes : ByteArray) (ml : Nat) (rt : Option FieldType) (rm : Room) (ws : List Jvm.Cond) (as' : Array Value) (h0 : Heap) (Q : Option Value → Heap → List Loc → Prop) : Prop :=
  MetFree l y (head1 (Jvm.Cond.code y bytes ml rt :: ws) rm) (fun a U => a = as' ∧ Z.Warmed39 U.vm ∧ U.heap = h0) (fun _ _ _ _ _ => True) (fun _ U o U' => ∃ v L, o = .returned v ∧ Q v U'.heap L ∧ FrameEnd U o U' L rm.cells rm.slots)
def b2i (b : Bool) : Int32 := if b then 1 else 0
theorem b2i_t : b2i true = 1 := rfl
theorem b2i_f : b2i false = 0 := rfl
theorem b2i_nar (b : Bool) : nar .boolean (b2i b) = b2i b := by cases b <;> rfl
theorem b2i_or (b : Bool) : (b = true ∧ (b2i b).toInt = 1) ∨ (b = false ∧ (b2i b).toInt = 0) := by cases b <;> decide
theorem b2i_dec {P : Prop} [Decidable P] : (P ∧ (b2i (decide P)).toInt = 1) ∨ (¬ P ∧ (b2i (decide P)).toInt = 0) := by
  by_cases h : P
  · exact Or.inl ⟨h, by rw [decide_eq_true h]; rfl⟩
  · exact Or.inr ⟨h, by rw [decide_eq_false h]; rfl⟩
theorem b2i_inj {a b : Bool} : b2i a = b2i b ↔ a = b := by cases a <;> cases b <;> decide
theorem i32e {x y : Int32} : x = y ↔ x.toInt = y.toInt := Int32.toInt_inj.symm
theorem i64e {x y : Int64} : x = y ↔ x.toInt = y.toInt := Int64.toInt_inj.symm
theorem okB {b : Bool} (h : b = true) : some (Value.int (b2i b)) = some (Value.int 1) := by rw [h]; rfl
theorem eqT {P : Prop} [Decidable P] (h : P) : some (Value.int (b2i true)) = some (Value.int (b2i (decide P))) := by rw [decide_eq_true h]
theorem eqF {P : Prop} [Decidable P] (h : ¬ P) : some (Value.int (b2i false)) = some (Value.int (b2i (decide P))) := by rw [decide_eq_false h]
theorem eqD {P Q : Prop} [Decidable P] [Decidable Q] (h : Q ↔ P) : some (Value.int (b2i (decide Q))) = some (Value.int (b2i (decide P))) := by rw [decide_eq_decide.mpr h]
theorem eqB {P : Prop} [Decidable P] {b : Bool} (h : b = true ↔ P) : some (Value.int (b2i b)) = some (Value.int (b2i (decide P))) := by
  rw [show b = decide P from by by_cases q : P <;> simp [q, h] <;> (cases b <;> simp_all)]
/-- what a pure callee leaves that returns an int (a long) of which P is said -/
def IQ (P : Int32 → Prop) (h0 : Heap) : Option Value → Heap → List Loc → Prop := fun v h L => ∃ r, v = some (.int r) ∧ P r ∧ h = h0 ∧ L = []
def JQ (P : Int64 → Prop) (h0 : Heap) : Option Value → Heap → List Loc → Prop := fun v h L => ∃ r, v = some (.long r) ∧ P r ∧ h = h0 ∧ L = []
/-- what a pure callee leaves -/
def PQ (r : Value) (h0 : Heap) : Option Value → Heap → List Loc → Prop := fun v h L => v = some r ∧ h = h0 ∧ L = []
theorem Ctr.of {l : Launch} {Z : State} {y : MethodName} {bytes : ByteArray} {ml : Nat} {rt : Option FieldType} {rm : Room} {ws : List Jvm.Cond} {as' : Array Value} {h0 : Heap} {Q : Option Value → Heap → List Loc → Prop} (hp : plainFor y = true)
    (body : ∀ (p : Program) (e : Env) (s : State) (m : MethodId) (below : List Frame) (meth : Method) (c : Code) (s₁ : State), p.tables.exec = Jvm.exec → c.code = bytes → c.maxLocals = ml → meth.sig.returnType = rt → meth.locks = false → meth.name = y.name → s.vm.findClass y.cls = some m.cls → Z.Warmed39 s.vm → Stand p l e rm s m as' below meth c s₁ [] 0 0 → s₁.heap = h0 →
      Go p e below (Fin0 s rm Q) (s₁.setTop (entryFrame m as' ml))) : Ctr l Z y bytes ml rt rm ws as' h0 Q := by
  refine MetFree.of_bodySF hp hisR ?_
  intro p e s m args below meth c s₁ Bd hml0 hP hK
  obtain ⟨rfl, hZ, hh⟩ := hP
  obtain ⟨s₂, o, g1, g2, g3, v, L, g4, g5, g6⟩ := body p e s m below meth c s₁ Bd.exec Bd.bytes hml0 Bd.returns Bd.notSynchronized (name_of_methodNamed Bd.named Bd.method).1 (findClass_of_methodNamed Bd.named) hZ (Stand.of_body Bd) (by rw [← hh, Bd.state]; rfl)
  exact ⟨s₂, o, g1, g2, g3, v, L, g4, g5, g6⟩
theorem st_one {L L' : Array Slot} {i : Nat} {o : Slot} {v : Value} (h : L[i]? = some o) (ho : One o) (hv : v.category = 1) (hL : L.setIfInBounds i (.val v) = L') : storeLocals L i v = some L' := by
  rw [XS.store1 h ho hv, hL]
section OwnKit
variable {p : Program} {l : Launch} {e : Env} {R : Room} {s : State} {m : MethodId} {args : Array Value} {below : List Frame} {meth : Method} {c : Code} {T : State} {locs : List Loc} {cells slots : Nat} {Z : State} {a0 : Array Value} {h : Heap} {Φ : Outcome → State → Prop} {pc q : Nat} {L : Array Slot} {S : List Value}
theorem Go.by {U U' : State} (h : ∀ t, Steps p.tables e below U' t → Steps p.tables e below U t) (k : Go p e below Φ U') : Go p e below Φ U := by
  obtain ⟨s₂, o, h1, r⟩ := k; exact ⟨s₂, o, h _ h1, r⟩
theorem Go.cast {g g' : JFrame} (q : g = g') (k : Go p e below Φ (T.setTop g')) : Go p e below Φ (T.setTop g) := q ▸ k
theorem g_iloadN (hA : At T m c below) (hx : p.tables.exec = Jvm.exec) {j : Fin 4} {v : Int32} (hd : decode c.code pc = .ok (.iload_n j, 1)) (hl : L[j.val]? = some (.val (.int v))) (hq : pc + 1 = q) (k : Go p e below Φ (T.setTop (mkF m q L (.int v :: S)))) : Go p e below Φ (T.setTop (mkF m pc L S)) := by
  subst hq; exact Go.by (fun _ => XS.iloadN hA hx rfl hd hl) k
theorem g_iload (hA : At T m c below) (hx : p.tables.exec = Jvm.exec) {j : Nat} {v : Int32} (hd : decode c.code pc = .ok (.iload j, 2)) (hl : L[j]? = some (.val (.int v))) (hq : pc + 2 = q) (k : Go p e below Φ (T.setTop (mkF m q L (.int v :: S)))) : Go p e below Φ (T.setTop (mkF m pc L S)) := by
  subst hq; exact Go.by (fun _ => XS.iload hA hx rfl hd hl) k
theorem g_istoreN (hA : At T m c below) (hx : p.tables.exec = Jvm.exec) {j : Fin 4} {v : Int32} {L' : Array Slot} (hd : decode c.code pc = .ok (.istore_n j, 1)) (hl : storeLocals L j.val (.int v) = some L') (hq : pc + 1 = q) (k : Go p e below Φ (T.setTop (mkF m q L' S))) : Go p e below Φ (T.setTop (mkF m pc L (.int v :: S))) := by
  subst hq; exact Go.by (fun _ => XS.istoreN hA hx rfl hd rfl hl) k
theorem g_istore (hA : At T m c below) (hx : p.tables.exec = Jvm.exec) {j : Nat} {v : Int32} {L' : Array Slot} (hd : decode c.code pc = .ok (.istore j, 2)) (hl : storeLocals L j (.int v) = some L') (hq : pc + 2 = q) (k : Go p e below Φ (T.setTop (mkF m q L' S))) : Go p e below Φ (T.setTop (mkF m pc L (.int v :: S))) := by
  subst hq; exact Go.by (fun _ => XS.istore hA hx rfl hd rfl hl) k
theorem g_lloadN (hA : At T m c below) (hx : p.tables.exec = Jvm.exec) {j : Fin 4} {v : Int64} (hd : decode c.code pc = .ok (.lload_n j, 1)) (hl : L[j.val]? = some (.val (.long v))) (hq : pc + 1 = q) (k : Go p e below Φ (T.setTop (mkF m q L (.long v :: S)))) : Go p e below Φ (T.setTop (mkF m pc L S)) := by
  subst hq; exact Go.by (fun _ => XS.lloadN hA hx rfl hd hl) k
theorem g_lload (hA : At T m c below) (hx : p.tables.exec = Jvm.exec) {j : Nat} {v : Int64} (hd : decode c.code pc = .ok (.lload j, 2)) (hl : L[j]? = some (.val (.long v))) (hq : pc + 2 = q) (k : Go p e below Φ (T.setTop (mkF m q L (.long v :: S)))) : Go p e below Φ (T.setTop (mkF m pc L S)) := by
  subst hq; exact Go.by (fun _ => XS.lload hA hx rfl hd hl) k
theorem g_lstoreN (hA : At T m c below) (hx : p.tables.exec = Jvm.exec) {j : Fin 4} {v : Int64} {L' : Array Slot} (hd : decode c.code pc = .ok (.lstore_n j, 1)) (hl : storeLocals L j.val (.long v) = some L') (hq : pc + 1 = q) (k : Go p e below Φ (T.setTop (mkF m q L' S))) : Go p e below Φ (T.setTop (mkF m pc L (.long v :: S))) := by
  subst hq; exact Go.by (fun _ => XS.lstoreN hA hx rfl hd rfl hl) k
theorem g_lstore (hA : At T m c below) (hx : p.tables.exec = Jvm.exec) {j : Nat} {v : Int64} {L' : Array Slot} (hd : decode c.code pc = .ok (.lstore j, 2)) (hl : storeLocals L j (.long v) = some L') (hq : pc + 2 = q) (k : Go p e below Φ (T.setTop (mkF m q L' S))) : Go p e below Φ (T.setTop (mkF m pc L (.long v :: S))) := by
  subst hq; exact Go.by (fun _ => XS.lstore hA hx rfl hd rfl hl) k
theorem g_aloadN (hA : At T m c below) (hx : p.tables.exec = Jvm.exec) {j : Fin 4} {v : Value} (hd : decode c.code pc = .ok (.aload_n j, 1)) (hl : L[j.val]? = some (.val v)) (hv : v.isRef = true) (hq : pc + 1 = q) (k : Go p e below Φ (T.setTop (mkF m q L (v :: S)))) : Go p e below Φ (T.setTop (mkF m pc L S)) := by
  subst hq; exact Go.by (fun _ => XS.aloadN hA hx rfl hd hl hv) k
theorem g_aload (hA : At T m c below) (hx : p.tables.exec = Jvm.exec) {j : Nat} {v : Value} (hd : decode c.code pc = .ok (.aload j, 2)) (hl : L[j]? = some (.val v)) (hv : v.isRef = true) (hq : pc + 2 = q) (k : Go p e below Φ (T.setTop (mkF m q L (v :: S)))) : Go p e below Φ (T.setTop (mkF m pc L S)) := by
  subst hq; exact Go.by (fun _ => XS.aload hA hx rfl hd hl hv) k
theorem g_astoreN (hA : At T m c below) (hx : p.tables.exec = Jvm.exec) {j : Fin 4} {v : Value} {L' : Array Slot} (hd : decode c.code pc = .ok (.astore_n j, 1)) (hv : v.isRef = true) (hl : storeLocals L j.val v = some L') (hq : pc + 1 = q) (k : Go p e below Φ (T.setTop (mkF m q L' S))) : Go p e below Φ (T.setTop (mkF m pc L (v :: S))) := by
  subst hq; exact Go.by (fun _ => XS.astoreN hA hx rfl hd rfl hv hl) k
theorem g_astore (hA : At T m c below) (hx : p.tables.exec = Jvm.exec) {j : Nat} {v : Value} {L' : Array Slot} (hd : decode c.code pc = .ok (.astore j, 2)) (hv : v.isRef = true) (hl : storeLocals L j v = some L') (hq : pc + 2 = q) (k : Go p e below Φ (T.setTop (mkF m q L' S))) : Go p e below Φ (T.setTop (mkF m pc L (v :: S))) := by
  subst hq; exact Go.by (fun _ => XS.astore hA hx rfl hd rfl hv hl) k
theorem g_iconst (hA : At T m c below) (hx : p.tables.exec = Jvm.exec) {i : Int} {v : Int32} (hd : decode c.code pc = .ok (.iconst i, 1)) (hv : Int32.ofInt i = v) (hq : pc + 1 = q) (k : Go p e below Φ (T.setTop (mkF m q L (.int v :: S)))) : Go p e below Φ (T.setTop (mkF m pc L S)) := by
  subst hq hv; exact Go.by (fun _ => XS.iconst hA hx rfl hd) k
theorem g_bipush (hA : At T m c below) (hx : p.tables.exec = Jvm.exec) {i : Int} {v : Int32} (hd : decode c.code pc = .ok (.bipush i, 2)) (hv : (Int8.ofInt i).toInt32 = v) (hq : pc + 2 = q) (k : Go p e below Φ (T.setTop (mkF m q L (.int v :: S)))) : Go p e below Φ (T.setTop (mkF m pc L S)) := by
  subst hq hv; exact Go.by (fun _ => XS.bipush hA hx rfl hd) k
theorem g_sipush (hA : At T m c below) (hx : p.tables.exec = Jvm.exec) {i : Int} {v : Int32} (hd : decode c.code pc = .ok (.sipush i, 3)) (hv : (Int16.ofInt i).toInt32 = v) (hq : pc + 3 = q) (k : Go p e below Φ (T.setTop (mkF m q L (.int v :: S)))) : Go p e below Φ (T.setTop (mkF m pc L S)) := by
  subst hq hv; exact Go.by (fun _ => XS.sipush hA hx rfl hd) k
theorem g_lconst0 (hA : At T m c below) (hx : p.tables.exec = Jvm.exec) (hd : decode c.code pc = .ok (.lconst 0, 1)) (hq : pc + 1 = q) (k : Go p e below Φ (T.setTop (mkF m q L (.long 0 :: S)))) : Go p e below Φ (T.setTop (mkF m pc L S)) := by
  subst hq; exact Go.by (fun _ => XS.lconst hA hx rfl hd) k
theorem g_lconst1 (hA : At T m c below) (hx : p.tables.exec = Jvm.exec) (hd : decode c.code pc = .ok (.lconst 1, 1)) (hq : pc + 1 = q) (k : Go p e below Φ (T.setTop (mkF m q L (.long 1 :: S)))) : Go p e below Φ (T.setTop (mkF m pc L S)) := by
  subst hq; exact Go.by (fun _ => XS.lconst hA hx rfl hd) k
theorem g_aconst_null (hA : At T m c below) (hx : p.tables.exec = Jvm.exec) (hd : decode c.code pc = .ok (.aconst_null, 1)) (hq : pc + 1 = q) (k : Go p e below Φ (T.setTop (mkF m q L (.null :: S)))) : Go p e below Φ (T.setTop (mkF m pc L S)) := by
  subst hq; exact Go.by (fun _ => XS.aconstNull hA hx rfl hd) k
theorem g_iadd (hA : At T m c below) (hx : p.tables.exec = Jvm.exec) {x y : Int32} (hd : decode c.code pc = .ok (.iadd, 1)) (hq : pc + 1 = q) (k : Go p e below Φ (T.setTop (mkF m q L (.int (x + y) :: S)))) : Go p e below Φ (T.setTop (mkF m pc L (.int y :: .int x :: S))) := by
  subst hq; exact Go.by (fun _ => XS.iadd hA hx rfl hd rfl) k
theorem g_isub (hA : At T m c below) (hx : p.tables.exec = Jvm.exec) {x y : Int32} (hd : decode c.code pc = .ok (.isub, 1)) (hq : pc + 1 = q) (k : Go p e below Φ (T.setTop (mkF m q L (.int (x - y) :: S)))) : Go p e below Φ (T.setTop (mkF m pc L (.int y :: .int x :: S))) := by
  subst hq; exact Go.by (fun _ => XS.isub hA hx rfl hd rfl) k
theorem g_imul (hA : At T m c below) (hx : p.tables.exec = Jvm.exec) {x y : Int32} (hd : decode c.code pc = .ok (.imul, 1)) (hq : pc + 1 = q) (k : Go p e below Φ (T.setTop (mkF m q L (.int (x * y) :: S)))) : Go p e below Φ (T.setTop (mkF m pc L (.int y :: .int x :: S))) := by
  subst hq; exact Go.by (fun _ => XS.imul hA hx rfl hd rfl) k
theorem g_iand (hA : At T m c below) (hx : p.tables.exec = Jvm.exec) {x y : Int32} (hd : decode c.code pc = .ok (.iand, 1)) (hq : pc + 1 = q) (k : Go p e below Φ (T.setTop (mkF m q L (.int (x &&& y) :: S)))) : Go p e below Φ (T.setTop (mkF m pc L (.int y :: .int x :: S))) := by
  subst hq; exact Go.by (fun _ => XS.iand hA hx rfl hd rfl) k
theorem g_ior (hA : At T m c below) (hx : p.tables.exec = Jvm.exec) {x y : Int32} (hd : decode c.code pc = .ok (.ior, 1)) (hq : pc + 1 = q) (k : Go p e below Φ (T.setTop (mkF m q L (.int (x ||| y) :: S)))) : Go p e below Φ (T.setTop (mkF m pc L (.int y :: .int x :: S))) := by
  subst hq; exact Go.by (fun _ => XS.ior hA hx rfl hd rfl) k
theorem g_ixor (hA : At T m c below) (hx : p.tables.exec = Jvm.exec) {x y : Int32} (hd : decode c.code pc = .ok (.ixor, 1)) (hq : pc + 1 = q) (k : Go p e below Φ (T.setTop (mkF m q L (.int (x ^^^ y) :: S)))) : Go p e below Φ (T.setTop (mkF m pc L (.int y :: .int x :: S))) := by
  subst hq; exact Go.by (fun _ => XS.ixor hA hx rfl hd rfl) k
theorem g_ishl (hA : At T m c below) (hx : p.tables.exec = Jvm.exec) {x y : Int32} (hd : decode c.code pc = .ok (.ishl, 1)) (hq : pc + 1 = q) (k : Go p e below Φ (T.setTop (mkF m q L (.int (x <<< (y &&& 31)) :: S)))) : Go p e below Φ (T.setTop (mkF m pc L (.int y :: .int x :: S))) := by
  subst hq; exact Go.by (fun _ => XS.ishl hA hx rfl hd rfl) k
theorem g_ishr (hA : At T m c below) (hx : p.tables.exec = Jvm.exec) {x y : Int32} (hd : decode c.code pc = .ok (.ishr, 1)) (hq : pc + 1 = q) (k : Go p e below Φ (T.setTop (mkF m q L (.int (x >>> (y &&& 31)) :: S)))) : Go p e below Φ (T.setTop (mkF m pc L (.int y :: .int x :: S))) := by
  subst hq; exact Go.by (fun _ => XS.ishr hA hx rfl hd rfl) k
theorem g_iushr (hA : At T m c below) (hx : p.tables.exec = Jvm.exec) {x y : Int32} (hd : decode c.code pc = .ok (.iushr, 1)) (hq : pc + 1 = q) (k : Go p e below Φ (T.setTop (mkF m q L (.int ((x.toUInt32 >>> (y &&& 31).toUInt32).toInt32) :: S)))) : Go p e below Φ (T.setTop (mkF m pc L (.int y :: .int x :: S))) := by
  subst hq; exact Go.by (fun _ => XS.iushr hA hx rfl hd rfl) k
theorem g_ladd (hA : At T m c below) (hx : p.tables.exec = Jvm.exec) {x y : Int64} (hd : decode c.code pc = .ok (.ladd, 1)) (hq : pc + 1 = q) (k : Go p e below Φ (T.setTop (mkF m q L (.long (x + y) :: S)))) : Go p e below Φ (T.setTop (mkF m pc L (.long y :: .long x :: S))) := by
  subst hq; exact Go.by (fun _ => XS.ladd hA hx rfl hd rfl) k
theorem g_lsub (hA : At T m c below) (hx : p.tables.exec = Jvm.exec) {x y : Int64} (hd : decode c.code pc = .ok (.lsub, 1)) (hq : pc + 1 = q) (k : Go p e below Φ (T.setTop (mkF m q L (.long (x - y) :: S)))) : Go p e below Φ (T.setTop (mkF m pc L (.long y :: .long x :: S))) := by
  subst hq; exact Go.by (fun _ => XS.lsub hA hx rfl hd rfl) k
theorem g_lmul (hA : At T m c below) (hx : p.tables.exec = Jvm.exec) {x y : Int64} (hd : decode c.code pc = .ok (.lmul, 1)) (hq : pc + 1 = q) (k : Go p e below Φ (T.setTop (mkF m q L (.long (x * y) :: S)))) : Go p e below Φ (T.setTop (mkF m pc L (.long y :: .long x :: S))) := by
  subst hq; exact Go.by (fun _ => XS.lmul hA hx rfl hd rfl) k
theorem g_land (hA : At T m c below) (hx : p.tables.exec = Jvm.exec) {x y : Int64} (hd : decode c.code pc = .ok (.land, 1)) (hq : pc + 1 = q) (k : Go p e below Φ (T.setTop (mkF m q L (.long (x &&& y) :: S)))) : Go p e below Φ (T.setTop (mkF m pc L (.long y :: .long x :: S))) := by
  subst hq; exact Go.by (fun _ => XS.land hA hx rfl hd rfl) k
theorem g_lor (hA : At T m c below) (hx : p.tables.exec = Jvm.exec) {x y : Int64} (hd : decode c.code pc = .ok (.lor, 1)) (hq : pc + 1 = q) (k : Go p e below Φ (T.setTop (mkF m q L (.long (x ||| y) :: S)))) : Go p e below Φ (T.setTop (mkF m pc L (.long y :: .long x :: S))) := by
  subst hq; exact Go.by (fun _ => XS.lor hA hx rfl hd rfl) k
theorem g_lxor (hA : At T m c below) (hx : p.tables.exec = Jvm.exec) {x y : Int64} (hd : decode c.code pc = .ok (.lxor, 1)) (hq : pc + 1 = q) (k : Go p e below Φ (T.setTop (mkF m q L (.long (x ^^^ y) :: S)))) : Go p e below Φ (T.setTop (mkF m pc L (.long y :: .long x :: S))) := by
  subst hq; exact Go.by (fun _ => XS.lxor hA hx rfl hd rfl) k
theorem g_lshl (hA : At T m c below) (hx : p.tables.exec = Jvm.exec) {x : Int64} {y : Int32} (hd : decode c.code pc = .ok (.lshl, 1)) (hq : pc + 1 = q) (k : Go p e below Φ (T.setTop (mkF m q L (.long (x <<< (y &&& 0x3f).toInt64) :: S)))) : Go p e below Φ (T.setTop (mkF m pc L (.int y :: .long x :: S))) := by
  subst hq; exact Go.by (fun _ => XS.lshl hA hx rfl hd rfl) k
theorem g_lshr (hA : At T m c below) (hx : p.tables.exec = Jvm.exec) {x : Int64} {y : Int32} (hd : decode c.code pc = .ok (.lshr, 1)) (hq : pc + 1 = q) (k : Go p e below Φ (T.setTop (mkF m q L (.long (x >>> (y &&& 0x3f).toInt64) :: S)))) : Go p e below Φ (T.setTop (mkF m pc L (.int y :: .long x :: S))) := by
  subst hq; exact Go.by (fun _ => XS.lshr hA hx rfl hd rfl) k
theorem g_lushr (hA : At T m c below) (hx : p.tables.exec = Jvm.exec) {x : Int64} {y : Int32} (hd : decode c.code pc = .ok (.lushr, 1)) (hq : pc + 1 = q) (k : Go p e below Φ (T.setTop (mkF m q L (.long ((x.toUInt64 >>> (y &&& 0x3f).toInt64.toUInt64).toInt64) :: S)))) : Go p e below Φ (T.setTop (mkF m pc L (.int y :: .long x :: S))) := by
  subst hq; exact Go.by (fun _ => XS.lushr hA hx rfl hd rfl) k
theorem g_idiv (hA : At T m c below) (hx : p.tables.exec = Jvm.exec) {x y : Int32} (hd : decode c.code pc = .ok (.idiv, 1)) (hy : y ≠ 0) (hq : pc + 1 = q) (k : Go p e below Φ (T.setTop (mkF m q L (.int (x / y) :: S)))) : Go p e below Φ (T.setTop (mkF m pc L (.int y :: .int x :: S))) := by
  subst hq; exact Go.by (fun _ => XS.idiv hA hx rfl hd rfl hy) k
theorem g_irem (hA : At T m c below) (hx : p.tables.exec = Jvm.exec) {x y : Int32} (hd : decode c.code pc = .ok (.irem, 1)) (hy : y ≠ 0) (hq : pc + 1 = q) (k : Go p e below Φ (T.setTop (mkF m q L (.int (x % y) :: S)))) : Go p e below Φ (T.setTop (mkF m pc L (.int y :: .int x :: S))) := by
  subst hq; exact Go.by (fun _ => fun r => XS.irem hA hx rfl hd rfl hy (by rw [irem_eq_mod x y]; exact r)) k
theorem g_ldiv (hA : At T m c below) (hx : p.tables.exec = Jvm.exec) {x y : Int64} (hd : decode c.code pc = .ok (.ldiv, 1)) (hy : y ≠ 0) (hq : pc + 1 = q) (k : Go p e below Φ (T.setTop (mkF m q L (.long (x / y) :: S)))) : Go p e below Φ (T.setTop (mkF m pc L (.long y :: .long x :: S))) := by
  subst hq; exact Go.by (fun _ => XS.ldiv hA hx rfl hd rfl hy) k
theorem g_lrem (hA : At T m c below) (hx : p.tables.exec = Jvm.exec) {x y : Int64} (hd : decode c.code pc = .ok (.lrem, 1)) (hy : y ≠ 0) (hq : pc + 1 = q) (k : Go p e below Φ (T.setTop (mkF m q L (.long (x % y) :: S)))) : Go p e below Φ (T.setTop (mkF m pc L (.long y :: .long x :: S))) := by
  subst hq; exact Go.by (fun _ => fun r => XS.lrem hA hx rfl hd rfl hy (by rw [lrem_mod x y]; exact r)) k
theorem g_ineg (hA : At T m c below) (hx : p.tables.exec = Jvm.exec) {x : Int32} (hd : decode c.code pc = .ok (.ineg, 1)) (hq : pc + 1 = q) (k : Go p e below Φ (T.setTop (mkF m q L (.int (-x) :: S)))) : Go p e below Φ (T.setTop (mkF m pc L (.int x :: S))) := by
  subst hq; exact Go.by (fun _ => XS.ineg hA hx rfl hd rfl) k
theorem g_i2l (hA : At T m c below) (hx : p.tables.exec = Jvm.exec) {x : Int32} (hd : decode c.code pc = .ok (.i2l, 1)) (hq : pc + 1 = q) (k : Go p e below Φ (T.setTop (mkF m q L (.long x.toInt64 :: S)))) : Go p e below Φ (T.setTop (mkF m pc L (.int x :: S))) := by
  subst hq; exact Go.by (fun _ => XS.i2l hA hx rfl hd rfl) k
theorem g_l2i (hA : At T m c below) (hx : p.tables.exec = Jvm.exec) {x : Int64} (hd : decode c.code pc = .ok (.l2i, 1)) (hq : pc + 1 = q) (k : Go p e below Φ (T.setTop (mkF m q L (.int x.toInt32 :: S)))) : Go p e below Φ (T.setTop (mkF m pc L (.long x :: S))) := by
  subst hq; exact Go.by (fun _ => XS.l2i hA hx rfl hd rfl) k
theorem g_i2c (hA : At T m c below) (hx : p.tables.exec = Jvm.exec) {x : Int32} (hd : decode c.code pc = .ok (.i2c, 1)) (hq : pc + 1 = q) (k : Go p e below Φ (T.setTop (mkF m q L (.int x.toUInt32.toUInt16.toUInt32.toInt32 :: S)))) : Go p e below Φ (T.setTop (mkF m pc L (.int x :: S))) := by
  subst hq; exact Go.by (fun _ => XS.i2c hA hx rfl hd rfl) k
theorem g_lcmp (hA : At T m c below) (hx : p.tables.exec = Jvm.exec) {x y : Int64} (hd : decode c.code pc = .ok (.lcmp, 1)) (hq : pc + 1 = q) (k : Go p e below Φ (T.setTop (mkF m q L (.int (lcmpW x y) :: S)))) : Go p e below Φ (T.setTop (mkF m pc L (.long y :: .long x :: S))) := by
  subst hq; exact Go.by (fun _ => XS.lcmp hA hx rfl hd rfl) k
theorem g_iinc (hA : At T m c below) (hx : p.tables.exec = Jvm.exec) {j : Nat} {i : Int} {x v : Int32} {L' : Array Slot} (hd : decode c.code pc = .ok (.iinc j i, 3)) (hl : L[j]? = some (.val (.int x))) (hv : x + Int32.ofInt i = v) (hl' : storeLocals L j (.int v) = some L') (hq : pc + 3 = q) (k : Go p e below Φ (T.setTop (mkF m q L' S))) : Go p e below Φ (T.setTop (mkF m pc L S)) := by
  subst hq; exact Go.by (fun _ => XS.iinc hA hx rfl hd hl (by rw [hv]; exact hl')) k
theorem g_dup (hA : At T m c below) (hx : p.tables.exec = Jvm.exec) {v : Value} (hd : decode c.code pc = .ok (.dup, 1)) (hv : v.category = 1) (hq : pc + 1 = q) (k : Go p e below Φ (T.setTop (mkF m q L (v :: v :: S)))) : Go p e below Φ (T.setTop (mkF m pc L (v :: S))) := by
  subst hq; exact Go.by (fun _ => XS.dup hA hx rfl hd rfl hv) k
theorem g_pop (hA : At T m c below) (hx : p.tables.exec = Jvm.exec) {v : Value} (hd : decode c.code pc = .ok (.pop, 1)) (hv : v.category = 1) (hq : pc + 1 = q) (k : Go p e below Φ (T.setTop (mkF m q L S))) : Go p e below Φ (T.setTop (mkF m pc L (v :: S))) := by
  subst hq; exact Go.by (fun _ => XS.pop hA hx rfl hd rfl hv) k
theorem g_dupX1 (hA : At T m c below) (hx : p.tables.exec = Jvm.exec) {v w : Value} (hd : decode c.code pc = .ok (.dup_x1, 1)) (hv : v.category = 1) (hw' : w.category = 1) (hq : pc + 1 = q) (k : Go p e below Φ (T.setTop (mkF m q L (v :: w :: v :: S)))) : Go p e below Φ (T.setTop (mkF m pc L (v :: w :: S))) := by
  subst hq; exact Go.by (fun _ => XS.dupX1 hA hx rfl hd rfl hv hw') k
theorem g_dup2 (hA : At T m c below) (hx : p.tables.exec = Jvm.exec) {v w : Value} (hd : decode c.code pc = .ok (.dup2, 1)) (hv : v.category = 1) (hw' : w.category = 1) (hq : pc + 1 = q) (k : Go p e below Φ (T.setTop (mkF m q L (v :: w :: v :: w :: S)))) : Go p e below Φ (T.setTop (mkF m pc L (v :: w :: S))) := by
  subst hq; exact Go.by (fun _ => Jvm.Free.XT.dup2 hA hx rfl hd rfl hv hw') k
theorem g_goto (hA : At T m c below) (hx : p.tables.exec = Jvm.exec) {o : Int} (hd : decode c.code pc = .ok (.goto o, 3)) (ho : 0 ≤ (pc : Int) + o) (hq : ((pc : Int) + o).toNat = q) (k : Go p e below Φ (T.setTop (mkF m q L S))) : Go p e below Φ (T.setTop (mkF m pc L S)) := Go.by (fun _ => XS.goto hA hx rfl rfl hd ho hq) k
theorem g_icmp (hA : At T m c below) (hx : p.tables.exec = Jvm.exec) {cd : ClassFile.Cond} {o : Int} {q0 : Nat} {x y : Int32} (hd : decode c.code pc = .ok (.if_icmp cd o, 3)) (ho : 0 ≤ (pc : Int) + o) (hq : ((pc : Int) + o).toNat = q) (hq0 : pc + 3 = q0) (k1 : if_icmp.holds cd x y = true → Go p e below Φ (T.setTop (mkF m q L S))) (k0 : if_icmp.holds cd x y = false → Go p e below Φ (T.setTop (mkF m q0 L S))) : Go p e below Φ (T.setTop (mkF m pc L (.int y :: .int x :: S))) := by
  subst hq0
  cases hb : if_icmp.holds cd x y
  · exact Go.by (fun _ => XS.icmpNo hA hx rfl hd rfl hb) (k0 hb)
  · exact Go.by (fun _ => XS.icmpYes hA hx rfl rfl hd rfl hb ho hq) (k1 hb)
theorem g_if0 (hA : At T m c below) (hx : p.tables.exec = Jvm.exec) {cd : ClassFile.Cond} {o : Int} {q0 : Nat} {x : Int32} (hd : decode c.code pc = .ok (.ifCond cd o, 3)) (ho : 0 ≤ (pc : Int) + o) (hq : ((pc : Int) + o).toNat = q) (hq0 : pc + 3 = q0) (k1 : if_icmp.holds cd x 0 = true → Go p e below Φ (T.setTop (mkF m q L S))) (k0 : if_icmp.holds cd x 0 = false → Go p e below Φ (T.setTop (mkF m q0 L S))) : Go p e below Φ (T.setTop (mkF m pc L (.int x :: S))) := by
  subst hq0
  cases hb : if_icmp.holds cd x 0
  · exact Go.by (fun _ => XS.ifNo hA hx rfl hd rfl ((if0 _ _).trans hb)) (k0 hb)
  · exact Go.by (fun _ => XS.ifYes hA hx rfl rfl hd rfl ((if0 _ _).trans hb) ho hq) (k1 hb)
theorem rel_eq {x y : Int32} : (if_icmp.holds .eq x y = true → x.toInt = y.toInt) ∧ (if_icmp.holds .eq x y = false → x.toInt ≠ y.toInt) := by
  constructor <;> intro h <;> simp [if_icmp.holds, Int32.lt_iff_toInt_lt, Int32.le_iff_toInt_le, ← Int32.toInt_inj] at h <;> omega
theorem g_icmp_eq (hA : At T m c below) (hx : p.tables.exec = Jvm.exec) {o : Int} {q0 : Nat} {x y : Int32} (hd : decode c.code pc = .ok (.if_icmp .eq o, 3)) (ho : 0 ≤ (pc : Int) + o) (hq : ((pc : Int) + o).toNat = q) (hq0 : pc + 3 = q0) (k1 : x.toInt = y.toInt → Go p e below Φ (T.setTop (mkF m q L S))) (k0 : x.toInt ≠ y.toInt → Go p e below Φ (T.setTop (mkF m q0 L S))) : Go p e below Φ (T.setTop (mkF m pc L (.int y :: .int x :: S))) := g_icmp hA hx hd ho hq hq0 (fun h => k1 (rel_eq.1 h)) (fun h => k0 (rel_eq.2 h))
theorem g_if_eq (hA : At T m c below) (hx : p.tables.exec = Jvm.exec) {o : Int} {q0 : Nat} {x : Int32} (hd : decode c.code pc = .ok (.ifCond .eq o, 3)) (ho : 0 ≤ (pc : Int) + o) (hq : ((pc : Int) + o).toNat = q) (hq0 : pc + 3 = q0) (k1 : x.toInt = 0 → Go p e below Φ (T.setTop (mkF m q L S))) (k0 : x.toInt ≠ 0 → Go p e below Φ (T.setTop (mkF m q0 L S))) : Go p e below Φ (T.setTop (mkF m pc L (.int x :: S))) := g_if0 hA hx hd ho hq hq0 (fun h => k1 (rel_eq.1 h)) (fun h => k0 (rel_eq.2 h))
theorem rell_eq {x y : Int64} : (if_icmp.holds .eq (lcmpW x y) 0 = true → x.toInt = y.toInt) ∧ (if_icmp.holds .eq (lcmpW x y) 0 = false → x.toInt ≠ y.toInt) := by
  have q := c_lcmp x y
  constructor <;> intro h
  · have h' := (rel_eq (x := lcmpW x y) (y := 0)).1 h; rw [show (0 : Int32).toInt = 0 from rfl] at h'; generalize lcmpW x y = w at *; omega
  · have h' := (rel_eq (x := lcmpW x y) (y := 0)).2 h; rw [show (0 : Int32).toInt = 0 from rfl] at h'; generalize lcmpW x y = w at *; omega
theorem g_lcmp_eq (hA : At T m c below) (hx : p.tables.exec = Jvm.exec) {o : Int} {q1 q0 : Nat} {x y : Int64} (hd : decode c.code pc = .ok (.lcmp, 1)) (hq1 : pc + 1 = q1) (hd' : decode c.code q1 = .ok (.ifCond .eq o, 3)) (ho : 0 ≤ (q1 : Int) + o) (hq : ((q1 : Int) + o).toNat = q) (hq0 : q1 + 3 = q0) (k1 : x.toInt = y.toInt → Go p e below Φ (T.setTop (mkF m q L S))) (k0 : x.toInt ≠ y.toInt → Go p e below Φ (T.setTop (mkF m q0 L S))) : Go p e below Φ (T.setTop (mkF m pc L (.long y :: .long x :: S))) := g_lcmp hA hx hd hq1 (g_if0 hA hx hd' ho hq hq0 (fun h => k1 (rell_eq.1 h)) (fun h => k0 (rell_eq.2 h)))
theorem rel_ne {x y : Int32} : (if_icmp.holds .ne x y = true → x.toInt ≠ y.toInt) ∧ (if_icmp.holds .ne x y = false → x.toInt = y.toInt) := by
  constructor <;> intro h <;> simp [if_icmp.holds, Int32.lt_iff_toInt_lt, Int32.le_iff_toInt_le, ← Int32.toInt_inj] at h <;> omega
theorem g_icmp_ne (hA : At T m c below) (hx : p.tables.exec = Jvm.exec) {o : Int} {q0 : Nat} {x y : Int32} (hd : decode c.code pc = .ok (.if_icmp .ne o, 3)) (ho : 0 ≤ (pc : Int) + o) (hq : ((pc : Int) + o).toNat = q) (hq0 : pc + 3 = q0) (k1 : x.toInt ≠ y.toInt → Go p e below Φ (T.setTop (mkF m q L S))) (k0 : x.toInt = y.toInt → Go p e below Φ (T.setTop (mkF m q0 L S))) : Go p e below Φ (T.setTop (mkF m pc L (.int y :: .int x :: S))) := g_icmp hA hx hd ho hq hq0 (fun h => k1 (rel_ne.1 h)) (fun h => k0 (rel_ne.2 h))
theorem g_if_ne (hA : At T m c below) (hx : p.tables.exec = Jvm.exec) {o : Int} {q0 : Nat} {x : Int32} (hd : decode c.code pc = .ok (.ifCond .ne o, 3)) (ho : 0 ≤ (pc : Int) + o) (hq : ((pc : Int) + o).toNat = q) (hq0 : pc + 3 = q0) (k1 : x.toInt ≠ 0 → Go p e below Φ (T.setTop (mkF m q L S))) (k0 : x.toInt = 0 → Go p e below Φ (T.setTop (mkF m q0 L S))) : Go p e below Φ (T.setTop (mkF m pc L (.int x :: S))) := g_if0 hA hx hd ho hq hq0 (fun h => k1 (rel_ne.1 h)) (fun h => k0 (rel_ne.2 h))
theorem rell_ne {x y : Int64} : (if_icmp.holds .ne (lcmpW x y) 0 = true → x.toInt ≠ y.toInt) ∧ (if_icmp.holds .ne (lcmpW x y) 0 = false → x.toInt = y.toInt) := by
  have q := c_lcmp x y
  constructor <;> intro h
  · have h' := (rel_ne (x := lcmpW x y) (y := 0)).1 h; rw [show (0 : Int32).toInt = 0 from rfl] at h'; generalize lcmpW x y = w at *; omega
  · have h' := (rel_ne (x := lcmpW x y) (y := 0)).2 h; rw [show (0 : Int32).toInt = 0 from rfl] at h'; generalize lcmpW x y = w at *; omega
theorem g_lcmp_ne (hA : At T m c below) (hx : p.tables.exec = Jvm.exec) {o : Int} {q1 q0 : Nat} {x y : Int64} (hd : decode c.code pc = .ok (.lcmp, 1)) (hq1 : pc + 1 = q1) (hd' : decode c.code q1 = .ok (.ifCond .ne o, 3)) (ho : 0 ≤ (q1 : Int) + o) (hq : ((q1 : Int) + o).toNat = q) (hq0 : q1 + 3 = q0) (k1 : x.toInt ≠ y.toInt → Go p e below Φ (T.setTop (mkF m q L S))) (k0 : x.toInt = y.toInt → Go p e below Φ (T.setTop (mkF m q0 L S))) : Go p e below Φ (T.setTop (mkF m pc L (.long y :: .long x :: S))) := g_lcmp hA hx hd hq1 (g_if0 hA hx hd' ho hq hq0 (fun h => k1 (rell_ne.1 h)) (fun h => k0 (rell_ne.2 h)))
theorem rel_lt {x y : Int32} : (if_icmp.holds .lt x y = true → x.toInt < y.toInt) ∧ (if_icmp.holds .lt x y = false → y.toInt ≤ x.toInt) := by
  constructor <;> intro h <;> simp [if_icmp.holds, Int32.lt_iff_toInt_lt, Int32.le_iff_toInt_le, ← Int32.toInt_inj] at h <;> omega
theorem g_icmp_lt (hA : At T m c below) (hx : p.tables.exec = Jvm.exec) {o : Int} {q0 : Nat} {x y : Int32} (hd : decode c.code pc = .ok (.if_icmp .lt o, 3)) (ho : 0 ≤ (pc : Int) + o) (hq : ((pc : Int) + o).toNat = q) (hq0 : pc + 3 = q0) (k1 : x.toInt < y.toInt → Go p e below Φ (T.setTop (mkF m q L S))) (k0 : y.toInt ≤ x.toInt → Go p e below Φ (T.setTop (mkF m q0 L S))) : Go p e below Φ (T.setTop (mkF m pc L (.int y :: .int x :: S))) := g_icmp hA hx hd ho hq hq0 (fun h => k1 (rel_lt.1 h)) (fun h => k0 (rel_lt.2 h))
theorem g_if_lt (hA : At T m c below) (hx : p.tables.exec = Jvm.exec) {o : Int} {q0 : Nat} {x : Int32} (hd : decode c.code pc = .ok (.ifCond .lt o, 3)) (ho : 0 ≤ (pc : Int) + o) (hq : ((pc : Int) + o).toNat = q) (hq0 : pc + 3 = q0) (k1 : x.toInt < 0 → Go p e below Φ (T.setTop (mkF m q L S))) (k0 : 0 ≤ x.toInt → Go p e below Φ (T.setTop (mkF m q0 L S))) : Go p e below Φ (T.setTop (mkF m pc L (.int x :: S))) := g_if0 hA hx hd ho hq hq0 (fun h => k1 (rel_lt.1 h)) (fun h => k0 (rel_lt.2 h))
theorem rell_lt {x y : Int64} : (if_icmp.holds .lt (lcmpW x y) 0 = true → x.toInt < y.toInt) ∧ (if_icmp.holds .lt (lcmpW x y) 0 = false → y.toInt ≤ x.toInt) := by
  have q := c_lcmp x y
  constructor <;> intro h
  · have h' := (rel_lt (x := lcmpW x y) (y := 0)).1 h; rw [show (0 : Int32).toInt = 0 from rfl] at h'; generalize lcmpW x y = w at *; omega
  · have h' := (rel_lt (x := lcmpW x y) (y := 0)).2 h; rw [show (0 : Int32).toInt = 0 from rfl] at h'; generalize lcmpW x y = w at *; omega
theorem g_lcmp_lt (hA : At T m c below) (hx : p.tables.exec = Jvm.exec) {o : Int} {q1 q0 : Nat} {x y : Int64} (hd : decode c.code pc = .ok (.lcmp, 1)) (hq1 : pc + 1 = q1) (hd' : decode c.code q1 = .ok (.ifCond .lt o, 3)) (ho : 0 ≤ (q1 : Int) + o) (hq : ((q1 : Int) + o).toNat = q) (hq0 : q1 + 3 = q0) (k1 : x.toInt < y.toInt → Go p e below Φ (T.setTop (mkF m q L S))) (k0 : y.toInt ≤ x.toInt → Go p e below Φ (T.setTop (mkF m q0 L S))) : Go p e below Φ (T.setTop (mkF m pc L (.long y :: .long x :: S))) := g_lcmp hA hx hd hq1 (g_if0 hA hx hd' ho hq hq0 (fun h => k1 (rell_lt.1 h)) (fun h => k0 (rell_lt.2 h)))
theorem rel_ge {x y : Int32} : (if_icmp.holds .ge x y = true → y.toInt ≤ x.toInt) ∧ (if_icmp.holds .ge x y = false → x.toInt < y.toInt) := by
  constructor <;> intro h <;> simp [if_icmp.holds, Int32.lt_iff_toInt_lt, Int32.le_iff_toInt_le, ← Int32.toInt_inj] at h <;> omega
theorem g_icmp_ge (hA : At T m c below) (hx : p.tables.exec = Jvm.exec) {o : Int} {q0 : Nat} {x y : Int32} (hd : decode c.code pc = .ok (.if_icmp .ge o, 3)) (ho : 0 ≤ (pc : Int) + o) (hq : ((pc : Int) + o).toNat = q) (hq0 : pc + 3 = q0) (k1 : y.toInt ≤ x.toInt → Go p e below Φ (T.setTop (mkF m q L S))) (k0 : x.toInt < y.toInt → Go p e below Φ (T.setTop (mkF m q0 L S))) : Go p e below Φ (T.setTop (mkF m pc L (.int y :: .int x :: S))) := g_icmp hA hx hd ho hq hq0 (fun h => k1 (rel_ge.1 h)) (fun h => k0 (rel_ge.2 h))
theorem g_if_ge (hA : At T m c below) (hx : p.tables.exec = Jvm.exec) {o : Int} {q0 : Nat} {x : Int32} (hd : decode c.code pc = .ok (.ifCond .ge o, 3)) (ho : 0 ≤ (pc : Int) + o) (hq : ((pc : Int) + o).toNat = q) (hq0 : pc + 3 = q0) (k1 : 0 ≤ x.toInt → Go p e below Φ (T.setTop (mkF m q L S))) (k0 : x.toInt < 0 → Go p e below Φ (T.setTop (mkF m q0 L S))) : Go p e below Φ (T.setTop (mkF m pc L (.int x :: S))) := g_if0 hA hx hd ho hq hq0 (fun h => k1 (rel_ge.1 h)) (fun h => k0 (rel_ge.2 h))
theorem rell_ge {x y : Int64} : (if_icmp.holds .ge (lcmpW x y) 0 = true → y.toInt ≤ x.toInt) ∧ (if_icmp.holds .ge (lcmpW x y) 0 = false → x.toInt < y.toInt) := by
  have q := c_lcmp x y
  constructor <;> intro h
  · have h' := (rel_ge (x := lcmpW x y) (y := 0)).1 h; rw [show (0 : Int32).toInt = 0 from rfl] at h'; generalize lcmpW x y = w at *; omega
  · have h' := (rel_ge (x := lcmpW x y) (y := 0)).2 h; rw [show (0 : Int32).toInt = 0 from rfl] at h'; generalize lcmpW x y = w at *; omega
theorem g_lcmp_ge (hA : At T m c below) (hx : p.tables.exec = Jvm.exec) {o : Int} {q1 q0 : Nat} {x y : Int64} (hd : decode c.code pc = .ok (.lcmp, 1)) (hq1 : pc + 1 = q1) (hd' : decode c.code q1 = .ok (.ifCond .ge o, 3)) (ho : 0 ≤ (q1 : Int) + o) (hq : ((q1 : Int) + o).toNat = q) (hq0 : q1 + 3 = q0) (k1 : y.toInt ≤ x.toInt → Go p e below Φ (T.setTop (mkF m q L S))) (k0 : x.toInt < y.toInt → Go p e below Φ (T.setTop (mkF m q0 L S))) : Go p e below Φ (T.setTop (mkF m pc L (.long y :: .long x :: S))) := g_lcmp hA hx hd hq1 (g_if0 hA hx hd' ho hq hq0 (fun h => k1 (rell_ge.1 h)) (fun h => k0 (rell_ge.2 h)))
theorem rel_gt {x y : Int32} : (if_icmp.holds .gt x y = true → y.toInt < x.toInt) ∧ (if_icmp.holds .gt x y = false → x.toInt ≤ y.toInt) := by
  constructor <;> intro h <;> simp [if_icmp.holds, Int32.lt_iff_toInt_lt, Int32.le_iff_toInt_le, ← Int32.toInt_inj] at h <;> omega
theorem g_icmp_gt (hA : At T m c below) (hx : p.tables.exec = Jvm.exec) {o : Int} {q0 : Nat} {x y : Int32} (hd : decode c.code pc = .ok (.if_icmp .gt o, 3)) (ho : 0 ≤ (pc : Int) + o) (hq : ((pc : Int) + o).toNat = q) (hq0 : pc + 3 = q0) (k1 : y.toInt < x.toInt → Go p e below Φ (T.setTop (mkF m q L S))) (k0 : x.toInt ≤ y.toInt → Go p e below Φ (T.setTop (mkF m q0 L S))) : Go p e below Φ (T.setTop (mkF m pc L (.int y :: .int x :: S))) := g_icmp hA hx hd ho hq hq0 (fun h => k1 (rel_gt.1 h)) (fun h => k0 (rel_gt.2 h))
theorem g_if_gt (hA : At T m c below) (hx : p.tables.exec = Jvm.exec) {o : Int} {q0 : Nat} {x : Int32} (hd : decode c.code pc = .ok (.ifCond .gt o, 3)) (ho : 0 ≤ (pc : Int) + o) (hq : ((pc : Int) + o).toNat = q) (hq0 : pc + 3 = q0) (k1 : 0 < x.toInt → Go p e below Φ (T.setTop (mkF m q L S))) (k0 : x.toInt ≤ 0 → Go p e below Φ (T.setTop (mkF m q0 L S))) : Go p e below Φ (T.setTop (mkF m pc L (.int x :: S))) := g_if0 hA hx hd ho hq hq0 (fun h => k1 (rel_gt.1 h)) (fun h => k0 (rel_gt.2 h))
theorem rell_gt {x y : Int64} : (if_icmp.holds .gt (lcmpW x y) 0 = true → y.toInt < x.toInt) ∧ (if_icmp.holds .gt (lcmpW x y) 0 = false → x.toInt ≤ y.toInt) := by
  have q := c_lcmp x y
  constructor <;> intro h
  · have h' := (rel_gt (x := lcmpW x y) (y := 0)).1 h; rw [show (0 : Int32).toInt = 0 from rfl] at h'; generalize lcmpW x y = w at *; omega
  · have h' := (rel_gt (x := lcmpW x y) (y := 0)).2 h; rw [show (0 : Int32).toInt = 0 from rfl] at h'; generalize lcmpW x y = w at *; omega
theorem g_lcmp_gt (hA : At T m c below) (hx : p.tables.exec = Jvm.exec) {o : Int} {q1 q0 : Nat} {x y : Int64} (hd : decode c.code pc = .ok (.lcmp, 1)) (hq1 : pc + 1 = q1) (hd' : decode c.code q1 = .ok (.ifCond .gt o, 3)) (ho : 0 ≤ (q1 : Int) + o) (hq : ((q1 : Int) + o).toNat = q) (hq0 : q1 + 3 = q0) (k1 : y.toInt < x.toInt → Go p e below Φ (T.setTop (mkF m q L S))) (k0 : x.toInt ≤ y.toInt → Go p e below Φ (T.setTop (mkF m q0 L S))) : Go p e below Φ (T.setTop (mkF m pc L (.long y :: .long x :: S))) := g_lcmp hA hx hd hq1 (g_if0 hA hx hd' ho hq hq0 (fun h => k1 (rell_gt.1 h)) (fun h => k0 (rell_gt.2 h)))
theorem rel_le {x y : Int32} : (if_icmp.holds .le x y = true → x.toInt ≤ y.toInt) ∧ (if_icmp.holds .le x y = false → y.toInt < x.toInt) := by
  constructor <;> intro h <;> simp [if_icmp.holds, Int32.lt_iff_toInt_lt, Int32.le_iff_toInt_le, ← Int32.toInt_inj] at h <;> omega
theorem g_icmp_le (hA : At T m c below) (hx : p.tables.exec = Jvm.exec) {o : Int} {q0 : Nat} {x y : Int32} (hd : decode c.code pc = .ok (.if_icmp .le o, 3)) (ho : 0 ≤ (pc : Int) + o) (hq : ((pc : Int) + o).toNat = q) (hq0 : pc + 3 = q0) (k1 : x.toInt ≤ y.toInt → Go p e below Φ (T.setTop (mkF m q L S))) (k0 : y.toInt < x.toInt → Go p e below Φ (T.setTop (mkF m q0 L S))) : Go p e below Φ (T.setTop (mkF m pc L (.int y :: .int x :: S))) := g_icmp hA hx hd ho hq hq0 (fun h => k1 (rel_le.1 h)) (fun h => k0 (rel_le.2 h))
theorem g_if_le (hA : At T m c below) (hx : p.tables.exec = Jvm.exec) {o : Int} {q0 : Nat} {x : Int32} (hd : decode c.code pc = .ok (.ifCond .le o, 3)) (ho : 0 ≤ (pc : Int) + o) (hq : ((pc : Int) + o).toNat = q) (hq0 : pc + 3 = q0) (k1 : x.toInt ≤ 0 → Go p e below Φ (T.setTop (mkF m q L S))) (k0 : 0 < x.toInt → Go p e below Φ (T.setTop (mkF m q0 L S))) : Go p e below Φ (T.setTop (mkF m pc L (.int x :: S))) := g_if0 hA hx hd ho hq hq0 (fun h => k1 (rel_le.1 h)) (fun h => k0 (rel_le.2 h))
theorem rell_le {x y : Int64} : (if_icmp.holds .le (lcmpW x y) 0 = true → x.toInt ≤ y.toInt) ∧ (if_icmp.holds .le (lcmpW x y) 0 = false → y.toInt < x.toInt) := by
  have q := c_lcmp x y
  constructor <;> intro h
  · have h' := (rel_le (x := lcmpW x y) (y := 0)).1 h; rw [show (0 : Int32).toInt = 0 from rfl] at h'; generalize lcmpW x y = w at *; omega
  · have h' := (rel_le (x := lcmpW x y) (y := 0)).2 h; rw [show (0 : Int32).toInt = 0 from rfl] at h'; generalize lcmpW x y = w at *; omega
theorem g_lcmp_le (hA : At T m c below) (hx : p.tables.exec = Jvm.exec) {o : Int} {q1 q0 : Nat} {x y : Int64} (hd : decode c.code pc = .ok (.lcmp, 1)) (hq1 : pc + 1 = q1) (hd' : decode c.code q1 = .ok (.ifCond .le o, 3)) (ho : 0 ≤ (q1 : Int) + o) (hq : ((q1 : Int) + o).toNat = q) (hq0 : q1 + 3 = q0) (k1 : x.toInt ≤ y.toInt → Go p e below Φ (T.setTop (mkF m q L S))) (k0 : y.toInt < x.toInt → Go p e below Φ (T.setTop (mkF m q0 L S))) : Go p e below Φ (T.setTop (mkF m pc L (.long y :: .long x :: S))) := g_lcmp hA hx hd hq1 (g_if0 hA hx hd' ho hq hq0 (fun h => k1 (rell_le.1 h)) (fun h => k0 (rell_le.2 h)))
theorem g_ifB_ne (hA : At T m c below) (hx : p.tables.exec = Jvm.exec) {o : Int} {q0 : Nat} {b : Bool} (hd : decode c.code pc = .ok (.ifCond .ne o, 3)) (ho : 0 ≤ (pc : Int) + o) (hq : ((pc : Int) + o).toNat = q) (hq0 : pc + 3 = q0) (k1 : b = true → Go p e below Φ (T.setTop (mkF m q L S))) (k0 : b = false → Go p e below Φ (T.setTop (mkF m q0 L S))) : Go p e below Φ (T.setTop (mkF m pc L (.int (b2i b) :: S))) := g_if0 hA hx hd ho hq hq0 (fun h => k1 (by cases b <;> first | rfl | exact Bool.noConfusion h)) (fun h => k0 (by cases b <;> first | rfl | exact Bool.noConfusion h))
theorem g_ifB_eq (hA : At T m c below) (hx : p.tables.exec = Jvm.exec) {o : Int} {q0 : Nat} {b : Bool} (hd : decode c.code pc = .ok (.ifCond .eq o, 3)) (ho : 0 ≤ (pc : Int) + o) (hq : ((pc : Int) + o).toNat = q) (hq0 : pc + 3 = q0) (k1 : b = false → Go p e below Φ (T.setTop (mkF m q L S))) (k0 : b = true → Go p e below Φ (T.setTop (mkF m q0 L S))) : Go p e below Φ (T.setTop (mkF m pc L (.int (b2i b) :: S))) := g_if0 hA hx hd ho hq hq0 (fun h => k1 (by cases b <;> first | rfl | exact Bool.noConfusion h)) (fun h => k0 (by cases b <;> first | rfl | exact Bool.noConfusion h))
theorem g_sel_icmp_eq (hA : At T m c below) (hx : p.tables.exec = Jvm.exec) {o o' : Int} {z t t' : Nat} {x y : Int32} (hd : decode c.code pc = .ok (.if_icmp .eq o, 3)) (ho : 0 ≤ (pc : Int) + o) (hz' : ((pc : Int) + o).toNat = z) (ht0 : pc + 3 = t) (hz : decode c.code z = .ok (.iconst 0, 1)) (ht : decode c.code t = .ok (.iconst 1, 1)) (hg : decode c.code t' = .ok (.goto o', 3)) (ht' : t + 1 = t') (hog : 0 ≤ (t' : Int) + o') (hj : ((t' : Int) + o').toNat = q) (hj' : z + 1 = q) (k : Go p e below Φ (T.setTop (mkF m q L (.int (b2i (decide (x.toInt ≠ y.toInt))) :: S)))) : Go p e below Φ (T.setTop (mkF m pc L (.int y :: .int x :: S))) :=
  g_icmp_eq hA hx hd ho hz' ht0 (fun h => g_iconst hA hx hz rfl hj' (by rw [show decide (x.toInt ≠ y.toInt) = false from decide_eq_false (by omega)] at k; exact k)) (fun h => g_iconst hA hx ht rfl ht' (g_goto hA hx hg hog hj (by rw [show decide (x.toInt ≠ y.toInt) = true from decide_eq_true (by omega)] at k; exact k)))
theorem g_sel_icmp_ne (hA : At T m c below) (hx : p.tables.exec = Jvm.exec) {o o' : Int} {z t t' : Nat} {x y : Int32} (hd : decode c.code pc = .ok (.if_icmp .ne o, 3)) (ho : 0 ≤ (pc : Int) + o) (hz' : ((pc : Int) + o).toNat = z) (ht0 : pc + 3 = t) (hz : decode c.code z = .ok (.iconst 0, 1)) (ht : decode c.code t = .ok (.iconst 1, 1)) (hg : decode c.code t' = .ok (.goto o', 3)) (ht' : t + 1 = t') (hog : 0 ≤ (t' : Int) + o') (hj : ((t' : Int) + o').toNat = q) (hj' : z + 1 = q) (k : Go p e below Φ (T.setTop (mkF m q L (.int (b2i (decide (x.toInt = y.toInt))) :: S)))) : Go p e below Φ (T.setTop (mkF m pc L (.int y :: .int x :: S))) :=
  g_icmp_ne hA hx hd ho hz' ht0 (fun h => g_iconst hA hx hz rfl hj' (by rw [show decide (x.toInt = y.toInt) = false from decide_eq_false (by omega)] at k; exact k)) (fun h => g_iconst hA hx ht rfl ht' (g_goto hA hx hg hog hj (by rw [show decide (x.toInt = y.toInt) = true from decide_eq_true (by omega)] at k; exact k)))
theorem g_sel_icmp_lt (hA : At T m c below) (hx : p.tables.exec = Jvm.exec) {o o' : Int} {z t t' : Nat} {x y : Int32} (hd : decode c.code pc = .ok (.if_icmp .lt o, 3)) (ho : 0 ≤ (pc : Int) + o) (hz' : ((pc : Int) + o).toNat = z) (ht0 : pc + 3 = t) (hz : decode c.code z = .ok (.iconst 0, 1)) (ht : decode c.code t = .ok (.iconst 1, 1)) (hg : decode c.code t' = .ok (.goto o', 3)) (ht' : t + 1 = t') (hog : 0 ≤ (t' : Int) + o') (hj : ((t' : Int) + o').toNat = q) (hj' : z + 1 = q) (k : Go p e below Φ (T.setTop (mkF m q L (.int (b2i (decide (y.toInt ≤ x.toInt))) :: S)))) : Go p e below Φ (T.setTop (mkF m pc L (.int y :: .int x :: S))) :=
  g_icmp_lt hA hx hd ho hz' ht0 (fun h => g_iconst hA hx hz rfl hj' (by rw [show decide (y.toInt ≤ x.toInt) = false from decide_eq_false (by omega)] at k; exact k)) (fun h => g_iconst hA hx ht rfl ht' (g_goto hA hx hg hog hj (by rw [show decide (y.toInt ≤ x.toInt) = true from decide_eq_true (by omega)] at k; exact k)))
theorem g_sel_icmp_ge (hA : At T m c below) (hx : p.tables.exec = Jvm.exec) {o o' : Int} {z t t' : Nat} {x y : Int32} (hd : decode c.code pc = .ok (.if_icmp .ge o, 3)) (ho : 0 ≤ (pc : Int) + o) (hz' : ((pc : Int) + o).toNat = z) (ht0 : pc + 3 = t) (hz : decode c.code z = .ok (.iconst 0, 1)) (ht : decode c.code t = .ok (.iconst 1, 1)) (hg : decode c.code t' = .ok (.goto o', 3)) (ht' : t + 1 = t') (hog : 0 ≤ (t' : Int) + o') (hj : ((t' : Int) + o').toNat = q) (hj' : z + 1 = q) (k : Go p e below Φ (T.setTop (mkF m q L (.int (b2i (decide (x.toInt < y.toInt))) :: S)))) : Go p e below Φ (T.setTop (mkF m pc L (.int y :: .int x :: S))) :=
  g_icmp_ge hA hx hd ho hz' ht0 (fun h => g_iconst hA hx hz rfl hj' (by rw [show decide (x.toInt < y.toInt) = false from decide_eq_false (by omega)] at k; exact k)) (fun h => g_iconst hA hx ht rfl ht' (g_goto hA hx hg hog hj (by rw [show decide (x.toInt < y.toInt) = true from decide_eq_true (by omega)] at k; exact k)))
theorem g_sel_icmp_gt (hA : At T m c below) (hx : p.tables.exec = Jvm.exec) {o o' : Int} {z t t' : Nat} {x y : Int32} (hd : decode c.code pc = .ok (.if_icmp .gt o, 3)) (ho : 0 ≤ (pc : Int) + o) (hz' : ((pc : Int) + o).toNat = z) (ht0 : pc + 3 = t) (hz : decode c.code z = .ok (.iconst 0, 1)) (ht : decode c.code t = .ok (.iconst 1, 1)) (hg : decode c.code t' = .ok (.goto o', 3)) (ht' : t + 1 = t') (hog : 0 ≤ (t' : Int) + o') (hj : ((t' : Int) + o').toNat = q) (hj' : z + 1 = q) (k : Go p e below Φ (T.setTop (mkF m q L (.int (b2i (decide (x.toInt ≤ y.toInt))) :: S)))) : Go p e below Φ (T.setTop (mkF m pc L (.int y :: .int x :: S))) :=
  g_icmp_gt hA hx hd ho hz' ht0 (fun h => g_iconst hA hx hz rfl hj' (by rw [show decide (x.toInt ≤ y.toInt) = false from decide_eq_false (by omega)] at k; exact k)) (fun h => g_iconst hA hx ht rfl ht' (g_goto hA hx hg hog hj (by rw [show decide (x.toInt ≤ y.toInt) = true from decide_eq_true (by omega)] at k; exact k)))
theorem g_sel_icmp_le (hA : At T m c below) (hx : p.tables.exec = Jvm.exec) {o o' : Int} {z t t' : Nat} {x y : Int32} (hd : decode c.code pc = .ok (.if_icmp .le o, 3)) (ho : 0 ≤ (pc : Int) + o) (hz' : ((pc : Int) + o).toNat = z) (ht0 : pc + 3 = t) (hz : decode c.code z = .ok (.iconst 0, 1)) (ht : decode c.code t = .ok (.iconst 1, 1)) (hg : decode c.code t' = .ok (.goto o', 3)) (ht' : t + 1 = t') (hog : 0 ≤ (t' : Int) + o') (hj : ((t' : Int) + o').toNat = q) (hj' : z + 1 = q) (k : Go p e below Φ (T.setTop (mkF m q L (.int (b2i (decide (y.toInt < x.toInt))) :: S)))) : Go p e below Φ (T.setTop (mkF m pc L (.int y :: .int x :: S))) :=
  g_icmp_le hA hx hd ho hz' ht0 (fun h => g_iconst hA hx hz rfl hj' (by rw [show decide (y.toInt < x.toInt) = false from decide_eq_false (by omega)] at k; exact k)) (fun h => g_iconst hA hx ht rfl ht' (g_goto hA hx hg hog hj (by rw [show decide (y.toInt < x.toInt) = true from decide_eq_true (by omega)] at k; exact k)))
theorem g_sel_if_eq (hA : At T m c below) (hx : p.tables.exec = Jvm.exec) {o o' : Int} {z t t' : Nat} {x : Int32} (hd : decode c.code pc = .ok (.ifCond .eq o, 3)) (ho : 0 ≤ (pc : Int) + o) (hz' : ((pc : Int) + o).toNat = z) (ht0 : pc + 3 = t) (hz : decode c.code z = .ok (.iconst 0, 1)) (ht : decode c.code t = .ok (.iconst 1, 1)) (hg : decode c.code t' = .ok (.goto o', 3)) (ht' : t + 1 = t') (hog : 0 ≤ (t' : Int) + o') (hj : ((t' : Int) + o').toNat = q) (hj' : z + 1 = q) (k : Go p e below Φ (T.setTop (mkF m q L (.int (b2i (decide (x.toInt ≠ 0))) :: S)))) : Go p e below Φ (T.setTop (mkF m pc L (.int x :: S))) :=
  g_if_eq hA hx hd ho hz' ht0 (fun h => g_iconst hA hx hz rfl hj' (by rw [show decide (x.toInt ≠ 0) = false from decide_eq_false (by omega)] at k; exact k)) (fun h => g_iconst hA hx ht rfl ht' (g_goto hA hx hg hog hj (by rw [show decide (x.toInt ≠ 0) = true from decide_eq_true (by omega)] at k; exact k)))
theorem g_sel_if_ne (hA : At T m c below) (hx : p.tables.exec = Jvm.exec) {o o' : Int} {z t t' : Nat} {x : Int32} (hd : decode c.code pc = .ok (.ifCond .ne o, 3)) (ho : 0 ≤ (pc : Int) + o) (hz' : ((pc : Int) + o).toNat = z) (ht0 : pc + 3 = t) (hz : decode c.code z = .ok (.iconst 0, 1)) (ht : decode c.code t = .ok (.iconst 1, 1)) (hg : decode c.code t' = .ok (.goto o', 3)) (ht' : t + 1 = t') (hog : 0 ≤ (t' : Int) + o') (hj : ((t' : Int) + o').toNat = q) (hj' : z + 1 = q) (k : Go p e below Φ (T.setTop (mkF m q L (.int (b2i (decide (x.toInt = 0))) :: S)))) : Go p e below Φ (T.setTop (mkF m pc L (.int x :: S))) :=
  g_if_ne hA hx hd ho hz' ht0 (fun h => g_iconst hA hx hz rfl hj' (by rw [show decide (x.toInt = 0) = false from decide_eq_false (by omega)] at k; exact k)) (fun h => g_iconst hA hx ht rfl ht' (g_goto hA hx hg hog hj (by rw [show decide (x.toInt = 0) = true from decide_eq_true (by omega)] at k; exact k)))
theorem g_sel_if_lt (hA : At T m c below) (hx : p.tables.exec = Jvm.exec) {o o' : Int} {z t t' : Nat} {x : Int32} (hd : decode c.code pc = .ok (.ifCond .lt o, 3)) (ho : 0 ≤ (pc : Int) + o) (hz' : ((pc : Int) + o).toNat = z) (ht0 : pc + 3 = t) (hz : decode c.code z = .ok (.iconst 0, 1)) (ht : decode c.code t = .ok (.iconst 1, 1)) (hg : decode c.code t' = .ok (.goto o', 3)) (ht' : t + 1 = t') (hog : 0 ≤ (t' : Int) + o') (hj : ((t' : Int) + o').toNat = q) (hj' : z + 1 = q) (k : Go p e below Φ (T.setTop (mkF m q L (.int (b2i (decide (0 ≤ x.toInt))) :: S)))) : Go p e below Φ (T.setTop (mkF m pc L (.int x :: S))) :=
  g_if_lt hA hx hd ho hz' ht0 (fun h => g_iconst hA hx hz rfl hj' (by rw [show decide (0 ≤ x.toInt) = false from decide_eq_false (by omega)] at k; exact k)) (fun h => g_iconst hA hx ht rfl ht' (g_goto hA hx hg hog hj (by rw [show decide (0 ≤ x.toInt) = true from decide_eq_true (by omega)] at k; exact k)))
theorem g_sel_if_ge (hA : At T m c below) (hx : p.tables.exec = Jvm.exec) {o o' : Int} {z t t' : Nat} {x : Int32} (hd : decode c.code pc = .ok (.ifCond .ge o, 3)) (ho : 0 ≤ (pc : Int) + o) (hz' : ((pc : Int) + o).toNat = z) (ht0 : pc + 3 = t) (hz : decode c.code z = .ok (.iconst 0, 1)) (ht : decode c.code t = .ok (.iconst 1, 1)) (hg : decode c.code t' = .ok (.goto o', 3)) (ht' : t + 1 = t') (hog : 0 ≤ (t' : Int) + o') (hj : ((t' : Int) + o').toNat = q) (hj' : z + 1 = q) (k : Go p e below Φ (T.setTop (mkF m q L (.int (b2i (decide (x.toInt < 0))) :: S)))) : Go p e below Φ (T.setTop (mkF m pc L (.int x :: S))) :=
  g_if_ge hA hx hd ho hz' ht0 (fun h => g_iconst hA hx hz rfl hj' (by rw [show decide (x.toInt < 0) = false from decide_eq_false (by omega)] at k; exact k)) (fun h => g_iconst hA hx ht rfl ht' (g_goto hA hx hg hog hj (by rw [show decide (x.toInt < 0) = true from decide_eq_true (by omega)] at k; exact k)))
theorem g_sel_if_gt (hA : At T m c below) (hx : p.tables.exec = Jvm.exec) {o o' : Int} {z t t' : Nat} {x : Int32} (hd : decode c.code pc = .ok (.ifCond .gt o, 3)) (ho : 0 ≤ (pc : Int) + o) (hz' : ((pc : Int) + o).toNat = z) (ht0 : pc + 3 = t) (hz : decode c.code z = .ok (.iconst 0, 1)) (ht : decode c.code t = .ok (.iconst 1, 1)) (hg : decode c.code t' = .ok (.goto o', 3)) (ht' : t + 1 = t') (hog : 0 ≤ (t' : Int) + o') (hj : ((t' : Int) + o').toNat = q) (hj' : z + 1 = q) (k : Go p e below Φ (T.setTop (mkF m q L (.int (b2i (decide (x.toInt ≤ 0))) :: S)))) : Go p e below Φ (T.setTop (mkF m pc L (.int x :: S))) :=
  g_if_gt hA hx hd ho hz' ht0 (fun h => g_iconst hA hx hz rfl hj' (by rw [show decide (x.toInt ≤ 0) = false from decide_eq_false (by omega)] at k; exact k)) (fun h => g_iconst hA hx ht rfl ht' (g_goto hA hx hg hog hj (by rw [show decide (x.toInt ≤ 0) = true from decide_eq_true (by omega)] at k; exact k)))
theorem g_sel_if_le (hA : At T m c below) (hx : p.tables.exec = Jvm.exec) {o o' : Int} {z t t' : Nat} {x : Int32} (hd : decode c.code pc = .ok (.ifCond .le o, 3)) (ho : 0 ≤ (pc : Int) + o) (hz' : ((pc : Int) + o).toNat = z) (ht0 : pc + 3 = t) (hz : decode c.code z = .ok (.iconst 0, 1)) (ht : decode c.code t = .ok (.iconst 1, 1)) (hg : decode c.code t' = .ok (.goto o', 3)) (ht' : t + 1 = t') (hog : 0 ≤ (t' : Int) + o') (hj : ((t' : Int) + o').toNat = q) (hj' : z + 1 = q) (k : Go p e below Φ (T.setTop (mkF m q L (.int (b2i (decide (0 < x.toInt))) :: S)))) : Go p e below Φ (T.setTop (mkF m pc L (.int x :: S))) :=
  g_if_le hA hx hd ho hz' ht0 (fun h => g_iconst hA hx hz rfl hj' (by rw [show decide (0 < x.toInt) = false from decide_eq_false (by omega)] at k; exact k)) (fun h => g_iconst hA hx ht rfl ht' (g_goto hA hx hg hog hj (by rw [show decide (0 < x.toInt) = true from decide_eq_true (by omega)] at k; exact k)))
theorem g_sel_lcmp_eq (hA : At T m c below) (hx : p.tables.exec = Jvm.exec) {o o' : Int} {q1 z t t' : Nat} {x y : Int64} (hd : decode c.code pc = .ok (.lcmp, 1)) (hq1 : pc + 1 = q1) (hd' : decode c.code q1 = .ok (.ifCond .eq o, 3)) (ho : 0 ≤ (q1 : Int) + o) (hz' : ((q1 : Int) + o).toNat = z) (ht0 : q1 + 3 = t) (hz : decode c.code z = .ok (.iconst 0, 1)) (ht : decode c.code t = .ok (.iconst 1, 1)) (hg : decode c.code t' = .ok (.goto o', 3)) (ht' : t + 1 = t') (hog : 0 ≤ (t' : Int) + o') (hj : ((t' : Int) + o').toNat = q) (hj' : z + 1 = q) (k : Go p e below Φ (T.setTop (mkF m q L (.int (b2i (decide (x.toInt ≠ y.toInt))) :: S)))) : Go p e below Φ (T.setTop (mkF m pc L (.long y :: .long x :: S))) :=
  g_lcmp_eq hA hx hd hq1 hd' ho hz' ht0 (fun h => g_iconst hA hx hz rfl hj' (by rw [show decide (x.toInt ≠ y.toInt) = false from decide_eq_false (by omega)] at k; exact k)) (fun h => g_iconst hA hx ht rfl ht' (g_goto hA hx hg hog hj (by rw [show decide (x.toInt ≠ y.toInt) = true from decide_eq_true (by omega)] at k; exact k)))
theorem g_sel_lcmp_ne (hA : At T m c below) (hx : p.tables.exec = Jvm.exec) {o o' : Int} {q1 z t t' : Nat} {x y : Int64} (hd : decode c.code pc = .ok (.lcmp, 1)) (hq1 : pc + 1 = q1) (hd' : decode c.code q1 = .ok (.ifCond .ne o, 3)) (ho : 0 ≤ (q1 : Int) + o) (hz' : ((q1 : Int) + o).toNat = z) (ht0 : q1 + 3 = t) (hz : decode c.code z = .ok (.iconst 0, 1)) (ht : decode c.code t = .ok (.iconst 1, 1)) (hg : decode c.code t' = .ok (.goto o', 3)) (ht' : t + 1 = t') (hog : 0 ≤ (t' : Int) + o') (hj : ((t' : Int) + o').toNat = q) (hj' : z + 1 = q) (k : Go p e below Φ (T.setTop (mkF m q L (.int (b2i (decide (x.toInt = y.toInt))) :: S)))) : Go p e below Φ (T.setTop (mkF m pc L (.long y :: .long x :: S))) :=
  g_lcmp_ne hA hx hd hq1 hd' ho hz' ht0 (fun h => g_iconst hA hx hz rfl hj' (by rw [show decide (x.toInt = y.toInt) = false from decide_eq_false (by omega)] at k; exact k)) (fun h => g_iconst hA hx ht rfl ht' (g_goto hA hx hg hog hj (by rw [show decide (x.toInt = y.toInt) = true from decide_eq_true (by omega)] at k; exact k)))
theorem g_sel_lcmp_lt (hA : At T m c below) (hx : p.tables.exec = Jvm.exec) {o o' : Int} {q1 z t t' : Nat} {x y : Int64} (hd : decode c.code pc = .ok (.lcmp, 1)) (hq1 : pc + 1 = q1) (hd' : decode c.code q1 = .ok (.ifCond .lt o, 3)) (ho : 0 ≤ (q1 : Int) + o) (hz' : ((q1 : Int) + o).toNat = z) (ht0 : q1 + 3 = t) (hz : decode c.code z = .ok (.iconst 0, 1)) (ht : decode c.code t = .ok (.iconst 1, 1)) (hg : decode c.code t' = .ok (.goto o', 3)) (ht' : t + 1 = t') (hog : 0 ≤ (t' : Int) + o') (hj : ((t' : Int) + o').toNat = q) (hj' : z + 1 = q) (k : Go p e below Φ (T.setTop (mkF m q L (.int (b2i (decide (y.toInt ≤ x.toInt))) :: S)))) : Go p e below Φ (T.setTop (mkF m pc L (.long y :: .long x :: S))) :=
  g_lcmp_lt hA hx hd hq1 hd' ho hz' ht0 (fun h => g_iconst hA hx hz rfl hj' (by rw [show decide (y.toInt ≤ x.toInt) = false from decide_eq_false (by omega)] at k; exact k)) (fun h => g_iconst hA hx ht rfl ht' (g_goto hA hx hg hog hj (by rw [show decide (y.toInt ≤ x.toInt) = true from decide_eq_true (by omega)] at k; exact k)))
theorem g_sel_lcmp_ge (hA : At T m c below) (hx : p.tables.exec = Jvm.exec) {o o' : Int} {q1 z t t' : Nat} {x y : Int64} (hd : decode c.code pc = .ok (.lcmp, 1)) (hq1 : pc + 1 = q1) (hd' : decode c.code q1 = .ok (.ifCond .ge o, 3)) (ho : 0 ≤ (q1 : Int) + o) (hz' : ((q1 : Int) + o).toNat = z) (ht0 : q1 + 3 = t) (hz : decode c.code z = .ok (.iconst 0, 1)) (ht : decode c.code t = .ok (.iconst 1, 1)) (hg : decode c.code t' = .ok (.goto o', 3)) (ht' : t + 1 = t') (hog : 0 ≤ (t' : Int) + o') (hj : ((t' : Int) + o').toNat = q) (hj' : z + 1 = q) (k : Go p e below Φ (T.setTop (mkF m q L (.int (b2i (decide (x.toInt < y.toInt))) :: S)))) : Go p e below Φ (T.setTop (mkF m pc L (.long y :: .long x :: S))) :=
  g_lcmp_ge hA hx hd hq1 hd' ho hz' ht0 (fun h => g_iconst hA hx hz rfl hj' (by rw [show decide (x.toInt < y.toInt) = false from decide_eq_false (by omega)] at k; exact k)) (fun h => g_iconst hA hx ht rfl ht' (g_goto hA hx hg hog hj (by rw [show decide (x.toInt < y.toInt) = true from decide_eq_true (by omega)] at k; exact k)))
theorem g_sel_lcmp_gt (hA : At T m c below) (hx : p.tables.exec = Jvm.exec) {o o' : Int} {q1 z t t' : Nat} {x y : Int64} (hd : decode c.code pc = .ok (.lcmp, 1)) (hq1 : pc + 1 = q1) (hd' : decode c.code q1 = .ok (.ifCond .gt o, 3)) (ho : 0 ≤ (q1 : Int) + o) (hz' : ((q1 : Int) + o).toNat = z) (ht0 : q1 + 3 = t) (hz : decode c.code z = .ok (.iconst 0, 1)) (ht : decode c.code t = .ok (.iconst 1, 1)) (hg : decode c.code t' = .ok (.goto o', 3)) (ht' : t + 1 = t') (hog : 0 ≤ (t' : Int) + o') (hj : ((t' : Int) + o').toNat = q) (hj' : z + 1 = q) (k : Go p e below Φ (T.setTop (mkF m q L (.int (b2i (decide (x.toInt ≤ y.toInt))) :: S)))) : Go p e below Φ (T.setTop (mkF m pc L (.long y :: .long x :: S))) :=
  g_lcmp_gt hA hx hd hq1 hd' ho hz' ht0 (fun h => g_iconst hA hx hz rfl hj' (by rw [show decide (x.toInt ≤ y.toInt) = false from decide_eq_false (by omega)] at k; exact k)) (fun h => g_iconst hA hx ht rfl ht' (g_goto hA hx hg hog hj (by rw [show decide (x.toInt ≤ y.toInt) = true from decide_eq_true (by omega)] at k; exact k)))
theorem g_sel_lcmp_le (hA : At T m c below) (hx : p.tables.exec = Jvm.exec) {o o' : Int} {q1 z t t' : Nat} {x y : Int64} (hd : decode c.code pc = .ok (.lcmp, 1)) (hq1 : pc + 1 = q1) (hd' : decode c.code q1 = .ok (.ifCond .le o, 3)) (ho : 0 ≤ (q1 : Int) + o) (hz' : ((q1 : Int) + o).toNat = z) (ht0 : q1 + 3 = t) (hz : decode c.code z = .ok (.iconst 0, 1)) (ht : decode c.code t = .ok (.iconst 1, 1)) (hg : decode c.code t' = .ok (.goto o', 3)) (ht' : t + 1 = t') (hog : 0 ≤ (t' : Int) + o') (hj : ((t' : Int) + o').toNat = q) (hj' : z + 1 = q) (k : Go p e below Φ (T.setTop (mkF m q L (.int (b2i (decide (y.toInt < x.toInt))) :: S)))) : Go p e below Φ (T.setTop (mkF m pc L (.long y :: .long x :: S))) :=
  g_lcmp_le hA hx hd hq1 hd' ho hz' ht0 (fun h => g_iconst hA hx hz rfl hj' (by rw [show decide (y.toInt < x.toInt) = false from decide_eq_false (by omega)] at k; exact k)) (fun h => g_iconst hA hx ht rfl ht' (g_goto hA hx hg hog hj (by rw [show decide (y.toInt < x.toInt) = true from decide_eq_true (by omega)] at k; exact k)))
theorem g_selB_ne (hA : At T m c below) (hx : p.tables.exec = Jvm.exec) {o o' : Int} {z t t' : Nat} {b : Bool} (hd : decode c.code pc = .ok (.ifCond .ne o, 3)) (ho : 0 ≤ (pc : Int) + o) (hz' : ((pc : Int) + o).toNat = z) (ht0 : pc + 3 = t) (hz : decode c.code z = .ok (.iconst 0, 1)) (ht : decode c.code t = .ok (.iconst 1, 1)) (hg : decode c.code t' = .ok (.goto o', 3)) (ht' : t + 1 = t') (hog : 0 ≤ (t' : Int) + o') (hj : ((t' : Int) + o').toNat = q) (hj' : z + 1 = q) (k : Go p e below Φ (T.setTop (mkF m q L (.int (b2i (!b)) :: S)))) : Go p e below Φ (T.setTop (mkF m pc L (.int (b2i b) :: S))) :=
  g_ifB_ne hA hx hd ho hz' ht0 (fun h => g_iconst hA hx hz rfl hj' (by subst h; exact k)) (fun h => g_iconst hA hx ht rfl ht' (g_goto hA hx hg hog hj (by subst h; exact k)))
theorem g_selB_eq (hA : At T m c below) (hx : p.tables.exec = Jvm.exec) {o o' : Int} {z t t' : Nat} {b : Bool} (hd : decode c.code pc = .ok (.ifCond .eq o, 3)) (ho : 0 ≤ (pc : Int) + o) (hz' : ((pc : Int) + o).toNat = z) (ht0 : pc + 3 = t) (hz : decode c.code z = .ok (.iconst 0, 1)) (ht : decode c.code t = .ok (.iconst 1, 1)) (hg : decode c.code t' = .ok (.goto o', 3)) (ht' : t + 1 = t') (hog : 0 ≤ (t' : Int) + o') (hj : ((t' : Int) + o').toNat = q) (hj' : z + 1 = q) (k : Go p e below Φ (T.setTop (mkF m q L (.int (b2i (b)) :: S)))) : Go p e below Φ (T.setTop (mkF m pc L (.int (b2i b) :: S))) :=
  g_ifB_eq hA hx hd ho hz' ht0 (fun h => g_iconst hA hx hz rfl hj' (by subst h; exact k)) (fun h => g_iconst hA hx ht rfl ht' (g_goto hA hx hg hog hj (by subst h; exact k)))
theorem g_selBB_ne (hA : At T m c below) (hx : p.tables.exec = Jvm.exec) {o o' : Int} {z t t' : Nat} {a b : Bool} (hd : decode c.code pc = .ok (.if_icmp .ne o, 3)) (ho : 0 ≤ (pc : Int) + o) (hz' : ((pc : Int) + o).toNat = z) (ht0 : pc + 3 = t) (hz : decode c.code z = .ok (.iconst 0, 1)) (ht : decode c.code t = .ok (.iconst 1, 1)) (hg : decode c.code t' = .ok (.goto o', 3)) (ht' : t + 1 = t') (hog : 0 ≤ (t' : Int) + o') (hj : ((t' : Int) + o').toNat = q) (hj' : z + 1 = q) (k : Go p e below Φ (T.setTop (mkF m q L (.int (b2i (a == b)) :: S)))) : Go p e below Φ (T.setTop (mkF m pc L (.int (b2i b) :: .int (b2i a) :: S))) :=
  g_icmp hA hx hd ho hz' ht0 (fun h => g_iconst hA hx hz rfl hj' (by cases a <;> cases b <;> first | exact k | exact Bool.noConfusion h)) (fun h => g_iconst hA hx ht rfl ht' (g_goto hA hx hg hog hj (by cases a <;> cases b <;> first | exact k | exact Bool.noConfusion h)))
theorem g_selBB_eq (hA : At T m c below) (hx : p.tables.exec = Jvm.exec) {o o' : Int} {z t t' : Nat} {a b : Bool} (hd : decode c.code pc = .ok (.if_icmp .eq o, 3)) (ho : 0 ≤ (pc : Int) + o) (hz' : ((pc : Int) + o).toNat = z) (ht0 : pc + 3 = t) (hz : decode c.code z = .ok (.iconst 0, 1)) (ht : decode c.code t = .ok (.iconst 1, 1)) (hg : decode c.code t' = .ok (.goto o', 3)) (ht' : t + 1 = t') (hog : 0 ≤ (t' : Int) + o') (hj : ((t' : Int) + o').toNat = q) (hj' : z + 1 = q) (k : Go p e below Φ (T.setTop (mkF m q L (.int (b2i (a != b)) :: S)))) : Go p e below Φ (T.setTop (mkF m pc L (.int (b2i b) :: .int (b2i a) :: S))) :=
  g_icmp hA hx hd ho hz' ht0 (fun h => g_iconst hA hx hz rfl hj' (by cases a <;> cases b <;> first | exact k | exact Bool.noConfusion h)) (fun h => g_iconst hA hx ht rfl ht' (g_goto hA hx hg hog hj (by cases a <;> cases b <;> first | exact k | exact Bool.noConfusion h)))
theorem g_ldcI (X : Stand p l e R s m args below meth c T locs cells slots) (hx : p.tables.exec = Jvm.exec) (hZ : Z.Warmed39 s.vm) {own : String} {index : Nat} {v : Int32} (hown : s.vm.findClass own = some m.cls) (w : (Jvm.Cond.constant own index v).before a0 Z = true) (hd : decode c.code pc = .ok (.ldc index, 2)) (hq : pc + 2 = q) (k : Go p e below Φ (T.setTop (mkF m q L (.int v :: S)))) : Go p e below Φ (T.setTop (mkF m pc L S)) := by
  subst hq; exact Go.by (X.ldcInt hx hown (mvT hZ w) rfl hd) k
theorem g_ldcWI (X : Stand p l e R s m args below meth c T locs cells slots) (hx : p.tables.exec = Jvm.exec) (hZ : Z.Warmed39 s.vm) {own : String} {index : Nat} {v : Int32} (hown : s.vm.findClass own = some m.cls) (w : (Jvm.Cond.constant own index v).before a0 Z = true) (hd : decode c.code pc = .ok (.ldc_w index, 3)) (hq : pc + 3 = q) (k : Go p e below Φ (T.setTop (mkF m q L (.int v :: S)))) : Go p e below Φ (T.setTop (mkF m pc L S)) := by
  subst hq; exact Go.by (X.ldcWInt hx hown (mvT hZ w) rfl hd) k
theorem g_ldc2J (X : Stand p l e R s m args below meth c T locs cells slots) (hx : p.tables.exec = Jvm.exec) (hZ : Z.Warmed39 s.vm) {own : String} {index : Nat} {v : Int64} (hown : s.vm.findClass own = some m.cls) (w : (Jvm.Cond.constantLong own index v).before a0 Z = true) (hd : decode c.code pc = .ok (.ldc2_w index, 3)) (hq : pc + 3 = q) (k : Go p e below Φ (T.setTop (mkF m q L (.long v :: S)))) : Go p e below Φ (T.setTop (mkF m pc L S)) := by
  subst hq; exact Go.by (X.ldc2Long hx hown (mvT hZ w) rfl hd) k
theorem g_ireturn (X : Stand p l e R s m args below meth c T locs cells slots) (hx : p.tables.exec = Jvm.exec) {Q : Option Value → Heap → List Loc → Prop} {rm : Room} (hlk : meth.locks = false) {z : Int32} (hrt : meth.sig.returnType = some .int) (hd : decode c.code pc = .ok (.ireturn, 1)) (hc : cells ≤ rm.cells) (hs : slots ≤ rm.slots) (hQ : Q (some (.int z)) T.heap locs) : Go p e below (Fin0 s rm Q) (T.setTop (mkF m pc L (.int z :: S))) := by
  obtain ⟨fs, hr, hrun, hended, hW, hsame⟩ := X.leave (v := (some (.int z))) (fun h => by rw [hrt] at h; cases h) hlk
  exact ⟨_, _, retOut X hx hrt rfl (Or.inl ⟨rfl, Or.inl rfl, z, rfl⟩) hd hr, hrun, hended, _, _, rfl, hQ, ⟨_, rfl⟩, hW, hsame.mono hc hs⟩
theorem g_lreturn (X : Stand p l e R s m args below meth c T locs cells slots) (hx : p.tables.exec = Jvm.exec) {Q : Option Value → Heap → List Loc → Prop} {rm : Room} (hlk : meth.locks = false) {z : Int64} (hrt : meth.sig.returnType = some .long) (hd : decode c.code pc = .ok (.lreturn, 1)) (hc : cells ≤ rm.cells) (hs : slots ≤ rm.slots) (hQ : Q (some (.long z)) T.heap locs) : Go p e below (Fin0 s rm Q) (T.setTop (mkF m pc L (.long z :: S))) := by
  obtain ⟨fs, hr, hrun, hended, hW, hsame⟩ := X.leave (v := (some (.long z))) (fun h => by rw [hrt] at h; cases h) hlk
  exact ⟨_, _, retOut X hx hrt rfl (Or.inr (Or.inl ⟨rfl, rfl, z, rfl⟩)) hd hr, hrun, hended, _, _, rfl, hQ, ⟨_, rfl⟩, hW, hsame.mono hc hs⟩
theorem g_areturn (X : Stand p l e R s m args below meth c T locs cells slots) (hx : p.tables.exec = Jvm.exec) {Q : Option Value → Heap → List Loc → Prop} {rm : Room} (hlk : meth.locks = false) {w : Value} {t : FieldType} (hw : w.isRef = true) (hrt : meth.sig.returnType = some t) (ht : t.isReference = true) (hd : decode c.code pc = .ok (.areturn, 1)) (hc : cells ≤ rm.cells) (hs : slots ≤ rm.slots) (hQ : Q (some w) T.heap locs) : Go p e below (Fin0 s rm Q) (T.setTop (mkF m pc L (w :: S))) := by
  obtain ⟨fs, hr, hrun, hended, hW, hsame⟩ := X.leave (v := (some w)) (fun h => by rw [hrt] at h; cases h) hlk
  exact ⟨_, _, retOut X hx hrt (by cases t <;> first | rfl | cases ht) (Or.inr (Or.inr (Or.inr (Or.inr ⟨rfl, ht, hw⟩)))) hd hr, hrun, hended, _, _, rfl, hQ, ⟨_, rfl⟩, hW, hsame.mono hc hs⟩
theorem g_zreturn (X : Stand p l e R s m args below meth c T locs cells slots) (hx : p.tables.exec = Jvm.exec) {Q : Option Value → Heap → List Loc → Prop} {rm : Room} (hlk : meth.locks = false) {b : Bool} (hrt : meth.sig.returnType = some .boolean) (hd : decode c.code pc = .ok (.ireturn, 1)) (hc : cells ≤ rm.cells) (hs : slots ≤ rm.slots) (hQ : Q (some (.int (b2i b))) T.heap locs) : Go p e below (Fin0 s rm Q) (T.setTop (mkF m pc L (.int (b2i b) :: S))) := by
  obtain ⟨fs, hr, hrun, hended, hW, hsame⟩ := X.leave (v := (some (.int (b2i b)))) (fun h => by rw [hrt] at h; cases h) hlk
  exact ⟨_, _, retOut X hx hrt (by cases b <;> rfl) (Or.inl ⟨rfl, Or.inr (Or.inl rfl), _, rfl⟩) hd hr, hrun, hended, _, _, rfl, hQ, ⟨_, rfl⟩, hW, hsame.mono hc hs⟩
theorem g_nreturn (X : Stand p l e R s m args below meth c T locs cells slots) (hx : p.tables.exec = Jvm.exec) {Q : Option Value → Heap → List Loc → Prop} {rm : Room} (hlk : meth.locks = false) {z : Int32} {t : FieldType} (hn : narrow t (.int z) = .int z) (ht : t = .int ∨ t = .boolean ∨ t = .byte ∨ t = .char ∨ t = .short) (hrt : meth.sig.returnType = some t) (hd : decode c.code pc = .ok (.ireturn, 1)) (hc : cells ≤ rm.cells) (hs : slots ≤ rm.slots) (hQ : Q (some (.int z)) T.heap locs) : Go p e below (Fin0 s rm Q) (T.setTop (mkF m pc L (.int z :: S))) := by
  obtain ⟨fs, hr, hrun, hended, hW, hsame⟩ := X.leave (v := (some (.int z))) (fun h => by rw [hrt] at h; cases h) hlk
  exact ⟨_, _, retOut X hx hrt hn (Or.inl ⟨rfl, ht, z, rfl⟩) hd hr, hrun, hended, _, _, rfl, hQ, ⟨_, rfl⟩, hW, hsame.mono hc hs⟩
theorem g_ret (X : Stand p l e R s m args below meth c T locs cells slots) (hx : p.tables.exec = Jvm.exec) {Q : Option Value → Heap → List Loc → Prop} {rm : Room} (hlk : meth.locks = false) (hrt : meth.sig.returnType = none) (hd : decode c.code pc = .ok (.return_, 1)) (hc : cells ≤ rm.cells) (hs : slots ≤ rm.slots) (hQ : Q none T.heap locs) : Go p e below (Fin0 s rm Q) (T.setTop (mkF m pc L [])) := by
  obtain ⟨fs, hr, hrun, hended, hW, hsame⟩ := X.leave (v := none) (fun _ => rfl) hlk
  exact ⟨_, _, X.returnOut hx hrt hd hr, hrun, hended, _, _, rfl, hQ, ⟨_, rfl⟩, hW, hsame.mono hc hs⟩
theorem g_callS (X : Stand p l e R s m args below meth c T locs cells slots) (hx : p.tables.exec = Jvm.exec) (hZ : Z.Warmed39 s.vm) {own : String} {index : Nat} {y : MethodName} {bytes : ByteArray} {maxL : Nat} {ret : Option FieldType} (hown : s.vm.findClass own = some m.cls) (w1 : (Jvm.Cond.methodLink own index y).before a0 Z = true) (w2 : (Jvm.Cond.static y).before a0 Z = true) (w3 : (Jvm.Cond.initialized y.cls).before a0 Z = true) (w4 : (Jvm.Cond.code y bytes maxL ret).before a0 Z = true) (hy : y.cls ≠ "java/lang/invoke/MethodHandle" ∧ y.cls ≠ "java/lang/invoke/VarHandle")
    {rm : Room} {as' : Array Value} {Q : Option Value → Heap → List Loc → Prop} (C : Ctr l Z y bytes maxL ret rm [] as' h Q) {argsL rest : List Value} {ps : List FieldType} {rt : Option FieldType} (hpd : parseMethodDescriptor y.desc = some ⟨ps, rt⟩) (hlen : argsL.length = ps.length) (hst : S = argsL.reverse ++ rest) (has : argsL.toArray = as') (hd : decode c.code pc = .ok (.invokestatic index, 3)) (hq : pc + 3 = q) (hsz : L.size = c.maxLocals) (eT : T.heap = h)
    (hf : rm.frames + 1 ≤ R.frames) {W : Nat} (hW : (rest.map fun v => v.category).sum = W) (hl : W + (maxL + 11) + rm.locals ≤ R.locals) (hc : cells + rm.cells ≤ R.cells) (hs : slots + rm.slots ≤ R.slots)
    (k : ∀ v T' Lc, Stand p l e R s m args below meth c T' (locs ++ Lc) (cells + rm.cells) (slots + rm.slots) → Q v T'.heap Lc → Go p e below Φ (T'.setTop (mkF m q L (v.toList ++ rest)))) : Go p e below Φ (T.setTop (mkF m pc L S)) := by
  subst hq has
  obtain ⟨v, _, ⟨T', L', k', n'⟩, -, X', ⟨Lc, hQ, l1, y1, z1⟩, st⟩ := Jvm.LawKit.callS X hx (y := y) hown (mvT hZ w1) (mvT hZ w2) (mvT hZ w3) (mvT hZ w4) hy (backOf (W := W) C hZ w4 w3 hf hl) (g := mkF m pc L S) rfl hsz (argsL := argsL) (rest := rest) (lenOf hpd hlen) hst (by show 2 * 0 + _ ≤ _; omega) hd (fun _ _ => ⟨rfl, eT, hc, hs⟩)
  dsimp only [Pt.U, Pt.locs, Pt.cells, Pt.slots] at X' l1 y1 z1 st hQ
  subst l1 y1 z1
  exact Go.by st (k v T' Lc X' hQ)
theorem g_callSP (X : Stand p l e R s m args below meth c T locs cells slots) (hx : p.tables.exec = Jvm.exec) (hZ : Z.Warmed39 s.vm) {own : String} {index : Nat} {y : MethodName} {bytes : ByteArray} {maxL : Nat} {ret : Option FieldType} (hown : s.vm.findClass own = some m.cls) (w1 : (Jvm.Cond.methodLink own index y).before a0 Z = true) (w2 : (Jvm.Cond.static y).before a0 Z = true) (w3 : (Jvm.Cond.initialized y.cls).before a0 Z = true) (w4 : (Jvm.Cond.code y bytes maxL ret).before a0 Z = true) (hy : y.cls ≠ "java/lang/invoke/MethodHandle" ∧ y.cls ≠ "java/lang/invoke/VarHandle")
    {rm : Room} {as' : Array Value} {r : Value} (C : Ctr l Z y bytes maxL ret rm [] as' h (PQ r h)) {argsL rest : List Value} {ps : List FieldType} {rt : Option FieldType} (hpd : parseMethodDescriptor y.desc = some ⟨ps, rt⟩) (hlen : argsL.length = ps.length) (hst : S = argsL.reverse ++ rest) (has : argsL.toArray = as') (hd : decode c.code pc = .ok (.invokestatic index, 3)) (hq : pc + 3 = q) (hsz : L.size = c.maxLocals) (eT : T.heap = h)
    (hf : rm.frames + 1 ≤ R.frames) {W : Nat} (hW : (rest.map fun v => v.category).sum = W) (hl : W + (maxL + 11) + rm.locals ≤ R.locals) (hc : rm.cells = 0) (hs : rm.slots = 0) (hc' : cells ≤ R.cells) (hs' : slots ≤ R.slots)
    (k : ∀ T', Stand p l e R s m args below meth c T' locs cells slots → T'.heap = h → Go p e below Φ (T'.setTop (mkF m q L (r :: rest)))) : Go p e below Φ (T.setTop (mkF m pc L S)) := by
  refine g_callS X hx hZ hown w1 w2 w3 w4 hy C hpd hlen hst has hd hq hsz eT hf hW hl (by omega) (by omega) ?_
  intro v T' Lc X' hQ
  obtain ⟨rfl, e1, rfl⟩ := hQ
  rw [hc, hs, List.append_nil] at X'
  exact k T' X' e1
theorem g_callSI (X : Stand p l e R s m args below meth c T locs cells slots) (hx : p.tables.exec = Jvm.exec) (hZ : Z.Warmed39 s.vm) {own : String} {index : Nat} {y : MethodName} {bytes : ByteArray} {maxL : Nat} {ret : Option FieldType} (hown : s.vm.findClass own = some m.cls) (w1 : (Jvm.Cond.methodLink own index y).before a0 Z = true) (w2 : (Jvm.Cond.static y).before a0 Z = true) (w3 : (Jvm.Cond.initialized y.cls).before a0 Z = true) (w4 : (Jvm.Cond.code y bytes maxL ret).before a0 Z = true) (hy : y.cls ≠ "java/lang/invoke/MethodHandle" ∧ y.cls ≠ "java/lang/invoke/VarHandle")
    {rm : Room} {as' : Array Value} {P : Int32 → Prop} (C : Ctr l Z y bytes maxL ret rm [] as' h (IQ P h)) {argsL rest : List Value} {ps : List FieldType} {rt : Option FieldType} (hpd : parseMethodDescriptor y.desc = some ⟨ps, rt⟩) (hlen : argsL.length = ps.length) (hst : S = argsL.reverse ++ rest) (has : argsL.toArray = as') (hd : decode c.code pc = .ok (.invokestatic index, 3)) (hq : pc + 3 = q) (hsz : L.size = c.maxLocals) (eT : T.heap = h)
    (hf : rm.frames + 1 ≤ R.frames) {W : Nat} (hW : (rest.map fun v => v.category).sum = W) (hl : W + (maxL + 11) + rm.locals ≤ R.locals) (hc : rm.cells = 0) (hs : rm.slots = 0) (hc' : cells ≤ R.cells) (hs' : slots ≤ R.slots)
    (k : ∀ T' r, Stand p l e R s m args below meth c T' locs cells slots → T'.heap = h → P r → Go p e below Φ (T'.setTop (mkF m q L (.int r :: rest)))) : Go p e below Φ (T.setTop (mkF m pc L S)) := by
  refine g_callS X hx hZ hown w1 w2 w3 w4 hy C hpd hlen hst has hd hq hsz eT hf hW hl (by omega) (by omega) ?_
  intro v T' Lc X' hQ
  obtain ⟨r, rfl, hP, e1, rfl⟩ := hQ
  rw [hc, hs, List.append_nil] at X'
  exact k T' r X' e1 hP
theorem g_callSJ (X : Stand p l e R s m args below meth c T locs cells slots) (hx : p.tables.exec = Jvm.exec) (hZ : Z.Warmed39 s.vm) {own : String} {index : Nat} {y : MethodName} {bytes : ByteArray} {maxL : Nat} {ret : Option FieldType} (hown : s.vm.findClass own = some m.cls) (w1 : (Jvm.Cond.methodLink own index y).before a0 Z = true) (w2 : (Jvm.Cond.static y).before a0 Z = true) (w3 : (Jvm.Cond.initialized y.cls).before a0 Z = true) (w4 : (Jvm.Cond.code y bytes maxL ret).before a0 Z = true) (hy : y.cls ≠ "java/lang/invoke/MethodHandle" ∧ y.cls ≠ "java/lang/invoke/VarHandle")
    {rm : Room} {as' : Array Value} {P : Int64 → Prop} (C : Ctr l Z y bytes maxL ret rm [] as' h (JQ P h)) {argsL rest : List Value} {ps : List FieldType} {rt : Option FieldType} (hpd : parseMethodDescriptor y.desc = some ⟨ps, rt⟩) (hlen : argsL.length = ps.length) (hst : S = argsL.reverse ++ rest) (has : argsL.toArray = as') (hd : decode c.code pc = .ok (.invokestatic index, 3)) (hq : pc + 3 = q) (hsz : L.size = c.maxLocals) (eT : T.heap = h)
    (hf : rm.frames + 1 ≤ R.frames) {W : Nat} (hW : (rest.map fun v => v.category).sum = W) (hl : W + (maxL + 11) + rm.locals ≤ R.locals) (hc : rm.cells = 0) (hs : rm.slots = 0) (hc' : cells ≤ R.cells) (hs' : slots ≤ R.slots)
    (k : ∀ T' r, Stand p l e R s m args below meth c T' locs cells slots → T'.heap = h → P r → Go p e below Φ (T'.setTop (mkF m q L (.long r :: rest)))) : Go p e below Φ (T.setTop (mkF m pc L S)) := by
  refine g_callS X hx hZ hown w1 w2 w3 w4 hy C hpd hlen hst has hd hq hsz eT hf hW hl (by omega) (by omega) ?_
  intro v T' Lc X' hQ
  obtain ⟨r, rfl, hP, e1, rfl⟩ := hQ
  rw [hc, hs, List.append_nil] at X'
  exact k T' r X' e1 hP
end OwnKit

/-! ### the own kit, heap part -/
def ArrL (Z : State) (h : Heap) (a : Addr) (ty : FieldType) (vals : List Value) : Prop := ∃ c : Cell, Arr Z h a c ty ∧ c.slots = vals.toArray ∧ vals.length < 2 ^ 31
abbrev IA (Z : State) (h : Heap) (a : Addr) (vs : List Int32) : Prop := ArrL Z h a .int (vs.map Value.int)
abbrev LA (Z : State) (h : Heap) (a : Addr) (vs : List Int64) : Prop := ArrL Z h a .long (vs.map Value.long)
abbrev ZA (Z : State) (h : Heap) (a : Addr) (vs : List Bool) : Prop := ArrL Z h a .boolean (vs.map fun b => Value.int (b2i b))
theorem own_clamp (j : Int32) : j.toNatClampNeg = j.toInt.toNat := rfl
theorem idxN {j : Int32} {i : Nat} (hj : j.toInt = (i : Int)) : ¬ j < 0 ∧ j.toNatClampNeg = i := by
  rw [own_clamp, Int32.lt_iff_toInt_lt, show (0 : Int32).toInt = 0 from rfl, hj]; omega
theorem idxIn {j : Int32} {i n : Nat} (hj : j.toInt = (i : Int)) (hi : i < n) : ¬ (j < 0 ∨ n ≤ j.toNatClampNeg) := by
  obtain ⟨h1, h2⟩ := idxN hj; exact fun h => h.elim h1 fun h => by rw [h2] at h; omega
section OwnHeap
variable {p : Program} {l : Launch} {e : Env} {R : Room} {s : State} {m : MethodId} {args : Array Value} {below : List Frame} {meth : Method} {c : Code} {T : State} {locs : List Loc} {cells slots : Nat} {Z : State} {a0 : Array Value} {h : Heap} {Φ : Outcome → State → Prop} {pc q : Nat} {L : Array Slot} {S : List Value}
variable {h' : Heap} {a b o : Addr} {ty : FieldType} {vals : List Value} {sl : Nat} {v w : Value} {ws : List Addr}
theorem ArrL.lt (F : ArrL Z h a ty vals) : a < h.size := by obtain ⟨c, A, -⟩ := F; exact A.lt
theorem ArrL.ext (F : ArrL Z h a ty vals) (E : Ext h h') : ArrL Z h' a ty vals := by obtain ⟨c, A, r⟩ := F; exact ⟨c, A.ext E, r⟩
theorem ArrL.other (F : ArrL Z h a ty vals) (W : Wr h h' b sl v) (q : a ≠ b) : ArrL Z h' a ty vals := by obtain ⟨c, A, r⟩ := F; exact ⟨c, A.other W q, r⟩
theorem ArrL.keep (F : ArrL Z h a ty vals) (K : Keep h h' ws) (q : a ∉ ws) : ArrL Z h' a ty vals := by obtain ⟨c, A, r⟩ := F; exact ⟨c, ⟨K.2.1 a c A.1 q, A.2⟩, r⟩
theorem ArrL.len (F : ArrL Z h a ty vals) : vals.length < 2 ^ 31 := by obtain ⟨c, A, -, r⟩ := F; exact r
theorem ArrL.set (F : ArrL Z h a ty vals) {i : Nat} (W : Wr h h' a i v) : ArrL Z h' a ty (vals.set i v) := by
  obtain ⟨c, A, e1, r⟩ := F
  refine ⟨_, A.same W, ?_, by rw [List.length_set]; exact r⟩
  show c.slots.setIfInBounds i v = _
  rw [e1]; simp
theorem ArrL.new {k : ClassId} {z : Int32} {n : Nat} (A : Arr Z h a (newA k ty z) ty) (hz : z.toInt = (n : Int)) : ArrL Z h a ty (List.replicate n (defaultValue ty)) := by
  refine ⟨_, A, ?_, ?_⟩
  · show Array.replicate z.toNatClampNeg (defaultValue ty) = _
    rw [(idxN hz).2]; simp
  · have := rng32 z; rw [List.length_replicate]; omega
theorem IA.eq {us vs : List Int32} (F : IA Z h a us) (q : us = vs) : IA Z h a vs := q ▸ F
theorem LA.eq {us vs : List Int64} (F : LA Z h a us) (q : us = vs) : LA Z h a vs := q ▸ F
theorem ZA.eq {us vs : List Bool} (F : ZA Z h a us) (q : us = vs) : ZA Z h a vs := q ▸ F
theorem ne_new (h1 : a < h.size) (q : o = h.size) : a ≠ o := by subst q; exact Nat.ne_of_lt h1
theorem ne_ge (h1 : a < h.size) (q : h.size ≤ o) : a ≠ o := Nat.ne_of_lt (Nat.lt_of_lt_of_le h1 q)
theorem ge_new {n0 : Nat} (h1 : n0 ≤ h.size) (q : o = h.size) : n0 ≤ o := by subst q; exact h1
theorem Fr.wr {n0 i : Nat} (N : Fr n0 locs) (q : n0 ≤ a) : Fr n0 (locs ++ [⟨a, i⟩]) := N.app fun y hy => by cases List.mem_singleton.mp hy; exact q
theorem g_iload_ (X : Stand p l e R s m args below meth c T locs cells slots) (hx : p.tables.exec = Jvm.exec) (hZ : Z.Warmed39 s.vm) (eT : T.heap = h) {vs : List Int32} (F : IA Z h a vs) {j : Int32} {i : Nat} {v : Int32} (hj : j.toInt = (i : Int)) (hv : vs[i]? = some v) (hd : decode c.code pc = .ok (.iaload, 1)) (hq : pc + 1 = q) (k : Go p e below Φ (T.setTop (mkF m q L (.int v :: S)))) : Go p e below Φ (T.setTop (mkF m pc L (.int j :: .ref a :: S))) := by
  subst hq
  obtain ⟨cl, A, e1, r⟩ := F
  have hi : i < vs.length := (List.getElem?_eq_some_iff.mp hv).1
  have hs : cl.slots.size = vs.length := by rw [e1]; simp
  refine Go.by (X.iaload hx (cell := cl) (j := j) (v := (.int v)) (by rw [eT]; exact A.1) (State.isArrayOf_alike hZ.alike A.2.1) A.2.2 (idxIn hj (by rw [hs]; exact hi)) (by rw [(idxN hj).2, e1]; simp [hv]) rfl rfl hd) k
theorem g_istore_ (X : Stand p l e R s m args below meth c T locs cells slots) (hx : p.tables.exec = Jvm.exec) (hZ : Z.Warmed39 s.vm) (eT : T.heap = h) {vs : List Int32} (F : IA Z h a vs) {j : Int32} {i : Nat} {v : Int32} (hj : j.toInt = (i : Int)) (hi : i < vs.length) (hd : decode c.code pc = .ok (.iastore, 1)) (hq : pc + 1 = q) (k : ∀ T' h', Stand p l e R s m args below meth c T' (locs ++ [⟨a, i⟩]) cells slots → T'.heap = h' → Wr h h' a i (.int v) → IA Z h' a (vs.set i v) → Go p e below Φ (T'.setTop (mkF m q L S))) : Go p e below Φ (T.setTop (mkF m pc L (.int v :: .int j :: .ref a :: S))) := by
  subst hq
  have F0 := F
  obtain ⟨cl, A, e1, r⟩ := F
  have hs : cl.slots.size = vs.length := by rw [e1]; simp
  obtain ⟨T', h', X', e', W, st⟩ := stI X hx hZ eT A (j := j) (x := v) (idxIn hj (by rw [hs]; exact hi)) (g := mkF m pc L ((.int v) :: .int j :: .ref a :: S)) rfl rfl hd
  rw [(idxN hj).2] at X' W
  refine Go.by st (k T' h' X' e' W ?_)
  have := F0.set W
  show ArrL Z h' a .int ((vs.set i v).map Value.int)
  rw [List.map_set]; exact this
theorem g_inew_ (X : Stand p l e R s m args below meth c T locs cells slots) (hx : p.tables.exec = Jvm.exec) (hZ : Z.Warmed39 s.vm) (w : (Jvm.Cond.arrayClass .int).before a0 Z = true) (eT : T.heap = h) {z : Int32} {n cap : Nat} (hz : z.toInt = (n : Int)) (hn : n ≤ cap) (hb : cap * 8 ≤ 536870912) (hd : decode c.code pc = .ok (.newarray .int, 2)) (hq : pc + 2 = q) (hc : cells + 1 ≤ R.cells) (hl : slots + cap ≤ R.slots) (k : ∀ T' h' o, Stand p l e R s m args below meth c T' locs (cells + 1) (slots + cap) → T'.heap = h' → Ext h h' → o = h.size → IA Z h' o (List.replicate n 0) → Go p e below Φ (T'.setTop (mkF m q L (.ref o :: S)))) : Go p e below Φ (T.setTop (mkF m pc L (.int z :: S))) := by
  subst hq
  obtain ⟨T', h', cA, X', e', E, A, st⟩ := newP X hx hZ (aty := .int) w eT (g := mkF m pc L (.int z :: S)) rfl hd rfl (idxN hz).1 (cap := cap) (by rw [(idxN hz).2]; exact hn) hb hc hl
  refine Go.by st (k T' h' h.size X' e' E rfl ?_)
  have := ArrL.new A hz
  show ArrL Z h' h.size .int _
  rw [List.map_replicate]; exact this
theorem g_lload_ (X : Stand p l e R s m args below meth c T locs cells slots) (hx : p.tables.exec = Jvm.exec) (hZ : Z.Warmed39 s.vm) (eT : T.heap = h) {vs : List Int64} (F : LA Z h a vs) {j : Int32} {i : Nat} {v : Int64} (hj : j.toInt = (i : Int)) (hv : vs[i]? = some v) (hd : decode c.code pc = .ok (.laload, 1)) (hq : pc + 1 = q) (k : Go p e below Φ (T.setTop (mkF m q L (.long v :: S)))) : Go p e below Φ (T.setTop (mkF m pc L (.int j :: .ref a :: S))) := by
  subst hq
  obtain ⟨cl, A, e1, r⟩ := F
  have hi : i < vs.length := (List.getElem?_eq_some_iff.mp hv).1
  have hs : cl.slots.size = vs.length := by rw [e1]; simp
  refine Go.by (X.laload hx (cell := cl) (j := j) (v := (.long v)) (by rw [eT]; exact A.1) (State.isArrayOf_alike hZ.alike A.2.1) A.2.2 (idxIn hj (by rw [hs]; exact hi)) (by rw [(idxN hj).2, e1]; simp [hv]) rfl rfl hd) k
theorem g_lstore_ (X : Stand p l e R s m args below meth c T locs cells slots) (hx : p.tables.exec = Jvm.exec) (hZ : Z.Warmed39 s.vm) (eT : T.heap = h) {vs : List Int64} (F : LA Z h a vs) {j : Int32} {i : Nat} {v : Int64} (hj : j.toInt = (i : Int)) (hi : i < vs.length) (hd : decode c.code pc = .ok (.lastore, 1)) (hq : pc + 1 = q) (k : ∀ T' h', Stand p l e R s m args below meth c T' (locs ++ [⟨a, i⟩]) cells slots → T'.heap = h' → Wr h h' a i (.long v) → LA Z h' a (vs.set i v) → Go p e below Φ (T'.setTop (mkF m q L S))) : Go p e below Φ (T.setTop (mkF m pc L (.long v :: .int j :: .ref a :: S))) := by
  subst hq
  have F0 := F
  obtain ⟨cl, A, e1, r⟩ := F
  have hs : cl.slots.size = vs.length := by rw [e1]; simp
  obtain ⟨T', h', X', e', W, st⟩ := stJ X hx hZ eT A (j := j) (x := v) (idxIn hj (by rw [hs]; exact hi)) (g := mkF m pc L ((.long v) :: .int j :: .ref a :: S)) rfl rfl hd
  rw [(idxN hj).2] at X' W
  refine Go.by st (k T' h' X' e' W ?_)
  have := F0.set W
  show ArrL Z h' a .long ((vs.set i v).map Value.long)
  rw [List.map_set]; exact this
theorem g_lnew_ (X : Stand p l e R s m args below meth c T locs cells slots) (hx : p.tables.exec = Jvm.exec) (hZ : Z.Warmed39 s.vm) (w : (Jvm.Cond.arrayClass .long).before a0 Z = true) (eT : T.heap = h) {z : Int32} {n cap : Nat} (hz : z.toInt = (n : Int)) (hn : n ≤ cap) (hb : cap * 8 ≤ 536870912) (hd : decode c.code pc = .ok (.newarray .long, 2)) (hq : pc + 2 = q) (hc : cells + 1 ≤ R.cells) (hl : slots + cap ≤ R.slots) (k : ∀ T' h' o, Stand p l e R s m args below meth c T' locs (cells + 1) (slots + cap) → T'.heap = h' → Ext h h' → o = h.size → LA Z h' o (List.replicate n 0) → Go p e below Φ (T'.setTop (mkF m q L (.ref o :: S)))) : Go p e below Φ (T.setTop (mkF m pc L (.int z :: S))) := by
  subst hq
  obtain ⟨T', h', cA, X', e', E, A, st⟩ := newP X hx hZ (aty := .long) w eT (g := mkF m pc L (.int z :: S)) rfl hd rfl (idxN hz).1 (cap := cap) (by rw [(idxN hz).2]; exact hn) hb hc hl
  refine Go.by st (k T' h' h.size X' e' E rfl ?_)
  have := ArrL.new A hz
  show ArrL Z h' h.size .long _
  rw [List.map_replicate]; exact this
theorem g_zload_ (X : Stand p l e R s m args below meth c T locs cells slots) (hx : p.tables.exec = Jvm.exec) (hZ : Z.Warmed39 s.vm) (eT : T.heap = h) {vs : List Bool} (F : ZA Z h a vs) {j : Int32} {i : Nat} {v : Bool} (hj : j.toInt = (i : Int)) (hv : vs[i]? = some v) (hd : decode c.code pc = .ok (.baload, 1)) (hq : pc + 1 = q) (k : Go p e below Φ (T.setTop (mkF m q L (.int (b2i v) :: S)))) : Go p e below Φ (T.setTop (mkF m pc L (.int j :: .ref a :: S))) := by
  subst hq
  obtain ⟨cl, A, e1, r⟩ := F
  have hi : i < vs.length := (List.getElem?_eq_some_iff.mp hv).1
  have hs : cl.slots.size = vs.length := by rw [e1]; simp
  refine Go.by (X.baloadBooleans hx (cell := cl) (j := j) (v := (.int (b2i v))) (by rw [eT]; exact A.1) (State.isArrayOf_alike hZ.alike A.2.1) A.2.2 (idxIn hj (by rw [hs]; exact hi)) (by rw [(idxN hj).2, e1]; simp [hv]) rfl rfl hd) k
theorem g_zstore_ (X : Stand p l e R s m args below meth c T locs cells slots) (hx : p.tables.exec = Jvm.exec) (hZ : Z.Warmed39 s.vm) (eT : T.heap = h) {vs : List Bool} (F : ZA Z h a vs) {j : Int32} {i : Nat} {v : Bool} (hj : j.toInt = (i : Int)) (hi : i < vs.length) (hd : decode c.code pc = .ok (.bastore, 1)) (hq : pc + 1 = q) (k : ∀ T' h', Stand p l e R s m args below meth c T' (locs ++ [⟨a, i⟩]) cells slots → T'.heap = h' → Wr h h' a i (.int (b2i v)) → ZA Z h' a (vs.set i v) → Go p e below Φ (T'.setTop (mkF m q L S))) : Go p e below Φ (T.setTop (mkF m pc L (.int (b2i v) :: .int j :: .ref a :: S))) := by
  subst hq
  have F0 := F
  obtain ⟨cl, A, e1, r⟩ := F
  have hs : cl.slots.size = vs.length := by rw [e1]; simp
  obtain ⟨T', h', X', e', W, st⟩ := stZ X hx hZ eT A (j := j) (x := b2i v) (idxIn hj (by rw [hs]; exact hi)) (g := mkF m pc L ((.int (b2i v)) :: .int j :: .ref a :: S)) rfl rfl hd
  have W : Wr h h' a j.toNatClampNeg (.int (b2i v)) := by have W' := W; rw [b2i_nar] at W'; exact W'
  rw [(idxN hj).2] at X' W
  refine Go.by st (k T' h' X' e' W ?_)
  have := F0.set W
  show ArrL Z h' a .boolean ((vs.set i v).map (fun b => Value.int (b2i b)))
  rw [List.map_set]; exact this
theorem g_znew_ (X : Stand p l e R s m args below meth c T locs cells slots) (hx : p.tables.exec = Jvm.exec) (hZ : Z.Warmed39 s.vm) (w : (Jvm.Cond.arrayClass .boolean).before a0 Z = true) (eT : T.heap = h) {z : Int32} {n cap : Nat} (hz : z.toInt = (n : Int)) (hn : n ≤ cap) (hb : cap * 8 ≤ 536870912) (hd : decode c.code pc = .ok (.newarray .boolean, 2)) (hq : pc + 2 = q) (hc : cells + 1 ≤ R.cells) (hl : slots + cap ≤ R.slots) (k : ∀ T' h' o, Stand p l e R s m args below meth c T' locs (cells + 1) (slots + cap) → T'.heap = h' → Ext h h' → o = h.size → ZA Z h' o (List.replicate n false) → Go p e below Φ (T'.setTop (mkF m q L (.ref o :: S)))) : Go p e below Φ (T.setTop (mkF m pc L (.int z :: S))) := by
  subst hq
  obtain ⟨T', h', cA, X', e', E, A, st⟩ := newP X hx hZ (aty := .boolean) w eT (g := mkF m pc L (.int z :: S)) rfl hd rfl (idxN hz).1 (cap := cap) (by rw [(idxN hz).2]; exact hn) hb hc hl
  refine Go.by st (k T' h' h.size X' e' E rfl ?_)
  have := ArrL.new A hz
  show ArrL Z h' h.size .boolean _
  rw [List.map_replicate]; exact this
theorem g_bnew_ (X : Stand p l e R s m args below meth c T locs cells slots) (hx : p.tables.exec = Jvm.exec) (hZ : Z.Warmed39 s.vm) (w : (Jvm.Cond.arrayClass .byte).before a0 Z = true) (eT : T.heap = h) {z : Int32} {n cap : Nat} (hz : z.toInt = (n : Int)) (hn : n ≤ cap) (hb : cap * 8 ≤ 536870912) (hd : decode c.code pc = .ok (.newarray .byte, 2)) (hq : pc + 2 = q) (hc : cells + 1 ≤ R.cells) (hl : slots + cap ≤ R.slots) (k : ∀ T' h' o, Stand p l e R s m args below meth c T' locs (cells + 1) (slots + cap) → T'.heap = h' → Ext h h' → o = h.size → ArrL Z h' o .byte (List.replicate n (.int 0)) → Go p e below Φ (T'.setTop (mkF m q L (.ref o :: S)))) : Go p e below Φ (T.setTop (mkF m pc L (.int z :: S))) := by
  subst hq
  obtain ⟨T', h', cA, X', e', E, A, st⟩ := newP X hx hZ (aty := .byte) w eT (g := mkF m pc L (.int z :: S)) rfl hd rfl (idxN hz).1 (cap := cap) (by rw [(idxN hz).2]; exact hn) hb hc hl
  exact Go.by st (k T' h' h.size X' e' E rfl (ArrL.new A hz))
theorem g_bload_ (X : Stand p l e R s m args below meth c T locs cells slots) (hx : p.tables.exec = Jvm.exec) (hZ : Z.Warmed39 s.vm) (eT : T.heap = h) (F : ArrL Z h a .byte vals) {j : Int32} {i : Nat} {v : Int32} (hj : j.toInt = (i : Int)) (hv : vals[i]? = some (.int v)) (hd : decode c.code pc = .ok (.baload, 1)) (hq : pc + 1 = q) (k : Go p e below Φ (T.setTop (mkF m q L (.int v :: S)))) : Go p e below Φ (T.setTop (mkF m pc L (.int j :: .ref a :: S))) := by
  subst hq
  obtain ⟨cl, A, e1, r⟩ := F
  have hi : i < vals.length := (List.getElem?_eq_some_iff.mp hv).1
  have hs : cl.slots.size = vals.length := by rw [e1]; simp
  refine Go.by (X.baloadBytes hx (cell := cl) (j := j) (v := .int v) (by rw [eT]; exact A.1) (State.isArrayOf_alike hZ.alike A.2.1) A.2.2 (idxIn hj (by rw [hs]; exact hi)) (by rw [(idxN hj).2, e1]; simp [hv]) rfl rfl hd) k
theorem g_getS (X : Stand p l e R s m args below meth c T locs cells slots) (hx : p.tables.exec = Jvm.exec) (hZ : Z.Warmed39 s.vm) {own R0 n d : String} {index : Nat} (hown : s.vm.findClass own = some m.cls) (w : (Jvm.Cond.fieldLink own index R0 n d).before a0 Z = true) (eT : T.heap = h) (F : Sta Z h R0 n d v) (hd : decode c.code pc = .ok (.getstatic index, 3)) (hq : pc + 3 = q) (k : ∀ T', Stand p l e R s m args below meth c T' locs cells slots → T'.heap = h → Go p e below Φ (T'.setTop (mkF m q L (v :: S)))) : Go p e below Φ (T.setTop (mkF m pc L S)) := by
  subst hq
  obtain ⟨T', X', e', st⟩ := getS (host := "") X hx hZ hown w Via.refl eT F (g := mkF m pc L S) rfl hd
  exact Go.by st (k T' X' e')
theorem g_alen (X : Stand p l e R s m args below meth c T locs cells slots) (hx : p.tables.exec = Jvm.exec) (hZ : Z.Warmed39 s.vm) (eT : T.heap = h) (F : ArrL Z h a ty vals) {v : Int32} (hv : v.toInt = (vals.length : Int)) (hd : decode c.code pc = .ok (.arraylength, 1)) (hq : pc + 1 = q) (k : Go p e below Φ (T.setTop (mkF m q L (.int v :: S)))) : Go p e below Φ (T.setTop (mkF m pc L (.ref a :: S))) := by
  subst hq
  obtain ⟨cl, A, e1, r⟩ := F
  have hs : cl.slots.size = vals.length := by rw [e1]; simp
  have hz : cl.slots.size.toInt32 = v := Int32.toInt_inj.mp (by rw [hs, len_toInt r]; exact hv.symm)
  refine Go.by (X.arraylength hx (cell := cl) (by rw [eT]; exact A.1) (State.isArrayOf_alike hZ.alike A.2.1) rfl rfl hd) ?_
  rw [hz]; exact k
theorem g_getF (X : Stand p l e R s m args below meth c T locs cells slots) (hx : p.tables.exec = Jvm.exec) (hZ : Z.Warmed39 s.vm) {own R0 n d : String} {index : Nat} (hown : s.vm.findClass own = some m.cls) (w : (Jvm.Cond.fieldLink own index R0 n d).before a0 Z = true) (eT : T.heap = h) (F : Fld Z h a R0 n d v) (hd : decode c.code pc = .ok (.getfield index, 3)) (hq : pc + 3 = q) (k : ∀ T', Stand p l e R s m args below meth c T' locs cells slots → T'.heap = h → Go p e below Φ (T'.setTop (mkF m q L (v :: S)))) : Go p e below Φ (T.setTop (mkF m pc L (.ref a :: S))) := by
  subst hq
  obtain ⟨T', X', e', st⟩ := getF X hx hZ hown (host := "") (Or.inl w) Via.refl eT F (g := mkF m pc L (.ref a :: S)) rfl rfl hd
  exact Go.by st (k T' X' e')
theorem g_putF (X : Stand p l e R s m args below meth c T locs cells slots) (hx : p.tables.exec = Jvm.exec) (hZ : Z.Warmed39 s.vm) {own R0 n d C : String} {index kk : Nat} {ty : FieldType} (hown : s.vm.findClass own = some m.cls) (wl : (Jvm.Cond.fieldLink own index R0 n d).before a0 Z = true) (eT : T.heap = h) (F : Fld Z h a R0 n d w) (E : Exa Z h a C) (Ly : (Jvm.Cond.lays C R0 n d).before a0 Z = true ∨ ((Jvm.Cond.laysFinal C R0 n d).before a0 Z = true ∧ own = R0 ∧ meth.name = "<init>")) (wi : (Jvm.Cond.instantiable C kk).before a0 Z = true) (hty : parseFieldDescriptor d = some ty) (hn : narrow ty v = v) (hf : fits ty v = true) (hd : decode c.code pc = .ok (.putfield index, 3)) (hq : pc + 3 = q) (k : ∀ T' h', Stand p l e R s m args below meth c T' (locs ++ [⟨a, Jvm.RoadKit.slotOf Z R0 n d⟩]) cells slots → T'.heap = h' → Wr h h' a (Jvm.RoadKit.slotOf Z R0 n d) v → Fld Z h' a R0 n d v → Go p e below Φ (T'.setTop (mkF m q L S))) : Go p e below Φ (T.setTop (mkF m pc L (v :: .ref a :: S))) := by
  subst hq
  obtain ⟨T', h', X', e', W, st⟩ := putF X hx hZ hown (host := "") (Or.inl wl) Via.refl eT F E Ly wi hty hn hf (g := mkF m pc L (v :: .ref a :: S)) rfl rfl hd
  exact Go.by st (k T' h' X' e' W (F.same W))
theorem g_newO (X : Stand p l e R s m args below meth c T locs cells slots) (hx : p.tables.exec = Jvm.exec) (hZ : Z.Warmed39 s.vm) {own C : String} {index n : Nat} (hown : s.vm.findClass own = some m.cls) (w : (Jvm.Cond.classLink own index C).before a0 Z = true) (wi : (Jvm.Cond.instantiable C n).before a0 Z = true) (wz : (Jvm.Cond.initialized C).before a0 Z = true) (eT : T.heap = h) (hd : decode c.code pc = .ok (.new index, 3)) (hq : pc + 3 = q) (hc : cells + 1 ≤ R.cells) (hl : slots + n ≤ R.slots) (k : ∀ T' h' o, Stand p l e R s m args below meth c T' locs (cells + 1) (slots + n) → T'.heap = h' → Ext h h' → o = h.size → Exa Z h' o C → (∀ {O nm d : String} {ty : FieldType}, Laid Z a0 C O nm d → parseFieldDescriptor d = some ty → Fld Z h' o O nm d (defaultValue ty)) → Go p e below Φ (T'.setTop (mkF m q L (.ref o :: S)))) : Go p e below Φ (T.setTop (mkF m pc L S)) := by
  subst hq
  obtain ⟨T', h', X', e', E, A, D, -, st⟩ := newO X hx hZ hown w wi wz eT (g := mkF m pc L S) rfl hd hc hl
  exact Go.by st (k T' h' h.size X' e' E rfl A D)
theorem g_initO (X : Stand p l e R s m args below meth c T locs cells slots) (hx : p.tables.exec = Jvm.exec) (hZ : Z.Warmed39 s.vm) {own : String} {index : Nat} (hown : s.vm.findClass own = some m.cls) (w1 : (Jvm.Cond.methodLink own index Lib.objectInit).before a0 Z = true) (w2 : (Jvm.Cond.instanceMethod Lib.objectInit).before a0 Z = true) (w3 : (Jvm.Cond.code Lib.objectInit ⟨#[0xb1]⟩ 1 none).before a0 Z = true) (eT : T.heap = h) (hsz : L.size = c.maxLocals) (hd : decode c.code pc = .ok (.invokespecial index, 3)) (hq : pc + 3 = q) (hf : 1 ≤ R.frames) {W : Nat} (hW : (S.map fun v => v.category).sum = W) (hl : W + 12 ≤ R.locals) (k : ∀ T', Stand p l e R s m args below meth c T' locs cells slots → T'.heap = h → Go p e below Φ (T'.setTop (mkF m q L S))) : Go p e below Φ (T.setTop (mkF m pc L (.ref a :: S))) := by
  subst hq
  obtain ⟨T', X', e', st⟩ := initO X hx hZ hown w1 w2 w3 eT (g := mkF m pc L (.ref a :: S)) rfl hsz rfl hd hf (W := W) (by show 2 * 0 + _ ≤ _; omega) hl
  exact Go.by st (k T' X' e')
theorem g_special (X : Stand p l e R s m args below meth c T locs cells slots) (hx : p.tables.exec = Jvm.exec) (hZ : Z.Warmed39 s.vm) {own : String} {index : Nat} {y : MethodName} {bytes : ByteArray} {maxL : Nat} (hy1 : y.name = "<init>") (hown : s.vm.findClass own = some m.cls) (w1 : (Jvm.Cond.methodLink own index y).before a0 Z = true) (w2 : (Jvm.Cond.instanceMethod y).before a0 Z = true) (w3 : (Jvm.Cond.initialized y.cls).before a0 Z = true) (w4 : (Jvm.Cond.code y bytes maxL none).before a0 Z = true) (hy : y.cls ≠ "java/lang/invoke/MethodHandle" ∧ y.cls ≠ "java/lang/invoke/VarHandle")
    {rm : Room} {as' : Array Value} {Q : Option Value → Heap → List Loc → Prop} (C : Ctr l Z y bytes maxL none rm [] as' h Q) {argsL rest : List Value} {ps : List FieldType} {rt : Option FieldType} (hpd : parseMethodDescriptor y.desc = some ⟨ps, rt⟩) (hlen : argsL.length = ps.length) (hst : S = argsL.reverse ++ .ref a :: rest) (has : (.ref a :: argsL).toArray = as') (hd : decode c.code pc = .ok (.invokespecial index, 3)) (hq : pc + 3 = q) (hsz : L.size = c.maxLocals) (eT : T.heap = h)
    (hf : rm.frames + 1 ≤ R.frames) {W : Nat} (hW : (rest.map fun v => v.category).sum = W) (hl : W + (maxL + 11) + rm.locals ≤ R.locals) (hc : cells + rm.cells ≤ R.cells) (hs : slots + rm.slots ≤ R.slots)
    (k : ∀ v T' Lc, Stand p l e R s m args below meth c T' (locs ++ Lc) (cells + rm.cells) (slots + rm.slots) → Q v T'.heap Lc → Go p e below Φ (T'.setTop (mkF m q L (v.toList ++ rest)))) : Go p e below Φ (T.setTop (mkF m pc L S)) := by
  subst hq has
  obtain ⟨v, _, ⟨T', L', k', n'⟩, -, X', ⟨Lc, hQ, l1, y1, z1⟩, st⟩ := X.specialBack hx (y := y) hy1 hown (mvT hZ w1) (mvT hZ w2) (mvT hZ w4) hy (backOf (W := W) C hZ w4 w3 hf hl) (g := mkF m pc L S) rfl hsz (Steps.refl _) (a := a) (argsL := argsL) (rest := rest) (lenOf hpd hlen) hst (by show 2 * 0 + _ ≤ _; omega) hd (fun _ _ => ⟨rfl, eT, hc, hs⟩)
  dsimp only [Pt.U, Pt.locs, Pt.cells, Pt.slots] at X' l1 y1 z1 st hQ
  subst l1 y1 z1
  exact Go.by (fun _ r => st.trans r) (k v T' Lc X' hQ)
theorem g_virtual (X : Stand p l e R s m args below meth c T locs cells slots) (hx : p.tables.exec = Jvm.exec) (hZ : Z.Warmed39 s.vm) {own C0 : String} {index : Nat} {y : MethodName} {bytes : ByteArray} {maxL : Nat} {ret : Option FieldType} (hown : s.vm.findClass own = some m.cls) (w1 : (Jvm.Cond.methodLink own index y).before a0 Z = true) (w2 : (Jvm.Cond.declares y).before a0 Z = true) (w3 : (Jvm.Cond.selects C0 y y).before a0 Z = true) (w4 : (Jvm.Cond.instanceMethod y).before a0 Z = true) (w5 : (Jvm.Cond.initialized y.cls).before a0 Z = true) (w6 : (Jvm.Cond.code y bytes maxL ret).before a0 Z = true) (hy : y.cls ≠ "java/lang/invoke/MethodHandle" ∧ y.cls ≠ "java/lang/invoke/VarHandle")
    {rm : Room} {as' : Array Value} {Q : Option Value → Heap → List Loc → Prop} (C : Ctr l Z y bytes maxL ret rm [] as' h Q) (Ex : Exa Z h a C0) {argsL rest : List Value} {ps : List FieldType} {rt : Option FieldType} (hpd : parseMethodDescriptor y.desc = some ⟨ps, rt⟩) (hlen : argsL.length = ps.length) (hst : S = argsL.reverse ++ .ref a :: rest) (has : (.ref a :: argsL).toArray = as') (hd : decode c.code pc = .ok (.invokevirtual index, 3)) (hq : pc + 3 = q) (hsz : L.size = c.maxLocals) (eT : T.heap = h)
    (hf : rm.frames + 1 ≤ R.frames) {W : Nat} (hW : (rest.map fun v => v.category).sum = W) (hl : W + (maxL + 11) + rm.locals ≤ R.locals) (hc : cells + rm.cells ≤ R.cells) (hs : slots + rm.slots ≤ R.slots)
    (k : ∀ v T' Lc, Stand p l e R s m args below meth c T' (locs ++ Lc) (cells + rm.cells) (slots + rm.slots) → Q v T'.heap Lc → Go p e below Φ (T'.setTop (mkF m q L (v.toList ++ rest)))) : Go p e below Φ (T.setTop (mkF m pc L S)) := by
  subst hq has
  obtain ⟨cq, kq, qa, qb, qc⟩ := isOf hZ eT Ex
  obtain ⟨v, _, ⟨T', L', k', n'⟩, -, X', ⟨Lc, hQ, l1, y1, z1⟩, st⟩ := X.virtualBack hx (y := y) (z := y) hown (mvT hZ w1) (mvT hZ w2) (notFace_of_selects (args := #[]) (mvT hZ w3)) (mvT hZ w3) (mvT hZ w4) hy (backOf (W := W) C hZ w6 w5 hf hl) qa qc (g := mkF m pc L S) rfl hsz (Steps.refl _) (argsL := argsL) (rest := rest) (lenOf hpd hlen) hst (by show 2 * 0 + _ ≤ _; omega) hd (fun _ _ => ⟨rfl, eT, hc, hs⟩)
  dsimp only [Pt.U, Pt.locs, Pt.cells, Pt.slots] at X' l1 y1 z1 st hQ
  subst l1 y1 z1
  exact Go.by (fun _ r => st.trans r) (k v T' Lc X' hQ)
theorem g_private (X : Stand p l e R s m args below meth c T locs cells slots) (hx : p.tables.exec = Jvm.exec) (hZ : Z.Warmed39 s.vm) {own : String} {index kI : Nat} {y : MethodName} {bytes : ByteArray} {maxL : Nat} {ret : Option FieldType} (hown : s.vm.findClass own = some m.cls) (w1 : (Jvm.Cond.methodLink own index y).before a0 Z = true) (w2 : (Jvm.Cond.instanceMethod y).before a0 Z = true) (w3 : (Jvm.Cond.privateMethod y).before a0 Z = true) (w4 : (Jvm.Cond.instantiable y.cls kI).before a0 Z = true) (w5 : (Jvm.Cond.initialized y.cls).before a0 Z = true) (w6 : (Jvm.Cond.code y bytes maxL ret).before a0 Z = true) (hy : y.cls ≠ "java/lang/invoke/MethodHandle" ∧ y.cls ≠ "java/lang/invoke/VarHandle")
    {rm : Room} {as' : Array Value} {Q : Option Value → Heap → List Loc → Prop} (C : Ctr l Z y bytes maxL ret rm [] as' h Q) (Ex : Exa Z h a y.cls) {argsL rest : List Value} {ps : List FieldType} {rt : Option FieldType} (hpd : parseMethodDescriptor y.desc = some ⟨ps, rt⟩) (hlen : argsL.length = ps.length) (hst : S = argsL.reverse ++ .ref a :: rest) (has : (.ref a :: argsL).toArray = as') (hd : decode c.code pc = .ok (.invokevirtual index, 3)) (hq : pc + 3 = q) (hsz : L.size = c.maxLocals) (eT : T.heap = h)
    (hf : rm.frames + 1 ≤ R.frames) {W : Nat} (hW : (rest.map fun v => v.category).sum = W) (hl : W + (maxL + 11) + rm.locals ≤ R.locals) (hc : cells + rm.cells ≤ R.cells) (hs : slots + rm.slots ≤ R.slots)
    (k : ∀ v T' Lc, Stand p l e R s m args below meth c T' (locs ++ Lc) (cells + rm.cells) (slots + rm.slots) → Q v T'.heap Lc → Go p e below Φ (T'.setTop (mkF m q L (v.toList ++ rest)))) : Go p e below Φ (T.setTop (mkF m pc L S)) := by
  subst hq has
  obtain ⟨cq, q1, q2⟩ := Ex.cell
  have hp : s.PrivateAt y := Cond.privateMethod_at (mvP hZ w3 (args := args))
  obtain ⟨c1, k1, i1, i2, i3, i4, -⟩ := Cond.instantiable_spec (mvT (args := args) hZ w4)
  have hsel : (Jvm.Cond.selects y.cls y y).before args s = true := selects_self_of_private i1 i2 (Bool.or_eq_false_iff.mp i4).1 hp (mvT hZ w2) hy
  obtain ⟨v, _, ⟨T', L', k', n'⟩, -, X', ⟨Lc, hQ, l1, y1, z1⟩, st⟩ := X.privateBack hx (y := y) hown (mvT hZ w1) (mvT hZ w2) hsel hp (mvT hZ w6) hy (backOf (W := W) C hZ w6 w5 hf hl) (g := mkF m pc L S) rfl hsz (Steps.refl _) (a := a) (cell := cq) (by rw [eT]; exact q1) q2 (argsL := argsL) (rest := rest) (lenOf hpd hlen) hst (by show 2 * 0 + _ ≤ _; omega) hd (fun _ _ => ⟨rfl, eT, hc, hs⟩)
  dsimp only [Pt.U, Pt.locs, Pt.cells, Pt.slots] at X' l1 y1 z1 st hQ
  subst l1 y1 z1
  exact Go.by (fun _ r => st.trans r) (k v T' Lc X' hQ)
theorem g_acmp_eq (X : Stand p l e R s m args below meth c T locs cells slots) (hx : p.tables.exec = Jvm.exec) {o : Int} {q0 : Nat} {x y : Addr} (hd : decode c.code pc = .ok (.if_acmp .eq o, 3)) (ho : 0 ≤ (pc : Int) + o) (hq : ((pc : Int) + o).toNat = q) (hq0 : pc + 3 = q0) (k1 : x = y → Go p e below Φ (T.setTop (mkF m q L S))) (k0 : x ≠ y → Go p e below Φ (T.setTop (mkF m q0 L S))) : Go p e below Φ (T.setTop (mkF m pc L (.ref y :: .ref x :: S))) := by
  subst hq0
  by_cases hb : x = y
  · exact Go.by (fun _ => acmp X hx rfl rfl rfl (same := true) rfl hd rfl (by simp [hb]) ho (by rw [if_pos (by rfl)]; exact hq.symm)) (k1 hb)
  · exact Go.by (fun _ => acmp X hx rfl rfl rfl (same := false) rfl hd rfl (by simp [hb]) ho (by rw [if_neg (by decide)])) (k0 hb)
theorem g_acmp_ne (X : Stand p l e R s m args below meth c T locs cells slots) (hx : p.tables.exec = Jvm.exec) {o : Int} {q0 : Nat} {x y : Addr} (hd : decode c.code pc = .ok (.if_acmp .ne o, 3)) (ho : 0 ≤ (pc : Int) + o) (hq : ((pc : Int) + o).toNat = q) (hq0 : pc + 3 = q0) (k1 : x ≠ y → Go p e below Φ (T.setTop (mkF m q L S))) (k0 : x = y → Go p e below Φ (T.setTop (mkF m q0 L S))) : Go p e below Φ (T.setTop (mkF m pc L (.ref y :: .ref x :: S))) := by
  subst hq0
  by_cases hb : x = y
  · exact Go.by (fun _ => acmp X hx rfl rfl rfl (same := true) rfl hd rfl (by simp [hb]) ho (by rw [if_neg (by decide)])) (k0 hb)
  · exact Go.by (fun _ => acmp X hx rfl rfl rfl (same := false) rfl hd rfl (by simp [hb]) ho (by rw [if_pos (by rfl)]; exact hq.symm)) (k1 hb)
theorem g_ifnull_no (X : Stand p l e R s m args below meth c T locs cells slots) (hx : p.tables.exec = Jvm.exec) {o : Int} {y : Addr} (hd : decode c.code pc = .ok (.ifnull o, 3)) (hq : pc + 3 = q) (k : Go p e below Φ (T.setTop (mkF m q L S))) : Go p e below Φ (T.setTop (mkF m pc L (.ref y :: S))) := by
  subst hq; exact Go.by (fun _ => XS.ifnullNo X.here hx rfl hd rfl) k
theorem g_ifnonnull_yes (X : Stand p l e R s m args below meth c T locs cells slots) (hx : p.tables.exec = Jvm.exec) {o : Int} {y : Addr} (hd : decode c.code pc = .ok (.ifnonnull o, 3)) (ho : 0 ≤ (pc : Int) + o) (hq : ((pc : Int) + o).toNat = q) (k : Go p e below Φ (T.setTop (mkF m q L S))) : Go p e below Φ (T.setTop (mkF m pc L (.ref y :: S))) := Go.by (fun _ => XS.ifnonnullYes X.here hx rfl rfl hd rfl ho hq) k
end OwnHeap
def RM_rm3 : Room := ({ frames := 0, cells := 0, slots := 0, locals := 0 } : Room)
theorem d3_0 : decode jdk_42_method_154_code 0 = .ok (.getstatic 38, 3) := by decide +kernel
theorem d3_3 : decode jdk_42_method_154_code 3 = .ok (.ifCond .eq 14, 3) := by decide +kernel
theorem d3_6 : decode jdk_42_method_154_code 6 = .ok (.aload_n 0, 1) := by decide +kernel
theorem d3_7 : decode jdk_42_method_154_code 7 = .ok (.getfield 15, 3) := by decide +kernel
theorem d3_10 : decode jdk_42_method_154_code 10 = .ok (.ifCond .ne 7, 3) := by decide +kernel
theorem d3_13 : decode jdk_42_method_154_code 13 = .ok (.iconst 1, 1) := by decide +kernel
theorem d3_14 : decode jdk_42_method_154_code 14 = .ok (.goto 4, 3) := by decide +kernel
theorem d3_17 : decode jdk_42_method_154_code 17 = .ok (.iconst 0, 1) := by decide +kernel
theorem d3_18 : decode jdk_42_method_154_code 18 = .ok (.ireturn, 1) := by decide +kernel
theorem ef_3 (m : MethodId) (z0 : Addr) : entryFrame m #[.ref z0] 1 = mkF m 0 #[.val (.ref z0)] [] := by first | (simp [entryFrame, mkF, argsToLocals, Value.category]; done) | rfl
theorem pn_0 : plainName "java/lang/String" = true := by first | (simp [plainName, overriddenIn]; done) | decide +kernel
set_option maxRecDepth 65536 in
set_option maxHeartbeats 40000000 in
theorem rm3 (l : Launch) (Z : State) (a0 : Array Value) (hw : ∀ d ∈ tables_1, d.before a0 Z = true) (ws : List Jvm.Cond) (t : Addr) (h0 : Heap) (n0 : Nat) (Z0 : n0 ≤ h0.size) (cs : Int32) (SC : Sta Z h0 "java/lang/String" "COMPACT_STRINGS" "Z" (.int cs)) (hcs : cs.toInt ≠ 0) (F2 : Fld Z h0 t "java/lang/String" "coder" "B" (.int (0 : Int32))) :
    Ctr l Z (⟨"java/lang/String", "isLatin1", "()Z"⟩ : MethodName) jdk_42_method_154_code 1 (some .boolean) RM_rm3 ws #[.ref t] h0 (PQ (.int (1 : Int32)) h0) := by
  refine Ctr.of (plainFor_of_name pn_0) ?_
  intro p e s m below meth c s₁ hx hby hml hrt hlk hnm hown hZ X0 e0
  have N0 := Fr.nil n0
  refine Go.cast (ef_3 m t) ?_
  refine g_getS (q := 3) X0 hx hZ hown (hw _ (List.mem_of_getElem? (i := 22) rfl)) e0 SC (hb hby d3_0) rfl ?_
  intro T1 X1 e1
  refine g_if_eq (q := 17) (q0 := 6) X1.here hx (hb hby d3_3) (by decide) (by decide) rfl ?_ ?_
  · intro c2
    exfalso; omega
  · intro c2
    refine g_aloadN (q := 7) X1.here hx (hb hby d3_6) rfl rfl rfl ?_
    refine g_getF (q := 10) X1 hx hZ hown (hw _ (List.mem_of_getElem? (i := 23) rfl)) e1 F2 (hb hby d3_7) rfl ?_
    intro T3 X3 e3
    refine g_sel_if_ne (q := 18) X3.here hx (hb hby d3_10) (by decide) (by decide) rfl (hb hby d3_17) (hb hby d3_13) (hb hby d3_14) rfl (by decide) (by decide) rfl ?_
    rw [show b2i (decide ((0 : Int32).toInt = 0)) = (1 : Int32) from by decide]
    exact g_zreturn (b := true) X3 hx hlk hrt (hb hby d3_18) (by decide) (by decide) ⟨rfl, e3, rfl⟩
def RM_rm6 : Room := ({ frames := 0, cells := 0, slots := 0, locals := 0 } : Room)
theorem d6_0 : decode jdk_41_method_11_code 0 = .ok (.iload_n 0, 1) := by decide +kernel
theorem d6_1 : decode jdk_41_method_11_code 1 = .ok (.ifCond .lt 8, 3) := by decide +kernel
theorem d6_4 : decode jdk_41_method_11_code 4 = .ok (.iload_n 0, 1) := by decide +kernel
theorem d6_5 : decode jdk_41_method_11_code 5 = .ok (.iload_n 1, 1) := by decide +kernel
theorem d6_6 : decode jdk_41_method_11_code 6 = .ok (.if_icmp .lt 10, 3) := by decide +kernel
theorem d6_16 : decode jdk_41_method_11_code 16 = .ok (.iload_n 0, 1) := by decide +kernel
theorem d6_17 : decode jdk_41_method_11_code 17 = .ok (.ireturn, 1) := by decide +kernel
theorem ef_6 (m : MethodId) (z0 : Int32) (z1 : Int32) (z2 : Value) (hz2 : z2.isRef = true) : entryFrame m #[.int z0, .int z1, z2] 3 = mkF m 0 #[.val (.int z0), .val (.int z1), .val (z2)] [] := by rcases ref_cases hz2 with rfl | ⟨_, rfl⟩ <;> first | (simp [entryFrame, mkF, argsToLocals, Value.category]; done) | rfl
theorem pn_1 : plainName "jdk/internal/util/Preconditions" = true := by first | (simp [plainName, overriddenIn]; done) | decide +kernel
set_option maxRecDepth 65536 in
set_option maxHeartbeats 40000000 in
theorem rm6 (l : Launch) (Z : State) (a0 : Array Value) (hw : ∀ d ∈ tables_1, d.before a0 Z = true) (ws : List Jvm.Cond) (fw : Value) (h0 : Heap) (n0 : Nat) (Z0 : n0 ≤ h0.size) (hfw : fw.isRef = true) :
    Ctr l Z (⟨"jdk/internal/util/Preconditions", "checkIndex", "(IILjava/util/function/BiFunction;)I"⟩ : MethodName) jdk_41_method_11_code 3 (some .int) RM_rm6 ws #[.int (0 : Int32), .int (3 : Int32), fw] h0 (PQ (.int (0 : Int32)) h0) := by
  refine Ctr.of (plainFor_of_name pn_1) ?_
  intro p e s m below meth c s₁ hx hby hml hrt hlk hnm hown hZ X0 e0
  have N0 := Fr.nil n0
  refine Go.cast (ef_6 m (0 : Int32) (3 : Int32) fw hfw) ?_
  refine g_iloadN (q := 1) X0.here hx (hb hby d6_0) rfl rfl ?_
  refine g_if_lt (q := 9) (q0 := 4) X0.here hx (hb hby d6_1) (by decide) (by decide) rfl ?_ ?_
  · intro c1; exact absurd c1 (by decide)
  · intro c1
    refine g_iloadN (q := 5) X0.here hx (hb hby d6_4) rfl rfl ?_
    refine g_iloadN (q := 6) X0.here hx (hb hby d6_5) rfl rfl ?_
    refine g_icmp_lt (q := 16) (q0 := 9) X0.here hx (hb hby d6_6) (by decide) (by decide) rfl ?_ ?_
    · intro c2
      refine g_iloadN (q := 17) X0.here hx (hb hby d6_16) rfl rfl ?_
      exact g_ireturn X0 hx hlk hrt (hb hby d6_17) (by decide) (by decide) ⟨rfl, e0, rfl⟩
    · intro c2; exact absurd c2 (by decide)
theorem pd_0 : parseMethodDescriptor "(IILjava/util/function/BiFunction;)I" = some ⟨[.int, .int, (.object "java/util/function/BiFunction")], some .int⟩ := by decide +kernel
def RM_rm5 : Room := ({ frames := 1, cells := 0, slots := 0, locals := 14 } : Room)
theorem d5_0 : decode jdk_42_method_155_code 0 = .ok (.iload_n 0, 1) := by decide +kernel
theorem d5_1 : decode jdk_42_method_155_code 1 = .ok (.iload_n 1, 1) := by decide +kernel
theorem d5_2 : decode jdk_42_method_155_code 2 = .ok (.getstatic 1053, 3) := by decide +kernel
theorem d5_5 : decode jdk_42_method_155_code 5 = .ok (.invokestatic 1059, 3) := by decide +kernel
theorem d5_8 : decode jdk_42_method_155_code 8 = .ok (.pop, 1) := by decide +kernel
theorem d5_9 : decode jdk_42_method_155_code 9 = .ok (.return_, 1) := by decide +kernel
theorem ef_5 (m : MethodId) (z0 : Int32) (z1 : Int32) : entryFrame m #[.int z0, .int z1] 2 = mkF m 0 #[.val (.int z0), .val (.int z1)] [] := by first | (simp [entryFrame, mkF, argsToLocals, Value.category]; done) | rfl
set_option maxRecDepth 65536 in
set_option maxHeartbeats 40000000 in
theorem rm5 (l : Launch) (Z : State) (a0 : Array Value) (hw : ∀ d ∈ tables_1, d.before a0 Z = true) (ws : List Jvm.Cond)  (h0 : Heap) (n0 : Nat) (Z0 : n0 ≤ h0.size) (fw : Value) (SF : Sta Z h0 "jdk/internal/util/Preconditions" "SIOOBE_FORMATTER" "Ljava/util/function/BiFunction;" fw) (hfw : fw.isRef = true) :
    Ctr l Z (⟨"java/lang/String", "checkIndex", "(II)V"⟩ : MethodName) jdk_42_method_155_code 2 none RM_rm5 ws #[.int (0 : Int32), .int (3 : Int32)] h0 (fun v h L => v = none ∧ h = h0 ∧ L = []) := by
  refine Ctr.of (plainFor_of_name pn_0) ?_
  intro p e s m below meth c s₁ hx hby hml hrt hlk hnm hown hZ X0 e0
  have N0 := Fr.nil n0
  refine Go.cast (ef_5 m (0 : Int32) (3 : Int32)) ?_
  refine g_iloadN (q := 1) X0.here hx (hb hby d5_0) rfl rfl ?_
  refine g_iloadN (q := 2) X0.here hx (hb hby d5_1) rfl rfl ?_
  refine g_getS (q := 5) X0 hx hZ hown (hw _ (List.mem_of_getElem? (i := 34) rfl)) e0 SF (hb hby d5_2) rfl ?_
  intro T1 X1 e1
  refine g_callS (q := 8) X1 hx hZ hown (hw _ (List.mem_of_getElem? (i := 36) rfl)) (hw _ (List.mem_of_getElem? (i := 37) rfl)) (hw _ (List.mem_of_getElem? (i := 35) rfl)) (hw _ (List.mem_of_getElem? (i := 38) rfl)) (by decide) (rm6 l Z a0 hw [] fw h0 n0 Z0 hfw) (argsL := [.int (0 : Int32), .int (3 : Int32), fw]) (rest := []) pd_0 rfl rfl rfl (hb hby d5_5) rfl (by rw [hml]; rfl) e1 (by decide) (W := 0) rfl (by decide) (by decide) (by decide) ?_
  intro v2 T2 Lc2 X2 Q2
  obtain ⟨rfl, e2, rfl⟩ := Q2
  rw [List.append_nil] at X2
  refine g_pop (q := 9) X2.here hx (hb hby d5_8) rfl rfl ?_
  exact g_ret X2 hx hlk hrt (hb hby d5_9) (by decide) (by decide) ⟨rfl, e2, rfl⟩
theorem pd_1 : parseMethodDescriptor "(II)V" = some ⟨[.int, .int], none⟩ := by decide +kernel
def RM_rm4_49 : Room := ({ frames := 2, cells := 0, slots := 0, locals := 27 } : Room)
theorem d4_0 : decode jdk_43_method_2_code 0 = .ok (.iload_n 1, 1) := by decide +kernel
theorem d4_1 : decode jdk_43_method_2_code 1 = .ok (.aload_n 0, 1) := by decide +kernel
theorem d4_2 : decode jdk_43_method_2_code 2 = .ok (.arraylength, 1) := by decide +kernel
theorem d4_3 : decode jdk_43_method_2_code 3 = .ok (.invokestatic 9, 3) := by decide +kernel
theorem d4_6 : decode jdk_43_method_2_code 6 = .ok (.aload_n 0, 1) := by decide +kernel
theorem d4_7 : decode jdk_43_method_2_code 7 = .ok (.iload_n 1, 1) := by decide +kernel
theorem d4_8 : decode jdk_43_method_2_code 8 = .ok (.baload, 1) := by decide +kernel
theorem d4_9 : decode jdk_43_method_2_code 9 = .ok (.sipush 255, 3) := by decide +kernel
theorem d4_12 : decode jdk_43_method_2_code 12 = .ok (.iand, 1) := by decide +kernel
theorem d4_13 : decode jdk_43_method_2_code 13 = .ok (.i2c, 1) := by decide +kernel
theorem d4_14 : decode jdk_43_method_2_code 14 = .ok (.ireturn, 1) := by decide +kernel
theorem ef_4 (m : MethodId) (z0 : Addr) (z1 : Int32) : entryFrame m #[.ref z0, .int z1] 2 = mkF m 0 #[.val (.ref z0), .val (.int z1)] [] := by first | (simp [entryFrame, mkF, argsToLocals, Value.category]; done) | rfl
theorem pn_2 : plainName "java/lang/StringLatin1" = true := by first | (simp [plainName, overriddenIn]; done) | decide +kernel
set_option maxRecDepth 65536 in
set_option maxHeartbeats 40000000 in
theorem rm4_49 (l : Launch) (Z : State) (a0 : Array Value) (hw : ∀ d ∈ tables_1, d.before a0 Z = true) (ws : List Jvm.Cond) (bb : Addr) (h0 : Heap) (n0 : Nat) (Z0 : n0 ≤ h0.size) (fw : Value) (SF : Sta Z h0 "jdk/internal/util/Preconditions" "SIOOBE_FORMATTER" "Ljava/util/function/BiFunction;" fw) (hfw : fw.isRef = true) (bv : List Value) (A0 : ArrL Z h0 bb .byte bv) (h3 : bv.length = 3) (hb0 : bv[0]? = some (.int (49 : Int32))) :
    Ctr l Z (⟨"java/lang/StringLatin1", "charAt", "([BI)C"⟩ : MethodName) jdk_43_method_2_code 2 (some .char) RM_rm4_49 ws #[.ref bb, .int (0 : Int32)] h0 (PQ (.int (49 : Int32)) h0) := by
  refine Ctr.of (plainFor_of_name pn_2) ?_
  intro p e s m below meth c s₁ hx hby hml hrt hlk hnm hown hZ X0 e0
  have N0 := Fr.nil n0
  refine Go.cast (ef_4 m bb (0 : Int32)) ?_
  refine g_iloadN (q := 1) X0.here hx (hb hby d4_0) rfl rfl ?_
  refine g_aloadN (q := 2) X0.here hx (hb hby d4_1) rfl rfl rfl ?_
  refine g_alen (q := 3) (v := (3 : Int32)) X0 hx hZ e0 A0 (by rw [h3]; rfl) (hb hby d4_2) rfl ?_
  refine g_callS (q := 6) X0 hx hZ hown (hw _ (List.mem_of_getElem? (i := 31) rfl)) (hw _ (List.mem_of_getElem? (i := 32) rfl)) (hw _ (List.mem_of_getElem? (i := 15) rfl)) (hw _ (List.mem_of_getElem? (i := 33) rfl)) (by decide) (rm5 l Z a0 hw [] h0 n0 Z0 fw SF hfw) (argsL := [.int (0 : Int32), .int (3 : Int32)]) (rest := []) pd_1 rfl rfl rfl (hb hby d4_3) rfl (by rw [hml]; rfl) e0 (by decide) (W := 0) rfl (by decide) (by decide) (by decide) ?_
  intro v1 T1 Lc1 X1 Q1
  obtain ⟨rfl, e1, rfl⟩ := Q1
  rw [List.append_nil] at X1
  refine g_aloadN (q := 7) X1.here hx (hb hby d4_6) rfl rfl rfl ?_
  refine g_iloadN (q := 8) X1.here hx (hb hby d4_7) rfl rfl ?_
  refine g_bload_ (q := 9) (i := 0) (v := (49 : Int32)) X1 hx hZ e1 A0 rfl hb0 (hb hby d4_8) rfl ?_
  refine g_sipush (q := 12) (v := (255 : Int32)) X1.here hx (hb hby d4_9) rfl rfl ?_
  refine g_iand (q := 13) X1.here hx (hb hby d4_12) rfl ?_
  rw [show ((49 : Int32) &&& (255 : Int32)) = (49 : Int32) from by decide]
  refine g_i2c (q := 14) X1.here hx (hb hby d4_13) rfl ?_
  rw [show (49 : Int32).toUInt32.toUInt16.toUInt32.toInt32 = (49 : Int32) from by decide]
  exact g_nreturn (t := .char) X1 hx hlk rfl (by simp) hrt (hb hby d4_14) (by decide) (by decide) ⟨rfl, e1, rfl⟩
theorem pd_2 : parseMethodDescriptor "()Z" = some ⟨[], some .boolean⟩ := by decide +kernel
theorem pd_3 : parseMethodDescriptor "([BI)C" = some ⟨[(.array .byte), .int], some .char⟩ := by decide +kernel
def RM_rm2_49 : Room := ({ frames := 3, cells := 0, slots := 0, locals := 40 } : Room)
theorem d2_0 : decode jdk_42_method_56_code 0 = .ok (.aload_n 0, 1) := by decide +kernel
theorem d2_1 : decode jdk_42_method_56_code 1 = .ok (.invokevirtual 492, 3) := by decide +kernel
theorem d2_4 : decode jdk_42_method_56_code 4 = .ok (.ifCond .eq 12, 3) := by decide +kernel
theorem d2_7 : decode jdk_42_method_56_code 7 = .ok (.aload_n 0, 1) := by decide +kernel
theorem d2_8 : decode jdk_42_method_56_code 8 = .ok (.getfield 9, 3) := by decide +kernel
theorem d2_11 : decode jdk_42_method_56_code 11 = .ok (.iload_n 1, 1) := by decide +kernel
theorem d2_12 : decode jdk_42_method_56_code 12 = .ok (.invokestatic 495, 3) := by decide +kernel
theorem d2_15 : decode jdk_42_method_56_code 15 = .ok (.ireturn, 1) := by decide +kernel
theorem ef_2 (m : MethodId) (z0 : Addr) (z1 : Int32) : entryFrame m #[.ref z0, .int z1] 2 = mkF m 0 #[.val (.ref z0), .val (.int z1)] [] := by first | (simp [entryFrame, mkF, argsToLocals, Value.category]; done) | rfl
set_option maxRecDepth 65536 in
set_option maxHeartbeats 40000000 in
theorem rm2_49 (l : Launch) (Z : State) (a0 : Array Value) (hw : ∀ d ∈ tables_1, d.before a0 Z = true) (ws : List Jvm.Cond) (t : Addr) (h0 : Heap) (n0 : Nat) (Z0 : n0 ≤ h0.size) (cs : Int32) (SC : Sta Z h0 "java/lang/String" "COMPACT_STRINGS" "Z" (.int cs)) (hcs : cs.toInt ≠ 0) (fw : Value) (SF : Sta Z h0 "jdk/internal/util/Preconditions" "SIOOBE_FORMATTER" "Ljava/util/function/BiFunction;" fw) (hfw : fw.isRef = true) (bb : Addr) (bv : List Value) (F1 : Fld Z h0 t "java/lang/String" "value" "[B" (.ref bb)) (A0 : ArrL Z h0 bb .byte bv) (h3 : bv.length = 3) (F2 : Fld Z h0 t "java/lang/String" "coder" "B" (.int (0 : Int32))) (E0 : Exa Z h0 t "java/lang/String") (hb0 : bv[0]? = some (.int (49 : Int32))) :
    Ctr l Z (⟨"java/lang/String", "charAt", "(I)C"⟩ : MethodName) jdk_42_method_56_code 2 (some .char) RM_rm2_49 ws #[.ref t, .int (0 : Int32)] h0 (PQ (.int (49 : Int32)) h0) := by
  refine Ctr.of (plainFor_of_name pn_0) ?_
  intro p e s m below meth c s₁ hx hby hml hrt hlk hnm hown hZ X0 e0
  have N0 := Fr.nil n0
  refine Go.cast (ef_2 m t (0 : Int32)) ?_
  refine g_aloadN (q := 1) X0.here hx (hb hby d2_0) rfl rfl rfl ?_
  refine g_virtual (q := 4) X0 hx hZ hown (hw _ (List.mem_of_getElem? (i := 17) rfl)) (hw _ (List.mem_of_getElem? (i := 18) rfl)) (hw _ (List.mem_of_getElem? (i := 20) rfl)) (hw _ (List.mem_of_getElem? (i := 19) rfl)) (hw _ (List.mem_of_getElem? (i := 15) rfl)) (hw _ (List.mem_of_getElem? (i := 21) rfl)) (by decide) (rm3 l Z a0 hw [] t h0 n0 Z0 cs SC hcs F2) E0 (argsL := []) (rest := []) pd_2 rfl rfl rfl (hb hby d2_1) rfl (by rw [hml]; rfl) e0 (by decide) (W := 0) rfl (by decide) (by decide) (by decide) ?_
  intro v1 T1 Lc1 X1 Q1
  obtain ⟨rfl, e1, rfl⟩ := Q1
  rw [List.append_nil] at X1
  refine g_if_eq (q := 16) (q0 := 7) X1.here hx (hb hby d2_4) (by decide) (by decide) rfl ?_ ?_
  · intro c2; exact absurd c2 (by decide)
  · intro c2
    refine g_aloadN (q := 8) X1.here hx (hb hby d2_7) rfl rfl rfl ?_
    refine g_getF (q := 11) X1 hx hZ hown (hw _ (List.mem_of_getElem? (i := 25) rfl)) e1 F1 (hb hby d2_8) rfl ?_
    intro T3 X3 e3
    refine g_iloadN (q := 12) X3.here hx (hb hby d2_11) rfl rfl ?_
    refine g_callS (q := 15) X3 hx hZ hown (hw _ (List.mem_of_getElem? (i := 27) rfl)) (hw _ (List.mem_of_getElem? (i := 28) rfl)) (hw _ (List.mem_of_getElem? (i := 29) rfl)) (hw _ (List.mem_of_getElem? (i := 30) rfl)) (by decide) (rm4_49 l Z a0 hw [] bb h0 n0 Z0 fw SF hfw bv A0 h3 hb0) (argsL := [.ref bb, .int (0 : Int32)]) (rest := []) pd_3 rfl rfl rfl (hb hby d2_12) rfl (by rw [hml]; rfl) e3 (by decide) (W := 0) rfl (by decide) (by decide) (by decide) ?_
    intro v4 T4 Lc4 X4 Q4
    obtain ⟨rfl, e4, rfl⟩ := Q4
    rw [List.append_nil] at X4
    exact g_nreturn (t := .char) X4 hx hlk rfl (by simp) hrt (hb hby d2_15) (by decide) (by decide) ⟨rfl, e4, rfl⟩
def RM_rm4_50 : Room := ({ frames := 2, cells := 0, slots := 0, locals := 27 } : Room)
set_option maxRecDepth 65536 in
set_option maxHeartbeats 40000000 in
theorem rm4_50 (l : Launch) (Z : State) (a0 : Array Value) (hw : ∀ d ∈ tables_1, d.before a0 Z = true) (ws : List Jvm.Cond) (bb : Addr) (h0 : Heap) (n0 : Nat) (Z0 : n0 ≤ h0.size) (fw : Value) (SF : Sta Z h0 "jdk/internal/util/Preconditions" "SIOOBE_FORMATTER" "Ljava/util/function/BiFunction;" fw) (hfw : fw.isRef = true) (bv : List Value) (A0 : ArrL Z h0 bb .byte bv) (h3 : bv.length = 3) (hb0 : bv[0]? = some (.int (50 : Int32))) :
    Ctr l Z (⟨"java/lang/StringLatin1", "charAt", "([BI)C"⟩ : MethodName) jdk_43_method_2_code 2 (some .char) RM_rm4_50 ws #[.ref bb, .int (0 : Int32)] h0 (PQ (.int (50 : Int32)) h0) := by
  refine Ctr.of (plainFor_of_name pn_2) ?_
  intro p e s m below meth c s₁ hx hby hml hrt hlk hnm hown hZ X0 e0
  have N0 := Fr.nil n0
  refine Go.cast (ef_4 m bb (0 : Int32)) ?_
  refine g_iloadN (q := 1) X0.here hx (hb hby d4_0) rfl rfl ?_
  refine g_aloadN (q := 2) X0.here hx (hb hby d4_1) rfl rfl rfl ?_
  refine g_alen (q := 3) (v := (3 : Int32)) X0 hx hZ e0 A0 (by rw [h3]; rfl) (hb hby d4_2) rfl ?_
  refine g_callS (q := 6) X0 hx hZ hown (hw _ (List.mem_of_getElem? (i := 31) rfl)) (hw _ (List.mem_of_getElem? (i := 32) rfl)) (hw _ (List.mem_of_getElem? (i := 15) rfl)) (hw _ (List.mem_of_getElem? (i := 33) rfl)) (by decide) (rm5 l Z a0 hw [] h0 n0 Z0 fw SF hfw) (argsL := [.int (0 : Int32), .int (3 : Int32)]) (rest := []) pd_1 rfl rfl rfl (hb hby d4_3) rfl (by rw [hml]; rfl) e0 (by decide) (W := 0) rfl (by decide) (by decide) (by decide) ?_
  intro v1 T1 Lc1 X1 Q1
  obtain ⟨rfl, e1, rfl⟩ := Q1
  rw [List.append_nil] at X1
  refine g_aloadN (q := 7) X1.here hx (hb hby d4_6) rfl rfl rfl ?_
  refine g_iloadN (q := 8) X1.here hx (hb hby d4_7) rfl rfl ?_
  refine g_bload_ (q := 9) (i := 0) (v := (50 : Int32)) X1 hx hZ e1 A0 rfl hb0 (hb hby d4_8) rfl ?_
  refine g_sipush (q := 12) (v := (255 : Int32)) X1.here hx (hb hby d4_9) rfl rfl ?_
  refine g_iand (q := 13) X1.here hx (hb hby d4_12) rfl ?_
  rw [show ((50 : Int32) &&& (255 : Int32)) = (50 : Int32) from by decide]
  refine g_i2c (q := 14) X1.here hx (hb hby d4_13) rfl ?_
  rw [show (50 : Int32).toUInt32.toUInt16.toUInt32.toInt32 = (50 : Int32) from by decide]
  exact g_nreturn (t := .char) X1 hx hlk rfl (by simp) hrt (hb hby d4_14) (by decide) (by decide) ⟨rfl, e1, rfl⟩
def RM_rm2_50 : Room := ({ frames := 3, cells := 0, slots := 0, locals := 40 } : Room)
set_option maxRecDepth 65536 in
set_option maxHeartbeats 40000000 in
theorem rm2_50 (l : Launch) (Z : State) (a0 : Array Value) (hw : ∀ d ∈ tables_1, d.before a0 Z = true) (ws : List Jvm.Cond) (t : Addr) (h0 : Heap) (n0 : Nat) (Z0 : n0 ≤ h0.size) (cs : Int32) (SC : Sta Z h0 "java/lang/String" "COMPACT_STRINGS" "Z" (.int cs)) (hcs : cs.toInt ≠ 0) (fw : Value) (SF : Sta Z h0 "jdk/internal/util/Preconditions" "SIOOBE_FORMATTER" "Ljava/util/function/BiFunction;" fw) (hfw : fw.isRef = true) (bb : Addr) (bv : List Value) (F1 : Fld Z h0 t "java/lang/String" "value" "[B" (.ref bb)) (A0 : ArrL Z h0 bb .byte bv) (h3 : bv.length = 3) (F2 : Fld Z h0 t "java/lang/String" "coder" "B" (.int (0 : Int32))) (E0 : Exa Z h0 t "java/lang/String") (hb0 : bv[0]? = some (.int (50 : Int32))) :
    Ctr l Z (⟨"java/lang/String", "charAt", "(I)C"⟩ : MethodName) jdk_42_method_56_code 2 (some .char) RM_rm2_50 ws #[.ref t, .int (0 : Int32)] h0 (PQ (.int (50 : Int32)) h0) := by
  refine Ctr.of (plainFor_of_name pn_0) ?_
  intro p e s m below meth c s₁ hx hby hml hrt hlk hnm hown hZ X0 e0
  have N0 := Fr.nil n0
  refine Go.cast (ef_2 m t (0 : Int32)) ?_
  refine g_aloadN (q := 1) X0.here hx (hb hby d2_0) rfl rfl rfl ?_
  refine g_virtual (q := 4) X0 hx hZ hown (hw _ (List.mem_of_getElem? (i := 17) rfl)) (hw _ (List.mem_of_getElem? (i := 18) rfl)) (hw _ (List.mem_of_getElem? (i := 20) rfl)) (hw _ (List.mem_of_getElem? (i := 19) rfl)) (hw _ (List.mem_of_getElem? (i := 15) rfl)) (hw _ (List.mem_of_getElem? (i := 21) rfl)) (by decide) (rm3 l Z a0 hw [] t h0 n0 Z0 cs SC hcs F2) E0 (argsL := []) (rest := []) pd_2 rfl rfl rfl (hb hby d2_1) rfl (by rw [hml]; rfl) e0 (by decide) (W := 0) rfl (by decide) (by decide) (by decide) ?_
  intro v1 T1 Lc1 X1 Q1
  obtain ⟨rfl, e1, rfl⟩ := Q1
  rw [List.append_nil] at X1
  refine g_if_eq (q := 16) (q0 := 7) X1.here hx (hb hby d2_4) (by decide) (by decide) rfl ?_ ?_
  · intro c2; exact absurd c2 (by decide)
  · intro c2
    refine g_aloadN (q := 8) X1.here hx (hb hby d2_7) rfl rfl rfl ?_
    refine g_getF (q := 11) X1 hx hZ hown (hw _ (List.mem_of_getElem? (i := 25) rfl)) e1 F1 (hb hby d2_8) rfl ?_
    intro T3 X3 e3
    refine g_iloadN (q := 12) X3.here hx (hb hby d2_11) rfl rfl ?_
    refine g_callS (q := 15) X3 hx hZ hown (hw _ (List.mem_of_getElem? (i := 27) rfl)) (hw _ (List.mem_of_getElem? (i := 28) rfl)) (hw _ (List.mem_of_getElem? (i := 29) rfl)) (hw _ (List.mem_of_getElem? (i := 30) rfl)) (by decide) (rm4_50 l Z a0 hw [] bb h0 n0 Z0 fw SF hfw bv A0 h3 hb0) (argsL := [.ref bb, .int (0 : Int32)]) (rest := []) pd_3 rfl rfl rfl (hb hby d2_12) rfl (by rw [hml]; rfl) e3 (by decide) (W := 0) rfl (by decide) (by decide) (by decide) ?_
    intro v4 T4 Lc4 X4 Q4
    obtain ⟨rfl, e4, rfl⟩ := Q4
    rw [List.append_nil] at X4
    exact g_nreturn (t := .char) X4 hx hlk rfl (by simp) hrt (hb hby d2_15) (by decide) (by decide) ⟨rfl, e4, rfl⟩
def RM_rm1 : Room := ({ frames := 0, cells := 0, slots := 0, locals := 0 } : Room)
theorem d1_0 : decode prog_45_method_5_code 0 = .ok (.aload_n 0, 1) := by decide +kernel
theorem d1_1 : decode prog_45_method_5_code 1 = .ok (.getfield 32, 3) := by decide +kernel
theorem d1_4 : decode prog_45_method_5_code 4 = .ok (.areturn, 1) := by decide +kernel
theorem ef_1 (m : MethodId) (z0 : Addr) : entryFrame m #[.ref z0] 1 = mkF m 0 #[.val (.ref z0)] [] := by first | (simp [entryFrame, mkF, argsToLocals, Value.category]; done) | rfl
theorem pn_3 : plainName "com/example/lexwalk/lexwalk/sru/SruVersion" = true := by first | (simp [plainName, overriddenIn]; done) | decide +kernel
set_option maxRecDepth 65536 in
set_option maxHeartbeats 40000000 in
theorem rm1 (l : Launch) (Z : State) (a0 : Array Value) (hw : ∀ d ∈ tables_1, d.before a0 Z = true) (ws : List Jvm.Cond) (t : Addr) (h0 : Heap) (n0 : Nat) (Z0 : n0 ≤ h0.size) (nn : Addr) (F1 : Fld Z h0 t "com/example/lexwalk/lexwalk/sru/SruVersion" "number" "Ljava/lang/String;" (.ref nn)) :
    Ctr l Z (⟨"com/example/lexwalk/lexwalk/sru/SruVersion", "number", "()Ljava/lang/String;"⟩ : MethodName) prog_45_method_5_code 1 (some (.object "java/lang/String")) RM_rm1 ws #[.ref t] h0 (PQ (.ref nn) h0) := by
  refine Ctr.of (plainFor_of_name pn_3) ?_
  intro p e s m below meth c s₁ hx hby hml hrt hlk hnm hown hZ X0 e0
  have N0 := Fr.nil n0
  refine Go.cast (ef_1 m t) ?_
  refine g_aloadN (q := 1) X0.here hx (hb hby d1_0) rfl rfl rfl ?_
  refine g_getF (q := 4) X0 hx hZ hown (hw _ (List.mem_of_getElem? (i := 9) rfl)) e0 F1 (hb hby d1_1) rfl ?_
  intro T1 X1 e1
  exact g_areturn X1 hx hlk rfl hrt rfl (hb hby d1_4) (by decide) (by decide) ⟨rfl, e1, rfl⟩
def RM_rm7_0 : Room := ({ frames := 0, cells := 0, slots := 0, locals := 0 } : Room)
theorem d7_0 : decode prog_45_method_12_code 0 = .ok (.aload_n 0, 1) := by decide +kernel
theorem d7_1 : decode prog_45_method_12_code 1 = .ok (.getstatic 10, 3) := by decide +kernel
theorem d7_4 : decode prog_45_method_12_code 4 = .ok (.if_acmp .eq 7, 3) := by decide +kernel
theorem d7_11 : decode prog_45_method_12_code 11 = .ok (.iconst 0, 1) := by decide +kernel
theorem d7_12 : decode prog_45_method_12_code 12 = .ok (.ireturn, 1) := by decide +kernel
theorem ef_7 (m : MethodId) (z0 : Addr) : entryFrame m #[.ref z0] 1 = mkF m 0 #[.val (.ref z0)] [] := by first | (simp [entryFrame, mkF, argsToLocals, Value.category]; done) | rfl
set_option maxRecDepth 65536 in
set_option maxHeartbeats 40000000 in
theorem rm7_0 (l : Launch) (Z : State) (a0 : Array Value) (hw : ∀ d ∈ tables_1, d.before a0 Z = true) (ws : List Jvm.Cond) (t : Addr) (h0 : Heap) (n0 : Nat) (Z0 : n0 ≤ h0.size) (S2 : Sta Z h0 "com/example/lexwalk/lexwalk/sru/SruVersion" "V2_0" "Lcom/example/lexwalk/lexwalk/sru/SruVersion;" (.ref t)) :
    Ctr l Z (⟨"com/example/lexwalk/lexwalk/sru/SruVersion", "requiresOperation", "()Z"⟩ : MethodName) prog_45_method_12_code 1 (some .boolean) RM_rm7_0 ws #[.ref t] h0 (PQ (.int (0 : Int32)) h0) := by
  refine Ctr.of (plainFor_of_name pn_3) ?_
  intro p e s m below meth c s₁ hx hby hml hrt hlk hnm hown hZ X0 e0
  have N0 := Fr.nil n0
  refine Go.cast (ef_7 m t) ?_
  refine g_aloadN (q := 1) X0.here hx (hb hby d7_0) rfl rfl rfl ?_
  refine g_getS (q := 4) X0 hx hZ hown (hw _ (List.mem_of_getElem? (i := 44) rfl)) e0 S2 (hb hby d7_1) rfl ?_
  intro T1 X1 e1
  refine g_acmp_eq (q := 11) (q0 := 7) X1 hx (hb hby d7_4) (by decide) (by decide) rfl ?_ ?_
  · intro c2
    refine g_iconst (q := 12) (v := (0 : Int32)) X1.here hx (hb hby d7_11) rfl rfl ?_
    exact g_zreturn (b := false) X1 hx hlk hrt (hb hby d7_12) (by decide) (by decide) ⟨rfl, e1, rfl⟩
  · intro c2
    exact absurd rfl c2
def RM_rm7_1 : Room := ({ frames := 0, cells := 0, slots := 0, locals := 0 } : Room)
theorem d7_7 : decode prog_45_method_12_code 7 = .ok (.iconst 1, 1) := by decide +kernel
theorem d7_8 : decode prog_45_method_12_code 8 = .ok (.goto 4, 3) := by decide +kernel
set_option maxRecDepth 65536 in
set_option maxHeartbeats 40000000 in
theorem rm7_1 (l : Launch) (Z : State) (a0 : Array Value) (hw : ∀ d ∈ tables_1, d.before a0 Z = true) (ws : List Jvm.Cond) (t : Addr) (h0 : Heap) (n0 : Nat) (Z0 : n0 ≤ h0.size) (v2 : Addr) (S2 : Sta Z h0 "com/example/lexwalk/lexwalk/sru/SruVersion" "V2_0" "Lcom/example/lexwalk/lexwalk/sru/SruVersion;" (.ref v2)) (hne : t ≠ v2) :
    Ctr l Z (⟨"com/example/lexwalk/lexwalk/sru/SruVersion", "requiresOperation", "()Z"⟩ : MethodName) prog_45_method_12_code 1 (some .boolean) RM_rm7_1 ws #[.ref t] h0 (PQ (.int (1 : Int32)) h0) := by
  refine Ctr.of (plainFor_of_name pn_3) ?_
  intro p e s m below meth c s₁ hx hby hml hrt hlk hnm hown hZ X0 e0
  have N0 := Fr.nil n0
  refine Go.cast (ef_7 m t) ?_
  refine g_aloadN (q := 1) X0.here hx (hb hby d7_0) rfl rfl rfl ?_
  refine g_getS (q := 4) X0 hx hZ hown (hw _ (List.mem_of_getElem? (i := 44) rfl)) e0 S2 (hb hby d7_1) rfl ?_
  intro T1 X1 e1
  refine g_acmp_eq (q := 11) (q0 := 7) X1 hx (hb hby d7_4) (by decide) (by decide) rfl ?_ ?_
  · intro c2
    exact absurd c2 hne
  · intro c2
    refine g_iconst (q := 8) (v := (1 : Int32)) X1.here hx (hb hby d7_7) rfl rfl ?_
    refine g_goto (q := 12) X1.here hx (hb hby d7_8) (by decide) (by decide) ?_
    exact g_zreturn (b := true) X1 hx hlk hrt (hb hby d7_12) (by decide) (by decide) ⟨rfl, e1, rfl⟩
theorem pd_4 : parseMethodDescriptor "()Ljava/lang/String;" = some ⟨[], some (.object "java/lang/String")⟩ := by decide +kernel
theorem pd_5 : parseMethodDescriptor "(I)C" = some ⟨[.int], some .char⟩ := by decide +kernel
theorem ef_0 (m : MethodId) (z0 : Int32) : entryFrame m #[.int z0] maxLocals = mkF m 0 #[.val (.int z0), .unset, .unset, .unset, .unset] [] := by first | (simp [entryFrame, mkF, argsToLocals, Value.category, maxLocals]; done) | rfl
theorem pn_4 : plainName "com/example/lexwalk/lexwalk/sru/SruVersionRequiresOperationPinLaw" = true := by first | (simp [plainName, overriddenIn]; done) | decide +kernel
set_option maxRecDepth 65536 in
set_option maxHeartbeats 40000000 in
theorem rm0 (l : Launch) (Z : State) (a0 : Array Value) (hw : ∀ d ∈ tables_1, d.before a0 Z = true) (ws : List Jvm.Cond) (a : Int32) (h0 : Heap) (n0 : Nat) (Z0 : n0 ≤ h0.size) (cs : Int32) (SC : Sta Z h0 "java/lang/String" "COMPACT_STRINGS" "Z" (.int cs)) (hcs : cs.toInt ≠ 0) (fw : Value) (SF : Sta Z h0 "jdk/internal/util/Preconditions" "SIOOBE_FORMATTER" "Ljava/util/function/BiFunction;" fw) (hfw : fw.isRef = true) (v11 n11 b11 : Addr) (bv11 : List Value) (S11 : Sta Z h0 "com/example/lexwalk/lexwalk/sru/SruVersion" "V1_1" "Lcom/example/lexwalk/lexwalk/sru/SruVersion;" (.ref v11)) (E11 : Exa Z h0 v11 "com/example/lexwalk/lexwalk/sru/SruVersion") (N11 : Fld Z h0 v11 "com/example/lexwalk/lexwalk/sru/SruVersion" "number" "Ljava/lang/String;" (.ref n11)) (EN11 : Exa Z h0 n11 "java/lang/String") (FV11 : Fld Z h0 n11 "java/lang/String" "value" "[B" (.ref b11)) (FK11 : Fld Z h0 n11 "java/lang/String" "coder" "B" (.int (0 : Int32))) (AB11 : ArrL Z h0 b11 .byte bv11) (h311 : bv11.length = 3) (hb11 : bv11[0]? = some (.int (49 : Int32))) (v12 n12 b12 : Addr) (bv12 : List Value) (S12 : Sta Z h0 "com/example/lexwalk/lexwalk/sru/SruVersion" "V1_2" "Lcom/example/lexwalk/lexwalk/sru/SruVersion;" (.ref v12)) (E12 : Exa Z h0 v12 "com/example/lexwalk/lexwalk/sru/SruVersion") (N12 : Fld Z h0 v12 "com/example/lexwalk/lexwalk/sru/SruVersion" "number" "Ljava/lang/String;" (.ref n12)) (EN12 : Exa Z h0 n12 "java/lang/String") (FV12 : Fld Z h0 n12 "java/lang/String" "value" "[B" (.ref b12)) (FK12 : Fld Z h0 n12 "java/lang/String" "coder" "B" (.int (0 : Int32))) (AB12 : ArrL Z h0 b12 .byte bv12) (h312 : bv12.length = 3) (hb12 : bv12[0]? = some (.int (49 : Int32))) (v20 n20 b20 : Addr) (bv20 : List Value) (S20 : Sta Z h0 "com/example/lexwalk/lexwalk/sru/SruVersion" "V2_0" "Lcom/example/lexwalk/lexwalk/sru/SruVersion;" (.ref v20)) (E20 : Exa Z h0 v20 "com/example/lexwalk/lexwalk/sru/SruVersion") (N20 : Fld Z h0 v20 "com/example/lexwalk/lexwalk/sru/SruVersion" "number" "Ljava/lang/String;" (.ref n20)) (EN20 : Exa Z h0 n20 "java/lang/String") (FV20 : Fld Z h0 n20 "java/lang/String" "value" "[B" (.ref b20)) (FK20 : Fld Z h0 n20 "java/lang/String" "coder" "B" (.int (0 : Int32))) (AB20 : ArrL Z h0 b20 .byte bv20) (h320 : bv20.length = 3) (hb20 : bv20[0]? = some (.int (50 : Int32))) (ne1 : v11 ≠ v20) (ne2 : v12 ≠ v20) :
    Ctr l Z x code maxLocals ret room_1 ws #[.int a] h0 (fun v h L => v = some (.int 1) ∧ Fr n0 L) := by
  refine Ctr.of (plainFor_of_name pn_4) ?_
  intro p e s m below meth c s₁ hx hby hml hrt hlk hnm hown hZ X0 e0
  have N0 := Fr.nil n0
  refine Go.cast (ef_0 m a) ?_
  replace hown : s.vm.findClass "com/example/lexwalk/lexwalk/sru/SruVersionRequiresOperationPinLaw" = some m.cls := hown
  replace hml : c.maxLocals = 5 := hml
  replace hrt : meth.sig.returnType = some .boolean := hrt
  refine g_iloadN (q := 1) X0.here hx (hb hby at_0) rfl rfl ?_
  refine g_ldcI (q := 3) X0 hx hZ hown (hw _ (List.mem_of_getElem? (i := 0) rfl)) (hb hby at_1) rfl ?_
  refine g_iand (q := 4) X0.here hx (hb hby at_3) rfl ?_
  refine g_iconst (q := 5) (v := (3 : Int32)) X0.here hx (hb hby at_4) rfl rfl ?_
  refine g_irem (q := 6) X0.here hx (hb hby at_5) (by decide) rfl ?_
  refine g_istoreN (q := 7) (L' := #[.val (.int a), .val (.int ((a &&& (2147483647 : Int32)) % (3 : Int32))), .unset, .unset, .unset]) X0.here hx (hb hby at_6) rfl rfl ?_
  refine g_iloadN (q := 8) X0.here hx (hb hby at_7) rfl rfl ?_
  refine g_if_ne (q := 18) (q0 := 11) X0.here hx (hb hby at_8) (by decide) (by decide) rfl ?_ ?_
  · intro c1
    refine g_iloadN (q := 19) X0.here hx (hb hby at_18) rfl rfl ?_
    refine g_iconst (q := 20) (v := (1 : Int32)) X0.here hx (hb hby at_19) rfl rfl ?_
    refine g_icmp_ne (q := 30) (q0 := 23) X0.here hx (hb hby at_20) (by decide) (by decide) rfl ?_ ?_
    · intro c2
      refine g_getS (q := 33) X0 hx hZ hown (hw _ (List.mem_of_getElem? (i := 46) rfl)) e0 S20 (hb hby at_30) rfl ?_
      intro T3 X3 e3
      refine g_astoreN (q := 34) (L' := #[.val (.int a), .val (.int ((a &&& (2147483647 : Int32)) % (3 : Int32))), .val (.ref v20), .unset, .unset]) X3.here hx (hb hby at_33) rfl rfl rfl ?_
      refine g_iloadN (q := 35) X3.here hx (hb hby at_34) rfl rfl ?_
      refine g_iconst (q := 36) (v := (2 : Int32)) X3.here hx (hb hby at_35) rfl rfl ?_
      refine g_sel_icmp_eq (q := 44) X3.here hx (hb hby at_36) (by decide) (by decide) rfl (hb hby at_43) (hb hby at_39) (hb hby at_40) rfl (by decide) (by decide) rfl ?_
      refine g_istoreN (q := 45) (L' := #[.val (.int a), .val (.int ((a &&& (2147483647 : Int32)) % (3 : Int32))), .val (.ref v20), .val (.int (b2i (decide (((a &&& (2147483647 : Int32)) % (3 : Int32)).toInt ≠ (2 : Int32).toInt)))), .unset]) X3.here hx (hb hby at_44) rfl rfl ?_
      refine g_aloadN (q := 46) X3.here hx (hb hby at_45) rfl rfl rfl ?_
      refine g_virtual (q := 49) X3 hx hZ hown (hw _ (List.mem_of_getElem? (i := 4) rfl)) (hw _ (List.mem_of_getElem? (i := 5) rfl)) (hw _ (List.mem_of_getElem? (i := 7) rfl)) (hw _ (List.mem_of_getElem? (i := 6) rfl)) (hw _ (List.mem_of_getElem? (i := 2) rfl)) (hw _ (List.mem_of_getElem? (i := 8) rfl)) (by decide) (rm1 l Z a0 hw [] v20 h0 n0 Z0 n20 N20) E20 (argsL := []) (rest := []) pd_4 rfl rfl rfl (hb hby at_46) rfl (by rw [hml]; rfl) e3 (by decide) (W := 0) rfl (by decide) (by decide) (by decide) ?_
      intro v4 T4 Lc4 X4 Q4
      obtain ⟨rfl, e4, rfl⟩ := Q4
      rw [List.append_nil] at X4
      refine g_iconst (q := 50) (v := (0 : Int32)) X4.here hx (hb hby at_49) rfl rfl ?_
      refine g_virtual (q := 53) X4 hx hZ hown (hw _ (List.mem_of_getElem? (i := 11) rfl)) (hw _ (List.mem_of_getElem? (i := 12) rfl)) (hw _ (List.mem_of_getElem? (i := 14) rfl)) (hw _ (List.mem_of_getElem? (i := 13) rfl)) (hw _ (List.mem_of_getElem? (i := 15) rfl)) (hw _ (List.mem_of_getElem? (i := 16) rfl)) (by decide) (rm2_50 l Z a0 hw [] n20 h0 n0 Z0 cs SC hcs fw SF hfw b20 bv20 FV20 AB20 h320 FK20 EN20 hb20) EN20 (argsL := [.int (0 : Int32)]) (rest := []) pd_5 rfl rfl rfl (hb hby at_50) rfl (by rw [hml]; rfl) e4 (by decide) (W := 0) rfl (by decide) (by decide) (by decide) ?_
      intro v5 T5 Lc5 X5 Q5
      obtain ⟨rfl, e5, rfl⟩ := Q5
      rw [List.append_nil] at X5
      refine g_bipush (q := 55) (v := (49 : Int32)) X5.here hx (hb hby at_53) rfl rfl ?_
      refine g_sel_icmp_ne (q := 63) X5.here hx (hb hby at_55) (by decide) (by decide) rfl (hb hby at_62) (hb hby at_58) (hb hby at_59) rfl (by decide) (by decide) rfl ?_
      rw [show b2i (decide ((50 : Int32).toInt = (49 : Int32).toInt)) = (0 : Int32) from by decide]
      refine g_istore (q := 65) (L' := #[.val (.int a), .val (.int ((a &&& (2147483647 : Int32)) % (3 : Int32))), .val (.ref v20), .val (.int (b2i (decide (((a &&& (2147483647 : Int32)) % (3 : Int32)).toInt ≠ (2 : Int32).toInt)))), .val (.int (0 : Int32))]) X5.here hx (hb hby at_63) rfl rfl ?_
      refine g_aloadN (q := 66) X5.here hx (hb hby at_65) rfl rfl rfl ?_
      refine g_virtual (q := 69) X5 hx hZ hown (hw _ (List.mem_of_getElem? (i := 39) rfl)) (hw _ (List.mem_of_getElem? (i := 40) rfl)) (hw _ (List.mem_of_getElem? (i := 42) rfl)) (hw _ (List.mem_of_getElem? (i := 41) rfl)) (hw _ (List.mem_of_getElem? (i := 2) rfl)) (hw _ (List.mem_of_getElem? (i := 43) rfl)) (by decide) (rm7_0 l Z a0 hw [] v20 h0 n0 Z0 S20) E20 (argsL := []) (rest := []) pd_2 rfl rfl rfl (hb hby at_66) rfl (by rw [hml]; rfl) e5 (by decide) (W := 0) rfl (by decide) (by decide) (by decide) ?_
      intro v6 T6 Lc6 X6 Q6
      obtain ⟨rfl, e6, rfl⟩ := Q6
      rw [List.append_nil] at X6
      refine g_iloadN (q := 70) X6.here hx (hb hby at_69) rfl rfl ?_
      refine g_icmp_ne (q := 83) (q0 := 73) X6.here hx (hb hby at_70) (by decide) (by decide) rfl ?_ ?_
      · intro c7
        refine g_iconst (q := 84) (v := (0 : Int32)) X6.here hx (hb hby at_83) rfl rfl ?_
        exact g_zreturn (b := false) X6 hx hlk hrt (hb hby at_84) (by decide) (by decide) (by exfalso; (try simp only [Int32.reduceToInt, Int64.reduceToInt] at c1); (try simp only [Int32.reduceToInt, Int64.reduceToInt] at c2); (try simp only [Int32.reduceToInt, Int64.reduceToInt] at c7); have f3 := rng32 a; (try simp only [Int32.reduceToInt, Int64.reduceToInt] at f3); have f4 := rng32 (a &&& (2147483647 : Int32)); (try simp only [Int32.reduceToInt, Int64.reduceToInt] at f4); have f5 := c_mask a (2147483647 : Int32) 31 (by decide) (by decide); (try simp only [Int32.reduceToInt, Int64.reduceToInt] at f5); (try have f5e : (a &&& (2147483647 : Int32)).toInt = a.toInt ∨ (a &&& (2147483647 : Int32)).toInt = a.toInt + 2147483648 := (by omega)); have f6 := rng32 ((a &&& (2147483647 : Int32)) % (3 : Int32)); (try simp only [Int32.reduceToInt, Int64.reduceToInt] at f6); have f7 := c_irem (a &&& (2147483647 : Int32)) (3 : Int32) 3 (by decide); (try simp only [Int32.reduceToInt, Int64.reduceToInt] at f7); (try have f7e : ((a &&& (2147483647 : Int32)) % (3 : Int32)).toInt = (a &&& (2147483647 : Int32)).toInt % 3 := (by omega)); have f10 := b2i_dec (P := (((a &&& (2147483647 : Int32)) % (3 : Int32)).toInt ≠ (2 : Int32).toInt)); (try simp only [Int32.reduceToInt, Int64.reduceToInt] at f10); (try simp only [Int32.reduceToInt, Int64.reduceToInt, and_true, true_and, or_true, true_or]); (first | done | omega))
      · intro c7
        refine g_iload (q := 75) X6.here hx (hb hby at_73) rfl rfl ?_
        refine g_iloadN (q := 76) X6.here hx (hb hby at_75) rfl rfl ?_
        refine g_sel_icmp_ne (q := 84) X6.here hx (hb hby at_76) (by decide) (by decide) rfl (hb hby at_83) (hb hby at_79) (hb hby at_80) rfl (by decide) (by decide) rfl ?_
        exact g_zreturn (b := decide ((0 : Int32).toInt = (b2i (decide (((a &&& (2147483647 : Int32)) % (3 : Int32)).toInt ≠ (2 : Int32).toInt))).toInt)) X6 hx hlk hrt (hb hby at_84) (by decide) (by decide) ⟨okB (by first | decide | exact decide_eq_true (by (try simp only [Int32.reduceToInt, Int64.reduceToInt] at c1); (try simp only [Int32.reduceToInt, Int64.reduceToInt] at c2); (try simp only [Int32.reduceToInt, Int64.reduceToInt] at c7); have f3 := rng32 a; (try simp only [Int32.reduceToInt, Int64.reduceToInt] at f3); have f4 := rng32 (a &&& (2147483647 : Int32)); (try simp only [Int32.reduceToInt, Int64.reduceToInt] at f4); have f5 := c_mask a (2147483647 : Int32) 31 (by decide) (by decide); (try simp only [Int32.reduceToInt, Int64.reduceToInt] at f5); (try have f5e : (a &&& (2147483647 : Int32)).toInt = a.toInt ∨ (a &&& (2147483647 : Int32)).toInt = a.toInt + 2147483648 := (by omega)); have f6 := rng32 ((a &&& (2147483647 : Int32)) % (3 : Int32)); (try simp only [Int32.reduceToInt, Int64.reduceToInt] at f6); have f7 := c_irem (a &&& (2147483647 : Int32)) (3 : Int32) 3 (by decide); (try simp only [Int32.reduceToInt, Int64.reduceToInt] at f7); (try have f7e : ((a &&& (2147483647 : Int32)) % (3 : Int32)).toInt = (a &&& (2147483647 : Int32)).toInt % 3 := (by omega)); have f10 := b2i_dec (P := (((a &&& (2147483647 : Int32)) % (3 : Int32)).toInt ≠ (2 : Int32).toInt)); (try simp only [Int32.reduceToInt, Int64.reduceToInt] at f10); (try simp only [Int32.reduceToInt, Int64.reduceToInt, and_true, true_and, or_true, true_or]); (first | done | omega))), N0⟩
    · intro c2
      refine g_getS (q := 26) X0 hx hZ hown (hw _ (List.mem_of_getElem? (i := 47) rfl)) e0 S12 (hb hby at_23) rfl ?_
      intro T8 X8 e8
      refine g_astoreN (q := 27) (L' := #[.val (.int a), .val (.int ((a &&& (2147483647 : Int32)) % (3 : Int32))), .val (.ref v12), .unset, .unset]) X8.here hx (hb hby at_26) rfl rfl rfl ?_
      refine g_goto (q := 34) X8.here hx (hb hby at_27) (by decide) (by decide) ?_
      refine g_iloadN (q := 35) X8.here hx (hb hby at_34) rfl rfl ?_
      refine g_iconst (q := 36) (v := (2 : Int32)) X8.here hx (hb hby at_35) rfl rfl ?_
      refine g_sel_icmp_eq (q := 44) X8.here hx (hb hby at_36) (by decide) (by decide) rfl (hb hby at_43) (hb hby at_39) (hb hby at_40) rfl (by decide) (by decide) rfl ?_
      refine g_istoreN (q := 45) (L' := #[.val (.int a), .val (.int ((a &&& (2147483647 : Int32)) % (3 : Int32))), .val (.ref v12), .val (.int (b2i (decide (((a &&& (2147483647 : Int32)) % (3 : Int32)).toInt ≠ (2 : Int32).toInt)))), .unset]) X8.here hx (hb hby at_44) rfl rfl ?_
      refine g_aloadN (q := 46) X8.here hx (hb hby at_45) rfl rfl rfl ?_
      refine g_virtual (q := 49) X8 hx hZ hown (hw _ (List.mem_of_getElem? (i := 4) rfl)) (hw _ (List.mem_of_getElem? (i := 5) rfl)) (hw _ (List.mem_of_getElem? (i := 7) rfl)) (hw _ (List.mem_of_getElem? (i := 6) rfl)) (hw _ (List.mem_of_getElem? (i := 2) rfl)) (hw _ (List.mem_of_getElem? (i := 8) rfl)) (by decide) (rm1 l Z a0 hw [] v12 h0 n0 Z0 n12 N12) E12 (argsL := []) (rest := []) pd_4 rfl rfl rfl (hb hby at_46) rfl (by rw [hml]; rfl) e8 (by decide) (W := 0) rfl (by decide) (by decide) (by decide) ?_
      intro v9 T9 Lc9 X9 Q9
      obtain ⟨rfl, e9, rfl⟩ := Q9
      rw [List.append_nil] at X9
      refine g_iconst (q := 50) (v := (0 : Int32)) X9.here hx (hb hby at_49) rfl rfl ?_
      refine g_virtual (q := 53) X9 hx hZ hown (hw _ (List.mem_of_getElem? (i := 11) rfl)) (hw _ (List.mem_of_getElem? (i := 12) rfl)) (hw _ (List.mem_of_getElem? (i := 14) rfl)) (hw _ (List.mem_of_getElem? (i := 13) rfl)) (hw _ (List.mem_of_getElem? (i := 15) rfl)) (hw _ (List.mem_of_getElem? (i := 16) rfl)) (by decide) (rm2_49 l Z a0 hw [] n12 h0 n0 Z0 cs SC hcs fw SF hfw b12 bv12 FV12 AB12 h312 FK12 EN12 hb12) EN12 (argsL := [.int (0 : Int32)]) (rest := []) pd_5 rfl rfl rfl (hb hby at_50) rfl (by rw [hml]; rfl) e9 (by decide) (W := 0) rfl (by decide) (by decide) (by decide) ?_
      intro v10 T10 Lc10 X10 Q10
      obtain ⟨rfl, e10, rfl⟩ := Q10
      rw [List.append_nil] at X10
      refine g_bipush (q := 55) (v := (49 : Int32)) X10.here hx (hb hby at_53) rfl rfl ?_
      refine g_sel_icmp_ne (q := 63) X10.here hx (hb hby at_55) (by decide) (by decide) rfl (hb hby at_62) (hb hby at_58) (hb hby at_59) rfl (by decide) (by decide) rfl ?_
      rw [show b2i (decide ((49 : Int32).toInt = (49 : Int32).toInt)) = (1 : Int32) from by decide]
      refine g_istore (q := 65) (L' := #[.val (.int a), .val (.int ((a &&& (2147483647 : Int32)) % (3 : Int32))), .val (.ref v12), .val (.int (b2i (decide (((a &&& (2147483647 : Int32)) % (3 : Int32)).toInt ≠ (2 : Int32).toInt)))), .val (.int (1 : Int32))]) X10.here hx (hb hby at_63) rfl rfl ?_
      refine g_aloadN (q := 66) X10.here hx (hb hby at_65) rfl rfl rfl ?_
      refine g_virtual (q := 69) X10 hx hZ hown (hw _ (List.mem_of_getElem? (i := 39) rfl)) (hw _ (List.mem_of_getElem? (i := 40) rfl)) (hw _ (List.mem_of_getElem? (i := 42) rfl)) (hw _ (List.mem_of_getElem? (i := 41) rfl)) (hw _ (List.mem_of_getElem? (i := 2) rfl)) (hw _ (List.mem_of_getElem? (i := 43) rfl)) (by decide) (rm7_1 l Z a0 hw [] v12 h0 n0 Z0 v20 S20 ne2) E12 (argsL := []) (rest := []) pd_2 rfl rfl rfl (hb hby at_66) rfl (by rw [hml]; rfl) e10 (by decide) (W := 0) rfl (by decide) (by decide) (by decide) ?_
      intro v11 T11 Lc11 X11 Q11
      obtain ⟨rfl, e11, rfl⟩ := Q11
      rw [List.append_nil] at X11
      refine g_iloadN (q := 70) X11.here hx (hb hby at_69) rfl rfl ?_
      refine g_icmp_ne (q := 83) (q0 := 73) X11.here hx (hb hby at_70) (by decide) (by decide) rfl ?_ ?_
      · intro c12
        refine g_iconst (q := 84) (v := (0 : Int32)) X11.here hx (hb hby at_83) rfl rfl ?_
        exact g_zreturn (b := false) X11 hx hlk hrt (hb hby at_84) (by decide) (by decide) (by exfalso; (try simp only [Int32.reduceToInt, Int64.reduceToInt] at c1); (try simp only [Int32.reduceToInt, Int64.reduceToInt] at c2); (try simp only [Int32.reduceToInt, Int64.reduceToInt] at c12); have f3 := rng32 a; (try simp only [Int32.reduceToInt, Int64.reduceToInt] at f3); have f4 := rng32 (a &&& (2147483647 : Int32)); (try simp only [Int32.reduceToInt, Int64.reduceToInt] at f4); have f5 := c_mask a (2147483647 : Int32) 31 (by decide) (by decide); (try simp only [Int32.reduceToInt, Int64.reduceToInt] at f5); (try have f5e : (a &&& (2147483647 : Int32)).toInt = a.toInt ∨ (a &&& (2147483647 : Int32)).toInt = a.toInt + 2147483648 := (by omega)); have f6 := rng32 ((a &&& (2147483647 : Int32)) % (3 : Int32)); (try simp only [Int32.reduceToInt, Int64.reduceToInt] at f6); have f7 := c_irem (a &&& (2147483647 : Int32)) (3 : Int32) 3 (by decide); (try simp only [Int32.reduceToInt, Int64.reduceToInt] at f7); (try have f7e : ((a &&& (2147483647 : Int32)) % (3 : Int32)).toInt = (a &&& (2147483647 : Int32)).toInt % 3 := (by omega)); have f10 := b2i_dec (P := (((a &&& (2147483647 : Int32)) % (3 : Int32)).toInt ≠ (2 : Int32).toInt)); (try simp only [Int32.reduceToInt, Int64.reduceToInt] at f10); (try simp only [Int32.reduceToInt, Int64.reduceToInt, and_true, true_and, or_true, true_or]); (first | done | omega))
      · intro c12
        refine g_iload (q := 75) X11.here hx (hb hby at_73) rfl rfl ?_
        refine g_iloadN (q := 76) X11.here hx (hb hby at_75) rfl rfl ?_
        refine g_sel_icmp_ne (q := 84) X11.here hx (hb hby at_76) (by decide) (by decide) rfl (hb hby at_83) (hb hby at_79) (hb hby at_80) rfl (by decide) (by decide) rfl ?_
        exact g_zreturn (b := decide ((1 : Int32).toInt = (b2i (decide (((a &&& (2147483647 : Int32)) % (3 : Int32)).toInt ≠ (2 : Int32).toInt))).toInt)) X11 hx hlk hrt (hb hby at_84) (by decide) (by decide) ⟨okB (by first | decide | exact decide_eq_true (by (try simp only [Int32.reduceToInt, Int64.reduceToInt] at c1); (try simp only [Int32.reduceToInt, Int64.reduceToInt] at c2); (try simp only [Int32.reduceToInt, Int64.reduceToInt] at c12); have f3 := rng32 a; (try simp only [Int32.reduceToInt, Int64.reduceToInt] at f3); have f4 := rng32 (a &&& (2147483647 : Int32)); (try simp only [Int32.reduceToInt, Int64.reduceToInt] at f4); have f5 := c_mask a (2147483647 : Int32) 31 (by decide) (by decide); (try simp only [Int32.reduceToInt, Int64.reduceToInt] at f5); (try have f5e : (a &&& (2147483647 : Int32)).toInt = a.toInt ∨ (a &&& (2147483647 : Int32)).toInt = a.toInt + 2147483648 := (by omega)); have f6 := rng32 ((a &&& (2147483647 : Int32)) % (3 : Int32)); (try simp only [Int32.reduceToInt, Int64.reduceToInt] at f6); have f7 := c_irem (a &&& (2147483647 : Int32)) (3 : Int32) 3 (by decide); (try simp only [Int32.reduceToInt, Int64.reduceToInt] at f7); (try have f7e : ((a &&& (2147483647 : Int32)) % (3 : Int32)).toInt = (a &&& (2147483647 : Int32)).toInt % 3 := (by omega)); have f10 := b2i_dec (P := (((a &&& (2147483647 : Int32)) % (3 : Int32)).toInt ≠ (2 : Int32).toInt)); (try simp only [Int32.reduceToInt, Int64.reduceToInt] at f10); (try simp only [Int32.reduceToInt, Int64.reduceToInt, and_true, true_and, or_true, true_or]); (first | done | omega))), N0⟩
  · intro c1
    refine g_getS (q := 14) X0 hx hZ hown (hw _ (List.mem_of_getElem? (i := 1) rfl)) e0 S11 (hb hby at_11) rfl ?_
    intro T13 X13 e13
    refine g_astoreN (q := 15) (L' := #[.val (.int a), .val (.int ((a &&& (2147483647 : Int32)) % (3 : Int32))), .val (.ref v11), .unset, .unset]) X13.here hx (hb hby at_14) rfl rfl rfl ?_
    refine g_goto (q := 34) X13.here hx (hb hby at_15) (by decide) (by decide) ?_
    refine g_iloadN (q := 35) X13.here hx (hb hby at_34) rfl rfl ?_
    refine g_iconst (q := 36) (v := (2 : Int32)) X13.here hx (hb hby at_35) rfl rfl ?_
    refine g_sel_icmp_eq (q := 44) X13.here hx (hb hby at_36) (by decide) (by decide) rfl (hb hby at_43) (hb hby at_39) (hb hby at_40) rfl (by decide) (by decide) rfl ?_
    refine g_istoreN (q := 45) (L' := #[.val (.int a), .val (.int ((a &&& (2147483647 : Int32)) % (3 : Int32))), .val (.ref v11), .val (.int (b2i (decide (((a &&& (2147483647 : Int32)) % (3 : Int32)).toInt ≠ (2 : Int32).toInt)))), .unset]) X13.here hx (hb hby at_44) rfl rfl ?_
    refine g_aloadN (q := 46) X13.here hx (hb hby at_45) rfl rfl rfl ?_
    refine g_virtual (q := 49) X13 hx hZ hown (hw _ (List.mem_of_getElem? (i := 4) rfl)) (hw _ (List.mem_of_getElem? (i := 5) rfl)) (hw _ (List.mem_of_getElem? (i := 7) rfl)) (hw _ (List.mem_of_getElem? (i := 6) rfl)) (hw _ (List.mem_of_getElem? (i := 2) rfl)) (hw _ (List.mem_of_getElem? (i := 8) rfl)) (by decide) (rm1 l Z a0 hw [] v11 h0 n0 Z0 n11 N11) E11 (argsL := []) (rest := []) pd_4 rfl rfl rfl (hb hby at_46) rfl (by rw [hml]; rfl) e13 (by decide) (W := 0) rfl (by decide) (by decide) (by decide) ?_
    intro v14 T14 Lc14 X14 Q14
    obtain ⟨rfl, e14, rfl⟩ := Q14
    rw [List.append_nil] at X14
    refine g_iconst (q := 50) (v := (0 : Int32)) X14.here hx (hb hby at_49) rfl rfl ?_
    refine g_virtual (q := 53) X14 hx hZ hown (hw _ (List.mem_of_getElem? (i := 11) rfl)) (hw _ (List.mem_of_getElem? (i := 12) rfl)) (hw _ (List.mem_of_getElem? (i := 14) rfl)) (hw _ (List.mem_of_getElem? (i := 13) rfl)) (hw _ (List.mem_of_getElem? (i := 15) rfl)) (hw _ (List.mem_of_getElem? (i := 16) rfl)) (by decide) (rm2_49 l Z a0 hw [] n11 h0 n0 Z0 cs SC hcs fw SF hfw b11 bv11 FV11 AB11 h311 FK11 EN11 hb11) EN11 (argsL := [.int (0 : Int32)]) (rest := []) pd_5 rfl rfl rfl (hb hby at_50) rfl (by rw [hml]; rfl) e14 (by decide) (W := 0) rfl (by decide) (by decide) (by decide) ?_
    intro v15 T15 Lc15 X15 Q15
    obtain ⟨rfl, e15, rfl⟩ := Q15
    rw [List.append_nil] at X15
    refine g_bipush (q := 55) (v := (49 : Int32)) X15.here hx (hb hby at_53) rfl rfl ?_
    refine g_sel_icmp_ne (q := 63) X15.here hx (hb hby at_55) (by decide) (by decide) rfl (hb hby at_62) (hb hby at_58) (hb hby at_59) rfl (by decide) (by decide) rfl ?_
    rw [show b2i (decide ((49 : Int32).toInt = (49 : Int32).toInt)) = (1 : Int32) from by decide]
    refine g_istore (q := 65) (L' := #[.val (.int a), .val (.int ((a &&& (2147483647 : Int32)) % (3 : Int32))), .val (.ref v11), .val (.int (b2i (decide (((a &&& (2147483647 : Int32)) % (3 : Int32)).toInt ≠ (2 : Int32).toInt)))), .val (.int (1 : Int32))]) X15.here hx (hb hby at_63) rfl rfl ?_
    refine g_aloadN (q := 66) X15.here hx (hb hby at_65) rfl rfl rfl ?_
    refine g_virtual (q := 69) X15 hx hZ hown (hw _ (List.mem_of_getElem? (i := 39) rfl)) (hw _ (List.mem_of_getElem? (i := 40) rfl)) (hw _ (List.mem_of_getElem? (i := 42) rfl)) (hw _ (List.mem_of_getElem? (i := 41) rfl)) (hw _ (List.mem_of_getElem? (i := 2) rfl)) (hw _ (List.mem_of_getElem? (i := 43) rfl)) (by decide) (rm7_1 l Z a0 hw [] v11 h0 n0 Z0 v20 S20 ne1) E11 (argsL := []) (rest := []) pd_2 rfl rfl rfl (hb hby at_66) rfl (by rw [hml]; rfl) e15 (by decide) (W := 0) rfl (by decide) (by decide) (by decide) ?_
    intro v16 T16 Lc16 X16 Q16
    obtain ⟨rfl, e16, rfl⟩ := Q16
    rw [List.append_nil] at X16
    refine g_iloadN (q := 70) X16.here hx (hb hby at_69) rfl rfl ?_
    refine g_icmp_ne (q := 83) (q0 := 73) X16.here hx (hb hby at_70) (by decide) (by decide) rfl ?_ ?_
    · intro c17
      refine g_iconst (q := 84) (v := (0 : Int32)) X16.here hx (hb hby at_83) rfl rfl ?_
      exact g_zreturn (b := false) X16 hx hlk hrt (hb hby at_84) (by decide) (by decide) (by exfalso; (try simp only [Int32.reduceToInt, Int64.reduceToInt] at c1); (try simp only [Int32.reduceToInt, Int64.reduceToInt] at c17); have f3 := rng32 a; (try simp only [Int32.reduceToInt, Int64.reduceToInt] at f3); have f4 := rng32 (a &&& (2147483647 : Int32)); (try simp only [Int32.reduceToInt, Int64.reduceToInt] at f4); have f5 := c_mask a (2147483647 : Int32) 31 (by decide) (by decide); (try simp only [Int32.reduceToInt, Int64.reduceToInt] at f5); (try have f5e : (a &&& (2147483647 : Int32)).toInt = a.toInt ∨ (a &&& (2147483647 : Int32)).toInt = a.toInt + 2147483648 := (by omega)); have f6 := rng32 ((a &&& (2147483647 : Int32)) % (3 : Int32)); (try simp only [Int32.reduceToInt, Int64.reduceToInt] at f6); have f7 := c_irem (a &&& (2147483647 : Int32)) (3 : Int32) 3 (by decide); (try simp only [Int32.reduceToInt, Int64.reduceToInt] at f7); (try have f7e : ((a &&& (2147483647 : Int32)) % (3 : Int32)).toInt = (a &&& (2147483647 : Int32)).toInt % 3 := (by omega)); have f10 := b2i_dec (P := (((a &&& (2147483647 : Int32)) % (3 : Int32)).toInt ≠ (2 : Int32).toInt)); (try simp only [Int32.reduceToInt, Int64.reduceToInt] at f10); (try simp only [Int32.reduceToInt, Int64.reduceToInt, and_true, true_and, or_true, true_or]); (first | done | omega))
    · intro c17
      refine g_iload (q := 75) X16.here hx (hb hby at_73) rfl rfl ?_
      refine g_iloadN (q := 76) X16.here hx (hb hby at_75) rfl rfl ?_
      refine g_sel_icmp_ne (q := 84) X16.here hx (hb hby at_76) (by decide) (by decide) rfl (hb hby at_83) (hb hby at_79) (hb hby at_80) rfl (by decide) (by decide) rfl ?_
      exact g_zreturn (b := decide ((1 : Int32).toInt = (b2i (decide (((a &&& (2147483647 : Int32)) % (3 : Int32)).toInt ≠ (2 : Int32).toInt))).toInt)) X16 hx hlk hrt (hb hby at_84) (by decide) (by decide) ⟨okB (by first | decide | exact decide_eq_true (by (try simp only [Int32.reduceToInt, Int64.reduceToInt] at c1); (try simp only [Int32.reduceToInt, Int64.reduceToInt] at c17); have f3 := rng32 a; (try simp only [Int32.reduceToInt, Int64.reduceToInt] at f3); have f4 := rng32 (a &&& (2147483647 : Int32)); (try simp only [Int32.reduceToInt, Int64.reduceToInt] at f4); have f5 := c_mask a (2147483647 : Int32) 31 (by decide) (by decide); (try simp only [Int32.reduceToInt, Int64.reduceToInt] at f5); (try have f5e : (a &&& (2147483647 : Int32)).toInt = a.toInt ∨ (a &&& (2147483647 : Int32)).toInt = a.toInt + 2147483648 := (by omega)); have f6 := rng32 ((a &&& (2147483647 : Int32)) % (3 : Int32)); (try simp only [Int32.reduceToInt, Int64.reduceToInt] at f6); have f7 := c_irem (a &&& (2147483647 : Int32)) (3 : Int32) 3 (by decide); (try simp only [Int32.reduceToInt, Int64.reduceToInt] at f7); (try have f7e : ((a &&& (2147483647 : Int32)) % (3 : Int32)).toInt = (a &&& (2147483647 : Int32)).toInt % 3 := (by omega)); have f10 := b2i_dec (P := (((a &&& (2147483647 : Int32)) % (3 : Int32)).toInt ≠ (2 : Int32).toInt)); (try simp only [Int32.reduceToInt, Int64.reduceToInt] at f10); (try simp only [Int32.reduceToInt, Int64.reduceToInt, and_true, true_and, or_true, true_or]); (first | done | omega))), N0⟩
section OwnN
variable {args : Array Value} {s : State} {t : Term} {x : Addr} {c : Cell} {ty : FieldType}
theorem own_eqI {a : Term} {k : Int32} (h : (Jvm.Cond.eq a (Term.int k)).value args s none s [] = some true) : a.eval args s none [] s = some (.int k) := by
  obtain ⟨u, w, h1, h2, h3, -⟩ := cmp_v (Or.inl h)
  cases (Term.int_eval k).symm.trans h2
  cases u with
  | int z => 
    have : (Jvm.Cond.eq a (Term.int k)).value args s none s [] = some (decide (z = k)) := by simp [Cond.value, h1, Term.int_eval]
    rw [this] at h
    rw [h1, of_decide_eq_true (Option.some.inj h)]
  | _ => simp [Kin, Value.isRef] at h3
theorem own_len {k : Int32} (h : (Jvm.Cond.eq (Term.length t) (Term.int k)).value args s none s [] = some true) (ht : t.eval args s none [] s = some (.ref x)) (A : Arr s s.heap x c ty) : c.slots.size < 2 ^ 31 ∧ c.slots.size.toInt32 = k := by
  have h1 := own_eqI h
  by_cases hl : c.slots.size < 2 ^ 31
  · rw [len_f ht (A.fin (Vm.Alike.refl _)) hl] at h1
    exact ⟨hl, by cases h1; rfl⟩
  · simp [Term.eval, ht, A.fin (Vm.Alike.refl _), hl] at h1
theorem own_elem {i k : Int32} (h : (Jvm.Cond.eq (Term.elem t (Term.int i)) (Term.int k)).value args s none s [] = some true) (ht : t.eval args s none [] s = some (.ref x)) (A : Arr s s.heap x c ty) : c.slots[i.toNatClampNeg]? = some (.int k) :=
  (elem_in (own_eqI h) ht (Term.int_eval i) A.1).2
theorem own_neq {a : Term} {k z : Int32} (h : (Jvm.Cond.not (Jvm.Cond.eq a (Term.int k))).value args s none s [] = some true) (ha : a.eval args s none [] s = some (.int z)) : z ≠ k := fun e => by
  have h1 := not_v h
  subst e
  simp [Cond.value, ha, Term.int_eval] at h1
theorem own_bytes (A : Arr s s.heap x c .byte) (h : c.slots.size < 2 ^ 31 ∧ c.slots.size.toInt32 = 3) : Exists fun bv : List Value => bv = c.slots.toList ∧ bv.length = 3 := by
  refine ⟨_, rfl, ?_⟩
  have h1 := len_toInt h.1
  rw [h.2, show (3 : Int32).toInt = 3 from rfl] at h1
  rw [Array.length_toList]; omega
end OwnN
set_option maxRecDepth 65536 in
set_option maxHeartbeats 40000000 in
theorem comes_1 {Post : Tables → Env → Array Value → State → Outcome → State → Prop} (hpost : ∀ tb e args s v u, (limb_1_1.after args s (.returned v) u = true ∧ limb_1_2.after args s (.returned v) u = true ∧ True) → FrameEnd s (.returned v) u (Jvm.fieldLocs frame_1_writes args s ++ Jvm.arrayLocs frame_1_arrays args s ++ Jvm.staticLocs frame_1_statics s) 0 0 → Post tb e args s (.returned v) u) :
    ArmFor flags0 classFile x code maxLocals ret World_1 tables_1 room_1 Calls_1 rest_1 Pre_1 Post := by
  intro l hfl _ _ p e ha hc hk s m args below hf hA hF happ hP
  obtain ⟨hcalls, hrest, hpre⟩ := hP
  obtain ⟨-, -, -, hnamed, -, -, -, hat⟩ := (Spec.applies_iff hf).mp happ
  obtain ⟨hg, hn⟩ := and_e (Cond.before_iff.mp (show (Jvm.Cond.and given_1 narrow_1).before args s = true from hpre))
  obtain ⟨g1, g2⟩ := and_e hg
  obtain ⟨w0, rfl⟩ : ∃ w0 : Value, args = #[w0] := by
    have hs : args.size = 1 := by simpa [Cond.value, given_1] using g1
    obtain ⟨L⟩ := args
    match L, hs with
    | [w0], _ => exact ⟨w0, rfl⟩
  have hw := fun d (hd : d ∈ tables_1) => atoms_spec (ws := Jvm.Cond.code x code maxLocals ret :: tables_1) hat d (List.mem_cons_of_mem _ hd)
  obtain ⟨i0, ei0⟩ := is_v g2
  obtain rfl : w0 = (.int i0) := Option.some.inj ei0
  obtain ⟨nw0, hn⟩ := and_e hn
  obtain ⟨nw1, hn⟩ := and_e hn
  obtain ⟨nw2, hn⟩ := and_e hn
  obtain ⟨nw3, hn⟩ := and_e hn
  obtain ⟨nw4, hn⟩ := and_e hn
  obtain ⟨nw5, hn⟩ := and_e hn
  obtain ⟨nw6, hn⟩ := and_e hn
  obtain ⟨nw7, hn⟩ := and_e hn
  obtain ⟨nw8, hn⟩ := and_e hn
  obtain ⟨nw9, hn⟩ := and_e hn
  obtain ⟨nw10, hn⟩ := and_e hn
  obtain ⟨nw11, hn⟩ := and_e hn
  obtain ⟨nw12, hn⟩ := and_e hn
  obtain ⟨nw13, hn⟩ := and_e hn
  obtain ⟨nw14, hn⟩ := and_e hn
  obtain ⟨nw15, hn⟩ := and_e hn
  obtain ⟨nw16, hn⟩ := and_e hn
  obtain ⟨nw17, hn⟩ := and_e hn
  obtain ⟨nw18, hn⟩ := and_e hn
  obtain ⟨nw19, hn⟩ := and_e hn
  obtain ⟨nw20, hn⟩ := and_e hn
  obtain ⟨nw21, hn⟩ := and_e hn
  obtain ⟨nw22, hn⟩ := and_e hn
  obtain ⟨nw23, hn⟩ := and_e hn
  obtain ⟨nw24, hn⟩ := and_e hn
  obtain ⟨nw25, hn⟩ := and_e hn
  have nw26 := hn
  obtain ⟨hsets, hown0⟩ := atoms_of _ (rest_1_c_eq ▸ (show rest_1_c.before _ s = true from hrest))
  obtain ⟨cs, ecs⟩ := is_v (Cond.before_iff.mp (hsets _ (List.mem_of_getElem? (i := 1) rfl)))
  have SC := Sta.start ecs (Or.inl (hsets _ (List.mem_of_getElem? (i := 0) rfl)))
  have hcs : cs.toInt ≠ 0 := fun h => own_neq (Cond.before_iff.mp (hsets _ (List.mem_of_getElem? (i := 2) rfl))) ecs (Int32.toInt_inj.mp h)
  obtain ⟨fw, efw, hfw⟩ := isR_v (Cond.before_iff.mp (hsets _ (List.mem_of_getElem? (i := 8) rfl)))
  have SF := Sta.start efw (Or.inl (hsets _ (List.mem_of_getElem? (i := 7) rfl)))
  obtain ⟨v11, ev11⟩ := exa_v nw0
  have S11 := Sta.start ev11 (Or.inr ⟨(hw _ (List.mem_of_getElem? (i := 2) rfl)), (hw _ (List.mem_of_getElem? (i := 3) rfl))⟩)
  have E11 := Exa.start ev11 nw0
  obtain ⟨n11, en11⟩ := exa_v nw1
  have N11 := Fld.start ((fld_at ev11).symm.trans en11)
  have EN11 := Exa.start en11 nw1
  obtain ⟨b11, eb11⟩ := arr_v nw3
  have FV11 := Fld.start ((fld_at en11).symm.trans eb11)
  obtain ⟨c11, A11⟩ := Arr.start eb11 nw3
  have l11 := own_len nw4 eb11 A11
  obtain ⟨bv11, hbv11, h311⟩ := own_bytes A11 l11
  have AB11 : ArrL s s.heap b11 .byte bv11 := ⟨c11, A11, by rw [hbv11], by rw [h311]; decide⟩
  have hb11 : bv11[0]? = some (.int (49 : Int32)) := by rw [hbv11, Array.getElem?_toList]; exact own_elem nw5 eb11 A11
  have FK11 := Fld.start ((fld_at en11).symm.trans (own_eqI nw2))
  have O11 := Fld.start ((fld_at ev11).symm.trans (own_eqI nw7))
  obtain ⟨v12, ev12⟩ := exa_v nw14
  have S12 := Sta.start ev12 (Or.inr ⟨(hw _ (List.mem_of_getElem? (i := 2) rfl)), (hw _ (List.mem_of_getElem? (i := 48) rfl))⟩)
  have E12 := Exa.start ev12 nw14
  obtain ⟨n12, en12⟩ := exa_v nw15
  have N12 := Fld.start ((fld_at ev12).symm.trans en12)
  have EN12 := Exa.start en12 nw15
  obtain ⟨b12, eb12⟩ := arr_v nw17
  have FV12 := Fld.start ((fld_at en12).symm.trans eb12)
  obtain ⟨c12, A12⟩ := Arr.start eb12 nw17
  have l12 := own_len nw18 eb12 A12
  obtain ⟨bv12, hbv12, h312⟩ := own_bytes A12 l12
  have AB12 : ArrL s s.heap b12 .byte bv12 := ⟨c12, A12, by rw [hbv12], by rw [h312]; decide⟩
  have hb12 : bv12[0]? = some (.int (49 : Int32)) := by rw [hbv12, Array.getElem?_toList]; exact own_elem nw19 eb12 A12
  have FK12 := Fld.start ((fld_at en12).symm.trans (own_eqI nw16))
  have O12 := Fld.start ((fld_at ev12).symm.trans (own_eqI nw20))
  obtain ⟨v20, ev20⟩ := exa_v nw6
  have S20 := Sta.start ev20 (Or.inr ⟨(hw _ (List.mem_of_getElem? (i := 2) rfl)), (hw _ (List.mem_of_getElem? (i := 45) rfl))⟩)
  have E20 := Exa.start ev20 nw6
  obtain ⟨n20, en20⟩ := exa_v nw9
  have N20 := Fld.start ((fld_at ev20).symm.trans en20)
  have EN20 := Exa.start en20 nw9
  obtain ⟨b20, eb20⟩ := arr_v nw11
  have FV20 := Fld.start ((fld_at en20).symm.trans eb20)
  obtain ⟨c20, A20⟩ := Arr.start eb20 nw11
  have l20 := own_len nw12 eb20 A20
  obtain ⟨bv20, hbv20, h320⟩ := own_bytes A20 l20
  have AB20 : ArrL s s.heap b20 .byte bv20 := ⟨c20, A20, by rw [hbv20], by rw [h320]; decide⟩
  have hb20 : bv20[0]? = some (.int (50 : Int32)) := by rw [hbv20, Array.getElem?_toList]; exact own_elem nw13 eb20 A20
  have FK20 := Fld.start ((fld_at en20).symm.trans (own_eqI nw10))
  have O20 := Fld.start ((fld_at ev20).symm.trans (own_eqI nw8))
  have ne1 : v11 ≠ v20 := Fld.ne O11 O20 (by decide)
  have ne2 : v12 ≠ v20 := Fld.ne O12 O20 (by decide)
  obtain ⟨n, o, h1, h2, h3, _, L, rfl, ⟨rfl, N⟩, hq⟩ := rm0 l s _ hw tables_1 i0 s.heap s.heap.size (Nat.le_refl _) cs SC hcs fw SF hfw v11 n11 b11 bv11 S11 E11 N11 EN11 FV11 FK11 AB11 h311 hb11 v12 n12 b12 bv12 S12 E12 N12 EN12 FV12 FK12 AB12 h312 hb12 v20 n20 b20 bv20 S20 E20 N20 EN20 FV20 FK20 AB20 h320 hb20 ne1 ne2 p e ha hc hk s m _ below hf ((Spec.applies_iff_loose hf).mp happ).1 ⟨rfl, State.Warmed39.refl s, rfl⟩ trivial
  refine ⟨n, _, h1, h2, h3, hpost _ _ _ _ _ _ ⟨Cond.after_iff.mpr rfl, Cond.after_iff.mpr (eq_i res_at (Term.int_eval (1)) rfl), trivial⟩ ⟨hq.1, hq.2.1, (hq.2.2.sift fun y hy => Or.inr (N y hy)).mono (by decide) (by decide)⟩⟩
theorem main_1_1 : Claimed_1_1 := comes_1 fun _ _ _ _ _ _ h hF => ⟨h.1, hF⟩
theorem main_1_2 : Claimed_1_2 := comes_1 fun _ _ _ _ _ _ h hF => ⟨h.2.1, hF⟩
end Jvm.Pilot.@@N@@
namespace Jvm.Pilot.@@N@@
open Jvm Jvm.ClassFile Sem Op Lib Jvm.Free Jvm.Stand Jvm.Pilot.@@N@@.Jvm.D
/-! MADE BY PROGRAM (witnessworld.py) out of the Statement's table words and the real class files: 18 classes; the members and pool entries that the words name. The judged class is class 1, her method 1. -/
namespace start1
open Jvm.ClassFile
def u (s : String) : CpInfo := .utf8 (stringToUtf16 s)
/-- a pool by its gaps: so many unusable entries, then the entry; so many at the end -/
def gap : Nat → List CpInfo → List CpInfo
  | 0, r => r
  | n + 1, r => .unusable :: gap n r
def poolList (es : List (Nat × CpInfo)) (last : Nat) : List CpInfo := es.foldr (fun e r => gap e.1 (e.2 :: r)) (gap last [])
def pool (es : List (Nat × CpInfo)) (last : Nat) : Array CpInfo := ⟨poolList es last⟩
def fileOf (pool : Array CpInfo) (this : Nat) (attrs : Array Attribute := #[]) (ms : Array MethodInfo := #[]) (fl : Nat := 33) (sup : Nat := 0) (ifs : Array Nat := #[]) (fds : Array FieldInfo := #[]) : ClassFile where
  minorVersion := 0
  majorVersion := 65
  constantPool := pool
  accessFlags := fl
  thisClass := this
  superClass := sup
  interfaces := ifs
  fields := fds
  methods := ms
  attributes := attrs
def plain (name : String) (sup : Option ClassId) : Class where
  name := name
  kind := .ordinary
  loader := none
  accessFlags := 33
  super := sup
  interfaces := #[]
  cf := none
  fields := #[]
  methods := #[]
  instanceTypes := #[]
  staticTypes := #[]
  resolved := #[]
  callSites := []
  init := .initialized
  statics := none
  mirror := none

def pool0 : Array CpInfo := pool [(5, u "<init>"), (0, u "()V"), (1, .class_ 10), (1, u "java/lang/Object")] 113

def k0m0 : Method := { name := "<init>", desc := "()V", sig := { parameters := [], returnType := none }, accessFlags := 1, code := none }
/-- java/lang/Object -/
def k0 : Class := { plain "java/lang/Object" none with
  accessFlags := 33
  interfaces := #[]
  cf := some (fileOf pool0 8 #[] #[{ accessFlags := 1, nameIndex := 5, descriptorIndex := 6, attributes := #[] }] 33 0 #[] #[])
  fields := #[]
  methods := #[k0m0]
  instanceTypes := #[]
  staticTypes := #[]
  resolved := Array.replicate 124 none
  statics := none }

def pool1 : Array CpInfo := pool [(2, .class_ 4), (1, u "java/lang/Object"), (0, u "<init>"), (0, u "()V"), (0, .integer 2147483647), (0, .fieldref 9 10), (0, .class_ 11), (0, .nameAndType 12 13), (0, u "com/example/lexwalk/lexwalk/sru/SruVersion"), (0, u "V1_1"), (0, u "Lcom/example/lexwalk/lexwalk/sru/SruVersion;"), (0, .fieldref 9 15), (0, .nameAndType 16 13), (0, u "V1_2"), (0, .fieldref 9 18), (0, .nameAndType 19 13), (0, u "V2_0"), (0, .methodref 9 21), (0, .nameAndType 22 23), (0, u "number"), (0, u "()Ljava/lang/String;"), (0, .methodref 25 26), (0, .class_ 27), (0, .nameAndType 28 29), (0, u "java/lang/String"), (0, u "charAt"), (0, u "(I)C"), (0, .methodref 9 31), (0, .nameAndType 32 33), (0, u "requiresOperation"), (0, u "()Z"), (0, .class_ 35), (0, u "com/example/lexwalk/lexwalk/sru/SruVersionRequiresOperationPinLaw"), (2, u "law"), (0, u "(I)Z")] 3

def k1m0 : Method := { name := "<init>", desc := "()V", sig := { parameters := [], returnType := none }, accessFlags := 2, code := none }
def k1c1 : Code := { maxStack := 2, maxLocals := 5, code := code, exceptionTable := #[], attributes := #[] }
def k1m1 : Method := { name := "law", desc := "(I)Z", sig := { parameters := [.int], returnType := some .boolean }, accessFlags := 9, code := some k1c1 }
/-- com/example/lexwalk/lexwalk/sru/SruVersionRequiresOperationPinLaw -/
def k1 : Class := { plain "com/example/lexwalk/lexwalk/sru/SruVersionRequiresOperationPinLaw" (some 0) with
  accessFlags := 49
  interfaces := #[]
  cf := some (fileOf pool1 34 #[] #[{ accessFlags := 2, nameIndex := 5, descriptorIndex := 6, attributes := #[] }, { accessFlags := 9, nameIndex := 38, descriptorIndex := 39, attributes := #[] }] 49 2 #[] #[])
  fields := #[]
  methods := #[k1m0, k1m1]
  instanceTypes := #[]
  staticTypes := #[]
  resolved := Array.replicate 43 none
  statics := none }

def pool2 : Array CpInfo := pool [(1, .class_ 2), (0, u "java/lang/constant/Constable"), (0, .class_ 4), (0, u "java/lang/Object")] 6

/-- java/lang/constant/Constable -/
def k2 : Class := { plain "java/lang/constant/Constable" (some 0) with
  accessFlags := 1537
  interfaces := #[]
  cf := some (fileOf pool2 1 #[] #[] 1537 3 #[] #[])
  fields := #[]
  methods := #[]
  instanceTypes := #[]
  staticTypes := #[]
  resolved := Array.replicate 11 none
  statics := none }

def pool3 : Array CpInfo := pool [(1, .class_ 2), (0, u "java/lang/Comparable"), (0, .class_ 4), (0, u "java/lang/Object")] 7

/-- java/lang/Comparable -/
def k3 : Class := { plain "java/lang/Comparable" (some 0) with
  accessFlags := 1537
  interfaces := #[]
  cf := some (fileOf pool3 1 #[] #[] 1537 3 #[] #[])
  fields := #[]
  methods := #[]
  instanceTypes := #[]
  staticTypes := #[]
  resolved := Array.replicate 12 none
  statics := none }

def pool4 : Array CpInfo := pool [(1, .class_ 2), (0, u "java/io/Serializable"), (0, .class_ 4), (0, u "java/lang/Object")] 2

/-- java/io/Serializable -/
def k4 : Class := { plain "java/io/Serializable" (some 0) with
  accessFlags := 1537
  interfaces := #[]
  cf := some (fileOf pool4 1 #[] #[] 1537 3 #[] #[])
  fields := #[]
  methods := #[]
  instanceTypes := #[]
  staticTypes := #[]
  resolved := Array.replicate 7 none
  statics := none }

def pool5 : Array CpInfo := pool [(2, .class_ 4), (1, u "java/lang/Enum"), (0, u "name"), (0, u "Ljava/lang/String;"), (2, u "ordinal"), (0, u "I"), (1, .class_ 14), (1, u "java/lang/Object"), (4, u "hash"), (86, .class_ 108), (1, u "java/lang/Enum$EnumDesc"), (2, .class_ 112), (0, u "java/lang/constant/Constable"), (0, .class_ 114), (0, u "java/lang/Comparable"), (0, .class_ 116), (0, u "java/io/Serializable")] 87

/-- java/lang/Enum -/
def k5 : Class := { plain "java/lang/Enum" (some 0) with
  accessFlags := 1057
  interfaces := #[2, 3, 4]
  cf := some (fileOf pool5 2 #[.nestMembers #[106]] #[] 1057 12 #[111, 113, 115] #[{ accessFlags := 18, nameIndex := 5, descriptorIndex := 6, attributes := #[] }, { accessFlags := 18, nameIndex := 9, descriptorIndex := 10, attributes := #[] }, { accessFlags := 2, nameIndex := 19, descriptorIndex := 10, attributes := #[] }])
  fields := #[{ name := "name", type := (.object "java/lang/String"), accessFlags := 18, slot := 0, constantValue := 0 }, { name := "ordinal", type := .int, accessFlags := 18, slot := 1, constantValue := 0 }, { name := "hash", type := .int, accessFlags := 2, slot := 2, constantValue := 0 }]
  methods := #[]
  instanceTypes := #[(.object "java/lang/String"), .int, .int]
  staticTypes := #[]
  resolved := Array.replicate 204 none
  statics := none }

def pool6 : Array CpInfo := pool [(1, .class_ 2), (0, u "com/example/lexwalk/lexwalk/sru/SruVersion"), (2, u "V1_1"), (0, u "Lcom/example/lexwalk/lexwalk/sru/SruVersion;"), (2, u "V1_2"), (0, .fieldref 1 11), (0, .nameAndType 12 6), (0, u "V2_0"), (2, u "$VALUES"), (0, u "[Lcom/example/lexwalk/lexwalk/sru/SruVersion;"), (6, .class_ 25), (1, u "java/lang/Enum"), (6, .fieldref 1 33), (0, .nameAndType 34 35), (0, u "number"), (0, u "Ljava/lang/String;"), (2, u "scanNamespace"), (2, u "explainNamespace"), (2, u "diagnosticNamespace"), (2, u "recordPacking"), (2, u "contentType"), (28, .class_ 80), (0, u "com/example/lexwalk/lexwalk/sru/SruVersion$Sru1"), (30, u "PARAMETER"), (13, u "()Ljava/lang/String;"), (1, u "()Z"), (0, u "requiresOperation")] 9

def k6c0 : Code := { maxStack := 1, maxLocals := 1, code := prog_45_method_5_code, exceptionTable := #[], attributes := #[] }
def k6m0 : Method := { name := "number", desc := "()Ljava/lang/String;", sig := { parameters := [], returnType := some (.object "java/lang/String") }, accessFlags := 1, code := some k6c0 }
def k6c1 : Code := { maxStack := 2, maxLocals := 1, code := prog_45_method_12_code, exceptionTable := #[], attributes := #[] }
def k6m1 : Method := { name := "requiresOperation", desc := "()Z", sig := { parameters := [], returnType := some .boolean }, accessFlags := 1, code := some k6c1 }
/-- com/example/lexwalk/lexwalk/sru/SruVersion -/
def k6 : Class := { plain "com/example/lexwalk/lexwalk/sru/SruVersion" (some 5) with
  accessFlags := 16433
  interfaces := #[]
  cf := some (fileOf pool6 1 #[.nestMembers #[79]] #[{ accessFlags := 1, nameIndex := 34, descriptorIndex := 125, attributes := #[] }, { accessFlags := 1, nameIndex := 128, descriptorIndex := 127, attributes := #[] }] 16433 23 #[] #[{ accessFlags := 16409, nameIndex := 5, descriptorIndex := 6, attributes := #[] }, { accessFlags := 16409, nameIndex := 9, descriptorIndex := 6, attributes := #[] }, { accessFlags := 16409, nameIndex := 12, descriptorIndex := 6, attributes := #[] }, { accessFlags := 25, nameIndex := 111, descriptorIndex := 35, attributes := #[] }, { accessFlags := 18, nameIndex := 34, descriptorIndex := 35, attributes := #[] }, { accessFlags := 18, nameIndex := 38, descriptorIndex := 35, attributes := #[] }, { accessFlags := 18, nameIndex := 41, descriptorIndex := 35, attributes := #[] }, { accessFlags := 18, nameIndex := 44, descriptorIndex := 35, attributes := #[] }, { accessFlags := 18, nameIndex := 47, descriptorIndex := 35, attributes := #[] }, { accessFlags := 18, nameIndex := 50, descriptorIndex := 35, attributes := #[] }, { accessFlags := 4122, nameIndex := 15, descriptorIndex := 16, attributes := #[] }])
  fields := #[{ name := "V1_1", type := (.object "com/example/lexwalk/lexwalk/sru/SruVersion"), accessFlags := 16409, slot := 0, constantValue := 0 }, { name := "V1_2", type := (.object "com/example/lexwalk/lexwalk/sru/SruVersion"), accessFlags := 16409, slot := 1, constantValue := 0 }, { name := "V2_0", type := (.object "com/example/lexwalk/lexwalk/sru/SruVersion"), accessFlags := 16409, slot := 2, constantValue := 0 }, { name := "PARAMETER", type := (.object "java/lang/String"), accessFlags := 25, slot := 3, constantValue := 0 }, { name := "number", type := (.object "java/lang/String"), accessFlags := 18, slot := 3, constantValue := 0 }, { name := "scanNamespace", type := (.object "java/lang/String"), accessFlags := 18, slot := 4, constantValue := 0 }, { name := "explainNamespace", type := (.object "java/lang/String"), accessFlags := 18, slot := 5, constantValue := 0 }, { name := "diagnosticNamespace", type := (.object "java/lang/String"), accessFlags := 18, slot := 6, constantValue := 0 }, { name := "recordPacking", type := (.object "java/lang/String"), accessFlags := 18, slot := 7, constantValue := 0 }, { name := "contentType", type := (.object "java/lang/String"), accessFlags := 18, slot := 8, constantValue := 0 }, { name := "$VALUES", type := (.array (.object "com/example/lexwalk/lexwalk/sru/SruVersion")), accessFlags := 4122, slot := 4, constantValue := 0 }]
  methods := #[k6m0, k6m1]
  instanceTypes := #[(.object "java/lang/String"), .int, .int, (.object "java/lang/String"), (.object "java/lang/String"), (.object "java/lang/String"), (.object "java/lang/String"), (.object "java/lang/String"), (.object "java/lang/String")]
  staticTypes := #[(.object "com/example/lexwalk/lexwalk/sru/SruVersion"), (.object "com/example/lexwalk/lexwalk/sru/SruVersion"), (.object "com/example/lexwalk/lexwalk/sru/SruVersion"), (.object "java/lang/String"), (.array (.object "com/example/lexwalk/lexwalk/sru/SruVersion"))]
  resolved := Array.replicate 138 none
  statics := some 0 }

def pool7 : Array CpInfo := pool [(2, .class_ 4), (1, u "java/lang/CharSequence"), (42, .class_ 48), (0, u "java/lang/CharSequence$1CodePointIterator"), (10, .class_ 60), (0, u "java/lang/CharSequence$1CharIterator"), (5, .class_ 67), (0, u "java/lang/Object")] 63

/-- java/lang/CharSequence -/
def k7 : Class := { plain "java/lang/CharSequence" (some 0) with
  accessFlags := 1537
  interfaces := #[]
  cf := some (fileOf pool7 2 #[.nestMembers #[47, 59]] #[] 1537 66 #[] #[])
  fields := #[]
  methods := #[]
  instanceTypes := #[]
  staticTypes := #[]
  resolved := Array.replicate 131 none
  statics := none }

def pool8 : Array CpInfo := pool [(1, .class_ 2), (0, u "java/lang/constant/ConstantDesc"), (0, .class_ 4), (0, u "java/lang/Object")] 32

/-- java/lang/constant/ConstantDesc -/
def k8 : Class := { plain "java/lang/constant/ConstantDesc" (some 0) with
  accessFlags := 1537
  interfaces := #[]
  cf := some (fileOf pool8 1 #[] #[] 1537 3 #[] #[])
  fields := #[]
  methods := #[]
  instanceTypes := #[]
  staticTypes := #[]
  resolved := Array.replicate 37 none
  statics := none }

def pool9 : Array CpInfo := pool [(2, .class_ 4), (1, u "java/lang/Object"), (0, u "<init>"), (0, u "()V"), (2, .fieldref 10 11), (0, .class_ 12), (0, .nameAndType 13 14), (0, u "java/lang/String"), (0, u "value"), (0, u "[B"), (0, .fieldref 10 16), (0, .nameAndType 17 18), (0, u "coder"), (0, u "B"), (2, u "hash"), (0, u "I"), (2, u "hashIsZero"), (0, u "Z"), (11, .fieldref 10 39), (0, .nameAndType 40 26), (0, u "COMPACT_STRINGS"), (66, .class_ 109), (1, u "java/lang/StringLatin1"), (32, u "()Z"), (220, u "([BI)C"), (27, u "(II)V"), (35, u "(I)C"), (64, .methodref 10 493), (0, .nameAndType 494 142), (0, u "isLatin1"), (0, .methodref 107 496), (0, .nameAndType 497 363), (0, u "charAt"), (3, u "checkIndex"), (73, .class_ 576), (0, u "java/lang/CharSequence"), (22, u "CASE_INSENSITIVE_ORDER"), (0, u "Ljava/util/Comparator;"), (452, .fieldref 1054 1055), (0, .class_ 1056), (0, .nameAndType 1057 1058), (0, u "jdk/internal/util/Preconditions"), (0, u "SIOOBE_FORMATTER"), (0, u "Ljava/util/function/BiFunction;"), (0, .methodref 1054 1060), (0, .nameAndType 501 1061), (0, u "(IILjava/util/function/BiFunction;)I"), (39, u "serialPersistentFields"), (0, u "[Ljava/io/ObjectStreamField;"), (0, .class_ 1104), (0, u "java/lang/String$CaseInsensitiveComparator"), (1, .class_ 1107), (0, u "java/io/Serializable"), (0, .class_ 1109), (0, u "java/lang/Comparable"), (0, .class_ 1111), (0, u "java/lang/constant/Constable"), (0, .class_ 1113), (0, u "java/lang/constant/ConstantDesc"), (2, u "serialVersionUID"), (0, u "J"), (3, u "REPL"), (0, u "C"), (2, u "LATIN1"), (1, u "UTF16")] 323

def k9m0 : Method := { name := "<init>", desc := "()V", sig := { parameters := [], returnType := none }, accessFlags := 1, code := none }
def k9c1 : Code := { maxStack := 2, maxLocals := 2, code := jdk_42_method_56_code, exceptionTable := #[], attributes := #[] }
def k9m1 : Method := { name := "charAt", desc := "(I)C", sig := { parameters := [.int], returnType := some .char }, accessFlags := 1, code := some k9c1 }
def k9c2 : Code := { maxStack := 1, maxLocals := 1, code := jdk_42_method_154_code, exceptionTable := #[], attributes := #[] }
def k9m2 : Method := { name := "isLatin1", desc := "()Z", sig := { parameters := [], returnType := some .boolean }, accessFlags := 0, code := some k9c2 }
def k9c3 : Code := { maxStack := 3, maxLocals := 2, code := jdk_42_method_155_code, exceptionTable := #[], attributes := #[] }
def k9m3 : Method := { name := "checkIndex", desc := "(II)V", sig := { parameters := [.int, .int], returnType := none }, accessFlags := 8, code := some k9c3 }
/-- java/lang/String -/
def k9 : Class := { plain "java/lang/String" (some 0) with
  accessFlags := 49
  interfaces := #[4, 3, 7, 2, 8]
  cf := some (fileOf pool9 10 #[.nestMembers #[1103]] #[{ accessFlags := 1, nameIndex := 5, descriptorIndex := 6, attributes := #[] }, { accessFlags := 1, nameIndex := 497, descriptorIndex := 427, attributes := #[] }, { accessFlags := 0, nameIndex := 494, descriptorIndex := 142, attributes := #[] }, { accessFlags := 8, nameIndex := 501, descriptorIndex := 391, attributes := #[] }] 49 2 #[1106, 1108, 575, 1110, 1112] #[{ accessFlags := 18, nameIndex := 13, descriptorIndex := 14, attributes := #[] }, { accessFlags := 18, nameIndex := 17, descriptorIndex := 18, attributes := #[] }, { accessFlags := 2, nameIndex := 21, descriptorIndex := 22, attributes := #[] }, { accessFlags := 2, nameIndex := 25, descriptorIndex := 26, attributes := #[] }, { accessFlags := 26, nameIndex := 1116, descriptorIndex := 1117, attributes := #[] }, { accessFlags := 24, nameIndex := 40, descriptorIndex := 26, attributes := #[] }, { accessFlags := 26, nameIndex := 1101, descriptorIndex := 1102, attributes := #[] }, { accessFlags := 26, nameIndex := 1121, descriptorIndex := 1122, attributes := #[] }, { accessFlags := 25, nameIndex := 599, descriptorIndex := 600, attributes := #[] }, { accessFlags := 24, nameIndex := 1125, descriptorIndex := 18, attributes := #[] }, { accessFlags := 24, nameIndex := 1127, descriptorIndex := 18, attributes := #[] }])
  fields := #[{ name := "value", type := (.array .byte), accessFlags := 18, slot := 0, constantValue := 0 }, { name := "coder", type := .byte, accessFlags := 18, slot := 1, constantValue := 0 }, { name := "hash", type := .int, accessFlags := 2, slot := 2, constantValue := 0 }, { name := "hashIsZero", type := .boolean, accessFlags := 2, slot := 3, constantValue := 0 }, { name := "serialVersionUID", type := .long, accessFlags := 26, slot := 0, constantValue := 0 }, { name := "COMPACT_STRINGS", type := .boolean, accessFlags := 24, slot := 1, constantValue := 0 }, { name := "serialPersistentFields", type := (.array (.object "java/io/ObjectStreamField")), accessFlags := 26, slot := 2, constantValue := 0 }, { name := "REPL", type := .char, accessFlags := 26, slot := 3, constantValue := 0 }, { name := "CASE_INSENSITIVE_ORDER", type := (.object "java/util/Comparator"), accessFlags := 25, slot := 4, constantValue := 0 }, { name := "LATIN1", type := .byte, accessFlags := 24, slot := 5, constantValue := 0 }, { name := "UTF16", type := .byte, accessFlags := 24, slot := 6, constantValue := 0 }]
  methods := #[k9m0, k9m1, k9m2, k9m3]
  instanceTypes := #[(.array .byte), .byte, .int, .boolean]
  staticTypes := #[.long, .boolean, (.array (.object "java/io/ObjectStreamField")), .char, (.object "java/util/Comparator"), .byte, .byte]
  resolved := Array.replicate 1451 none
  statics := some 1 }

def pool10 : Array CpInfo := pool [(1, .class_ 2), (0, u "java/lang/String"), (1, .class_ 6), (1, u "java/lang/Object"), (0, u "<init>"), (0, u "()V"), (0, .methodref 1 10), (0, .nameAndType 11 12), (0, u "checkIndex"), (0, u "(II)V"), (1, .class_ 16), (1, u "java/lang/StringLatin1"), (36, u "([BI)C"), (67, u "$assertionsDisabled"), (0, u "Z"), (98, .class_ 223), (1, u "java/lang/StringLatin1$LinesSpliterator"), (28, u "charAt"), (137, .class_ 391), (0, u "java/lang/StringLatin1$CharsSpliterator")] 3

def k10m0 : Method := { name := "<init>", desc := "()V", sig := { parameters := [], returnType := none }, accessFlags := 0, code := none }
def k10c1 : Code := { maxStack := 2, maxLocals := 2, code := jdk_43_method_2_code, exceptionTable := #[], attributes := #[] }
def k10m1 : Method := { name := "charAt", desc := "([BI)C", sig := { parameters := [(.array .byte), .int], returnType := some .char }, accessFlags := 9, code := some k10c1 }
/-- java/lang/StringLatin1 -/
def k10 : Class := { plain "java/lang/StringLatin1" (some 0) with
  accessFlags := 48
  interfaces := #[]
  cf := some (fileOf pool10 14 #[.nestMembers #[390, 221]] #[{ accessFlags := 0, nameIndex := 7, descriptorIndex := 8, attributes := #[] }, { accessFlags := 9, nameIndex := 252, descriptorIndex := 53, attributes := #[] }] 48 4 #[] #[{ accessFlags := 4120, nameIndex := 121, descriptorIndex := 122, attributes := #[] }])
  fields := #[{ name := "$assertionsDisabled", type := .boolean, accessFlags := 4120, slot := 0, constantValue := 0 }]
  methods := #[k10m0, k10m1]
  instanceTypes := #[]
  staticTypes := #[.boolean]
  resolved := Array.replicate 395 none
  statics := none }

def pool11 : Array CpInfo := pool [(2, .class_ 4), (1, u "java/lang/Object"), (0, u "<init>"), (0, u "()V"), (17, .class_ 26), (1, u "jdk/internal/util/Preconditions"), (6, u "checkIndex"), (21, .class_ 56), (0, u "jdk/internal/util/Preconditions$4"), (57, .class_ 115), (0, u "jdk/internal/util/Preconditions$1"), (7, u "SIOOBE_FORMATTER"), (0, u "Ljava/util/function/BiFunction;"), (0, .class_ 126), (0, u "jdk/internal/util/Preconditions$2"), (3, u "AIOOBE_FORMATTER"), (0, .class_ 132), (0, u "jdk/internal/util/Preconditions$3"), (3, u "IOOBE_FORMATTER"), (41, u "(IILjava/util/function/BiFunction;)I")] 15

def k11m0 : Method := { name := "<init>", desc := "()V", sig := { parameters := [], returnType := none }, accessFlags := 1, code := none }
def k11c1 : Code := { maxStack := 3, maxLocals := 3, code := jdk_41_method_11_code, exceptionTable := #[], attributes := #[] }
def k11m1 : Method := { name := "checkIndex", desc := "(IILjava/util/function/BiFunction;)I", sig := { parameters := [.int, .int, (.object "java/util/function/BiFunction")], returnType := some .int }, accessFlags := 9, code := some k11c1 }
/-- jdk/internal/util/Preconditions -/
def k11 : Class := { plain "jdk/internal/util/Preconditions" (some 0) with
  accessFlags := 33
  interfaces := #[]
  cf := some (fileOf pool11 24 #[.nestMembers #[55, 131, 125, 114]] #[{ accessFlags := 1, nameIndex := 5, descriptorIndex := 6, attributes := #[] }, { accessFlags := 9, nameIndex := 33, descriptorIndex := 178, attributes := #[] }] 33 2 #[] #[{ accessFlags := 25, nameIndex := 123, descriptorIndex := 124, attributes := #[] }, { accessFlags := 25, nameIndex := 130, descriptorIndex := 124, attributes := #[] }, { accessFlags := 25, nameIndex := 136, descriptorIndex := 124, attributes := #[] }])
  fields := #[{ name := "SIOOBE_FORMATTER", type := (.object "java/util/function/BiFunction"), accessFlags := 25, slot := 0, constantValue := 0 }, { name := "AIOOBE_FORMATTER", type := (.object "java/util/function/BiFunction"), accessFlags := 25, slot := 1, constantValue := 0 }, { name := "IOOBE_FORMATTER", type := (.object "java/util/function/BiFunction"), accessFlags := 25, slot := 2, constantValue := 0 }]
  methods := #[k11m0, k11m1]
  instanceTypes := #[]
  staticTypes := #[(.object "java/util/function/BiFunction"), (.object "java/util/function/BiFunction"), (.object "java/util/function/BiFunction")]
  resolved := Array.replicate 194 none
  statics := some 2 }

def pool12 : Array CpInfo := pool [(9, u "<init>"), (6, .class_ 18), (1, u "java/lang/Object"), (0, u "()V"), (1, .class_ 23), (1, u "jdk/internal/util/ArraysSupport"), (0, u "LOG2_ARRAY_LONG_INDEX_SCALE"), (0, u "I"), (2, u "U"), (0, u "Ljdk/internal/misc/Unsafe;"), (8, u "BIG_ENDIAN"), (0, u "Z"), (8, u "LOG2_BYTE_BIT_SIZE"), (4, u "LOG2_ARRAY_INT_INDEX_SCALE"), (54, u "JLA"), (0, u "Ljdk/internal/access/JavaLangAccess;"), (11, u "LOG2_ARRAY_BOOLEAN_INDEX_SCALE"), (9, u "LOG2_ARRAY_BYTE_INDEX_SCALE"), (5, u "LOG2_ARRAY_CHAR_INDEX_SCALE"), (5, u "LOG2_ARRAY_SHORT_INDEX_SCALE"), (18, u "LOG2_ARRAY_FLOAT_INDEX_SCALE"), (24, u "LOG2_ARRAY_DOUBLE_INDEX_SCALE"), (89, u "T_BOOLEAN"), (2, u "T_CHAR"), (1, u "T_FLOAT"), (1, u "T_DOUBLE"), (1, u "T_BYTE"), (1, u "T_SHORT"), (1, u "T_INT"), (1, u "T_LONG"), (1, u "SOFT_MAX_ARRAY_LENGTH")] 83

def k12m0 : Method := { name := "<init>", desc := "()V", sig := { parameters := [], returnType := none }, accessFlags := 2, code := none }
/-- jdk/internal/util/ArraysSupport -/
def k12 : Class := { plain "jdk/internal/util/ArraysSupport" (some 0) with
  accessFlags := 33
  interfaces := #[]
  cf := some (fileOf pool12 21 #[] #[{ accessFlags := 2, nameIndex := 9, descriptorIndex := 19, attributes := #[] }] 33 16 #[] #[{ accessFlags := 24, nameIndex := 28, descriptorIndex := 29, attributes := #[] }, { accessFlags := 26, nameIndex := 38, descriptorIndex := 39, attributes := #[] }, { accessFlags := 25, nameIndex := 121, descriptorIndex := 25, attributes := #[] }, { accessFlags := 25, nameIndex := 131, descriptorIndex := 25, attributes := #[] }, { accessFlags := 25, nameIndex := 137, descriptorIndex := 25, attributes := #[] }, { accessFlags := 25, nameIndex := 143, descriptorIndex := 25, attributes := #[] }, { accessFlags := 25, nameIndex := 53, descriptorIndex := 25, attributes := #[] }, { accessFlags := 25, nameIndex := 24, descriptorIndex := 25, attributes := #[] }, { accessFlags := 25, nameIndex := 162, descriptorIndex := 25, attributes := #[] }, { accessFlags := 25, nameIndex := 187, descriptorIndex := 25, attributes := #[] }, { accessFlags := 26, nameIndex := 48, descriptorIndex := 25, attributes := #[] }, { accessFlags := 25, nameIndex := 277, descriptorIndex := 25, attributes := #[] }, { accessFlags := 25, nameIndex := 280, descriptorIndex := 25, attributes := #[] }, { accessFlags := 25, nameIndex := 282, descriptorIndex := 25, attributes := #[] }, { accessFlags := 25, nameIndex := 284, descriptorIndex := 25, attributes := #[] }, { accessFlags := 25, nameIndex := 286, descriptorIndex := 25, attributes := #[] }, { accessFlags := 25, nameIndex := 288, descriptorIndex := 25, attributes := #[] }, { accessFlags := 25, nameIndex := 290, descriptorIndex := 25, attributes := #[] }, { accessFlags := 25, nameIndex := 292, descriptorIndex := 25, attributes := #[] }, { accessFlags := 26, nameIndex := 108, descriptorIndex := 109, attributes := #[] }, { accessFlags := 25, nameIndex := 294, descriptorIndex := 25, attributes := #[] }])
  fields := #[{ name := "U", type := (.object "jdk/internal/misc/Unsafe"), accessFlags := 24, slot := 0, constantValue := 0 }, { name := "BIG_ENDIAN", type := .boolean, accessFlags := 26, slot := 1, constantValue := 0 }, { name := "LOG2_ARRAY_BOOLEAN_INDEX_SCALE", type := .int, accessFlags := 25, slot := 2, constantValue := 0 }, { name := "LOG2_ARRAY_BYTE_INDEX_SCALE", type := .int, accessFlags := 25, slot := 3, constantValue := 0 }, { name := "LOG2_ARRAY_CHAR_INDEX_SCALE", type := .int, accessFlags := 25, slot := 4, constantValue := 0 }, { name := "LOG2_ARRAY_SHORT_INDEX_SCALE", type := .int, accessFlags := 25, slot := 5, constantValue := 0 }, { name := "LOG2_ARRAY_INT_INDEX_SCALE", type := .int, accessFlags := 25, slot := 6, constantValue := 0 }, { name := "LOG2_ARRAY_LONG_INDEX_SCALE", type := .int, accessFlags := 25, slot := 7, constantValue := 0 }, { name := "LOG2_ARRAY_FLOAT_INDEX_SCALE", type := .int, accessFlags := 25, slot := 8, constantValue := 0 }, { name := "LOG2_ARRAY_DOUBLE_INDEX_SCALE", type := .int, accessFlags := 25, slot := 9, constantValue := 0 }, { name := "LOG2_BYTE_BIT_SIZE", type := .int, accessFlags := 26, slot := 10, constantValue := 0 }, { name := "T_BOOLEAN", type := .int, accessFlags := 25, slot := 11, constantValue := 0 }, { name := "T_CHAR", type := .int, accessFlags := 25, slot := 12, constantValue := 0 }, { name := "T_FLOAT", type := .int, accessFlags := 25, slot := 13, constantValue := 0 }, { name := "T_DOUBLE", type := .int, accessFlags := 25, slot := 14, constantValue := 0 }, { name := "T_BYTE", type := .int, accessFlags := 25, slot := 15, constantValue := 0 }, { name := "T_SHORT", type := .int, accessFlags := 25, slot := 16, constantValue := 0 }, { name := "T_INT", type := .int, accessFlags := 25, slot := 17, constantValue := 0 }, { name := "T_LONG", type := .int, accessFlags := 25, slot := 18, constantValue := 0 }, { name := "JLA", type := (.object "jdk/internal/access/JavaLangAccess"), accessFlags := 26, slot := 19, constantValue := 0 }, { name := "SOFT_MAX_ARRAY_LENGTH", type := .int, accessFlags := 25, slot := 20, constantValue := 0 }]
  methods := #[k12m0]
  instanceTypes := #[]
  staticTypes := #[(.object "jdk/internal/misc/Unsafe"), .boolean, .int, .int, .int, .int, .int, .int, .int, .int, .int, .int, .int, .int, .int, .int, .int, .int, .int, (.object "jdk/internal/access/JavaLangAccess"), .int]
  resolved := Array.replicate 378 none
  statics := none }

def pool13 : Array CpInfo := pool [(1, u "java/lang/Cloneable"), (0, .class_ 1), (0, u "java/lang/Object"), (0, .class_ 3)] 3

/-- java/lang/Cloneable -/
def k13 : Class := { plain "java/lang/Cloneable" (some 0) with
  accessFlags := 1537
  interfaces := #[]
  cf := some (fileOf pool13 2 #[] #[] 1537 4 #[] #[])
  fields := #[]
  methods := #[]
  instanceTypes := #[]
  staticTypes := #[]
  resolved := Array.replicate 8 none
  statics := none }

/-- the primitive byte -/
def k14 : Class := { plain "byte" none with kind := .primitive 'B', accessFlags := 0x411 }
/-- [B -/
def k15 : Class := { plain "[B" (some 0) with kind := .array 14 .byte, interfaces := #[13, 4], accessFlags := 1041 }

/-- the primitive int -/
def k16 : Class := { plain "int" none with kind := .primitive 'I', accessFlags := 0x411 }
/-- [I -/
def k17 : Class := { plain "[I" (some 0) with kind := .array 16 .int, interfaces := #[13, 4], accessFlags := 1041 }

def heap : Heap := #[{ cls := 6, slots := #[.ref 9, .ref 10, .ref 11, .null, .null], vm := .statics 6 },
  { cls := 9, slots := #[.long 0, .int 1, .null, .int 0, .null, .int 0, .int 0], vm := .statics 9 },
  { cls := 11, slots := #[.null, .null, .null], vm := .statics 11 },
  { cls := 15, slots := #[.int 49, .int 46, .int 49], vm := .none },
  { cls := 15, slots := #[.int 49, .int 46, .int 50], vm := .none },
  { cls := 15, slots := #[.int 50, .int 46, .int 48], vm := .none },
  { cls := 9, slots := #[.ref 3, .int 0, .int 0, .int 0], vm := .none },
  { cls := 9, slots := #[.ref 4, .int 0, .int 0, .int 0], vm := .none },
  { cls := 9, slots := #[.ref 5, .int 0, .int 0, .int 0], vm := .none },
  { cls := 6, slots := #[.null, .int 0, .int 0, .ref 6, .null, .null, .null, .null, .null], vm := .none },
  { cls := 6, slots := #[.null, .int 1, .int 0, .ref 7, .null, .null, .null, .null, .null], vm := .none },
  { cls := 6, slots := #[.null, .int 2, .int 0, .ref 8, .null, .null, .null, .null, .null], vm := .none }]
def classes : Array Class := #[k0, k1, k2, k3, k4, k5, k6, k7, k8, k9, k10, k11, k12, k13, k14, k15, k16, k17]
def interned : List (Array UInt16 × Addr) := []
def slotsUsed : Nat := 63
def theMethod : MethodId := ⟨1, 1⟩
def args0 : Array Value := #[.int 5]
def aboutOver (below : List Frame) : State where
  vm := { classes := classes, interned := interned.toArray }
  heap := heap
  slotsUsed := slotsUsed
  threads := #[{ frames := .invoking theMethod args0 :: below }]
def below0 : List Frame := [.native { method := ⟨0, 0⟩, args := #[] }]
def about1 : State := aboutOver below0
def p0 : Program := .bare "" "" ""
def e0 : Env := launch0.env 0 0 0
theorem w_frames : about1.frames = Frame.invoking theMethod args0 :: below0 := rfl
set_option maxRecDepth 65536 in
theorem w_args : argsFit about1.vm theMethod args0 = true := by decide +kernel
set_option maxRecDepth 65536 in
theorem w_heap : heapFits about1 = true := by decide +kernel
set_option maxRecDepth 65536 in
theorem w_runnable : about1.curStatus? = some .runnable := by decide +kernel
set_option maxRecDepth 65536 in
theorem w_alone : about1.alone = true := by decide +kernel
set_option maxRecDepth 65536 in
theorem w_named : about1.methodNamed? x = some theMethod := by decide +kernel
set_option maxRecDepth 65536 in
theorem w_hears : about1.hears theMethod below0 = true := by decide +kernel
set_option maxRecDepth 65536 in
theorem w_ripe : about1.ripe theMethod args0 below0 = true := by decide +kernel
theorem w_running : about1.status = .running := rfl
set_option maxRecDepth 65536 in
theorem w_room : about1.hasRoom e0.platform room_1 = true :=
  launch0.hasRoom_least _ room_1 (by decide +kernel) (by decide +kernel) (by decide +kernel) (by decide +kernel) (by decide +kernel) (by decide +kernel)
theorem allAtoms_all (ts : List Jvm.Cond) (a : Array Jvm.Value) (st : Jvm.State) : (allAtoms ts).before a st = ts.all (fun c => c.before a st) := by
  induction ts with
  | nil => rfl
  | cons c t ih =>
    show (Jvm.Cond.and c (allAtoms t)).before a st = _
    rw [Jvm.Cond.before_and, ih, List.all_cons]
def words1 : List Jvm.Cond := Jvm.Cond.code x code maxLocals ret :: tables_1
/-- a 'code' word, met by the world's own term for the bytes: nothing is compared byte by byte -/
theorem code_word {y : MethodName} {bytes : ByteArray} {mx : Nat} {rt : Option FieldType} {a : Array Value} {s : State} {m : MethodId} {meth : Method} {c : Code} (h1 : s.methodNamed? y = some m) (h2 : s.vm.method? m = some meth) (h3 : meth.code = some c) (h4 : c.code = bytes)
    (h5 : (c.maxLocals == mx && c.exceptionTable.isEmpty && decide (c.maxStack ≤ mostOperands) && decide (meth.sig.returnType = rt) && !meth.locks && decide (parseMethodDescriptor y.desc = some meth.sig)) = true) : (Jvm.Cond.code y bytes mx rt).before a s = true := by
  simp only [Bool.and_eq_true, beq_iff_eq, Bool.not_eq_true', decide_eq_true_eq] at h5
  obtain ⟨⟨⟨⟨⟨g1, g2⟩, g3⟩, g4⟩, g5⟩, g6⟩ := h5
  simp [Cond.before, Cond.holds, Cond.value, h1, h2, h3, h4, g1, g2, g3, g4, g5, g6]
def isCode : Jvm.Cond → Bool
  | .code _ _ _ _ => true
  | _ => false
theorem all_split {L : List Jvm.Cond} {P : Jvm.Cond → Bool} (h1 : L.all (fun c => isCode c || P c) = true) (h2 : ∀ c ∈ L.filter isCode, P c = true) : L.all P = true := by
  refine List.all_eq_true.mpr fun c hc => ?_
  have h := List.all_eq_true.mp h1 c hc
  rcases Bool.eq_false_or_eq_true (isCode c) with hi | hi
  · exact h2 c (List.mem_filter.mpr ⟨hc, hi⟩)
  · simpa [hi] using h
set_option maxRecDepth 65536 in
theorem w_c0 : (Jvm.Cond.code x code maxLocals ret).before args0 about1 = true := code_word (m := ⟨1, 1⟩) (meth := k1m1) (c := k1c1) (by decide +kernel) rfl rfl rfl (by decide +kernel)
set_option maxRecDepth 65536 in
theorem w_c1 : (Jvm.Cond.code ({ cls := "com/example/lexwalk/lexwalk/sru/SruVersion", name := "number", desc := "()Ljava/lang/String;" } : Jvm.MethodName) prog_45_method_5_code (1 : Nat) (Option.some (Jvm.ClassFile.FieldType.object "java/lang/String"))).before args0 about1 = true := code_word (m := ⟨6, 0⟩) (meth := k6m0) (c := k6c0) (by decide +kernel) rfl rfl rfl (by decide +kernel)
set_option maxRecDepth 65536 in
theorem w_c2 : (Jvm.Cond.code ({ cls := "java/lang/String", name := "charAt", desc := "(I)C" } : Jvm.MethodName) jdk_42_method_56_code (2 : Nat) (Option.some Jvm.ClassFile.FieldType.char)).before args0 about1 = true := code_word (m := ⟨9, 1⟩) (meth := k9m1) (c := k9c1) (by decide +kernel) rfl rfl rfl (by decide +kernel)
set_option maxRecDepth 65536 in
theorem w_c3 : (Jvm.Cond.code ({ cls := "java/lang/String", name := "isLatin1", desc := "()Z" } : Jvm.MethodName) jdk_42_method_154_code (1 : Nat) (Option.some Jvm.ClassFile.FieldType.boolean)).before args0 about1 = true := code_word (m := ⟨9, 2⟩) (meth := k9m2) (c := k9c2) (by decide +kernel) rfl rfl rfl (by decide +kernel)
set_option maxRecDepth 65536 in
theorem w_c4 : (Jvm.Cond.code ({ cls := "java/lang/StringLatin1", name := "charAt", desc := "([BI)C" } : Jvm.MethodName) jdk_43_method_2_code (2 : Nat) (Option.some Jvm.ClassFile.FieldType.char)).before args0 about1 = true := code_word (m := ⟨10, 1⟩) (meth := k10m1) (c := k10c1) (by decide +kernel) rfl rfl rfl (by decide +kernel)
set_option maxRecDepth 65536 in
theorem w_c5 : (Jvm.Cond.code ({ cls := "java/lang/String", name := "checkIndex", desc := "(II)V" } : Jvm.MethodName) jdk_42_method_155_code (2 : Nat) (Option.none : Option Jvm.ClassFile.FieldType)).before args0 about1 = true := code_word (m := ⟨9, 3⟩) (meth := k9m3) (c := k9c3) (by decide +kernel) rfl rfl rfl (by decide +kernel)
set_option maxRecDepth 65536 in
theorem w_c6 : (Jvm.Cond.code ({ cls := "jdk/internal/util/Preconditions", name := "checkIndex", desc := "(IILjava/util/function/BiFunction;)I" } : Jvm.MethodName) jdk_41_method_11_code (3 : Nat) (Option.some Jvm.ClassFile.FieldType.int)).before args0 about1 = true := code_word (m := ⟨11, 1⟩) (meth := k11m1) (c := k11c1) (by decide +kernel) rfl rfl rfl (by decide +kernel)
set_option maxRecDepth 65536 in
theorem w_c7 : (Jvm.Cond.code ({ cls := "com/example/lexwalk/lexwalk/sru/SruVersion", name := "requiresOperation", desc := "()Z" } : Jvm.MethodName) prog_45_method_12_code (1 : Nat) (Option.some Jvm.ClassFile.FieldType.boolean)).before args0 about1 = true := code_word (m := ⟨6, 1⟩) (meth := k6m1) (c := k6c1) (by decide +kernel) rfl rfl rfl (by decide +kernel)
def codes1 : List Jvm.Cond := [Jvm.Cond.code x code maxLocals ret, Jvm.Cond.code ({ cls := "com/example/lexwalk/lexwalk/sru/SruVersion", name := "number", desc := "()Ljava/lang/String;" } : Jvm.MethodName) prog_45_method_5_code (1 : Nat) (Option.some (Jvm.ClassFile.FieldType.object "java/lang/String")), Jvm.Cond.code ({ cls := "java/lang/String", name := "charAt", desc := "(I)C" } : Jvm.MethodName) jdk_42_method_56_code (2 : Nat) (Option.some Jvm.ClassFile.FieldType.char), Jvm.Cond.code ({ cls := "java/lang/String", name := "isLatin1", desc := "()Z" } : Jvm.MethodName) jdk_42_method_154_code (1 : Nat) (Option.some Jvm.ClassFile.FieldType.boolean), Jvm.Cond.code ({ cls := "java/lang/StringLatin1", name := "charAt", desc := "([BI)C" } : Jvm.MethodName) jdk_43_method_2_code (2 : Nat) (Option.some Jvm.ClassFile.FieldType.char), Jvm.Cond.code ({ cls := "java/lang/String", name := "checkIndex", desc := "(II)V" } : Jvm.MethodName) jdk_42_method_155_code (2 : Nat) (Option.none : Option Jvm.ClassFile.FieldType), Jvm.Cond.code ({ cls := "jdk/internal/util/Preconditions", name := "checkIndex", desc := "(IILjava/util/function/BiFunction;)I" } : Jvm.MethodName) jdk_41_method_11_code (3 : Nat) (Option.some Jvm.ClassFile.FieldType.int), Jvm.Cond.code ({ cls := "com/example/lexwalk/lexwalk/sru/SruVersion", name := "requiresOperation", desc := "()Z" } : Jvm.MethodName) prog_45_method_12_code (1 : Nat) (Option.some Jvm.ClassFile.FieldType.boolean)]
set_option maxRecDepth 65536 in
theorem codes_eq : words1.filter isCode = codes1 := rfl
theorem w_codes : ∀ c ∈ words1.filter isCode, c.before args0 about1 = true := by
  rw [codes_eq]
  intro c hc
  simp only [codes1, List.mem_cons, List.not_mem_nil, or_false] at hc
  rcases hc with rfl | rfl | rfl | rfl | rfl | rfl | rfl | rfl
  · exact w_c0
  · exact w_c1
  · exact w_c2
  · exact w_c3
  · exact w_c4
  · exact w_c5
  · exact w_c6
  · exact w_c7
set_option maxRecDepth 65536 in
theorem w_t1 : (words1.take 24).all (fun c => isCode c || c.before args0 about1) = true := by decide +kernel
set_option maxRecDepth 65536 in
theorem w_t2 : ((words1.drop 24).take 24).all (fun c => isCode c || c.before args0 about1) = true := by decide +kernel
set_option maxRecDepth 65536 in
theorem w_t3 : ((words1.drop 24).drop 24).all (fun c => isCode c || c.before args0 about1) = true := by decide +kernel
theorem w_tables : (allAtoms (Jvm.Cond.code x code maxLocals ret :: tables_1)).before args0 about1 = true := by
  rw [allAtoms_all]
  show words1.all (fun c => c.before args0 about1) = true
  refine all_split ?_ w_codes
  rw [← List.take_append_drop 24 words1, List.all_append, w_t1, ← List.take_append_drop 24 (words1.drop 24), List.all_append, w_t2, w_t3]
  rfl
set_option maxRecDepth 65536 in
theorem w_rest : rest_1_c.before args0 about1 = true := by decide +kernel
set_option maxRecDepth 65536 in
theorem w_case : (Jvm.Cond.and given_1 narrow_1).before args0 about1 = true := by decide +kernel
theorem w_applies : (headSpec (Jvm.Cond.code x code maxLocals ret :: tables_1) room_1).applies x e0.platform about1 = true :=
  (Spec.applies_iff w_frames).mpr ⟨w_running, w_runnable, w_alone, w_named, w_hears, w_ripe, w_room, w_tables⟩
theorem atStart : AtStart classFile x code maxLocals ret World_1 tables_1 room_1 Calls_1 rest_1 Pre_1 launch0 p0 e0 about1 theMethod args0 below0 :=
  ⟨lists_1, trivial, launch0.admits_env _ _ _, launch0.least_env, fairChoices_fair.cas, fairChoices_fair.clock, w_frames, w_args, w_heap, w_applies, trivial, w_rest, w_case⟩
end start1
theorem witness_1 : WitnessClaimed_1 := ⟨start1.p0, start1.e0, start1.about1, start1.theMethod, start1.args0, start1.below0, start1.atStart⟩
end Jvm.Pilot.@@N@@
