import JvmDerived
import JvmDerived.Pilot.@@N@@Statement
import JvmDerived.Pilot.@@N@@Code
set_option linter.unusedVariables false
set_option linter.unusedSimpArgs false
namespace Jvm.Pilot.@@N@@
open Jvm Jvm.ClassFile Sem Op Lib Jvm.Free Jvm.Stand Jvm.LawKit Jvm.RoadKit Bundle Jvm.Pilot.@@N@@.Jvm.D

/-! ### the own kit: a walk's goal in continuation form -/
def Go (p : Program) (e : Env) (below : List Frame) (Φ : Outcome → State → Prop) (U : State) : Prop :=
  ∃ s₂ o, Steps p.tables e below U s₂ ∧ s₂.status = .running ∧ Ended s₂ below o ∧ Φ o s₂
def Fin0 (s : State) (rm : Room) (Q : Option Value → Heap → List Loc → Prop) : Outcome → State → Prop :=
  fun o U' => ∃ v L, o = .returned v ∧ Q v U'.heap L ∧ FrameEnd s o U' L rm.cells rm.slots
abbrev Ctr (l : Launch) (Z : State) (y : MethodName) (bytes : ByteArray) (ml : Nat) (rt : Option FieldType) (rm : Room) (ws : List Jvm.Cond) (as' : Array Value) (h0 : Heap) (Q : Option Value → Heap → List Loc → Prop) : Prop :=
  MetFree l y (head1 (Jvm.Cond.code y bytes ml rt :: ws) rm) (fun a U => a = as' ∧ Z.Warmed39 U.vm ∧ U.heap = h0) (fun _ _ _ _ _ => True) (fun _ U o U' => ∃ v L, o = .returned v ∧ Q v U'.heap L ∧ FrameEnd U o U' L rm.cells rm.slots)
def b2i (b : Bool) : Int32 := if b then 1 else 0
theorem b2i_t : b2i true = 1 := rfl
theorem b2i_f : b2i false = 0 := rfl
theorem b2i_nar (b : Bool) : nar .boolean (b2i b) = b2i b := by cases b <;> rfl
theorem b2i_or (b : Bool) : (b = true ∧ (b2i b).toInt = 1) ∨ (b = false ∧ (b2i b).toInt = 0) := by cases b <;> decide
theorem b2i_dec {P : Prop} [Decidable P] : (P ∧ (b2i (decide P)).toInt = 1) ∨ (¬ P ∧ (b2i (decide P)).toInt = 0) := by
  by_cases h : P
  · exact Or.inl ⟨h, by rw [decide_eq_true h]; rfl⟩
  · exact Or.inr ⟨h, by rw [decide_eq_false h]; rfl⟩
theorem b2i_inj {a b : Bool} : b2i a = b2i b ↔ a = b := by cases a <;> cases b <;> decide
theorem i32e {x y : Int32} : x = y ↔ x.toInt = y.toInt := Int32.toInt_inj.symm
theorem i64e {x y : Int64} : x = y ↔ x.toInt = y.toInt := Int64.toInt_inj.symm
theorem okB {b : Bool} (h : b = true) : some (Value.int (b2i b)) = some (Value.int 1) := by rw [h]; rfl
theorem eqT {P : Prop} [Decidable P] (h : P) : some (Value.int (b2i true)) = some (Value.int (b2i (decide P))) := by rw [decide_eq_true h]
theorem eqF {P : Prop} [Decidable P] (h : ¬ P) : some (Value.int (b2i false)) = some (Value.int (b2i (decide P))) := by rw [decide_eq_false h]
theorem eqD {P Q : Prop} [Decidable P] [Decidable Q] (h : Q ↔ P) : some (Value.int (b2i (decide Q))) = some (Value.int (b2i (decide P))) := by rw [decide_eq_decide.mpr h]
theorem eqB {P : Prop} [Decidable P] {b : Bool} (h : b = true ↔ P) : some (Value.int (b2i b)) = some (Value.int (b2i (decide P))) := by
  rw [show b = decide P from by by_cases q : P <;> simp [q, h] <;> (cases b <;> simp_all)]
/-- what a pure callee leaves that returns an int (a long) of which P is said -/
def IQ (P : Int32 → Prop) (h0 : Heap) : Option Value → Heap → List Loc → Prop := fun v h L => ∃ r, v = some (.int r) ∧ P r ∧ h = h0 ∧ L = []
def JQ (P : Int64 → Prop) (h0 : Heap) : Option Value → Heap → List Loc → Prop := fun v h L => ∃ r, v = some (.long r) ∧ P r ∧ h = h0 ∧ L = []
/-- what a pure callee leaves -/
def PQ (r : Value) (h0 : Heap) : Option Value → Heap → List Loc → Prop := fun v h L => v = some r ∧ h = h0 ∧ L = []
theorem Ctr.of {l : Launch} {Z : State} {y : MethodName} {bytes : ByteArray} {ml : Nat} {rt : Option FieldType} {rm : Room} {ws : List Jvm.Cond} {as' : Array Value} {h0 : Heap} {Q : Option Value → Heap → List Loc → Prop} (hp : plainFor y = true)
    (body : ∀ (p : Program) (e : Env) (s : State) (m : MethodId) (below : List Frame) (meth : Method) (c : Code) (s₁ : State), p.tables.exec = Jvm.exec → c.code = bytes → c.maxLocals = ml → meth.sig.returnType = rt → meth.locks = false → meth.name = y.name → s.vm.findClass y.cls = some m.cls → Z.Warmed39 s.vm → Stand p l e rm s m as' below meth c s₁ [] 0 0 → s₁.heap = h0 →
      Go p e below (Fin0 s rm Q) (s₁.setTop (entryFrame m as' ml))) : Ctr l Z y bytes ml rt rm ws as' h0 Q := by
  refine MetFree.of_bodySF hp hisR ?_
  intro p e s m args below meth c s₁ Bd hml0 hP hK
  obtain ⟨rfl, hZ, hh⟩ := hP
  obtain ⟨s₂, o, g1, g2, g3, v, L, g4, g5, g6⟩ := body p e s m below meth c s₁ Bd.exec Bd.bytes hml0 Bd.returns Bd.notSynchronized (name_of_methodNamed Bd.named Bd.method).1 (findClass_of_methodNamed Bd.named) hZ (Stand.of_body Bd) (by rw [← hh, Bd.state]; rfl)
  exact ⟨s₂, o, g1, g2, g3, v, L, g4, g5, g6⟩
theorem st_one {L L' : Array Slot} {i : Nat} {o : Slot} {v : Value} (h : L[i]? = some o) (ho : One o) (hv : v.category = 1) (hL : L.setIfInBounds i (.val v) = L') : storeLocals L i v = some L' := by
  rw [XS.store1 h ho hv, hL]
section OwnKit
variable {p : Program} {l : Launch} {e : Env} {R : Room} {s : State} {m : MethodId} {args : Array Value} {below : List Frame} {meth : Method} {c : Code} {T : State} {locs : List Loc} {cells slots : Nat} {Z : State} {a0 : Array Value} {h : Heap} {Φ : Outcome → State → Prop} {pc q : Nat} {L : Array Slot} {S : List Value}
theorem Go.by {U U' : State} (h : ∀ t, Steps p.tables e below U' t → Steps p.tables e below U t) (k : Go p e below Φ U') : Go p e below Φ U := by
  obtain ⟨s₂, o, h1, r⟩ := k; exact ⟨s₂, o, h _ h1, r⟩
theorem Go.cast {g g' : JFrame} (q : g = g') (k : Go p e below Φ (T.setTop g')) : Go p e below Φ (T.setTop g) := q ▸ k
theorem g_iloadN (hA : At T m c below) (hx : p.tables.exec = Jvm.exec) {j : Fin 4} {v : Int32} (hd : decode c.code pc = .ok (.iload_n j, 1)) (hl : L[j.val]? = some (.val (.int v))) (hq : pc + 1 = q) (k : Go p e below Φ (T.setTop (mkF m q L (.int v :: S)))) : Go p e below Φ (T.setTop (mkF m pc L S)) := by
  subst hq; exact Go.by (fun _ => XS.iloadN hA hx rfl hd hl) k
theorem g_iload (hA : At T m c below) (hx : p.tables.exec = Jvm.exec) {j : Nat} {v : Int32} (hd : decode c.code pc = .ok (.iload j, 2)) (hl : L[j]? = some (.val (.int v))) (hq : pc + 2 = q) (k : Go p e below Φ (T.setTop (mkF m q L (.int v :: S)))) : Go p e below Φ (T.setTop (mkF m pc L S)) := by
  subst hq; exact Go.by (fun _ => XS.iload hA hx rfl hd hl) k
theorem g_istoreN (hA : At T m c below) (hx : p.tables.exec = Jvm.exec) {j : Fin 4} {v : Int32} {L' : Array Slot} (hd : decode c.code pc = .ok (.istore_n j, 1)) (hl : storeLocals L j.val (.int v) = some L') (hq : pc + 1 = q) (k : Go p e below Φ (T.setTop (mkF m q L' S))) : Go p e below Φ (T.setTop (mkF m pc L (.int v :: S))) := by
  subst hq; exact Go.by (fun _ => XS.istoreN hA hx rfl hd rfl hl) k
theorem g_istore (hA : At T m c below) (hx : p.tables.exec = Jvm.exec) {j : Nat} {v : Int32} {L' : Array Slot} (hd : decode c.code pc = .ok (.istore j, 2)) (hl : storeLocals L j (.int v) = some L') (hq : pc + 2 = q) (k : Go p e below Φ (T.setTop (mkF m q L' S))) : Go p e below Φ (T.setTop (mkF m pc L (.int v :: S))) := by
  subst hq; exact Go.by (fun _ => XS.istore hA hx rfl hd rfl hl) k
theorem g_lloadN (hA : At T m c below) (hx : p.tables.exec = Jvm.exec) {j : Fin 4} {v : Int64} (hd : decode c.code pc = .ok (.lload_n j, 1)) (hl : L[j.val]? = some (.val (.long v))) (hq : pc + 1 = q) (k : Go p e below Φ (T.setTop (mkF m q L (.long v :: S)))) : Go p e below Φ (T.setTop (mkF m pc L S)) := by
  subst hq; exact Go.by (fun _ => XS.lloadN hA hx rfl hd hl) k
theorem g_lload (hA : At T m c below) (hx : p.tables.exec = Jvm.exec) {j : Nat} {v : Int64} (hd : decode c.code pc = .ok (.lload j, 2)) (hl : L[j]? = some (.val (.long v))) (hq : pc + 2 = q) (k : Go p e below Φ (T.setTop (mkF m q L (.long v :: S)))) : Go p e below Φ (T.setTop (mkF m pc L S)) := by
  subst hq; exact Go.by (fun _ => XS.lload hA hx rfl hd hl) k
theorem g_lstoreN (hA : At T m c below) (hx : p.tables.exec = Jvm.exec) {j : Fin 4} {v : Int64} {L' : Array Slot} (hd : decode c.code pc = .ok (.lstore_n j, 1)) (hl : storeLocals L j.val (.long v) = some L') (hq : pc + 1 = q) (k : Go p e below Φ (T.setTop (mkF m q L' S))) : Go p e below Φ (T.setTop (mkF m pc L (.long v :: S))) := by
  subst hq; exact Go.by (fun _ => XS.lstoreN hA hx rfl hd rfl hl) k
theorem g_lstore (hA : At T m c below) (hx : p.tables.exec = Jvm.exec) {j : Nat} {v : Int64} {L' : Array Slot} (hd : decode c.code pc = .ok (.lstore j, 2)) (hl : storeLocals L j (.long v) = some L') (hq : pc + 2 = q) (k : Go p e below Φ (T.setTop (mkF m q L' S))) : Go p e below Φ (T.setTop (mkF m pc L (.long v :: S))) := by
  subst hq; exact Go.by (fun _ => XS.lstore hA hx rfl hd rfl hl) k
theorem g_aloadN (hA : At T m c below) (hx : p.tables.exec = Jvm.exec) {j : Fin 4} {v : Value} (hd : decode c.code pc = .ok (.aload_n j, 1)) (hl : L[j.val]? = some (.val v)) (hv : v.isRef = true) (hq : pc + 1 = q) (k : Go p e below Φ (T.setTop (mkF m q L (v :: S)))) : Go p e below Φ (T.setTop (mkF m pc L S)) := by
  subst hq; exact Go.by (fun _ => XS.aloadN hA hx rfl hd hl hv) k
theorem g_aload (hA : At T m c below) (hx : p.tables.exec = Jvm.exec) {j : Nat} {v : Value} (hd : decode c.code pc = .ok (.aload j, 2)) (hl : L[j]? = some (.val v)) (hv : v.isRef = true) (hq : pc + 2 = q) (k : Go p e below Φ (T.setTop (mkF m q L (v :: S)))) : Go p e below Φ (T.setTop (mkF m pc L S)) := by
  subst hq; exact Go.by (fun _ => XS.aload hA hx rfl hd hl hv) k
theorem g_astoreN (hA : At T m c below) (hx : p.tables.exec = Jvm.exec) {j : Fin 4} {v : Value} {L' : Array Slot} (hd : decode c.code pc = .ok (.astore_n j, 1)) (hv : v.isRef = true) (hl : storeLocals L j.val v = some L') (hq : pc + 1 = q) (k : Go p e below Φ (T.setTop (mkF m q L' S))) : Go p e below Φ (T.setTop (mkF m pc L (v :: S))) := by
  subst hq; exact Go.by (fun _ => XS.astoreN hA hx rfl hd rfl hv hl) k
theorem g_astore (hA : At T m c below) (hx : p.tables.exec = Jvm.exec) {j : Nat} {v : Value} {L' : Array Slot} (hd : decode c.code pc = .ok (.astore j, 2)) (hv : v.isRef = true) (hl : storeLocals L j v = some L') (hq : pc + 2 = q) (k : Go p e below Φ (T.setTop (mkF m q L' S))) : Go p e below Φ (T.setTop (mkF m pc L (v :: S))) := by
  subst hq; exact Go.by (fun _ => XS.astore hA hx rfl hd rfl hv hl) k
theorem g_iconst (hA : At T m c below) (hx : p.tables.exec = Jvm.exec) {i : Int} {v : Int32} (hd : decode c.code pc = .ok (.iconst i, 1)) (hv : Int32.ofInt i = v) (hq : pc + 1 = q) (k : Go p e below Φ (T.setTop (mkF m q L (.int v :: S)))) : Go p e below Φ (T.setTop (mkF m pc L S)) := by
  subst hq hv; exact Go.by (fun _ => XS.iconst hA hx rfl hd) k
theorem g_bipush (hA : At T m c below) (hx : p.tables.exec = Jvm.exec) {i : Int} {v : Int32} (hd : decode c.code pc = .ok (.bipush i, 2)) (hv : (Int8.ofInt i).toInt32 = v) (hq : pc + 2 = q) (k : Go p e below Φ (T.setTop (mkF m q L (.int v :: S)))) : Go p e below Φ (T.setTop (mkF m pc L S)) := by
  subst hq hv; exact Go.by (fun _ => XS.bipush hA hx rfl hd) k
theorem g_sipush (hA : At T m c below) (hx : p.tables.exec = Jvm.exec) {i : Int} {v : Int32} (hd : decode c.code pc = .ok (.sipush i, 3)) (hv : (Int16.ofInt i).toInt32 = v) (hq : pc + 3 = q) (k : Go p e below Φ (T.setTop (mkF m q L (.int v :: S)))) : Go p e below Φ (T.setTop (mkF m pc L S)) := by
  subst hq hv; exact Go.by (fun _ => XS.sipush hA hx rfl hd) k
theorem g_lconst0 (hA : At T m c below) (hx : p.tables.exec = Jvm.exec) (hd : decode c.code pc = .ok (.lconst 0, 1)) (hq : pc + 1 = q) (k : Go p e below Φ (T.setTop (mkF m q L (.long 0 :: S)))) : Go p e below Φ (T.setTop (mkF m pc L S)) := by
  subst hq; exact Go.by (fun _ => XS.lconst hA hx rfl hd) k
theorem g_lconst1 (hA : At T m c below) (hx : p.tables.exec = Jvm.exec) (hd : decode c.code pc = .ok (.lconst 1, 1)) (hq : pc + 1 = q) (k : Go p e below Φ (T.setTop (mkF m q L (.long 1 :: S)))) : Go p e below Φ (T.setTop (mkF m pc L S)) := by
  subst hq; exact Go.by (fun _ => XS.lconst hA hx rfl hd) k
theorem g_aconst_null (hA : At T m c below) (hx : p.tables.exec = Jvm.exec) (hd : decode c.code pc = .ok (.aconst_null, 1)) (hq : pc + 1 = q) (k : Go p e below Φ (T.setTop (mkF m q L (.null :: S)))) : Go p e below Φ (T.setTop (mkF m pc L S)) := by
  subst hq; exact Go.by (fun _ => XS.aconstNull hA hx rfl hd) k
theorem g_iadd (hA : At T m c below) (hx : p.tables.exec = Jvm.exec) {x y : Int32} (hd : decode c.code pc = .ok (.iadd, 1)) (hq : pc + 1 = q) (k : Go p e below Φ (T.setTop (mkF m q L (.int (x + y) :: S)))) : Go p e below Φ (T.setTop (mkF m pc L (.int y :: .int x :: S))) := by
  subst hq; exact Go.by (fun _ => XS.iadd hA hx rfl hd rfl) k
theorem g_isub (hA : At T m c below) (hx : p.tables.exec = Jvm.exec) {x y : Int32} (hd : decode c.code pc = .ok (.isub, 1)) (hq : pc + 1 = q) (k : Go p e below Φ (T.setTop (mkF m q L (.int (x - y) :: S)))) : Go p e below Φ (T.setTop (mkF m pc L (.int y :: .int x :: S))) := by
  subst hq; exact Go.by (fun _ => XS.isub hA hx rfl hd rfl) k
theorem g_imul (hA : At T m c below) (hx : p.tables.exec = Jvm.exec) {x y : Int32} (hd : decode c.code pc = .ok (.imul, 1)) (hq : pc + 1 = q) (k : Go p e below Φ (T.setTop (mkF m q L (.int (x * y) :: S)))) : Go p e below Φ (T.setTop (mkF m pc L (.int y :: .int x :: S))) := by
  subst hq; exact Go.by (fun _ => XS.imul hA hx rfl hd rfl) k
theorem g_iand (hA : At T m c below) (hx : p.tables.exec = Jvm.exec) {x y : Int32} (hd : decode c.code pc = .ok (.iand, 1)) (hq : pc + 1 = q) (k : Go p e below Φ (T.setTop (mkF m q L (.int (x &&& y) :: S)))) : Go p e below Φ (T.setTop (mkF m pc L (.int y :: .int x :: S))) := by
  subst hq; exact Go.by (fun _ => XS.iand hA hx rfl hd rfl) k
theorem g_ior (hA : At T m c below) (hx : p.tables.exec = Jvm.exec) {x y : Int32} (hd : decode c.code pc = .ok (.ior, 1)) (hq : pc + 1 = q) (k : Go p e below Φ (T.setTop (mkF m q L (.int (x ||| y) :: S)))) : Go p e below Φ (T.setTop (mkF m pc L (.int y :: .int x :: S))) := by
  subst hq; exact Go.by (fun _ => XS.ior hA hx rfl hd rfl) k
theorem g_ixor (hA : At T m c below) (hx : p.tables.exec = Jvm.exec) {x y : Int32} (hd : decode c.code pc = .ok (.ixor, 1)) (hq : pc + 1 = q) (k : Go p e below Φ (T.setTop (mkF m q L (.int (x ^^^ y) :: S)))) : Go p e below Φ (T.setTop (mkF m pc L (.int y :: .int x :: S))) := by
  subst hq; exact Go.by (fun _ => XS.ixor hA hx rfl hd rfl) k
theorem g_ishl (hA : At T m c below) (hx : p.tables.exec = Jvm.exec) {x y : Int32} (hd : decode c.code pc = .ok (.ishl, 1)) (hq : pc + 1 = q) (k : Go p e below Φ (T.setTop (mkF m q L (.int (x <<< (y &&& 31)) :: S)))) : Go p e below Φ (T.setTop (mkF m pc L (.int y :: .int x :: S))) := by
  subst hq; exact Go.by (fun _ => XS.ishl hA hx rfl hd rfl) k
theorem g_ishr (hA : At T m c below) (hx : p.tables.exec = Jvm.exec) {x y : Int32} (hd : decode c.code pc = .ok (.ishr, 1)) (hq : pc + 1 = q) (k : Go p e below Φ (T.setTop (mkF m q L (.int (x >>> (y &&& 31)) :: S)))) : Go p e below Φ (T.setTop (mkF m pc L (.int y :: .int x :: S))) := by
  subst hq; exact Go.by (fun _ => XS.ishr hA hx rfl hd rfl) k
theorem g_iushr (hA : At T m c below) (hx : p.tables.exec = Jvm.exec) {x y : Int32} (hd : decode c.code pc = .ok (.iushr, 1)) (hq : pc + 1 = q) (k : Go p e below Φ (T.setTop (mkF m q L (.int ((x.toUInt32 >>> (y &&& 31).toUInt32).toInt32) :: S)))) : Go p e below Φ (T.setTop (mkF m pc L (.int y :: .int x :: S))) := by
  subst hq; exact Go.by (fun _ => XS.iushr hA hx rfl hd rfl) k
theorem g_ladd (hA : At T m c below) (hx : p.tables.exec = Jvm.exec) {x y : Int64} (hd : decode c.code pc = .ok (.ladd, 1)) (hq : pc + 1 = q) (k : Go p e below Φ (T.setTop (mkF m q L (.long (x + y) :: S)))) : Go p e below Φ (T.setTop (mkF m pc L (.long y :: .long x :: S))) := by
  subst hq; exact Go.by (fun _ => XS.ladd hA hx rfl hd rfl) k
theorem g_lsub (hA : At T m c below) (hx : p.tables.exec = Jvm.exec) {x y : Int64} (hd : decode c.code pc = .ok (.lsub, 1)) (hq : pc + 1 = q) (k : Go p e below Φ (T.setTop (mkF m q L (.long (x - y) :: S)))) : Go p e below Φ (T.setTop (mkF m pc L (.long y :: .long x :: S))) := by
  subst hq; exact Go.by (fun _ => XS.lsub hA hx rfl hd rfl) k
theorem g_lmul (hA : At T m c below) (hx : p.tables.exec = Jvm.exec) {x y : Int64} (hd : decode c.code pc = .ok (.lmul, 1)) (hq : pc + 1 = q) (k : Go p e below Φ (T.setTop (mkF m q L (.long (x * y) :: S)))) : Go p e below Φ (T.setTop (mkF m pc L (.long y :: .long x :: S))) := by
  subst hq; exact Go.by (fun _ => XS.lmul hA hx rfl hd rfl) k
theorem g_land (hA : At T m c below) (hx : p.tables.exec = Jvm.exec) {x y : Int64} (hd : decode c.code pc = .ok (.land, 1)) (hq : pc + 1 = q) (k : Go p e below Φ (T.setTop (mkF m q L (.long (x &&& y) :: S)))) : Go p e below Φ (T.setTop (mkF m pc L (.long y :: .long x :: S))) := by
  subst hq; exact Go.by (fun _ => XS.land hA hx rfl hd rfl) k
theorem g_lor (hA : At T m c below) (hx : p.tables.exec = Jvm.exec) {x y : Int64} (hd : decode c.code pc = .ok (.lor, 1)) (hq : pc + 1 = q) (k : Go p e below Φ (T.setTop (mkF m q L (.long (x ||| y) :: S)))) : Go p e below Φ (T.setTop (mkF m pc L (.long y :: .long x :: S))) := by
  subst hq; exact Go.by (fun _ => XS.lor hA hx rfl hd rfl) k
theorem g_lxor (hA : At T m c below) (hx : p.tables.exec = Jvm.exec) {x y : Int64} (hd : decode c.code pc = .ok (.lxor, 1)) (hq : pc + 1 = q) (k : Go p e below Φ (T.setTop (mkF m q L (.long (x ^^^ y) :: S)))) : Go p e below Φ (T.setTop (mkF m pc L (.long y :: .long x :: S))) := by
  subst hq; exact Go.by (fun _ => XS.lxor hA hx rfl hd rfl) k
theorem g_lshl (hA : At T m c below) (hx : p.tables.exec = Jvm.exec) {x : Int64} {y : Int32} (hd : decode c.code pc = .ok (.lshl, 1)) (hq : pc + 1 = q) (k : Go p e below Φ (T.setTop (mkF m q L (.long (x <<< (y &&& 0x3f).toInt64) :: S)))) : Go p e below Φ (T.setTop (mkF m pc L (.int y :: .long x :: S))) := by
  subst hq; exact Go.by (fun _ => XS.lshl hA hx rfl hd rfl) k
theorem g_lshr (hA : At T m c below) (hx : p.tables.exec = Jvm.exec) {x : Int64} {y : Int32} (hd : decode c.code pc = .ok (.lshr, 1)) (hq : pc + 1 = q) (k : Go p e below Φ (T.setTop (mkF m q L (.long (x >>> (y &&& 0x3f).toInt64) :: S)))) : Go p e below Φ (T.setTop (mkF m pc L (.int y :: .long x :: S))) := by
  subst hq; exact Go.by (fun _ => XS.lshr hA hx rfl hd rfl) k
theorem g_lushr (hA : At T m c below) (hx : p.tables.exec = Jvm.exec) {x : Int64} {y : Int32} (hd : decode c.code pc = .ok (.lushr, 1)) (hq : pc + 1 = q) (k : Go p e below Φ (T.setTop (mkF m q L (.long ((x.toUInt64 >>> (y &&& 0x3f).toInt64.toUInt64).toInt64) :: S)))) : Go p e below Φ (T.setTop (mkF m pc L (.int y :: .long x :: S))) := by
  subst hq; exact Go.by (fun _ => XS.lushr hA hx rfl hd rfl) k
theorem g_idiv (hA : At T m c below) (hx : p.tables.exec = Jvm.exec) {x y : Int32} (hd : decode c.code pc = .ok (.idiv, 1)) (hy : y ≠ 0) (hq : pc + 1 = q) (k : Go p e below Φ (T.setTop (mkF m q L (.int (x / y) :: S)))) : Go p e below Φ (T.setTop (mkF m pc L (.int y :: .int x :: S))) := by
  subst hq; exact Go.by (fun _ => XS.idiv hA hx rfl hd rfl hy) k
theorem g_irem (hA : At T m c below) (hx : p.tables.exec = Jvm.exec) {x y : Int32} (hd : decode c.code pc = .ok (.irem, 1)) (hy : y ≠ 0) (hq : pc + 1 = q) (k : Go p e below Φ (T.setTop (mkF m q L (.int (x % y) :: S)))) : Go p e below Φ (T.setTop (mkF m pc L (.int y :: .int x :: S))) := by
  subst hq; exact Go.by (fun _ => fun r => XS.irem hA hx rfl hd rfl hy (by rw [irem_eq_mod x y]; exact r)) k
theorem g_ldiv (hA : At T m c below) (hx : p.tables.exec = Jvm.exec) {x y : Int64} (hd : decode c.code pc = .ok (.ldiv, 1)) (hy : y ≠ 0) (hq : pc + 1 = q) (k : Go p e below Φ (T.setTop (mkF m q L (.long (x / y) :: S)))) : Go p e below Φ (T.setTop (mkF m pc L (.long y :: .long x :: S))) := by
  subst hq; exact Go.by (fun _ => XS.ldiv hA hx rfl hd rfl hy) k
theorem g_lrem (hA : At T m c below) (hx : p.tables.exec = Jvm.exec) {x y : Int64} (hd : decode c.code pc = .ok (.lrem, 1)) (hy : y ≠ 0) (hq : pc + 1 = q) (k : Go p e below Φ (T.setTop (mkF m q L (.long (x % y) :: S)))) : Go p e below Φ (T.setTop (mkF m pc L (.long y :: .long x :: S))) := by
  subst hq; exact Go.by (fun _ => fun r => XS.lrem hA hx rfl hd rfl hy (by rw [lrem_mod x y]; exact r)) k
theorem g_ineg (hA : At T m c below) (hx : p.tables.exec = Jvm.exec) {x : Int32} (hd : decode c.code pc = .ok (.ineg, 1)) (hq : pc + 1 = q) (k : Go p e below Φ (T.setTop (mkF m q L (.int (-x) :: S)))) : Go p e below Φ (T.setTop (mkF m pc L (.int x :: S))) := by
  subst hq; exact Go.by (fun _ => XS.ineg hA hx rfl hd rfl) k
theorem g_i2l (hA : At T m c below) (hx : p.tables.exec = Jvm.exec) {x : Int32} (hd : decode c.code pc = .ok (.i2l, 1)) (hq : pc + 1 = q) (k : Go p e below Φ (T.setTop (mkF m q L (.long x.toInt64 :: S)))) : Go p e below Φ (T.setTop (mkF m pc L (.int x :: S))) := by
  subst hq; exact Go.by (fun _ => XS.i2l hA hx rfl hd rfl) k
theorem g_l2i (hA : At T m c below) (hx : p.tables.exec = Jvm.exec) {x : Int64} (hd : decode c.code pc = .ok (.l2i, 1)) (hq : pc + 1 = q) (k : Go p e below Φ (T.setTop (mkF m q L (.int x.toInt32 :: S)))) : Go p e below Φ (T.setTop (mkF m pc L (.long x :: S))) := by
  subst hq; exact Go.by (fun _ => XS.l2i hA hx rfl hd rfl) k
theorem g_i2c (hA : At T m c below) (hx : p.tables.exec = Jvm.exec) {x : Int32} (hd : decode c.code pc = .ok (.i2c, 1)) (hq : pc + 1 = q) (k : Go p e below Φ (T.setTop (mkF m q L (.int x.toUInt32.toUInt16.toUInt32.toInt32 :: S)))) : Go p e below Φ (T.setTop (mkF m pc L (.int x :: S))) := by
  subst hq; exact Go.by (fun _ => XS.i2c hA hx rfl hd rfl) k
theorem g_lcmp (hA : At T m c below) (hx : p.tables.exec = Jvm.exec) {x y : Int64} (hd : decode c.code pc = .ok (.lcmp, 1)) (hq : pc + 1 = q) (k : Go p e below Φ (T.setTop (mkF m q L (.int (lcmpW x y) :: S)))) : Go p e below Φ (T.setTop (mkF m pc L (.long y :: .long x :: S))) := by
  subst hq; exact Go.by (fun _ => XS.lcmp hA hx rfl hd rfl) k
theorem g_iinc (hA : At T m c below) (hx : p.tables.exec = Jvm.exec) {j : Nat} {i : Int} {x v : Int32} {L' : Array Slot} (hd : decode c.code pc = .ok (.iinc j i, 3)) (hl : L[j]? = some (.val (.int x))) (hv : x + Int32.ofInt i = v) (hl' : storeLocals L j (.int v) = some L') (hq : pc + 3 = q) (k : Go p e below Φ (T.setTop (mkF m q L' S))) : Go p e below Φ (T.setTop (mkF m pc L S)) := by
  subst hq; exact Go.by (fun _ => XS.iinc hA hx rfl hd hl (by rw [hv]; exact hl')) k
theorem g_dup (hA : At T m c below) (hx : p.tables.exec = Jvm.exec) {v : Value} (hd : decode c.code pc = .ok (.dup, 1)) (hv : v.category = 1) (hq : pc + 1 = q) (k : Go p e below Φ (T.setTop (mkF m q L (v :: v :: S)))) : Go p e below Φ (T.setTop (mkF m pc L (v :: S))) := by
  subst hq; exact Go.by (fun _ => XS.dup hA hx rfl hd rfl hv) k
theorem g_pop (hA : At T m c below) (hx : p.tables.exec = Jvm.exec) {v : Value} (hd : decode c.code pc = .ok (.pop, 1)) (hv : v.category = 1) (hq : pc + 1 = q) (k : Go p e below Φ (T.setTop (mkF m q L S))) : Go p e below Φ (T.setTop (mkF m pc L (v :: S))) := by
  subst hq; exact Go.by (fun _ => XS.pop hA hx rfl hd rfl hv) k
theorem g_dupX1 (hA : At T m c below) (hx : p.tables.exec = Jvm.exec) {v w : Value} (hd : decode c.code pc = .ok (.dup_x1, 1)) (hv : v.category = 1) (hw' : w.category = 1) (hq : pc + 1 = q) (k : Go p e below Φ (T.setTop (mkF m q L (v :: w :: v :: S)))) : Go p e below Φ (T.setTop (mkF m pc L (v :: w :: S))) := by
  subst hq; exact Go.by (fun _ => XS.dupX1 hA hx rfl hd rfl hv hw') k
theorem g_dup2 (hA : At T m c below) (hx : p.tables.exec = Jvm.exec) {v w : Value} (hd : decode c.code pc = .ok (.dup2, 1)) (hv : v.category = 1) (hw' : w.category = 1) (hq : pc + 1 = q) (k : Go p e below Φ (T.setTop (mkF m q L (v :: w :: v :: w :: S)))) : Go p e below Φ (T.setTop (mkF m pc L (v :: w :: S))) := by
  subst hq; exact Go.by (fun _ => Jvm.Free.XT.dup2 hA hx rfl hd rfl hv hw') k
theorem g_goto (hA : At T m c below) (hx : p.tables.exec = Jvm.exec) {o : Int} (hd : decode c.code pc = .ok (.goto o, 3)) (ho : 0 ≤ (pc : Int) + o) (hq : ((pc : Int) + o).toNat = q) (k : Go p e below Φ (T.setTop (mkF m q L S))) : Go p e below Φ (T.setTop (mkF m pc L S)) := Go.by (fun _ => XS.goto hA hx rfl rfl hd ho hq) k
theorem g_icmp (hA : At T m c below) (hx : p.tables.exec = Jvm.exec) {cd : ClassFile.Cond} {o : Int} {q0 : Nat} {x y : Int32} (hd : decode c.code pc = .ok (.if_icmp cd o, 3)) (ho : 0 ≤ (pc : Int) + o) (hq : ((pc : Int) + o).toNat = q) (hq0 : pc + 3 = q0) (k1 : if_icmp.holds cd x y = true → Go p e below Φ (T.setTop (mkF m q L S))) (k0 : if_icmp.holds cd x y = false → Go p e below Φ (T.setTop (mkF m q0 L S))) : Go p e below Φ (T.setTop (mkF m pc L (.int y :: .int x :: S))) := by
  subst hq0
  cases hb : if_icmp.holds cd x y
  · exact Go.by (fun _ => XS.icmpNo hA hx rfl hd rfl hb) (k0 hb)
  · exact Go.by (fun _ => XS.icmpYes hA hx rfl rfl hd rfl hb ho hq) (k1 hb)
theorem g_if0 (hA : At T m c below) (hx : p.tables.exec = Jvm.exec) {cd : ClassFile.Cond} {o : Int} {q0 : Nat} {x : Int32} (hd : decode c.code pc = .ok (.ifCond cd o, 3)) (ho : 0 ≤ (pc : Int) + o) (hq : ((pc : Int) + o).toNat = q) (hq0 : pc + 3 = q0) (k1 : if_icmp.holds cd x 0 = true → Go p e below Φ (T.setTop (mkF m q L S))) (k0 : if_icmp.holds cd x 0 = false → Go p e below Φ (T.setTop (mkF m q0 L S))) : Go p e below Φ (T.setTop (mkF m pc L (.int x :: S))) := by
  subst hq0
  cases hb : if_icmp.holds cd x 0
  · exact Go.by (fun _ => XS.ifNo hA hx rfl hd rfl ((if0 _ _).trans hb)) (k0 hb)
  · exact Go.by (fun _ => XS.ifYes hA hx rfl rfl hd rfl ((if0 _ _).trans hb) ho hq) (k1 hb)
theorem rel_eq {x y : Int32} : (if_icmp.holds .eq x y = true → x.toInt = y.toInt) ∧ (if_icmp.holds .eq x y = false → x.toInt ≠ y.toInt) := by
  constructor <;> intro h <;> simp [if_icmp.holds, Int32.lt_iff_toInt_lt, Int32.le_iff_toInt_le, ← Int32.toInt_inj] at h <;> omega
theorem g_icmp_eq (hA : At T m c below) (hx : p.tables.exec = Jvm.exec) {o : Int} {q0 : Nat} {x y : Int32} (hd : decode c.code pc = .ok (.if_icmp .eq o, 3)) (ho : 0 ≤ (pc : Int) + o) (hq : ((pc : Int) + o).toNat = q) (hq0 : pc + 3 = q0) (k1 : x.toInt = y.toInt → Go p e below Φ (T.setTop (mkF m q L S))) (k0 : x.toInt ≠ y.toInt → Go p e below Φ (T.setTop (mkF m q0 L S))) : Go p e below Φ (T.setTop (mkF m pc L (.int y :: .int x :: S))) := g_icmp hA hx hd ho hq hq0 (fun h => k1 (rel_eq.1 h)) (fun h => k0 (rel_eq.2 h))
theorem g_if_eq (hA : At T m c below) (hx : p.tables.exec = Jvm.exec) {o : Int} {q0 : Nat} {x : Int32} (hd : decode c.code pc = .ok (.ifCond .eq o, 3)) (ho : 0 ≤ (pc : Int) + o) (hq : ((pc : Int) + o).toNat = q) (hq0 : pc + 3 = q0) (k1 : x.toInt = 0 → Go p e below Φ (T.setTop (mkF m q L S))) (k0 : x.toInt ≠ 0 → Go p e below Φ (T.setTop (mkF m q0 L S))) : Go p e below Φ (T.setTop (mkF m pc L (.int x :: S))) := g_if0 hA hx hd ho hq hq0 (fun h => k1 (rel_eq.1 h)) (fun h => k0 (rel_eq.2 h))
theorem rell_eq {x y : Int64} : (if_icmp.holds .eq (lcmpW x y) 0 = true → x.toInt = y.toInt) ∧ (if_icmp.holds .eq (lcmpW x y) 0 = false → x.toInt ≠ y.toInt) := by
  have q := c_lcmp x y
  constructor <;> intro h
  · have h' := (rel_eq (x := lcmpW x y) (y := 0)).1 h; rw [show (0 : Int32).toInt = 0 from rfl] at h'; generalize lcmpW x y = w at *; omega
  · have h' := (rel_eq (x := lcmpW x y) (y := 0)).2 h; rw [show (0 : Int32).toInt = 0 from rfl] at h'; generalize lcmpW x y = w at *; omega
theorem g_lcmp_eq (hA : At T m c below) (hx : p.tables.exec = Jvm.exec) {o : Int} {q1 q0 : Nat} {x y : Int64} (hd : decode c.code pc = .ok (.lcmp, 1)) (hq1 : pc + 1 = q1) (hd' : decode c.code q1 = .ok (.ifCond .eq o, 3)) (ho : 0 ≤ (q1 : Int) + o) (hq : ((q1 : Int) + o).toNat = q) (hq0 : q1 + 3 = q0) (k1 : x.toInt = y.toInt → Go p e below Φ (T.setTop (mkF m q L S))) (k0 : x.toInt ≠ y.toInt → Go p e below Φ (T.setTop (mkF m q0 L S))) : Go p e below Φ (T.setTop (mkF m pc L (.long y :: .long x :: S))) := g_lcmp hA hx hd hq1 (g_if0 hA hx hd' ho hq hq0 (fun h => k1 (rell_eq.1 h)) (fun h => k0 (rell_eq.2 h)))
theorem rel_ne {x y : Int32} : (if_icmp.holds .ne x y = true → x.toInt ≠ y.toInt) ∧ (if_icmp.holds .ne x y = false → x.toInt = y.toInt) := by
  constructor <;> intro h <;> simp [if_icmp.holds, Int32.lt_iff_toInt_lt, Int32.le_iff_toInt_le, ← Int32.toInt_inj] at h <;> omega
theorem g_icmp_ne (hA : At T m c below) (hx : p.tables.exec = Jvm.exec) {o : Int} {q0 : Nat} {x y : Int32} (hd : decode c.code pc = .ok (.if_icmp .ne o, 3)) (ho : 0 ≤ (pc : Int) + o) (hq : ((pc : Int) + o).toNat = q) (hq0 : pc + 3 = q0) (k1 : x.toInt ≠ y.toInt → Go p e below Φ (T.setTop (mkF m q L S))) (k0 : x.toInt = y.toInt → Go p e below Φ (T.setTop (mkF m q0 L S))) : Go p e below Φ (T.setTop (mkF m pc L (.int y :: .int x :: S))) := g_icmp hA hx hd ho hq hq0 (fun h => k1 (rel_ne.1 h)) (fun h => k0 (rel_ne.2 h))
theorem g_if_ne (hA : At T m c below) (hx : p.tables.exec = Jvm.exec) {o : Int} {q0 : Nat} {x : Int32} (hd : decode c.code pc = .ok (.ifCond .ne o, 3)) (ho : 0 ≤ (pc : Int) + o) (hq : ((pc : Int) + o).toNat = q) (hq0 : pc + 3 = q0) (k1 : x.toInt ≠ 0 → Go p e below Φ (T.setTop (mkF m q L S))) (k0 : x.toInt = 0 → Go p e below Φ (T.setTop (mkF m q0 L S))) : Go p e below Φ (T.setTop (mkF m pc L (.int x :: S))) := g_if0 hA hx hd ho hq hq0 (fun h => k1 (rel_ne.1 h)) (fun h => k0 (rel_ne.2 h))
theorem rell_ne {x y : Int64} : (if_icmp.holds .ne (lcmpW x y) 0 = true → x.toInt ≠ y.toInt) ∧ (if_icmp.holds .ne (lcmpW x y) 0 = false → x.toInt = y.toInt) := by
  have q := c_lcmp x y
  constructor <;> intro h
  · have h' := (rel_ne (x := lcmpW x y) (y := 0)).1 h; rw [show (0 : Int32).toInt = 0 from rfl] at h'; generalize lcmpW x y = w at *; omega
  · have h' := (rel_ne (x := lcmpW x y) (y := 0)).2 h; rw [show (0 : Int32).toInt = 0 from rfl] at h'; generalize lcmpW x y = w at *; omega
theorem g_lcmp_ne (hA : At T m c below) (hx : p.tables.exec = Jvm.exec) {o : Int} {q1 q0 : Nat} {x y : Int64} (hd : decode c.code pc = .ok (.lcmp, 1)) (hq1 : pc + 1 = q1) (hd' : decode c.code q1 = .ok (.ifCond .ne o, 3)) (ho : 0 ≤ (q1 : Int) + o) (hq : ((q1 : Int) + o).toNat = q) (hq0 : q1 + 3 = q0) (k1 : x.toInt ≠ y.toInt → Go p e below Φ (T.setTop (mkF m q L S))) (k0 : x.toInt = y.toInt → Go p e below Φ (T.setTop (mkF m q0 L S))) : Go p e below Φ (T.setTop (mkF m pc L (.long y :: .long x :: S))) := g_lcmp hA hx hd hq1 (g_if0 hA hx hd' ho hq hq0 (fun h => k1 (rell_ne.1 h)) (fun h => k0 (rell_ne.2 h)))
theorem rel_lt {x y : Int32} : (if_icmp.holds .lt x y = true → x.toInt < y.toInt) ∧ (if_icmp.holds .lt x y = false → y.toInt ≤ x.toInt) := by
  constructor <;> intro h <;> simp [if_icmp.holds, Int32.lt_iff_toInt_lt, Int32.le_iff_toInt_le, ← Int32.toInt_inj] at h <;> omega
theorem g_icmp_lt (hA : At T m c below) (hx : p.tables.exec = Jvm.exec) {o : Int} {q0 : Nat} {x y : Int32} (hd : decode c.code pc = .ok (.if_icmp .lt o, 3)) (ho : 0 ≤ (pc : Int) + o) (hq : ((pc : Int) + o).toNat = q) (hq0 : pc + 3 = q0) (k1 : x.toInt < y.toInt → Go p e below Φ (T.setTop (mkF m q L S))) (k0 : y.toInt ≤ x.toInt → Go p e below Φ (T.setTop (mkF m q0 L S))) : Go p e below Φ (T.setTop (mkF m pc L (.int y :: .int x :: S))) := g_icmp hA hx hd ho hq hq0 (fun h => k1 (rel_lt.1 h)) (fun h => k0 (rel_lt.2 h))
theorem g_if_lt (hA : At T m c below) (hx : p.tables.exec = Jvm.exec) {o : Int} {q0 : Nat} {x : Int32} (hd : decode c.code pc = .ok (.ifCond .lt o, 3)) (ho : 0 ≤ (pc : Int) + o) (hq : ((pc : Int) + o).toNat = q) (hq0 : pc + 3 = q0) (k1 : x.toInt < 0 → Go p e below Φ (T.setTop (mkF m q L S))) (k0 : 0 ≤ x.toInt → Go p e below Φ (T.setTop (mkF m q0 L S))) : Go p e below Φ (T.setTop (mkF m pc L (.int x :: S))) := g_if0 hA hx hd ho hq hq0 (fun h => k1 (rel_lt.1 h)) (fun h => k0 (rel_lt.2 h))
theorem rell_lt {x y : Int64} : (if_icmp.holds .lt (lcmpW x y) 0 = true → x.toInt < y.toInt) ∧ (if_icmp.holds .lt (lcmpW x y) 0 = false → y.toInt ≤ x.toInt) := by
  have q := c_lcmp x y
  constructor <;> intro h
  · have h' := (rel_lt (x := lcmpW x y) (y := 0)).1 h; rw [show (0 : Int32).toInt = 0 from rfl] at h'; generalize lcmpW x y = w at *; omega
  · have h' := (rel_lt (x := lcmpW x y) (y := 0)).2 h; rw [show (0 : Int32).toInt = 0 from rfl] at h'; generalize lcmpW x y = w at *; omega
theorem g_lcmp_lt (hA : At T m c below) (hx : p.tables.exec = Jvm.exec) {o : Int} {q1 q0 : Nat} {x y : Int64} (hd : decode c.code pc = .ok (.lcmp, 1)) (hq1 : pc + 1 = q1) (hd' : decode c.code q1 = .ok (.ifCond .lt o, 3)) (ho : 0 ≤ (q1 : Int) + o) (hq : ((q1 : Int) + o).toNat = q) (hq0 : q1 + 3 = q0) (k1 : x.toInt < y.toInt → Go p e below Φ (T.setTop (mkF m q L S))) (k0 : y.toInt ≤ x.toInt → Go p e below Φ (T.setTop (mkF m q0 L S))) : Go p e below Φ (T.setTop (mkF m pc L (.long y :: .long x :: S))) := g_lcmp hA hx hd hq1 (g_if0 hA hx hd' ho hq hq0 (fun h => k1 (rell_lt.1 h)) (fun h => k0 (rell_lt.2 h)))
theorem rel_ge {x y : Int32} : (if_icmp.holds .ge x y = true → y.toInt ≤ x.toInt) ∧ (if_icmp.holds .ge x y = false → x.toInt < y.toInt) := by
  constructor <;> intro h <;> simp [if_icmp.holds, Int32.lt_iff_toInt_lt, Int32.le_iff_toInt_le, ← Int32.toInt_inj] at h <;> omega
theorem g_icmp_ge (hA : At T m c below) (hx : p.tables.exec = Jvm.exec) {o : Int} {q0 : Nat} {x y : Int32} (hd : decode c.code pc = .ok (.if_icmp .ge o, 3)) (ho : 0 ≤ (pc : Int) + o) (hq : ((pc : Int) + o).toNat = q) (hq0 : pc + 3 = q0) (k1 : y.toInt ≤ x.toInt → Go p e below Φ (T.setTop (mkF m q L S))) (k0 : x.toInt < y.toInt → Go p e below Φ (T.setTop (mkF m q0 L S))) : Go p e below Φ (T.setTop (mkF m pc L (.int y :: .int x :: S))) := g_icmp hA hx hd ho hq hq0 (fun h => k1 (rel_ge.1 h)) (fun h => k0 (rel_ge.2 h))
theorem g_if_ge (hA : At T m c below) (hx : p.tables.exec = Jvm.exec) {o : Int} {q0 : Nat} {x : Int32} (hd : decode c.code pc = .ok (.ifCond .ge o, 3)) (ho : 0 ≤ (pc : Int) + o) (hq : ((pc : Int) + o).toNat = q) (hq0 : pc + 3 = q0) (k1 : 0 ≤ x.toInt → Go p e below Φ (T.setTop (mkF m q L S))) (k0 : x.toInt < 0 → Go p e below Φ (T.setTop (mkF m q0 L S))) : Go p e below Φ (T.setTop (mkF m pc L (.int x :: S))) := g_if0 hA hx hd ho hq hq0 (fun h => k1 (rel_ge.1 h)) (fun h => k0 (rel_ge.2 h))
theorem rell_ge {x y : Int64} : (if_icmp.holds .ge (lcmpW x y) 0 = true → y.toInt ≤ x.toInt) ∧ (if_icmp.holds .ge (lcmpW x y) 0 = false → x.toInt < y.toInt) := by
  have q := c_lcmp x y
  constructor <;> intro h
  · have h' := (rel_ge (x := lcmpW x y) (y := 0)).1 h; rw [show (0 : Int32).toInt = 0 from rfl] at h'; generalize lcmpW x y = w at *; omega
  · have h' := (rel_ge (x := lcmpW x y) (y := 0)).2 h; rw [show (0 : Int32).toInt = 0 from rfl] at h'; generalize lcmpW x y = w at *; omega
theorem g_lcmp_ge (hA : At T m c below) (hx : p.tables.exec = Jvm.exec) {o : Int} {q1 q0 : Nat} {x y : Int64} (hd : decode c.code pc = .ok (.lcmp, 1)) (hq1 : pc + 1 = q1) (hd' : decode c.code q1 = .ok (.ifCond .ge o, 3)) (ho : 0 ≤ (q1 : Int) + o) (hq : ((q1 : Int) + o).toNat = q) (hq0 : q1 + 3 = q0) (k1 : y.toInt ≤ x.toInt → Go p e below Φ (T.setTop (mkF m q L S))) (k0 : x.toInt < y.toInt → Go p e below Φ (T.setTop (mkF m q0 L S))) : Go p e below Φ (T.setTop (mkF m pc L (.long y :: .long x :: S))) := g_lcmp hA hx hd hq1 (g_if0 hA hx hd' ho hq hq0 (fun h => k1 (rell_ge.1 h)) (fun h => k0 (rell_ge.2 h)))
theorem rel_gt {x y : Int32} : (if_icmp.holds .gt x y = true → y.toInt < x.toInt) ∧ (if_icmp.holds .gt x y = false → x.toInt ≤ y.toInt) := by
  constructor <;> intro h <;> simp [if_icmp.holds, Int32.lt_iff_toInt_lt, Int32.le_iff_toInt_le, ← Int32.toInt_inj] at h <;> omega
theorem g_icmp_gt (hA : At T m c below) (hx : p.tables.exec = Jvm.exec) {o : Int} {q0 : Nat} {x y : Int32} (hd : decode c.code pc = .ok (.if_icmp .gt o, 3)) (ho : 0 ≤ (pc : Int) + o) (hq : ((pc : Int) + o).toNat = q) (hq0 : pc + 3 = q0) (k1 : y.toInt < x.toInt → Go p e below Φ (T.setTop (mkF m q L S))) (k0 : x.toInt ≤ y.toInt → Go p e below Φ (T.setTop (mkF m q0 L S))) : Go p e below Φ (T.setTop (mkF m pc L (.int y :: .int x :: S))) := g_icmp hA hx hd ho hq hq0 (fun h => k1 (rel_gt.1 h)) (fun h => k0 (rel_gt.2 h))
theorem g_if_gt (hA : At T m c below) (hx : p.tables.exec = Jvm.exec) {o : Int} {q0 : Nat} {x : Int32} (hd : decode c.code pc = .ok (.ifCond .gt o, 3)) (ho : 0 ≤ (pc : Int) + o) (hq : ((pc : Int) + o).toNat = q) (hq0 : pc + 3 = q0) (k1 : 0 < x.toInt → Go p e below Φ (T.setTop (mkF m q L S))) (k0 : x.toInt ≤ 0 → Go p e below Φ (T.setTop (mkF m q0 L S))) : Go p e below Φ (T.setTop (mkF m pc L (.int x :: S))) := g_if0 hA hx hd ho hq hq0 (fun h => k1 (rel_gt.1 h)) (fun h => k0 (rel_gt.2 h))
theorem rell_gt {x y : Int64} : (if_icmp.holds .gt (lcmpW x y) 0 = true → y.toInt < x.toInt) ∧ (if_icmp.holds .gt (lcmpW x y) 0 = false → x.toInt ≤ y.toInt) := by
  have q := c_lcmp x y
  constructor <;> intro h
  · have h' := (rel_gt (x := lcmpW x y) (y := 0)).1 h; rw [show (0 : Int32).toInt = 0 from rfl] at h'; generalize lcmpW x y = w at *; omega
  · have h' := (rel_gt (x := lcmpW x y) (y := 0)).2 h; rw [show (0 : Int32).toInt = 0 from rfl] at h'; generalize lcmpW x y = w at *; omega
theorem g_lcmp_gt (hA : At T m c below) (hx : p.tables.exec = Jvm.exec) {o : Int} {q1 q0 : Nat} {x y : Int64} (hd : decode c.code pc = .ok (.lcmp, 1)) (hq1 : pc + 1 = q1) (hd' : decode c.code q1 = .ok (.ifCond .gt o, 3)) (ho : 0 ≤ (q1 : Int) + o) (hq : ((q1 : Int) + o).toNat = q) (hq0 : q1 + 3 = q0) (k1 : y.toInt < x.toInt → Go p e below Φ (T.setTop (mkF m q L S))) (k0 : x.toInt ≤ y.toInt → Go p e below Φ (T.setTop (mkF m q0 L S))) : Go p e below Φ (T.setTop (mkF m pc L (.long y :: .long x :: S))) := g_lcmp hA hx hd hq1 (g_if0 hA hx hd' ho hq hq0 (fun h => k1 (rell_gt.1 h)) (fun h => k0 (rell_gt.2 h)))
theorem rel_le {x y : Int32} : (if_icmp.holds .le x y = true → x.toInt ≤ y.toInt) ∧ (if_icmp.holds .le x y = false → y.toInt < x.toInt) := by
  constructor <;> intro h <;> simp [if_icmp.holds, Int32.lt_iff_toInt_lt, Int32.le_iff_toInt_le, ← Int32.toInt_inj] at h <;> omega
theorem g_icmp_le (hA : At T m c below) (hx : p.tables.exec = Jvm.exec) {o : Int} {q0 : Nat} {x y : Int32} (hd : decode c.code pc = .ok (.if_icmp .le o, 3)) (ho : 0 ≤ (pc : Int) + o) (hq : ((pc : Int) + o).toNat = q) (hq0 : pc + 3 = q0) (k1 : x.toInt ≤ y.toInt → Go p e below Φ (T.setTop (mkF m q L S))) (k0 : y.toInt < x.toInt → Go p e below Φ (T.setTop (mkF m q0 L S))) : Go p e below Φ (T.setTop (mkF m pc L (.int y :: .int x :: S))) := g_icmp hA hx hd ho hq hq0 (fun h => k1 (rel_le.1 h)) (fun h => k0 (rel_le.2 h))
theorem g_if_le (hA : At T m c below) (hx : p.tables.exec = Jvm.exec) {o : Int} {q0 : Nat} {x : Int32} (hd : decode c.code pc = .ok (.ifCond .le o, 3)) (ho : 0 ≤ (pc : Int) + o) (hq : ((pc : Int) + o).toNat = q) (hq0 : pc + 3 = q0) (k1 : x.toInt ≤ 0 → Go p e below Φ (T.setTop (mkF m q L S))) (k0 : 0 < x.toInt → Go p e below Φ (T.setTop (mkF m q0 L S))) : Go p e below Φ (T.setTop (mkF m pc L (.int x :: S))) := g_if0 hA hx hd ho hq hq0 (fun h => k1 (rel_le.1 h)) (fun h => k0 (rel_le.2 h))
theorem rell_le {x y : Int64} : (if_icmp.holds .le (lcmpW x y) 0 = true → x.toInt ≤ y.toInt) ∧ (if_icmp.holds .le (lcmpW x y) 0 = false → y.toInt < x.toInt) := by
  have q := c_lcmp x y
  constructor <;> intro h
  · have h' := (rel_le (x := lcmpW x y) (y := 0)).1 h; rw [show (0 : Int32).toInt = 0 from rfl] at h'; generalize lcmpW x y = w at *; omega
  · have h' := (rel_le (x := lcmpW x y) (y := 0)).2 h; rw [show (0 : Int32).toInt = 0 from rfl] at h'; generalize lcmpW x y = w at *; omega
theorem g_lcmp_le (hA : At T m c below) (hx : p.tables.exec = Jvm.exec) {o : Int} {q1 q0 : Nat} {x y : Int64} (hd : decode c.code pc = .ok (.lcmp, 1)) (hq1 : pc + 1 = q1) (hd' : decode c.code q1 = .ok (.ifCond .le o, 3)) (ho : 0 ≤ (q1 : Int) + o) (hq : ((q1 : Int) + o).toNat = q) (hq0 : q1 + 3 = q0) (k1 : x.toInt ≤ y.toInt → Go p e below Φ (T.setTop (mkF m q L S))) (k0 : y.toInt < x.toInt → Go p e below Φ (T.setTop (mkF m q0 L S))) : Go p e below Φ (T.setTop (mkF m pc L (.long y :: .long x :: S))) := g_lcmp hA hx hd hq1 (g_if0 hA hx hd' ho hq hq0 (fun h => k1 (rell_le.1 h)) (fun h => k0 (rell_le.2 h)))
theorem g_ifB_ne (hA : At T m c below) (hx : p.tables.exec = Jvm.exec) {o : Int} {q0 : Nat} {b : Bool} (hd : decode c.code pc = .ok (.ifCond .ne o, 3)) (ho : 0 ≤ (pc : Int) + o) (hq : ((pc : Int) + o).toNat = q) (hq0 : pc + 3 = q0) (k1 : b = true → Go p e below Φ (T.setTop (mkF m q L S))) (k0 : b = false → Go p e below Φ (T.setTop (mkF m q0 L S))) : Go p e below Φ (T.setTop (mkF m pc L (.int (b2i b) :: S))) := g_if0 hA hx hd ho hq hq0 (fun h => k1 (by cases b <;> first | rfl | exact Bool.noConfusion h)) (fun h => k0 (by cases b <;> first | rfl | exact Bool.noConfusion h))
theorem g_ifB_eq (hA : At T m c below) (hx : p.tables.exec = Jvm.exec) {o : Int} {q0 : Nat} {b : Bool} (hd : decode c.code pc = .ok (.ifCond .eq o, 3)) (ho : 0 ≤ (pc : Int) + o) (hq : ((pc : Int) + o).toNat = q) (hq0 : pc + 3 = q0) (k1 : b = false → Go p e below Φ (T.setTop (mkF m q L S))) (k0 : b = true → Go p e below Φ (T.setTop (mkF m q0 L S))) : Go p e below Φ (T.setTop (mkF m pc L (.int (b2i b) :: S))) := g_if0 hA hx hd ho hq hq0 (fun h => k1 (by cases b <;> first | rfl | exact Bool.noConfusion h)) (fun h => k0 (by cases b <;> first | rfl | exact Bool.noConfusion h))
theorem g_sel_icmp_eq (hA : At T m c below) (hx : p.tables.exec = Jvm.exec) {o o' : Int} {z t t' : Nat} {x y : Int32} (hd : decode c.code pc = .ok (.if_icmp .eq o, 3)) (ho : 0 ≤ (pc : Int) + o) (hz' : ((pc : Int) + o).toNat = z) (ht0 : pc + 3 = t) (hz : decode c.code z = .ok (.iconst 0, 1)) (ht : decode c.code t = .ok (.iconst 1, 1)) (hg : decode c.code t' = .ok (.goto o', 3)) (ht' : t + 1 = t') (hog : 0 ≤ (t' : Int) + o') (hj : ((t' : Int) + o').toNat = q) (hj' : z + 1 = q) (k : Go p e below Φ (T.setTop (mkF m q L (.int (b2i (decide (x.toInt ≠ y.toInt))) :: S)))) : Go p e below Φ (T.setTop (mkF m pc L (.int y :: .int x :: S))) :=
  g_icmp_eq hA hx hd ho hz' ht0 (fun h => g_iconst hA hx hz rfl hj' (by rw [show decide (x.toInt ≠ y.toInt) = false from decide_eq_false (by omega)] at k; exact k)) (fun h => g_iconst hA hx ht rfl ht' (g_goto hA hx hg hog hj (by rw [show decide (x.toInt ≠ y.toInt) = true from decide_eq_true (by omega)] at k; exact k)))
theorem g_sel_icmp_ne (hA : At T m c below) (hx : p.tables.exec = Jvm.exec) {o o' : Int} {z t t' : Nat} {x y : Int32} (hd : decode c.code pc = .ok (.if_icmp .ne o, 3)) (ho : 0 ≤ (pc : Int) + o) (hz' : ((pc : Int) + o).toNat = z) (ht0 : pc + 3 = t) (hz : decode c.code z = .ok (.iconst 0, 1)) (ht : decode c.code t = .ok (.iconst 1, 1)) (hg : decode c.code t' = .ok (.goto o', 3)) (ht' : t + 1 = t') (hog : 0 ≤ (t' : Int) + o') (hj : ((t' : Int) + o').toNat = q) (hj' : z + 1 = q) (k : Go p e below Φ (T.setTop (mkF m q L (.int (b2i (decide (x.toInt = y.toInt))) :: S)))) : Go p e below Φ (T.setTop (mkF m pc L (.int y :: .int x :: S))) :=
  g_icmp_ne hA hx hd ho hz' ht0 (fun h => g_iconst hA hx hz rfl hj' (by rw [show decide (x.toInt = y.toInt) = false from decide_eq_false (by omega)] at k; exact k)) (fun h => g_iconst hA hx ht rfl ht' (g_goto hA hx hg hog hj (by rw [show decide (x.toInt = y.toInt) = true from decide_eq_true (by omega)] at k; exact k)))
theorem g_sel_icmp_lt (hA : At T m c below) (hx : p.tables.exec = Jvm.exec) {o o' : Int} {z t t' : Nat} {x y : Int32} (hd : decode c.code pc = .ok (.if_icmp .lt o, 3)) (ho : 0 ≤ (pc : Int) + o) (hz' : ((pc : Int) + o).toNat = z) (ht0 : pc + 3 = t) (hz : decode c.code z = .ok (.iconst 0, 1)) (ht : decode c.code t = .ok (.iconst 1, 1)) (hg : decode c.code t' = .ok (.goto o', 3)) (ht' : t + 1 = t') (hog : 0 ≤ (t' : Int) + o') (hj : ((t' : Int) + o').toNat = q) (hj' : z + 1 = q) (k : Go p e below Φ (T.setTop (mkF m q L (.int (b2i (decide (y.toInt ≤ x.toInt))) :: S)))) : Go p e below Φ (T.setTop (mkF m pc L (.int y :: .int x :: S))) :=
  g_icmp_lt hA hx hd ho hz' ht0 (fun h => g_iconst hA hx hz rfl hj' (by rw [show decide (y.toInt ≤ x.toInt) = false from decide_eq_false (by omega)] at k; exact k)) (fun h => g_iconst hA hx ht rfl ht' (g_goto hA hx hg hog hj (by rw [show decide (y.toInt ≤ x.toInt) = true from decide_eq_true (by omega)] at k; exact k)))
theorem g_sel_icmp_ge (hA : At T m c below) (hx : p.tables.exec = Jvm.exec) {o o' : Int} {z t t' : Nat} {x y : Int32} (hd : decode c.code pc = .ok (.if_icmp .ge o, 3)) (ho : 0 ≤ (pc : Int) + o) (hz' : ((pc : Int) + o).toNat = z) (ht0 : pc + 3 = t) (hz : decode c.code z = .ok (.iconst 0, 1)) (ht : decode c.code t = .ok (.iconst 1, 1)) (hg : decode c.code t' = .ok (.goto o', 3)) (ht' : t + 1 = t') (hog : 0 ≤ (t' : Int) + o') (hj : ((t' : Int) + o').toNat = q) (hj' : z + 1 = q) (k : Go p e below Φ (T.setTop (mkF m q L (.int (b2i (decide (x.toInt < y.toInt))) :: S)))) : Go p e below Φ (T.setTop (mkF m pc L (.int y :: .int x :: S))) :=
  g_icmp_ge hA hx hd ho hz' ht0 (fun h => g_iconst hA hx hz rfl hj' (by rw [show decide (x.toInt < y.toInt) = false from decide_eq_false (by omega)] at k; exact k)) (fun h => g_iconst hA hx ht rfl ht' (g_goto hA hx hg hog hj (by rw [show decide (x.toInt < y.toInt) = true from decide_eq_true (by omega)] at k; exact k)))
theorem g_sel_icmp_gt (hA : At T m c below) (hx : p.tables.exec = Jvm.exec) {o o' : Int} {z t t' : Nat} {x y : Int32} (hd : decode c.code pc = .ok (.if_icmp .gt o, 3)) (ho : 0 ≤ (pc : Int) + o) (hz' : ((pc : Int) + o).toNat = z) (ht0 : pc + 3 = t) (hz : decode c.code z = .ok (.iconst 0, 1)) (ht : decode c.code t = .ok (.iconst 1, 1)) (hg : decode c.code t' = .ok (.goto o', 3)) (ht' : t + 1 = t') (hog : 0 ≤ (t' : Int) + o') (hj : ((t' : Int) + o').toNat = q) (hj' : z + 1 = q) (k : Go p e below Φ (T.setTop (mkF m q L (.int (b2i (decide (x.toInt ≤ y.toInt))) :: S)))) : Go p e below Φ (T.setTop (mkF m pc L (.int y :: .int x :: S))) :=
  g_icmp_gt hA hx hd ho hz' ht0 (fun h => g_iconst hA hx hz rfl hj' (by rw [show decide (x.toInt ≤ y.toInt) = false from decide_eq_false (by omega)] at k; exact k)) (fun h => g_iconst hA hx ht rfl ht' (g_goto hA hx hg hog hj (by rw [show decide (x.toInt ≤ y.toInt) = true from decide_eq_true (by omega)] at k; exact k)))
theorem g_sel_icmp_le (hA : At T m c below) (hx : p.tables.exec = Jvm.exec) {o o' : Int} {z t t' : Nat} {x y : Int32} (hd : decode c.code pc = .ok (.if_icmp .le o, 3)) (ho : 0 ≤ (pc : Int) + o) (hz' : ((pc : Int) + o).toNat = z) (ht0 : pc + 3 = t) (hz : decode c.code z = .ok (.iconst 0, 1)) (ht : decode c.code t = .ok (.iconst 1, 1)) (hg : decode c.code t' = .ok (.goto o', 3)) (ht' : t + 1 = t') (hog : 0 ≤ (t' : Int) + o') (hj : ((t' : Int) + o').toNat = q) (hj' : z + 1 = q) (k : Go p e below Φ (T.setTop (mkF m q L (.int (b2i (decide (y.toInt < x.toInt))) :: S)))) : Go p e below Φ (T.setTop (mkF m pc L (.int y :: .int x :: S))) :=
  g_icmp_le hA hx hd ho hz' ht0 (fun h => g_iconst hA hx hz rfl hj' (by rw [show decide (y.toInt < x.toInt) = false from decide_eq_false (by omega)] at k; exact k)) (fun h => g_iconst hA hx ht rfl ht' (g_goto hA hx hg hog hj (by rw [show decide (y.toInt < x.toInt) = true from decide_eq_true (by omega)] at k; exact k)))
theorem g_sel_if_eq (hA : At T m c below) (hx : p.tables.exec = Jvm.exec) {o o' : Int} {z t t' : Nat} {x : Int32} (hd : decode c.code pc = .ok (.ifCond .eq o, 3)) (ho : 0 ≤ (pc : Int) + o) (hz' : ((pc : Int) + o).toNat = z) (ht0 : pc + 3 = t) (hz : decode c.code z = .ok (.iconst 0, 1)) (ht : decode c.code t = .ok (.iconst 1, 1)) (hg : decode c.code t' = .ok (.goto o', 3)) (ht' : t + 1 = t') (hog : 0 ≤ (t' : Int) + o') (hj : ((t' : Int) + o').toNat = q) (hj' : z + 1 = q) (k : Go p e below Φ (T.setTop (mkF m q L (.int (b2i (decide (x.toInt ≠ 0))) :: S)))) : Go p e below Φ (T.setTop (mkF m pc L (.int x :: S))) :=
  g_if_eq hA hx hd ho hz' ht0 (fun h => g_iconst hA hx hz rfl hj' (by rw [show decide (x.toInt ≠ 0) = false from decide_eq_false (by omega)] at k; exact k)) (fun h => g_iconst hA hx ht rfl ht' (g_goto hA hx hg hog hj (by rw [show decide (x.toInt ≠ 0) = true from decide_eq_true (by omega)] at k; exact k)))
theorem g_sel_if_ne (hA : At T m c below) (hx : p.tables.exec = Jvm.exec) {o o' : Int} {z t t' : Nat} {x : Int32} (hd : decode c.code pc = .ok (.ifCond .ne o, 3)) (ho : 0 ≤ (pc : Int) + o) (hz' : ((pc : Int) + o).toNat = z) (ht0 : pc + 3 = t) (hz : decode c.code z = .ok (.iconst 0, 1)) (ht : decode c.code t = .ok (.iconst 1, 1)) (hg : decode c.code t' = .ok (.goto o', 3)) (ht' : t + 1 = t') (hog : 0 ≤ (t' : Int) + o') (hj : ((t' : Int) + o').toNat = q) (hj' : z + 1 = q) (k : Go p e below Φ (T.setTop (mkF m q L (.int (b2i (decide (x.toInt = 0))) :: S)))) : Go p e below Φ (T.setTop (mkF m pc L (.int x :: S))) :=
  g_if_ne hA hx hd ho hz' ht0 (fun h => g_iconst hA hx hz rfl hj' (by rw [show decide (x.toInt = 0) = false from decide_eq_false (by omega)] at k; exact k)) (fun h => g_iconst hA hx ht rfl ht' (g_goto hA hx hg hog hj (by rw [show decide (x.toInt = 0) = true from decide_eq_true (by omega)] at k; exact k)))
theorem g_sel_if_lt (hA : At T m c below) (hx : p.tables.exec = Jvm.exec) {o o' : Int} {z t t' : Nat} {x : Int32} (hd : decode c.code pc = .ok (.ifCond .lt o, 3)) (ho : 0 ≤ (pc : Int) + o) (hz' : ((pc : Int) + o).toNat = z) (ht0 : pc + 3 = t) (hz : decode c.code z = .ok (.iconst 0, 1)) (ht : decode c.code t = .ok (.iconst 1, 1)) (hg : decode c.code t' = .ok (.goto o', 3)) (ht' : t + 1 = t') (hog : 0 ≤ (t' : Int) + o') (hj : ((t' : Int) + o').toNat = q) (hj' : z + 1 = q) (k : Go p e below Φ (T.setTop (mkF m q L (.int (b2i (decide (0 ≤ x.toInt))) :: S)))) : Go p e below Φ (T.setTop (mkF m pc L (.int x :: S))) :=
  g_if_lt hA hx hd ho hz' ht0 (fun h => g_iconst hA hx hz rfl hj' (by rw [show decide (0 ≤ x.toInt) = false from decide_eq_false (by omega)] at k; exact k)) (fun h => g_iconst hA hx ht rfl ht' (g_goto hA hx hg hog hj (by rw [show decide (0 ≤ x.toInt) = true from decide_eq_true (by omega)] at k; exact k)))
theorem g_sel_if_ge (hA : At T m c below) (hx : p.tables.exec = Jvm.exec) {o o' : Int} {z t t' : Nat} {x : Int32} (hd : decode c.code pc = .ok (.ifCond .ge o, 3)) (ho : 0 ≤ (pc : Int) + o) (hz' : ((pc : Int) + o).toNat = z) (ht0 : pc + 3 = t) (hz : decode c.code z = .ok (.iconst 0, 1)) (ht : decode c.code t = .ok (.iconst 1, 1)) (hg : decode c.code t' = .ok (.goto o', 3)) (ht' : t + 1 = t') (hog : 0 ≤ (t' : Int) + o') (hj : ((t' : Int) + o').toNat = q) (hj' : z + 1 = q) (k : Go p e below Φ (T.setTop (mkF m q L (.int (b2i (decide (x.toInt < 0))) :: S)))) : Go p e below Φ (T.setTop (mkF m pc L (.int x :: S))) :=
  g_if_ge hA hx hd ho hz' ht0 (fun h => g_iconst hA hx hz rfl hj' (by rw [show decide (x.toInt < 0) = false from decide_eq_false (by omega)] at k; exact k)) (fun h => g_iconst hA hx ht rfl ht' (g_goto hA hx hg hog hj (by rw [show decide (x.toInt < 0) = true from decide_eq_true (by omega)] at k; exact k)))
theorem g_sel_if_gt (hA : At T m c below) (hx : p.tables.exec = Jvm.exec) {o o' : Int} {z t t' : Nat} {x : Int32} (hd : decode c.code pc = .ok (.ifCond .gt o, 3)) (ho : 0 ≤ (pc : Int) + o) (hz' : ((pc : Int) + o).toNat = z) (ht0 : pc + 3 = t) (hz : decode c.code z = .ok (.iconst 0, 1)) (ht : decode c.code t = .ok (.iconst 1, 1)) (hg : decode c.code t' = .ok (.goto o', 3)) (ht' : t + 1 = t') (hog : 0 ≤ (t' : Int) + o') (hj : ((t' : Int) + o').toNat = q) (hj' : z + 1 = q) (k : Go p e below Φ (T.setTop (mkF m q L (.int (b2i (decide (x.toInt ≤ 0))) :: S)))) : Go p e below Φ (T.setTop (mkF m pc L (.int x :: S))) :=
  g_if_gt hA hx hd ho hz' ht0 (fun h => g_iconst hA hx hz rfl hj' (by rw [show decide (x.toInt ≤ 0) = false from decide_eq_false (by omega)] at k; exact k)) (fun h => g_iconst hA hx ht rfl ht' (g_goto hA hx hg hog hj (by rw [show decide (x.toInt ≤ 0) = true from decide_eq_true (by omega)] at k; exact k)))
theorem g_sel_if_le (hA : At T m c below) (hx : p.tables.exec = Jvm.exec) {o o' : Int} {z t t' : Nat} {x : Int32} (hd : decode c.code pc = .ok (.ifCond .le o, 3)) (ho : 0 ≤ (pc : Int) + o) (hz' : ((pc : Int) + o).toNat = z) (ht0 : pc + 3 = t) (hz : decode c.code z = .ok (.iconst 0, 1)) (ht : decode c.code t = .ok (.iconst 1, 1)) (hg : decode c.code t' = .ok (.goto o', 3)) (ht' : t + 1 = t') (hog : 0 ≤ (t' : Int) + o') (hj : ((t' : Int) + o').toNat = q) (hj' : z + 1 = q) (k : Go p e below Φ (T.setTop (mkF m q L (.int (b2i (decide (0 < x.toInt))) :: S)))) : Go p e below Φ (T.setTop (mkF m pc L (.int x :: S))) :=
  g_if_le hA hx hd ho hz' ht0 (fun h => g_iconst hA hx hz rfl hj' (by rw [show decide (0 < x.toInt) = false from decide_eq_false (by omega)] at k; exact k)) (fun h => g_iconst hA hx ht rfl ht' (g_goto hA hx hg hog hj (by rw [show decide (0 < x.toInt) = true from decide_eq_true (by omega)] at k; exact k)))
theorem g_sel_lcmp_eq (hA : At T m c below) (hx : p.tables.exec = Jvm.exec) {o o' : Int} {q1 z t t' : Nat} {x y : Int64} (hd : decode c.code pc = .ok (.lcmp, 1)) (hq1 : pc + 1 = q1) (hd' : decode c.code q1 = .ok (.ifCond .eq o, 3)) (ho : 0 ≤ (q1 : Int) + o) (hz' : ((q1 : Int) + o).toNat = z) (ht0 : q1 + 3 = t) (hz : decode c.code z = .ok (.iconst 0, 1)) (ht : decode c.code t = .ok (.iconst 1, 1)) (hg : decode c.code t' = .ok (.goto o', 3)) (ht' : t + 1 = t') (hog : 0 ≤ (t' : Int) + o') (hj : ((t' : Int) + o').toNat = q) (hj' : z + 1 = q) (k : Go p e below Φ (T.setTop (mkF m q L (.int (b2i (decide (x.toInt ≠ y.toInt))) :: S)))) : Go p e below Φ (T.setTop (mkF m pc L (.long y :: .long x :: S))) :=
  g_lcmp_eq hA hx hd hq1 hd' ho hz' ht0 (fun h => g_iconst hA hx hz rfl hj' (by rw [show decide (x.toInt ≠ y.toInt) = false from decide_eq_false (by omega)] at k; exact k)) (fun h => g_iconst hA hx ht rfl ht' (g_goto hA hx hg hog hj (by rw [show decide (x.toInt ≠ y.toInt) = true from decide_eq_true (by omega)] at k; exact k)))
theorem g_sel_lcmp_ne (hA : At T m c below) (hx : p.tables.exec = Jvm.exec) {o o' : Int} {q1 z t t' : Nat} {x y : Int64} (hd : decode c.code pc = .ok (.lcmp, 1)) (hq1 : pc + 1 = q1) (hd' : decode c.code q1 = .ok (.ifCond .ne o, 3)) (ho : 0 ≤ (q1 : Int) + o) (hz' : ((q1 : Int) + o).toNat = z) (ht0 : q1 + 3 = t) (hz : decode c.code z = .ok (.iconst 0, 1)) (ht : decode c.code t = .ok (.iconst 1, 1)) (hg : decode c.code t' = .ok (.goto o', 3)) (ht' : t + 1 = t') (hog : 0 ≤ (t' : Int) + o') (hj : ((t' : Int) + o').toNat = q) (hj' : z + 1 = q) (k : Go p e below Φ (T.setTop (mkF m q L (.int (b2i (decide (x.toInt = y.toInt))) :: S)))) : Go p e below Φ (T.setTop (mkF m pc L (.long y :: .long x :: S))) :=
  g_lcmp_ne hA hx hd hq1 hd' ho hz' ht0 (fun h => g_iconst hA hx hz rfl hj' (by rw [show decide (x.toInt = y.toInt) = false from decide_eq_false (by omega)] at k; exact k)) (fun h => g_iconst hA hx ht rfl ht' (g_goto hA hx hg hog hj (by rw [show decide (x.toInt = y.toInt) = true from decide_eq_true (by omega)] at k; exact k)))
theorem g_sel_lcmp_lt (hA : At T m c below) (hx : p.tables.exec = Jvm.exec) {o o' : Int} {q1 z t t' : Nat} {x y : Int64} (hd : decode c.code pc = .ok (.lcmp, 1)) (hq1 : pc + 1 = q1) (hd' : decode c.code q1 = .ok (.ifCond .lt o, 3)) (ho : 0 ≤ (q1 : Int) + o) (hz' : ((q1 : Int) + o).toNat = z) (ht0 : q1 + 3 = t) (hz : decode c.code z = .ok (.iconst 0, 1)) (ht : decode c.code t = .ok (.iconst 1, 1)) (hg : decode c.code t' = .ok (.goto o', 3)) (ht' : t + 1 = t') (hog : 0 ≤ (t' : Int) + o') (hj : ((t' : Int) + o').toNat = q) (hj' : z + 1 = q) (k : Go p e below Φ (T.setTop (mkF m q L (.int (b2i (decide (y.toInt ≤ x.toInt))) :: S)))) : Go p e below Φ (T.setTop (mkF m pc L (.long y :: .long x :: S))) :=
  g_lcmp_lt hA hx hd hq1 hd' ho hz' ht0 (fun h => g_iconst hA hx hz rfl hj' (by rw [show decide (y.toInt ≤ x.toInt) = false from decide_eq_false (by omega)] at k; exact k)) (fun h => g_iconst hA hx ht rfl ht' (g_goto hA hx hg hog hj (by rw [show decide (y.toInt ≤ x.toInt) = true from decide_eq_true (by omega)] at k; exact k)))
theorem g_sel_lcmp_ge (hA : At T m c below) (hx : p.tables.exec = Jvm.exec) {o o' : Int} {q1 z t t' : Nat} {x y : Int64} (hd : decode c.code pc = .ok (.lcmp, 1)) (hq1 : pc + 1 = q1) (hd' : decode c.code q1 = .ok (.ifCond .ge o, 3)) (ho : 0 ≤ (q1 : Int) + o) (hz' : ((q1 : Int) + o).toNat = z) (ht0 : q1 + 3 = t) (hz : decode c.code z = .ok (.iconst 0, 1)) (ht : decode c.code t = .ok (.iconst 1, 1)) (hg : decode c.code t' = .ok (.goto o', 3)) (ht' : t + 1 = t') (hog : 0 ≤ (t' : Int) + o') (hj : ((t' : Int) + o').toNat = q) (hj' : z + 1 = q) (k : Go p e below Φ (T.setTop (mkF m q L (.int (b2i (decide (x.toInt < y.toInt))) :: S)))) : Go p e below Φ (T.setTop (mkF m pc L (.long y :: .long x :: S))) :=
  g_lcmp_ge hA hx hd hq1 hd' ho hz' ht0 (fun h => g_iconst hA hx hz rfl hj' (by rw [show decide (x.toInt < y.toInt) = false from decide_eq_false (by omega)] at k; exact k)) (fun h => g_iconst hA hx ht rfl ht' (g_goto hA hx hg hog hj (by rw [show decide (x.toInt < y.toInt) = true from decide_eq_true (by omega)] at k; exact k)))
theorem g_sel_lcmp_gt (hA : At T m c below) (hx : p.tables.exec = Jvm.exec) {o o' : Int} {q1 z t t' : Nat} {x y : Int64} (hd : decode c.code pc = .ok (.lcmp, 1)) (hq1 : pc + 1 = q1) (hd' : decode c.code q1 = .ok (.ifCond .gt o, 3)) (ho : 0 ≤ (q1 : Int) + o) (hz' : ((q1 : Int) + o).toNat = z) (ht0 : q1 + 3 = t) (hz : decode c.code z = .ok (.iconst 0, 1)) (ht : decode c.code t = .ok (.iconst 1, 1)) (hg : decode c.code t' = .ok (.goto o', 3)) (ht' : t + 1 = t') (hog : 0 ≤ (t' : Int) + o') (hj : ((t' : Int) + o').toNat = q) (hj' : z + 1 = q) (k : Go p e below Φ (T.setTop (mkF m q L (.int (b2i (decide (x.toInt ≤ y.toInt))) :: S)))) : Go p e below Φ (T.setTop (mkF m pc L (.long y :: .long x :: S))) :=
  g_lcmp_gt hA hx hd hq1 hd' ho hz' ht0 (fun h => g_iconst hA hx hz rfl hj' (by rw [show decide (x.toInt ≤ y.toInt) = false from decide_eq_false (by omega)] at k; exact k)) (fun h => g_iconst hA hx ht rfl ht' (g_goto hA hx hg hog hj (by rw [show decide (x.toInt ≤ y.toInt) = true from decide_eq_true (by omega)] at k; exact k)))
theorem g_sel_lcmp_le (hA : At T m c below) (hx : p.tables.exec = Jvm.exec) {o o' : Int} {q1 z t t' : Nat} {x y : Int64} (hd : decode c.code pc = .ok (.lcmp, 1)) (hq1 : pc + 1 = q1) (hd' : decode c.code q1 = .ok (.ifCond .le o, 3)) (ho : 0 ≤ (q1 : Int) + o) (hz' : ((q1 : Int) + o).toNat = z) (ht0 : q1 + 3 = t) (hz : decode c.code z = .ok (.iconst 0, 1)) (ht : decode c.code t = .ok (.iconst 1, 1)) (hg : decode c.code t' = .ok (.goto o', 3)) (ht' : t + 1 = t') (hog : 0 ≤ (t' : Int) + o') (hj : ((t' : Int) + o').toNat = q) (hj' : z + 1 = q) (k : Go p e below Φ (T.setTop (mkF m q L (.int (b2i (decide (y.toInt < x.toInt))) :: S)))) : Go p e below Φ (T.setTop (mkF m pc L (.long y :: .long x :: S))) :=
  g_lcmp_le hA hx hd hq1 hd' ho hz' ht0 (fun h => g_iconst hA hx hz rfl hj' (by rw [show decide (y.toInt < x.toInt) = false from decide_eq_false (by omega)] at k; exact k)) (fun h => g_iconst hA hx ht rfl ht' (g_goto hA hx hg hog hj (by rw [show decide (y.toInt < x.toInt) = true from decide_eq_true (by omega)] at k; exact k)))
theorem g_selB_ne (hA : At T m c below) (hx : p.tables.exec = Jvm.exec) {o o' : Int} {z t t' : Nat} {b : Bool} (hd : decode c.code pc = .ok (.ifCond .ne o, 3)) (ho : 0 ≤ (pc : Int) + o) (hz' : ((pc : Int) + o).toNat = z) (ht0 : pc + 3 = t) (hz : decode c.code z = .ok (.iconst 0, 1)) (ht : decode c.code t = .ok (.iconst 1, 1)) (hg : decode c.code t' = .ok (.goto o', 3)) (ht' : t + 1 = t') (hog : 0 ≤ (t' : Int) + o') (hj : ((t' : Int) + o').toNat = q) (hj' : z + 1 = q) (k : Go p e below Φ (T.setTop (mkF m q L (.int (b2i (!b)) :: S)))) : Go p e below Φ (T.setTop (mkF m pc L (.int (b2i b) :: S))) :=
  g_ifB_ne hA hx hd ho hz' ht0 (fun h => g_iconst hA hx hz rfl hj' (by subst h; exact k)) (fun h => g_iconst hA hx ht rfl ht' (g_goto hA hx hg hog hj (by subst h; exact k)))
theorem g_selB_eq (hA : At T m c below) (hx : p.tables.exec = Jvm.exec) {o o' : Int} {z t t' : Nat} {b : Bool} (hd : decode c.code pc = .ok (.ifCond .eq o, 3)) (ho : 0 ≤ (pc : Int) + o) (hz' : ((pc : Int) + o).toNat = z) (ht0 : pc + 3 = t) (hz : decode c.code z = .ok (.iconst 0, 1)) (ht : decode c.code t = .ok (.iconst 1, 1)) (hg : decode c.code t' = .ok (.goto o', 3)) (ht' : t + 1 = t') (hog : 0 ≤ (t' : Int) + o') (hj : ((t' : Int) + o').toNat = q) (hj' : z + 1 = q) (k : Go p e below Φ (T.setTop (mkF m q L (.int (b2i (b)) :: S)))) : Go p e below Φ (T.setTop (mkF m pc L (.int (b2i b) :: S))) :=
  g_ifB_eq hA hx hd ho hz' ht0 (fun h => g_iconst hA hx hz rfl hj' (by subst h; exact k)) (fun h => g_iconst hA hx ht rfl ht' (g_goto hA hx hg hog hj (by subst h; exact k)))
theorem g_selBB_ne (hA : At T m c below) (hx : p.tables.exec = Jvm.exec) {o o' : Int} {z t t' : Nat} {a b : Bool} (hd : decode c.code pc = .ok (.if_icmp .ne o, 3)) (ho : 0 ≤ (pc : Int) + o) (hz' : ((pc : Int) + o).toNat = z) (ht0 : pc + 3 = t) (hz : decode c.code z = .ok (.iconst 0, 1)) (ht : decode c.code t = .ok (.iconst 1, 1)) (hg : decode c.code t' = .ok (.goto o', 3)) (ht' : t + 1 = t') (hog : 0 ≤ (t' : Int) + o') (hj : ((t' : Int) + o').toNat = q) (hj' : z + 1 = q) (k : Go p e below Φ (T.setTop (mkF m q L (.int (b2i (a == b)) :: S)))) : Go p e below Φ (T.setTop (mkF m pc L (.int (b2i b) :: .int (b2i a) :: S))) :=
  g_icmp hA hx hd ho hz' ht0 (fun h => g_iconst hA hx hz rfl hj' (by cases a <;> cases b <;> first | exact k | exact Bool.noConfusion h)) (fun h => g_iconst hA hx ht rfl ht' (g_goto hA hx hg hog hj (by cases a <;> cases b <;> first | exact k | exact Bool.noConfusion h)))
theorem g_selBB_eq (hA : At T m c below) (hx : p.tables.exec = Jvm.exec) {o o' : Int} {z t t' : Nat} {a b : Bool} (hd : decode c.code pc = .ok (.if_icmp .eq o, 3)) (ho : 0 ≤ (pc : Int) + o) (hz' : ((pc : Int) + o).toNat = z) (ht0 : pc + 3 = t) (hz : decode c.code z = .ok (.iconst 0, 1)) (ht : decode c.code t = .ok (.iconst 1, 1)) (hg : decode c.code t' = .ok (.goto o', 3)) (ht' : t + 1 = t') (hog : 0 ≤ (t' : Int) + o') (hj : ((t' : Int) + o').toNat = q) (hj' : z + 1 = q) (k : Go p e below Φ (T.setTop (mkF m q L (.int (b2i (a != b)) :: S)))) : Go p e below Φ (T.setTop (mkF m pc L (.int (b2i b) :: .int (b2i a) :: S))) :=
  g_icmp hA hx hd ho hz' ht0 (fun h => g_iconst hA hx hz rfl hj' (by cases a <;> cases b <;> first | exact k | exact Bool.noConfusion h)) (fun h => g_iconst hA hx ht rfl ht' (g_goto hA hx hg hog hj (by cases a <;> cases b <;> first | exact k | exact Bool.noConfusion h)))
theorem g_ldcI (X : Stand p l e R s m args below meth c T locs cells slots) (hx : p.tables.exec = Jvm.exec) (hZ : Z.Warmed39 s.vm) {own : String} {index : Nat} {v : Int32} (hown : s.vm.findClass own = some m.cls) (w : (Jvm.Cond.constant own index v).before a0 Z = true) (hd : decode c.code pc = .ok (.ldc index, 2)) (hq : pc + 2 = q) (k : Go p e below Φ (T.setTop (mkF m q L (.int v :: S)))) : Go p e below Φ (T.setTop (mkF m pc L S)) := by
  subst hq; exact Go.by (X.ldcInt hx hown (mvT hZ w) rfl hd) k
theorem g_ldcWI (X : Stand p l e R s m args below meth c T locs cells slots) (hx : p.tables.exec = Jvm.exec) (hZ : Z.Warmed39 s.vm) {own : String} {index : Nat} {v : Int32} (hown : s.vm.findClass own = some m.cls) (w : (Jvm.Cond.constant own index v).before a0 Z = true) (hd : decode c.code pc = .ok (.ldc_w index, 3)) (hq : pc + 3 = q) (k : Go p e below Φ (T.setTop (mkF m q L (.int v :: S)))) : Go p e below Φ (T.setTop (mkF m pc L S)) := by
  subst hq; exact Go.by (X.ldcWInt hx hown (mvT hZ w) rfl hd) k
theorem g_ldc2J (X : Stand p l e R s m args below meth c T locs cells slots) (hx : p.tables.exec = Jvm.exec) (hZ : Z.Warmed39 s.vm) {own : String} {index : Nat} {v : Int64} (hown : s.vm.findClass own = some m.cls) (w : (Jvm.Cond.constantLong own index v).before a0 Z = true) (hd : decode c.code pc = .ok (.ldc2_w index, 3)) (hq : pc + 3 = q) (k : Go p e below Φ (T.setTop (mkF m q L (.long v :: S)))) : Go p e below Φ (T.setTop (mkF m pc L S)) := by
  subst hq; exact Go.by (X.ldc2Long hx hown (mvT hZ w) rfl hd) k
theorem g_ireturn (X : Stand p l e R s m args below meth c T locs cells slots) (hx : p.tables.exec = Jvm.exec) {Q : Option Value → Heap → List Loc → Prop} {rm : Room} (hlk : meth.locks = false) {z : Int32} (hrt : meth.sig.returnType = some .int) (hd : decode c.code pc = .ok (.ireturn, 1)) (hc : cells ≤ rm.cells) (hs : slots ≤ rm.slots) (hQ : Q (some (.int z)) T.heap locs) : Go p e below (Fin0 s rm Q) (T.setTop (mkF m pc L (.int z :: S))) := by
  obtain ⟨fs, hr, hrun, hended, hW, hsame⟩ := X.leave (v := (some (.int z))) (fun h => by rw [hrt] at h; cases h) hlk
  exact ⟨_, _, retOut X hx hrt rfl (Or.inl ⟨rfl, Or.inl rfl, z, rfl⟩) hd hr, hrun, hended, _, _, rfl, hQ, ⟨_, rfl⟩, hW, hsame.mono hc hs⟩
theorem g_lreturn (X : Stand p l e R s m args below meth c T locs cells slots) (hx : p.tables.exec = Jvm.exec) {Q : Option Value → Heap → List Loc → Prop} {rm : Room} (hlk : meth.locks = false) {z : Int64} (hrt : meth.sig.returnType = some .long) (hd : decode c.code pc = .ok (.lreturn, 1)) (hc : cells ≤ rm.cells) (hs : slots ≤ rm.slots) (hQ : Q (some (.long z)) T.heap locs) : Go p e below (Fin0 s rm Q) (T.setTop (mkF m pc L (.long z :: S))) := by
  obtain ⟨fs, hr, hrun, hended, hW, hsame⟩ := X.leave (v := (some (.long z))) (fun h => by rw [hrt] at h; cases h) hlk
  exact ⟨_, _, retOut X hx hrt rfl (Or.inr (Or.inl ⟨rfl, rfl, z, rfl⟩)) hd hr, hrun, hended, _, _, rfl, hQ, ⟨_, rfl⟩, hW, hsame.mono hc hs⟩
theorem g_areturn (X : Stand p l e R s m args below meth c T locs cells slots) (hx : p.tables.exec = Jvm.exec) {Q : Option Value → Heap → List Loc → Prop} {rm : Room} (hlk : meth.locks = false) {w : Value} {t : FieldType} (hw : w.isRef = true) (hrt : meth.sig.returnType = some t) (ht : t.isReference = true) (hd : decode c.code pc = .ok (.areturn, 1)) (hc : cells ≤ rm.cells) (hs : slots ≤ rm.slots) (hQ : Q (some w) T.heap locs) : Go p e below (Fin0 s rm Q) (T.setTop (mkF m pc L (w :: S))) := by
  obtain ⟨fs, hr, hrun, hended, hW, hsame⟩ := X.leave (v := (some w)) (fun h => by rw [hrt] at h; cases h) hlk
  exact ⟨_, _, retOut X hx hrt (by cases t <;> first | rfl | cases ht) (Or.inr (Or.inr (Or.inr (Or.inr ⟨rfl, ht, hw⟩)))) hd hr, hrun, hended, _, _, rfl, hQ, ⟨_, rfl⟩, hW, hsame.mono hc hs⟩
theorem g_zreturn (X : Stand p l e R s m args below meth c T locs cells slots) (hx : p.tables.exec = Jvm.exec) {Q : Option Value → Heap → List Loc → Prop} {rm : Room} (hlk : meth.locks = false) {b : Bool} (hrt : meth.sig.returnType = some .boolean) (hd : decode c.code pc = .ok (.ireturn, 1)) (hc : cells ≤ rm.cells) (hs : slots ≤ rm.slots) (hQ : Q (some (.int (b2i b))) T.heap locs) : Go p e below (Fin0 s rm Q) (T.setTop (mkF m pc L (.int (b2i b) :: S))) := by
  obtain ⟨fs, hr, hrun, hended, hW, hsame⟩ := X.leave (v := (some (.int (b2i b)))) (fun h => by rw [hrt] at h; cases h) hlk
  exact ⟨_, _, retOut X hx hrt (by cases b <;> rfl) (Or.inl ⟨rfl, Or.inr (Or.inl rfl), _, rfl⟩) hd hr, hrun, hended, _, _, rfl, hQ, ⟨_, rfl⟩, hW, hsame.mono hc hs⟩
theorem g_nreturn (X : Stand p l e R s m args below meth c T locs cells slots) (hx : p.tables.exec = Jvm.exec) {Q : Option Value → Heap → List Loc → Prop} {rm : Room} (hlk : meth.locks = false) {z : Int32} {t : FieldType} (hn : narrow t (.int z) = .int z) (ht : t = .int ∨ t = .boolean ∨ t = .byte ∨ t = .char ∨ t = .short) (hrt : meth.sig.returnType = some t) (hd : decode c.code pc = .ok (.ireturn, 1)) (hc : cells ≤ rm.cells) (hs : slots ≤ rm.slots) (hQ : Q (some (.int z)) T.heap locs) : Go p e below (Fin0 s rm Q) (T.setTop (mkF m pc L (.int z :: S))) := by
  obtain ⟨fs, hr, hrun, hended, hW, hsame⟩ := X.leave (v := (some (.int z))) (fun h => by rw [hrt] at h; cases h) hlk
  exact ⟨_, _, retOut X hx hrt hn (Or.inl ⟨rfl, ht, z, rfl⟩) hd hr, hrun, hended, _, _, rfl, hQ, ⟨_, rfl⟩, hW, hsame.mono hc hs⟩
theorem g_ret (X : Stand p l e R s m args below meth c T locs cells slots) (hx : p.tables.exec = Jvm.exec) {Q : Option Value → Heap → List Loc → Prop} {rm : Room} (hlk : meth.locks = false) (hrt : meth.sig.returnType = none) (hd : decode c.code pc = .ok (.return_, 1)) (hc : cells ≤ rm.cells) (hs : slots ≤ rm.slots) (hQ : Q none T.heap locs) : Go p e below (Fin0 s rm Q) (T.setTop (mkF m pc L [])) := by
  obtain ⟨fs, hr, hrun, hended, hW, hsame⟩ := X.leave (v := none) (fun _ => rfl) hlk
  exact ⟨_, _, X.returnOut hx hrt hd hr, hrun, hended, _, _, rfl, hQ, ⟨_, rfl⟩, hW, hsame.mono hc hs⟩
theorem g_callS (X : Stand p l e R s m args below meth c T locs cells slots) (hx : p.tables.exec = Jvm.exec) (hZ : Z.Warmed39 s.vm) {own : String} {index : Nat} {y : MethodName} {bytes : ByteArray} {maxL : Nat} {ret : Option FieldType} (hown : s.vm.findClass own = some m.cls) (w1 : (Jvm.Cond.methodLink own index y).before a0 Z = true) (w2 : (Jvm.Cond.static y).before a0 Z = true) (w3 : (Jvm.Cond.initialized y.cls).before a0 Z = true) (w4 : (Jvm.Cond.code y bytes maxL ret).before a0 Z = true) (hy : y.cls ≠ "java/lang/invoke/MethodHandle" ∧ y.cls ≠ "java/lang/invoke/VarHandle")
    {rm : Room} {as' : Array Value} {Q : Option Value → Heap → List Loc → Prop} (C : Ctr l Z y bytes maxL ret rm [] as' h Q) {argsL rest : List Value} {ps : List FieldType} {rt : Option FieldType} (hpd : parseMethodDescriptor y.desc = some ⟨ps, rt⟩) (hlen : argsL.length = ps.length) (hst : S = argsL.reverse ++ rest) (has : argsL.toArray = as') (hd : decode c.code pc = .ok (.invokestatic index, 3)) (hq : pc + 3 = q) (hsz : L.size = c.maxLocals) (eT : T.heap = h)
    (hf : rm.frames + 1 ≤ R.frames) {W : Nat} (hW : (rest.map fun v => v.category).sum = W) (hl : W + (maxL + 11) + rm.locals ≤ R.locals) (hc : cells + rm.cells ≤ R.cells) (hs : slots + rm.slots ≤ R.slots)
    (k : ∀ v T' Lc, Stand p l e R s m args below meth c T' (locs ++ Lc) (cells + rm.cells) (slots + rm.slots) → Q v T'.heap Lc → Go p e below Φ (T'.setTop (mkF m q L (v.toList ++ rest)))) : Go p e below Φ (T.setTop (mkF m pc L S)) := by
  subst hq has
  obtain ⟨v, _, ⟨T', L', k', n'⟩, -, X', ⟨Lc, hQ, l1, y1, z1⟩, st⟩ := Jvm.LawKit.callS X hx (y := y) hown (mvT hZ w1) (mvT hZ w2) (mvT hZ w3) (mvT hZ w4) hy (backOf (W := W) C hZ w4 w3 hf hl) (g := mkF m pc L S) rfl hsz (argsL := argsL) (rest := rest) (lenOf hpd hlen) hst (by show 2 * 0 + _ ≤ _; omega) hd (fun _ _ => ⟨rfl, eT, hc, hs⟩)
  dsimp only [Pt.U, Pt.locs, Pt.cells, Pt.slots] at X' l1 y1 z1 st hQ
  subst l1 y1 z1
  exact Go.by st (k v T' Lc X' hQ)
theorem g_callSP (X : Stand p l e R s m args below meth c T locs cells slots) (hx : p.tables.exec = Jvm.exec) (hZ : Z.Warmed39 s.vm) {own : String} {index : Nat} {y : MethodName} {bytes : ByteArray} {maxL : Nat} {ret : Option FieldType} (hown : s.vm.findClass own = some m.cls) (w1 : (Jvm.Cond.methodLink own index y).before a0 Z = true) (w2 : (Jvm.Cond.static y).before a0 Z = true) (w3 : (Jvm.Cond.initialized y.cls).before a0 Z = true) (w4 : (Jvm.Cond.code y bytes maxL ret).before a0 Z = true) (hy : y.cls ≠ "java/lang/invoke/MethodHandle" ∧ y.cls ≠ "java/lang/invoke/VarHandle")
    {rm : Room} {as' : Array Value} {r : Value} (C : Ctr l Z y bytes maxL ret rm [] as' h (PQ r h)) {argsL rest : List Value} {ps : List FieldType} {rt : Option FieldType} (hpd : parseMethodDescriptor y.desc = some ⟨ps, rt⟩) (hlen : argsL.length = ps.length) (hst : S = argsL.reverse ++ rest) (has : argsL.toArray = as') (hd : decode c.code pc = .ok (.invokestatic index, 3)) (hq : pc + 3 = q) (hsz : L.size = c.maxLocals) (eT : T.heap = h)
    (hf : rm.frames + 1 ≤ R.frames) {W : Nat} (hW : (rest.map fun v => v.category).sum = W) (hl : W + (maxL + 11) + rm.locals ≤ R.locals) (hc : rm.cells = 0) (hs : rm.slots = 0) (hc' : cells ≤ R.cells) (hs' : slots ≤ R.slots)
    (k : ∀ T', Stand p l e R s m args below meth c T' locs cells slots → T'.heap = h → Go p e below Φ (T'.setTop (mkF m q L (r :: rest)))) : Go p e below Φ (T.setTop (mkF m pc L S)) := by
  refine g_callS X hx hZ hown w1 w2 w3 w4 hy C hpd hlen hst has hd hq hsz eT hf hW hl (by omega) (by omega) ?_
  intro v T' Lc X' hQ
  obtain ⟨rfl, e1, rfl⟩ := hQ
  rw [hc, hs, List.append_nil] at X'
  exact k T' X' e1
theorem g_callSI (X : Stand p l e R s m args below meth c T locs cells slots) (hx : p.tables.exec = Jvm.exec) (hZ : Z.Warmed39 s.vm) {own : String} {index : Nat} {y : MethodName} {bytes : ByteArray} {maxL : Nat} {ret : Option FieldType} (hown : s.vm.findClass own = some m.cls) (w1 : (Jvm.Cond.methodLink own index y).before a0 Z = true) (w2 : (Jvm.Cond.static y).before a0 Z = true) (w3 : (Jvm.Cond.initialized y.cls).before a0 Z = true) (w4 : (Jvm.Cond.code y bytes maxL ret).before a0 Z = true) (hy : y.cls ≠ "java/lang/invoke/MethodHandle" ∧ y.cls ≠ "java/lang/invoke/VarHandle")
    {rm : Room} {as' : Array Value} {P : Int32 → Prop} (C : Ctr l Z y bytes maxL ret rm [] as' h (IQ P h)) {argsL rest : List Value} {ps : List FieldType} {rt : Option FieldType} (hpd : parseMethodDescriptor y.desc = some ⟨ps, rt⟩) (hlen : argsL.length = ps.length) (hst : S = argsL.reverse ++ rest) (has : argsL.toArray = as') (hd : decode c.code pc = .ok (.invokestatic index, 3)) (hq : pc + 3 = q) (hsz : L.size = c.maxLocals) (eT : T.heap = h)
    (hf : rm.frames + 1 ≤ R.frames) {W : Nat} (hW : (rest.map fun v => v.category).sum = W) (hl : W + (maxL + 11) + rm.locals ≤ R.locals) (hc : rm.cells = 0) (hs : rm.slots = 0) (hc' : cells ≤ R.cells) (hs' : slots ≤ R.slots)
    (k : ∀ T' r, Stand p l e R s m args below meth c T' locs cells slots → T'.heap = h → P r → Go p e below Φ (T'.setTop (mkF m q L (.int r :: rest)))) : Go p e below Φ (T.setTop (mkF m pc L S)) := by
  refine g_callS X hx hZ hown w1 w2 w3 w4 hy C hpd hlen hst has hd hq hsz eT hf hW hl (by omega) (by omega) ?_
  intro v T' Lc X' hQ
  obtain ⟨r, rfl, hP, e1, rfl⟩ := hQ
  rw [hc, hs, List.append_nil] at X'
  exact k T' r X' e1 hP
theorem g_callSJ (X : Stand p l e R s m args below meth c T locs cells slots) (hx : p.tables.exec = Jvm.exec) (hZ : Z.Warmed39 s.vm) {own : String} {index : Nat} {y : MethodName} {bytes : ByteArray} {maxL : Nat} {ret : Option FieldType} (hown : s.vm.findClass own = some m.cls) (w1 : (Jvm.Cond.methodLink own index y).before a0 Z = true) (w2 : (Jvm.Cond.static y).before a0 Z = true) (w3 : (Jvm.Cond.initialized y.cls).before a0 Z = true) (w4 : (Jvm.Cond.code y bytes maxL ret).before a0 Z = true) (hy : y.cls ≠ "java/lang/invoke/MethodHandle" ∧ y.cls ≠ "java/lang/invoke/VarHandle")
    {rm : Room} {as' : Array Value} {P : Int64 → Prop} (C : Ctr l Z y bytes maxL ret rm [] as' h (JQ P h)) {argsL rest : List Value} {ps : List FieldType} {rt : Option FieldType} (hpd : parseMethodDescriptor y.desc = some ⟨ps, rt⟩) (hlen : argsL.length = ps.length) (hst : S = argsL.reverse ++ rest) (has : argsL.toArray = as') (hd : decode c.code pc = .ok (.invokestatic index, 3)) (hq : pc + 3 = q) (hsz : L.size = c.maxLocals) (eT : T.heap = h)
    (hf : rm.frames + 1 ≤ R.frames) {W : Nat} (hW : (rest.map fun v => v.category).sum = W) (hl : W + (maxL + 11) + rm.locals ≤ R.locals) (hc : rm.cells = 0) (hs : rm.slots = 0) (hc' : cells ≤ R.cells) (hs' : slots ≤ R.slots)
    (k : ∀ T' r, Stand p l e R s m args below meth c T' locs cells slots → T'.heap = h → P r → Go p e below Φ (T'.setTop (mkF m q L (.long r :: rest)))) : Go p e below Φ (T.setTop (mkF m pc L S)) := by
  refine g_callS X hx hZ hown w1 w2 w3 w4 hy C hpd hlen hst has hd hq hsz eT hf hW hl (by omega) (by omega) ?_
  intro v T' Lc X' hQ
  obtain ⟨r, rfl, hP, e1, rfl⟩ := hQ
  rw [hc, hs, List.append_nil] at X'
  exact k T' r X' e1 hP
end OwnKit

/-! ### the own kit, heap part -/
def ArrL (Z : State) (h : Heap) (a : Addr) (ty : FieldType) (vals : List Value) : Prop := ∃ c : Cell, Arr Z h a c ty ∧ c.slots = vals.toArray ∧ vals.length < 2 ^ 31
abbrev IA (Z : State) (h : Heap) (a : Addr) (vs : List Int32) : Prop := ArrL Z h a .int (vs.map Value.int)
abbrev LA (Z : State) (h : Heap) (a : Addr) (vs : List Int64) : Prop := ArrL Z h a .long (vs.map Value.long)
abbrev ZA (Z : State) (h : Heap) (a : Addr) (vs : List Bool) : Prop := ArrL Z h a .boolean (vs.map fun b => Value.int (b2i b))
theorem own_clamp (j : Int32) : j.toNatClampNeg = j.toInt.toNat := rfl
theorem idxN {j : Int32} {i : Nat} (hj : j.toInt = (i : Int)) : ¬ j < 0 ∧ j.toNatClampNeg = i := by
  rw [own_clamp, Int32.lt_iff_toInt_lt, show (0 : Int32).toInt = 0 from rfl, hj]; omega
theorem idxIn {j : Int32} {i n : Nat} (hj : j.toInt = (i : Int)) (hi : i < n) : ¬ (j < 0 ∨ n ≤ j.toNatClampNeg) := by
  obtain ⟨h1, h2⟩ := idxN hj; exact fun h => h.elim h1 fun h => by rw [h2] at h; omega
section OwnHeap
variable {p : Program} {l : Launch} {e : Env} {R : Room} {s : State} {m : MethodId} {args : Array Value} {below : List Frame} {meth : Method} {c : Code} {T : State} {locs : List Loc} {cells slots : Nat} {Z : State} {a0 : Array Value} {h : Heap} {Φ : Outcome → State → Prop} {pc q : Nat} {L : Array Slot} {S : List Value}
variable {h' : Heap} {a b o : Addr} {ty : FieldType} {vals : List Value} {sl : Nat} {v w : Value} {ws : List Addr}
theorem ArrL.lt (F : ArrL Z h a ty vals) : a < h.size := by obtain ⟨c, A, -⟩ := F; exact A.lt
theorem ArrL.ext (F : ArrL Z h a ty vals) (E : Ext h h') : ArrL Z h' a ty vals := by obtain ⟨c, A, r⟩ := F; exact ⟨c, A.ext E, r⟩
theorem ArrL.other (F : ArrL Z h a ty vals) (W : Wr h h' b sl v) (q : a ≠ b) : ArrL Z h' a ty vals := by obtain ⟨c, A, r⟩ := F; exact ⟨c, A.other W q, r⟩
theorem ArrL.keep (F : ArrL Z h a ty vals) (K : Keep h h' ws) (q : a ∉ ws) : ArrL Z h' a ty vals := by obtain ⟨c, A, r⟩ := F; exact ⟨c, ⟨K.2.1 a c A.1 q, A.2⟩, r⟩
theorem ArrL.len (F : ArrL Z h a ty vals) : vals.length < 2 ^ 31 := by obtain ⟨c, A, -, r⟩ := F; exact r
theorem ArrL.set (F : ArrL Z h a ty vals) {i : Nat} (W : Wr h h' a i v) : ArrL Z h' a ty (vals.set i v) := by
  obtain ⟨c, A, e1, r⟩ := F
  refine ⟨_, A.same W, ?_, by rw [List.length_set]; exact r⟩
  show c.slots.setIfInBounds i v = _
  rw [e1]; simp
theorem ArrL.new {k : ClassId} {z : Int32} {n : Nat} (A : Arr Z h a (newA k ty z) ty) (hz : z.toInt = (n : Int)) : ArrL Z h a ty (List.replicate n (defaultValue ty)) := by
  refine ⟨_, A, ?_, ?_⟩
  · show Array.replicate z.toNatClampNeg (defaultValue ty) = _
    rw [(idxN hz).2]; simp
  · have := rng32 z; rw [List.length_replicate]; omega
theorem IA.eq {us vs : List Int32} (F : IA Z h a us) (q : us = vs) : IA Z h a vs := q ▸ F
theorem LA.eq {us vs : List Int64} (F : LA Z h a us) (q : us = vs) : LA Z h a vs := q ▸ F
theorem ZA.eq {us vs : List Bool} (F : ZA Z h a us) (q : us = vs) : ZA Z h a vs := q ▸ F
theorem ne_new (h1 : a < h.size) (q : o = h.size) : a ≠ o := by subst q; exact Nat.ne_of_lt h1
theorem ne_ge (h1 : a < h.size) (q : h.size ≤ o) : a ≠ o := Nat.ne_of_lt (Nat.lt_of_lt_of_le h1 q)
theorem ge_new {n0 : Nat} (h1 : n0 ≤ h.size) (q : o = h.size) : n0 ≤ o := by subst q; exact h1
theorem Fr.wr {n0 i : Nat} (N : Fr n0 locs) (q : n0 ≤ a) : Fr n0 (locs ++ [⟨a, i⟩]) := N.app fun y hy => by cases List.mem_singleton.mp hy; exact q
theorem g_iload_ (X : Stand p l e R s m args below meth c T locs cells slots) (hx : p.tables.exec = Jvm.exec) (hZ : Z.Warmed39 s.vm) (eT : T.heap = h) {vs : List Int32} (F : IA Z h a vs) {j : Int32} {i : Nat} {v : Int32} (hj : j.toInt = (i : Int)) (hv : vs[i]? = some v) (hd : decode c.code pc = .ok (.iaload, 1)) (hq : pc + 1 = q) (k : Go p e below Φ (T.setTop (mkF m q L (.int v :: S)))) : Go p e below Φ (T.setTop (mkF m pc L (.int j :: .ref a :: S))) := by
  subst hq
  obtain ⟨cl, A, e1, r⟩ := F
  have hi : i < vs.length := (List.getElem?_eq_some_iff.mp hv).1
  have hs : cl.slots.size = vs.length := by rw [e1]; simp
  refine Go.by (X.iaload hx (cell := cl) (j := j) (v := (.int v)) (by rw [eT]; exact A.1) (State.isArrayOf_alike hZ.alike A.2.1) A.2.2 (idxIn hj (by rw [hs]; exact hi)) (by rw [(idxN hj).2, e1]; simp [hv]) rfl rfl hd) k
theorem g_istore_ (X : Stand p l e R s m args below meth c T locs cells slots) (hx : p.tables.exec = Jvm.exec) (hZ : Z.Warmed39 s.vm) (eT : T.heap = h) {vs : List Int32} (F : IA Z h a vs) {j : Int32} {i : Nat} {v : Int32} (hj : j.toInt = (i : Int)) (hi : i < vs.length) (hd : decode c.code pc = .ok (.iastore, 1)) (hq : pc + 1 = q) (k : ∀ T' h', Stand p l e R s m args below meth c T' (locs ++ [⟨a, i⟩]) cells slots → T'.heap = h' → Wr h h' a i (.int v) → IA Z h' a (vs.set i v) → Go p e below Φ (T'.setTop (mkF m q L S))) : Go p e below Φ (T.setTop (mkF m pc L (.int v :: .int j :: .ref a :: S))) := by
  subst hq
  have F0 := F
  obtain ⟨cl, A, e1, r⟩ := F
  have hs : cl.slots.size = vs.length := by rw [e1]; simp
  obtain ⟨T', h', X', e', W, st⟩ := stI X hx hZ eT A (j := j) (x := v) (idxIn hj (by rw [hs]; exact hi)) (g := mkF m pc L ((.int v) :: .int j :: .ref a :: S)) rfl rfl hd
  rw [(idxN hj).2] at X' W
  refine Go.by st (k T' h' X' e' W ?_)
  have := F0.set W
  show ArrL Z h' a .int ((vs.set i v).map Value.int)
  rw [List.map_set]; exact this
theorem g_inew_ (X : Stand p l e R s m args below meth c T locs cells slots) (hx : p.tables.exec = Jvm.exec) (hZ : Z.Warmed39 s.vm) (w : (Jvm.Cond.arrayClass .int).before a0 Z = true) (eT : T.heap = h) {z : Int32} {n cap : Nat} (hz : z.toInt = (n : Int)) (hn : n ≤ cap) (hb : cap * 8 ≤ 536870912) (hd : decode c.code pc = .ok (.newarray .int, 2)) (hq : pc + 2 = q) (hc : cells + 1 ≤ R.cells) (hl : slots + cap ≤ R.slots) (k : ∀ T' h' o, Stand p l e R s m args below meth c T' locs (cells + 1) (slots + cap) → T'.heap = h' → Ext h h' → o = h.size → IA Z h' o (List.replicate n 0) → Go p e below Φ (T'.setTop (mkF m q L (.ref o :: S)))) : Go p e below Φ (T.setTop (mkF m pc L (.int z :: S))) := by
  subst hq
  obtain ⟨T', h', cA, X', e', E, A, st⟩ := newP X hx hZ (aty := .int) w eT (g := mkF m pc L (.int z :: S)) rfl hd rfl (idxN hz).1 (cap := cap) (by rw [(idxN hz).2]; exact hn) hb hc hl
  refine Go.by st (k T' h' h.size X' e' E rfl ?_)
  have := ArrL.new A hz
  show ArrL Z h' h.size .int _
  rw [List.map_replicate]; exact this
theorem g_lload_ (X : Stand p l e R s m args below meth c T locs cells slots) (hx : p.tables.exec = Jvm.exec) (hZ : Z.Warmed39 s.vm) (eT : T.heap = h) {vs : List Int64} (F : LA Z h a vs) {j : Int32} {i : Nat} {v : Int64} (hj : j.toInt = (i : Int)) (hv : vs[i]? = some v) (hd : decode c.code pc = .ok (.laload, 1)) (hq : pc + 1 = q) (k : Go p e below Φ (T.setTop (mkF m q L (.long v :: S)))) : Go p e below Φ (T.setTop (mkF m pc L (.int j :: .ref a :: S))) := by
  subst hq
  obtain ⟨cl, A, e1, r⟩ := F
  have hi : i < vs.length := (List.getElem?_eq_some_iff.mp hv).1
  have hs : cl.slots.size = vs.length := by rw [e1]; simp
  refine Go.by (X.laload hx (cell := cl) (j := j) (v := (.long v)) (by rw [eT]; exact A.1) (State.isArrayOf_alike hZ.alike A.2.1) A.2.2 (idxIn hj (by rw [hs]; exact hi)) (by rw [(idxN hj).2, e1]; simp [hv]) rfl rfl hd) k
theorem g_lstore_ (X : Stand p l e R s m args below meth c T locs cells slots) (hx : p.tables.exec = Jvm.exec) (hZ : Z.Warmed39 s.vm) (eT : T.heap = h) {vs : List Int64} (F : LA Z h a vs) {j : Int32} {i : Nat} {v : Int64} (hj : j.toInt = (i : Int)) (hi : i < vs.length) (hd : decode c.code pc = .ok (.lastore, 1)) (hq : pc + 1 = q) (k : ∀ T' h', Stand p l e R s m args below meth c T' (locs ++ [⟨a, i⟩]) cells slots → T'.heap = h' → Wr h h' a i (.long v) → LA Z h' a (vs.set i v) → Go p e below Φ (T'.setTop (mkF m q L S))) : Go p e below Φ (T.setTop (mkF m pc L (.long v :: .int j :: .ref a :: S))) := by
  subst hq
  have F0 := F
  obtain ⟨cl, A, e1, r⟩ := F
  have hs : cl.slots.size = vs.length := by rw [e1]; simp
  obtain ⟨T', h', X', e', W, st⟩ := stJ X hx hZ eT A (j := j) (x := v) (idxIn hj (by rw [hs]; exact hi)) (g := mkF m pc L ((.long v) :: .int j :: .ref a :: S)) rfl rfl hd
  rw [(idxN hj).2] at X' W
  refine Go.by st (k T' h' X' e' W ?_)
  have := F0.set W
  show ArrL Z h' a .long ((vs.set i v).map Value.long)
  rw [List.map_set]; exact this
theorem g_lnew_ (X : Stand p l e R s m args below meth c T locs cells slots) (hx : p.tables.exec = Jvm.exec) (hZ : Z.Warmed39 s.vm) (w : (Jvm.Cond.arrayClass .long).before a0 Z = true) (eT : T.heap = h) {z : Int32} {n cap : Nat} (hz : z.toInt = (n : Int)) (hn : n ≤ cap) (hb : cap * 8 ≤ 536870912) (hd : decode c.code pc = .ok (.newarray .long, 2)) (hq : pc + 2 = q) (hc : cells + 1 ≤ R.cells) (hl : slots + cap ≤ R.slots) (k : ∀ T' h' o, Stand p l e R s m args below meth c T' locs (cells + 1) (slots + cap) → T'.heap = h' → Ext h h' → o = h.size → LA Z h' o (List.replicate n 0) → Go p e below Φ (T'.setTop (mkF m q L (.ref o :: S)))) : Go p e below Φ (T.setTop (mkF m pc L (.int z :: S))) := by
  subst hq
  obtain ⟨T', h', cA, X', e', E, A, st⟩ := newP X hx hZ (aty := .long) w eT (g := mkF m pc L (.int z :: S)) rfl hd rfl (idxN hz).1 (cap := cap) (by rw [(idxN hz).2]; exact hn) hb hc hl
  refine Go.by st (k T' h' h.size X' e' E rfl ?_)
  have := ArrL.new A hz
  show ArrL Z h' h.size .long _
  rw [List.map_replicate]; exact this
theorem g_zload_ (X : Stand p l e R s m args below meth c T locs cells slots) (hx : p.tables.exec = Jvm.exec) (hZ : Z.Warmed39 s.vm) (eT : T.heap = h) {vs : List Bool} (F : ZA Z h a vs) {j : Int32} {i : Nat} {v : Bool} (hj : j.toInt = (i : Int)) (hv : vs[i]? = some v) (hd : decode c.code pc = .ok (.baload, 1)) (hq : pc + 1 = q) (k : Go p e below Φ (T.setTop (mkF m q L (.int (b2i v) :: S)))) : Go p e below Φ (T.setTop (mkF m pc L (.int j :: .ref a :: S))) := by
  subst hq
  obtain ⟨cl, A, e1, r⟩ := F
  have hi : i < vs.length := (List.getElem?_eq_some_iff.mp hv).1
  have hs : cl.slots.size = vs.length := by rw [e1]; simp
  refine Go.by (X.baloadBooleans hx (cell := cl) (j := j) (v := (.int (b2i v))) (by rw [eT]; exact A.1) (State.isArrayOf_alike hZ.alike A.2.1) A.2.2 (idxIn hj (by rw [hs]; exact hi)) (by rw [(idxN hj).2, e1]; simp [hv]) rfl rfl hd) k
theorem g_zstore_ (X : Stand p l e R s m args below meth c T locs cells slots) (hx : p.tables.exec = Jvm.exec) (hZ : Z.Warmed39 s.vm) (eT : T.heap = h) {vs : List Bool} (F : ZA Z h a vs) {j : Int32} {i : Nat} {v : Bool} (hj : j.toInt = (i : Int)) (hi : i < vs.length) (hd : decode c.code pc = .ok (.bastore, 1)) (hq : pc + 1 = q) (k : ∀ T' h', Stand p l e R s m args below meth c T' (locs ++ [⟨a, i⟩]) cells slots → T'.heap = h' → Wr h h' a i (.int (b2i v)) → ZA Z h' a (vs.set i v) → Go p e below Φ (T'.setTop (mkF m q L S))) : Go p e below Φ (T.setTop (mkF m pc L (.int (b2i v) :: .int j :: .ref a :: S))) := by
  subst hq
  have F0 := F
  obtain ⟨cl, A, e1, r⟩ := F
  have hs : cl.slots.size = vs.length := by rw [e1]; simp
  obtain ⟨T', h', X', e', W, st⟩ := stZ X hx hZ eT A (j := j) (x := b2i v) (idxIn hj (by rw [hs]; exact hi)) (g := mkF m pc L ((.int (b2i v)) :: .int j :: .ref a :: S)) rfl rfl hd
  have W : Wr h h' a j.toNatClampNeg (.int (b2i v)) := by have W' := W; rw [b2i_nar] at W'; exact W'
  rw [(idxN hj).2] at X' W
  refine Go.by st (k T' h' X' e' W ?_)
  have := F0.set W
  show ArrL Z h' a .boolean ((vs.set i v).map (fun b => Value.int (b2i b)))
  rw [List.map_set]; exact this
theorem g_znew_ (X : Stand p l e R s m args below meth c T locs cells slots) (hx : p.tables.exec = Jvm.exec) (hZ : Z.Warmed39 s.vm) (w : (Jvm.Cond.arrayClass .boolean).before a0 Z = true) (eT : T.heap = h) {z : Int32} {n cap : Nat} (hz : z.toInt = (n : Int)) (hn : n ≤ cap) (hb : cap * 8 ≤ 536870912) (hd : decode c.code pc = .ok (.newarray .boolean, 2)) (hq : pc + 2 = q) (hc : cells + 1 ≤ R.cells) (hl : slots + cap ≤ R.slots) (k : ∀ T' h' o, Stand p l e R s m args below meth c T' locs (cells + 1) (slots + cap) → T'.heap = h' → Ext h h' → o = h.size → ZA Z h' o (List.replicate n false) → Go p e below Φ (T'.setTop (mkF m q L (.ref o :: S)))) : Go p e below Φ (T.setTop (mkF m pc L (.int z :: S))) := by
  subst hq
  obtain ⟨T', h', cA, X', e', E, A, st⟩ := newP X hx hZ (aty := .boolean) w eT (g := mkF m pc L (.int z :: S)) rfl hd rfl (idxN hz).1 (cap := cap) (by rw [(idxN hz).2]; exact hn) hb hc hl
  refine Go.by st (k T' h' h.size X' e' E rfl ?_)
  have := ArrL.new A hz
  show ArrL Z h' h.size .boolean _
  rw [List.map_replicate]; exact this
theorem g_bnew_ (X : Stand p l e R s m args below meth c T locs cells slots) (hx : p.tables.exec = Jvm.exec) (hZ : Z.Warmed39 s.vm) (w : (Jvm.Cond.arrayClass .byte).before a0 Z = true) (eT : T.heap = h) {z : Int32} {n cap : Nat} (hz : z.toInt = (n : Int)) (hn : n ≤ cap) (hb : cap * 8 ≤ 536870912) (hd : decode c.code pc = .ok (.newarray .byte, 2)) (hq : pc + 2 = q) (hc : cells + 1 ≤ R.cells) (hl : slots + cap ≤ R.slots) (k : ∀ T' h' o, Stand p l e R s m args below meth c T' locs (cells + 1) (slots + cap) → T'.heap = h' → Ext h h' → o = h.size → ArrL Z h' o .byte (List.replicate n (.int 0)) → Go p e below Φ (T'.setTop (mkF m q L (.ref o :: S)))) : Go p e below Φ (T.setTop (mkF m pc L (.int z :: S))) := by
  subst hq
  obtain ⟨T', h', cA, X', e', E, A, st⟩ := newP X hx hZ (aty := .byte) w eT (g := mkF m pc L (.int z :: S)) rfl hd rfl (idxN hz).1 (cap := cap) (by rw [(idxN hz).2]; exact hn) hb hc hl
  exact Go.by st (k T' h' h.size X' e' E rfl (ArrL.new A hz))
theorem g_bload_ (X : Stand p l e R s m args below meth c T locs cells slots) (hx : p.tables.exec = Jvm.exec) (hZ : Z.Warmed39 s.vm) (eT : T.heap = h) (F : ArrL Z h a .byte vals) {j : Int32} {i : Nat} {v : Int32} (hj : j.toInt = (i : Int)) (hv : vals[i]? = some (.int v)) (hd : decode c.code pc = .ok (.baload, 1)) (hq : pc + 1 = q) (k : Go p e below Φ (T.setTop (mkF m q L (.int v :: S)))) : Go p e below Φ (T.setTop (mkF m pc L (.int j :: .ref a :: S))) := by
  subst hq
  obtain ⟨cl, A, e1, r⟩ := F
  have hi : i < vals.length := (List.getElem?_eq_some_iff.mp hv).1
  have hs : cl.slots.size = vals.length := by rw [e1]; simp
  refine Go.by (X.baloadBytes hx (cell := cl) (j := j) (v := .int v) (by rw [eT]; exact A.1) (State.isArrayOf_alike hZ.alike A.2.1) A.2.2 (idxIn hj (by rw [hs]; exact hi)) (by rw [(idxN hj).2, e1]; simp [hv]) rfl rfl hd) k
theorem g_getS (X : Stand p l e R s m args below meth c T locs cells slots) (hx : p.tables.exec = Jvm.exec) (hZ : Z.Warmed39 s.vm) {own R0 n d : String} {index : Nat} (hown : s.vm.findClass own = some m.cls) (w : (Jvm.Cond.fieldLink own index R0 n d).before a0 Z = true) (eT : T.heap = h) (F : Sta Z h R0 n d v) (hd : decode c.code pc = .ok (.getstatic index, 3)) (hq : pc + 3 = q) (k : ∀ T', Stand p l e R s m args below meth c T' locs cells slots → T'.heap = h → Go p e below Φ (T'.setTop (mkF m q L (v :: S)))) : Go p e below Φ (T.setTop (mkF m pc L S)) := by
  subst hq
  obtain ⟨T', X', e', st⟩ := getS (host := "") X hx hZ hown w Via.refl eT F (g := mkF m pc L S) rfl hd
  exact Go.by st (k T' X' e')
theorem g_alen (X : Stand p l e R s m args below meth c T locs cells slots) (hx : p.tables.exec = Jvm.exec) (hZ : Z.Warmed39 s.vm) (eT : T.heap = h) (F : ArrL Z h a ty vals) {v : Int32} (hv : v.toInt = (vals.length : Int)) (hd : decode c.code pc = .ok (.arraylength, 1)) (hq : pc + 1 = q) (k : Go p e below Φ (T.setTop (mkF m q L (.int v :: S)))) : Go p e below Φ (T.setTop (mkF m pc L (.ref a :: S))) := by
  subst hq
  obtain ⟨cl, A, e1, r⟩ := F
  have hs : cl.slots.size = vals.length := by rw [e1]; simp
  have hz : cl.slots.size.toInt32 = v := Int32.toInt_inj.mp (by rw [hs, len_toInt r]; exact hv.symm)
  refine Go.by (X.arraylength hx (cell := cl) (by rw [eT]; exact A.1) (State.isArrayOf_alike hZ.alike A.2.1) rfl rfl hd) ?_
  rw [hz]; exact k
theorem g_getF (X : Stand p l e R s m args below meth c T locs cells slots) (hx : p.tables.exec = Jvm.exec) (hZ : Z.Warmed39 s.vm) {own R0 n d : String} {index : Nat} (hown : s.vm.findClass own = some m.cls) (w : (Jvm.Cond.fieldLink own index R0 n d).before a0 Z = true) (eT : T.heap = h) (F : Fld Z h a R0 n d v) (hd : decode c.code pc = .ok (.getfield index, 3)) (hq : pc + 3 = q) (k : ∀ T', Stand p l e R s m args below meth c T' locs cells slots → T'.heap = h → Go p e below Φ (T'.setTop (mkF m q L (v :: S)))) : Go p e below Φ (T.setTop (mkF m pc L (.ref a :: S))) := by
  subst hq
  obtain ⟨T', X', e', st⟩ := getF X hx hZ hown (host := "") (Or.inl w) Via.refl eT F (g := mkF m pc L (.ref a :: S)) rfl rfl hd
  exact Go.by st (k T' X' e')
theorem g_putF (X : Stand p l e R s m args below meth c T locs cells slots) (hx : p.tables.exec = Jvm.exec) (hZ : Z.Warmed39 s.vm) {own R0 n d C : String} {index kk : Nat} {ty : FieldType} (hown : s.vm.findClass own = some m.cls) (wl : (Jvm.Cond.fieldLink own index R0 n d).before a0 Z = true) (eT : T.heap = h) (F : Fld Z h a R0 n d w) (E : Exa Z h a C) (Ly : (Jvm.Cond.lays C R0 n d).before a0 Z = true ∨ ((Jvm.Cond.laysFinal C R0 n d).before a0 Z = true ∧ own = R0 ∧ meth.name = "<init>")) (wi : (Jvm.Cond.instantiable C kk).before a0 Z = true) (hty : parseFieldDescriptor d = some ty) (hn : narrow ty v = v) (hf : fits ty v = true) (hd : decode c.code pc = .ok (.putfield index, 3)) (hq : pc + 3 = q) (k : ∀ T' h', Stand p l e R s m args below meth c T' (locs ++ [⟨a, Jvm.RoadKit.slotOf Z R0 n d⟩]) cells slots → T'.heap = h' → Wr h h' a (Jvm.RoadKit.slotOf Z R0 n d) v → Fld Z h' a R0 n d v → Go p e below Φ (T'.setTop (mkF m q L S))) : Go p e below Φ (T.setTop (mkF m pc L (v :: .ref a :: S))) := by
  subst hq
  obtain ⟨T', h', X', e', W, st⟩ := putF X hx hZ hown (host := "") (Or.inl wl) Via.refl eT F E Ly wi hty hn hf (g := mkF m pc L (v :: .ref a :: S)) rfl rfl hd
  exact Go.by st (k T' h' X' e' W (F.same W))
theorem g_newO (X : Stand p l e R s m args below meth c T locs cells slots) (hx : p.tables.exec = Jvm.exec) (hZ : Z.Warmed39 s.vm) {own C : String} {index n : Nat} (hown : s.vm.findClass own = some m.cls) (w : (Jvm.Cond.classLink own index C).before a0 Z = true) (wi : (Jvm.Cond.instantiable C n).before a0 Z = true) (wz : (Jvm.Cond.initialized C).before a0 Z = true) (eT : T.heap = h) (hd : decode c.code pc = .ok (.new index, 3)) (hq : pc + 3 = q) (hc : cells + 1 ≤ R.cells) (hl : slots + n ≤ R.slots) (k : ∀ T' h' o, Stand p l e R s m args below meth c T' locs (cells + 1) (slots + n) → T'.heap = h' → Ext h h' → o = h.size → Exa Z h' o C → (∀ {O nm d : String} {ty : FieldType}, Laid Z a0 C O nm d → parseFieldDescriptor d = some ty → Fld Z h' o O nm d (defaultValue ty)) → Go p e below Φ (T'.setTop (mkF m q L (.ref o :: S)))) : Go p e below Φ (T.setTop (mkF m pc L S)) := by
  subst hq
  obtain ⟨T', h', X', e', E, A, D, -, st⟩ := newO X hx hZ hown w wi wz eT (g := mkF m pc L S) rfl hd hc hl
  exact Go.by st (k T' h' h.size X' e' E rfl A D)
theorem g_initO (X : Stand p l e R s m args below meth c T locs cells slots) (hx : p.tables.exec = Jvm.exec) (hZ : Z.Warmed39 s.vm) {own : String} {index : Nat} (hown : s.vm.findClass own = some m.cls) (w1 : (Jvm.Cond.methodLink own index Lib.objectInit).before a0 Z = true) (w2 : (Jvm.Cond.instanceMethod Lib.objectInit).before a0 Z = true) (w3 : (Jvm.Cond.code Lib.objectInit ⟨#[0xb1]⟩ 1 none).before a0 Z = true) (eT : T.heap = h) (hsz : L.size = c.maxLocals) (hd : decode c.code pc = .ok (.invokespecial index, 3)) (hq : pc + 3 = q) (hf : 1 ≤ R.frames) {W : Nat} (hW : (S.map fun v => v.category).sum = W) (hl : W + 12 ≤ R.locals) (k : ∀ T', Stand p l e R s m args below meth c T' locs cells slots → T'.heap = h → Go p e below Φ (T'.setTop (mkF m q L S))) : Go p e below Φ (T.setTop (mkF m pc L (.ref a :: S))) := by
  subst hq
  obtain ⟨T', X', e', st⟩ := initO X hx hZ hown w1 w2 w3 eT (g := mkF m pc L (.ref a :: S)) rfl hsz rfl hd hf (W := W) (by show 2 * 0 + _ ≤ _; omega) hl
  exact Go.by st (k T' X' e')
theorem g_special (X : Stand p l e R s m args below meth c T locs cells slots) (hx : p.tables.exec = Jvm.exec) (hZ : Z.Warmed39 s.vm) {own : String} {index : Nat} {y : MethodName} {bytes : ByteArray} {maxL : Nat} (hy1 : y.name = "<init>") (hown : s.vm.findClass own = some m.cls) (w1 : (Jvm.Cond.methodLink own index y).before a0 Z = true) (w2 : (Jvm.Cond.instanceMethod y).before a0 Z = true) (w3 : (Jvm.Cond.initialized y.cls).before a0 Z = true) (w4 : (Jvm.Cond.code y bytes maxL none).before a0 Z = true) (hy : y.cls ≠ "java/lang/invoke/MethodHandle" ∧ y.cls ≠ "java/lang/invoke/VarHandle")
    {rm : Room} {as' : Array Value} {Q : Option Value → Heap → List Loc → Prop} (C : Ctr l Z y bytes maxL none rm [] as' h Q) {argsL rest : List Value} {ps : List FieldType} {rt : Option FieldType} (hpd : parseMethodDescriptor y.desc = some ⟨ps, rt⟩) (hlen : argsL.length = ps.length) (hst : S = argsL.reverse ++ .ref a :: rest) (has : (.ref a :: argsL).toArray = as') (hd : decode c.code pc = .ok (.invokespecial index, 3)) (hq : pc + 3 = q) (hsz : L.size = c.maxLocals) (eT : T.heap = h)
    (hf : rm.frames + 1 ≤ R.frames) {W : Nat} (hW : (rest.map fun v => v.category).sum = W) (hl : W + (maxL + 11) + rm.locals ≤ R.locals) (hc : cells + rm.cells ≤ R.cells) (hs : slots + rm.slots ≤ R.slots)
    (k : ∀ v T' Lc, Stand p l e R s m args below meth c T' (locs ++ Lc) (cells + rm.cells) (slots + rm.slots) → Q v T'.heap Lc → Go p e below Φ (T'.setTop (mkF m q L (v.toList ++ rest)))) : Go p e below Φ (T.setTop (mkF m pc L S)) := by
  subst hq has
  obtain ⟨v, _, ⟨T', L', k', n'⟩, -, X', ⟨Lc, hQ, l1, y1, z1⟩, st⟩ := X.specialBack hx (y := y) hy1 hown (mvT hZ w1) (mvT hZ w2) (mvT hZ w4) hy (backOf (W := W) C hZ w4 w3 hf hl) (g := mkF m pc L S) rfl hsz (Steps.refl _) (a := a) (argsL := argsL) (rest := rest) (lenOf hpd hlen) hst (by show 2 * 0 + _ ≤ _; omega) hd (fun _ _ => ⟨rfl, eT, hc, hs⟩)
  dsimp only [Pt.U, Pt.locs, Pt.cells, Pt.slots] at X' l1 y1 z1 st hQ
  subst l1 y1 z1
  exact Go.by (fun _ r => st.trans r) (k v T' Lc X' hQ)
theorem g_virtual (X : Stand p l e R s m args below meth c T locs cells slots) (hx : p.tables.exec = Jvm.exec) (hZ : Z.Warmed39 s.vm) {own C0 : String} {index : Nat} {y : MethodName} {bytes : ByteArray} {maxL : Nat} {ret : Option FieldType} (hown : s.vm.findClass own = some m.cls) (w1 : (Jvm.Cond.methodLink own index y).before a0 Z = true) (w2 : (Jvm.Cond.declares y).before a0 Z = true) (w3 : (Jvm.Cond.selects C0 y y).before a0 Z = true) (w4 : (Jvm.Cond.instanceMethod y).before a0 Z = true) (w5 : (Jvm.Cond.initialized y.cls).before a0 Z = true) (w6 : (Jvm.Cond.code y bytes maxL ret).before a0 Z = true) (hy : y.cls ≠ "java/lang/invoke/MethodHandle" ∧ y.cls ≠ "java/lang/invoke/VarHandle")
    {rm : Room} {as' : Array Value} {Q : Option Value → Heap → List Loc → Prop} (C : Ctr l Z y bytes maxL ret rm [] as' h Q) (Ex : Exa Z h a C0) {argsL rest : List Value} {ps : List FieldType} {rt : Option FieldType} (hpd : parseMethodDescriptor y.desc = some ⟨ps, rt⟩) (hlen : argsL.length = ps.length) (hst : S = argsL.reverse ++ .ref a :: rest) (has : (.ref a :: argsL).toArray = as') (hd : decode c.code pc = .ok (.invokevirtual index, 3)) (hq : pc + 3 = q) (hsz : L.size = c.maxLocals) (eT : T.heap = h)
    (hf : rm.frames + 1 ≤ R.frames) {W : Nat} (hW : (rest.map fun v => v.category).sum = W) (hl : W + (maxL + 11) + rm.locals ≤ R.locals) (hc : cells + rm.cells ≤ R.cells) (hs : slots + rm.slots ≤ R.slots)
    (k : ∀ v T' Lc, Stand p l e R s m args below meth c T' (locs ++ Lc) (cells + rm.cells) (slots + rm.slots) → Q v T'.heap Lc → Go p e below Φ (T'.setTop (mkF m q L (v.toList ++ rest)))) : Go p e below Φ (T.setTop (mkF m pc L S)) := by
  subst hq has
  obtain ⟨cq, kq, qa, qb, qc⟩ := isOf hZ eT Ex
  obtain ⟨v, _, ⟨T', L', k', n'⟩, -, X', ⟨Lc, hQ, l1, y1, z1⟩, st⟩ := X.virtualBack hx (y := y) (z := y) hown (mvT hZ w1) (mvT hZ w2) (notFace_of_selects (args := #[]) (mvT hZ w3)) (mvT hZ w3) (mvT hZ w4) hy (backOf (W := W) C hZ w6 w5 hf hl) qa qc (g := mkF m pc L S) rfl hsz (Steps.refl _) (argsL := argsL) (rest := rest) (lenOf hpd hlen) hst (by show 2 * 0 + _ ≤ _; omega) hd (fun _ _ => ⟨rfl, eT, hc, hs⟩)
  dsimp only [Pt.U, Pt.locs, Pt.cells, Pt.slots] at X' l1 y1 z1 st hQ
  subst l1 y1 z1
  exact Go.by (fun _ r => st.trans r) (k v T' Lc X' hQ)
theorem g_private (X : Stand p l e R s m args below meth c T locs cells slots) (hx : p.tables.exec = Jvm.exec) (hZ : Z.Warmed39 s.vm) {own : String} {index kI : Nat} {y : MethodName} {bytes : ByteArray} {maxL : Nat} {ret : Option FieldType} (hown : s.vm.findClass own = some m.cls) (w1 : (Jvm.Cond.methodLink own index y).before a0 Z = true) (w2 : (Jvm.Cond.instanceMethod y).before a0 Z = true) (w3 : (Jvm.Cond.privateMethod y).before a0 Z = true) (w4 : (Jvm.Cond.instantiable y.cls kI).before a0 Z = true) (w5 : (Jvm.Cond.initialized y.cls).before a0 Z = true) (w6 : (Jvm.Cond.code y bytes maxL ret).before a0 Z = true) (hy : y.cls ≠ "java/lang/invoke/MethodHandle" ∧ y.cls ≠ "java/lang/invoke/VarHandle")
    {rm : Room} {as' : Array Value} {Q : Option Value → Heap → List Loc → Prop} (C : Ctr l Z y bytes maxL ret rm [] as' h Q) (Ex : Exa Z h a y.cls) {argsL rest : List Value} {ps : List FieldType} {rt : Option FieldType} (hpd : parseMethodDescriptor y.desc = some ⟨ps, rt⟩) (hlen : argsL.length = ps.length) (hst : S = argsL.reverse ++ .ref a :: rest) (has : (.ref a :: argsL).toArray = as') (hd : decode c.code pc = .ok (.invokevirtual index, 3)) (hq : pc + 3 = q) (hsz : L.size = c.maxLocals) (eT : T.heap = h)
    (hf : rm.frames + 1 ≤ R.frames) {W : Nat} (hW : (rest.map fun v => v.category).sum = W) (hl : W + (maxL + 11) + rm.locals ≤ R.locals) (hc : cells + rm.cells ≤ R.cells) (hs : slots + rm.slots ≤ R.slots)
    (k : ∀ v T' Lc, Stand p l e R s m args below meth c T' (locs ++ Lc) (cells + rm.cells) (slots + rm.slots) → Q v T'.heap Lc → Go p e below Φ (T'.setTop (mkF m q L (v.toList ++ rest)))) : Go p e below Φ (T.setTop (mkF m pc L S)) := by
  subst hq has
  obtain ⟨cq, q1, q2⟩ := Ex.cell
  have hp : s.PrivateAt y := Cond.privateMethod_at (mvP hZ w3 (args := args))
  obtain ⟨c1, k1, i1, i2, i3, i4, -⟩ := Cond.instantiable_spec (mvT (args := args) hZ w4)
  have hsel : (Jvm.Cond.selects y.cls y y).before args s = true := selects_self_of_private i1 i2 (Bool.or_eq_false_iff.mp i4).1 hp (mvT hZ w2) hy
  obtain ⟨v, _, ⟨T', L', k', n'⟩, -, X', ⟨Lc, hQ, l1, y1, z1⟩, st⟩ := X.privateBack hx (y := y) hown (mvT hZ w1) (mvT hZ w2) hsel hp (mvT hZ w6) hy (backOf (W := W) C hZ w6 w5 hf hl) (g := mkF m pc L S) rfl hsz (Steps.refl _) (a := a) (cell := cq) (by rw [eT]; exact q1) q2 (argsL := argsL) (rest := rest) (lenOf hpd hlen) hst (by show 2 * 0 + _ ≤ _; omega) hd (fun _ _ => ⟨rfl, eT, hc, hs⟩)
  dsimp only [Pt.U, Pt.locs, Pt.cells, Pt.slots] at X' l1 y1 z1 st hQ
  subst l1 y1 z1
  exact Go.by (fun _ r => st.trans r) (k v T' Lc X' hQ)
theorem g_acmp_eq (X : Stand p l e R s m args below meth c T locs cells slots) (hx : p.tables.exec = Jvm.exec) {o : Int} {q0 : Nat} {x y : Addr} (hd : decode c.code pc = .ok (.if_acmp .eq o, 3)) (ho : 0 ≤ (pc : Int) + o) (hq : ((pc : Int) + o).toNat = q) (hq0 : pc + 3 = q0) (k1 : x = y → Go p e below Φ (T.setTop (mkF m q L S))) (k0 : x ≠ y → Go p e below Φ (T.setTop (mkF m q0 L S))) : Go p e below Φ (T.setTop (mkF m pc L (.ref y :: .ref x :: S))) := by
  subst hq0
  by_cases hb : x = y
  · exact Go.by (fun _ => acmp X hx rfl rfl rfl (same := true) rfl hd rfl (by simp [hb]) ho (by rw [if_pos (by rfl)]; exact hq.symm)) (k1 hb)
  · exact Go.by (fun _ => acmp X hx rfl rfl rfl (same := false) rfl hd rfl (by simp [hb]) ho (by rw [if_neg (by decide)])) (k0 hb)
theorem g_acmp_ne (X : Stand p l e R s m args below meth c T locs cells slots) (hx : p.tables.exec = Jvm.exec) {o : Int} {q0 : Nat} {x y : Addr} (hd : decode c.code pc = .ok (.if_acmp .ne o, 3)) (ho : 0 ≤ (pc : Int) + o) (hq : ((pc : Int) + o).toNat = q) (hq0 : pc + 3 = q0) (k1 : x ≠ y → Go p e below Φ (T.setTop (mkF m q L S))) (k0 : x = y → Go p e below Φ (T.setTop (mkF m q0 L S))) : Go p e below Φ (T.setTop (mkF m pc L (.ref y :: .ref x :: S))) := by
  subst hq0
  by_cases hb : x = y
  · exact Go.by (fun _ => acmp X hx rfl rfl rfl (same := true) rfl hd rfl (by simp [hb]) ho (by rw [if_neg (by decide)])) (k0 hb)
  · exact Go.by (fun _ => acmp X hx rfl rfl rfl (same := false) rfl hd rfl (by simp [hb]) ho (by rw [if_pos (by rfl)]; exact hq.symm)) (k1 hb)
theorem g_ifnull_no (X : Stand p l e R s m args below meth c T locs cells slots) (hx : p.tables.exec = Jvm.exec) {o : Int} {y : Addr} (hd : decode c.code pc = .ok (.ifnull o, 3)) (hq : pc + 3 = q) (k : Go p e below Φ (T.setTop (mkF m q L S))) : Go p e below Φ (T.setTop (mkF m pc L (.ref y :: S))) := by
  subst hq; exact Go.by (fun _ => XS.ifnullNo X.here hx rfl hd rfl) k
theorem g_ifnonnull_yes (X : Stand p l e R s m args below meth c T locs cells slots) (hx : p.tables.exec = Jvm.exec) {o : Int} {y : Addr} (hd : decode c.code pc = .ok (.ifnonnull o, 3)) (ho : 0 ≤ (pc : Int) + o) (hq : ((pc : Int) + o).toNat = q) (k : Go p e below Φ (T.setTop (mkF m q L S))) : Go p e below Φ (T.setTop (mkF m pc L (.ref y :: S))) := Go.by (fun _ => XS.ifnonnullYes X.here hx rfl rfl hd rfl ho hq) k
end OwnHeap
def lbBefore (vs : List Int32) (kp kn : Int32) (i : Nat) : Prop := (vs.getD (1 + 2 * i) 0).toInt < kp.toInt ∨ ((vs.getD (1 + 2 * i) 0).toInt = kp.toInt ∧ (vs.getD (2 + 2 * i) 0).toInt < kn.toInt)
theorem own_getD {vs : List Int32} {i : Nat} (h : i < vs.length) : vs[i]? = some (vs.getD i 0) := by
  rw [List.getD_eq_getElem?_getD, List.getElem?_eq_getElem h]; rfl
def RM_rm1 : Room := ({ frames := 0, cells := 0, slots := 0, locals := 0 } : Room)
theorem d1_0 : decode method_2_code 0 = .ok (.iload_n 0, 1) := by decide +kernel
theorem d1_1 : decode method_2_code 1 = .ok (.iload_n 1, 1) := by decide +kernel
theorem d1_2 : decode method_2_code 2 = .ok (.iconst 1, 1) := by decide +kernel
theorem d1_3 : decode method_2_code 3 = .ok (.isub, 1) := by decide +kernel
theorem d1_4 : decode method_2_code 4 = .ok (.iushr, 1) := by decide +kernel
theorem d1_5 : decode method_2_code 5 = .ok (.iconst 1, 1) := by decide +kernel
theorem d1_6 : decode method_2_code 6 = .ok (.iand, 1) := by decide +kernel
theorem d1_7 : decode method_2_code 7 = .ok (.ireturn, 1) := by decide +kernel
theorem ef_1 (m : MethodId) (z0 : Int32) (z1 : Int32) : entryFrame m #[.int z0, .int z1] 2 = mkF m 0 #[.val (.int z0), .val (.int z1)] [] := by first | (simp [entryFrame, mkF, argsToLocals, Value.category]; done) | rfl
theorem pn_0 : plainName "com/example/revisor/revisor/PackedEdgesRunEndPinLaw" = true := by first | (simp [plainName, overriddenIn]; done) | decide +kernel
set_option maxRecDepth 65536 in
set_option maxHeartbeats 40000000 in
theorem rm1 (l : Launch) (Z : State) (a0 : Array Value) (hw : ∀ d ∈ tables_1, d.before a0 Z = true) (ws : List Jvm.Cond) (sp : Int32) (jj : Int32) (h0 : Heap) (n0 : Nat) (Z0 : n0 ≤ h0.size) :
    Ctr l Z (⟨"com/example/revisor/revisor/PackedEdgesRunEndPinLaw", "bit", "(II)I"⟩ : MethodName) method_2_code 2 (some .int) RM_rm1 ws #[.int sp, .int jj] h0 (IQ (fun r => r.toInt = 0 ∨ r.toInt = 1) h0) := by
  refine Ctr.of (plainFor_of_name pn_0) ?_
  intro p e s m below meth c s₁ hx hby hml hrt hlk hnm hown hZ X0 e0
  have N0 := Fr.nil n0
  refine Go.cast (ef_1 m sp jj) ?_
  refine g_iloadN (q := 1) X0.here hx (hb hby d1_0) rfl rfl ?_
  refine g_iloadN (q := 2) X0.here hx (hb hby d1_1) rfl rfl ?_
  refine g_iconst (q := 3) (v := (1 : Int32)) X0.here hx (hb hby d1_2) rfl rfl ?_
  refine g_isub (q := 4) X0.here hx (hb hby d1_3) rfl ?_
  refine g_iushr (q := 5) X0.here hx (hb hby d1_4) rfl ?_
  refine g_iconst (q := 6) (v := (1 : Int32)) X0.here hx (hb hby d1_5) rfl rfl ?_
  refine g_iand (q := 7) X0.here hx (hb hby d1_6) rfl ?_
  exact g_ireturn X0 hx hlk hrt (hb hby d1_7) (by decide) (by decide) ⟨_, rfl, (show (((sp.toUInt32 >>> ((jj - (1 : Int32)) &&& 31).toUInt32).toInt32) &&& (1 : Int32)).toInt = 0 ∨ (((sp.toUInt32 >>> ((jj - (1 : Int32)) &&& 31).toUInt32).toInt32) &&& (1 : Int32)).toInt = 1 by have f3 := rng32 sp; (try simp only [Int32.reduceToInt, Int64.reduceToInt] at f3); have f6 := rng32 jj; (try simp only [Int32.reduceToInt, Int64.reduceToInt] at f6); have f7 := rng32 (jj - (1 : Int32)); (try simp only [Int32.reduceToInt, Int64.reduceToInt] at f7); have f8 := c_isub jj (1 : Int32); (try simp only [Int32.reduceToInt, Int64.reduceToInt] at f8); (try have f8e : (jj - (1 : Int32)).toInt = jj.toInt - (1 : Int) := (by omega)); have f9 := rng32 ((sp.toUInt32 >>> ((jj - (1 : Int32)) &&& 31).toUInt32).toInt32); (try simp only [Int32.reduceToInt, Int64.reduceToInt] at f9); have f10 := rng32 (((sp.toUInt32 >>> ((jj - (1 : Int32)) &&& 31).toUInt32).toInt32) &&& (1 : Int32)); (try simp only [Int32.reduceToInt, Int64.reduceToInt] at f10); have f11 := c_mask ((sp.toUInt32 >>> ((jj - (1 : Int32)) &&& 31).toUInt32).toInt32) (1 : Int32) 1 (by decide) (by decide); (try simp only [Int32.reduceToInt, Int64.reduceToInt] at f11); (try have f11e : (((sp.toUInt32 >>> ((jj - (1 : Int32)) &&& 31).toUInt32).toInt32) &&& (1 : Int32)).toInt = ((sp.toUInt32 >>> ((jj - (1 : Int32)) &&& 31).toUInt32).toInt32).toInt ∨ (((sp.toUInt32 >>> ((jj - (1 : Int32)) &&& 31).toUInt32).toInt32) &&& (1 : Int32)).toInt = ((sp.toUInt32 >>> ((jj - (1 : Int32)) &&& 31).toUInt32).toInt32).toInt + 2 := (by omega)); (try simp only [Int32.reduceToInt, Int64.reduceToInt, and_true, true_and, or_true, true_or]); (first | done | omega)), e0, rfl⟩
def RM_rm2 : Room := ({ frames := 0, cells := 0, slots := 0, locals := 0 } : Room)
theorem d2_0 : decode prog_6_method_8_code 0 = .ok (.aload_n 0, 1) := by decide +kernel
theorem d2_1 : decode prog_6_method_8_code 1 = .ok (.iconst 1, 1) := by decide +kernel
theorem d2_2 : decode prog_6_method_8_code 2 = .ok (.iconst 2, 1) := by decide +kernel
theorem d2_3 : decode prog_6_method_8_code 3 = .ok (.iload_n 1, 1) := by decide +kernel
theorem d2_4 : decode prog_6_method_8_code 4 = .ok (.imul, 1) := by decide +kernel
theorem d2_5 : decode prog_6_method_8_code 5 = .ok (.iadd, 1) := by decide +kernel
theorem d2_6 : decode prog_6_method_8_code 6 = .ok (.iaload, 1) := by decide +kernel
theorem d2_7 : decode prog_6_method_8_code 7 = .ok (.istore_n 2, 1) := by decide +kernel
theorem d2_8 : decode prog_6_method_8_code 8 = .ok (.iload_n 1, 1) := by decide +kernel
theorem d2_9 : decode prog_6_method_8_code 9 = .ok (.iconst 1, 1) := by decide +kernel
theorem d2_10 : decode prog_6_method_8_code 10 = .ok (.iadd, 1) := by decide +kernel
theorem d2_11 : decode prog_6_method_8_code 11 = .ok (.istore_n 3, 1) := by decide +kernel
theorem d2_12 : decode prog_6_method_8_code 12 = .ok (.iload_n 3, 1) := by decide +kernel
theorem d2_13 : decode prog_6_method_8_code 13 = .ok (.aload_n 0, 1) := by decide +kernel
theorem d2_14 : decode prog_6_method_8_code 14 = .ok (.iconst 0, 1) := by decide +kernel
theorem d2_15 : decode prog_6_method_8_code 15 = .ok (.iaload, 1) := by decide +kernel
theorem d2_16 : decode prog_6_method_8_code 16 = .ok (.if_icmp .ge 20, 3) := by decide +kernel
theorem d2_19 : decode prog_6_method_8_code 19 = .ok (.aload_n 0, 1) := by decide +kernel
theorem d2_20 : decode prog_6_method_8_code 20 = .ok (.iconst 1, 1) := by decide +kernel
theorem d2_21 : decode prog_6_method_8_code 21 = .ok (.iconst 2, 1) := by decide +kernel
theorem d2_22 : decode prog_6_method_8_code 22 = .ok (.iload_n 3, 1) := by decide +kernel
theorem d2_23 : decode prog_6_method_8_code 23 = .ok (.imul, 1) := by decide +kernel
theorem d2_24 : decode prog_6_method_8_code 24 = .ok (.iadd, 1) := by decide +kernel
theorem d2_25 : decode prog_6_method_8_code 25 = .ok (.iaload, 1) := by decide +kernel
theorem d2_26 : decode prog_6_method_8_code 26 = .ok (.iload_n 2, 1) := by decide +kernel
theorem d2_27 : decode prog_6_method_8_code 27 = .ok (.if_icmp .ne 9, 3) := by decide +kernel
theorem d2_30 : decode prog_6_method_8_code 30 = .ok (.iinc 3 1, 3) := by decide +kernel
theorem d2_33 : decode prog_6_method_8_code 33 = .ok (.goto (-21), 3) := by decide +kernel
theorem d2_36 : decode prog_6_method_8_code 36 = .ok (.iload_n 3, 1) := by decide +kernel
theorem d2_37 : decode prog_6_method_8_code 37 = .ok (.ireturn, 1) := by decide +kernel
theorem ef_2 (m : MethodId) (z0 : Addr) (z1 : Int32) : entryFrame m #[.ref z0, .int z1] 4 = mkF m 0 #[.val (.ref z0), .val (.int z1), .unset, .unset] [] := by first | (simp [entryFrame, mkF, argsToLocals, Value.category]; done) | rfl
theorem pn_1 : plainName "com/example/revisor/revisor/PackedEdges" = true := by first | (simp [plainName, overriddenIn]; done) | decide +kernel
set_option maxRecDepth 65536 in
set_option maxHeartbeats 40000000 in
theorem rm2 (l : Launch) (Z : State) (a0 : Array Value) (hw : ∀ d ∈ tables_1, d.before a0 Z = true) (ws : List Jvm.Cond) (ed : Addr) (tt : Int32) (h0 : Heap) (n0 : Nat) (Z0 : n0 ≤ h0.size) (vs : List Int32) (A0 : IA Z h0 ed vs) (cn : Int32) (n1 : Nat) (hn0 : vs[0]? = some cn) (hc : cn.toInt = (n1 : Int)) (hlen : 1 + 2 * n1 ≤ vs.length) (ht : 0 ≤ tt.toInt) (ht1 : tt.toInt < (n1 : Int)) :
    Ctr l Z (⟨"com/example/revisor/revisor/PackedEdges", "runEnd", "([II)I"⟩ : MethodName) prog_6_method_8_code 4 (some .int) RM_rm2 ws #[.ref ed, .int tt] h0 (IQ (fun r => ∃ k : Nat, r.toInt = (k : Int) ∧ tt.toInt < (k : Int) ∧ k ≤ n1 ∧ (∀ i : Nat, tt.toInt < (i : Int) → i < k → (vs.getD (1 + 2 * i) 0).toInt = (vs.getD (1 + 2 * tt.toInt.toNat) 0).toInt) ∧ (k < n1 → (vs.getD (1 + 2 * k) 0).toInt ≠ (vs.getD (1 + 2 * tt.toInt.toNat) 0).toInt)) h0) := by
  refine Ctr.of (plainFor_of_name pn_1) ?_
  intro p e s m below meth c s₁ hx hby hml hrt hlk hnm hown hZ X0 e0
  have N0 := Fr.nil n0
  refine Go.cast (ef_2 m ed tt) ?_
  have hvl : vs.length < 2 ^ 31 := by have := A0.len; rwa [List.length_map] at this
  refine g_aloadN (q := 1) X0.here hx (hb hby d2_0) rfl rfl rfl ?_
  refine g_iconst (q := 2) (v := (1 : Int32)) X0.here hx (hb hby d2_1) rfl rfl ?_
  refine g_iconst (q := 3) (v := (2 : Int32)) X0.here hx (hb hby d2_2) rfl rfl ?_
  refine g_iloadN (q := 4) X0.here hx (hb hby d2_3) rfl rfl ?_
  refine g_imul (q := 5) X0.here hx (hb hby d2_4) rfl ?_
  refine g_iadd (q := 6) X0.here hx (hb hby d2_5) rfl ?_
  refine g_iload_ (q := 7) (i := (1 + 2 * tt.toInt.toNat)) (v := (vs.getD (1 + 2 * tt.toInt.toNat) 0)) X0 hx hZ e0 A0 (by (try simp only [Int32.reduceToInt, Int64.reduceToInt, true_and, and_true, not_true_eq_false, not_false_eq_true, false_and, or_false, false_or] at ht); (try simp only [Int32.reduceToInt, Int64.reduceToInt, true_and, and_true, not_true_eq_false, not_false_eq_true, false_and, or_false, false_or] at ht1); (try simp only [Int32.reduceToInt, Int64.reduceToInt, true_and, and_true, not_true_eq_false, not_false_eq_true, false_and, or_false, false_or] at hc); (try simp only [Int32.reduceToInt, Int64.reduceToInt, true_and, and_true, not_true_eq_false, not_false_eq_true, false_and, or_false, false_or] at hlen); (try simp only [Int32.reduceToInt, Int64.reduceToInt, true_and, and_true, not_true_eq_false, not_false_eq_true, false_and, or_false, false_or] at hvl); have f3 := rng32 tt; (try simp only [Int32.reduceToInt, Int64.reduceToInt] at f3); have f4 := rng32 ((2 : Int32) * tt); (try simp only [Int32.reduceToInt, Int64.reduceToInt] at f4); have f5 := c_imul (2 : Int32) tt; (try simp only [Int32.reduceToInt, Int64.reduceToInt] at f5); (try have f5e : ((2 : Int32) * tt).toInt = (2 : Int) * tt.toInt := (by omega)); have f6 := rng32 ((1 : Int32) + ((2 : Int32) * tt)); (try simp only [Int32.reduceToInt, Int64.reduceToInt] at f6); have f7 := c_iadd (1 : Int32) ((2 : Int32) * tt); (try simp only [Int32.reduceToInt, Int64.reduceToInt] at f7); (try have f7e : ((1 : Int32) + ((2 : Int32) * tt)).toInt = (1 : Int) + ((2 : Int32) * tt).toInt := (by omega)); (try simp only [Int32.reduceToInt, Int64.reduceToInt, and_true, true_and, or_true, true_or]); (first | done | omega)) (own_getD (by (try simp only [Int32.reduceToInt, Int64.reduceToInt, true_and, and_true, not_true_eq_false, not_false_eq_true, false_and, or_false, false_or] at ht); (try simp only [Int32.reduceToInt, Int64.reduceToInt, true_and, and_true, not_true_eq_false, not_false_eq_true, false_and, or_false, false_or] at ht1); (try simp only [Int32.reduceToInt, Int64.reduceToInt, true_and, and_true, not_true_eq_false, not_false_eq_true, false_and, or_false, false_or] at hc); (try simp only [Int32.reduceToInt, Int64.reduceToInt, true_and, and_true, not_true_eq_false, not_false_eq_true, false_and, or_false, false_or] at hlen); (try simp only [Int32.reduceToInt, Int64.reduceToInt, true_and, and_true, not_true_eq_false, not_false_eq_true, false_and, or_false, false_or] at hvl); have f3 := rng32 tt; (try simp only [Int32.reduceToInt, Int64.reduceToInt] at f3); have f4 := rng32 ((2 : Int32) * tt); (try simp only [Int32.reduceToInt, Int64.reduceToInt] at f4); have f5 := c_imul (2 : Int32) tt; (try simp only [Int32.reduceToInt, Int64.reduceToInt] at f5); (try have f5e : ((2 : Int32) * tt).toInt = (2 : Int) * tt.toInt := (by omega)); have f6 := rng32 ((1 : Int32) + ((2 : Int32) * tt)); (try simp only [Int32.reduceToInt, Int64.reduceToInt] at f6); have f7 := c_iadd (1 : Int32) ((2 : Int32) * tt); (try simp only [Int32.reduceToInt, Int64.reduceToInt] at f7); (try have f7e : ((1 : Int32) + ((2 : Int32) * tt)).toInt = (1 : Int) + ((2 : Int32) * tt).toInt := (by omega)); (try simp only [Int32.reduceToInt, Int64.reduceToInt, and_true, true_and, or_true, true_or]); (first | done | omega))) (hb hby d2_6) rfl ?_
  refine g_istoreN (q := 8) (L' := #[.val (.ref ed), .val (.int tt), .val (.int (vs.getD (1 + 2 * tt.toInt.toNat) 0)), .unset]) X0.here hx (hb hby d2_7) rfl rfl ?_
  refine g_iloadN (q := 9) X0.here hx (hb hby d2_8) rfl rfl ?_
  refine g_iconst (q := 10) (v := (1 : Int32)) X0.here hx (hb hby d2_9) rfl rfl ?_
  refine g_iadd (q := 11) X0.here hx (hb hby d2_10) rfl ?_
  refine g_istoreN (q := 12) (L' := #[.val (.ref ed), .val (.int tt), .val (.int (vs.getD (1 + 2 * tt.toInt.toNat) 0)), .val (.int (tt + (1 : Int32)))]) X0.here hx (hb hby d2_11) rfl rfl ?_
  have LP12_b1 : ∀ (n : Nat) (Tb1 : State) (en : Int32) (Xb1 : Stand p l e RM_rm2 s m #[.ref ed, .int tt] below meth c Tb1 ([]) (0) (0)) (eb1 : Tb1.heap = h0) (hen : tt.toInt < en.toInt ∧ en.toInt ≤ (n1 : Int)) (_hA : ∀ i : Nat, tt.toInt < (i : Int) → (i : Int) < en.toInt → (vs.getD (1 + 2 * i) 0).toInt = (vs.getD (1 + 2 * tt.toInt.toNat) 0).toInt) (hnb1 : ((n1 : Int) - en.toInt).toNat < n), Go p e below (Fin0 s RM_rm2 (IQ (fun r => ∃ k : Nat, r.toInt = (k : Int) ∧ tt.toInt < (k : Int) ∧ k ≤ n1 ∧ (∀ i : Nat, tt.toInt < (i : Int) → i < k → (vs.getD (1 + 2 * i) 0).toInt = (vs.getD (1 + 2 * tt.toInt.toNat) 0).toInt) ∧ (k < n1 → (vs.getD (1 + 2 * k) 0).toInt ≠ (vs.getD (1 + 2 * tt.toInt.toNat) 0).toInt)) h0)) (Tb1.setTop (mkF m 12 #[.val (.ref ed), .val (.int tt), .val (.int (vs.getD (1 + 2 * tt.toInt.toNat) 0)), .val (.int en)] [])) := by
    intro n
    induction n with
    | zero => intro Tb1 en Xb1 eb1 hen _hA hnb1; exact absurd hnb1 (Nat.not_lt_zero _)
    | succ n ihb1 =>
      intro Tb1 en Xb1 eb1 hen _hA hnb1
      refine g_iloadN (q := 13) Xb1.here hx (hb hby d2_12) rfl rfl ?_
      refine g_aloadN (q := 14) Xb1.here hx (hb hby d2_13) rfl rfl rfl ?_
      refine g_iconst (q := 15) (v := (0 : Int32)) Xb1.here hx (hb hby d2_14) rfl rfl ?_
      refine g_iload_ (q := 16) (i := 0) (v := cn) Xb1 hx hZ eb1 A0 rfl hn0 (hb hby d2_15) rfl ?_
      refine g_icmp_ge (q := 36) (q0 := 19) Xb1.here hx (hb hby d2_16) (by decide) (by decide) rfl ?_ ?_
      · intro c2
        refine g_iloadN (q := 37) Xb1.here hx (hb hby d2_36) rfl rfl ?_
        exact g_ireturn Xb1 hx hlk hrt (hb hby d2_37) (by decide) (by decide) ⟨_, rfl, ⟨en.toInt.toNat, (by (try simp only [Int32.reduceToInt, Int64.reduceToInt, true_and, and_true, not_true_eq_false, not_false_eq_true, false_and, or_false, false_or] at hen); (try simp only [Int32.reduceToInt, Int64.reduceToInt, true_and, and_true, not_true_eq_false, not_false_eq_true, false_and, or_false, false_or] at c2); (try simp only [Int32.reduceToInt, Int64.reduceToInt, true_and, and_true, not_true_eq_false, not_false_eq_true, false_and, or_false, false_or] at ht); (try simp only [Int32.reduceToInt, Int64.reduceToInt, true_and, and_true, not_true_eq_false, not_false_eq_true, false_and, or_false, false_or] at ht1); (try simp only [Int32.reduceToInt, Int64.reduceToInt, true_and, and_true, not_true_eq_false, not_false_eq_true, false_and, or_false, false_or] at hc); have f1 := rng32 en; (try simp only [Int32.reduceToInt, Int64.reduceToInt] at f1); have f3 := rng32 cn; (try simp only [Int32.reduceToInt, Int64.reduceToInt] at f3); (try simp only [Int32.reduceToInt, Int64.reduceToInt, and_true, true_and, or_true, true_or]); (first | done | omega)), (by (try simp only [Int32.reduceToInt, Int64.reduceToInt, true_and, and_true, not_true_eq_false, not_false_eq_true, false_and, or_false, false_or] at hen); (try simp only [Int32.reduceToInt, Int64.reduceToInt, true_and, and_true, not_true_eq_false, not_false_eq_true, false_and, or_false, false_or] at c2); (try simp only [Int32.reduceToInt, Int64.reduceToInt, true_and, and_true, not_true_eq_false, not_false_eq_true, false_and, or_false, false_or] at ht); (try simp only [Int32.reduceToInt, Int64.reduceToInt, true_and, and_true, not_true_eq_false, not_false_eq_true, false_and, or_false, false_or] at ht1); (try simp only [Int32.reduceToInt, Int64.reduceToInt, true_and, and_true, not_true_eq_false, not_false_eq_true, false_and, or_false, false_or] at hc); have f1 := rng32 en; (try simp only [Int32.reduceToInt, Int64.reduceToInt] at f1); have f3 := rng32 cn; (try simp only [Int32.reduceToInt, Int64.reduceToInt] at f3); (try simp only [Int32.reduceToInt, Int64.reduceToInt, and_true, true_and, or_true, true_or]); (first | done | omega)), (by (try simp only [Int32.reduceToInt, Int64.reduceToInt, true_and, and_true, not_true_eq_false, not_false_eq_true, false_and, or_false, false_or] at hen); (try simp only [Int32.reduceToInt, Int64.reduceToInt, true_and, and_true, not_true_eq_false, not_false_eq_true, false_and, or_false, false_or] at c2); (try simp only [Int32.reduceToInt, Int64.reduceToInt, true_and, and_true, not_true_eq_false, not_false_eq_true, false_and, or_false, false_or] at ht); (try simp only [Int32.reduceToInt, Int64.reduceToInt, true_and, and_true, not_true_eq_false, not_false_eq_true, false_and, or_false, false_or] at ht1); (try simp only [Int32.reduceToInt, Int64.reduceToInt, true_and, and_true, not_true_eq_false, not_false_eq_true, false_and, or_false, false_or] at hc); have f1 := rng32 en; (try simp only [Int32.reduceToInt, Int64.reduceToInt] at f1); have f3 := rng32 cn; (try simp only [Int32.reduceToInt, Int64.reduceToInt] at f3); (try simp only [Int32.reduceToInt, Int64.reduceToInt, and_true, true_and, or_true, true_or]); (first | done | omega)), (fun i h1 h2 => _hA i h1 (by (try simp only [Int32.reduceToInt, Int64.reduceToInt, true_and, and_true, not_true_eq_false, not_false_eq_true, false_and, or_false, false_or] at hen); (try simp only [Int32.reduceToInt, Int64.reduceToInt, true_and, and_true, not_true_eq_false, not_false_eq_true, false_and, or_false, false_or] at c2); (try simp only [Int32.reduceToInt, Int64.reduceToInt, true_and, and_true, not_true_eq_false, not_false_eq_true, false_and, or_false, false_or] at ht); (try simp only [Int32.reduceToInt, Int64.reduceToInt, true_and, and_true, not_true_eq_false, not_false_eq_true, false_and, or_false, false_or] at ht1); (try simp only [Int32.reduceToInt, Int64.reduceToInt, true_and, and_true, not_true_eq_false, not_false_eq_true, false_and, or_false, false_or] at hc); (try simp only [Int32.reduceToInt, Int64.reduceToInt, true_and, and_true, not_true_eq_false, not_false_eq_true, false_and, or_false, false_or] at h2); have f1 := rng32 en; (try simp only [Int32.reduceToInt, Int64.reduceToInt] at f1); have f3 := rng32 cn; (try simp only [Int32.reduceToInt, Int64.reduceToInt] at f3); (try simp only [Int32.reduceToInt, Int64.reduceToInt, and_true, true_and, or_true, true_or]); (first | done | omega))), (fun h => by exfalso; (try simp only [Int32.reduceToInt, Int64.reduceToInt, true_and, and_true, not_true_eq_false, not_false_eq_true, false_and, or_false, false_or] at hen); (try simp only [Int32.reduceToInt, Int64.reduceToInt, true_and, and_true, not_true_eq_false, not_false_eq_true, false_and, or_false, false_or] at c2); (try simp only [Int32.reduceToInt, Int64.reduceToInt, true_and, and_true, not_true_eq_false, not_false_eq_true, false_and, or_false, false_or] at ht); (try simp only [Int32.reduceToInt, Int64.reduceToInt, true_and, and_true, not_true_eq_false, not_false_eq_true, false_and, or_false, false_or] at ht1); (try simp only [Int32.reduceToInt, Int64.reduceToInt, true_and, and_true, not_true_eq_false, not_false_eq_true, false_and, or_false, false_or] at hc); (try simp only [Int32.reduceToInt, Int64.reduceToInt, true_and, and_true, not_true_eq_false, not_false_eq_true, false_and, or_false, false_or] at h); have f1 := rng32 en; (try simp only [Int32.reduceToInt, Int64.reduceToInt] at f1); have f3 := rng32 cn; (try simp only [Int32.reduceToInt, Int64.reduceToInt] at f3); (try simp only [Int32.reduceToInt, Int64.reduceToInt, and_true, true_and, or_true, true_or]); (first | done | omega))⟩, eb1, rfl⟩
      · intro c2
        refine g_aloadN (q := 20) Xb1.here hx (hb hby d2_19) rfl rfl rfl ?_
        refine g_iconst (q := 21) (v := (1 : Int32)) Xb1.here hx (hb hby d2_20) rfl rfl ?_
        refine g_iconst (q := 22) (v := (2 : Int32)) Xb1.here hx (hb hby d2_21) rfl rfl ?_
        refine g_iloadN (q := 23) Xb1.here hx (hb hby d2_22) rfl rfl ?_
        refine g_imul (q := 24) Xb1.here hx (hb hby d2_23) rfl ?_
        refine g_iadd (q := 25) Xb1.here hx (hb hby d2_24) rfl ?_
        refine g_iload_ (q := 26) (i := (1 + 2 * en.toInt.toNat)) (v := (vs.getD (1 + 2 * en.toInt.toNat) 0)) Xb1 hx hZ eb1 A0 (by (try simp only [Int32.reduceToInt, Int64.reduceToInt, true_and, and_true, not_true_eq_false, not_false_eq_true, false_and, or_false, false_or] at hen); (try simp only [Int32.reduceToInt, Int64.reduceToInt, true_and, and_true, not_true_eq_false, not_false_eq_true, false_and, or_false, false_or] at c2); (try simp only [Int32.reduceToInt, Int64.reduceToInt, true_and, and_true, not_true_eq_false, not_false_eq_true, false_and, or_false, false_or] at ht); (try simp only [Int32.reduceToInt, Int64.reduceToInt, true_and, and_true, not_true_eq_false, not_false_eq_true, false_and, or_false, false_or] at ht1); (try simp only [Int32.reduceToInt, Int64.reduceToInt, true_and, and_true, not_true_eq_false, not_false_eq_true, false_and, or_false, false_or] at hc); (try simp only [Int32.reduceToInt, Int64.reduceToInt, true_and, and_true, not_true_eq_false, not_false_eq_true, false_and, or_false, false_or] at hlen); (try simp only [Int32.reduceToInt, Int64.reduceToInt, true_and, and_true, not_true_eq_false, not_false_eq_true, false_and, or_false, false_or] at hvl); have f1 := rng32 en; (try simp only [Int32.reduceToInt, Int64.reduceToInt] at f1); have f3 := rng32 cn; (try simp only [Int32.reduceToInt, Int64.reduceToInt] at f3); have f6 := rng32 ((2 : Int32) * en); (try simp only [Int32.reduceToInt, Int64.reduceToInt] at f6); have f7 := c_imul (2 : Int32) en; (try simp only [Int32.reduceToInt, Int64.reduceToInt] at f7); (try have f7e : ((2 : Int32) * en).toInt = (2 : Int) * en.toInt := (by omega)); have f8 := rng32 ((1 : Int32) + ((2 : Int32) * en)); (try simp only [Int32.reduceToInt, Int64.reduceToInt] at f8); have f9 := c_iadd (1 : Int32) ((2 : Int32) * en); (try simp only [Int32.reduceToInt, Int64.reduceToInt] at f9); (try have f9e : ((1 : Int32) + ((2 : Int32) * en)).toInt = (1 : Int) + ((2 : Int32) * en).toInt := (by omega)); (try simp only [Int32.reduceToInt, Int64.reduceToInt, and_true, true_and, or_true, true_or]); (first | done | omega)) (own_getD (by (try simp only [Int32.reduceToInt, Int64.reduceToInt, true_and, and_true, not_true_eq_false, not_false_eq_true, false_and, or_false, false_or] at hen); (try simp only [Int32.reduceToInt, Int64.reduceToInt, true_and, and_true, not_true_eq_false, not_false_eq_true, false_and, or_false, false_or] at c2); (try simp only [Int32.reduceToInt, Int64.reduceToInt, true_and, and_true, not_true_eq_false, not_false_eq_true, false_and, or_false, false_or] at ht); (try simp only [Int32.reduceToInt, Int64.reduceToInt, true_and, and_true, not_true_eq_false, not_false_eq_true, false_and, or_false, false_or] at ht1); (try simp only [Int32.reduceToInt, Int64.reduceToInt, true_and, and_true, not_true_eq_false, not_false_eq_true, false_and, or_false, false_or] at hc); (try simp only [Int32.reduceToInt, Int64.reduceToInt, true_and, and_true, not_true_eq_false, not_false_eq_true, false_and, or_false, false_or] at hlen); (try simp only [Int32.reduceToInt, Int64.reduceToInt, true_and, and_true, not_true_eq_false, not_false_eq_true, false_and, or_false, false_or] at hvl); have f1 := rng32 en; (try simp only [Int32.reduceToInt, Int64.reduceToInt] at f1); have f3 := rng32 cn; (try simp only [Int32.reduceToInt, Int64.reduceToInt] at f3); have f6 := rng32 ((2 : Int32) * en); (try simp only [Int32.reduceToInt, Int64.reduceToInt] at f6); have f7 := c_imul (2 : Int32) en; (try simp only [Int32.reduceToInt, Int64.reduceToInt] at f7); (try have f7e : ((2 : Int32) * en).toInt = (2 : Int) * en.toInt := (by omega)); have f8 := rng32 ((1 : Int32) + ((2 : Int32) * en)); (try simp only [Int32.reduceToInt, Int64.reduceToInt] at f8); have f9 := c_iadd (1 : Int32) ((2 : Int32) * en); (try simp only [Int32.reduceToInt, Int64.reduceToInt] at f9); (try have f9e : ((1 : Int32) + ((2 : Int32) * en)).toInt = (1 : Int) + ((2 : Int32) * en).toInt := (by omega)); (try simp only [Int32.reduceToInt, Int64.reduceToInt, and_true, true_and, or_true, true_or]); (first | done | omega))) (hb hby d2_25) rfl ?_
        refine g_iloadN (q := 27) Xb1.here hx (hb hby d2_26) rfl rfl ?_
        refine g_icmp_ne (q := 36) (q0 := 30) Xb1.here hx (hb hby d2_27) (by decide) (by decide) rfl ?_ ?_
        · intro c3
          refine g_iloadN (q := 37) Xb1.here hx (hb hby d2_36) rfl rfl ?_
          exact g_ireturn Xb1 hx hlk hrt (hb hby d2_37) (by decide) (by decide) ⟨_, rfl, ⟨en.toInt.toNat, (by (try simp only [Int32.reduceToInt, Int64.reduceToInt, true_and, and_true, not_true_eq_false, not_false_eq_true, false_and, or_false, false_or] at hen); (try simp only [Int32.reduceToInt, Int64.reduceToInt, true_and, and_true, not_true_eq_false, not_false_eq_true, false_and, or_false, false_or] at c2); (try simp only [Int32.reduceToInt, Int64.reduceToInt, true_and, and_true, not_true_eq_false, not_false_eq_true, false_and, or_false, false_or] at c3); (try simp only [Int32.reduceToInt, Int64.reduceToInt, true_and, and_true, not_true_eq_false, not_false_eq_true, false_and, or_false, false_or] at ht); (try simp only [Int32.reduceToInt, Int64.reduceToInt, true_and, and_true, not_true_eq_false, not_false_eq_true, false_and, or_false, false_or] at ht1); (try simp only [Int32.reduceToInt, Int64.reduceToInt, true_and, and_true, not_true_eq_false, not_false_eq_true, false_and, or_false, false_or] at hc); have f1 := rng32 en; (try simp only [Int32.reduceToInt, Int64.reduceToInt] at f1); have f3 := rng32 cn; (try simp only [Int32.reduceToInt, Int64.reduceToInt] at f3); have f5 := rng32 (vs.getD (1 + 2 * tt.toInt.toNat) 0); (try simp only [Int32.reduceToInt, Int64.reduceToInt] at f5); have f7 := rng32 (vs.getD (1 + 2 * en.toInt.toNat) 0); (try simp only [Int32.reduceToInt, Int64.reduceToInt] at f7); (try simp only [Int32.reduceToInt, Int64.reduceToInt, and_true, true_and, or_true, true_or]); (first | done | omega)), (by (try simp only [Int32.reduceToInt, Int64.reduceToInt, true_and, and_true, not_true_eq_false, not_false_eq_true, false_and, or_false, false_or] at hen); (try simp only [Int32.reduceToInt, Int64.reduceToInt, true_and, and_true, not_true_eq_false, not_false_eq_true, false_and, or_false, false_or] at c2); (try simp only [Int32.reduceToInt, Int64.reduceToInt, true_and, and_true, not_true_eq_false, not_false_eq_true, false_and, or_false, false_or] at c3); (try simp only [Int32.reduceToInt, Int64.reduceToInt, true_and, and_true, not_true_eq_false, not_false_eq_true, false_and, or_false, false_or] at ht); (try simp only [Int32.reduceToInt, Int64.reduceToInt, true_and, and_true, not_true_eq_false, not_false_eq_true, false_and, or_false, false_or] at ht1); (try simp only [Int32.reduceToInt, Int64.reduceToInt, true_and, and_true, not_true_eq_false, not_false_eq_true, false_and, or_false, false_or] at hc); have f1 := rng32 en; (try simp only [Int32.reduceToInt, Int64.reduceToInt] at f1); have f3 := rng32 cn; (try simp only [Int32.reduceToInt, Int64.reduceToInt] at f3); have f5 := rng32 (vs.getD (1 + 2 * tt.toInt.toNat) 0); (try simp only [Int32.reduceToInt, Int64.reduceToInt] at f5); have f7 := rng32 (vs.getD (1 + 2 * en.toInt.toNat) 0); (try simp only [Int32.reduceToInt, Int64.reduceToInt] at f7); (try simp only [Int32.reduceToInt, Int64.reduceToInt, and_true, true_and, or_true, true_or]); (first | done | omega)), (by (try simp only [Int32.reduceToInt, Int64.reduceToInt, true_and, and_true, not_true_eq_false, not_false_eq_true, false_and, or_false, false_or] at hen); (try simp only [Int32.reduceToInt, Int64.reduceToInt, true_and, and_true, not_true_eq_false, not_false_eq_true, false_and, or_false, false_or] at c2); (try simp only [Int32.reduceToInt, Int64.reduceToInt, true_and, and_true, not_true_eq_false, not_false_eq_true, false_and, or_false, false_or] at c3); (try simp only [Int32.reduceToInt, Int64.reduceToInt, true_and, and_true, not_true_eq_false, not_false_eq_true, false_and, or_false, false_or] at ht); (try simp only [Int32.reduceToInt, Int64.reduceToInt, true_and, and_true, not_true_eq_false, not_false_eq_true, false_and, or_false, false_or] at ht1); (try simp only [Int32.reduceToInt, Int64.reduceToInt, true_and, and_true, not_true_eq_false, not_false_eq_true, false_and, or_false, false_or] at hc); have f1 := rng32 en; (try simp only [Int32.reduceToInt, Int64.reduceToInt] at f1); have f3 := rng32 cn; (try simp only [Int32.reduceToInt, Int64.reduceToInt] at f3); have f5 := rng32 (vs.getD (1 + 2 * tt.toInt.toNat) 0); (try simp only [Int32.reduceToInt, Int64.reduceToInt] at f5); have f7 := rng32 (vs.getD (1 + 2 * en.toInt.toNat) 0); (try simp only [Int32.reduceToInt, Int64.reduceToInt] at f7); (try simp only [Int32.reduceToInt, Int64.reduceToInt, and_true, true_and, or_true, true_or]); (first | done | omega)), (fun i h1 h2 => _hA i h1 (by (try simp only [Int32.reduceToInt, Int64.reduceToInt, true_and, and_true, not_true_eq_false, not_false_eq_true, false_and, or_false, false_or] at hen); (try simp only [Int32.reduceToInt, Int64.reduceToInt, true_and, and_true, not_true_eq_false, not_false_eq_true, false_and, or_false, false_or] at c2); (try simp only [Int32.reduceToInt, Int64.reduceToInt, true_and, and_true, not_true_eq_false, not_false_eq_true, false_and, or_false, false_or] at c3); (try simp only [Int32.reduceToInt, Int64.reduceToInt, true_and, and_true, not_true_eq_false, not_false_eq_true, false_and, or_false, false_or] at ht); (try simp only [Int32.reduceToInt, Int64.reduceToInt, true_and, and_true, not_true_eq_false, not_false_eq_true, false_and, or_false, false_or] at ht1); (try simp only [Int32.reduceToInt, Int64.reduceToInt, true_and, and_true, not_true_eq_false, not_false_eq_true, false_and, or_false, false_or] at hc); (try simp only [Int32.reduceToInt, Int64.reduceToInt, true_and, and_true, not_true_eq_false, not_false_eq_true, false_and, or_false, false_or] at h2); have f1 := rng32 en; (try simp only [Int32.reduceToInt, Int64.reduceToInt] at f1); have f3 := rng32 cn; (try simp only [Int32.reduceToInt, Int64.reduceToInt] at f3); have f5 := rng32 (vs.getD (1 + 2 * tt.toInt.toNat) 0); (try simp only [Int32.reduceToInt, Int64.reduceToInt] at f5); have f7 := rng32 (vs.getD (1 + 2 * en.toInt.toNat) 0); (try simp only [Int32.reduceToInt, Int64.reduceToInt] at f7); (try simp only [Int32.reduceToInt, Int64.reduceToInt, and_true, true_and, or_true, true_or]); (first | done | omega))), (fun _ => c3)⟩, eb1, rfl⟩
        · intro c3
          refine g_iinc (q := 33) (v := (en + (1 : Int32))) (L' := #[.val (.ref ed), .val (.int tt), .val (.int (vs.getD (1 + 2 * tt.toInt.toNat) 0)), .val (.int (en + (1 : Int32)))]) Xb1.here hx (hb hby d2_30) rfl rfl rfl rfl ?_
          refine g_goto (q := 12) Xb1.here hx (hb hby d2_33) (by decide) (by decide) ?_
          exact ihb1 _ (en + (1 : Int32)) Xb1 eb1 (by (try simp only [Int32.reduceToInt, Int64.reduceToInt, true_and, and_true, not_true_eq_false, not_false_eq_true, false_and, or_false, false_or] at hen); (try simp only [Int32.reduceToInt, Int64.reduceToInt, true_and, and_true, not_true_eq_false, not_false_eq_true, false_and, or_false, false_or] at c2); (try simp only [Int32.reduceToInt, Int64.reduceToInt, true_and, and_true, not_true_eq_false, not_false_eq_true, false_and, or_false, false_or] at c3); (try simp only [Int32.reduceToInt, Int64.reduceToInt, true_and, and_true, not_true_eq_false, not_false_eq_true, false_and, or_false, false_or] at ht); (try simp only [Int32.reduceToInt, Int64.reduceToInt, true_and, and_true, not_true_eq_false, not_false_eq_true, false_and, or_false, false_or] at ht1); (try simp only [Int32.reduceToInt, Int64.reduceToInt, true_and, and_true, not_true_eq_false, not_false_eq_true, false_and, or_false, false_or] at hc); (try simp only [Int32.reduceToInt, Int64.reduceToInt, true_and, and_true, not_true_eq_false, not_false_eq_true, false_and, or_false, false_or] at hlen); (try simp only [Int32.reduceToInt, Int64.reduceToInt, true_and, and_true, not_true_eq_false, not_false_eq_true, false_and, or_false, false_or] at hvl); have f1 := rng32 en; (try simp only [Int32.reduceToInt, Int64.reduceToInt] at f1); have f3 := rng32 cn; (try simp only [Int32.reduceToInt, Int64.reduceToInt] at f3); have f5 := rng32 (vs.getD (1 + 2 * tt.toInt.toNat) 0); (try simp only [Int32.reduceToInt, Int64.reduceToInt] at f5); have f7 := rng32 (vs.getD (1 + 2 * en.toInt.toNat) 0); (try simp only [Int32.reduceToInt, Int64.reduceToInt] at f7); have f9 := rng32 (en + (1 : Int32)); (try simp only [Int32.reduceToInt, Int64.reduceToInt] at f9); have f10 := c_iadd en (1 : Int32); (try simp only [Int32.reduceToInt, Int64.reduceToInt] at f10); (try have f10e : (en + (1 : Int32)).toInt = en.toInt + (1 : Int) := (by omega)); have f12 := rng32 tt; (try simp only [Int32.reduceToInt, Int64.reduceToInt] at f12); (try simp only [Int32.reduceToInt, Int64.reduceToInt, and_true, true_and, or_true, true_or]); (first | done | omega)) (fun i h1 h2 => by by_cases hq : (i : Int) < en.toInt; exact _hA i h1 hq; have hq2 : i = en.toInt.toNat := (by (try simp only [Int32.reduceToInt, Int64.reduceToInt, true_and, and_true, not_true_eq_false, not_false_eq_true, false_and, or_false, false_or] at hen); (try simp only [Int32.reduceToInt, Int64.reduceToInt, true_and, and_true, not_true_eq_false, not_false_eq_true, false_and, or_false, false_or] at c2); (try simp only [Int32.reduceToInt, Int64.reduceToInt, true_and, and_true, not_true_eq_false, not_false_eq_true, false_and, or_false, false_or] at c3); (try simp only [Int32.reduceToInt, Int64.reduceToInt, true_and, and_true, not_true_eq_false, not_false_eq_true, false_and, or_false, false_or] at ht); (try simp only [Int32.reduceToInt, Int64.reduceToInt, true_and, and_true, not_true_eq_false, not_false_eq_true, false_and, or_false, false_or] at ht1); (try simp only [Int32.reduceToInt, Int64.reduceToInt, true_and, and_true, not_true_eq_false, not_false_eq_true, false_and, or_false, false_or] at hc); (try simp only [Int32.reduceToInt, Int64.reduceToInt, true_and, and_true, not_true_eq_false, not_false_eq_true, false_and, or_false, false_or] at hlen); (try simp only [Int32.reduceToInt, Int64.reduceToInt, true_and, and_true, not_true_eq_false, not_false_eq_true, false_and, or_false, false_or] at hvl); (try simp only [Int32.reduceToInt, Int64.reduceToInt, true_and, and_true, not_true_eq_false, not_false_eq_true, false_and, or_false, false_or] at h1); (try simp only [Int32.reduceToInt, Int64.reduceToInt, true_and, and_true, not_true_eq_false, not_false_eq_true, false_and, or_false, false_or] at h2); (try simp only [Int32.reduceToInt, Int64.reduceToInt, true_and, and_true, not_true_eq_false, not_false_eq_true, false_and, or_false, false_or] at hq); (try simp only [Int32.reduceToInt, Int64.reduceToInt, true_and, and_true, not_true_eq_false, not_false_eq_true, false_and, or_false, false_or] at hen); have f1 := rng32 en; (try simp only [Int32.reduceToInt, Int64.reduceToInt] at f1); have f3 := rng32 cn; (try simp only [Int32.reduceToInt, Int64.reduceToInt] at f3); have f5 := rng32 (vs.getD (1 + 2 * tt.toInt.toNat) 0); (try simp only [Int32.reduceToInt, Int64.reduceToInt] at f5); have f7 := rng32 (vs.getD (1 + 2 * en.toInt.toNat) 0); (try simp only [Int32.reduceToInt, Int64.reduceToInt] at f7); have f9 := rng32 (en + (1 : Int32)); (try simp only [Int32.reduceToInt, Int64.reduceToInt] at f9); have f10 := c_iadd en (1 : Int32); (try simp only [Int32.reduceToInt, Int64.reduceToInt] at f10); (try have f10e : (en + (1 : Int32)).toInt = en.toInt + (1 : Int) := (by omega)); have f12 := rng32 tt; (try simp only [Int32.reduceToInt, Int64.reduceToInt] at f12); (try simp only [Int32.reduceToInt, Int64.reduceToInt, and_true, true_and, or_true, true_or]); (first | done | omega)); rw [hq2]; exact c3) (by (try simp only [Int32.reduceToInt, Int64.reduceToInt, true_and, and_true, not_true_eq_false, not_false_eq_true, false_and, or_false, false_or] at hen); (try simp only [Int32.reduceToInt, Int64.reduceToInt, true_and, and_true, not_true_eq_false, not_false_eq_true, false_and, or_false, false_or] at c2); (try simp only [Int32.reduceToInt, Int64.reduceToInt, true_and, and_true, not_true_eq_false, not_false_eq_true, false_and, or_false, false_or] at c3); (try simp only [Int32.reduceToInt, Int64.reduceToInt, true_and, and_true, not_true_eq_false, not_false_eq_true, false_and, or_false, false_or] at hc); (try simp only [Int32.reduceToInt, Int64.reduceToInt, true_and, and_true, not_true_eq_false, not_false_eq_true, false_and, or_false, false_or] at hnb1); (try simp only [Int32.reduceToInt, Int64.reduceToInt, true_and, and_true, not_true_eq_false, not_false_eq_true, false_and, or_false, false_or] at ht); (try simp only [Int32.reduceToInt, Int64.reduceToInt, true_and, and_true, not_true_eq_false, not_false_eq_true, false_and, or_false, false_or] at ht1); have f1 := rng32 en; (try simp only [Int32.reduceToInt, Int64.reduceToInt] at f1); have f3 := rng32 cn; (try simp only [Int32.reduceToInt, Int64.reduceToInt] at f3); have f5 := rng32 (vs.getD (1 + 2 * tt.toInt.toNat) 0); (try simp only [Int32.reduceToInt, Int64.reduceToInt] at f5); have f7 := rng32 (vs.getD (1 + 2 * en.toInt.toNat) 0); (try simp only [Int32.reduceToInt, Int64.reduceToInt] at f7); have f9 := rng32 (en + (1 : Int32)); (try simp only [Int32.reduceToInt, Int64.reduceToInt] at f9); have f10 := c_iadd en (1 : Int32); (try simp only [Int32.reduceToInt, Int64.reduceToInt] at f10); (try have f10e : (en + (1 : Int32)).toInt = en.toInt + (1 : Int) := (by omega)); (try simp only [Int32.reduceToInt, Int64.reduceToInt, and_true, true_and, or_true, true_or]); (first | done | omega))
  exact LP12_b1 (((n1 : Int) - (tt + (1 : Int32)).toInt).toNat + 1) _ (tt + (1 : Int32)) X0 e0 (by (try simp only [Int32.reduceToInt, Int64.reduceToInt, true_and, and_true, not_true_eq_false, not_false_eq_true, false_and, or_false, false_or] at ht); (try simp only [Int32.reduceToInt, Int64.reduceToInt, true_and, and_true, not_true_eq_false, not_false_eq_true, false_and, or_false, false_or] at ht1); (try simp only [Int32.reduceToInt, Int64.reduceToInt, true_and, and_true, not_true_eq_false, not_false_eq_true, false_and, or_false, false_or] at hc); (try simp only [Int32.reduceToInt, Int64.reduceToInt, true_and, and_true, not_true_eq_false, not_false_eq_true, false_and, or_false, false_or] at hlen); (try simp only [Int32.reduceToInt, Int64.reduceToInt, true_and, and_true, not_true_eq_false, not_false_eq_true, false_and, or_false, false_or] at hvl); have f2 := rng32 tt; (try simp only [Int32.reduceToInt, Int64.reduceToInt] at f2); have f3 := rng32 (tt + (1 : Int32)); (try simp only [Int32.reduceToInt, Int64.reduceToInt] at f3); have f4 := c_iadd tt (1 : Int32); (try simp only [Int32.reduceToInt, Int64.reduceToInt] at f4); (try have f4e : (tt + (1 : Int32)).toInt = tt.toInt + (1 : Int) := (by omega)); (try simp only [Int32.reduceToInt, Int64.reduceToInt, and_true, true_and, or_true, true_or]); (first | done | omega)) (fun i h1 h2 => by exfalso; (try simp only [Int32.reduceToInt, Int64.reduceToInt, true_and, and_true, not_true_eq_false, not_false_eq_true, false_and, or_false, false_or] at ht); (try simp only [Int32.reduceToInt, Int64.reduceToInt, true_and, and_true, not_true_eq_false, not_false_eq_true, false_and, or_false, false_or] at ht1); (try simp only [Int32.reduceToInt, Int64.reduceToInt, true_and, and_true, not_true_eq_false, not_false_eq_true, false_and, or_false, false_or] at hc); (try simp only [Int32.reduceToInt, Int64.reduceToInt, true_and, and_true, not_true_eq_false, not_false_eq_true, false_and, or_false, false_or] at hlen); (try simp only [Int32.reduceToInt, Int64.reduceToInt, true_and, and_true, not_true_eq_false, not_false_eq_true, false_and, or_false, false_or] at hvl); (try simp only [Int32.reduceToInt, Int64.reduceToInt, true_and, and_true, not_true_eq_false, not_false_eq_true, false_and, or_false, false_or] at h1); (try simp only [Int32.reduceToInt, Int64.reduceToInt, true_and, and_true, not_true_eq_false, not_false_eq_true, false_and, or_false, false_or] at h2); have f2 := rng32 tt; (try simp only [Int32.reduceToInt, Int64.reduceToInt] at f2); have f3 := rng32 (tt + (1 : Int32)); (try simp only [Int32.reduceToInt, Int64.reduceToInt] at f3); have f4 := c_iadd tt (1 : Int32); (try simp only [Int32.reduceToInt, Int64.reduceToInt] at f4); (try have f4e : (tt + (1 : Int32)).toInt = tt.toInt + (1 : Int) := (by omega)); (try simp only [Int32.reduceToInt, Int64.reduceToInt, and_true, true_and, or_true, true_or]); (first | done | omega)) (Nat.lt_succ_self _)
theorem own_c4 (a : Int32) : 1 ≤ ((1 : Int32) + (a &&& (3 : Int32))).toInt ∧ ((1 : Int32) + (a &&& (3 : Int32))).toInt ≤ 4 := by have f3 := rng32 a; (try simp only [Int32.reduceToInt, Int64.reduceToInt] at f3); have f4 := rng32 (a &&& (3 : Int32)); (try simp only [Int32.reduceToInt, Int64.reduceToInt] at f4); have f5 := c_mask a (3 : Int32) 2 (by decide) (by decide); (try simp only [Int32.reduceToInt, Int64.reduceToInt] at f5); (try have f5e : (a &&& (3 : Int32)).toInt = a.toInt ∨ (a &&& (3 : Int32)).toInt = a.toInt + 4 := (by omega)); have f6 := rng32 ((1 : Int32) + (a &&& (3 : Int32))); (try simp only [Int32.reduceToInt, Int64.reduceToInt] at f6); have f7 := c_iadd (1 : Int32) (a &&& (3 : Int32)); (try simp only [Int32.reduceToInt, Int64.reduceToInt] at f7); (try have f7e : ((1 : Int32) + (a &&& (3 : Int32))).toInt = (1 : Int) + (a &&& (3 : Int32)).toInt := (by omega)); omega
theorem own_t0 (a b : Int32) : 0 ≤ ((b &&& (2147483647 : Int32)) % ((1 : Int32) + (a &&& (3 : Int32)))).toInt ∧ ((b &&& (2147483647 : Int32)) % ((1 : Int32) + (a &&& (3 : Int32)))).toInt < ((1 : Int32) + (a &&& (3 : Int32))).toInt := by
  have h := own_c4 a
  have h1 := c_iremV (b &&& (2147483647 : Int32)) ((1 : Int32) + (a &&& (3 : Int32)))
  have h2 := c_mask b (2147483647 : Int32) 31 (by decide) (by decide)
  omega
theorem own_dec {t q : Int32} (h : 0 ≤ t.toInt ∧ t.toInt < q.toInt) (h0 : 0 < t.toInt) : 0 ≤ (t + (-1 : Int32)).toInt ∧ (t + (-1 : Int32)).toInt < q.toInt := by
  have h1 := c_iadd t (-1 : Int32); have h2 := rng32 t; have h3 : (-1 : Int32).toInt = -1 := (by decide); have h4 := rng32 (t + (-1 : Int32)); omega
theorem own_u1 {z : Int} (h : 1 ≤ z ∧ z ≤ 4) : z = (z.toNat : Int) := by omega
theorem own_u2 {z : Int} (h : 1 ≤ z ∧ z ≤ 4) : 1 + 2 * z.toNat ≤ 9 := by omega
theorem own_u3 {t z : Int} (h : 0 ≤ t ∧ t < z) : t < (z.toNat : Int) := by omega
theorem own_u4 {t z : Int} (h : 0 ≤ t ∧ t < z) : t = (t.toNat : Int) := by omega
theorem own_u5 {z q : Int} {k : Nat} (h : 1 ≤ z ∧ z ≤ 4) (h1 : q = (k : Int)) (h2 : k ≤ z.toNat) : q ≤ z := by omega
theorem own_u6 {z : Int} {k : Nat} (h : (k : Int) < z) : k < z.toNat := by omega
theorem own_step {p q b : Int32} (hb : b.toInt = 0 ∨ b.toInt = 1) (e : p + b = q) : (q.toInt = p.toInt + b.toInt ∨ q.toInt = p.toInt + b.toInt - 4294967296) := by
  have h1 := c_iadd p b; rw [e] at h1
  have h2 := rng32 p; have h3 := rng32 q; omega
theorem own_fin (P : Nat → Int) (c t r k b1 b2 b3 : Int) (k' : Nat) (t' : Nat) (ht : t = (t' : Int)) (hk : k = (k' : Int)) (hb1 : b1 = 0 ∨ b1 = 1) (hb2 : b2 = 0 ∨ b2 = 1) (hb3 : b3 = 0 ∨ b3 = 1)
    (e1 : P 1 = P 0 + b1 ∨ P 1 = P 0 + b1 - 4294967296) (e2 : P 2 = P 1 + b2 ∨ P 2 = P 1 + b2 - 4294967296) (e3 : P 3 = P 2 + b3 ∨ P 3 = P 2 + b3 - 4294967296)
    (hP : ∀ i, -2147483648 ≤ P i ∧ P i < 2147483648) (hc : 1 ≤ c ∧ c ≤ 4) (ht2 : 0 ≤ t ∧ t < c) (hk1 : t < k) (hk2 : k ≤ c) (hA : ∀ i : Nat, t < (i : Int) → i < k' → P i = P t') (hX : (k' : Int) < c → P k' ≠ P t')
    (hr : r = if t < 1 ∧ 1 < c ∧ b1 = 1 then 1 else if t < 2 ∧ 2 < c ∧ b2 = 1 then 2 else if t < 3 ∧ 3 < c ∧ b3 = 1 then 3 else c) : k = r := by
  replace hr : ((t < 1 ∧ 1 < c ∧ b1 = 1) ∧ r = 1) ∨ (¬ (t < 1 ∧ 1 < c ∧ b1 = 1) ∧ (t < 2 ∧ 2 < c ∧ b2 = 1) ∧ r = 2) ∨ (¬ (t < 1 ∧ 1 < c ∧ b1 = 1) ∧ ¬ (t < 2 ∧ 2 < c ∧ b2 = 1) ∧ (t < 3 ∧ 3 < c ∧ b3 = 1) ∧ r = 3) ∨ (¬ (t < 1 ∧ 1 < c ∧ b1 = 1) ∧ ¬ (t < 2 ∧ 2 < c ∧ b2 = 1) ∧ ¬ (t < 3 ∧ 3 < c ∧ b3 = 1) ∧ r = c) := by
    by_cases h1 : t < 1 ∧ 1 < c ∧ b1 = 1
    · rw [if_pos h1] at hr; exact Or.inl ⟨h1, hr⟩
    · rw [if_neg h1] at hr
      by_cases h2 : t < 2 ∧ 2 < c ∧ b2 = 1
      · rw [if_pos h2] at hr; exact Or.inr (Or.inl ⟨h1, h2, hr⟩)
      · rw [if_neg h2] at hr
        by_cases h3 : t < 3 ∧ 3 < c ∧ b3 = 1
        · rw [if_pos h3] at hr; exact Or.inr (Or.inr (Or.inl ⟨h1, h2, h3, hr⟩))
        · rw [if_neg h3] at hr; exact Or.inr (Or.inr (Or.inr ⟨h1, h2, h3, hr⟩))
  have a1 : ¬ (t' < 1 ∧ 1 < k') ∨ P 1 = P t' := (by by_cases h : t' < 1 ∧ 1 < k'; exact Or.inr (hA 1 (by omega) h.2); exact Or.inl h)
  have a2 : ¬ (t' < 2 ∧ 2 < k') ∨ P 2 = P t' := (by by_cases h : t' < 2 ∧ 2 < k'; exact Or.inr (hA 2 (by omega) h.2); exact Or.inl h)
  have a3 : ¬ (t' < 3 ∧ 3 < k') ∨ P 3 = P t' := (by by_cases h : t' < 3 ∧ 3 < k'; exact Or.inr (hA 3 (by omega) h.2); exact Or.inl h)
  have a4 : ¬ ((k' : Int) < c) ∨ P k' ≠ P t' := (by by_cases h : (k' : Int) < c; exact Or.inr (hX h); exact Or.inl h)
  have q0 := hP 0; have q1 := hP 1; have q2 := hP 2; have q3 := hP 3
  clear hA hX hP
  subst ht hk
  have hs : t' = 0 ∨ t' = 1 ∨ t' = 2 ∨ t' = 3 := by omega
  have hk : k' = 1 ∨ k' = 2 ∨ k' = 3 ∨ k' = 4 := by omega
  rcases hb1 with rfl | rfl <;> rcases hb2 with rfl | rfl <;> rcases hb3 with rfl | rfl <;> rcases hs with rfl | rfl | rfl | rfl <;> rcases hk with rfl | rfl | rfl | rfl <;> omega
theorem pd_0 : parseMethodDescriptor "(II)I" = some ⟨[.int, .int], some .int⟩ := by decide +kernel
theorem pd_1 : parseMethodDescriptor "([II)I" = some ⟨[(.array .int), .int], some .int⟩ := by decide +kernel
theorem ef_0 (m : MethodId) (z0 : Int32) (z1 : Int32) (z2 : Int32) (z3 : Int32) (z4 : Int32) : entryFrame m #[.int z0, .int z1, .int z2, .int z3, .int z4] maxLocals = mkF m 0 #[.val (.int z0), .val (.int z1), .val (.int z2), .val (.int z3), .val (.int z4), .unset, .unset, .unset, .unset, .unset, .unset, .unset, .unset, .unset, .unset, .unset] [] := by first | (simp [entryFrame, mkF, argsToLocals, Value.category, maxLocals]; done) | rfl
set_option maxRecDepth 65536 in
set_option maxHeartbeats 40000000 in
theorem rm0 (l : Launch) (Z : State) (a0 : Array Value) (hw : ∀ d ∈ tables_1, d.before a0 Z = true) (ws : List Jvm.Cond) (a : Int32) (b : Int32) (d : Int32) (f : Int32) (g : Int32) (h0 : Heap) (n0 : Nat) (Z0 : n0 ≤ h0.size) :
    Ctr l Z x code maxLocals ret room_1 ws #[.int a, .int b, .int d, .int f, .int g] h0 (fun v h L => v = some (.int 1) ∧ Fr n0 L) := by
  refine Ctr.of (plainFor_of_name pn_0) ?_
  intro p e s m below meth c s₁ hx hby hml hrt hlk hnm hown hZ X0 e0
  have N0 := Fr.nil n0
  refine Go.cast (ef_0 m a b d f g) ?_
  replace hown : s.vm.findClass "com/example/revisor/revisor/PackedEdgesRunEndPinLaw" = some m.cls := hown
  replace hml : c.maxLocals = 16 := hml
  replace hrt : meth.sig.returnType = some .boolean := hrt
  refine g_iconst (q := 1) (v := (1 : Int32)) X0.here hx (hb hby at_0) rfl rfl ?_
  refine g_iloadN (q := 2) X0.here hx (hb hby at_1) rfl rfl ?_
  refine g_iconst (q := 3) (v := (3 : Int32)) X0.here hx (hb hby at_2) rfl rfl ?_
  refine g_iand (q := 4) X0.here hx (hb hby at_3) rfl ?_
  refine g_iadd (q := 5) X0.here hx (hb hby at_4) rfl ?_
  refine g_istore (q := 7) (L' := #[.val (.int a), .val (.int b), .val (.int d), .val (.int f), .val (.int g), .val (.int ((1 : Int32) + (a &&& (3 : Int32)))), .unset, .unset, .unset, .unset, .unset, .unset, .unset, .unset, .unset, .unset]) X0.here hx (hb hby at_5) rfl rfl ?_
  refine g_iloadN (q := 8) X0.here hx (hb hby at_7) rfl rfl ?_
  refine g_iconst (q := 9) (v := (1 : Int32)) X0.here hx (hb hby at_8) rfl rfl ?_
  refine g_callSI (q := 12) X0 hx hZ hown (hw _ (List.mem_of_getElem? (i := 0) rfl)) (hw _ (List.mem_of_getElem? (i := 1) rfl)) (hw _ (List.mem_of_getElem? (i := 2) rfl)) (hw _ (List.mem_of_getElem? (i := 3) rfl)) (by decide) (rm1 l Z a0 hw [] d (1 : Int32) h0 n0 Z0) (argsL := [.int d, .int (1 : Int32)]) (rest := []) pd_0 rfl rfl rfl (hb hby at_9) rfl (by rw [hml]; rfl) e0 (by decide) (W := 0) rfl (by decide) rfl rfl (by decide) (by decide) ?_
  intro T1 r2 X1 e1 hr2
  refine g_istore (q := 14) (L' := #[.val (.int a), .val (.int b), .val (.int d), .val (.int f), .val (.int g), .val (.int ((1 : Int32) + (a &&& (3 : Int32)))), .val (.int r2), .unset, .unset, .unset, .unset, .unset, .unset, .unset, .unset, .unset]) X1.here hx (hb hby at_12) rfl rfl ?_
  refine g_iloadN (q := 15) X1.here hx (hb hby at_14) rfl rfl ?_
  refine g_iconst (q := 16) (v := (2 : Int32)) X1.here hx (hb hby at_15) rfl rfl ?_
  refine g_callSI (q := 19) X1 hx hZ hown (hw _ (List.mem_of_getElem? (i := 0) rfl)) (hw _ (List.mem_of_getElem? (i := 1) rfl)) (hw _ (List.mem_of_getElem? (i := 2) rfl)) (hw _ (List.mem_of_getElem? (i := 3) rfl)) (by decide) (rm1 l Z a0 hw [] d (2 : Int32) h0 n0 Z0) (argsL := [.int d, .int (2 : Int32)]) (rest := []) pd_0 rfl rfl rfl (hb hby at_16) rfl (by rw [hml]; rfl) e1 (by decide) (W := 0) rfl (by decide) rfl rfl (by decide) (by decide) ?_
  intro T3 r4 X3 e3 hr4
  refine g_istore (q := 21) (L' := #[.val (.int a), .val (.int b), .val (.int d), .val (.int f), .val (.int g), .val (.int ((1 : Int32) + (a &&& (3 : Int32)))), .val (.int r2), .val (.int r4), .unset, .unset, .unset, .unset, .unset, .unset, .unset, .unset]) X3.here hx (hb hby at_19) rfl rfl ?_
  refine g_iloadN (q := 22) X3.here hx (hb hby at_21) rfl rfl ?_
  refine g_iconst (q := 23) (v := (3 : Int32)) X3.here hx (hb hby at_22) rfl rfl ?_
  refine g_callSI (q := 26) X3 hx hZ hown (hw _ (List.mem_of_getElem? (i := 0) rfl)) (hw _ (List.mem_of_getElem? (i := 1) rfl)) (hw _ (List.mem_of_getElem? (i := 2) rfl)) (hw _ (List.mem_of_getElem? (i := 3) rfl)) (by decide) (rm1 l Z a0 hw [] d (3 : Int32) h0 n0 Z0) (argsL := [.int d, .int (3 : Int32)]) (rest := []) pd_0 rfl rfl rfl (hb hby at_23) rfl (by rw [hml]; rfl) e3 (by decide) (W := 0) rfl (by decide) rfl rfl (by decide) (by decide) ?_
  intro T5 r6 X5 e5 hr6
  refine g_istore (q := 28) (L' := #[.val (.int a), .val (.int b), .val (.int d), .val (.int f), .val (.int g), .val (.int ((1 : Int32) + (a &&& (3 : Int32)))), .val (.int r2), .val (.int r4), .val (.int r6), .unset, .unset, .unset, .unset, .unset, .unset, .unset]) X5.here hx (hb hby at_26) rfl rfl ?_
  refine g_iloadN (q := 29) X5.here hx (hb hby at_28) rfl rfl ?_
  refine g_istore (q := 31) (L' := #[.val (.int a), .val (.int b), .val (.int d), .val (.int f), .val (.int g), .val (.int ((1 : Int32) + (a &&& (3 : Int32)))), .val (.int r2), .val (.int r4), .val (.int r6), .val (.int f), .unset, .unset, .unset, .unset, .unset, .unset]) X5.here hx (hb hby at_29) rfl rfl ?_
  refine g_iload (q := 33) X5.here hx (hb hby at_31) rfl rfl ?_
  refine g_iload (q := 35) X5.here hx (hb hby at_33) rfl rfl ?_
  refine g_iadd (q := 36) X5.here hx (hb hby at_35) rfl ?_
  refine g_istore (q := 38) (L' := #[.val (.int a), .val (.int b), .val (.int d), .val (.int f), .val (.int g), .val (.int ((1 : Int32) + (a &&& (3 : Int32)))), .val (.int r2), .val (.int r4), .val (.int r6), .val (.int f), .val (.int (f + r2)), .unset, .unset, .unset, .unset, .unset]) X5.here hx (hb hby at_36) rfl rfl ?_
  refine g_iload (q := 40) X5.here hx (hb hby at_38) rfl rfl ?_
  refine g_iload (q := 42) X5.here hx (hb hby at_40) rfl rfl ?_
  refine g_iadd (q := 43) X5.here hx (hb hby at_42) rfl ?_
  refine g_istore (q := 45) (L' := #[.val (.int a), .val (.int b), .val (.int d), .val (.int f), .val (.int g), .val (.int ((1 : Int32) + (a &&& (3 : Int32)))), .val (.int r2), .val (.int r4), .val (.int r6), .val (.int f), .val (.int (f + r2)), .val (.int ((f + r2) + r4)), .unset, .unset, .unset, .unset]) X5.here hx (hb hby at_43) rfl rfl ?_
  refine g_iload (q := 47) X5.here hx (hb hby at_45) rfl rfl ?_
  refine g_iload (q := 49) X5.here hx (hb hby at_47) rfl rfl ?_
  refine g_iadd (q := 50) X5.here hx (hb hby at_49) rfl ?_
  refine g_istore (q := 52) (L' := #[.val (.int a), .val (.int b), .val (.int d), .val (.int f), .val (.int g), .val (.int ((1 : Int32) + (a &&& (3 : Int32)))), .val (.int r2), .val (.int r4), .val (.int r6), .val (.int f), .val (.int (f + r2)), .val (.int ((f + r2) + r4)), .val (.int (((f + r2) + r4) + r6)), .unset, .unset, .unset]) X5.here hx (hb hby at_50) rfl rfl ?_
  refine g_bipush (q := 54) (v := (9 : Int32)) X5.here hx (hb hby at_52) rfl rfl ?_
  refine g_inew_ (q := 56) (n := 9) (cap := 9) X5 hx hZ (hw _ (List.mem_of_getElem? (i := 4) rfl)) e5 rfl (by decide) (by decide) (hb hby at_54) rfl (by decide) (by decide) ?_
  intro T7 h7 o7 X7 e7 E7 q7 A7
  replace A7 : IA Z h7 o7 ([(0 : Int32), (0 : Int32), (0 : Int32), (0 : Int32), (0 : Int32), (0 : Int32), (0 : Int32), (0 : Int32), (0 : Int32)] : List Int32) := A7
  have g8 : n0 ≤ o7 := ge_new Z0 q7
  have Z9 : n0 ≤ h7.size := Nat.le_trans Z0 E7.1
  refine g_astore (q := 58) (L' := #[.val (.int a), .val (.int b), .val (.int d), .val (.int f), .val (.int g), .val (.int ((1 : Int32) + (a &&& (3 : Int32)))), .val (.int r2), .val (.int r4), .val (.int r6), .val (.int f), .val (.int (f + r2)), .val (.int ((f + r2) + r4)), .val (.int (((f + r2) + r4) + r6)), .val (.ref o7), .unset, .unset]) X7.here hx (hb hby at_56) rfl rfl rfl ?_
  refine g_aload (q := 60) X7.here hx (hb hby at_58) rfl rfl rfl ?_
  refine g_iconst (q := 61) (v := (0 : Int32)) X7.here hx (hb hby at_60) rfl rfl ?_
  refine g_iload (q := 63) X7.here hx (hb hby at_61) rfl rfl ?_
  refine g_istore_ (q := 64) (i := 0) (v := ((1 : Int32) + (a &&& (3 : Int32)))) X7 hx hZ e7 A7 rfl (by show 0 < 9; decide) (hb hby at_63) rfl ?_
  intro T10 h10 X10 e10 W10 A10
  replace A10 : IA Z h10 o7 ([((1 : Int32) + (a &&& (3 : Int32))), (0 : Int32), (0 : Int32), (0 : Int32), (0 : Int32), (0 : Int32), (0 : Int32), (0 : Int32), (0 : Int32)] : List Int32) := A10
  have N12 := Fr.snoc X10 N0 g8
  have Z13 : n0 ≤ h10.size := Nat.le_trans Z9 (Nat.le_of_eq W10.size.symm)
  refine g_aload (q := 66) X10.here hx (hb hby at_64) rfl rfl rfl ?_
  refine g_iconst (q := 67) (v := (1 : Int32)) X10.here hx (hb hby at_66) rfl rfl ?_
  refine g_iload (q := 69) X10.here hx (hb hby at_67) rfl rfl ?_
  refine g_istore_ (q := 70) (i := 1) (v := f) X10 hx hZ e10 A10 rfl (by show 1 < 9; decide) (hb hby at_69) rfl ?_
  intro T14 h14 X14 e14 W14 A14
  replace A14 : IA Z h14 o7 ([((1 : Int32) + (a &&& (3 : Int32))), f, (0 : Int32), (0 : Int32), (0 : Int32), (0 : Int32), (0 : Int32), (0 : Int32), (0 : Int32)] : List Int32) := A14
  have N16 := Fr.snoc X14 N12 g8
  have Z17 : n0 ≤ h14.size := Nat.le_trans Z13 (Nat.le_of_eq W14.size.symm)
  refine g_aload (q := 72) X14.here hx (hb hby at_70) rfl rfl rfl ?_
  refine g_iconst (q := 73) (v := (2 : Int32)) X14.here hx (hb hby at_72) rfl rfl ?_
  refine g_iload (q := 75) X14.here hx (hb hby at_73) rfl rfl ?_
  refine g_istore_ (q := 76) (i := 2) (v := g) X14 hx hZ e14 A14 rfl (by show 2 < 9; decide) (hb hby at_75) rfl ?_
  intro T18 h18 X18 e18 W18 A18
  replace A18 : IA Z h18 o7 ([((1 : Int32) + (a &&& (3 : Int32))), f, g, (0 : Int32), (0 : Int32), (0 : Int32), (0 : Int32), (0 : Int32), (0 : Int32)] : List Int32) := A18
  have N20 := Fr.snoc X18 N16 g8
  have Z21 : n0 ≤ h18.size := Nat.le_trans Z17 (Nat.le_of_eq W18.size.symm)
  refine g_aload (q := 78) X18.here hx (hb hby at_76) rfl rfl rfl ?_
  refine g_iconst (q := 79) (v := (3 : Int32)) X18.here hx (hb hby at_78) rfl rfl ?_
  refine g_iload (q := 81) X18.here hx (hb hby at_79) rfl rfl ?_
  refine g_istore_ (q := 82) (i := 3) (v := (f + r2)) X18 hx hZ e18 A18 rfl (by show 3 < 9; decide) (hb hby at_81) rfl ?_
  intro T22 h22 X22 e22 W22 A22
  replace A22 : IA Z h22 o7 ([((1 : Int32) + (a &&& (3 : Int32))), f, g, (f + r2), (0 : Int32), (0 : Int32), (0 : Int32), (0 : Int32), (0 : Int32)] : List Int32) := A22
  have N24 := Fr.snoc X22 N20 g8
  have Z25 : n0 ≤ h22.size := Nat.le_trans Z21 (Nat.le_of_eq W22.size.symm)
  refine g_aload (q := 84) X22.here hx (hb hby at_82) rfl rfl rfl ?_
  refine g_iconst (q := 85) (v := (4 : Int32)) X22.here hx (hb hby at_84) rfl rfl ?_
  refine g_iload (q := 87) X22.here hx (hb hby at_85) rfl rfl ?_
  refine g_iconst (q := 88) (v := (1 : Int32)) X22.here hx (hb hby at_87) rfl rfl ?_
  refine g_iadd (q := 89) X22.here hx (hb hby at_88) rfl ?_
  refine g_istore_ (q := 90) (i := 4) (v := (g + (1 : Int32))) X22 hx hZ e22 A22 rfl (by show 4 < 9; decide) (hb hby at_89) rfl ?_
  intro T26 h26 X26 e26 W26 A26
  replace A26 : IA Z h26 o7 ([((1 : Int32) + (a &&& (3 : Int32))), f, g, (f + r2), (g + (1 : Int32)), (0 : Int32), (0 : Int32), (0 : Int32), (0 : Int32)] : List Int32) := A26
  have N28 := Fr.snoc X26 N24 g8
  have Z29 : n0 ≤ h26.size := Nat.le_trans Z25 (Nat.le_of_eq W26.size.symm)
  refine g_aload (q := 92) X26.here hx (hb hby at_90) rfl rfl rfl ?_
  refine g_iconst (q := 93) (v := (5 : Int32)) X26.here hx (hb hby at_92) rfl rfl ?_
  refine g_iload (q := 95) X26.here hx (hb hby at_93) rfl rfl ?_
  refine g_istore_ (q := 96) (i := 5) (v := ((f + r2) + r4)) X26 hx hZ e26 A26 rfl (by show 5 < 9; decide) (hb hby at_95) rfl ?_
  intro T30 h30 X30 e30 W30 A30
  replace A30 : IA Z h30 o7 ([((1 : Int32) + (a &&& (3 : Int32))), f, g, (f + r2), (g + (1 : Int32)), ((f + r2) + r4), (0 : Int32), (0 : Int32), (0 : Int32)] : List Int32) := A30
  have N32 := Fr.snoc X30 N28 g8
  have Z33 : n0 ≤ h30.size := Nat.le_trans Z29 (Nat.le_of_eq W30.size.symm)
  refine g_aload (q := 98) X30.here hx (hb hby at_96) rfl rfl rfl ?_
  refine g_bipush (q := 100) (v := (6 : Int32)) X30.here hx (hb hby at_98) rfl rfl ?_
  refine g_iload (q := 102) X30.here hx (hb hby at_100) rfl rfl ?_
  refine g_iconst (q := 103) (v := (2 : Int32)) X30.here hx (hb hby at_102) rfl rfl ?_
  refine g_iadd (q := 104) X30.here hx (hb hby at_103) rfl ?_
  refine g_istore_ (q := 105) (i := 6) (v := (g + (2 : Int32))) X30 hx hZ e30 A30 rfl (by show 6 < 9; decide) (hb hby at_104) rfl ?_
  intro T34 h34 X34 e34 W34 A34
  replace A34 : IA Z h34 o7 ([((1 : Int32) + (a &&& (3 : Int32))), f, g, (f + r2), (g + (1 : Int32)), ((f + r2) + r4), (g + (2 : Int32)), (0 : Int32), (0 : Int32)] : List Int32) := A34
  have N36 := Fr.snoc X34 N32 g8
  have Z37 : n0 ≤ h34.size := Nat.le_trans Z33 (Nat.le_of_eq W34.size.symm)
  refine g_aload (q := 107) X34.here hx (hb hby at_105) rfl rfl rfl ?_
  refine g_bipush (q := 109) (v := (7 : Int32)) X34.here hx (hb hby at_107) rfl rfl ?_
  refine g_iload (q := 111) X34.here hx (hb hby at_109) rfl rfl ?_
  refine g_istore_ (q := 112) (i := 7) (v := (((f + r2) + r4) + r6)) X34 hx hZ e34 A34 rfl (by show 7 < 9; decide) (hb hby at_111) rfl ?_
  intro T38 h38 X38 e38 W38 A38
  replace A38 : IA Z h38 o7 ([((1 : Int32) + (a &&& (3 : Int32))), f, g, (f + r2), (g + (1 : Int32)), ((f + r2) + r4), (g + (2 : Int32)), (((f + r2) + r4) + r6), (0 : Int32)] : List Int32) := A38
  have N40 := Fr.snoc X38 N36 g8
  have Z41 : n0 ≤ h38.size := Nat.le_trans Z37 (Nat.le_of_eq W38.size.symm)
  refine g_aload (q := 114) X38.here hx (hb hby at_112) rfl rfl rfl ?_
  refine g_bipush (q := 116) (v := (8 : Int32)) X38.here hx (hb hby at_114) rfl rfl ?_
  refine g_iload (q := 118) X38.here hx (hb hby at_116) rfl rfl ?_
  refine g_iconst (q := 119) (v := (3 : Int32)) X38.here hx (hb hby at_118) rfl rfl ?_
  refine g_iadd (q := 120) X38.here hx (hb hby at_119) rfl ?_
  refine g_istore_ (q := 121) (i := 8) (v := (g + (3 : Int32))) X38 hx hZ e38 A38 rfl (by show 8 < 9; decide) (hb hby at_120) rfl ?_
  intro T42 h42 X42 e42 W42 A42
  replace A42 : IA Z h42 o7 ([((1 : Int32) + (a &&& (3 : Int32))), f, g, (f + r2), (g + (1 : Int32)), ((f + r2) + r4), (g + (2 : Int32)), (((f + r2) + r4) + r6), (g + (3 : Int32))] : List Int32) := A42
  have N44 := Fr.snoc X42 N40 g8
  have Z45 : n0 ≤ h42.size := Nat.le_trans Z41 (Nat.le_of_eq W42.size.symm)
  refine g_iloadN (q := 122) X42.here hx (hb hby at_121) rfl rfl ?_
  refine g_ldcI (q := 124) X42 hx hZ hown (hw _ (List.mem_of_getElem? (i := 5) rfl)) (hb hby at_122) rfl ?_
  refine g_iand (q := 125) X42.here hx (hb hby at_124) rfl ?_
  refine g_iload (q := 127) X42.here hx (hb hby at_125) rfl rfl ?_
  refine g_irem (q := 128) X42.here hx (hb hby at_127) (fun h => by have hz := congrArg Int32.toInt h; have f1 := c_mask a 3 2 (by decide) (by decide); have f2 := c_iadd 1 (a &&& 3); have f3 := rng32 (1 + (a &&& 3)); simp only [Int32.reduceToInt, Int64.reduceToInt] at *; omega) rfl ?_
  generalize hv_v46 : ((b &&& (2147483647 : Int32)) % ((1 : Int32) + (a &&& (3 : Int32)))) = v46
  refine g_istore (q := 130) (L' := #[.val (.int a), .val (.int b), .val (.int d), .val (.int f), .val (.int g), .val (.int ((1 : Int32) + (a &&& (3 : Int32)))), .val (.int r2), .val (.int r4), .val (.int r6), .val (.int f), .val (.int (f + r2)), .val (.int ((f + r2) + r4)), .val (.int (((f + r2) + r4) + r6)), .val (.ref o7), .val (.int v46), .unset]) X42.here hx (hb hby at_128) rfl rfl ?_
  have ht0 : 0 ≤ v46.toInt ∧ v46.toInt < ((1 : Int32) + (a &&& (3 : Int32))).toInt := (by rw [← hv_v46]; exact own_t0 a b)
  have LP248_b47 : ∀ (Tb47 : State) (t : Int32) (r : Int32) (Xb47 : Stand p l e room_1 s m #[.int a, .int b, .int d, .int f, .int g] below meth c Tb47 ([] ++ [⟨o7, 0⟩] ++ [⟨o7, 1⟩] ++ [⟨o7, 2⟩] ++ [⟨o7, 3⟩] ++ [⟨o7, 4⟩] ++ [⟨o7, 5⟩] ++ [⟨o7, 6⟩] ++ [⟨o7, 7⟩] ++ [⟨o7, 8⟩]) (0 + 1) (0 + 9)) (eb47 : Tb47.heap = h42) (ht : 0 ≤ t.toInt ∧ t.toInt < ((1 : Int32) + (a &&& (3 : Int32))).toInt) (_hr : r.toInt = if t.toInt < 1 ∧ 1 < ((1 : Int32) + (a &&& (3 : Int32))).toInt ∧ r2.toInt = 1 then 1 else if t.toInt < 2 ∧ 2 < ((1 : Int32) + (a &&& (3 : Int32))).toInt ∧ r4.toInt = 1 then 2 else if t.toInt < 3 ∧ 3 < ((1 : Int32) + (a &&& (3 : Int32))).toInt ∧ r6.toInt = 1 then 3 else ((1 : Int32) + (a &&& (3 : Int32))).toInt), Go p e below (Fin0 s room_1 (fun v h L => v = some (.int 1) ∧ Fr n0 L)) (Tb47.setTop (mkF m 248 #[.val (.int a), .val (.int b), .val (.int d), .val (.int f), .val (.int g), .val (.int ((1 : Int32) + (a &&& (3 : Int32)))), .val (.int r2), .val (.int r4), .val (.int r6), .val (.int f), .val (.int (f + r2)), .val (.int ((f + r2) + r4)), .val (.int (((f + r2) + r4) + r6)), .val (.ref o7), .val (.int t), .val (.int r)] [])) := by
    intro Tb47 t r Xb47 eb47 ht _hr
    refine g_aload (q := 250) Xb47.here hx (hb hby at_248) rfl rfl rfl ?_
    refine g_iload (q := 252) Xb47.here hx (hb hby at_250) rfl rfl ?_
    refine g_callSI (q := 255) Xb47 hx hZ hown (hw _ (List.mem_of_getElem? (i := 6) rfl)) (hw _ (List.mem_of_getElem? (i := 7) rfl)) (hw _ (List.mem_of_getElem? (i := 8) rfl)) (hw _ (List.mem_of_getElem? (i := 9) rfl)) (by decide) (rm2 l Z a0 hw [] o7 t h42 n0 Z45 [((1 : Int32) + (a &&& (3 : Int32))), f, g, (f + r2), (g + (1 : Int32)), ((f + r2) + r4), (g + (2 : Int32)), (((f + r2) + r4) + r6), (g + (3 : Int32))] A42 ((1 : Int32) + (a &&& (3 : Int32))) ((1 : Int32) + (a &&& (3 : Int32))).toInt.toNat rfl (own_u1 (own_c4 a)) (own_u2 (own_c4 a)) ht.1 (own_u3 ht)) (argsL := [.ref o7, .int t]) (rest := []) pd_1 rfl rfl rfl (hb hby at_252) rfl (by rw [hml]; rfl) eb47 (by decide) (W := 0) rfl (by decide) rfl rfl (by decide) (by decide) ?_
    intro T48 r49 X48 e48 hr49
    obtain ⟨k_, k1_, k2_, k3_, ha_, hx_⟩ := hr49
    have k2x_ := k2_; rw [← k1_] at k2x_
    refine g_iload (q := 257) X48.here hx (hb hby at_255) rfl rfl ?_
    refine g_sel_icmp_ne (q := 265) X48.here hx (hb hby at_257) (by decide) (by decide) rfl (hb hby at_264) (hb hby at_260) (hb hby at_261) rfl (by decide) (by decide) rfl ?_
    exact g_zreturn (b := decide (r49.toInt = r.toInt)) X48 hx hlk hrt (hb hby at_265) (by decide) (by decide) ⟨okB (decide_eq_true (own_fin (fun i => (([((1 : Int32) + (a &&& (3 : Int32))), f, g, (f + r2), (g + (1 : Int32)), ((f + r2) + r4), (g + (2 : Int32)), (((f + r2) + r4) + r6), (g + (3 : Int32))] : List Int32).getD (1 + 2 * i) 0).toInt) ((1 : Int32) + (a &&& (3 : Int32))).toInt t.toInt r.toInt r49.toInt r2.toInt r4.toInt r6.toInt k_ t.toInt.toNat (own_u4 ht) k1_ hr2 hr4 hr6 (own_step hr2 rfl) (own_step hr4 rfl) (own_step hr6 rfl) (fun i => rng32 _) (own_c4 a) ht k2x_ (own_u5 (own_c4 a) k1_ k3_) ha_ (fun h => hx_ (own_u6 h)) _hr)), N44⟩
  have LP227_b50 : ∀ (Tb50 : State) (t : Int32) (r : Int32) (Xb50 : Stand p l e room_1 s m #[.int a, .int b, .int d, .int f, .int g] below meth c Tb50 ([] ++ [⟨o7, 0⟩] ++ [⟨o7, 1⟩] ++ [⟨o7, 2⟩] ++ [⟨o7, 3⟩] ++ [⟨o7, 4⟩] ++ [⟨o7, 5⟩] ++ [⟨o7, 6⟩] ++ [⟨o7, 7⟩] ++ [⟨o7, 8⟩]) (0 + 1) (0 + 9)) (eb50 : Tb50.heap = h42) (ht : 0 ≤ t.toInt ∧ t.toInt < ((1 : Int32) + (a &&& (3 : Int32))).toInt) (_hr : r.toInt = if t.toInt < 2 ∧ 2 < ((1 : Int32) + (a &&& (3 : Int32))).toInt ∧ r4.toInt = 1 then 2 else if t.toInt < 3 ∧ 3 < ((1 : Int32) + (a &&& (3 : Int32))).toInt ∧ r6.toInt = 1 then 3 else ((1 : Int32) + (a &&& (3 : Int32))).toInt), Go p e below (Fin0 s room_1 (fun v h L => v = some (.int 1) ∧ Fr n0 L)) (Tb50.setTop (mkF m 227 #[.val (.int a), .val (.int b), .val (.int d), .val (.int f), .val (.int g), .val (.int ((1 : Int32) + (a &&& (3 : Int32)))), .val (.int r2), .val (.int r4), .val (.int r6), .val (.int f), .val (.int (f + r2)), .val (.int ((f + r2) + r4)), .val (.int (((f + r2) + r4) + r6)), .val (.ref o7), .val (.int t), .val (.int r)] [])) := by
    intro Tb50 t r Xb50 eb50 ht _hr
    refine g_iconst (q := 228) (v := (1 : Int32)) Xb50.here hx (hb hby at_227) rfl rfl ?_
    refine g_iload (q := 230) Xb50.here hx (hb hby at_228) rfl rfl ?_
    refine g_icmp_le (q := 248) (q0 := 233) Xb50.here hx (hb hby at_230) (by decide) (by decide) rfl ?_ ?_
    · intro c51
      exact LP248_b47 _ t r Xb50 eb50 ht (by rw [if_neg (fun q => absurd q.1 (by have h := c51; simp only [Int32.reduceToInt, Int64.reduceToInt] at h; exact Int.not_lt.mpr h))]; exact _hr)
    · intro c51
      refine g_iconst (q := 234) (v := (1 : Int32)) Xb50.here hx (hb hby at_233) rfl rfl ?_
      refine g_iload (q := 236) Xb50.here hx (hb hby at_234) rfl rfl ?_
      refine g_icmp_ge (q := 248) (q0 := 239) Xb50.here hx (hb hby at_236) (by decide) (by decide) rfl ?_ ?_
      · intro c52
        exact LP248_b47 _ t r Xb50 eb50 ht (by rw [if_neg (fun q => absurd q.2.1 (by have h := c52; simp only [Int32.reduceToInt, Int64.reduceToInt] at h; exact Int.not_lt.mpr h))]; exact _hr)
      · intro c52
        refine g_iload (q := 241) Xb50.here hx (hb hby at_239) rfl rfl ?_
        refine g_iconst (q := 242) (v := (1 : Int32)) Xb50.here hx (hb hby at_241) rfl rfl ?_
        refine g_icmp_ne (q := 248) (q0 := 245) Xb50.here hx (hb hby at_242) (by decide) (by decide) rfl ?_ ?_
        · intro c53
          exact LP248_b47 _ t r Xb50 eb50 ht (by rw [if_neg (fun q => absurd q.2.2 (by have h := c53; simp only [Int32.reduceToInt, Int64.reduceToInt] at h; exact h))]; exact _hr)
        · intro c53
          refine g_iconst (q := 246) (v := (1 : Int32)) Xb50.here hx (hb hby at_245) rfl rfl ?_
          refine g_istore (q := 248) (L' := #[.val (.int a), .val (.int b), .val (.int d), .val (.int f), .val (.int g), .val (.int ((1 : Int32) + (a &&& (3 : Int32)))), .val (.int r2), .val (.int r4), .val (.int r6), .val (.int f), .val (.int (f + r2)), .val (.int ((f + r2) + r4)), .val (.int (((f + r2) + r4) + r6)), .val (.ref o7), .val (.int t), .val (.int (1 : Int32))]) Xb50.here hx (hb hby at_246) rfl rfl ?_
          exact LP248_b47 _ t (1 : Int32) Xb50 eb50 ht (by rw [if_pos ⟨(by have h := c51; simp only [Int32.reduceToInt, Int64.reduceToInt] at h; exact h), (by have h := c52; simp only [Int32.reduceToInt, Int64.reduceToInt] at h; exact h), (by have h := c53; simp only [Int32.reduceToInt, Int64.reduceToInt] at h; exact h)⟩]; rfl)
  have LP206_b54 : ∀ (Tb54 : State) (t : Int32) (r : Int32) (Xb54 : Stand p l e room_1 s m #[.int a, .int b, .int d, .int f, .int g] below meth c Tb54 ([] ++ [⟨o7, 0⟩] ++ [⟨o7, 1⟩] ++ [⟨o7, 2⟩] ++ [⟨o7, 3⟩] ++ [⟨o7, 4⟩] ++ [⟨o7, 5⟩] ++ [⟨o7, 6⟩] ++ [⟨o7, 7⟩] ++ [⟨o7, 8⟩]) (0 + 1) (0 + 9)) (eb54 : Tb54.heap = h42) (ht : 0 ≤ t.toInt ∧ t.toInt < ((1 : Int32) + (a &&& (3 : Int32))).toInt) (_hr : r.toInt = if t.toInt < 3 ∧ 3 < ((1 : Int32) + (a &&& (3 : Int32))).toInt ∧ r6.toInt = 1 then 3 else ((1 : Int32) + (a &&& (3 : Int32))).toInt), Go p e below (Fin0 s room_1 (fun v h L => v = some (.int 1) ∧ Fr n0 L)) (Tb54.setTop (mkF m 206 #[.val (.int a), .val (.int b), .val (.int d), .val (.int f), .val (.int g), .val (.int ((1 : Int32) + (a &&& (3 : Int32)))), .val (.int r2), .val (.int r4), .val (.int r6), .val (.int f), .val (.int (f + r2)), .val (.int ((f + r2) + r4)), .val (.int (((f + r2) + r4) + r6)), .val (.ref o7), .val (.int t), .val (.int r)] [])) := by
    intro Tb54 t r Xb54 eb54 ht _hr
    refine g_iconst (q := 207) (v := (2 : Int32)) Xb54.here hx (hb hby at_206) rfl rfl ?_
    refine g_iload (q := 209) Xb54.here hx (hb hby at_207) rfl rfl ?_
    refine g_icmp_le (q := 227) (q0 := 212) Xb54.here hx (hb hby at_209) (by decide) (by decide) rfl ?_ ?_
    · intro c55
      exact LP227_b50 _ t r Xb54 eb54 ht (by rw [if_neg (fun q => absurd q.1 (by have h := c55; simp only [Int32.reduceToInt, Int64.reduceToInt] at h; exact Int.not_lt.mpr h))]; exact _hr)
    · intro c55
      refine g_iconst (q := 213) (v := (2 : Int32)) Xb54.here hx (hb hby at_212) rfl rfl ?_
      refine g_iload (q := 215) Xb54.here hx (hb hby at_213) rfl rfl ?_
      refine g_icmp_ge (q := 227) (q0 := 218) Xb54.here hx (hb hby at_215) (by decide) (by decide) rfl ?_ ?_
      · intro c56
        exact LP227_b50 _ t r Xb54 eb54 ht (by rw [if_neg (fun q => absurd q.2.1 (by have h := c56; simp only [Int32.reduceToInt, Int64.reduceToInt] at h; exact Int.not_lt.mpr h))]; exact _hr)
      · intro c56
        refine g_iload (q := 220) Xb54.here hx (hb hby at_218) rfl rfl ?_
        refine g_iconst (q := 221) (v := (1 : Int32)) Xb54.here hx (hb hby at_220) rfl rfl ?_
        refine g_icmp_ne (q := 227) (q0 := 224) Xb54.here hx (hb hby at_221) (by decide) (by decide) rfl ?_ ?_
        · intro c57
          exact LP227_b50 _ t r Xb54 eb54 ht (by rw [if_neg (fun q => absurd q.2.2 (by have h := c57; simp only [Int32.reduceToInt, Int64.reduceToInt] at h; exact h))]; exact _hr)
        · intro c57
          refine g_iconst (q := 225) (v := (2 : Int32)) Xb54.here hx (hb hby at_224) rfl rfl ?_
          refine g_istore (q := 227) (L' := #[.val (.int a), .val (.int b), .val (.int d), .val (.int f), .val (.int g), .val (.int ((1 : Int32) + (a &&& (3 : Int32)))), .val (.int r2), .val (.int r4), .val (.int r6), .val (.int f), .val (.int (f + r2)), .val (.int ((f + r2) + r4)), .val (.int (((f + r2) + r4) + r6)), .val (.ref o7), .val (.int t), .val (.int (2 : Int32))]) Xb54.here hx (hb hby at_225) rfl rfl ?_
          exact LP227_b50 _ t (2 : Int32) Xb54 eb54 ht (by rw [if_pos ⟨(by have h := c55; simp only [Int32.reduceToInt, Int64.reduceToInt] at h; exact h), (by have h := c56; simp only [Int32.reduceToInt, Int64.reduceToInt] at h; exact h), (by have h := c57; simp only [Int32.reduceToInt, Int64.reduceToInt] at h; exact h)⟩]; rfl)
  have LP181_b58 : ∀ (Tb58 : State) (t : Int32) (Xb58 : Stand p l e room_1 s m #[.int a, .int b, .int d, .int f, .int g] below meth c Tb58 ([] ++ [⟨o7, 0⟩] ++ [⟨o7, 1⟩] ++ [⟨o7, 2⟩] ++ [⟨o7, 3⟩] ++ [⟨o7, 4⟩] ++ [⟨o7, 5⟩] ++ [⟨o7, 6⟩] ++ [⟨o7, 7⟩] ++ [⟨o7, 8⟩]) (0 + 1) (0 + 9)) (eb58 : Tb58.heap = h42) (ht : 0 ≤ t.toInt ∧ t.toInt < ((1 : Int32) + (a &&& (3 : Int32))).toInt), Go p e below (Fin0 s room_1 (fun v h L => v = some (.int 1) ∧ Fr n0 L)) (Tb58.setTop (mkF m 181 #[.val (.int a), .val (.int b), .val (.int d), .val (.int f), .val (.int g), .val (.int ((1 : Int32) + (a &&& (3 : Int32)))), .val (.int r2), .val (.int r4), .val (.int r6), .val (.int f), .val (.int (f + r2)), .val (.int ((f + r2) + r4)), .val (.int (((f + r2) + r4) + r6)), .val (.ref o7), .val (.int t), .unset] [])) := by
    intro Tb58 t Xb58 eb58 ht
    refine g_iload (q := 183) Xb58.here hx (hb hby at_181) rfl rfl ?_
    refine g_istore (q := 185) (L' := #[.val (.int a), .val (.int b), .val (.int d), .val (.int f), .val (.int g), .val (.int ((1 : Int32) + (a &&& (3 : Int32)))), .val (.int r2), .val (.int r4), .val (.int r6), .val (.int f), .val (.int (f + r2)), .val (.int ((f + r2) + r4)), .val (.int (((f + r2) + r4) + r6)), .val (.ref o7), .val (.int t), .val (.int ((1 : Int32) + (a &&& (3 : Int32))))]) Xb58.here hx (hb hby at_183) rfl rfl ?_
    refine g_iconst (q := 186) (v := (3 : Int32)) Xb58.here hx (hb hby at_185) rfl rfl ?_
    refine g_iload (q := 188) Xb58.here hx (hb hby at_186) rfl rfl ?_
    refine g_icmp_le (q := 206) (q0 := 191) Xb58.here hx (hb hby at_188) (by decide) (by decide) rfl ?_ ?_
    · intro c59
      exact LP206_b54 _ t ((1 : Int32) + (a &&& (3 : Int32))) Xb58 eb58 ht (by rw [if_neg (fun q => absurd q.1 (by have h := c59; simp only [Int32.reduceToInt, Int64.reduceToInt] at h; exact Int.not_lt.mpr h))])
    · intro c59
      refine g_iconst (q := 192) (v := (3 : Int32)) Xb58.here hx (hb hby at_191) rfl rfl ?_
      refine g_iload (q := 194) Xb58.here hx (hb hby at_192) rfl rfl ?_
      refine g_icmp_ge (q := 206) (q0 := 197) Xb58.here hx (hb hby at_194) (by decide) (by decide) rfl ?_ ?_
      · intro c60
        exact LP206_b54 _ t ((1 : Int32) + (a &&& (3 : Int32))) Xb58 eb58 ht (by rw [if_neg (fun q => absurd q.2.1 (by have h := c60; simp only [Int32.reduceToInt, Int64.reduceToInt] at h; exact Int.not_lt.mpr h))])
      · intro c60
        refine g_iload (q := 199) Xb58.here hx (hb hby at_197) rfl rfl ?_
        refine g_iconst (q := 200) (v := (1 : Int32)) Xb58.here hx (hb hby at_199) rfl rfl ?_
        refine g_icmp_ne (q := 206) (q0 := 203) Xb58.here hx (hb hby at_200) (by decide) (by decide) rfl ?_ ?_
        · intro c61
          exact LP206_b54 _ t ((1 : Int32) + (a &&& (3 : Int32))) Xb58 eb58 ht (by rw [if_neg (fun q => absurd q.2.2 (by have h := c61; simp only [Int32.reduceToInt, Int64.reduceToInt] at h; exact h))])
        · intro c61
          refine g_iconst (q := 204) (v := (3 : Int32)) Xb58.here hx (hb hby at_203) rfl rfl ?_
          refine g_istore (q := 206) (L' := #[.val (.int a), .val (.int b), .val (.int d), .val (.int f), .val (.int g), .val (.int ((1 : Int32) + (a &&& (3 : Int32)))), .val (.int r2), .val (.int r4), .val (.int r6), .val (.int f), .val (.int (f + r2)), .val (.int ((f + r2) + r4)), .val (.int (((f + r2) + r4) + r6)), .val (.ref o7), .val (.int t), .val (.int (3 : Int32))]) Xb58.here hx (hb hby at_204) rfl rfl ?_
          exact LP206_b54 _ t (3 : Int32) Xb58 eb58 ht (by rw [if_pos ⟨(by have h := c59; simp only [Int32.reduceToInt, Int64.reduceToInt] at h; exact h), (by have h := c60; simp only [Int32.reduceToInt, Int64.reduceToInt] at h; exact h), (by have h := c61; simp only [Int32.reduceToInt, Int64.reduceToInt] at h; exact h)⟩]; rfl)
  have LP164_b62 : ∀ (Tb62 : State) (t : Int32) (Xb62 : Stand p l e room_1 s m #[.int a, .int b, .int d, .int f, .int g] below meth c Tb62 ([] ++ [⟨o7, 0⟩] ++ [⟨o7, 1⟩] ++ [⟨o7, 2⟩] ++ [⟨o7, 3⟩] ++ [⟨o7, 4⟩] ++ [⟨o7, 5⟩] ++ [⟨o7, 6⟩] ++ [⟨o7, 7⟩] ++ [⟨o7, 8⟩]) (0 + 1) (0 + 9)) (eb62 : Tb62.heap = h42) (ht : 0 ≤ t.toInt ∧ t.toInt < ((1 : Int32) + (a &&& (3 : Int32))).toInt), Go p e below (Fin0 s room_1 (fun v h L => v = some (.int 1) ∧ Fr n0 L)) (Tb62.setTop (mkF m 164 #[.val (.int a), .val (.int b), .val (.int d), .val (.int f), .val (.int g), .val (.int ((1 : Int32) + (a &&& (3 : Int32)))), .val (.int r2), .val (.int r4), .val (.int r6), .val (.int f), .val (.int (f + r2)), .val (.int ((f + r2) + r4)), .val (.int (((f + r2) + r4) + r6)), .val (.ref o7), .val (.int t), .unset] [])) := by
    intro Tb62 t Xb62 eb62 ht
    refine g_iload (q := 166) Xb62.here hx (hb hby at_164) rfl rfl ?_
    refine g_if_le (q := 181) (q0 := 169) Xb62.here hx (hb hby at_166) (by decide) (by decide) rfl ?_ ?_
    · intro c63
      exact LP181_b58 _ t Xb62 eb62 ht
    · intro c63
      refine g_iloadN (q := 170) Xb62.here hx (hb hby at_169) rfl rfl ?_
      refine g_iload (q := 172) Xb62.here hx (hb hby at_170) rfl rfl ?_
      refine g_callSI (q := 175) Xb62 hx hZ hown (hw _ (List.mem_of_getElem? (i := 0) rfl)) (hw _ (List.mem_of_getElem? (i := 1) rfl)) (hw _ (List.mem_of_getElem? (i := 2) rfl)) (hw _ (List.mem_of_getElem? (i := 3) rfl)) (by decide) (rm1 l Z a0 hw [] d t h42 n0 Z45) (argsL := [.int d, .int t]) (rest := []) pd_0 rfl rfl rfl (hb hby at_172) rfl (by rw [hml]; rfl) eb62 (by decide) (W := 0) rfl (by decide) rfl rfl (by decide) (by decide) ?_
      intro T64 r65 X64 e64 hr65
      refine g_if_ne (q := 181) (q0 := 178) X64.here hx (hb hby at_175) (by decide) (by decide) rfl ?_ ?_
      · intro c66
        exact LP181_b58 _ t X64 e64 ht
      · intro c66
        refine g_iinc (q := 181) (v := (t + (-1 : Int32))) (L' := #[.val (.int a), .val (.int b), .val (.int d), .val (.int f), .val (.int g), .val (.int ((1 : Int32) + (a &&& (3 : Int32)))), .val (.int r2), .val (.int r4), .val (.int r6), .val (.int f), .val (.int (f + r2)), .val (.int ((f + r2) + r4)), .val (.int (((f + r2) + r4) + r6)), .val (.ref o7), .val (.int (t + (-1 : Int32))), .unset]) X64.here hx (hb hby at_178) rfl rfl rfl rfl ?_
        exact LP181_b58 _ (t + (-1 : Int32)) X64 e64 (own_dec ht c63)
  have LP147_b67 : ∀ (Tb67 : State) (t : Int32) (Xb67 : Stand p l e room_1 s m #[.int a, .int b, .int d, .int f, .int g] below meth c Tb67 ([] ++ [⟨o7, 0⟩] ++ [⟨o7, 1⟩] ++ [⟨o7, 2⟩] ++ [⟨o7, 3⟩] ++ [⟨o7, 4⟩] ++ [⟨o7, 5⟩] ++ [⟨o7, 6⟩] ++ [⟨o7, 7⟩] ++ [⟨o7, 8⟩]) (0 + 1) (0 + 9)) (eb67 : Tb67.heap = h42) (ht : 0 ≤ t.toInt ∧ t.toInt < ((1 : Int32) + (a &&& (3 : Int32))).toInt), Go p e below (Fin0 s room_1 (fun v h L => v = some (.int 1) ∧ Fr n0 L)) (Tb67.setTop (mkF m 147 #[.val (.int a), .val (.int b), .val (.int d), .val (.int f), .val (.int g), .val (.int ((1 : Int32) + (a &&& (3 : Int32)))), .val (.int r2), .val (.int r4), .val (.int r6), .val (.int f), .val (.int (f + r2)), .val (.int ((f + r2) + r4)), .val (.int (((f + r2) + r4) + r6)), .val (.ref o7), .val (.int t), .unset] [])) := by
    intro Tb67 t Xb67 eb67 ht
    refine g_iload (q := 149) Xb67.here hx (hb hby at_147) rfl rfl ?_
    refine g_if_le (q := 164) (q0 := 152) Xb67.here hx (hb hby at_149) (by decide) (by decide) rfl ?_ ?_
    · intro c68
      exact LP164_b62 _ t Xb67 eb67 ht
    · intro c68
      refine g_iloadN (q := 153) Xb67.here hx (hb hby at_152) rfl rfl ?_
      refine g_iload (q := 155) Xb67.here hx (hb hby at_153) rfl rfl ?_
      refine g_callSI (q := 158) Xb67 hx hZ hown (hw _ (List.mem_of_getElem? (i := 0) rfl)) (hw _ (List.mem_of_getElem? (i := 1) rfl)) (hw _ (List.mem_of_getElem? (i := 2) rfl)) (hw _ (List.mem_of_getElem? (i := 3) rfl)) (by decide) (rm1 l Z a0 hw [] d t h42 n0 Z45) (argsL := [.int d, .int t]) (rest := []) pd_0 rfl rfl rfl (hb hby at_155) rfl (by rw [hml]; rfl) eb67 (by decide) (W := 0) rfl (by decide) rfl rfl (by decide) (by decide) ?_
      intro T69 r70 X69 e69 hr70
      refine g_if_ne (q := 164) (q0 := 161) X69.here hx (hb hby at_158) (by decide) (by decide) rfl ?_ ?_
      · intro c71
        exact LP164_b62 _ t X69 e69 ht
      · intro c71
        refine g_iinc (q := 164) (v := (t + (-1 : Int32))) (L' := #[.val (.int a), .val (.int b), .val (.int d), .val (.int f), .val (.int g), .val (.int ((1 : Int32) + (a &&& (3 : Int32)))), .val (.int r2), .val (.int r4), .val (.int r6), .val (.int f), .val (.int (f + r2)), .val (.int ((f + r2) + r4)), .val (.int (((f + r2) + r4) + r6)), .val (.ref o7), .val (.int (t + (-1 : Int32))), .unset]) X69.here hx (hb hby at_161) rfl rfl rfl rfl ?_
        exact LP164_b62 _ (t + (-1 : Int32)) X69 e69 (own_dec ht c68)
  refine g_iload (q := 132) X42.here hx (hb hby at_130) rfl rfl ?_
  refine g_if_le (q := 147) (q0 := 135) X42.here hx (hb hby at_132) (by decide) (by decide) rfl ?_ ?_
  · intro c72
    exact LP147_b67 _ v46 X42 e42 ht0
  · intro c72
    refine g_iloadN (q := 136) X42.here hx (hb hby at_135) rfl rfl ?_
    refine g_iload (q := 138) X42.here hx (hb hby at_136) rfl rfl ?_
    refine g_callSI (q := 141) X42 hx hZ hown (hw _ (List.mem_of_getElem? (i := 0) rfl)) (hw _ (List.mem_of_getElem? (i := 1) rfl)) (hw _ (List.mem_of_getElem? (i := 2) rfl)) (hw _ (List.mem_of_getElem? (i := 3) rfl)) (by decide) (rm1 l Z a0 hw [] d v46 h42 n0 Z45) (argsL := [.int d, .int v46]) (rest := []) pd_0 rfl rfl rfl (hb hby at_138) rfl (by rw [hml]; rfl) e42 (by decide) (W := 0) rfl (by decide) rfl rfl (by decide) (by decide) ?_
    intro T73 r74 X73 e73 hr74
    refine g_if_ne (q := 147) (q0 := 144) X73.here hx (hb hby at_141) (by decide) (by decide) rfl ?_ ?_
    · intro c75
      exact LP147_b67 _ v46 X73 e73 ht0
    · intro c75
      refine g_iinc (q := 147) (v := (v46 + (-1 : Int32))) (L' := #[.val (.int a), .val (.int b), .val (.int d), .val (.int f), .val (.int g), .val (.int ((1 : Int32) + (a &&& (3 : Int32)))), .val (.int r2), .val (.int r4), .val (.int r6), .val (.int f), .val (.int (f + r2)), .val (.int ((f + r2) + r4)), .val (.int (((f + r2) + r4) + r6)), .val (.ref o7), .val (.int (v46 + (-1 : Int32))), .unset]) X73.here hx (hb hby at_144) rfl rfl rfl rfl ?_
      exact LP147_b67 _ (v46 + (-1 : Int32)) X73 e73 (own_dec ht0 c72)
set_option maxRecDepth 65536 in
set_option maxHeartbeats 40000000 in
theorem comes_1 {Post : Tables → Env → Array Value → State → Outcome → State → Prop} (hpost : ∀ tb e args s v u, (limb_1_1.after args s (.returned v) u = true ∧ limb_1_2.after args s (.returned v) u = true ∧ True) → FrameEnd s (.returned v) u (Jvm.fieldLocs frame_1_writes args s ++ Jvm.arrayLocs frame_1_arrays args s ++ Jvm.staticLocs frame_1_statics s) 16 128 → Post tb e args s (.returned v) u) :
    ArmFor flags0 classFile x code maxLocals ret World_1 tables_1 room_1 Calls_1 rest_1 Pre_1 Post := by
  intro l hfl _ _ p e ha hc hk s m args below hf hA hF happ hP
  obtain ⟨hcalls, hrest, hpre⟩ := hP
  obtain ⟨-, -, -, hnamed, -, -, -, hat⟩ := (Spec.applies_iff hf).mp happ
  obtain ⟨hg, hn⟩ := and_e (Cond.before_iff.mp (show (Jvm.Cond.and given_1 narrow_1).before args s = true from hpre))
  obtain ⟨g1, g2⟩ := and_e hg
  obtain ⟨g3, g4⟩ := and_e g2
  obtain ⟨g5, g6⟩ := and_e g4
  obtain ⟨g7, g8⟩ := and_e g6
  obtain ⟨g9, g10⟩ := and_e g8
  obtain ⟨w0, w1, w2, w3, w4, rfl⟩ : ∃ w0 w1 w2 w3 w4 : Value, args = #[w0, w1, w2, w3, w4] := by
    have hs : args.size = 5 := by simpa [Cond.value, given_1] using g1
    obtain ⟨L⟩ := args
    match L, hs with
    | [w0, w1, w2, w3, w4], _ => exact ⟨w0, w1, w2, w3, w4, rfl⟩
  have hw := fun d (hd : d ∈ tables_1) => atoms_spec (ws := Jvm.Cond.code x code maxLocals ret :: tables_1) hat d (List.mem_cons_of_mem _ hd)
  obtain ⟨i0, ei0⟩ := is_v g3
  obtain rfl : w0 = (.int i0) := Option.some.inj ei0
  obtain ⟨i1, ei1⟩ := is_v g5
  obtain rfl : w1 = (.int i1) := Option.some.inj ei1
  obtain ⟨i2, ei2⟩ := is_v g7
  obtain rfl : w2 = (.int i2) := Option.some.inj ei2
  obtain ⟨i3, ei3⟩ := is_v g9
  obtain rfl : w3 = (.int i3) := Option.some.inj ei3
  obtain ⟨i4, ei4⟩ := is_v g10
  obtain rfl : w4 = (.int i4) := Option.some.inj ei4
  obtain ⟨n, o, h1, h2, h3, _, L, rfl, ⟨rfl, N⟩, hq⟩ := rm0 l s _ hw tables_1 i0 i1 i2 i3 i4 s.heap s.heap.size (Nat.le_refl _) p e ha hc hk s m _ below hf ((Spec.applies_iff_loose hf).mp happ).1 ⟨rfl, State.Warmed39.refl s, rfl⟩ trivial
  refine ⟨n, _, h1, h2, h3, hpost _ _ _ _ _ _ ⟨Cond.after_iff.mpr rfl, Cond.after_iff.mpr (eq_i res_at (Term.int_eval (1)) rfl), trivial⟩ ⟨hq.1, hq.2.1, (hq.2.2.sift fun y hy => Or.inr (N y hy)).mono (by decide) (by decide)⟩⟩
theorem main_1_1 : Claimed_1_1 := comes_1 fun _ _ _ _ _ _ h hF => ⟨h.1, hF⟩
theorem main_1_2 : Claimed_1_2 := comes_1 fun _ _ _ _ _ _ h hF => ⟨h.2.1, hF⟩
end Jvm.Pilot.@@N@@
namespace Jvm.Pilot.@@N@@
open Jvm Jvm.ClassFile Sem Op Lib Jvm.Free Jvm.Stand Jvm.Pilot.@@N@@.Jvm.D
/-! MADE BY PROGRAM (witnessworld.py) out of the Statement's table words and the real class files: 9 classes; the members and pool entries that the words name. The judged class is class 1, her method 2. -/
namespace start1
open Jvm.ClassFile
def u (s : String) : CpInfo := .utf8 (stringToUtf16 s)
/-- a pool by its gaps: so many unusable entries, then the entry; so many at the end -/
def gap : Nat → List CpInfo → List CpInfo
  | 0, r => r
  | n + 1, r => .unusable :: gap n r
def poolList (es : List (Nat × CpInfo)) (last : Nat) : List CpInfo := es.foldr (fun e r => gap e.1 (e.2 :: r)) (gap last [])
def pool (es : List (Nat × CpInfo)) (last : Nat) : Array CpInfo := ⟨poolList es last⟩
def fileOf (pool : Array CpInfo) (this : Nat) (attrs : Array Attribute := #[]) (ms : Array MethodInfo := #[]) (fl : Nat := 33) (sup : Nat := 0) (ifs : Array Nat := #[]) (fds : Array FieldInfo := #[]) : ClassFile where
  minorVersion := 0
  majorVersion := 65
  constantPool := pool
  accessFlags := fl
  thisClass := this
  superClass := sup
  interfaces := ifs
  fields := fds
  methods := ms
  attributes := attrs
def plain (name : String) (sup : Option ClassId) : Class where
  name := name
  kind := .ordinary
  loader := none
  accessFlags := 33
  super := sup
  interfaces := #[]
  cf := none
  fields := #[]
  methods := #[]
  instanceTypes := #[]
  staticTypes := #[]
  resolved := #[]
  callSites := []
  init := .initialized
  statics := none
  mirror := none

def pool0 : Array CpInfo := pool [(5, u "<init>"), (0, u "()V"), (1, .class_ 10), (1, u "java/lang/Object")] 113

def k0m0 : Method := { name := "<init>", desc := "()V", sig := { parameters := [], returnType := none }, accessFlags := 1, code := none }
/-- java/lang/Object -/
def k0 : Class := { plain "java/lang/Object" none with
  accessFlags := 33
  interfaces := #[]
  cf := some (fileOf pool0 8 #[] #[{ accessFlags := 1, nameIndex := 5, descriptorIndex := 6, attributes := #[] }] 33 0 #[] #[])
  fields := #[]
  methods := #[k0m0]
  instanceTypes := #[]
  staticTypes := #[]
  resolved := Array.replicate 124 none
  statics := none }

def pool1 : Array CpInfo := pool [(2, .class_ 4), (1, u "java/lang/Object"), (0, u "<init>"), (0, u "()V"), (0, .methodref 8 9), (0, .class_ 10), (0, .nameAndType 11 12), (0, u "com/example/revisor/revisor/PackedEdgesRunEndPinLaw"), (0, u "bit"), (0, u "(II)I"), (0, .integer 2147483647), (0, .methodref 15 16), (0, .class_ 17), (0, .nameAndType 18 19), (0, u "com/example/revisor/revisor/PackedEdges"), (0, u "runEnd"), (0, u "([II)I"), (2, u "law"), (0, u "(IIIII)Z")] 5

def k1m0 : Method := { name := "<init>", desc := "()V", sig := { parameters := [], returnType := none }, accessFlags := 2, code := none }
def k1c1 : Code := { maxStack := 3, maxLocals := 2, code := method_2_code, exceptionTable := #[], attributes := #[] }
def k1m1 : Method := { name := "bit", desc := "(II)I", sig := { parameters := [.int, .int], returnType := some .int }, accessFlags := 10, code := some k1c1 }
def k1c2 : Code := { maxStack := 4, maxLocals := 16, code := code, exceptionTable := #[], attributes := #[] }
def k1m2 : Method := { name := "law", desc := "(IIIII)Z", sig := { parameters := [.int, .int, .int, .int, .int], returnType := some .boolean }, accessFlags := 9, code := some k1c2 }
/-- com/example/revisor/revisor/PackedEdgesRunEndPinLaw -/
def k1 : Class := { plain "com/example/revisor/revisor/PackedEdgesRunEndPinLaw" (some 0) with
  accessFlags := 49
  interfaces := #[]
  cf := some (fileOf pool1 8 #[] #[{ accessFlags := 2, nameIndex := 5, descriptorIndex := 6, attributes := #[] }, { accessFlags := 10, nameIndex := 11, descriptorIndex := 12, attributes := #[] }, { accessFlags := 9, nameIndex := 22, descriptorIndex := 23, attributes := #[] }] 49 2 #[] #[])
  fields := #[]
  methods := #[k1m0, k1m1, k1m2]
  instanceTypes := #[]
  staticTypes := #[]
  resolved := Array.replicate 29 none
  statics := none }

def pool2 : Array CpInfo := pool [(2, .class_ 4), (1, u "java/lang/Object"), (0, u "<init>"), (0, u "()V"), (1, .class_ 10), (1, u "com/example/revisor/revisor/PackedEdges"), (27, u "([II)I"), (3, u "runEnd")] 10

def k2m0 : Method := { name := "<init>", desc := "()V", sig := { parameters := [], returnType := none }, accessFlags := 2, code := none }
def k2c1 : Code := { maxStack := 4, maxLocals := 4, code := prog_6_method_8_code, exceptionTable := #[], attributes := #[] }
def k2m1 : Method := { name := "runEnd", desc := "([II)I", sig := { parameters := [(.array .int), .int], returnType := some .int }, accessFlags := 8, code := some k2c1 }
/-- com/example/revisor/revisor/PackedEdges -/
def k2 : Class := { plain "com/example/revisor/revisor/PackedEdges" (some 0) with
  accessFlags := 48
  interfaces := #[]
  cf := some (fileOf pool2 8 #[] #[{ accessFlags := 2, nameIndex := 5, descriptorIndex := 6, attributes := #[] }, { accessFlags := 8, nameIndex := 42, descriptorIndex := 38, attributes := #[] }] 48 2 #[] #[])
  fields := #[]
  methods := #[k2m0, k2m1]
  instanceTypes := #[]
  staticTypes := #[]
  resolved := Array.replicate 53 none
  statics := none }

def pool3 : Array CpInfo := pool [(1, u "java/lang/Cloneable"), (0, .class_ 1), (0, u "java/lang/Object"), (0, .class_ 3)] 3

/-- java/lang/Cloneable -/
def k3 : Class := { plain "java/lang/Cloneable" (some 0) with
  accessFlags := 1537
  interfaces := #[]
  cf := some (fileOf pool3 2 #[] #[] 1537 4 #[] #[])
  fields := #[]
  methods := #[]
  instanceTypes := #[]
  staticTypes := #[]
  resolved := Array.replicate 8 none
  statics := none }

def pool4 : Array CpInfo := pool [(1, u "java/io/Serializable"), (0, .class_ 1), (0, u "java/lang/Object"), (0, .class_ 3)] 3

/-- java/io/Serializable -/
def k4 : Class := { plain "java/io/Serializable" (some 0) with
  accessFlags := 1537
  interfaces := #[]
  cf := some (fileOf pool4 2 #[] #[] 1537 4 #[] #[])
  fields := #[]
  methods := #[]
  instanceTypes := #[]
  staticTypes := #[]
  resolved := Array.replicate 8 none
  statics := none }

/-- the primitive byte -/
def k5 : Class := { plain "byte" none with kind := .primitive 'B', accessFlags := 0x411 }
/-- [B -/
def k6 : Class := { plain "[B" (some 0) with kind := .array 5 .byte, interfaces := #[3, 4], accessFlags := 1041 }

/-- the primitive int -/
def k7 : Class := { plain "int" none with kind := .primitive 'I', accessFlags := 0x411 }
/-- [I -/
def k8 : Class := { plain "[I" (some 0) with kind := .array 7 .int, interfaces := #[3, 4], accessFlags := 1041 }

def heap : Heap := #[]
def classes : Array Class := #[k0, k1, k2, k3, k4, k5, k6, k7, k8]
def interned : List (Array UInt16 × Addr) := []
def slotsUsed : Nat := 0
def theMethod : MethodId := ⟨1, 2⟩
def args0 : Array Value := #[.int 5, .int 6, .int 7, .int 8, .int 9]
def aboutOver (below : List Frame) : State where
  vm := { classes := classes, interned := interned.toArray }
  heap := heap
  slotsUsed := slotsUsed
  threads := #[{ frames := .invoking theMethod args0 :: below }]
def below0 : List Frame := [.native { method := ⟨0, 0⟩, args := #[] }]
def about1 : State := aboutOver below0
def p0 : Program := .bare "" "" ""
def e0 : Env := launch0.env 0 0 0
theorem w_frames : about1.frames = Frame.invoking theMethod args0 :: below0 := rfl
set_option maxRecDepth 65536 in
theorem w_args : argsFit about1.vm theMethod args0 = true := by decide +kernel
set_option maxRecDepth 65536 in
theorem w_heap : heapFits about1 = true := by decide +kernel
set_option maxRecDepth 65536 in
theorem w_runnable : about1.curStatus? = some .runnable := by decide +kernel
set_option maxRecDepth 65536 in
theorem w_alone : about1.alone = true := by decide +kernel
set_option maxRecDepth 65536 in
theorem w_named : about1.methodNamed? x = some theMethod := by decide +kernel
set_option maxRecDepth 65536 in
theorem w_hears : about1.hears theMethod below0 = true := by decide +kernel
set_option maxRecDepth 65536 in
theorem w_ripe : about1.ripe theMethod args0 below0 = true := by decide +kernel
theorem w_running : about1.status = .running := rfl
set_option maxRecDepth 65536 in
theorem w_room : about1.hasRoom e0.platform room_1 = true :=
  launch0.hasRoom_least _ room_1 (by decide +kernel) (by decide +kernel) (by decide +kernel) (by decide +kernel) (by decide +kernel) (by decide +kernel)
theorem allAtoms_all (ts : List Jvm.Cond) (a : Array Jvm.Value) (st : Jvm.State) : (allAtoms ts).before a st = ts.all (fun c => c.before a st) := by
  induction ts with
  | nil => rfl
  | cons c t ih =>
    show (Jvm.Cond.and c (allAtoms t)).before a st = _
    rw [Jvm.Cond.before_and, ih, List.all_cons]
def words1 : List Jvm.Cond := Jvm.Cond.code x code maxLocals ret :: tables_1
/-- a 'code' word, met by the world's own term for the bytes: nothing is compared byte by byte -/
theorem code_word {y : MethodName} {bytes : ByteArray} {mx : Nat} {rt : Option FieldType} {a : Array Value} {s : State} {m : MethodId} {meth : Method} {c : Code} (h1 : s.methodNamed? y = some m) (h2 : s.vm.method? m = some meth) (h3 : meth.code = some c) (h4 : c.code = bytes)
    (h5 : (c.maxLocals == mx && c.exceptionTable.isEmpty && decide (c.maxStack ≤ mostOperands) && decide (meth.sig.returnType = rt) && !meth.locks && decide (parseMethodDescriptor y.desc = some meth.sig)) = true) : (Jvm.Cond.code y bytes mx rt).before a s = true := by
  simp only [Bool.and_eq_true, beq_iff_eq, Bool.not_eq_true', decide_eq_true_eq] at h5
  obtain ⟨⟨⟨⟨⟨g1, g2⟩, g3⟩, g4⟩, g5⟩, g6⟩ := h5
  simp [Cond.before, Cond.holds, Cond.value, h1, h2, h3, h4, g1, g2, g3, g4, g5, g6]
def isCode : Jvm.Cond → Bool
  | .code _ _ _ _ => true
  | _ => false
theorem all_split {L : List Jvm.Cond} {P : Jvm.Cond → Bool} (h1 : L.all (fun c => isCode c || P c) = true) (h2 : ∀ c ∈ L.filter isCode, P c = true) : L.all P = true := by
  refine List.all_eq_true.mpr fun c hc => ?_
  have h := List.all_eq_true.mp h1 c hc
  rcases Bool.eq_false_or_eq_true (isCode c) with hi | hi
  · exact h2 c (List.mem_filter.mpr ⟨hc, hi⟩)
  · simpa [hi] using h
set_option maxRecDepth 65536 in
theorem w_c0 : (Jvm.Cond.code x code maxLocals ret).before args0 about1 = true := code_word (m := ⟨1, 2⟩) (meth := k1m2) (c := k1c2) (by decide +kernel) rfl rfl rfl (by decide +kernel)
set_option maxRecDepth 65536 in
theorem w_c1 : (Jvm.Cond.code ({ cls := "com/example/revisor/revisor/PackedEdgesRunEndPinLaw", name := "bit", desc := "(II)I" } : Jvm.MethodName) method_2_code (2 : Nat) (Option.some Jvm.ClassFile.FieldType.int)).before args0 about1 = true := code_word (m := ⟨1, 1⟩) (meth := k1m1) (c := k1c1) (by decide +kernel) rfl rfl rfl (by decide +kernel)
set_option maxRecDepth 65536 in
theorem w_c2 : (Jvm.Cond.code ({ cls := "com/example/revisor/revisor/PackedEdges", name := "runEnd", desc := "([II)I" } : Jvm.MethodName) prog_6_method_8_code (4 : Nat) (Option.some Jvm.ClassFile.FieldType.int)).before args0 about1 = true := code_word (m := ⟨2, 1⟩) (meth := k2m1) (c := k2c1) (by decide +kernel) rfl rfl rfl (by decide +kernel)
def codes1 : List Jvm.Cond := [Jvm.Cond.code x code maxLocals ret, Jvm.Cond.code ({ cls := "com/example/revisor/revisor/PackedEdgesRunEndPinLaw", name := "bit", desc := "(II)I" } : Jvm.MethodName) method_2_code (2 : Nat) (Option.some Jvm.ClassFile.FieldType.int), Jvm.Cond.code ({ cls := "com/example/revisor/revisor/PackedEdges", name := "runEnd", desc := "([II)I" } : Jvm.MethodName) prog_6_method_8_code (4 : Nat) (Option.some Jvm.ClassFile.FieldType.int)]
set_option maxRecDepth 65536 in
theorem codes_eq : words1.filter isCode = codes1 := rfl
theorem w_codes : ∀ c ∈ words1.filter isCode, c.before args0 about1 = true := by
  rw [codes_eq]
  intro c hc
  simp only [codes1, List.mem_cons, List.not_mem_nil, or_false] at hc
  rcases hc with rfl | rfl | rfl
  · exact w_c0
  · exact w_c1
  · exact w_c2
set_option maxRecDepth 65536 in
theorem w_t1 : words1.all (fun c => isCode c || c.before args0 about1) = true := by decide +kernel
theorem w_tables : (allAtoms (Jvm.Cond.code x code maxLocals ret :: tables_1)).before args0 about1 = true := by
  rw [allAtoms_all]
  show words1.all (fun c => c.before args0 about1) = true
  refine all_split ?_ w_codes
  rw [w_t1]
set_option maxRecDepth 65536 in
theorem w_case : (Jvm.Cond.and given_1 narrow_1).before args0 about1 = true := by decide +kernel
theorem w_applies : (headSpec (Jvm.Cond.code x code maxLocals ret :: tables_1) room_1).applies x e0.platform about1 = true :=
  (Spec.applies_iff w_frames).mpr ⟨w_running, w_runnable, w_alone, w_named, w_hears, w_ripe, w_room, w_tables⟩
theorem atStart : AtStart classFile x code maxLocals ret World_1 tables_1 room_1 Calls_1 rest_1 Pre_1 launch0 p0 e0 about1 theMethod args0 below0 :=
  ⟨lists_1, trivial, launch0.admits_env _ _ _, launch0.least_env, fairChoices_fair.cas, fairChoices_fair.clock, w_frames, w_args, w_heap, w_applies, trivial, trivial, w_case⟩
end start1
theorem witness_1 : WitnessClaimed_1 := ⟨start1.p0, start1.e0, start1.about1, start1.theMethod, start1.args0, start1.below0, start1.atStart⟩
end Jvm.Pilot.@@N@@
