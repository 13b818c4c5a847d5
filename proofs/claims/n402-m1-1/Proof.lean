import JvmDerived
import JvmDerived.Pilot.@@N@@Statement
import JvmDerived.Pilot.@@N@@Code
set_option linter.unusedVariables false
set_option linter.unusedSimpArgs false
namespace Jvm.Pilot.@@N@@
open Jvm Jvm.ClassFile Sem Op Lib Jvm.Free Jvm.Stand Jvm.LawKit Jvm.RoadKit Bundle Jvm.Pilot.@@N@@.Jvm.D

/-! ### the own kit: a walk's goal in continuation form -/
def Go (p : Program) (e : Env) (below : List Frame) (Φ : Outcome → State → Prop) (U : State) : Prop :=
  ∃ s₂ o, Steps p.tables e below U s₂ ∧ s₂.status = .running ∧ Ended s₂ below o ∧ Φ o s₂
def Fin0 (s : State) (rm : Room) (Q : Option Value → Heap → List Loc → Prop) : Outcome → State → Prop :=
  fun o U' => ∃ v L, o = .returned v ∧ Q v U'.heap L ∧ FrameEnd s o U' L rm.cells rm.slots
abbrev Ctr (l : Launch) (Z : State) (y : MethodName) (bytes : ByteArray) (ml : Nat) (rt : Option FieldType) (rm : Room) (ws : List Jvm.Cond) (as' : Array Value) (h0 : Heap) (Q : Option Value → Heap → List Loc → Prop) : Prop :=
  MetFree l y (head1 (Jvm.Cond.code y bytes ml rt :: ws) rm) (fun a U => a = as' ∧ Z.Warmed39 U.vm ∧ U.heap = h0) (fun _ _ _ _ _ => True) (fun _ U o U' => ∃ v L, o = .returned v ∧ Q v U'.heap L ∧ FrameEnd U o U' L rm.cells rm.slots)
def b2i (b : Bool) : Int32 := if b then 1 else 0
theorem b2i_t : b2i true = 1 := rfl
theorem b2i_f : b2i false = 0 := rfl
theorem b2i_nar (b : Bool) : nar .boolean (b2i b) = b2i b := by cases b <;> rfl
theorem b2i_or (b : Bool) : (b = true ∧ (b2i b).toInt = 1) ∨ (b = false ∧ (b2i b).toInt = 0) := by cases b <;> decide
theorem b2i_dec {P : Prop} [Decidable P] : (P ∧ (b2i (decide P)).toInt = 1) ∨ (¬ P ∧ (b2i (decide P)).toInt = 0) := by
  by_cases h : P
  · exact Or.inl ⟨h, by rw [decide_eq_true h]; rfl⟩
  · exact Or.inr ⟨h, by rw [decide_eq_false h]; rfl⟩
theorem b2i_inj {a b : Bool} : b2i a = b2i b ↔ a = b := by cases a <;> cases b <;> decide
theorem i32e {x y : Int32} : x = y ↔ x.toInt = y.toInt := Int32.toInt_inj.symm
theorem i64e {x y : Int64} : x = y ↔ x.toInt = y.toInt := Int64.toInt_inj.symm
theorem okB {b : Bool} (h : b = true) : some (Value.int (b2i b)) = some (Value.int 1) := by rw [h]; rfl
theorem eqT {P : Prop} [Decidable P] (h : P) : some (Value.int (b2i true)) = some (Value.int (b2i (decide P))) := by rw [decide_eq_true h]
theorem eqF {P : Prop} [Decidable P] (h : ¬ P) : some (Value.int (b2i false)) = some (Value.int (b2i (decide P))) := by rw [decide_eq_false h]
theorem eqD {P Q : Prop} [Decidable P] [Decidable Q] (h : Q ↔ P) : some (Value.int (b2i (decide Q))) = some (Value.int (b2i (decide P))) := by rw [decide_eq_decide.mpr h]
theorem eqB {P : Prop} [Decidable P] {b : Bool} (h : b = true ↔ P) : some (Value.int (b2i b)) = some (Value.int (b2i (decide P))) := by
  rw [show b = decide P from by by_cases q : P <;> simp [q, h] <;> (cases b <;> simp_all)]
/-- what a pure callee leaves that returns an int (a long) of which P is said -/
def IQ (P : Int32 → Prop) (h0 : Heap) : Option Value → Heap → List Loc → Prop := fun v h L => ∃ r, v = some (.int r) ∧ P r ∧ h = h0 ∧ L = []
def JQ (P : Int64 → Prop) (h0 : Heap) : Option Value → Heap → List Loc → Prop := fun v h L => ∃ r, v = some (.long r) ∧ P r ∧ h = h0 ∧ L = []
/-- what a pure callee leaves -/
def PQ (r : Value) (h0 : Heap) : Option Value → Heap → List Loc → Prop := fun v h L => v = some r ∧ h = h0 ∧ L = []
theorem Ctr.of {l : Launch} {Z : State} {y : MethodName} {bytes : ByteArray} {ml : Nat} {rt : Option FieldType} {rm : Room} {ws : List Jvm.Cond} {as' : Array Value} {h0 : Heap} {Q : Option Value → Heap → List Loc → Prop} (hp : plainFor y = true)
    (body : ∀ (p : Program) (e : Env) (s : State) (m : MethodId) (below : List Frame) (meth : Method) (c : Code) (s₁ : State), p.tables.exec = Jvm.exec → c.code = bytes → c.maxLocals = ml → meth.sig.returnType = rt → meth.locks = false → meth.name = y.name → s.vm.findClass y.cls = some m.cls → Z.Warmed39 s.vm → Stand p l e rm s m as' below meth c s₁ [] 0 0 → s₁.heap = h0 →
      Go p e below (Fin0 s rm Q) (s₁.setTop (entryFrame m as' ml))) : Ctr l Z y bytes ml rt rm ws as' h0 Q := by
  refine MetFree.of_bodySF hp hisR ?_
  intro p e s m args below meth c s₁ Bd hml0 hP hK
  obtain ⟨rfl, hZ, hh⟩ := hP
  obtain ⟨s₂, o, g1, g2, g3, v, L, g4, g5, g6⟩ := body p e s m below meth c s₁ Bd.exec Bd.bytes hml0 Bd.returns Bd.notSynchronized (name_of_methodNamed Bd.named Bd.method).1 (findClass_of_methodNamed Bd.named) hZ (Stand.of_body Bd) (by rw [← hh, Bd.state]; rfl)
  exact ⟨s₂, o, g1, g2, g3, v, L, g4, g5, g6⟩
theorem st_one {L L' : Array Slot} {i : Nat} {o : Slot} {v : Value} (h : L[i]? = some o) (ho : One o) (hv : v.category = 1) (hL : L.setIfInBounds i (.val v) = L') : storeLocals L i v = some L' := by
  rw [XS.store1 h ho hv, hL]
section OwnKit
variable {p : Program} {l : Launch} {e : Env} {R : Room} {s : State} {m : MethodId} {args : Array Value} {below : List Frame} {meth : Method} {c : Code} {T : State} {locs : List Loc} {cells slots : Nat} {Z : State} {a0 : Array Value} {h : Heap} {Φ : Outcome → State → Prop} {pc q : Nat} {L : Array Slot} {S : List Value}
theorem Go.by {U U' : State} (h : ∀ t, Steps p.tables e below U' t → Steps p.tables e below U t) (k : Go p e below Φ U') : Go p e below Φ U := by
  obtain ⟨s₂, o, h1, r⟩ := k; exact ⟨s₂, o, h _ h1, r⟩
theorem Go.cast {g g' : JFrame} (q : g = g') (k : Go p e below Φ (T.setTop g')) : Go p e below Φ (T.setTop g) := q ▸ k
theorem g_iloadN (hA : At T m c below) (hx : p.tables.exec = Jvm.exec) {j : Fin 4} {v : Int32} (hd : decode c.code pc = .ok (.iload_n j, 1)) (hl : L[j.val]? = some (.val (.int v))) (hq : pc + 1 = q) (k : Go p e below Φ (T.setTop (mkF m q L (.int v :: S)))) : Go p e below Φ (T.setTop (mkF m pc L S)) := by
  subst hq; exact Go.by (fun _ => XS.iloadN hA hx rfl hd hl) k
theorem g_iload (hA : At T m c below) (hx : p.tables.exec = Jvm.exec) {j : Nat} {v : Int32} (hd : decode c.code pc = .ok (.iload j, 2)) (hl : L[j]? = some (.val (.int v))) (hq : pc + 2 = q) (k : Go p e below Φ (T.setTop (mkF m q L (.int v :: S)))) : Go p e below Φ (T.setTop (mkF m pc L S)) := by
  subst hq; exact Go.by (fun _ => XS.iload hA hx rfl hd hl) k
theorem g_istoreN (hA : At T m c below) (hx : p.tables.exec = Jvm.exec) {j : Fin 4} {v : Int32} {L' : Array Slot} (hd : decode c.code pc = .ok (.istore_n j, 1)) (hl : storeLocals L j.val (.int v) = some L') (hq : pc + 1 = q) (k : Go p e below Φ (T.setTop (mkF m q L' S))) : Go p e below Φ (T.setTop (mkF m pc L (.int v :: S))) := by
  subst hq; exact Go.by (fun _ => XS.istoreN hA hx rfl hd rfl hl) k
theorem g_istore (hA : At T m c below) (hx : p.tables.exec = Jvm.exec) {j : Nat} {v : Int32} {L' : Array Slot} (hd : decode c.code pc = .ok (.istore j, 2)) (hl : storeLocals L j (.int v) = some L') (hq : pc + 2 = q) (k : Go p e below Φ (T.setTop (mkF m q L' S))) : Go p e below Φ (T.setTop (mkF m pc L (.int v :: S))) := by
  subst hq; exact Go.by (fun _ => XS.istore hA hx rfl hd rfl hl) k
theorem g_lloadN (hA : At T m c below) (hx : p.tables.exec = Jvm.exec) {j : Fin 4} {v : Int64} (hd : decode c.code pc = .ok (.lload_n j, 1)) (hl : L[j.val]? = some (.val (.long v))) (hq : pc + 1 = q) (k : Go p e below Φ (T.setTop (mkF m q L (.long v :: S)))) : Go p e below Φ (T.setTop (mkF m pc L S)) := by
  subst hq; exact Go.by (fun _ => XS.lloadN hA hx rfl hd hl) k
theorem g_lload (hA : At T m c below) (hx : p.tables.exec = Jvm.exec) {j : Nat} {v : Int64} (hd : decode c.code pc = .ok (.lload j, 2)) (hl : L[j]? = some (.val (.long v))) (hq : pc + 2 = q) (k : Go p e below Φ (T.setTop (mkF m q L (.long v :: S)))) : Go p e below Φ (T.setTop (mkF m pc L S)) := by
  subst hq; exact Go.by (fun _ => XS.lload hA hx rfl hd hl) k
theorem g_lstoreN (hA : At T m c below) (hx : p.tables.exec = Jvm.exec) {j : Fin 4} {v : Int64} {L' : Array Slot} (hd : decode c.code pc = .ok (.lstore_n j, 1)) (hl : storeLocals L j.val (.long v) = some L') (hq : pc + 1 = q) (k : Go p e below Φ (T.setTop (mkF m q L' S))) : Go p e below Φ (T.setTop (mkF m pc L (.long v :: S))) := by
  subst hq; exact Go.by (fun _ => XS.lstoreN hA hx rfl hd rfl hl) k
theorem g_lstore (hA : At T m c below) (hx : p.tables.exec = Jvm.exec) {j : Nat} {v : Int64} {L' : Array Slot} (hd : decode c.code pc = .ok (.lstore j, 2)) (hl : storeLocals L j (.long v) = some L') (hq : pc + 2 = q) (k : Go p e below Φ (T.setTop (mkF m q L' S))) : Go p e below Φ (T.setTop (mkF m pc L (.long v :: S))) := by
  subst hq; exact Go.by (fun _ => XS.lstore hA hx rfl hd rfl hl) k
theorem g_aloadN (hA : At T m c below) (hx : p.tables.exec = Jvm.exec) {j : Fin 4} {v : Value} (hd : decode c.code pc = .ok (.aload_n j, 1)) (hl : L[j.val]? = some (.val v)) (hv : v.isRef = true) (hq : pc + 1 = q) (k : Go p e below Φ (T.setTop (mkF m q L (v :: S)))) : Go p e below Φ (T.setTop (mkF m pc L S)) := by
  subst hq; exact Go.by (fun _ => XS.aloadN hA hx rfl hd hl hv) k
theorem g_aload (hA : At T m c below) (hx : p.tables.exec = Jvm.exec) {j : Nat} {v : Value} (hd : decode c.code pc = .ok (.aload j, 2)) (hl : L[j]? = some (.val v)) (hv : v.isRef = true) (hq : pc + 2 = q) (k : Go p e below Φ (T.setTop (mkF m q L (v :: S)))) : Go p e below Φ (T.setTop (mkF m pc L S)) := by
  subst hq; exact Go.by (fun _ => XS.aload hA hx rfl hd hl hv) k
theorem g_astoreN (hA : At T m c below) (hx : p.tables.exec = Jvm.exec) {j : Fin 4} {v : Value} {L' : Array Slot} (hd : decode c.code pc = .ok (.astore_n j, 1)) (hv : v.isRef = true) (hl : storeLocals L j.val v = some L') (hq : pc + 1 = q) (k : Go p e below Φ (T.setTop (mkF m q L' S))) : Go p e below Φ (T.setTop (mkF m pc L (v :: S))) := by
  subst hq; exact Go.by (fun _ => XS.astoreN hA hx rfl hd rfl hv hl) k
theorem g_astore (hA : At T m c below) (hx : p.tables.exec = Jvm.exec) {j : Nat} {v : Value} {L' : Array Slot} (hd : decode c.code pc = .ok (.astore j, 2)) (hv : v.isRef = true) (hl : storeLocals L j v = some L') (hq : pc + 2 = q) (k : Go p e below Φ (T.setTop (mkF m q L' S))) : Go p e below Φ (T.setTop (mkF m pc L (v :: S))) := by
  subst hq; exact Go.by (fun _ => XS.astore hA hx rfl hd rfl hv hl) k
theorem g_iconst (hA : At T m c below) (hx : p.tables.exec = Jvm.exec) {i : Int} {v : Int32} (hd : decode c.code pc = .ok (.iconst i, 1)) (hv : Int32.ofInt i = v) (hq : pc + 1 = q) (k : Go p e below Φ (T.setTop (mkF m q L (.int v :: S)))) : Go p e below Φ (T.setTop (mkF m pc L S)) := by
  subst hq hv; exact Go.by (fun _ => XS.iconst hA hx rfl hd) k
theorem g_bipush (hA : At T m c below) (hx : p.tables.exec = Jvm.exec) {i : Int} {v : Int32} (hd : decode c.code pc = .ok (.bipush i, 2)) (hv : (Int8.ofInt i).toInt32 = v) (hq : pc + 2 = q) (k : Go p e below Φ (T.setTop (mkF m q L (.int v :: S)))) : Go p e below Φ (T.setTop (mkF m pc L S)) := by
  subst hq hv; exact Go.by (fun _ => XS.bipush hA hx rfl hd) k
theorem g_sipush (hA : At T m c below) (hx : p.tables.exec = Jvm.exec) {i : Int} {v : Int32} (hd : decode c.code pc = .ok (.sipush i, 3)) (hv : (Int16.ofInt i).toInt32 = v) (hq : pc + 3 = q) (k : Go p e below Φ (T.setTop (mkF m q L (.int v :: S)))) : Go p e below Φ (T.setTop (mkF m pc L S)) := by
  subst hq hv; exact Go.by (fun _ => XS.sipush hA hx rfl hd) k
theorem g_lconst0 (hA : At T m c below) (hx : p.tables.exec = Jvm.exec) (hd : decode c.code pc = .ok (.lconst 0, 1)) (hq : pc + 1 = q) (k : Go p e below Φ (T.setTop (mkF m q L (.long 0 :: S)))) : Go p e below Φ (T.setTop (mkF m pc L S)) := by
  subst hq; exact Go.by (fun _ => XS.lconst hA hx rfl hd) k
theorem g_lconst1 (hA : At T m c below) (hx : p.tables.exec = Jvm.exec) (hd : decode c.code pc = .ok (.lconst 1, 1)) (hq : pc + 1 = q) (k : Go p e below Φ (T.setTop (mkF m q L (.long 1 :: S)))) : Go p e below Φ (T.setTop (mkF m pc L S)) := by
  subst hq; exact Go.by (fun _ => XS.lconst hA hx rfl hd) k
theorem g_aconst_null (hA : At T m c below) (hx : p.tables.exec = Jvm.exec) (hd : decode c.code pc = .ok (.aconst_null, 1)) (hq : pc + 1 = q) (k : Go p e below Φ (T.setTop (mkF m q L (.null :: S)))) : Go p e below Φ (T.setTop (mkF m pc L S)) := by
  subst hq; exact Go.by (fun _ => XS.aconstNull hA hx rfl hd) k
theorem g_iadd (hA : At T m c below) (hx : p.tables.exec = Jvm.exec) {x y : Int32} (hd : decode c.code pc = .ok (.iadd, 1)) (hq : pc + 1 = q) (k : Go p e below Φ (T.setTop (mkF m q L (.int (x + y) :: S)))) : Go p e below Φ (T.setTop (mkF m pc L (.int y :: .int x :: S))) := by
  subst hq; exact Go.by (fun _ => XS.iadd hA hx rfl hd rfl) k
theorem g_isub (hA : At T m c below) (hx : p.tables.exec = Jvm.exec) {x y : Int32} (hd : decode c.code pc = .ok (.isub, 1)) (hq : pc + 1 = q) (k : Go p e below Φ (T.setTop (mkF m q L (.int (x - y) :: S)))) : Go p e below Φ (T.setTop (mkF m pc L (.int y :: .int x :: S))) := by
  subst hq; exact Go.by (fun _ => XS.isub hA hx rfl hd rfl) k
theorem g_imul (hA : At T m c below) (hx : p.tables.exec = Jvm.exec) {x y : Int32} (hd : decode c.code pc = .ok (.imul, 1)) (hq : pc + 1 = q) (k : Go p e below Φ (T.setTop (mkF m q L (.int (x * y) :: S)))) : Go p e below Φ (T.setTop (mkF m pc L (.int y :: .int x :: S))) := by
  subst hq; exact Go.by (fun _ => XS.imul hA hx rfl hd rfl) k
theorem g_iand (hA : At T m c below) (hx : p.tables.exec = Jvm.exec) {x y : Int32} (hd : decode c.code pc = .ok (.iand, 1)) (hq : pc + 1 = q) (k : Go p e below Φ (T.setTop (mkF m q L (.int (x &&& y) :: S)))) : Go p e below Φ (T.setTop (mkF m pc L (.int y :: .int x :: S))) := by
  subst hq; exact Go.by (fun _ => XS.iand hA hx rfl hd rfl) k
theorem g_ior (hA : At T m c below) (hx : p.tables.exec = Jvm.exec) {x y : Int32} (hd : decode c.code pc = .ok (.ior, 1)) (hq : pc + 1 = q) (k : Go p e below Φ (T.setTop (mkF m q L (.int (x ||| y) :: S)))) : Go p e below Φ (T.setTop (mkF m pc L (.int y :: .int x :: S))) := by
  subst hq; exact Go.by (fun _ => XS.ior hA hx rfl hd rfl) k
theorem g_ixor (hA : At T m c below) (hx : p.tables.exec = Jvm.exec) {x y : Int32} (hd : decode c.code pc = .ok (.ixor, 1)) (hq : pc + 1 = q) (k : Go p e below Φ (T.setTop (mkF m q L (.int (x ^^^ y) :: S)))) : Go p e below Φ (T.setTop (mkF m pc L (.int y :: .int x :: S))) := by
  subst hq; exact Go.by (fun _ => XS.ixor hA hx rfl hd rfl) k
theorem g_ishl (hA : At T m c below) (hx : p.tables.exec = Jvm.exec) {x y : Int32} (hd : decode c.code pc = .ok (.ishl, 1)) (hq : pc + 1 = q) (k : Go p e below Φ (T.setTop (mkF m q L (.int (x <<< (y &&& 31)) :: S)))) : Go p e below Φ (T.setTop (mkF m pc L (.int y :: .int x :: S))) := by
  subst hq; exact Go.by (fun _ => XS.ishl hA hx rfl hd rfl) k
theorem g_ishr (hA : At T m c below) (hx : p.tables.exec = Jvm.exec) {x y : Int32} (hd : decode c.code pc = .ok (.ishr, 1)) (hq : pc + 1 = q) (k : Go p e below Φ (T.setTop (mkF m q L (.int (x >>> (y &&& 31)) :: S)))) : Go p e below Φ (T.setTop (mkF m pc L (.int y :: .int x :: S))) := by
  subst hq; exact Go.by (fun _ => XS.ishr hA hx rfl hd rfl) k
theorem g_iushr (hA : At T m c below) (hx : p.tables.exec = Jvm.exec) {x y : Int32} (hd : decode c.code pc = .ok (.iushr, 1)) (hq : pc + 1 = q) (k : Go p e below Φ (T.setTop (mkF m q L (.int ((x.toUInt32 >>> (y &&& 31).toUInt32).toInt32) :: S)))) : Go p e below Φ (T.setTop (mkF m pc L (.int y :: .int x :: S))) := by
  subst hq; exact Go.by (fun _ => XS.iushr hA hx rfl hd rfl) k
theorem g_ladd (hA : At T m c below) (hx : p.tables.exec = Jvm.exec) {x y : Int64} (hd : decode c.code pc = .ok (.ladd, 1)) (hq : pc + 1 = q) (k : Go p e below Φ (T.setTop (mkF m q L (.long (x + y) :: S)))) : Go p e below Φ (T.setTop (mkF m pc L (.long y :: .long x :: S))) := by
  subst hq; exact Go.by (fun _ => XS.ladd hA hx rfl hd rfl) k
theorem g_lsub (hA : At T m c below) (hx : p.tables.exec = Jvm.exec) {x y : Int64} (hd : decode c.code pc = .ok (.lsub, 1)) (hq : pc + 1 = q) (k : Go p e below Φ (T.setTop (mkF m q L (.long (x - y) :: S)))) : Go p e below Φ (T.setTop (mkF m pc L (.long y :: .long x :: S))) := by
  subst hq; exact Go.by (fun _ => XS.lsub hA hx rfl hd rfl) k
theorem g_lmul (hA : At T m c below) (hx : p.tables.exec = Jvm.exec) {x y : Int64} (hd : decode c.code pc = .ok (.lmul, 1)) (hq : pc + 1 = q) (k : Go p e below Φ (T.setTop (mkF m q L (.long (x * y) :: S)))) : Go p e below Φ (T.setTop (mkF m pc L (.long y :: .long x :: S))) := by
  subst hq; exact Go.by (fun _ => XS.lmul hA hx rfl hd rfl) k
theorem g_land (hA : At T m c below) (hx : p.tables.exec = Jvm.exec) {x y : Int64} (hd : decode c.code pc = .ok (.land, 1)) (hq : pc + 1 = q) (k : Go p e below Φ (T.setTop (mkF m q L (.long (x &&& y) :: S)))) : Go p e below Φ (T.setTop (mkF m pc L (.long y :: .long x :: S))) := by
  subst hq; exact Go.by (fun _ => XS.land hA hx rfl hd rfl) k
theorem g_lor (hA : At T m c below) (hx : p.tables.exec = Jvm.exec) {x y : Int64} (hd : decode c.code pc = .ok (.lor, 1)) (hq : pc + 1 = q) (k : Go p e below Φ (T.setTop (mkF m q L (.long (x ||| y) :: S)))) : Go p e below Φ (T.setTop (mkF m pc L (.long y :: .long x :: S))) := by
  subst hq; exact Go.by (fun _ => XS.lor hA hx rfl hd rfl) k
theorem g_lxor (hA : At T m c below) (hx : p.tables.exec = Jvm.exec) {x y : Int64} (hd : decode c.code pc = .ok (.lxor, 1)) (hq : pc + 1 = q) (k : Go p e below Φ (T.setTop (mkF m q L (.long (x ^^^ y) :: S)))) : Go p e below Φ (T.setTop (mkF m pc L (.long y :: .long x :: S))) := by
  subst hq; exact Go.by (fun _ => XS.lxor hA hx rfl hd rfl) k
theorem g_lshl (hA : At T m c below) (hx : p.tables.exec = Jvm.exec) {x : Int64} {y : Int32} (hd : decode c.code pc = .ok (.lshl, 1)) (hq : pc + 1 = q) (k : Go p e below Φ (T.setTop (mkF m q L (.long (x <<< (y &&& 0x3f).toInt64) :: S)))) : Go p e below Φ (T.setTop (mkF m pc L (.int y :: .long x :: S))) := by
  subst hq; exact Go.by (fun _ => XS.lshl hA hx rfl hd rfl) k
theorem g_lshr (hA : At T m c below) (hx : p.tables.exec = Jvm.exec) {x : Int64} {y : Int32} (hd : decode c.code pc = .ok (.lshr, 1)) (hq : pc + 1 = q) (k : Go p e below Φ (T.setTop (mkF m q L (.long (x >>> (y &&& 0x3f).toInt64) :: S)))) : Go p e below Φ (T.setTop (mkF m pc L (.int y :: .long x :: S))) := by
  subst hq; exact Go.by (fun _ => XS.lshr hA hx rfl hd rfl) k
theorem g_lushr (hA : At T m c below) (hx : p.tables.exec = Jvm.exec) {x : Int64} {y : Int32} (hd : decode c.code pc = .ok (.lushr, 1)) (hq : pc + 1 = q) (k : Go p e below Φ (T.setTop (mkF m q L (.long ((x.toUInt64 >>> (y &&& 0x3f).toInt64.toUInt64).toInt64) :: S)))) : Go p e below Φ (T.setTop (mkF m pc L (.int y :: .long x :: S))) := by
  subst hq; exact Go.by (fun _ => XS.lushr hA hx rfl hd rfl) k
theorem g_idiv (hA : At T m c below) (hx : p.tables.exec = Jvm.exec) {x y : Int32} (hd : decode c.code pc = .ok (.idiv, 1)) (hy : y ≠ 0) (hq : pc + 1 = q) (k : Go p e below Φ (T.setTop (mkF m q L (.int (x / y) :: S)))) : Go p e below Φ (T.setTop (mkF m pc L (.int y :: .int x :: S))) := by
  subst hq; exact Go.by (fun _ => XS.idiv hA hx rfl hd rfl hy) k
theorem g_irem (hA : At T m c below) (hx : p.tables.exec = Jvm.exec) {x y : Int32} (hd : decode c.code pc = .ok (.irem, 1)) (hy : y ≠ 0) (hq : pc + 1 = q) (k : Go p e below Φ (T.setTop (mkF m q L (.int (x % y) :: S)))) : Go p e below Φ (T.setTop (mkF m pc L (.int y :: .int x :: S))) := by
  subst hq; exact Go.by (fun _ => fun r => XS.irem hA hx rfl hd rfl hy (by rw [irem_eq_mod x y]; exact r)) k
theorem g_ldiv (hA : At T m c below) (hx : p.tables.exec = Jvm.exec) {x y : Int64} (hd : decode c.code pc = .ok (.ldiv, 1)) (hy : y ≠ 0) (hq : pc + 1 = q) (k : Go p e below Φ (T.setTop (mkF m q L (.long (x / y) :: S)))) : Go p e below Φ (T.setTop (mkF m pc L (.long y :: .long x :: S))) := by
  subst hq; exact Go.by (fun _ => XS.ldiv hA hx rfl hd rfl hy) k
theorem g_lrem (hA : At T m c below) (hx : p.tables.exec = Jvm.exec) {x y : Int64} (hd : decode c.code pc = .ok (.lrem, 1)) (hy : y ≠ 0) (hq : pc + 1 = q) (k : Go p e below Φ (T.setTop (mkF m q L (.long (x % y) :: S)))) : Go p e below Φ (T.setTop (mkF m pc L (.long y :: .long x :: S))) := by
  subst hq; exact Go.by (fun _ => fun r => XS.lrem hA hx rfl hd rfl hy (by rw [lrem_mod x y]; exact r)) k
theorem g_ineg (hA : At T m c below) (hx : p.tables.exec = Jvm.exec) {x : Int32} (hd : decode c.code pc = .ok (.ineg, 1)) (hq : pc + 1 = q) (k : Go p e below Φ (T.setTop (mkF m q L (.int (-x) :: S)))) : Go p e below Φ (T.setTop (mkF m pc L (.int x :: S))) := by
  subst hq; exact Go.by (fun _ => XS.ineg hA hx rfl hd rfl) k
theorem g_i2l (hA : At T m c below) (hx : p.tables.exec = Jvm.exec) {x : Int32} (hd : decode c.code pc = .ok (.i2l, 1)) (hq : pc + 1 = q) (k : Go p e below Φ (T.setTop (mkF m q L (.long x.toInt64 :: S)))) : Go p e below Φ (T.setTop (mkF m pc L (.int x :: S))) := by
  subst hq; exact Go.by (fun _ => XS.i2l hA hx rfl hd rfl) k
theorem g_l2i (hA : At T m c below) (hx : p.tables.exec = Jvm.exec) {x : Int64} (hd : decode c.code pc = .ok (.l2i, 1)) (hq : pc + 1 = q) (k : Go p e below Φ (T.setTop (mkF m q L (.int x.toInt32 :: S)))) : Go p e below Φ (T.setTop (mkF m pc L (.long x :: S))) := by
  subst hq; exact Go.by (fun _ => XS.l2i hA hx rfl hd rfl) k
theorem g_i2c (hA : At T m c below) (hx : p.tables.exec = Jvm.exec) {x : Int32} (hd : decode c.code pc = .ok (.i2c, 1)) (hq : pc + 1 = q) (k : Go p e below Φ (T.setTop (mkF m q L (.int x.toUInt32.toUInt16.toUInt32.toInt32 :: S)))) : Go p e below Φ (T.setTop (mkF m pc L (.int x :: S))) := by
  subst hq; exact Go.by (fun _ => XS.i2c hA hx rfl hd rfl) k
theorem g_lcmp (hA : At T m c below) (hx : p.tables.exec = Jvm.exec) {x y : Int64} (hd : decode c.code pc = .ok (.lcmp, 1)) (hq : pc + 1 = q) (k : Go p e below Φ (T.setTop (mkF m q L (.int (lcmpW x y) :: S)))) : Go p e below Φ (T.setTop (mkF m pc L (.long y :: .long x :: S))) := by
  subst hq; exact Go.by (fun _ => XS.lcmp hA hx rfl hd rfl) k
theorem g_iinc (hA : At T m c below) (hx : p.tables.exec = Jvm.exec) {j : Nat} {i : Int} {x v : Int32} {L' : Array Slot} (hd : decode c.code pc = .ok (.iinc j i, 3)) (hl : L[j]? = some (.val (.int x))) (hv : x + Int32.ofInt i = v) (hl' : storeLocals L j (.int v) = some L') (hq : pc + 3 = q) (k : Go p e below Φ (T.setTop (mkF m q L' S))) : Go p e below Φ (T.setTop (mkF m pc L S)) := by
  subst hq; exact Go.by (fun _ => XS.iinc hA hx rfl hd hl (by rw [hv]; exact hl')) k
theorem g_dup (hA : At T m c below) (hx : p.tables.exec = Jvm.exec) {v : Value} (hd : decode c.code pc = .ok (.dup, 1)) (hv : v.category = 1) (hq : pc + 1 = q) (k : Go p e below Φ (T.setTop (mkF m q L (v :: v :: S)))) : Go p e below Φ (T.setTop (mkF m pc L (v :: S))) := by
  subst hq; exact Go.by (fun _ => XS.dup hA hx rfl hd rfl hv) k
theorem g_pop (hA : At T m c below) (hx : p.tables.exec = Jvm.exec) {v : Value} (hd : decode c.code pc = .ok (.pop, 1)) (hv : v.category = 1) (hq : pc + 1 = q) (k : Go p e below Φ (T.setTop (mkF m q L S))) : Go p e below Φ (T.setTop (mkF m pc L (v :: S))) := by
  subst hq; exact Go.by (fun _ => XS.pop hA hx rfl hd rfl hv) k
theorem g_dupX1 (hA : At T m c below) (hx : p.tables.exec = Jvm.exec) {v w : Value} (hd : decode c.code pc = .ok (.dup_x1, 1)) (hv : v.category = 1) (hw' : w.category = 1) (hq : pc + 1 = q) (k : Go p e below Φ (T.setTop (mkF m q L (v :: w :: v :: S)))) : Go p e below Φ (T.setTop (mkF m pc L (v :: w :: S))) := by
  subst hq; exact Go.by (fun _ => XS.dupX1 hA hx rfl hd rfl hv hw') k
theorem g_dup2 (hA : At T m c below) (hx : p.tables.exec = Jvm.exec) {v w : Value} (hd : decode c.code pc = .ok (.dup2, 1)) (hv : v.category = 1) (hw' : w.category = 1) (hq : pc + 1 = q) (k : Go p e below Φ (T.setTop (mkF m q L (v :: w :: v :: w :: S)))) : Go p e below Φ (T.setTop (mkF m pc L (v :: w :: S))) := by
  subst hq; exact Go.by (fun _ => Jvm.Free.XT.dup2 hA hx rfl hd rfl hv hw') k
theorem g_goto (hA : At T m c below) (hx : p.tables.exec = Jvm.exec) {o : Int} (hd : decode c.code pc = .ok (.goto o, 3)) (ho : 0 ≤ (pc : Int) + o) (hq : ((pc : Int) + o).toNat = q) (k : Go p e below Φ (T.setTop (mkF m q L S))) : Go p e below Φ (T.setTop (mkF m pc L S)) := Go.by (fun _ => XS.goto hA hx rfl rfl hd ho hq) k
theorem g_icmp (hA : At T m c below) (hx : p.tables.exec = Jvm.exec) {cd : ClassFile.Cond} {o : Int} {q0 : Nat} {x y : Int32} (hd : decode c.code pc = .ok (.if_icmp cd o, 3)) (ho : 0 ≤ (pc : Int) + o) (hq : ((pc : Int) + o).toNat = q) (hq0 : pc + 3 = q0) (k1 : if_icmp.holds cd x y = true → Go p e below Φ (T.setTop (mkF m q L S))) (k0 : if_icmp.holds cd x y = false → Go p e below Φ (T.setTop (mkF m q0 L S))) : Go p e below Φ (T.setTop (mkF m pc L (.int y :: .int x :: S))) := by
  subst hq0
  cases hb : if_icmp.holds cd x y
  · exact Go.by (fun _ => XS.icmpNo hA hx rfl hd rfl hb) (k0 hb)
  · exact Go.by (fun _ => XS.icmpYes hA hx rfl rfl hd rfl hb ho hq) (k1 hb)
theorem g_if0 (hA : At T m c below) (hx : p.tables.exec = Jvm.exec) {cd : ClassFile.Cond} {o : Int} {q0 : Nat} {x : Int32} (hd : decode c.code pc = .ok (.ifCond cd o, 3)) (ho : 0 ≤ (pc : Int) + o) (hq : ((pc : Int) + o).toNat = q) (hq0 : pc + 3 = q0) (k1 : if_icmp.holds cd x 0 = true → Go p e below Φ (T.setTop (mkF m q L S))) (k0 : if_icmp.holds cd x 0 = false → Go p e below Φ (T.setTop (mkF m q0 L S))) : Go p e below Φ (T.setTop (mkF m pc L (.int x :: S))) := by
  subst hq0
  cases hb : if_icmp.holds cd x 0
  · exact Go.by (fun _ => XS.ifNo hA hx rfl hd rfl ((if0 _ _).trans hb)) (k0 hb)
  · exact Go.by (fun _ => XS.ifYes hA hx rfl rfl hd rfl ((if0 _ _).trans hb) ho hq) (k1 hb)
theorem rel_eq {x y : Int32} : (if_icmp.holds .eq x y = true → x.toInt = y.toInt) ∧ (if_icmp.holds .eq x y = false → x.toInt ≠ y.toInt) := by
  constructor <;> intro h <;> simp [if_icmp.holds, Int32.lt_iff_toInt_lt, Int32.le_iff_toInt_le, ← Int32.toInt_inj] at h <;> omega
theorem g_icmp_eq (hA : At T m c below) (hx : p.tables.exec = Jvm.exec) {o : Int} {q0 : Nat} {x y : Int32} (hd : decode c.code pc = .ok (.if_icmp .eq o, 3)) (ho : 0 ≤ (pc : Int) + o) (hq : ((pc : Int) + o).toNat = q) (hq0 : pc + 3 = q0) (k1 : x.toInt = y.toInt → Go p e below Φ (T.setTop (mkF m q L S))) (k0 : x.toInt ≠ y.toInt → Go p e below Φ (T.setTop (mkF m q0 L S))) : Go p e below Φ (T.setTop (mkF m pc L (.int y :: .int x :: S))) := g_icmp hA hx hd ho hq hq0 (fun h => k1 (rel_eq.1 h)) (fun h => k0 (rel_eq.2 h))
theorem g_if_eq (hA : At T m c below) (hx : p.tables.exec = Jvm.exec) {o : Int} {q0 : Nat} {x : Int32} (hd : decode c.code pc = .ok (.ifCond .eq o, 3)) (ho : 0 ≤ (pc : Int) + o) (hq : ((pc : Int) + o).toNat = q) (hq0 : pc + 3 = q0) (k1 : x.toInt = 0 → Go p e below Φ (T.setTop (mkF m q L S))) (k0 : x.toInt ≠ 0 → Go p e below Φ (T.setTop (mkF m q0 L S))) : Go p e below Φ (T.setTop (mkF m pc L (.int x :: S))) := g_if0 hA hx hd ho hq hq0 (fun h => k1 (rel_eq.1 h)) (fun h => k0 (rel_eq.2 h))
theorem rell_eq {x y : Int64} : (if_icmp.holds .eq (lcmpW x y) 0 = true → x.toInt = y.toInt) ∧ (if_icmp.holds .eq (lcmpW x y) 0 = false → x.toInt ≠ y.toInt) := by
  have q := c_lcmp x y
  constructor <;> intro h
  · have h' := (rel_eq (x := lcmpW x y) (y := 0)).1 h; rw [show (0 : Int32).toInt = 0 from rfl] at h'; generalize lcmpW x y = w at *; omega
  · have h' := (rel_eq (x := lcmpW x y) (y := 0)).2 h; rw [show (0 : Int32).toInt = 0 from rfl] at h'; generalize lcmpW x y = w at *; omega
theorem g_lcmp_eq (hA : At T m c below) (hx : p.tables.exec = Jvm.exec) {o : Int} {q1 q0 : Nat} {x y : Int64} (hd : decode c.code pc = .ok (.lcmp, 1)) (hq1 : pc + 1 = q1) (hd' : decode c.code q1 = .ok (.ifCond .eq o, 3)) (ho : 0 ≤ (q1 : Int) + o) (hq : ((q1 : Int) + o).toNat = q) (hq0 : q1 + 3 = q0) (k1 : x.toInt = y.toInt → Go p e below Φ (T.setTop (mkF m q L S))) (k0 : x.toInt ≠ y.toInt → Go p e below Φ (T.setTop (mkF m q0 L S))) : Go p e below Φ (T.setTop (mkF m pc L (.long y :: .long x :: S))) := g_lcmp hA hx hd hq1 (g_if0 hA hx hd' ho hq hq0 (fun h => k1 (rell_eq.1 h)) (fun h => k0 (rell_eq.2 h)))
theorem rel_ne {x y : Int32} : (if_icmp.holds .ne x y = true → x.toInt ≠ y.toInt) ∧ (if_icmp.holds .ne x y = false → x.toInt = y.toInt) := by
  constructor <;> intro h <;> simp [if_icmp.holds, Int32.lt_iff_toInt_lt, Int32.le_iff_toInt_le, ← Int32.toInt_inj] at h <;> omega
theorem g_icmp_ne (hA : At T m c below) (hx : p.tables.exec = Jvm.exec) {o : Int} {q0 : Nat} {x y : Int32} (hd : decode c.code pc = .ok (.if_icmp .ne o, 3)) (ho : 0 ≤ (pc : Int) + o) (hq : ((pc : Int) + o).toNat = q) (hq0 : pc + 3 = q0) (k1 : x.toInt ≠ y.toInt → Go p e below Φ (T.setTop (mkF m q L S))) (k0 : x.toInt = y.toInt → Go p e below Φ (T.setTop (mkF m q0 L S))) : Go p e below Φ (T.setTop (mkF m pc L (.int y :: .int x :: S))) := g_icmp hA hx hd ho hq hq0 (fun h => k1 (rel_ne.1 h)) (fun h => k0 (rel_ne.2 h))
theorem g_if_ne (hA : At T m c below) (hx : p.tables.exec = Jvm.exec) {o : Int} {q0 : Nat} {x : Int32} (hd : decode c.code pc = .ok (.ifCond .ne o, 3)) (ho : 0 ≤ (pc : Int) + o) (hq : ((pc : Int) + o).toNat = q) (hq0 : pc + 3 = q0) (k1 : x.toInt ≠ 0 → Go p e below Φ (T.setTop (mkF m q L S))) (k0 : x.toInt = 0 → Go p e below Φ (T.setTop (mkF m q0 L S))) : Go p e below Φ (T.setTop (mkF m pc L (.int x :: S))) := g_if0 hA hx hd ho hq hq0 (fun h => k1 (rel_ne.1 h)) (fun h => k0 (rel_ne.2 h))
theorem rell_ne {x y : Int64} : (if_icmp.holds .ne (lcmpW x y) 0 = true → x.toInt ≠ y.toInt) ∧ (if_icmp.holds .ne (lcmpW x y) 0 = false → x.toInt = y.toInt) := by
  have q := c_lcmp x y
  constructor <;> intro h
  · have h' := (rel_ne (x := lcmpW x y) (y := 0)).1 h; rw [show (0 : Int32).toInt = 0 from rfl] at h'; generalize lcmpW x y = w at *; omega
  · have h' := (rel_ne (x := lcmpW x y) (y := 0)).2 h; rw [show (0 : Int32).toInt = 0 from rfl] at h'; generalize lcmpW x y = w at *; omega
theorem g_lcmp_ne (hA : At T m c below) (hx : p.tables.exec = Jvm.exec) {o : Int} {q1 q0 : Nat} {x y : Int64} (hd : decode c.code pc = .ok (.lcmp, 1)) (hq1 : pc + 1 = q1) (hd' : decode c.code q1 = .ok (.ifCond .ne o, 3)) (ho : 0 ≤ (q1 : Int) + o) (hq : ((q1 : Int) + o).toNat = q) (hq0 : q1 + 3 = q0) (k1 : x.toInt ≠ y.toInt → Go p e below Φ (T.setTop (mkF m q L S))) (k0 : x.toInt = y.toInt → Go p e below Φ (T.setTop (mkF m q0 L S))) : Go p e below Φ (T.setTop (mkF m pc L (.long y :: .long x :: S))) := g_lcmp hA hx hd hq1 (g_if0 hA hx hd' ho hq hq0 (fun h => k1 (rell_ne.1 h)) (fun h => k0 (rell_ne.2 h)))
theorem rel_lt {x y : Int32} : (if_icmp.holds .lt x y = true → x.toInt < y.toInt) ∧ (if_icmp.holds .lt x y = false → y.toInt ≤ x.toInt) := by
  constructor <;> intro h <;> simp [if_icmp.holds, Int32.lt_iff_toInt_lt, Int32.le_iff_toInt_le, ← Int32.toInt_inj] at h <;> omega
theorem g_icmp_lt (hA : At T m c below) (hx : p.tables.exec = Jvm.exec) {o : Int} {q0 : Nat} {x y : Int32} (hd : decode c.code pc = .ok (.if_icmp .lt o, 3)) (ho : 0 ≤ (pc : Int) + o) (hq : ((pc : Int) + o).toNat = q) (hq0 : pc + 3 = q0) (k1 : x.toInt < y.toInt → Go p e below Φ (T.setTop (mkF m q L S))) (k0 : y.toInt ≤ x.toInt → Go p e below Φ (T.setTop (mkF m q0 L S))) : Go p e below Φ (T.setTop (mkF m pc L (.int y :: .int x :: S))) := g_icmp hA hx hd ho hq hq0 (fun h => k1 (rel_lt.1 h)) (fun h => k0 (rel_lt.2 h))
theorem g_if_lt (hA : At T m c below) (hx : p.tables.exec = Jvm.exec) {o : Int} {q0 : Nat} {x : Int32} (hd : decode c.code pc = .ok (.ifCond .lt o, 3)) (ho : 0 ≤ (pc : Int) + o) (hq : ((pc : Int) + o).toNat = q) (hq0 : pc + 3 = q0) (k1 : x.toInt < 0 → Go p e below Φ (T.setTop (mkF m q L S))) (k0 : 0 ≤ x.toInt → Go p e below Φ (T.setTop (mkF m q0 L S))) : Go p e below Φ (T.setTop (mkF m pc L (.int x :: S))) := g_if0 hA hx hd ho hq hq0 (fun h => k1 (rel_lt.1 h)) (fun h => k0 (rel_lt.2 h))
theorem rell_lt {x y : Int64} : (if_icmp.holds .lt (lcmpW x y) 0 = true → x.toInt < y.toInt) ∧ (if_icmp.holds .lt (lcmpW x y) 0 = false → y.toInt ≤ x.toInt) := by
  have q := c_lcmp x y
  constructor <;> intro h
  · have h' := (rel_lt (x := lcmpW x y) (y := 0)).1 h; rw [show (0 : Int32).toInt = 0 from rfl] at h'; generalize lcmpW x y = w at *; omega
  · have h' := (rel_lt (x := lcmpW x y) (y := 0)).2 h; rw [show (0 : Int32).toInt = 0 from rfl] at h'; generalize lcmpW x y = w at *; omega
theorem g_lcmp_lt (hA : At T m c below) (hx : p.tables.exec = Jvm.exec) {o : Int} {q1 q0 : Nat} {x y : Int64} (hd : decode c.code pc = .ok (.lcmp, 1)) (hq1 : pc + 1 = q1) (hd' : decode c.code q1 = .ok (.ifCond .lt o, 3)) (ho : 0 ≤ (q1 : Int) + o) (hq : ((q1 : Int) + o).toNat = q) (hq0 : q1 + 3 = q0) (k1 : x.toInt < y.toInt → Go p e below Φ (T.setTop (mkF m q L S))) (k0 : y.toInt ≤ x.toInt → Go p e below Φ (T.setTop (mkF m q0 L S))) : Go p e below Φ (T.setTop (mkF m pc L (.long y :: .long x :: S))) := g_lcmp hA hx hd hq1 (g_if0 hA hx hd' ho hq hq0 (fun h => k1 (rell_lt.1 h)) (fun h => k0 (rell_lt.2 h)))
theorem rel_ge {x y : Int32} : (if_icmp.holds .ge x y = true → y.toInt ≤ x.toInt) ∧ (if_icmp.holds .ge x y = false → x.toInt < y.toInt) := by
  constructor <;> intro h <;> simp [if_icmp.holds, Int32.lt_iff_toInt_lt, Int32.le_iff_toInt_le, ← Int32.toInt_inj] at h <;> omega
theorem g_icmp_ge (hA : At T m c below) (hx : p.tables.exec = Jvm.exec) {o : Int} {q0 : Nat} {x y : Int32} (hd : decode c.code pc = .ok (.if_icmp .ge o, 3)) (ho : 0 ≤ (pc : Int) + o) (hq : ((pc : Int) + o).toNat = q) (hq0 : pc + 3 = q0) (k1 : y.toInt ≤ x.toInt → Go p e below Φ (T.setTop (mkF m q L S))) (k0 : x.toInt < y.toInt → Go p e below Φ (T.setTop (mkF m q0 L S))) : Go p e below Φ (T.setTop (mkF m pc L (.int y :: .int x :: S))) := g_icmp hA hx hd ho hq hq0 (fun h => k1 (rel_ge.1 h)) (fun h => k0 (rel_ge.2 h))
theorem g_if_ge (hA : At T m c below) (hx : p.tables.exec = Jvm.exec) {o : Int} {q0 : Nat} {x : Int32} (hd : decode c.code pc = .ok (.ifCond .ge o, 3)) (ho : 0 ≤ (pc : Int) + o) (hq : ((pc : Int) + o).toNat = q) (hq0 : pc + 3 = q0) (k1 : 0 ≤ x.toInt → Go p e below Φ (T.setTop (mkF m q L S))) (k0 : x.toInt < 0 → Go p e below Φ (T.setTop (mkF m q0 L S))) : Go p e below Φ (T.setTop (mkF m pc L (.int x :: S))) := g_if0 hA hx hd ho hq hq0 (fun h => k1 (rel_ge.1 h)) (fun h => k0 (rel_ge.2 h))
theorem rell_ge {x y : Int64} : (if_icmp.holds .ge (lcmpW x y) 0 = true → y.toInt ≤ x.toInt) ∧ (if_icmp.holds .ge (lcmpW x y) 0 = false → x.toInt < y.toInt) := by
  have q := c_lcmp x y
  constructor <;> intro h
  · have h' := (rel_ge (x := lcmpW x y) (y := 0)).1 h; rw [show (0 : Int32).toInt = 0 from rfl] at h'; generalize lcmpW x y = w at *; omega
  · have h' := (rel_ge (x := lcmpW x y) (y := 0)).2 h; rw [show (0 : Int32).toInt = 0 from rfl] at h'; generalize lcmpW x y = w at *; omega
theorem g_lcmp_ge (hA : At T m c below) (hx : p.tables.exec = Jvm.exec) {o : Int} {q1 q0 : Nat} {x y : Int64} (hd : decode c.code pc = .ok (.lcmp, 1)) (hq1 : pc + 1 = q1) (hd' : decode c.code q1 = .ok (.ifCond .ge o, 3)) (ho : 0 ≤ (q1 : Int) + o) (hq : ((q1 : Int) + o).toNat = q) (hq0 : q1 + 3 = q0) (k1 : y.toInt ≤ x.toInt → Go p e below Φ (T.setTop (mkF m q L S))) (k0 : x.toInt < y.toInt → Go p e below Φ (T.setTop (mkF m q0 L S))) : Go p e below Φ (T.setTop (mkF m pc L (.long y :: .long x :: S))) := g_lcmp hA hx hd hq1 (g_if0 hA hx hd' ho hq hq0 (fun h => k1 (rell_ge.1 h)) (fun h => k0 (rell_ge.2 h)))
theorem rel_gt {x y : Int32} : (if_icmp.holds .gt x y = true → y.toInt < x.toInt) ∧ (if_icmp.holds .gt x y = false → x.toInt ≤ y.toInt) := by
  constructor <;> intro h <;> simp [if_icmp.holds, Int32.lt_iff_toInt_lt, Int32.le_iff_toInt_le, ← Int32.toInt_inj] at h <;> omega
theorem g_icmp_gt (hA : At T m c below) (hx : p.tables.exec = Jvm.exec) {o : Int} {q0 : Nat} {x y : Int32} (hd : decode c.code pc = .ok (.if_icmp .gt o, 3)) (ho : 0 ≤ (pc : Int) + o) (hq : ((pc : Int) + o).toNat = q) (hq0 : pc + 3 = q0) (k1 : y.toInt < x.toInt → Go p e below Φ (T.setTop (mkF m q L S))) (k0 : x.toInt ≤ y.toInt → Go p e below Φ (T.setTop (mkF m q0 L S))) : Go p e below Φ (T.setTop (mkF m pc L (.int y :: .int x :: S))) := g_icmp hA hx hd ho hq hq0 (fun h => k1 (rel_gt.1 h)) (fun h => k0 (rel_gt.2 h))
theorem g_if_gt (hA : At T m c below) (hx : p.tables.exec = Jvm.exec) {o : Int} {q0 : Nat} {x : Int32} (hd : decode c.code pc = .ok (.ifCond .gt o, 3)) (ho : 0 ≤ (pc : Int) + o) (hq : ((pc : Int) + o).toNat = q) (hq0 : pc + 3 = q0) (k1 : 0 < x.toInt → Go p e below Φ (T.setTop (mkF m q L S))) (k0 : x.toInt ≤ 0 → Go p e below Φ (T.setTop (mkF m q0 L S))) : Go p e below Φ (T.setTop (mkF m pc L (.int x :: S))) := g_if0 hA hx hd ho hq hq0 (fun h => k1 (rel_gt.1 h)) (fun h => k0 (rel_gt.2 h))
theorem rell_gt {x y : Int64} : (if_icmp.holds .gt (lcmpW x y) 0 = true → y.toInt < x.toInt) ∧ (if_icmp.holds .gt (lcmpW x y) 0 = false → x.toInt ≤ y.toInt) := by
  have q := c_lcmp x y
  constructor <;> intro h
  · have h' := (rel_gt (x := lcmpW x y) (y := 0)).1 h; rw [show (0 : Int32).toInt = 0 from rfl] at h'; generalize lcmpW x y = w at *; omega
  · have h' := (rel_gt (x := lcmpW x y) (y := 0)).2 h; rw [show (0 : Int32).toInt = 0 from rfl] at h'; generalize lcmpW x y = w at *; omega
theorem g_lcmp_gt (hA : At T m c below) (hx : p.tables.exec = Jvm.exec) {o : Int} {q1 q0 : Nat} {x y : Int64} (hd : decode c.code pc = .ok (.lcmp, 1)) (hq1 : pc + 1 = q1) (hd' : decode c.code q1 = .ok (.ifCond .gt o, 3)) (ho : 0 ≤ (q1 : Int) + o) (hq : ((q1 : Int) + o).toNat = q) (hq0 : q1 + 3 = q0) (k1 : y.toInt < x.toInt → Go p e below Φ (T.setTop (mkF m q L S))) (k0 : x.toInt ≤ y.toInt → Go p e below Φ (T.setTop (mkF m q0 L S))) : Go p e below Φ (T.setTop (mkF m pc L (.long y :: .long x :: S))) := g_lcmp hA hx hd hq1 (g_if0 hA hx hd' ho hq hq0 (fun h => k1 (rell_gt.1 h)) (fun h => k0 (rell_gt.2 h)))
theorem rel_le {x y : Int32} : (if_icmp.holds .le x y = true → x.toInt ≤ y.toInt) ∧ (if_icmp.holds .le x y = false → y.toInt < x.toInt) := by
  constructor <;> intro h <;> simp [if_icmp.holds, Int32.lt_iff_toInt_lt, Int32.le_iff_toInt_le, ← Int32.toInt_inj] at h <;> omega
theorem g_icmp_le (hA : At T m c below) (hx : p.tables.exec = Jvm.exec) {o : Int} {q0 : Nat} {x y : Int32} (hd : decode c.code pc = .ok (.if_icmp .le o, 3)) (ho : 0 ≤ (pc : Int) + o) (hq : ((pc : Int) + o).toNat = q) (hq0 : pc + 3 = q0) (k1 : x.toInt ≤ y.toInt → Go p e below Φ (T.setTop (mkF m q L S))) (k0 : y.toInt < x.toInt → Go p e below Φ (T.setTop (mkF m q0 L S))) : Go p e below Φ (T.setTop (mkF m pc L (.int y :: .int x :: S))) := g_icmp hA hx hd ho hq hq0 (fun h => k1 (rel_le.1 h)) (fun h => k0 (rel_le.2 h))
theorem g_if_le (hA : At T m c below) (hx : p.tables.exec = Jvm.exec) {o : Int} {q0 : Nat} {x : Int32} (hd : decode c.code pc = .ok (.ifCond .le o, 3)) (ho : 0 ≤ (pc : Int) + o) (hq : ((pc : Int) + o).toNat = q) (hq0 : pc + 3 = q0) (k1 : x.toInt ≤ 0 → Go p e below Φ (T.setTop (mkF m q L S))) (k0 : 0 < x.toInt → Go p e below Φ (T.setTop (mkF m q0 L S))) : Go p e below Φ (T.setTop (mkF m pc L (.int x :: S))) := g_if0 hA hx hd ho hq hq0 (fun h => k1 (rel_le.1 h)) (fun h => k0 (rel_le.2 h))
theorem rell_le {x y : Int64} : (if_icmp.holds .le (lcmpW x y) 0 = true → x.toInt ≤ y.toInt) ∧ (if_icmp.holds .le (lcmpW x y) 0 = false → y.toInt < x.toInt) := by
  have q := c_lcmp x y
  constructor <;> intro h
  · have h' := (rel_le (x := lcmpW x y) (y := 0)).1 h; rw [show (0 : Int32).toInt = 0 from rfl] at h'; generalize lcmpW x y = w at *; omega
  · have h' := (rel_le (x := lcmpW x y) (y := 0)).2 h; rw [show (0 : Int32).toInt = 0 from rfl] at h'; generalize lcmpW x y = w at *; omega
theorem g_lcmp_le (hA : At T m c below) (hx : p.tables.exec = Jvm.exec) {o : Int} {q1 q0 : Nat} {x y : Int64} (hd : decode c.code pc = .ok (.lcmp, 1)) (hq1 : pc + 1 = q1) (hd' : decode c.code q1 = .ok (.ifCond .le o, 3)) (ho : 0 ≤ (q1 : Int) + o) (hq : ((q1 : Int) + o).toNat = q) (hq0 : q1 + 3 = q0) (k1 : x.toInt ≤ y.toInt → Go p e below Φ (T.setTop (mkF m q L S))) (k0 : y.toInt < x.toInt → Go p e below Φ (T.setTop (mkF m q0 L S))) : Go p e below Φ (T.setTop (mkF m pc L (.long y :: .long x :: S))) := g_lcmp hA hx hd hq1 (g_if0 hA hx hd' ho hq hq0 (fun h => k1 (rell_le.1 h)) (fun h => k0 (rell_le.2 h)))
theorem g_ifB_ne (hA : At T m c below) (hx : p.tables.exec = Jvm.exec) {o : Int} {q0 : Nat} {b : Bool} (hd : decode c.code pc = .ok (.ifCond .ne o, 3)) (ho : 0 ≤ (pc : Int) + o) (hq : ((pc : Int) + o).toNat = q) (hq0 : pc + 3 = q0) (k1 : b = true → Go p e below Φ (T.setTop (mkF m q L S))) (k0 : b = false → Go p e below Φ (T.setTop (mkF m q0 L S))) : Go p e below Φ (T.setTop (mkF m pc L (.int (b2i b) :: S))) := g_if0 hA hx hd ho hq hq0 (fun h => k1 (by cases b <;> first | rfl | exact Bool.noConfusion h)) (fun h => k0 (by cases b <;> first | rfl | exact Bool.noConfusion h))
theorem g_ifB_eq (hA : At T m c below) (hx : p.tables.exec = Jvm.exec) {o : Int} {q0 : Nat} {b : Bool} (hd : decode c.code pc = .ok (.ifCond .eq o, 3)) (ho : 0 ≤ (pc : Int) + o) (hq : ((pc : Int) + o).toNat = q) (hq0 : pc + 3 = q0) (k1 : b = false → Go p e below Φ (T.setTop (mkF m q L S))) (k0 : b = true → Go p e below Φ (T.setTop (mkF m q0 L S))) : Go p e below Φ (T.setTop (mkF m pc L (.int (b2i b) :: S))) := g_if0 hA hx hd ho hq hq0 (fun h => k1 (by cases b <;> first | rfl | exact Bool.noConfusion h)) (fun h => k0 (by cases b <;> first | rfl | exact Bool.noConfusion h))
theorem g_sel_icmp_eq (hA : At T m c below) (hx : p.tables.exec = Jvm.exec) {o o' : Int} {z t t' : Nat} {x y : Int32} (hd : decode c.code pc = .ok (.if_icmp .eq o, 3)) (ho : 0 ≤ (pc : Int) + o) (hz' : ((pc : Int) + o).toNat = z) (ht0 : pc + 3 = t) (hz : decode c.code z = .ok (.iconst 0, 1)) (ht : decode c.code t = .ok (.iconst 1, 1)) (hg : decode c.code t' = .ok (.goto o', 3)) (ht' : t + 1 = t') (hog : 0 ≤ (t' : Int) + o') (hj : ((t' : Int) + o').toNat = q) (hj' : z + 1 = q) (k : Go p e below Φ (T.setTop (mkF m q L (.int (b2i (decide (x.toInt ≠ y.toInt))) :: S)))) : Go p e below Φ (T.setTop (mkF m pc L (.int y :: .int x :: S))) :=
  g_icmp_eq hA hx hd ho hz' ht0 (fun h => g_iconst hA hx hz rfl hj' (by rw [show decide (x.toInt ≠ y.toInt) = false from decide_eq_false (by omega)] at k; exact k)) (fun h => g_iconst hA hx ht rfl ht' (g_goto hA hx hg hog hj (by rw [show decide (x.toInt ≠ y.toInt) = true from decide_eq_true (by omega)] at k; exact k)))
theorem g_sel_icmp_ne (hA : At T m c below) (hx : p.tables.exec = Jvm.exec) {o o' : Int} {z t t' : Nat} {x y : Int32} (hd : decode c.code pc = .ok (.if_icmp .ne o, 3)) (ho : 0 ≤ (pc : Int) + o) (hz' : ((pc : Int) + o).toNat = z) (ht0 : pc + 3 = t) (hz : decode c.code z = .ok (.iconst 0, 1)) (ht : decode c.code t = .ok (.iconst 1, 1)) (hg : decode c.code t' = .ok (.goto o', 3)) (ht' : t + 1 = t') (hog : 0 ≤ (t' : Int) + o') (hj : ((t' : Int) + o').toNat = q) (hj' : z + 1 = q) (k : Go p e below Φ (T.setTop (mkF m q L (.int (b2i (decide (x.toInt = y.toInt))) :: S)))) : Go p e below Φ (T.setTop (mkF m pc L (.int y :: .int x :: S))) :=
  g_icmp_ne hA hx hd ho hz' ht0 (fun h => g_iconst hA hx hz rfl hj' (by rw [show decide (x.toInt = y.toInt) = false from decide_eq_false (by omega)] at k; exact k)) (fun h => g_iconst hA hx ht rfl ht' (g_goto hA hx hg hog hj (by rw [show decide (x.toInt = y.toInt) = true from decide_eq_true (by omega)] at k; exact k)))
theorem g_sel_icmp_lt (hA : At T m c below) (hx : p.tables.exec = Jvm.exec) {o o' : Int} {z t t' : Nat} {x y : Int32} (hd : decode c.code pc = .ok (.if_icmp .lt o, 3)) (ho : 0 ≤ (pc : Int) + o) (hz' : ((pc : Int) + o).toNat = z) (ht0 : pc + 3 = t) (hz : decode c.code z = .ok (.iconst 0, 1)) (ht : decode c.code t = .ok (.iconst 1, 1)) (hg : decode c.code t' = .ok (.goto o', 3)) (ht' : t + 1 = t') (hog : 0 ≤ (t' : Int) + o') (hj : ((t' : Int) + o').toNat = q) (hj' : z + 1 = q) (k : Go p e below Φ (T.setTop (mkF m q L (.int (b2i (decide (y.toInt ≤ x.toInt))) :: S)))) : Go p e below Φ (T.setTop (mkF m pc L (.int y :: .int x :: S))) :=
  g_icmp_lt hA hx hd ho hz' ht0 (fun h => g_iconst hA hx hz rfl hj' (by rw [show decide (y.toInt ≤ x.toInt) = false from decide_eq_false (by omega)] at k; exact k)) (fun h => g_iconst hA hx ht rfl ht' (g_goto hA hx hg hog hj (by rw [show decide (y.toInt ≤ x.toInt) = true from decide_eq_true (by omega)] at k; exact k)))
theorem g_sel_icmp_ge (hA : At T m c below) (hx : p.tables.exec = Jvm.exec) {o o' : Int} {z t t' : Nat} {x y : Int32} (hd : decode c.code pc = .ok (.if_icmp .ge o, 3)) (ho : 0 ≤ (pc : Int) + o) (hz' : ((pc : Int) + o).toNat = z) (ht0 : pc + 3 = t) (hz : decode c.code z = .ok (.iconst 0, 1)) (ht : decode c.code t = .ok (.iconst 1, 1)) (hg : decode c.code t' = .ok (.goto o', 3)) (ht' : t + 1 = t') (hog : 0 ≤ (t' : Int) + o') (hj : ((t' : Int) + o').toNat = q) (hj' : z + 1 = q) (k : Go p e below Φ (T.setTop (mkF m q L (.int (b2i (decide (x.toInt < y.toInt))) :: S)))) : Go p e below Φ (T.setTop (mkF m pc L (.int y :: .int x :: S))) :=
  g_icmp_ge hA hx hd ho hz' ht0 (fun h => g_iconst hA hx hz rfl hj' (by rw [show decide (x.toInt < y.toInt) = false from decide_eq_false (by omega)] at k; exact k)) (fun h => g_iconst hA hx ht rfl ht' (g_goto hA hx hg hog hj (by rw [show decide (x.toInt < y.toInt) = true from decide_eq_true (by omega)] at k; exact k)))
theorem g_sel_icmp_gt (hA : At T m c below) (hx : p.tables.exec = Jvm.exec) {o o' : Int} {z t t' : Nat} {x y : Int32} (hd : decode c.code pc = .ok (.if_icmp .gt o, 3)) (ho : 0 ≤ (pc : Int) + o) (hz' : ((pc : Int) + o).toNat = z) (ht0 : pc + 3 = t) (hz : decode c.code z = .ok (.iconst 0, 1)) (ht : decode c.code t = .ok (.iconst 1, 1)) (hg : decode c.code t' = .ok (.goto o', 3)) (ht' : t + 1 = t') (hog : 0 ≤ (t' : Int) + o') (hj : ((t' : Int) + o').toNat = q) (hj' : z + 1 = q) (k : Go p e below Φ (T.setTop (mkF m q L (.int (b2i (decide (x.toInt ≤ y.toInt))) :: S)))) : Go p e below Φ (T.setTop (mkF m pc L (.int y :: .int x :: S))) :=
  g_icmp_gt hA hx hd ho hz' ht0 (fun h => g_iconst hA hx hz rfl hj' (by rw [show decide (x.toInt ≤ y.toInt) = false from decide_eq_false (by omega)] at k; exact k)) (fun h => g_iconst hA hx ht rfl ht' (g_goto hA hx hg hog hj (by rw [show decide (x.toInt ≤ y.toInt) = true from decide_eq_true (by omega)] at k; exact k)))
theorem g_sel_icmp_le (hA : At T m c below) (hx : p.tables.exec = Jvm.exec) {o o' : Int} {z t t' : Nat} {x y : Int32} (hd : decode c.code pc = .ok (.if_icmp .le o, 3)) (ho : 0 ≤ (pc : Int) + o) (hz' : ((pc : Int) + o).toNat = z) (ht0 : pc + 3 = t) (hz : decode c.code z = .ok (.iconst 0, 1)) (ht : decode c.code t = .ok (.iconst 1, 1)) (hg : decode c.code t' = .ok (.goto o', 3)) (ht' : t + 1 = t') (hog : 0 ≤ (t' : Int) + o') (hj : ((t' : Int) + o').toNat = q) (hj' : z + 1 = q) (k : Go p e below Φ (T.setTop (mkF m q L (.int (b2i (decide (y.toInt < x.toInt))) :: S)))) : Go p e below Φ (T.setTop (mkF m pc L (.int y :: .int x :: S))) :=
  g_icmp_le hA hx hd ho hz' ht0 (fun h => g_iconst hA hx hz rfl hj' (by rw [show decide (y.toInt < x.toInt) = false from decide_eq_false (by omega)] at k; exact k)) (fun h => g_iconst hA hx ht rfl ht' (g_goto hA hx hg hog hj (by rw [show decide (y.toInt < x.toInt) = true from decide_eq_true (by omega)] at k; exact k)))
theorem g_sel_if_eq (hA : At T m c below) (hx : p.tables.exec = Jvm.exec) {o o' : Int} {z t t' : Nat} {x : Int32} (hd : decode c.code pc = .ok (.ifCond .eq o, 3)) (ho : 0 ≤ (pc : Int) + o) (hz' : ((pc : Int) + o).toNat = z) (ht0 : pc + 3 = t) (hz : decode c.code z = .ok (.iconst 0, 1)) (ht : decode c.code t = .ok (.iconst 1, 1)) (hg : decode c.code t' = .ok (.goto o', 3)) (ht' : t + 1 = t') (hog : 0 ≤ (t' : Int) + o') (hj : ((t' : Int) + o').toNat = q) (hj' : z + 1 = q) (k : Go p e below Φ (T.setTop (mkF m q L (.int (b2i (decide (x.toInt ≠ 0))) :: S)))) : Go p e below Φ (T.setTop (mkF m pc L (.int x :: S))) :=
  g_if_eq hA hx hd ho hz' ht0 (fun h => g_iconst hA hx hz rfl hj' (by rw [show decide (x.toInt ≠ 0) = false from decide_eq_false (by omega)] at k; exact k)) (fun h => g_iconst hA hx ht rfl ht' (g_goto hA hx hg hog hj (by rw [show decide (x.toInt ≠ 0) = true from decide_eq_true (by omega)] at k; exact k)))
theorem g_sel_if_ne (hA : At T m c below) (hx : p.tables.exec = Jvm.exec) {o o' : Int} {z t t' : Nat} {x : Int32} (hd : decode c.code pc = .ok (.ifCond .ne o, 3)) (ho : 0 ≤ (pc : Int) + o) (hz' : ((pc : Int) + o).toNat = z) (ht0 : pc + 3 = t) (hz : decode c.code z = .ok (.iconst 0, 1)) (ht : decode c.code t = .ok (.iconst 1, 1)) (hg : decode c.code t' = .ok (.goto o', 3)) (ht' : t + 1 = t') (hog : 0 ≤ (t' : Int) + o') (hj : ((t' : Int) + o').toNat = q) (hj' : z + 1 = q) (k : Go p e below Φ (T.setTop (mkF m q L (.int (b2i (decide (x.toInt = 0))) :: S)))) : Go p e below Φ (T.setTop (mkF m pc L (.int x :: S))) :=
  g_if_ne hA hx hd ho hz' ht0 (fun h => g_iconst hA hx hz rfl hj' (by rw [show decide (x.toInt = 0) = false from decide_eq_false (by omega)] at k; exact k)) (fun h => g_iconst hA hx ht rfl ht' (g_goto hA hx hg hog hj (by rw [show decide (x.toInt = 0) = true from decide_eq_true (by omega)] at k; exact k)))
theorem g_sel_if_lt (hA : At T m c below) (hx : p.tables.exec = Jvm.exec) {o o' : Int} {z t t' : Nat} {x : Int32} (hd : decode c.code pc = .ok (.ifCond .lt o, 3)) (ho : 0 ≤ (pc : Int) + o) (hz' : ((pc : Int) + o).toNat = z) (ht0 : pc + 3 = t) (hz : decode c.code z = .ok (.iconst 0, 1)) (ht : decode c.code t = .ok (.iconst 1, 1)) (hg : decode c.code t' = .ok (.goto o', 3)) (ht' : t + 1 = t') (hog : 0 ≤ (t' : Int) + o') (hj : ((t' : Int) + o').toNat = q) (hj' : z + 1 = q) (k : Go p e below Φ (T.setTop (mkF m q L (.int (b2i (decide (0 ≤ x.toInt))) :: S)))) : Go p e below Φ (T.setTop (mkF m pc L (.int x :: S))) :=
  g_if_lt hA hx hd ho hz' ht0 (fun h => g_iconst hA hx hz rfl hj' (by rw [show decide (0 ≤ x.toInt) = false from decide_eq_false (by omega)] at k; exact k)) (fun h => g_iconst hA hx ht rfl ht' (g_goto hA hx hg hog hj (by rw [show decide (0 ≤ x.toInt) = true from decide_eq_true (by omega)] at k; exact k)))
theorem g_sel_if_ge (hA : At T m c below) (hx : p.tables.exec = Jvm.exec) {o o' : Int} {z t t' : Nat} {x : Int32} (hd : decode c.code pc = .ok (.ifCond .ge o, 3)) (ho : 0 ≤ (pc : Int) + o) (hz' : ((pc : Int) + o).toNat = z) (ht0 : pc + 3 = t) (hz : decode c.code z = .ok (.iconst 0, 1)) (ht : decode c.code t = .ok (.iconst 1, 1)) (hg : decode c.code t' = .ok (.goto o', 3)) (ht' : t + 1 = t') (hog : 0 ≤ (t' : Int) + o') (hj : ((t' : Int) + o').toNat = q) (hj' : z + 1 = q) (k : Go p e below Φ (T.setTop (mkF m q L (.int (b2i (decide (x.toInt < 0))) :: S)))) : Go p e below Φ (T.setTop (mkF m pc L (.int x :: S))) :=
  g_if_ge hA hx hd ho hz' ht0 (fun h => g_iconst hA hx hz rfl hj' (by rw [show decide (x.toInt < 0) = false from decide_eq_false (by omega)] at k; exact k)) (fun h => g_iconst hA hx ht rfl ht' (g_goto hA hx hg hog hj (by rw [show decide (x.toInt < 0) = true from decide_eq_true (by omega)] at k; exact k)))
theorem g_sel_if_gt (hA : At T m c below) (hx : p.tables.exec = Jvm.exec) {o o' : Int} {z t t' : Nat} {x : Int32} (hd : decode c.code pc = .ok (.ifCond .gt o, 3)) (ho : 0 ≤ (pc : Int) + o) (hz' : ((pc : Int) + o).toNat = z) (ht0 : pc + 3 = t) (hz : decode c.code z = .ok (.iconst 0, 1)) (ht : decode c.code t = .ok (.iconst 1, 1)) (hg : decode c.code t' = .ok (.goto o', 3)) (ht' : t + 1 = t') (hog : 0 ≤ (t' : Int) + o') (hj : ((t' : Int) + o').toNat = q) (hj' : z + 1 = q) (k : Go p e below Φ (T.setTop (mkF m q L (.int (b2i (decide (x.toInt ≤ 0))) :: S)))) : Go p e below Φ (T.setTop (mkF m pc L (.int x :: S))) :=
  g_if_gt hA hx hd ho hz' ht0 (fun h => g_iconst hA hx hz rfl hj' (by rw [show decide (x.toInt ≤ 0) = false from decide_eq_false (by omega)] at k; exact k)) (fun h => g_iconst hA hx ht rfl ht' (g_goto hA hx hg hog hj (by rw [show decide (x.toInt ≤ 0) = true from decide_eq_true (by omega)] at k; exact k)))
theorem g_sel_if_le (hA : At T m c below) (hx : p.tables.exec = Jvm.exec) {o o' : Int} {z t t' : Nat} {x : Int32} (hd : decode c.code pc = .ok (.ifCond .le o, 3)) (ho : 0 ≤ (pc : Int) + o) (hz' : ((pc : Int) + o).toNat = z) (ht0 : pc + 3 = t) (hz : decode c.code z = .ok (.iconst 0, 1)) (ht : decode c.code t = .ok (.iconst 1, 1)) (hg : decode c.code t' = .ok (.goto o', 3)) (ht' : t + 1 = t') (hog : 0 ≤ (t' : Int) + o') (hj : ((t' : Int) + o').toNat = q) (hj' : z + 1 = q) (k : Go p e below Φ (T.setTop (mkF m q L (.int (b2i (decide (0 < x.toInt))) :: S)))) : Go p e below Φ (T.setTop (mkF m pc L (.int x :: S))) :=
  g_if_le hA hx hd ho hz' ht0 (fun h => g_iconst hA hx hz rfl hj' (by rw [show decide (0 < x.toInt) = false from decide_eq_false (by omega)] at k; exact k)) (fun h => g_iconst hA hx ht rfl ht' (g_goto hA hx hg hog hj (by rw [show decide (0 < x.toInt) = true from decide_eq_true (by omega)] at k; exact k)))
theorem g_sel_lcmp_eq (hA : At T m c below) (hx : p.tables.exec = Jvm.exec) {o o' : Int} {q1 z t t' : Nat} {x y : Int64} (hd : decode c.code pc = .ok (.lcmp, 1)) (hq1 : pc + 1 = q1) (hd' : decode c.code q1 = .ok (.ifCond .eq o, 3)) (ho : 0 ≤ (q1 : Int) + o) (hz' : ((q1 : Int) + o).toNat = z) (ht0 : q1 + 3 = t) (hz : decode c.code z = .ok (.iconst 0, 1)) (ht : decode c.code t = .ok (.iconst 1, 1)) (hg : decode c.code t' = .ok (.goto o', 3)) (ht' : t + 1 = t') (hog : 0 ≤ (t' : Int) + o') (hj : ((t' : Int) + o').toNat = q) (hj' : z + 1 = q) (k : Go p e below Φ (T.setTop (mkF m q L (.int (b2i (decide (x.toInt ≠ y.toInt))) :: S)))) : Go p e below Φ (T.setTop (mkF m pc L (.long y :: .long x :: S))) :=
  g_lcmp_eq hA hx hd hq1 hd' ho hz' ht0 (fun h => g_iconst hA hx hz rfl hj' (by rw [show decide (x.toInt ≠ y.toInt) = false from decide_eq_false (by omega)] at k; exact k)) (fun h => g_iconst hA hx ht rfl ht' (g_goto hA hx hg hog hj (by rw [show decide (x.toInt ≠ y.toInt) = true from decide_eq_true (by omega)] at k; exact k)))
theorem g_sel_lcmp_ne (hA : At T m c below) (hx : p.tables.exec = Jvm.exec) {o o' : Int} {q1 z t t' : Nat} {x y : Int64} (hd : decode c.code pc = .ok (.lcmp, 1)) (hq1 : pc + 1 = q1) (hd' : decode c.code q1 = .ok (.ifCond .ne o, 3)) (ho : 0 ≤ (q1 : Int) + o) (hz' : ((q1 : Int) + o).toNat = z) (ht0 : q1 + 3 = t) (hz : decode c.code z = .ok (.iconst 0, 1)) (ht : decode c.code t = .ok (.iconst 1, 1)) (hg : decode c.code t' = .ok (.goto o', 3)) (ht' : t + 1 = t') (hog : 0 ≤ (t' : Int) + o') (hj : ((t' : Int) + o').toNat = q) (hj' : z + 1 = q) (k : Go p e below Φ (T.setTop (mkF m q L (.int (b2i (decide (x.toInt = y.toInt))) :: S)))) : Go p e below Φ (T.setTop (mkF m pc L (.long y :: .long x :: S))) :=
  g_lcmp_ne hA hx hd hq1 hd' ho hz' ht0 (fun h => g_iconst hA hx hz rfl hj' (by rw [show decide (x.toInt = y.toInt) = false from decide_eq_false (by omega)] at k; exact k)) (fun h => g_iconst hA hx ht rfl ht' (g_goto hA hx hg hog hj (by rw [show decide (x.toInt = y.toInt) = true from decide_eq_true (by omega)] at k; exact k)))
theorem g_sel_lcmp_lt (hA : At T m c below) (hx : p.tables.exec = Jvm.exec) {o o' : Int} {q1 z t t' : Nat} {x y : Int64} (hd : decode c.code pc = .ok (.lcmp, 1)) (hq1 : pc + 1 = q1) (hd' : decode c.code q1 = .ok (.ifCond .lt o, 3)) (ho : 0 ≤ (q1 : Int) + o) (hz' : ((q1 : Int) + o).toNat = z) (ht0 : q1 + 3 = t) (hz : decode c.code z = .ok (.iconst 0, 1)) (ht : decode c.code t = .ok (.iconst 1, 1)) (hg : decode c.code t' = .ok (.goto o', 3)) (ht' : t + 1 = t') (hog : 0 ≤ (t' : Int) + o') (hj : ((t' : Int) + o').toNat = q) (hj' : z + 1 = q) (k : Go p e below Φ (T.setTop (mkF m q L (.int (b2i (decide (y.toInt ≤ x.toInt))) :: S)))) : Go p e below Φ (T.setTop (mkF m pc L (.long y :: .long x :: S))) :=
  g_lcmp_lt hA hx hd hq1 hd' ho hz' ht0 (fun h => g_iconst hA hx hz rfl hj' (by rw [show decide (y.toInt ≤ x.toInt) = false from decide_eq_false (by omega)] at k; exact k)) (fun h => g_iconst hA hx ht rfl ht' (g_goto hA hx hg hog hj (by rw [show decide (y.toInt ≤ x.toInt) = true from decide_eq_true (by omega)] at k; exact k)))
theorem g_sel_lcmp_ge (hA : At T m c below) (hx : p.tables.exec = Jvm.exec) {o o' : Int} {q1 z t t' : Nat} {x y : Int64} (hd : decode c.code pc = .ok (.lcmp, 1)) (hq1 : pc + 1 = q1) (hd' : decode c.code q1 = .ok (.ifCond .ge o, 3)) (ho : 0 ≤ (q1 : Int) + o) (hz' : ((q1 : Int) + o).toNat = z) (ht0 : q1 + 3 = t) (hz : decode c.code z = .ok (.iconst 0, 1)) (ht : decode c.code t = .ok (.iconst 1, 1)) (hg : decode c.code t' = .ok (.goto o', 3)) (ht' : t + 1 = t') (hog : 0 ≤ (t' : Int) + o') (hj : ((t' : Int) + o').toNat = q) (hj' : z + 1 = q) (k : Go p e below Φ (T.setTop (mkF m q L (.int (b2i (decide (x.toInt < y.toInt))) :: S)))) : Go p e below Φ (T.setTop (mkF m pc L (.long y :: .long x :: S))) :=
  g_lcmp_ge hA hx hd hq1 hd' ho hz' ht0 (fun h => g_iconst hA hx hz rfl hj' (by rw [show decide (x.toInt < y.toInt) = false from decide_eq_false (by omega)] at k; exact k)) (fun h => g_iconst hA hx ht rfl ht' (g_goto hA hx hg hog hj (by rw [show decide (x.toInt < y.toInt) = true from decide_eq_true (by omega)] at k; exact k)))
theorem g_sel_lcmp_gt (hA : At T m c below) (hx : p.tables.exec = Jvm.exec) {o o' : Int} {q1 z t t' : Nat} {x y : Int64} (hd : decode c.code pc = .ok (.lcmp, 1)) (hq1 : pc + 1 = q1) (hd' : decode c.code q1 = .ok (.ifCond .gt o, 3)) (ho : 0 ≤ (q1 : Int) + o) (hz' : ((q1 : Int) + o).toNat = z) (ht0 : q1 + 3 = t) (hz : decode c.code z = .ok (.iconst 0, 1)) (ht : decode c.code t = .ok (.iconst 1, 1)) (hg : decode c.code t' = .ok (.goto o', 3)) (ht' : t + 1 = t') (hog : 0 ≤ (t' : Int) + o') (hj : ((t' : Int) + o').toNat = q) (hj' : z + 1 = q) (k : Go p e below Φ (T.setTop (mkF m q L (.int (b2i (decide (x.toInt ≤ y.toInt))) :: S)))) : Go p e below Φ (T.setTop (mkF m pc L (.long y :: .long x :: S))) :=
  g_lcmp_gt hA hx hd hq1 hd' ho hz' ht0 (fun h => g_iconst hA hx hz rfl hj' (by rw [show decide (x.toInt ≤ y.toInt) = false from decide_eq_false (by omega)] at k; exact k)) (fun h => g_iconst hA hx ht rfl ht' (g_goto hA hx hg hog hj (by rw [show decide (x.toInt ≤ y.toInt) = true from decide_eq_true (by omega)] at k; exact k)))
theorem g_sel_lcmp_le (hA : At T m c below) (hx : p.tables.exec = Jvm.exec) {o o' : Int} {q1 z t t' : Nat} {x y : Int64} (hd : decode c.code pc = .ok (.lcmp, 1)) (hq1 : pc + 1 = q1) (hd' : decode c.code q1 = .ok (.ifCond .le o, 3)) (ho : 0 ≤ (q1 : Int) + o) (hz' : ((q1 : Int) + o).toNat = z) (ht0 : q1 + 3 = t) (hz : decode c.code z = .ok (.iconst 0, 1)) (ht : decode c.code t = .ok (.iconst 1, 1)) (hg : decode c.code t' = .ok (.goto o', 3)) (ht' : t + 1 = t') (hog : 0 ≤ (t' : Int) + o') (hj : ((t' : Int) + o').toNat = q) (hj' : z + 1 = q) (k : Go p e below Φ (T.setTop (mkF m q L (.int (b2i (decide (y.toInt < x.toInt))) :: S)))) : Go p e below Φ (T.setTop (mkF m pc L (.long y :: .long x :: S))) :=
  g_lcmp_le hA hx hd hq1 hd' ho hz' ht0 (fun h => g_iconst hA hx hz rfl hj' (by rw [show decide (y.toInt < x.toInt) = false from decide_eq_false (by omega)] at k; exact k)) (fun h => g_iconst hA hx ht rfl ht' (g_goto hA hx hg hog hj (by rw [show decide (y.toInt < x.toInt) = true from decide_eq_true (by omega)] at k; exact k)))
theorem g_selB_ne (hA : At T m c below) (hx : p.tables.exec = Jvm.exec) {o o' : Int} {z t t' : Nat} {b : Bool} (hd : decode c.code pc = .ok (.ifCond .ne o, 3)) (ho : 0 ≤ (pc : Int) + o) (hz' : ((pc : Int) + o).toNat = z) (ht0 : pc + 3 = t) (hz : decode c.code z = .ok (.iconst 0, 1)) (ht : decode c.code t = .ok (.iconst 1, 1)) (hg : decode c.code t' = .ok (.goto o', 3)) (ht' : t + 1 = t') (hog : 0 ≤ (t' : Int) + o') (hj : ((t' : Int) + o').toNat = q) (hj' : z + 1 = q) (k : Go p e below Φ (T.setTop (mkF m q L (.int (b2i (!b)) :: S)))) : Go p e below Φ (T.setTop (mkF m pc L (.int (b2i b) :: S))) :=
  g_ifB_ne hA hx hd ho hz' ht0 (fun h => g_iconst hA hx hz rfl hj' (by subst h; exact k)) (fun h => g_iconst hA hx ht rfl ht' (g_goto hA hx hg hog hj (by subst h; exact k)))
theorem g_selB_eq (hA : At T m c below) (hx : p.tables.exec = Jvm.exec) {o o' : Int} {z t t' : Nat} {b : Bool} (hd : decode c.code pc = .ok (.ifCond .eq o, 3)) (ho : 0 ≤ (pc : Int) + o) (hz' : ((pc : Int) + o).toNat = z) (ht0 : pc + 3 = t) (hz : decode c.code z = .ok (.iconst 0, 1)) (ht : decode c.code t = .ok (.iconst 1, 1)) (hg : decode c.code t' = .ok (.goto o', 3)) (ht' : t + 1 = t') (hog : 0 ≤ (t' : Int) + o') (hj : ((t' : Int) + o').toNat = q) (hj' : z + 1 = q) (k : Go p e below Φ (T.setTop (mkF m q L (.int (b2i (b)) :: S)))) : Go p e below Φ (T.setTop (mkF m pc L (.int (b2i b) :: S))) :=
  g_ifB_eq hA hx hd ho hz' ht0 (fun h => g_iconst hA hx hz rfl hj' (by subst h; exact k)) (fun h => g_iconst hA hx ht rfl ht' (g_goto hA hx hg hog hj (by subst h; exact k)))
theorem g_selBB_ne (hA : At T m c below) (hx : p.tables.exec = Jvm.exec) {o o' : Int} {z t t' : Nat} {a b : Bool} (hd : decode c.code pc = .ok (.if_icmp .ne o, 3)) (ho : 0 ≤ (pc : Int) + o) (hz' : ((pc : Int) + o).toNat = z) (ht0 : pc + 3 = t) (hz : decode c.code z = .ok (.iconst 0, 1)) (ht : decode c.code t = .ok (.iconst 1, 1)) (hg : decode c.code t' = .ok (.goto o', 3)) (ht' : t + 1 = t') (hog : 0 ≤ (t' : Int) + o') (hj : ((t' : Int) + o').toNat = q) (hj' : z + 1 = q) (k : Go p e below Φ (T.setTop (mkF m q L (.int (b2i (a == b)) :: S)))) : Go p e below Φ (T.setTop (mkF m pc L (.int (b2i b) :: .int (b2i a) :: S))) :=
  g_icmp hA hx hd ho hz' ht0 (fun h => g_iconst hA hx hz rfl hj' (by cases a <;> cases b <;> first | exact k | exact Bool.noConfusion h)) (fun h => g_iconst hA hx ht rfl ht' (g_goto hA hx hg hog hj (by cases a <;> cases b <;> first | exact k | exact Bool.noConfusion h)))
theorem g_selBB_eq (hA : At T m c below) (hx : p.tables.exec = Jvm.exec) {o o' : Int} {z t t' : Nat} {a b : Bool} (hd : decode c.code pc = .ok (.if_icmp .eq o, 3)) (ho : 0 ≤ (pc : Int) + o) (hz' : ((pc : Int) + o).toNat = z) (ht0 : pc + 3 = t) (hz : decode c.code z = .ok (.iconst 0, 1)) (ht : decode c.code t = .ok (.iconst 1, 1)) (hg : decode c.code t' = .ok (.goto o', 3)) (ht' : t + 1 = t') (hog : 0 ≤ (t' : Int) + o') (hj : ((t' : Int) + o').toNat = q) (hj' : z + 1 = q) (k : Go p e below Φ (T.setTop (mkF m q L (.int (b2i (a != b)) :: S)))) : Go p e below Φ (T.setTop (mkF m pc L (.int (b2i b) :: .int (b2i a) :: S))) :=
  g_icmp hA hx hd ho hz' ht0 (fun h => g_iconst hA hx hz rfl hj' (by cases a <;> cases b <;> first | exact k | exact Bool.noConfusion h)) (fun h => g_iconst hA hx ht rfl ht' (g_goto hA hx hg hog hj (by cases a <;> cases b <;> first | exact k | exact Bool.noConfusion h)))
theorem g_ldcI (X : Stand p l e R s m args below meth c T locs cells slots) (hx : p.tables.exec = Jvm.exec) (hZ : Z.Warmed39 s.vm) {own : String} {index : Nat} {v : Int32} (hown : s.vm.findClass own = some m.cls) (w : (Jvm.Cond.constant own index v).before a0 Z = true) (hd : decode c.code pc = .ok (.ldc index, 2)) (hq : pc + 2 = q) (k : Go p e below Φ (T.setTop (mkF m q L (.int v :: S)))) : Go p e below Φ (T.setTop (mkF m pc L S)) := by
  subst hq; exact Go.by (X.ldcInt hx hown (mvT hZ w) rfl hd) k
theorem g_ldcWI (X : Stand p l e R s m args below meth c T locs cells slots) (hx : p.tables.exec = Jvm.exec) (hZ : Z.Warmed39 s.vm) {own : String} {index : Nat} {v : Int32} (hown : s.vm.findClass own = some m.cls) (w : (Jvm.Cond.constant own index v).before a0 Z = true) (hd : decode c.code pc = .ok (.ldc_w index, 3)) (hq : pc + 3 = q) (k : Go p e below Φ (T.setTop (mkF m q L (.int v :: S)))) : Go p e below Φ (T.setTop (mkF m pc L S)) := by
  subst hq; exact Go.by (X.ldcWInt hx hown (mvT hZ w) rfl hd) k
theorem g_ldc2J (X : Stand p l e R s m args below meth c T locs cells slots) (hx : p.tables.exec = Jvm.exec) (hZ : Z.Warmed39 s.vm) {own : String} {index : Nat} {v : Int64} (hown : s.vm.findClass own = some m.cls) (w : (Jvm.Cond.constantLong own index v).before a0 Z = true) (hd : decode c.code pc = .ok (.ldc2_w index, 3)) (hq : pc + 3 = q) (k : Go p e below Φ (T.setTop (mkF m q L (.long v :: S)))) : Go p e below Φ (T.setTop (mkF m pc L S)) := by
  subst hq; exact Go.by (X.ldc2Long hx hown (mvT hZ w) rfl hd) k
theorem g_ireturn (X : Stand p l e R s m args below meth c T locs cells slots) (hx : p.tables.exec = Jvm.exec) {Q : Option Value → Heap → List Loc → Prop} {rm : Room} (hlk : meth.locks = false) {z : Int32} (hrt : meth.sig.returnType = some .int) (hd : decode c.code pc = .ok (.ireturn, 1)) (hc : cells ≤ rm.cells) (hs : slots ≤ rm.slots) (hQ : Q (some (.int z)) T.heap locs) : Go p e below (Fin0 s rm Q) (T.setTop (mkF m pc L (.int z :: S))) := by
  obtain ⟨fs, hr, hrun, hended, hW, hsame⟩ := X.leave (v := (some (.int z))) (fun h => by rw [hrt] at h; cases h) hlk
  exact ⟨_, _, retOut X hx hrt rfl (Or.inl ⟨rfl, Or.inl rfl, z, rfl⟩) hd hr, hrun, hended, _, _, rfl, hQ, ⟨_, rfl⟩, hW, hsame.mono hc hs⟩
theorem g_lreturn (X : Stand p l e R s m args below meth c T locs cells slots) (hx : p.tables.exec = Jvm.exec) {Q : Option Value → Heap → List Loc → Prop} {rm : Room} (hlk : meth.locks = false) {z : Int64} (hrt : meth.sig.returnType = some .long) (hd : decode c.code pc = .ok (.lreturn, 1)) (hc : cells ≤ rm.cells) (hs : slots ≤ rm.slots) (hQ : Q (some (.long z)) T.heap locs) : Go p e below (Fin0 s rm Q) (T.setTop (mkF m pc L (.long z :: S))) := by
  obtain ⟨fs, hr, hrun, hended, hW, hsame⟩ := X.leave (v := (some (.long z))) (fun h => by rw [hrt] at h; cases h) hlk
  exact ⟨_, _, retOut X hx hrt rfl (Or.inr (Or.inl ⟨rfl, rfl, z, rfl⟩)) hd hr, hrun, hended, _, _, rfl, hQ, ⟨_, rfl⟩, hW, hsame.mono hc hs⟩
theorem g_areturn (X : Stand p l e R s m args below meth c T locs cells slots) (hx : p.tables.exec = Jvm.exec) {Q : Option Value → Heap → List Loc → Prop} {rm : Room} (hlk : meth.locks = false) {w : Value} {t : FieldType} (hw : w.isRef = true) (hrt : meth.sig.returnType = some t) (ht : t.isReference = true) (hd : decode c.code pc = .ok (.areturn, 1)) (hc : cells ≤ rm.cells) (hs : slots ≤ rm.slots) (hQ : Q (some w) T.heap locs) : Go p e below (Fin0 s rm Q) (T.setTop (mkF m pc L (w :: S))) := by
  obtain ⟨fs, hr, hrun, hended, hW, hsame⟩ := X.leave (v := (some w)) (fun h => by rw [hrt] at h; cases h) hlk
  exact ⟨_, _, retOut X hx hrt (by cases t <;> first | rfl | cases ht) (Or.inr (Or.inr (Or.inr (Or.inr ⟨rfl, ht, hw⟩)))) hd hr, hrun, hended, _, _, rfl, hQ, ⟨_, rfl⟩, hW, hsame.mono hc hs⟩
theorem g_zreturn (X : Stand p l e R s m args below meth c T locs cells slots) (hx : p.tables.exec = Jvm.exec) {Q : Option Value → Heap → List Loc → Prop} {rm : Room} (hlk : meth.locks = false) {b : Bool} (hrt : meth.sig.returnType = some .boolean) (hd : decode c.code pc = .ok (.ireturn, 1)) (hc : cells ≤ rm.cells) (hs : slots ≤ rm.slots) (hQ : Q (some (.int (b2i b))) T.heap locs) : Go p e below (Fin0 s rm Q) (T.setTop (mkF m pc L (.int (b2i b) :: S))) := by
  obtain ⟨fs, hr, hrun, hended, hW, hsame⟩ := X.leave (v := (some (.int (b2i b)))) (fun h => by rw [hrt] at h; cases h) hlk
  exact ⟨_, _, retOut X hx hrt (by cases b <;> rfl) (Or.inl ⟨rfl, Or.inr (Or.inl rfl), _, rfl⟩) hd hr, hrun, hended, _, _, rfl, hQ, ⟨_, rfl⟩, hW, hsame.mono hc hs⟩
theorem g_nreturn (X : Stand p l e R s m args below meth c T locs cells slots) (hx : p.tables.exec = Jvm.exec) {Q : Option Value → Heap → List Loc → Prop} {rm : Room} (hlk : meth.locks = false) {z : Int32} {t : FieldType} (hn : narrow t (.int z) = .int z) (ht : t = .int ∨ t = .boolean ∨ t = .byte ∨ t = .char ∨ t = .short) (hrt : meth.sig.returnType = some t) (hd : decode c.code pc = .ok (.ireturn, 1)) (hc : cells ≤ rm.cells) (hs : slots ≤ rm.slots) (hQ : Q (some (.int z)) T.heap locs) : Go p e below (Fin0 s rm Q) (T.setTop (mkF m pc L (.int z :: S))) := by
  obtain ⟨fs, hr, hrun, hended, hW, hsame⟩ := X.leave (v := (some (.int z))) (fun h => by rw [hrt] at h; cases h) hlk
  exact ⟨_, _, retOut X hx hrt hn (Or.inl ⟨rfl, ht, z, rfl⟩) hd hr, hrun, hended, _, _, rfl, hQ, ⟨_, rfl⟩, hW, hsame.mono hc hs⟩
theorem g_ret (X : Stand p l e R s m args below meth c T locs cells slots) (hx : p.tables.exec = Jvm.exec) {Q : Option Value → Heap → List Loc → Prop} {rm : Room} (hlk : meth.locks = false) (hrt : meth.sig.returnType = none) (hd : decode c.code pc = .ok (.return_, 1)) (hc : cells ≤ rm.cells) (hs : slots ≤ rm.slots) (hQ : Q none T.heap locs) : Go p e below (Fin0 s rm Q) (T.setTop (mkF m pc L [])) := by
  obtain ⟨fs, hr, hrun, hended, hW, hsame⟩ := X.leave (v := none) (fun _ => rfl) hlk
  exact ⟨_, _, X.returnOut hx hrt hd hr, hrun, hended, _, _, rfl, hQ, ⟨_, rfl⟩, hW, hsame.mono hc hs⟩
theorem g_callS (X : Stand p l e R s m args below meth c T locs cells slots) (hx : p.tables.exec = Jvm.exec) (hZ : Z.Warmed39 s.vm) {own : String} {index : Nat} {y : MethodName} {bytes : ByteArray} {maxL : Nat} {ret : Option FieldType} (hown : s.vm.findClass own = some m.cls) (w1 : (Jvm.Cond.methodLink own index y).before a0 Z = true) (w2 : (Jvm.Cond.static y).before a0 Z = true) (w3 : (Jvm.Cond.initialized y.cls).before a0 Z = true) (w4 : (Jvm.Cond.code y bytes maxL ret).before a0 Z = true) (hy : y.cls ≠ "java/lang/invoke/MethodHandle" ∧ y.cls ≠ "java/lang/invoke/VarHandle")
    {rm : Room} {as' : Array Value} {Q : Option Value → Heap → List Loc → Prop} (C : Ctr l Z y bytes maxL ret rm [] as' h Q) {argsL rest : List Value} {ps : List FieldType} {rt : Option FieldType} (hpd : parseMethodDescriptor y.desc = some ⟨ps, rt⟩) (hlen : argsL.length = ps.length) (hst : S = argsL.reverse ++ rest) (has : argsL.toArray = as') (hd : decode c.code pc = .ok (.invokestatic index, 3)) (hq : pc + 3 = q) (hsz : L.size = c.maxLocals) (eT : T.heap = h)
    (hf : rm.frames + 1 ≤ R.frames) {W : Nat} (hW : (rest.map fun v => v.category).sum = W) (hl : W + (maxL + 11) + rm.locals ≤ R.locals) (hc : cells + rm.cells ≤ R.cells) (hs : slots + rm.slots ≤ R.slots)
    (k : ∀ v T' Lc, Stand p l e R s m args below meth c T' (locs ++ Lc) (cells + rm.cells) (slots + rm.slots) → Q v T'.heap Lc → Go p e below Φ (T'.setTop (mkF m q L (v.toList ++ rest)))) : Go p e below Φ (T.setTop (mkF m pc L S)) := by
  subst hq has
  obtain ⟨v, _, ⟨T', L', k', n'⟩, -, X', ⟨Lc, hQ, l1, y1, z1⟩, st⟩ := Jvm.LawKit.callS X hx (y := y) hown (mvT hZ w1) (mvT hZ w2) (mvT hZ w3) (mvT hZ w4) hy (backOf (W := W) C hZ w4 w3 hf hl) (g := mkF m pc L S) rfl hsz (argsL := argsL) (rest := rest) (lenOf hpd hlen) hst (by show 2 * 0 + _ ≤ _; omega) hd (fun _ _ => ⟨rfl, eT, hc, hs⟩)
  dsimp only [Pt.U, Pt.locs, Pt.cells, Pt.slots] at X' l1 y1 z1 st hQ
  subst l1 y1 z1
  exact Go.by st (k v T' Lc X' hQ)
theorem g_callSP (X : Stand p l e R s m args below meth c T locs cells slots) (hx : p.tables.exec = Jvm.exec) (hZ : Z.Warmed39 s.vm) {own : String} {index : Nat} {y : MethodName} {bytes : ByteArray} {maxL : Nat} {ret : Option FieldType} (hown : s.vm.findClass own = some m.cls) (w1 : (Jvm.Cond.methodLink own index y).before a0 Z = true) (w2 : (Jvm.Cond.static y).before a0 Z = true) (w3 : (Jvm.Cond.initialized y.cls).before a0 Z = true) (w4 : (Jvm.Cond.code y bytes maxL ret).before a0 Z = true) (hy : y.cls ≠ "java/lang/invoke/MethodHandle" ∧ y.cls ≠ "java/lang/invoke/VarHandle")
    {rm : Room} {as' : Array Value} {r : Value} (C : Ctr l Z y bytes maxL ret rm [] as' h (PQ r h)) {argsL rest : List Value} {ps : List FieldType} {rt : Option FieldType} (hpd : parseMethodDescriptor y.desc = some ⟨ps, rt⟩) (hlen : argsL.length = ps.length) (hst : S = argsL.reverse ++ rest) (has : argsL.toArray = as') (hd : decode c.code pc = .ok (.invokestatic index, 3)) (hq : pc + 3 = q) (hsz : L.size = c.maxLocals) (eT : T.heap = h)
    (hf : rm.frames + 1 ≤ R.frames) {W : Nat} (hW : (rest.map fun v => v.category).sum = W) (hl : W + (maxL + 11) + rm.locals ≤ R.locals) (hc : rm.cells = 0) (hs : rm.slots = 0) (hc' : cells ≤ R.cells) (hs' : slots ≤ R.slots)
    (k : ∀ T', Stand p l e R s m args below meth c T' locs cells slots → T'.heap = h → Go p e below Φ (T'.setTop (mkF m q L (r :: rest)))) : Go p e below Φ (T.setTop (mkF m pc L S)) := by
  refine g_callS X hx hZ hown w1 w2 w3 w4 hy C hpd hlen hst has hd hq hsz eT hf hW hl (by omega) (by omega) ?_
  intro v T' Lc X' hQ
  obtain ⟨rfl, e1, rfl⟩ := hQ
  rw [hc, hs, List.append_nil] at X'
  exact k T' X' e1
theorem g_callSI (X : Stand p l e R s m args below meth c T locs cells slots) (hx : p.tables.exec = Jvm.exec) (hZ : Z.Warmed39 s.vm) {own : String} {index : Nat} {y : MethodName} {bytes : ByteArray} {maxL : Nat} {ret : Option FieldType} (hown : s.vm.findClass own = some m.cls) (w1 : (Jvm.Cond.methodLink own index y).before a0 Z = true) (w2 : (Jvm.Cond.static y).before a0 Z = true) (w3 : (Jvm.Cond.initialized y.cls).before a0 Z = true) (w4 : (Jvm.Cond.code y bytes maxL ret).before a0 Z = true) (hy : y.cls ≠ "java/lang/invoke/MethodHandle" ∧ y.cls ≠ "java/lang/invoke/VarHandle")
    {rm : Room} {as' : Array Value} {P : Int32 → Prop} (C : Ctr l Z y bytes maxL ret rm [] as' h (IQ P h)) {argsL rest : List Value} {ps : List FieldType} {rt : Option FieldType} (hpd : parseMethodDescriptor y.desc = some ⟨ps, rt⟩) (hlen : argsL.length = ps.length) (hst : S = argsL.reverse ++ rest) (has : argsL.toArray = as') (hd : decode c.code pc = .ok (.invokestatic index, 3)) (hq : pc + 3 = q) (hsz : L.size = c.maxLocals) (eT : T.heap = h)
    (hf : rm.frames + 1 ≤ R.frames) {W : Nat} (hW : (rest.map fun v => v.category).sum = W) (hl : W + (maxL + 11) + rm.locals ≤ R.locals) (hc : rm.cells = 0) (hs : rm.slots = 0) (hc' : cells ≤ R.cells) (hs' : slots ≤ R.slots)
    (k : ∀ T' r, Stand p l e R s m args below meth c T' locs cells slots → T'.heap = h → P r → Go p e below Φ (T'.setTop (mkF m q L (.int r :: rest)))) : Go p e below Φ (T.setTop (mkF m pc L S)) := by
  refine g_callS X hx hZ hown w1 w2 w3 w4 hy C hpd hlen hst has hd hq hsz eT hf hW hl (by omega) (by omega) ?_
  intro v T' Lc X' hQ
  obtain ⟨r, rfl, hP, e1, rfl⟩ := hQ
  rw [hc, hs, List.append_nil] at X'
  exact k T' r X' e1 hP
theorem g_callSJ (X : Stand p l e R s m args below meth c T locs cells slots) (hx : p.tables.exec = Jvm.exec) (hZ : Z.Warmed39 s.vm) {own : String} {index : Nat} {y : MethodName} {bytes : ByteArray} {maxL : Nat} {ret : Option FieldType} (hown : s.vm.findClass own = some m.cls) (w1 : (Jvm.Cond.methodLink own index y).before a0 Z = true) (w2 : (Jvm.Cond.static y).before a0 Z = true) (w3 : (Jvm.Cond.initialized y.cls).before a0 Z = true) (w4 : (Jvm.Cond.code y bytes maxL ret).before a0 Z = true) (hy : y.cls ≠ "java/lang/invoke/MethodHandle" ∧ y.cls ≠ "java/lang/invoke/VarHandle")
    {rm : Room} {as' : Array Value} {P : Int64 → Prop} (C : Ctr l Z y bytes maxL ret rm [] as' h (JQ P h)) {argsL rest : List Value} {ps : List FieldType} {rt : Option FieldType} (hpd : parseMethodDescriptor y.desc = some ⟨ps, rt⟩) (hlen : argsL.length = ps.length) (hst : S = argsL.reverse ++ rest) (has : argsL.toArray = as') (hd : decode c.code pc = .ok (.invokestatic index, 3)) (hq : pc + 3 = q) (hsz : L.size = c.maxLocals) (eT : T.heap = h)
    (hf : rm.frames + 1 ≤ R.frames) {W : Nat} (hW : (rest.map fun v => v.category).sum = W) (hl : W + (maxL + 11) + rm.locals ≤ R.locals) (hc : rm.cells = 0) (hs : rm.slots = 0) (hc' : cells ≤ R.cells) (hs' : slots ≤ R.slots)
    (k : ∀ T' r, Stand p l e R s m args below meth c T' locs cells slots → T'.heap = h → P r → Go p e below Φ (T'.setTop (mkF m q L (.long r :: rest)))) : Go p e below Φ (T.setTop (mkF m pc L S)) := by
  refine g_callS X hx hZ hown w1 w2 w3 w4 hy C hpd hlen hst has hd hq hsz eT hf hW hl (by omega) (by omega) ?_
  intro v T' Lc X' hQ
  obtain ⟨r, rfl, hP, e1, rfl⟩ := hQ
  rw [hc, hs, List.append_nil] at X'
  exact k T' r X' e1 hP
end OwnKit

/-! ### the own kit, heap part -/
def ArrL (Z : State) (h : Heap) (a : Addr) (ty : FieldType) (vals : List Value) : Prop := ∃ c : Cell, Arr Z h a c ty ∧ c.slots = vals.toArray ∧ vals.length < 2 ^ 31
abbrev IA (Z : State) (h : Heap) (a : Addr) (vs : List Int32) : Prop := ArrL Z h a .int (vs.map Value.int)
abbrev LA (Z : State) (h : Heap) (a : Addr) (vs : List Int64) : Prop := ArrL Z h a .long (vs.map Value.long)
abbrev ZA (Z : State) (h : Heap) (a : Addr) (vs : List Bool) : Prop := ArrL Z h a .boolean (vs.map fun b => Value.int (b2i b))
theorem own_clamp (j : Int32) : j.toNatClampNeg = j.toInt.toNat := rfl
theorem idxN {j : Int32} {i : Nat} (hj : j.toInt = (i : Int)) : ¬ j < 0 ∧ j.toNatClampNeg = i := by
  rw [own_clamp, Int32.lt_iff_toInt_lt, show (0 : Int32).toInt = 0 from rfl, hj]; omega
theorem idxIn {j : Int32} {i n : Nat} (hj : j.toInt = (i : Int)) (hi : i < n) : ¬ (j < 0 ∨ n ≤ j.toNatClampNeg) := by
  obtain ⟨h1, h2⟩ := idxN hj; exact fun h => h.elim h1 fun h => by rw [h2] at h; omega
section OwnHeap
variable {p : Program} {l : Launch} {e : Env} {R : Room} {s : State} {m : MethodId} {args : Array Value} {below : List Frame} {meth : Method} {c : Code} {T : State} {locs : List Loc} {cells slots : Nat} {Z : State} {a0 : Array Value} {h : Heap} {Φ : Outcome → State → Prop} {pc q : Nat} {L : Array Slot} {S : List Value}
variable {h' : Heap} {a b o : Addr} {ty : FieldType} {vals : List Value} {sl : Nat} {v w : Value} {ws : List Addr}
theorem ArrL.lt (F : ArrL Z h a ty vals) : a < h.size := by obtain ⟨c, A, -⟩ := F; exact A.lt
theorem ArrL.ext (F : ArrL Z h a ty vals) (E : Ext h h') : ArrL Z h' a ty vals := by obtain ⟨c, A, r⟩ := F; exact ⟨c, A.ext E, r⟩
theorem ArrL.other (F : ArrL Z h a ty vals) (W : Wr h h' b sl v) (q : a ≠ b) : ArrL Z h' a ty vals := by obtain ⟨c, A, r⟩ := F; exact ⟨c, A.other W q, r⟩
theorem ArrL.keep (F : ArrL Z h a ty vals) (K : Keep h h' ws) (q : a ∉ ws) : ArrL Z h' a ty vals := by obtain ⟨c, A, r⟩ := F; exact ⟨c, ⟨K.2.1 a c A.1 q, A.2⟩, r⟩
theorem ArrL.len (F : ArrL Z h a ty vals) : vals.length < 2 ^ 31 := by obtain ⟨c, A, -, r⟩ := F; exact r
theorem ArrL.set (F : ArrL Z h a ty vals) {i : Nat} (W : Wr h h' a i v) : ArrL Z h' a ty (vals.set i v) := by
  obtain ⟨c, A, e1, r⟩ := F
  refine ⟨_, A.same W, ?_, by rw [List.length_set]; exact r⟩
  show c.slots.setIfInBounds i v = _
  rw [e1]; simp
theorem ArrL.new {k : ClassId} {z : Int32} {n : Nat} (A : Arr Z h a (newA k ty z) ty) (hz : z.toInt = (n : Int)) : ArrL Z h a ty (List.replicate n (defaultValue ty)) := by
  refine ⟨_, A, ?_, ?_⟩
  · show Array.replicate z.toNatClampNeg (defaultValue ty) = _
    rw [(idxN hz).2]; simp
  · have := rng32 z; rw [List.length_replicate]; omega
theorem IA.eq {us vs : List Int32} (F : IA Z h a us) (q : us = vs) : IA Z h a vs := q ▸ F
theorem LA.eq {us vs : List Int64} (F : LA Z h a us) (q : us = vs) : LA Z h a vs := q ▸ F
theorem ZA.eq {us vs : List Bool} (F : ZA Z h a us) (q : us = vs) : ZA Z h a vs := q ▸ F
theorem ne_new (h1 : a < h.size) (q : o = h.size) : a ≠ o := by subst q; exact Nat.ne_of_lt h1
theorem ne_ge (h1 : a < h.size) (q : h.size ≤ o) : a ≠ o := Nat.ne_of_lt (Nat.lt_of_lt_of_le h1 q)
theorem ge_new {n0 : Nat} (h1 : n0 ≤ h.size) (q : o = h.size) : n0 ≤ o := by subst q; exact h1
theorem Fr.wr {n0 i : Nat} (N : Fr n0 locs) (q : n0 ≤ a) : Fr n0 (locs ++ [⟨a, i⟩]) := N.app fun y hy => by cases List.mem_singleton.mp hy; exact q
theorem g_iload_ (X : Stand p l e R s m args below meth c T locs cells slots) (hx : p.tables.exec = Jvm.exec) (hZ : Z.Warmed39 s.vm) (eT : T.heap = h) {vs : List Int32} (F : IA Z h a vs) {j : Int32} {i : Nat} {v : Int32} (hj : j.toInt = (i : Int)) (hv : vs[i]? = some v) (hd : decode c.code pc = .ok (.iaload, 1)) (hq : pc + 1 = q) (k : Go p e below Φ (T.setTop (mkF m q L (.int v :: S)))) : Go p e below Φ (T.setTop (mkF m pc L (.int j :: .ref a :: S))) := by
  subst hq
  obtain ⟨cl, A, e1, r⟩ := F
  have hi : i < vs.length := (List.getElem?_eq_some_iff.mp hv).1
  have hs : cl.slots.size = vs.length := by rw [e1]; simp
  refine Go.by (X.iaload hx (cell := cl) (j := j) (v := (.int v)) (by rw [eT]; exact A.1) (State.isArrayOf_alike hZ.alike A.2.1) A.2.2 (idxIn hj (by rw [hs]; exact hi)) (by rw [(idxN hj).2, e1]; simp [hv]) rfl rfl hd) k
theorem g_istore_ (X : Stand p l e R s m args below meth c T locs cells slots) (hx : p.tables.exec = Jvm.exec) (hZ : Z.Warmed39 s.vm) (eT : T.heap = h) {vs : List Int32} (F : IA Z h a vs) {j : Int32} {i : Nat} {v : Int32} (hj : j.toInt = (i : Int)) (hi : i < vs.length) (hd : decode c.code pc = .ok (.iastore, 1)) (hq : pc + 1 = q) (k : ∀ T' h', Stand p l e R s m args below meth c T' (locs ++ [⟨a, i⟩]) cells slots → T'.heap = h' → Wr h h' a i (.int v) → IA Z h' a (vs.set i v) → Go p e below Φ (T'.setTop (mkF m q L S))) : Go p e below Φ (T.setTop (mkF m pc L (.int v :: .int j :: .ref a :: S))) := by
  subst hq
  have F0 := F
  obtain ⟨cl, A, e1, r⟩ := F
  have hs : cl.slots.size = vs.length := by rw [e1]; simp
  obtain ⟨T', h', X', e', W, st⟩ := stI X hx hZ eT A (j := j) (x := v) (idxIn hj (by rw [hs]; exact hi)) (g := mkF m pc L ((.int v) :: .int j :: .ref a :: S)) rfl rfl hd
  rw [(idxN hj).2] at X' W
  refine Go.by st (k T' h' X' e' W ?_)
  have := F0.set W
  show ArrL Z h' a .int ((vs.set i v).map Value.int)
  rw [List.map_set]; exact this
theorem g_inew_ (X : Stand p l e R s m args below meth c T locs cells slots) (hx : p.tables.exec = Jvm.exec) (hZ : Z.Warmed39 s.vm) (w : (Jvm.Cond.arrayClass .int).before a0 Z = true) (eT : T.heap = h) {z : Int32} {n cap : Nat} (hz : z.toInt = (n : Int)) (hn : n ≤ cap) (hb : cap * 8 ≤ 536870912) (hd : decode c.code pc = .ok (.newarray .int, 2)) (hq : pc + 2 = q) (hc : cells + 1 ≤ R.cells) (hl : slots + cap ≤ R.slots) (k : ∀ T' h' o, Stand p l e R s m args below meth c T' locs (cells + 1) (slots + cap) → T'.heap = h' → Ext h h' → o = h.size → IA Z h' o (List.replicate n 0) → Go p e below Φ (T'.setTop (mkF m q L (.ref o :: S)))) : Go p e below Φ (T.setTop (mkF m pc L (.int z :: S))) := by
  subst hq
  obtain ⟨T', h', cA, X', e', E, A, st⟩ := newP X hx hZ (aty := .int) w eT (g := mkF m pc L (.int z :: S)) rfl hd rfl (idxN hz).1 (cap := cap) (by rw [(idxN hz).2]; exact hn) hb hc hl
  refine Go.by st (k T' h' h.size X' e' E rfl ?_)
  have := ArrL.new A hz
  show ArrL Z h' h.size .int _
  rw [List.map_replicate]; exact this
theorem g_lload_ (X : Stand p l e R s m args below meth c T locs cells slots) (hx : p.tables.exec = Jvm.exec) (hZ : Z.Warmed39 s.vm) (eT : T.heap = h) {vs : List Int64} (F : LA Z h a vs) {j : Int32} {i : Nat} {v : Int64} (hj : j.toInt = (i : Int)) (hv : vs[i]? = some v) (hd : decode c.code pc = .ok (.laload, 1)) (hq : pc + 1 = q) (k : Go p e below Φ (T.setTop (mkF m q L (.long v :: S)))) : Go p e below Φ (T.setTop (mkF m pc L (.int j :: .ref a :: S))) := by
  subst hq
  obtain ⟨cl, A, e1, r⟩ := F
  have hi : i < vs.length := (List.getElem?_eq_some_iff.mp hv).1
  have hs : cl.slots.size = vs.length := by rw [e1]; simp
  refine Go.by (X.laload hx (cell := cl) (j := j) (v := (.long v)) (by rw [eT]; exact A.1) (State.isArrayOf_alike hZ.alike A.2.1) A.2.2 (idxIn hj (by rw [hs]; exact hi)) (by rw [(idxN hj).2, e1]; simp [hv]) rfl rfl hd) k
theorem g_lstore_ (X : Stand p l e R s m args below meth c T locs cells slots) (hx : p.tables.exec = Jvm.exec) (hZ : Z.Warmed39 s.vm) (eT : T.heap = h) {vs : List Int64} (F : LA Z h a vs) {j : Int32} {i : Nat} {v : Int64} (hj : j.toInt = (i : Int)) (hi : i < vs.length) (hd : decode c.code pc = .ok (.lastore, 1)) (hq : pc + 1 = q) (k : ∀ T' h', Stand p l e R s m args below meth c T' (locs ++ [⟨a, i⟩]) cells slots → T'.heap = h' → Wr h h' a i (.long v) → LA Z h' a (vs.set i v) → Go p e below Φ (T'.setTop (mkF m q L S))) : Go p e below Φ (T.setTop (mkF m pc L (.long v :: .int j :: .ref a :: S))) := by
  subst hq
  have F0 := F
  obtain ⟨cl, A, e1, r⟩ := F
  have hs : cl.slots.size = vs.length := by rw [e1]; simp
  obtain ⟨T', h', X', e', W, st⟩ := stJ X hx hZ eT A (j := j) (x := v) (idxIn hj (by rw [hs]; exact hi)) (g := mkF m pc L ((.long v) :: .int j :: .ref a :: S)) rfl rfl hd
  rw [(idxN hj).2] at X' W
  refine Go.by st (k T' h' X' e' W ?_)
  have := F0.set W
  show ArrL Z h' a .long ((vs.set i v).map Value.long)
  rw [List.map_set]; exact this
theorem g_lnew_ (X : Stand p l e R s m args below meth c T locs cells slots) (hx : p.tables.exec = Jvm.exec) (hZ : Z.Warmed39 s.vm) (w : (Jvm.Cond.arrayClass .long).before a0 Z = true) (eT : T.heap = h) {z : Int32} {n cap : Nat} (hz : z.toInt = (n : Int)) (hn : n ≤ cap) (hb : cap * 8 ≤ 536870912) (hd : decode c.code pc = .ok (.newarray .long, 2)) (hq : pc + 2 = q) (hc : cells + 1 ≤ R.cells) (hl : slots + cap ≤ R.slots) (k : ∀ T' h' o, Stand p l e R s m args below meth c T' locs (cells + 1) (slots + cap) → T'.heap = h' → Ext h h' → o = h.size → LA Z h' o (List.replicate n 0) → Go p e below Φ (T'.setTop (mkF m q L (.ref o :: S)))) : Go p e below Φ (T.setTop (mkF m pc L (.int z :: S))) := by
  subst hq
  obtain ⟨T', h', cA, X', e', E, A, st⟩ := newP X hx hZ (aty := .long) w eT (g := mkF m pc L (.int z :: S)) rfl hd rfl (idxN hz).1 (cap := cap) (by rw [(idxN hz).2]; exact hn) hb hc hl
  refine Go.by st (k T' h' h.size X' e' E rfl ?_)
  have := ArrL.new A hz
  show ArrL Z h' h.size .long _
  rw [List.map_replicate]; exact this
theorem g_zload_ (X : Stand p l e R s m args below meth c T locs cells slots) (hx : p.tables.exec = Jvm.exec) (hZ : Z.Warmed39 s.vm) (eT : T.heap = h) {vs : List Bool} (F : ZA Z h a vs) {j : Int32} {i : Nat} {v : Bool} (hj : j.toInt = (i : Int)) (hv : vs[i]? = some v) (hd : decode c.code pc = .ok (.baload, 1)) (hq : pc + 1 = q) (k : Go p e below Φ (T.setTop (mkF m q L (.int (b2i v) :: S)))) : Go p e below Φ (T.setTop (mkF m pc L (.int j :: .ref a :: S))) := by
  subst hq
  obtain ⟨cl, A, e1, r⟩ := F
  have hi : i < vs.length := (List.getElem?_eq_some_iff.mp hv).1
  have hs : cl.slots.size = vs.length := by rw [e1]; simp
  refine Go.by (X.baloadBooleans hx (cell := cl) (j := j) (v := (.int (b2i v))) (by rw [eT]; exact A.1) (State.isArrayOf_alike hZ.alike A.2.1) A.2.2 (idxIn hj (by rw [hs]; exact hi)) (by rw [(idxN hj).2, e1]; simp [hv]) rfl rfl hd) k
theorem g_zstore_ (X : Stand p l e R s m args below meth c T locs cells slots) (hx : p.tables.exec = Jvm.exec) (hZ : Z.Warmed39 s.vm) (eT : T.heap = h) {vs : List Bool} (F : ZA Z h a vs) {j : Int32} {i : Nat} {v : Bool} (hj : j.toInt = (i : Int)) (hi : i < vs.length) (hd : decode c.code pc = .ok (.bastore, 1)) (hq : pc + 1 = q) (k : ∀ T' h', Stand p l e R s m args below meth c T' (locs ++ [⟨a, i⟩]) cells slots → T'.heap = h' → Wr h h' a i (.int (b2i v)) → ZA Z h' a (vs.set i v) → Go p e below Φ (T'.setTop (mkF m q L S))) : Go p e below Φ (T.setTop (mkF m pc L (.int (b2i v) :: .int j :: .ref a :: S))) := by
  subst hq
  have F0 := F
  obtain ⟨cl, A, e1, r⟩ := F
  have hs : cl.slots.size = vs.length := by rw [e1]; simp
  obtain ⟨T', h', X', e', W, st⟩ := stZ X hx hZ eT A (j := j) (x := b2i v) (idxIn hj (by rw [hs]; exact hi)) (g := mkF m pc L ((.int (b2i v)) :: .int j :: .ref a :: S)) rfl rfl hd
  have W : Wr h h' a j.toNatClampNeg (.int (b2i v)) := by have W' := W; rw [b2i_nar] at W'; exact W'
  rw [(idxN hj).2] at X' W
  refine Go.by st (k T' h' X' e' W ?_)
  have := F0.set W
  show ArrL Z h' a .boolean ((vs.set i v).map (fun b => Value.int (b2i b)))
  rw [List.map_set]; exact this
theorem g_znew_ (X : Stand p l e R s m args below meth c T locs cells slots) (hx : p.tables.exec = Jvm.exec) (hZ : Z.Warmed39 s.vm) (w : (Jvm.Cond.arrayClass .boolean).before a0 Z = true) (eT : T.heap = h) {z : Int32} {n cap : Nat} (hz : z.toInt = (n : Int)) (hn : n ≤ cap) (hb : cap * 8 ≤ 536870912) (hd : decode c.code pc = .ok (.newarray .boolean, 2)) (hq : pc + 2 = q) (hc : cells + 1 ≤ R.cells) (hl : slots + cap ≤ R.slots) (k : ∀ T' h' o, Stand p l e R s m args below meth c T' locs (cells + 1) (slots + cap) → T'.heap = h' → Ext h h' → o = h.size → ZA Z h' o (List.replicate n false) → Go p e below Φ (T'.setTop (mkF m q L (.ref o :: S)))) : Go p e below Φ (T.setTop (mkF m pc L (.int z :: S))) := by
  subst hq
  obtain ⟨T', h', cA, X', e', E, A, st⟩ := newP X hx hZ (aty := .boolean) w eT (g := mkF m pc L (.int z :: S)) rfl hd rfl (idxN hz).1 (cap := cap) (by rw [(idxN hz).2]; exact hn) hb hc hl
  refine Go.by st (k T' h' h.size X' e' E rfl ?_)
  have := ArrL.new A hz
  show ArrL Z h' h.size .boolean _
  rw [List.map_replicate]; exact this
theorem g_bnew_ (X : Stand p l e R s m args below meth c T locs cells slots) (hx : p.tables.exec = Jvm.exec) (hZ : Z.Warmed39 s.vm) (w : (Jvm.Cond.arrayClass .byte).before a0 Z = true) (eT : T.heap = h) {z : Int32} {n cap : Nat} (hz : z.toInt = (n : Int)) (hn : n ≤ cap) (hb : cap * 8 ≤ 536870912) (hd : decode c.code pc = .ok (.newarray .byte, 2)) (hq : pc + 2 = q) (hc : cells + 1 ≤ R.cells) (hl : slots + cap ≤ R.slots) (k : ∀ T' h' o, Stand p l e R s m args below meth c T' locs (cells + 1) (slots + cap) → T'.heap = h' → Ext h h' → o = h.size → ArrL Z h' o .byte (List.replicate n (.int 0)) → Go p e below Φ (T'.setTop (mkF m q L (.ref o :: S)))) : Go p e below Φ (T.setTop (mkF m pc L (.int z :: S))) := by
  subst hq
  obtain ⟨T', h', cA, X', e', E, A, st⟩ := newP X hx hZ (aty := .byte) w eT (g := mkF m pc L (.int z :: S)) rfl hd rfl (idxN hz).1 (cap := cap) (by rw [(idxN hz).2]; exact hn) hb hc hl
  exact Go.by st (k T' h' h.size X' e' E rfl (ArrL.new A hz))
theorem g_bload_ (X : Stand p l e R s m args below meth c T locs cells slots) (hx : p.tables.exec = Jvm.exec) (hZ : Z.Warmed39 s.vm) (eT : T.heap = h) (F : ArrL Z h a .byte vals) {j : Int32} {i : Nat} {v : Int32} (hj : j.toInt = (i : Int)) (hv : vals[i]? = some (.int v)) (hd : decode c.code pc = .ok (.baload, 1)) (hq : pc + 1 = q) (k : Go p e below Φ (T.setTop (mkF m q L (.int v :: S)))) : Go p e below Φ (T.setTop (mkF m pc L (.int j :: .ref a :: S))) := by
  subst hq
  obtain ⟨cl, A, e1, r⟩ := F
  have hi : i < vals.length := (List.getElem?_eq_some_iff.mp hv).1
  have hs : cl.slots.size = vals.length := by rw [e1]; simp
  refine Go.by (X.baloadBytes hx (cell := cl) (j := j) (v := .int v) (by rw [eT]; exact A.1) (State.isArrayOf_alike hZ.alike A.2.1) A.2.2 (idxIn hj (by rw [hs]; exact hi)) (by rw [(idxN hj).2, e1]; simp [hv]) rfl rfl hd) k
theorem g_getS (X : Stand p l e R s m args below meth c T locs cells slots) (hx : p.tables.exec = Jvm.exec) (hZ : Z.Warmed39 s.vm) {own R0 n d : String} {index : Nat} (hown : s.vm.findClass own = some m.cls) (w : (Jvm.Cond.fieldLink own index R0 n d).before a0 Z = true) (eT : T.heap = h) (F : Sta Z h R0 n d v) (hd : decode c.code pc = .ok (.getstatic index, 3)) (hq : pc + 3 = q) (k : ∀ T', Stand p l e R s m args below meth c T' locs cells slots → T'.heap = h → Go p e below Φ (T'.setTop (mkF m q L (v :: S)))) : Go p e below Φ (T.setTop (mkF m pc L S)) := by
  subst hq
  obtain ⟨T', X', e', st⟩ := getS (host := "") X hx hZ hown w Via.refl eT F (g := mkF m pc L S) rfl hd
  exact Go.by st (k T' X' e')
theorem g_alen (X : Stand p l e R s m args below meth c T locs cells slots) (hx : p.tables.exec = Jvm.exec) (hZ : Z.Warmed39 s.vm) (eT : T.heap = h) (F : ArrL Z h a ty vals) {v : Int32} (hv : v.toInt = (vals.length : Int)) (hd : decode c.code pc = .ok (.arraylength, 1)) (hq : pc + 1 = q) (k : Go p e below Φ (T.setTop (mkF m q L (.int v :: S)))) : Go p e below Φ (T.setTop (mkF m pc L (.ref a :: S))) := by
  subst hq
  obtain ⟨cl, A, e1, r⟩ := F
  have hs : cl.slots.size = vals.length := by rw [e1]; simp
  have hz : cl.slots.size.toInt32 = v := Int32.toInt_inj.mp (by rw [hs, len_toInt r]; exact hv.symm)
  refine Go.by (X.arraylength hx (cell := cl) (by rw [eT]; exact A.1) (State.isArrayOf_alike hZ.alike A.2.1) rfl rfl hd) ?_
  rw [hz]; exact k
theorem g_getF (X : Stand p l e R s m args below meth c T locs cells slots) (hx : p.tables.exec = Jvm.exec) (hZ : Z.Warmed39 s.vm) {own R0 n d : String} {index : Nat} (hown : s.vm.findClass own = some m.cls) (w : (Jvm.Cond.fieldLink own index R0 n d).before a0 Z = true) (eT : T.heap = h) (F : Fld Z h a R0 n d v) (hd : decode c.code pc = .ok (.getfield index, 3)) (hq : pc + 3 = q) (k : ∀ T', Stand p l e R s m args below meth c T' locs cells slots → T'.heap = h → Go p e below Φ (T'.setTop (mkF m q L (v :: S)))) : Go p e below Φ (T.setTop (mkF m pc L (.ref a :: S))) := by
  subst hq
  obtain ⟨T', X', e', st⟩ := getF X hx hZ hown (host := "") (Or.inl w) Via.refl eT F (g := mkF m pc L (.ref a :: S)) rfl rfl hd
  exact Go.by st (k T' X' e')
theorem g_putF (X : Stand p l e R s m args below meth c T locs cells slots) (hx : p.tables.exec = Jvm.exec) (hZ : Z.Warmed39 s.vm) {own R0 n d C : String} {index kk : Nat} {ty : FieldType} (hown : s.vm.findClass own = some m.cls) (wl : (Jvm.Cond.fieldLink own index R0 n d).before a0 Z = true) (eT : T.heap = h) (F : Fld Z h a R0 n d w) (E : Exa Z h a C) (Ly : (Jvm.Cond.lays C R0 n d).before a0 Z = true ∨ ((Jvm.Cond.laysFinal C R0 n d).before a0 Z = true ∧ own = R0 ∧ meth.name = "<init>")) (wi : (Jvm.Cond.instantiable C kk).before a0 Z = true) (hty : parseFieldDescriptor d = some ty) (hn : narrow ty v = v) (hf : fits ty v = true) (hd : decode c.code pc = .ok (.putfield index, 3)) (hq : pc + 3 = q) (k : ∀ T' h', Stand p l e R s m args below meth c T' (locs ++ [⟨a, Jvm.RoadKit.slotOf Z R0 n d⟩]) cells slots → T'.heap = h' → Wr h h' a (Jvm.RoadKit.slotOf Z R0 n d) v → Fld Z h' a R0 n d v → Go p e below Φ (T'.setTop (mkF m q L S))) : Go p e below Φ (T.setTop (mkF m pc L (v :: .ref a :: S))) := by
  subst hq
  obtain ⟨T', h', X', e', W, st⟩ := putF X hx hZ hown (host := "") (Or.inl wl) Via.refl eT F E Ly wi hty hn hf (g := mkF m pc L (v :: .ref a :: S)) rfl rfl hd
  exact Go.by st (k T' h' X' e' W (F.same W))
theorem g_newO (X : Stand p l e R s m args below meth c T locs cells slots) (hx : p.tables.exec = Jvm.exec) (hZ : Z.Warmed39 s.vm) {own C : String} {index n : Nat} (hown : s.vm.findClass own = some m.cls) (w : (Jvm.Cond.classLink own index C).before a0 Z = true) (wi : (Jvm.Cond.instantiable C n).before a0 Z = true) (wz : (Jvm.Cond.initialized C).before a0 Z = true) (eT : T.heap = h) (hd : decode c.code pc = .ok (.new index, 3)) (hq : pc + 3 = q) (hc : cells + 1 ≤ R.cells) (hl : slots + n ≤ R.slots) (k : ∀ T' h' o, Stand p l e R s m args below meth c T' locs (cells + 1) (slots + n) → T'.heap = h' → Ext h h' → o = h.size → Exa Z h' o C → (∀ {O nm d : String} {ty : FieldType}, Laid Z a0 C O nm d → parseFieldDescriptor d = some ty → Fld Z h' o O nm d (defaultValue ty)) → Go p e below Φ (T'.setTop (mkF m q L (.ref o :: S)))) : Go p e below Φ (T.setTop (mkF m pc L S)) := by
  subst hq
  obtain ⟨T', h', X', e', E, A, D, -, st⟩ := newO X hx hZ hown w wi wz eT (g := mkF m pc L S) rfl hd hc hl
  exact Go.by st (k T' h' h.size X' e' E rfl A D)
theorem g_initO (X : Stand p l e R s m args below meth c T locs cells slots) (hx : p.tables.exec = Jvm.exec) (hZ : Z.Warmed39 s.vm) {own : String} {index : Nat} (hown : s.vm.findClass own = some m.cls) (w1 : (Jvm.Cond.methodLink own index Lib.objectInit).before a0 Z = true) (w2 : (Jvm.Cond.instanceMethod Lib.objectInit).before a0 Z = true) (w3 : (Jvm.Cond.code Lib.objectInit ⟨#[0xb1]⟩ 1 none).before a0 Z = true) (eT : T.heap = h) (hsz : L.size = c.maxLocals) (hd : decode c.code pc = .ok (.invokespecial index, 3)) (hq : pc + 3 = q) (hf : 1 ≤ R.frames) {W : Nat} (hW : (S.map fun v => v.category).sum = W) (hl : W + 12 ≤ R.locals) (k : ∀ T', Stand p l e R s m args below meth c T' locs cells slots → T'.heap = h → Go p e below Φ (T'.setTop (mkF m q L S))) : Go p e below Φ (T.setTop (mkF m pc L (.ref a :: S))) := by
  subst hq
  obtain ⟨T', X', e', st⟩ := initO X hx hZ hown w1 w2 w3 eT (g := mkF m pc L (.ref a :: S)) rfl hsz rfl hd hf (W := W) (by show 2 * 0 + _ ≤ _; omega) hl
  exact Go.by st (k T' X' e')
theorem g_special (X : Stand p l e R s m args below meth c T locs cells slots) (hx : p.tables.exec = Jvm.exec) (hZ : Z.Warmed39 s.vm) {own : String} {index : Nat} {y : MethodName} {bytes : ByteArray} {maxL : Nat} (hy1 : y.name = "<init>") (hown : s.vm.findClass own = some m.cls) (w1 : (Jvm.Cond.methodLink own index y).before a0 Z = true) (w2 : (Jvm.Cond.instanceMethod y).before a0 Z = true) (w3 : (Jvm.Cond.initialized y.cls).before a0 Z = true) (w4 : (Jvm.Cond.code y bytes maxL none).before a0 Z = true) (hy : y.cls ≠ "java/lang/invoke/MethodHandle" ∧ y.cls ≠ "java/lang/invoke/VarHandle")
    {rm : Room} {as' : Array Value} {Q : Option Value → Heap → List Loc → Prop} (C : Ctr l Z y bytes maxL none rm [] as' h Q) {argsL rest : List Value} {ps : List FieldType} {rt : Option FieldType} (hpd : parseMethodDescriptor y.desc = some ⟨ps, rt⟩) (hlen : argsL.length = ps.length) (hst : S = argsL.reverse ++ .ref a :: rest) (has : (.ref a :: argsL).toArray = as') (hd : decode c.code pc = .ok (.invokespecial index, 3)) (hq : pc + 3 = q) (hsz : L.size = c.maxLocals) (eT : T.heap = h)
    (hf : rm.frames + 1 ≤ R.frames) {W : Nat} (hW : (rest.map fun v => v.category).sum = W) (hl : W + (maxL + 11) + rm.locals ≤ R.locals) (hc : cells + rm.cells ≤ R.cells) (hs : slots + rm.slots ≤ R.slots)
    (k : ∀ v T' Lc, Stand p l e R s m args below meth c T' (locs ++ Lc) (cells + rm.cells) (slots + rm.slots) → Q v T'.heap Lc → Go p e below Φ (T'.setTop (mkF m q L (v.toList ++ rest)))) : Go p e below Φ (T.setTop (mkF m pc L S)) := by
  subst hq has
  obtain ⟨v, _, ⟨T', L', k', n'⟩, -, X', ⟨Lc, hQ, l1, y1, z1⟩, st⟩ := X.specialBack hx (y := y) hy1 hown (mvT hZ w1) (mvT hZ w2) (mvT hZ w4) hy (backOf (W := W) C hZ w4 w3 hf hl) (g := mkF m pc L S) rfl hsz (Steps.refl _) (a := a) (argsL := argsL) (rest := rest) (lenOf hpd hlen) hst (by show 2 * 0 + _ ≤ _; omega) hd (fun _ _ => ⟨rfl, eT, hc, hs⟩)
  dsimp only [Pt.U, Pt.locs, Pt.cells, Pt.slots] at X' l1 y1 z1 st hQ
  subst l1 y1 z1
  exact Go.by (fun _ r => st.trans r) (k v T' Lc X' hQ)
theorem g_virtual (X : Stand p l e R s m args below meth c T locs cells slots) (hx : p.tables.exec = Jvm.exec) (hZ : Z.Warmed39 s.vm) {own C0 : String} {index : Nat} {y : MethodName} {bytes : ByteArray} {maxL : Nat} {ret : Option FieldType} (hown : s.vm.findClass own = some m.cls) (w1 : (Jvm.Cond.methodLink own index y).before a0 Z = true) (w2 : (Jvm.Cond.declares y).before a0 Z = true) (w3 : (Jvm.Cond.selects C0 y y).before a0 Z = true) (w4 : (Jvm.Cond.instanceMethod y).before a0 Z = true) (w5 : (Jvm.Cond.initialized y.cls).before a0 Z = true) (w6 : (Jvm.Cond.code y bytes maxL ret).before a0 Z = true) (hy : y.cls ≠ "java/lang/invoke/MethodHandle" ∧ y.cls ≠ "java/lang/invoke/VarHandle")
    {rm : Room} {as' : Array Value} {Q : Option Value → Heap → List Loc → Prop} (C : Ctr l Z y bytes maxL ret rm [] as' h Q) (Ex : Exa Z h a C0) {argsL rest : List Value} {ps : List FieldType} {rt : Option FieldType} (hpd : parseMethodDescriptor y.desc = some ⟨ps, rt⟩) (hlen : argsL.length = ps.length) (hst : S = argsL.reverse ++ .ref a :: rest) (has : (.ref a :: argsL).toArray = as') (hd : decode c.code pc = .ok (.invokevirtual index, 3)) (hq : pc + 3 = q) (hsz : L.size = c.maxLocals) (eT : T.heap = h)
    (hf : rm.frames + 1 ≤ R.frames) {W : Nat} (hW : (rest.map fun v => v.category).sum = W) (hl : W + (maxL + 11) + rm.locals ≤ R.locals) (hc : cells + rm.cells ≤ R.cells) (hs : slots + rm.slots ≤ R.slots)
    (k : ∀ v T' Lc, Stand p l e R s m args below meth c T' (locs ++ Lc) (cells + rm.cells) (slots + rm.slots) → Q v T'.heap Lc → Go p e below Φ (T'.setTop (mkF m q L (v.toList ++ rest)))) : Go p e below Φ (T.setTop (mkF m pc L S)) := by
  subst hq has
  obtain ⟨cq, kq, qa, qb, qc⟩ := isOf hZ eT Ex
  obtain ⟨v, _, ⟨T', L', k', n'⟩, -, X', ⟨Lc, hQ, l1, y1, z1⟩, st⟩ := X.virtualBack hx (y := y) (z := y) hown (mvT hZ w1) (mvT hZ w2) (notFace_of_selects (args := #[]) (mvT hZ w3)) (mvT hZ w3) (mvT hZ w4) hy (backOf (W := W) C hZ w6 w5 hf hl) qa qc (g := mkF m pc L S) rfl hsz (Steps.refl _) (argsL := argsL) (rest := rest) (lenOf hpd hlen) hst (by show 2 * 0 + _ ≤ _; omega) hd (fun _ _ => ⟨rfl, eT, hc, hs⟩)
  dsimp only [Pt.U, Pt.locs, Pt.cells, Pt.slots] at X' l1 y1 z1 st hQ
  subst l1 y1 z1
  exact Go.by (fun _ r => st.trans r) (k v T' Lc X' hQ)
theorem g_private (X : Stand p l e R s m args below meth c T locs cells slots) (hx : p.tables.exec = Jvm.exec) (hZ : Z.Warmed39 s.vm) {own : String} {index kI : Nat} {y : MethodName} {bytes : ByteArray} {maxL : Nat} {ret : Option FieldType} (hown : s.vm.findClass own = some m.cls) (w1 : (Jvm.Cond.methodLink own index y).before a0 Z = true) (w2 : (Jvm.Cond.instanceMethod y).before a0 Z = true) (w3 : (Jvm.Cond.privateMethod y).before a0 Z = true) (w4 : (Jvm.Cond.instantiable y.cls kI).before a0 Z = true) (w5 : (Jvm.Cond.initialized y.cls).before a0 Z = true) (w6 : (Jvm.Cond.code y bytes maxL ret).before a0 Z = true) (hy : y.cls ≠ "java/lang/invoke/MethodHandle" ∧ y.cls ≠ "java/lang/invoke/VarHandle")
    {rm : Room} {as' : Array Value} {Q : Option Value → Heap → List Loc → Prop} (C : Ctr l Z y bytes maxL ret rm [] as' h Q) (Ex : Exa Z h a y.cls) {argsL rest : List Value} {ps : List FieldType} {rt : Option FieldType} (hpd : parseMethodDescriptor y.desc = some ⟨ps, rt⟩) (hlen : argsL.length = ps.length) (hst : S = argsL.reverse ++ .ref a :: rest) (has : (.ref a :: argsL).toArray = as') (hd : decode c.code pc = .ok (.invokevirtual index, 3)) (hq : pc + 3 = q) (hsz : L.size = c.maxLocals) (eT : T.heap = h)
    (hf : rm.frames + 1 ≤ R.frames) {W : Nat} (hW : (rest.map fun v => v.category).sum = W) (hl : W + (maxL + 11) + rm.locals ≤ R.locals) (hc : cells + rm.cells ≤ R.cells) (hs : slots + rm.slots ≤ R.slots)
    (k : ∀ v T' Lc, Stand p l e R s m args below meth c T' (locs ++ Lc) (cells + rm.cells) (slots + rm.slots) → Q v T'.heap Lc → Go p e below Φ (T'.setTop (mkF m q L (v.toList ++ rest)))) : Go p e below Φ (T.setTop (mkF m pc L S)) := by
  subst hq has
  obtain ⟨cq, q1, q2⟩ := Ex.cell
  have hp : s.PrivateAt y := Cond.privateMethod_at (mvP hZ w3 (args := args))
  obtain ⟨c1, k1, i1, i2, i3, i4, -⟩ := Cond.instantiable_spec (mvT (args := args) hZ w4)
  have hsel : (Jvm.Cond.selects y.cls y y).before args s = true := selects_self_of_private i1 i2 (Bool.or_eq_false_iff.mp i4).1 hp (mvT hZ w2) hy
  obtain ⟨v, _, ⟨T', L', k', n'⟩, -, X', ⟨Lc, hQ, l1, y1, z1⟩, st⟩ := X.privateBack hx (y := y) hown (mvT hZ w1) (mvT hZ w2) hsel hp (mvT hZ w6) hy (backOf (W := W) C hZ w6 w5 hf hl) (g := mkF m pc L S) rfl hsz (Steps.refl _) (a := a) (cell := cq) (by rw [eT]; exact q1) q2 (argsL := argsL) (rest := rest) (lenOf hpd hlen) hst (by show 2 * 0 + _ ≤ _; omega) hd (fun _ _ => ⟨rfl, eT, hc, hs⟩)
  dsimp only [Pt.U, Pt.locs, Pt.cells, Pt.slots] at X' l1 y1 z1 st hQ
  subst l1 y1 z1
  exact Go.by (fun _ r => st.trans r) (k v T' Lc X' hQ)
theorem g_acmp_eq (X : Stand p l e R s m args below meth c T locs cells slots) (hx : p.tables.exec = Jvm.exec) {o : Int} {q0 : Nat} {x y : Addr} (hd : decode c.code pc = .ok (.if_acmp .eq o, 3)) (ho : 0 ≤ (pc : Int) + o) (hq : ((pc : Int) + o).toNat = q) (hq0 : pc + 3 = q0) (k1 : x = y → Go p e below Φ (T.setTop (mkF m q L S))) (k0 : x ≠ y → Go p e below Φ (T.setTop (mkF m q0 L S))) : Go p e below Φ (T.setTop (mkF m pc L (.ref y :: .ref x :: S))) := by
  subst hq0
  by_cases hb : x = y
  · exact Go.by (fun _ => acmp X hx rfl rfl rfl (same := true) rfl hd rfl (by simp [hb]) ho (by rw [if_pos (by rfl)]; exact hq.symm)) (k1 hb)
  · exact Go.by (fun _ => acmp X hx rfl rfl rfl (same := false) rfl hd rfl (by simp [hb]) ho (by rw [if_neg (by decide)])) (k0 hb)
theorem g_acmp_ne (X : Stand p l e R s m args below meth c T locs cells slots) (hx : p.tables.exec = Jvm.exec) {o : Int} {q0 : Nat} {x y : Addr} (hd : decode c.code pc = .ok (.if_acmp .ne o, 3)) (ho : 0 ≤ (pc : Int) + o) (hq : ((pc : Int) + o).toNat = q) (hq0 : pc + 3 = q0) (k1 : x ≠ y → Go p e below Φ (T.setTop (mkF m q L S))) (k0 : x = y → Go p e below Φ (T.setTop (mkF m q0 L S))) : Go p e below Φ (T.setTop (mkF m pc L (.ref y :: .ref x :: S))) := by
  subst hq0
  by_cases hb : x = y
  · exact Go.by (fun _ => acmp X hx rfl rfl rfl (same := true) rfl hd rfl (by simp [hb]) ho (by rw [if_neg (by decide)])) (k0 hb)
  · exact Go.by (fun _ => acmp X hx rfl rfl rfl (same := false) rfl hd rfl (by simp [hb]) ho (by rw [if_pos (by rfl)]; exact hq.symm)) (k1 hb)
theorem g_ifnull_no (X : Stand p l e R s m args below meth c T locs cells slots) (hx : p.tables.exec = Jvm.exec) {o : Int} {y : Addr} (hd : decode c.code pc = .ok (.ifnull o, 3)) (hq : pc + 3 = q) (k : Go p e below Φ (T.setTop (mkF m q L S))) : Go p e below Φ (T.setTop (mkF m pc L (.ref y :: S))) := by
  subst hq; exact Go.by (fun _ => XS.ifnullNo X.here hx rfl hd rfl) k
theorem g_ifnonnull_yes (X : Stand p l e R s m args below meth c T locs cells slots) (hx : p.tables.exec = Jvm.exec) {o : Int} {y : Addr} (hd : decode c.code pc = .ok (.ifnonnull o, 3)) (ho : 0 ≤ (pc : Int) + o) (hq : ((pc : Int) + o).toNat = q) (k : Go p e below Φ (T.setTop (mkF m q L S))) : Go p e below Φ (T.setTop (mkF m pc L (.ref y :: S))) := Go.by (fun _ => XS.ifnonnullYes X.here hx rfl rfl hd rfl ho hq) k
end OwnHeap
theorem own_sh64 : ∀ k : Fin 63, (((-9223372036854775808 : Int64).toUInt64 >>> ((Int32.ofNat (63 - k.val)) &&& 0x3f).toInt64.toUInt64).toInt64).toBitVec = BitVec.twoPow 64 k.val := by decide +kernel
theorem own_hob {x : Int64} {n : Int32} {k : Nat} (hk : k ≤ 62) (hn : n.toInt = 63 - (k : Int)) (h1 : (2 : Int) ^ k ≤ x.toInt) (h2 : x.toInt < 2 ^ (k + 1)) : (x &&& (((-9223372036854775808 : Int64).toUInt64 >>> (n &&& 0x3f).toInt64.toUInt64).toInt64)).toInt = 2 ^ k := by
  have e : n = Int32.ofNat (63 - k) := Int32.toInt_inj.mp (by rw [Int32.toInt_ofNat_of_lt (by omega)]; omega)
  have h3 := own_sh64 ⟨k, by omega⟩
  simp only at h3
  have hp : (0 : Int) < 2 ^ k := Int.pow_pos (by decide)
  have hx : x.toInt = x.toBitVec.toNat := by
    show x.toBitVec.toInt = _
    rw [BitVec.toInt_eq_toNat_cond]
    split
    · rfl
    · exfalso
      have h4 : x.toInt = x.toBitVec.toInt := rfl
      rw [h4, BitVec.toInt_eq_toNat_cond, if_neg (by assumption)] at h1
      have := x.toBitVec.isLt; omega
  have hN1 : 2 ^ k ≤ x.toBitVec.toNat := by rw [hx] at h1; exact_mod_cast h1
  have hN2 : x.toBitVec.toNat < 2 ^ (k + 1) := by rw [hx] at h2; exact_mod_cast h2
  have hb : x.toBitVec.getLsbD k = true := by
    rw [BitVec.getLsbD, Nat.testBit_eq_decide_div_mod_eq]
    have : x.toBitVec.toNat / 2 ^ k = 1 := by
      apply Nat.div_eq_of_lt_le
      · simpa using hN1
      · rw [Nat.pow_succ] at hN2; simpa [Nat.mul_comm] using hN2
    rw [this]; rfl
  subst e
  show (x &&& _).toBitVec.toInt = _
  rw [Int64.toBitVec_and, h3, BitVec.and_twoPow, hb, if_pos rfl, BitVec.toInt_eq_toNat_cond, BitVec.toNat_twoPow_of_lt (by omega), if_pos ?_]
  · simp
  · have : 2 ^ k ≤ 2 ^ 62 := Nat.pow_le_pow_right (by decide) hk
    omega
theorem own_powle {a b : Nat} (h : a ≤ b) : (2 : Int) ^ a ≤ 2 ^ b := by exact_mod_cast Nat.pow_le_pow_right (by decide) h
theorem own_pu {x : Int} {a b : Nat} (h1 : (2 : Int) ^ a ≤ x) (h2 : x < 2 ^ (a + 1)) (h3 : (2 : Int) ^ b ≤ x) (h4 : x < 2 ^ (b + 1)) : a = b := by
  rcases Nat.lt_trichotomy a b with h | h | h
  · have := own_powle (show a + 1 ≤ b by omega); exfalso; exact absurd (Int.lt_of_le_of_lt (Int.le_trans this h3) h2) (Int.lt_irrefl _)
  · exact h
  · have := own_powle (show b + 1 ≤ a by omega); exfalso; exact absurd (Int.lt_of_le_of_lt (Int.le_trans this h1) h4) (Int.lt_irrefl _)
def RM_rm2 : Room := ({ frames := 0, cells := 0, slots := 0, locals := 0 } : Room)
theorem d2_0 : decode jdk_29_method_66_code 0 = .ok (.lload_n 0, 1) := by decide +kernel
theorem d2_1 : decode jdk_29_method_66_code 1 = .ok (.lload_n 2, 1) := by decide +kernel
theorem d2_2 : decode jdk_29_method_66_code 2 = .ok (.lcmp, 1) := by decide +kernel
theorem d2_3 : decode jdk_29_method_66_code 3 = .ok (.ifCond .lt 7, 3) := by decide +kernel
theorem d2_6 : decode jdk_29_method_66_code 6 = .ok (.lload_n 0, 1) := by decide +kernel
theorem d2_7 : decode jdk_29_method_66_code 7 = .ok (.goto 4, 3) := by decide +kernel
theorem d2_10 : decode jdk_29_method_66_code 10 = .ok (.lload_n 2, 1) := by decide +kernel
theorem d2_11 : decode jdk_29_method_66_code 11 = .ok (.lreturn, 1) := by decide +kernel
theorem ef_2 (m : MethodId) (z0 : Int64) (z1 : Int64) : entryFrame m #[.long z0, .long z1] 4 = mkF m 0 #[.val (.long z0), .second, .val (.long z1), .second] [] := by first | (simp [entryFrame, mkF, argsToLocals, Value.category]; done) | rfl
theorem pn_0 : plainFor (⟨"java/lang/Math", "max", "(JJ)J"⟩ : MethodName) = true := by exact (Jvm.Free.JP.mathPlain rfl (by decide +kernel))
set_option maxRecDepth 65536 in
set_option maxHeartbeats 40000000 in
theorem rm2 (l : Launch) (Z : State) (a0 : Array Value) (hw : ∀ d ∈ tables_1, d.before a0 Z = true) (ws : List Jvm.Cond) (ma : Int64) (mb : Int64) (h0 : Heap) (n0 : Nat) (Z0 : n0 ≤ h0.size) :
    Ctr l Z (⟨"java/lang/Math", "max", "(JJ)J"⟩ : MethodName) jdk_29_method_66_code 4 (some .long) RM_rm2 ws #[.long ma, .long mb] h0 (JQ (fun r => ma.toInt ≤ r.toInt ∧ mb.toInt ≤ r.toInt ∧ (r.toInt = ma.toInt ∨ r.toInt = mb.toInt)) h0) := by
  refine Ctr.of pn_0 ?_
  intro p e s m below meth c s₁ hx hby hml hrt hlk hnm hown hZ X0 e0
  have N0 := Fr.nil n0
  refine Go.cast (ef_2 m ma mb) ?_
  refine g_lloadN (q := 1) X0.here hx (hb hby d2_0) rfl rfl ?_
  refine g_lloadN (q := 2) X0.here hx (hb hby d2_1) rfl rfl ?_
  refine g_lcmp_lt (q := 10) (q1 := 3) (q0 := 6) X0.here hx (hb hby d2_2) rfl (hb hby d2_3) (by decide) (by decide) rfl ?_ ?_
  · intro c1
    refine g_lloadN (q := 11) X0.here hx (hb hby d2_10) rfl rfl ?_
    exact g_lreturn X0 hx hlk hrt (hb hby d2_11) (by decide) (by decide) ⟨_, rfl, (show ma.toInt ≤ mb.toInt ∧ mb.toInt ≤ mb.toInt ∧ (mb.toInt = ma.toInt ∨ mb.toInt = mb.toInt) by (try simp only [Int32.reduceToInt, Int64.reduceToInt, true_and, and_true, not_true_eq_false, not_false_eq_true, false_and, or_false, false_or] at c1); have f1 := rng64 mb; (try simp only [Int32.reduceToInt, Int64.reduceToInt] at f1); have f3 := rng64 ma; (try simp only [Int32.reduceToInt, Int64.reduceToInt] at f3); (try simp only [Int32.reduceToInt, Int64.reduceToInt, and_true, true_and, or_true, true_or]); (first | done | omega)), e0, rfl⟩
  · intro c1
    refine g_lloadN (q := 7) X0.here hx (hb hby d2_6) rfl rfl ?_
    refine g_goto (q := 11) X0.here hx (hb hby d2_7) (by decide) (by decide) ?_
    exact g_lreturn X0 hx hlk hrt (hb hby d2_11) (by decide) (by decide) ⟨_, rfl, (show ma.toInt ≤ ma.toInt ∧ mb.toInt ≤ ma.toInt ∧ (ma.toInt = ma.toInt ∨ ma.toInt = mb.toInt) by (try simp only [Int32.reduceToInt, Int64.reduceToInt, true_and, and_true, not_true_eq_false, not_false_eq_true, false_and, or_false, false_or] at c1); have f1 := rng64 mb; (try simp only [Int32.reduceToInt, Int64.reduceToInt] at f1); have f3 := rng64 ma; (try simp only [Int32.reduceToInt, Int64.reduceToInt] at f3); (try simp only [Int32.reduceToInt, Int64.reduceToInt, and_true, true_and, or_true, true_or]); (first | done | omega)), e0, rfl⟩
def RM_rm6 : Room := ({ frames := 0, cells := 0, slots := 0, locals := 0 } : Room)
theorem d6_0 : decode jdk_29_method_70_code 0 = .ok (.lload_n 0, 1) := by decide +kernel
theorem d6_1 : decode jdk_29_method_70_code 1 = .ok (.lload_n 2, 1) := by decide +kernel
theorem d6_2 : decode jdk_29_method_70_code 2 = .ok (.lcmp, 1) := by decide +kernel
theorem d6_3 : decode jdk_29_method_70_code 3 = .ok (.ifCond .gt 7, 3) := by decide +kernel
theorem d6_6 : decode jdk_29_method_70_code 6 = .ok (.lload_n 0, 1) := by decide +kernel
theorem d6_7 : decode jdk_29_method_70_code 7 = .ok (.goto 4, 3) := by decide +kernel
theorem d6_10 : decode jdk_29_method_70_code 10 = .ok (.lload_n 2, 1) := by decide +kernel
theorem d6_11 : decode jdk_29_method_70_code 11 = .ok (.lreturn, 1) := by decide +kernel
theorem ef_6 (m : MethodId) (z0 : Int64) (z1 : Int64) : entryFrame m #[.long z0, .long z1] 4 = mkF m 0 #[.val (.long z0), .second, .val (.long z1), .second] [] := by first | (simp [entryFrame, mkF, argsToLocals, Value.category]; done) | rfl
theorem pn_1 : plainFor (⟨"java/lang/Math", "min", "(JJ)J"⟩ : MethodName) = true := by exact (Jvm.Free.JP.mathPlain rfl (by decide +kernel))
set_option maxRecDepth 65536 in
set_option maxHeartbeats 40000000 in
theorem rm6 (l : Launch) (Z : State) (a0 : Array Value) (hw : ∀ d ∈ tables_1, d.before a0 Z = true) (ws : List Jvm.Cond) (ma : Int64) (mb : Int64) (h0 : Heap) (n0 : Nat) (Z0 : n0 ≤ h0.size) :
    Ctr l Z (⟨"java/lang/Math", "min", "(JJ)J"⟩ : MethodName) jdk_29_method_70_code 4 (some .long) RM_rm6 ws #[.long ma, .long mb] h0 (JQ (fun r => r.toInt ≤ ma.toInt ∧ r.toInt ≤ mb.toInt ∧ (r.toInt = ma.toInt ∨ r.toInt = mb.toInt)) h0) := by
  refine Ctr.of pn_1 ?_
  intro p e s m below meth c s₁ hx hby hml hrt hlk hnm hown hZ X0 e0
  have N0 := Fr.nil n0
  refine Go.cast (ef_6 m ma mb) ?_
  refine g_lloadN (q := 1) X0.here hx (hb hby d6_0) rfl rfl ?_
  refine g_lloadN (q := 2) X0.here hx (hb hby d6_1) rfl rfl ?_
  refine g_lcmp_gt (q := 10) (q1 := 3) (q0 := 6) X0.here hx (hb hby d6_2) rfl (hb hby d6_3) (by decide) (by decide) rfl ?_ ?_
  · intro c1
    refine g_lloadN (q := 11) X0.here hx (hb hby d6_10) rfl rfl ?_
    exact g_lreturn X0 hx hlk hrt (hb hby d6_11) (by decide) (by decide) ⟨_, rfl, (show mb.toInt ≤ ma.toInt ∧ mb.toInt ≤ mb.toInt ∧ (mb.toInt = ma.toInt ∨ mb.toInt = mb.toInt) by (try simp only [Int32.reduceToInt, Int64.reduceToInt, true_and, and_true, not_true_eq_false, not_false_eq_true, false_and, or_false, false_or] at c1); have f1 := rng64 mb; (try simp only [Int32.reduceToInt, Int64.reduceToInt] at f1); have f3 := rng64 ma; (try simp only [Int32.reduceToInt, Int64.reduceToInt] at f3); (try simp only [Int32.reduceToInt, Int64.reduceToInt, and_true, true_and, or_true, true_or]); (first | done | omega)), e0, rfl⟩
  · intro c1
    refine g_lloadN (q := 7) X0.here hx (hb hby d6_6) rfl rfl ?_
    refine g_goto (q := 11) X0.here hx (hb hby d6_7) (by decide) (by decide) ?_
    exact g_lreturn X0 hx hlk hrt (hb hby d6_11) (by decide) (by decide) ⟨_, rfl, (show ma.toInt ≤ ma.toInt ∧ ma.toInt ≤ mb.toInt ∧ (ma.toInt = ma.toInt ∨ ma.toInt = mb.toInt) by (try simp only [Int32.reduceToInt, Int64.reduceToInt, true_and, and_true, not_true_eq_false, not_false_eq_true, false_and, or_false, false_or] at c1); have f1 := rng64 mb; (try simp only [Int32.reduceToInt, Int64.reduceToInt] at f1); have f3 := rng64 ma; (try simp only [Int32.reduceToInt, Int64.reduceToInt] at f3); (try simp only [Int32.reduceToInt, Int64.reduceToInt, and_true, true_and, or_true, true_or]); (first | done | omega)), e0, rfl⟩
def RM_rm5 : Room := ({ frames := 0, cells := 0, slots := 0, locals := 0 } : Room)
theorem d5_0 : decode jdk_33_method_47_code 0 = .ok (.iload_n 0, 1) := by decide +kernel
theorem d5_1 : decode jdk_33_method_47_code 1 = .ok (.ifCond .gt 14, 3) := by decide +kernel
theorem d5_4 : decode jdk_33_method_47_code 4 = .ok (.iload_n 0, 1) := by decide +kernel
theorem d5_5 : decode jdk_33_method_47_code 5 = .ok (.ifCond .ne 8, 3) := by decide +kernel
theorem d5_8 : decode jdk_33_method_47_code 8 = .ok (.bipush 32, 2) := by decide +kernel
theorem d5_10 : decode jdk_33_method_47_code 10 = .ok (.goto 4, 3) := by decide +kernel
theorem d5_13 : decode jdk_33_method_47_code 13 = .ok (.iconst 0, 1) := by decide +kernel
theorem d5_14 : decode jdk_33_method_47_code 14 = .ok (.ireturn, 1) := by decide +kernel
theorem d5_15 : decode jdk_33_method_47_code 15 = .ok (.bipush 31, 2) := by decide +kernel
theorem d5_17 : decode jdk_33_method_47_code 17 = .ok (.istore_n 1, 1) := by decide +kernel
theorem d5_18 : decode jdk_33_method_47_code 18 = .ok (.iload_n 0, 1) := by decide +kernel
theorem d5_19 : decode jdk_33_method_47_code 19 = .ok (.ldc_w 264, 3) := by decide +kernel
theorem d5_22 : decode jdk_33_method_47_code 22 = .ok (.if_icmp .lt 11, 3) := by decide +kernel
theorem d5_25 : decode jdk_33_method_47_code 25 = .ok (.iinc 1 (-16), 3) := by decide +kernel
theorem d5_28 : decode jdk_33_method_47_code 28 = .ok (.iload_n 0, 1) := by decide +kernel
theorem d5_29 : decode jdk_33_method_47_code 29 = .ok (.bipush 16, 2) := by decide +kernel
theorem d5_31 : decode jdk_33_method_47_code 31 = .ok (.iushr, 1) := by decide +kernel
theorem d5_32 : decode jdk_33_method_47_code 32 = .ok (.istore_n 0, 1) := by decide +kernel
theorem d5_33 : decode jdk_33_method_47_code 33 = .ok (.iload_n 0, 1) := by decide +kernel
theorem d5_34 : decode jdk_33_method_47_code 34 = .ok (.sipush 256, 3) := by decide +kernel
theorem d5_37 : decode jdk_33_method_47_code 37 = .ok (.if_icmp .lt 11, 3) := by decide +kernel
theorem d5_40 : decode jdk_33_method_47_code 40 = .ok (.iinc 1 (-8), 3) := by decide +kernel
theorem d5_43 : decode jdk_33_method_47_code 43 = .ok (.iload_n 0, 1) := by decide +kernel
theorem d5_44 : decode jdk_33_method_47_code 44 = .ok (.bipush 8, 2) := by decide +kernel
theorem d5_46 : decode jdk_33_method_47_code 46 = .ok (.iushr, 1) := by decide +kernel
theorem d5_47 : decode jdk_33_method_47_code 47 = .ok (.istore_n 0, 1) := by decide +kernel
theorem d5_48 : decode jdk_33_method_47_code 48 = .ok (.iload_n 0, 1) := by decide +kernel
theorem d5_49 : decode jdk_33_method_47_code 49 = .ok (.bipush 16, 2) := by decide +kernel
theorem d5_51 : decode jdk_33_method_47_code 51 = .ok (.if_icmp .lt 10, 3) := by decide +kernel
theorem d5_54 : decode jdk_33_method_47_code 54 = .ok (.iinc 1 (-4), 3) := by decide +kernel
theorem d5_57 : decode jdk_33_method_47_code 57 = .ok (.iload_n 0, 1) := by decide +kernel
theorem d5_58 : decode jdk_33_method_47_code 58 = .ok (.iconst 4, 1) := by decide +kernel
theorem d5_59 : decode jdk_33_method_47_code 59 = .ok (.iushr, 1) := by decide +kernel
theorem d5_60 : decode jdk_33_method_47_code 60 = .ok (.istore_n 0, 1) := by decide +kernel
theorem d5_61 : decode jdk_33_method_47_code 61 = .ok (.iload_n 0, 1) := by decide +kernel
theorem d5_62 : decode jdk_33_method_47_code 62 = .ok (.iconst 4, 1) := by decide +kernel
theorem d5_63 : decode jdk_33_method_47_code 63 = .ok (.if_icmp .lt 10, 3) := by decide +kernel
theorem d5_66 : decode jdk_33_method_47_code 66 = .ok (.iinc 1 (-2), 3) := by decide +kernel
theorem d5_69 : decode jdk_33_method_47_code 69 = .ok (.iload_n 0, 1) := by decide +kernel
theorem d5_70 : decode jdk_33_method_47_code 70 = .ok (.iconst 2, 1) := by decide +kernel
theorem d5_71 : decode jdk_33_method_47_code 71 = .ok (.iushr, 1) := by decide +kernel
theorem d5_72 : decode jdk_33_method_47_code 72 = .ok (.istore_n 0, 1) := by decide +kernel
theorem d5_73 : decode jdk_33_method_47_code 73 = .ok (.iload_n 1, 1) := by decide +kernel
theorem d5_74 : decode jdk_33_method_47_code 74 = .ok (.iload_n 0, 1) := by decide +kernel
theorem d5_75 : decode jdk_33_method_47_code 75 = .ok (.iconst 1, 1) := by decide +kernel
theorem d5_76 : decode jdk_33_method_47_code 76 = .ok (.iushr, 1) := by decide +kernel
theorem d5_77 : decode jdk_33_method_47_code 77 = .ok (.isub, 1) := by decide +kernel
theorem d5_78 : decode jdk_33_method_47_code 78 = .ok (.ireturn, 1) := by decide +kernel
theorem ef_5 (m : MethodId) (z0 : Int32) : entryFrame m #[.int z0] 2 = mkF m 0 #[.val (.int z0), .unset] [] := by first | (simp [entryFrame, mkF, argsToLocals, Value.category]; done) | rfl
theorem pn_2 : plainName "java/lang/Integer" = true := by first | (simp [plainName, overriddenIn]; done) | decide +kernel
set_option maxRecDepth 65536 in
set_option maxHeartbeats 40000000 in
theorem rm5 (l : Launch) (Z : State) (a0 : Array Value) (hw : ∀ d ∈ tables_1, d.before a0 Z = true) (ws : List Jvm.Cond) (ni : Int32) (h0 : Heap) (n0 : Nat) (Z0 : n0 ≤ h0.size) :
    Ctr l Z (⟨"java/lang/Integer", "numberOfLeadingZeros", "(I)I"⟩ : MethodName) jdk_33_method_47_code 2 (some .int) RM_rm5 ws #[.int ni] h0 (IQ (fun r => (ni.toInt < 0 ∧ r.toInt = 0) ∨ (ni.toInt = 0 ∧ r.toInt = 32) ∨ (∃ k : Nat, k ≤ 30 ∧ r.toInt = 31 - (k : Int) ∧ (2 : Int) ^ k ≤ ni.toInt ∧ ni.toInt < 2 ^ (k + 1))) h0) := by
  refine Ctr.of (plainFor_of_name pn_2) ?_
  intro p e s m below meth c s₁ hx hby hml hrt hlk hnm hown hZ X0 e0
  have N0 := Fr.nil n0
  refine Go.cast (ef_5 m ni) ?_
  refine g_iloadN (q := 1) X0.here hx (hb hby d5_0) rfl rfl ?_
  refine g_if_gt (q := 15) (q0 := 4) X0.here hx (hb hby d5_1) (by decide) (by decide) rfl ?_ ?_
  · intro c1
    refine g_bipush (q := 17) (v := (31 : Int32)) X0.here hx (hb hby d5_15) rfl rfl ?_
    refine g_istoreN (q := 18) (L' := #[.val (.int ni), .val (.int (31 : Int32))]) X0.here hx (hb hby d5_17) rfl rfl ?_
    refine g_iloadN (q := 19) X0.here hx (hb hby d5_18) rfl rfl ?_
    refine g_ldcWI (q := 22) X0 hx hZ hown (hw _ (List.mem_of_getElem? (i := 26) rfl)) (hb hby d5_19) rfl ?_
    refine g_icmp_lt (q := 33) (q0 := 25) X0.here hx (hb hby d5_22) (by decide) (by decide) rfl ?_ ?_
    · intro c2
      refine g_iloadN (q := 34) X0.here hx (hb hby d5_33) rfl rfl ?_
      refine g_sipush (q := 37) (v := (256 : Int32)) X0.here hx (hb hby d5_34) rfl rfl ?_
      refine g_icmp_lt (q := 48) (q0 := 40) X0.here hx (hb hby d5_37) (by decide) (by decide) rfl ?_ ?_
      · intro c3
        refine g_iloadN (q := 49) X0.here hx (hb hby d5_48) rfl rfl ?_
        refine g_bipush (q := 51) (v := (16 : Int32)) X0.here hx (hb hby d5_49) rfl rfl ?_
        refine g_icmp_lt (q := 61) (q0 := 54) X0.here hx (hb hby d5_51) (by decide) (by decide) rfl ?_ ?_
        · intro c4
          refine g_iloadN (q := 62) X0.here hx (hb hby d5_61) rfl rfl ?_
          refine g_iconst (q := 63) (v := (4 : Int32)) X0.here hx (hb hby d5_62) rfl rfl ?_
          refine g_icmp_lt (q := 73) (q0 := 66) X0.here hx (hb hby d5_63) (by decide) (by decide) rfl ?_ ?_
          · intro c5
            refine g_iloadN (q := 74) X0.here hx (hb hby d5_73) rfl rfl ?_
            refine g_iloadN (q := 75) X0.here hx (hb hby d5_74) rfl rfl ?_
            refine g_iconst (q := 76) (v := (1 : Int32)) X0.here hx (hb hby d5_75) rfl rfl ?_
            refine g_iushr (q := 77) X0.here hx (hb hby d5_76) rfl ?_
            refine g_isub (q := 78) X0.here hx (hb hby d5_77) rfl ?_
            exact g_ireturn X0 hx hlk hrt (hb hby d5_78) (by decide) (by decide) ⟨_, rfl, (show (ni.toInt < 0 ∧ ((31 : Int32) - ((ni.toUInt32 >>> ((1 : Int32) &&& 31).toUInt32).toInt32)).toInt = 0) ∨ (ni.toInt = 0 ∧ ((31 : Int32) - ((ni.toUInt32 >>> ((1 : Int32) &&& 31).toUInt32).toInt32)).toInt = 32) ∨ (∃ k : Nat, k ≤ 30 ∧ ((31 : Int32) - ((ni.toUInt32 >>> ((1 : Int32) &&& 31).toUInt32).toInt32)).toInt = 31 - (k : Int) ∧ (2 : Int) ^ k ≤ ni.toInt ∧ ni.toInt < 2 ^ (k + 1)) by (try simp only [Int32.reduceToInt, Int64.reduceToInt, true_and, and_true, not_true_eq_false, not_false_eq_true, false_and, or_false, false_or] at c1); (try simp only [Int32.reduceToInt, Int64.reduceToInt, true_and, and_true, not_true_eq_false, not_false_eq_true, false_and, or_false, false_or] at c2); (try simp only [Int32.reduceToInt, Int64.reduceToInt, true_and, and_true, not_true_eq_false, not_false_eq_true, false_and, or_false, false_or] at c3); (try simp only [Int32.reduceToInt, Int64.reduceToInt, true_and, and_true, not_true_eq_false, not_false_eq_true, false_and, or_false, false_or] at c4); (try simp only [Int32.reduceToInt, Int64.reduceToInt, true_and, and_true, not_true_eq_false, not_false_eq_true, false_and, or_false, false_or] at c5); have f1 := rng32 ni; (try simp only [Int32.reduceToInt, Int64.reduceToInt] at f1); have f4 := rng32 ((ni.toUInt32 >>> ((1 : Int32) &&& 31).toUInt32).toInt32); (try simp only [Int32.reduceToInt, Int64.reduceToInt] at f4); have f5 := c_iushr ni (1 : Int32) 1 (by decide) (by decide); (try simp only [Int32.reduceToInt, Int64.reduceToInt] at f5); (try have f5e : ((ni.toUInt32 >>> ((1 : Int32) &&& 31).toUInt32).toInt32).toInt = ni.toInt / 2 := (by omega)); have f6 := rng32 ((31 : Int32) - ((ni.toUInt32 >>> ((1 : Int32) &&& 31).toUInt32).toInt32)); (try simp only [Int32.reduceToInt, Int64.reduceToInt] at f6); have f7 := c_isub (31 : Int32) ((ni.toUInt32 >>> ((1 : Int32) &&& 31).toUInt32).toInt32); (try simp only [Int32.reduceToInt, Int64.reduceToInt] at f7); (try have f7e : ((31 : Int32) - ((ni.toUInt32 >>> ((1 : Int32) &&& 31).toUInt32).toInt32)).toInt = (31 : Int) - ((ni.toUInt32 >>> ((1 : Int32) &&& 31).toUInt32).toInt32).toInt := (by omega)); (try simp only [Int32.reduceToInt, Int64.reduceToInt, and_true, true_and, or_true, true_or]); skip; have hu : ((ni.toUInt32 >>> ((1 : Int32) &&& 31).toUInt32).toInt32).toInt = 0 ∨ ((ni.toUInt32 >>> ((1 : Int32) &&& 31).toUInt32).toInt32).toInt = 1 := (by omega); rcases hu with hu | hu; exact Or.inr (Or.inr ⟨0, by decide, by omega, by omega, by omega⟩); first | exact Or.inr (Or.inr ⟨1, by decide, by omega, by omega, by omega⟩) | (exfalso; omega)), e0, rfl⟩
          · intro c5
            refine g_iinc (q := 69) (v := (29 : Int32)) (L' := #[.val (.int ni), .val (.int (29 : Int32))]) X0.here hx (hb hby d5_66) rfl rfl rfl rfl ?_
            refine g_iloadN (q := 70) X0.here hx (hb hby d5_69) rfl rfl ?_
            refine g_iconst (q := 71) (v := (2 : Int32)) X0.here hx (hb hby d5_70) rfl rfl ?_
            refine g_iushr (q := 72) X0.here hx (hb hby d5_71) rfl ?_
            refine g_istoreN (q := 73) (L' := #[.val (.int ((ni.toUInt32 >>> ((2 : Int32) &&& 31).toUInt32).toInt32)), .val (.int (29 : Int32))]) X0.here hx (hb hby d5_72) rfl rfl ?_
            refine g_iloadN (q := 74) X0.here hx (hb hby d5_73) rfl rfl ?_
            refine g_iloadN (q := 75) X0.here hx (hb hby d5_74) rfl rfl ?_
            refine g_iconst (q := 76) (v := (1 : Int32)) X0.here hx (hb hby d5_75) rfl rfl ?_
            refine g_iushr (q := 77) X0.here hx (hb hby d5_76) rfl ?_
            refine g_isub (q := 78) X0.here hx (hb hby d5_77) rfl ?_
            exact g_ireturn X0 hx hlk hrt (hb hby d5_78) (by decide) (by decide) ⟨_, rfl, (show (ni.toInt < 0 ∧ ((29 : Int32) - ((((ni.toUInt32 >>> ((2 : Int32) &&& 31).toUInt32).toInt32).toUInt32 >>> ((1 : Int32) &&& 31).toUInt32).toInt32)).toInt = 0) ∨ (ni.toInt = 0 ∧ ((29 : Int32) - ((((ni.toUInt32 >>> ((2 : Int32) &&& 31).toUInt32).toInt32).toUInt32 >>> ((1 : Int32) &&& 31).toUInt32).toInt32)).toInt = 32) ∨ (∃ k : Nat, k ≤ 30 ∧ ((29 : Int32) - ((((ni.toUInt32 >>> ((2 : Int32) &&& 31).toUInt32).toInt32).toUInt32 >>> ((1 : Int32) &&& 31).toUInt32).toInt32)).toInt = 31 - (k : Int) ∧ (2 : Int) ^ k ≤ ni.toInt ∧ ni.toInt < 2 ^ (k + 1)) by (try simp only [Int32.reduceToInt, Int64.reduceToInt, true_and, and_true, not_true_eq_false, not_false_eq_true, false_and, or_false, false_or] at c1); (try simp only [Int32.reduceToInt, Int64.reduceToInt, true_and, and_true, not_true_eq_false, not_false_eq_true, false_and, or_false, false_or] at c2); (try simp only [Int32.reduceToInt, Int64.reduceToInt, true_and, and_true, not_true_eq_false, not_false_eq_true, false_and, or_false, false_or] at c3); (try simp only [Int32.reduceToInt, Int64.reduceToInt, true_and, and_true, not_true_eq_false, not_false_eq_true, false_and, or_false, false_or] at c4); (try simp only [Int32.reduceToInt, Int64.reduceToInt, true_and, and_true, not_true_eq_false, not_false_eq_true, false_and, or_false, false_or] at c5); have f1 := rng32 ni; (try simp only [Int32.reduceToInt, Int64.reduceToInt] at f1); have f5 := rng32 ((ni.toUInt32 >>> ((2 : Int32) &&& 31).toUInt32).toInt32); (try simp only [Int32.reduceToInt, Int64.reduceToInt] at f5); have f6 := c_iushr ni (2 : Int32) 2 (by decide) (by decide); (try simp only [Int32.reduceToInt, Int64.reduceToInt] at f6); (try have f6e : ((ni.toUInt32 >>> ((2 : Int32) &&& 31).toUInt32).toInt32).toInt = ni.toInt / 4 := (by omega)); have f7 := rng32 ((((ni.toUInt32 >>> ((2 : Int32) &&& 31).toUInt32).toInt32).toUInt32 >>> ((1 : Int32) &&& 31).toUInt32).toInt32); (try simp only [Int32.reduceToInt, Int64.reduceToInt] at f7); have f8 := c_iushr ((ni.toUInt32 >>> ((2 : Int32) &&& 31).toUInt32).toInt32) (1 : Int32) 1 (by decide) (by decide); (try simp only [Int32.reduceToInt, Int64.reduceToInt] at f8); (try have f8e : ((((ni.toUInt32 >>> ((2 : Int32) &&& 31).toUInt32).toInt32).toUInt32 >>> ((1 : Int32) &&& 31).toUInt32).toInt32).toInt = ((ni.toUInt32 >>> ((2 : Int32) &&& 31).toUInt32).toInt32).toInt / 2 := (by omega)); have f9 := rng32 ((29 : Int32) - ((((ni.toUInt32 >>> ((2 : Int32) &&& 31).toUInt32).toInt32).toUInt32 >>> ((1 : Int32) &&& 31).toUInt32).toInt32)); (try simp only [Int32.reduceToInt, Int64.reduceToInt] at f9); have f10 := c_isub (29 : Int32) ((((ni.toUInt32 >>> ((2 : Int32) &&& 31).toUInt32).toInt32).toUInt32 >>> ((1 : Int32) &&& 31).toUInt32).toInt32); (try simp only [Int32.reduceToInt, Int64.reduceToInt] at f10); (try have f10e : ((29 : Int32) - ((((ni.toUInt32 >>> ((2 : Int32) &&& 31).toUInt32).toInt32).toUInt32 >>> ((1 : Int32) &&& 31).toUInt32).toInt32)).toInt = (29 : Int) - ((((ni.toUInt32 >>> ((2 : Int32) &&& 31).toUInt32).toInt32).toUInt32 >>> ((1 : Int32) &&& 31).toUInt32).toInt32).toInt := (by omega)); (try simp only [Int32.reduceToInt, Int64.reduceToInt, and_true, true_and, or_true, true_or]); skip; have hu : ((((ni.toUInt32 >>> ((2 : Int32) &&& 31).toUInt32).toInt32).toUInt32 >>> ((1 : Int32) &&& 31).toUInt32).toInt32).toInt = 0 ∨ ((((ni.toUInt32 >>> ((2 : Int32) &&& 31).toUInt32).toInt32).toUInt32 >>> ((1 : Int32) &&& 31).toUInt32).toInt32).toInt = 1 := (by omega); rcases hu with hu | hu; exact Or.inr (Or.inr ⟨2, by decide, by omega, by omega, by omega⟩); first | exact Or.inr (Or.inr ⟨3, by decide, by omega, by omega, by omega⟩) | (exfalso; omega)), e0, rfl⟩
        · intro c4
          refine g_iinc (q := 57) (v := (27 : Int32)) (L' := #[.val (.int ni), .val (.int (27 : Int32))]) X0.here hx (hb hby d5_54) rfl rfl rfl rfl ?_
          refine g_iloadN (q := 58) X0.here hx (hb hby d5_57) rfl rfl ?_
          refine g_iconst (q := 59) (v := (4 : Int32)) X0.here hx (hb hby d5_58) rfl rfl ?_
          refine g_iushr (q := 60) X0.here hx (hb hby d5_59) rfl ?_
          refine g_istoreN (q := 61) (L' := #[.val (.int ((ni.toUInt32 >>> ((4 : Int32) &&& 31).toUInt32).toInt32)), .val (.int (27 : Int32))]) X0.here hx (hb hby d5_60) rfl rfl ?_
          refine g_iloadN (q := 62) X0.here hx (hb hby d5_61) rfl rfl ?_
          refine g_iconst (q := 63) (v := (4 : Int32)) X0.here hx (hb hby d5_62) rfl rfl ?_
          refine g_icmp_lt (q := 73) (q0 := 66) X0.here hx (hb hby d5_63) (by decide) (by decide) rfl ?_ ?_
          · intro c6
            refine g_iloadN (q := 74) X0.here hx (hb hby d5_73) rfl rfl ?_
            refine g_iloadN (q := 75) X0.here hx (hb hby d5_74) rfl rfl ?_
            refine g_iconst (q := 76) (v := (1 : Int32)) X0.here hx (hb hby d5_75) rfl rfl ?_
            refine g_iushr (q := 77) X0.here hx (hb hby d5_76) rfl ?_
            refine g_isub (q := 78) X0.here hx (hb hby d5_77) rfl ?_
            exact g_ireturn X0 hx hlk hrt (hb hby d5_78) (by decide) (by decide) ⟨_, rfl, (show (ni.toInt < 0 ∧ ((27 : Int32) - ((((ni.toUInt32 >>> ((4 : Int32) &&& 31).toUInt32).toInt32).toUInt32 >>> ((1 : Int32) &&& 31).toUInt32).toInt32)).toInt = 0) ∨ (ni.toInt = 0 ∧ ((27 : Int32) - ((((ni.toUInt32 >>> ((4 : Int32) &&& 31).toUInt32).toInt32).toUInt32 >>> ((1 : Int32) &&& 31).toUInt32).toInt32)).toInt = 32) ∨ (∃ k : Nat, k ≤ 30 ∧ ((27 : Int32) - ((((ni.toUInt32 >>> ((4 : Int32) &&& 31).toUInt32).toInt32).toUInt32 >>> ((1 : Int32) &&& 31).toUInt32).toInt32)).toInt = 31 - (k : Int) ∧ (2 : Int) ^ k ≤ ni.toInt ∧ ni.toInt < 2 ^ (k + 1)) by (try simp only [Int32.reduceToInt, Int64.reduceToInt, true_and, and_true, not_true_eq_false, not_false_eq_true, false_and, or_false, false_or] at c1); (try simp only [Int32.reduceToInt, Int64.reduceToInt, true_and, and_true, not_true_eq_false, not_false_eq_true, false_and, or_false, false_or] at c2); (try simp only [Int32.reduceToInt, Int64.reduceToInt, true_and, and_true, not_true_eq_false, not_false_eq_true, false_and, or_false, false_or] at c3); (try simp only [Int32.reduceToInt, Int64.reduceToInt, true_and, and_true, not_true_eq_false, not_false_eq_true, false_and, or_false, false_or] at c4); (try simp only [Int32.reduceToInt, Int64.reduceToInt, true_and, and_true, not_true_eq_false, not_false_eq_true, false_and, or_false, false_or] at c6); have f1 := rng32 ni; (try simp only [Int32.reduceToInt, Int64.reduceToInt] at f1); have f3 := rng32 ((ni.toUInt32 >>> ((4 : Int32) &&& 31).toUInt32).toInt32); (try simp only [Int32.reduceToInt, Int64.reduceToInt] at f3); have f4 := c_iushr ni (4 : Int32) 4 (by decide) (by decide); (try simp only [Int32.reduceToInt, Int64.reduceToInt] at f4); (try have f4e : ((ni.toUInt32 >>> ((4 : Int32) &&& 31).toUInt32).toInt32).toInt = ni.toInt / 16 := (by omega)); have f7 := rng32 ((((ni.toUInt32 >>> ((4 : Int32) &&& 31).toUInt32).toInt32).toUInt32 >>> ((1 : Int32) &&& 31).toUInt32).toInt32); (try simp only [Int32.reduceToInt, Int64.reduceToInt] at f7); have f8 := c_iushr ((ni.toUInt32 >>> ((4 : Int32) &&& 31).toUInt32).toInt32) (1 : Int32) 1 (by decide) (by decide); (try simp only [Int32.reduceToInt, Int64.reduceToInt] at f8); (try have f8e : ((((ni.toUInt32 >>> ((4 : Int32) &&& 31).toUInt32).toInt32).toUInt32 >>> ((1 : Int32) &&& 31).toUInt32).toInt32).toInt = ((ni.toUInt32 >>> ((4 : Int32) &&& 31).toUInt32).toInt32).toInt / 2 := (by omega)); have f9 := rng32 ((27 : Int32) - ((((ni.toUInt32 >>> ((4 : Int32) &&& 31).toUInt32).toInt32).toUInt32 >>> ((1 : Int32) &&& 31).toUInt32).toInt32)); (try simp only [Int32.reduceToInt, Int64.reduceToInt] at f9); have f10 := c_isub (27 : Int32) ((((ni.toUInt32 >>> ((4 : Int32) &&& 31).toUInt32).toInt32).toUInt32 >>> ((1 : Int32) &&& 31).toUInt32).toInt32); (try simp only [Int32.reduceToInt, Int64.reduceToInt] at f10); (try have f10e : ((27 : Int32) - ((((ni.toUInt32 >>> ((4 : Int32) &&& 31).toUInt32).toInt32).toUInt32 >>> ((1 : Int32) &&& 31).toUInt32).toInt32)).toInt = (27 : Int) - ((((ni.toUInt32 >>> ((4 : Int32) &&& 31).toUInt32).toInt32).toUInt32 >>> ((1 : Int32) &&& 31).toUInt32).toInt32).toInt := (by omega)); (try simp only [Int32.reduceToInt, Int64.reduceToInt, and_true, true_and, or_true, true_or]); skip; have hu : ((((ni.toUInt32 >>> ((4 : Int32) &&& 31).toUInt32).toInt32).toUInt32 >>> ((1 : Int32) &&& 31).toUInt32).toInt32).toInt = 0 ∨ ((((ni.toUInt32 >>> ((4 : Int32) &&& 31).toUInt32).toInt32).toUInt32 >>> ((1 : Int32) &&& 31).toUInt32).toInt32).toInt = 1 := (by omega); rcases hu with hu | hu; exact Or.inr (Or.inr ⟨4, by decide, by omega, by omega, by omega⟩); first | exact Or.inr (Or.inr ⟨5, by decide, by omega, by omega, by omega⟩) | (exfalso; omega)), e0, rfl⟩
          · intro c6
            refine g_iinc (q := 69) (v := (25 : Int32)) (L' := #[.val (.int ((ni.toUInt32 >>> ((4 : Int32) &&& 31).toUInt32).toInt32)), .val (.int (25 : Int32))]) X0.here hx (hb hby d5_66) rfl rfl rfl rfl ?_
            refine g_iloadN (q := 70) X0.here hx (hb hby d5_69) rfl rfl ?_
            refine g_iconst (q := 71) (v := (2 : Int32)) X0.here hx (hb hby d5_70) rfl rfl ?_
            refine g_iushr (q := 72) X0.here hx (hb hby d5_71) rfl ?_
            generalize hv_v7 : ((((ni.toUInt32 >>> ((4 : Int32) &&& 31).toUInt32).toInt32).toUInt32 >>> ((2 : Int32) &&& 31).toUInt32).toInt32) = v7
            refine g_istoreN (q := 73) (L' := #[.val (.int v7), .val (.int (25 : Int32))]) X0.here hx (hb hby d5_72) rfl rfl ?_
            refine g_iloadN (q := 74) X0.here hx (hb hby d5_73) rfl rfl ?_
            refine g_iloadN (q := 75) X0.here hx (hb hby d5_74) rfl rfl ?_
            refine g_iconst (q := 76) (v := (1 : Int32)) X0.here hx (hb hby d5_75) rfl rfl ?_
            refine g_iushr (q := 77) X0.here hx (hb hby d5_76) rfl ?_
            refine g_isub (q := 78) X0.here hx (hb hby d5_77) rfl ?_
            exact g_ireturn X0 hx hlk hrt (hb hby d5_78) (by decide) (by decide) ⟨_, rfl, (show (ni.toInt < 0 ∧ ((25 : Int32) - ((v7.toUInt32 >>> ((1 : Int32) &&& 31).toUInt32).toInt32)).toInt = 0) ∨ (ni.toInt = 0 ∧ ((25 : Int32) - ((v7.toUInt32 >>> ((1 : Int32) &&& 31).toUInt32).toInt32)).toInt = 32) ∨ (∃ k : Nat, k ≤ 30 ∧ ((25 : Int32) - ((v7.toUInt32 >>> ((1 : Int32) &&& 31).toUInt32).toInt32)).toInt = 31 - (k : Int) ∧ (2 : Int) ^ k ≤ ni.toInt ∧ ni.toInt < 2 ^ (k + 1)) by (try simp only [Int32.reduceToInt, Int64.reduceToInt, true_and, and_true, not_true_eq_false, not_false_eq_true, false_and, or_false, false_or] at c1); (try simp only [Int32.reduceToInt, Int64.reduceToInt, true_and, and_true, not_true_eq_false, not_false_eq_true, false_and, or_false, false_or] at c2); (try simp only [Int32.reduceToInt, Int64.reduceToInt, true_and, and_true, not_true_eq_false, not_false_eq_true, false_and, or_false, false_or] at c3); (try simp only [Int32.reduceToInt, Int64.reduceToInt, true_and, and_true, not_true_eq_false, not_false_eq_true, false_and, or_false, false_or] at c4); (try simp only [Int32.reduceToInt, Int64.reduceToInt, true_and, and_true, not_true_eq_false, not_false_eq_true, false_and, or_false, false_or] at c6); (try simp only [Int32.reduceToInt, Int64.reduceToInt, true_and, and_true, not_true_eq_false, not_false_eq_true, false_and, or_false, false_or] at hv_v7); have f1 := rng32 ni; (try simp only [Int32.reduceToInt, Int64.reduceToInt] at f1); have f3 := rng32 ((ni.toUInt32 >>> ((4 : Int32) &&& 31).toUInt32).toInt32); (try simp only [Int32.reduceToInt, Int64.reduceToInt] at f3); have f4 := c_iushr ni (4 : Int32) 4 (by decide) (by decide); (try simp only [Int32.reduceToInt, Int64.reduceToInt] at f4); (try have f4e : ((ni.toUInt32 >>> ((4 : Int32) &&& 31).toUInt32).toInt32).toInt = ni.toInt / 16 := (by omega)); have f9 := rng32 ((((ni.toUInt32 >>> ((4 : Int32) &&& 31).toUInt32).toInt32).toUInt32 >>> ((2 : Int32) &&& 31).toUInt32).toInt32); (try simp only [Int32.reduceToInt, Int64.reduceToInt] at f9); have f10 := c_iushr ((ni.toUInt32 >>> ((4 : Int32) &&& 31).toUInt32).toInt32) (2 : Int32) 2 (by decide) (by decide); (try simp only [Int32.reduceToInt, Int64.reduceToInt] at f10); (try have f10e : ((((ni.toUInt32 >>> ((4 : Int32) &&& 31).toUInt32).toInt32).toUInt32 >>> ((2 : Int32) &&& 31).toUInt32).toInt32).toInt = ((ni.toUInt32 >>> ((4 : Int32) &&& 31).toUInt32).toInt32).toInt / 4 := (by omega)); have f11 := congrArg Int32.toInt hv_v7; (try simp only [Int32.reduceToInt, Int64.reduceToInt] at f11); have f12 := rng32 v7; (try simp only [Int32.reduceToInt, Int64.reduceToInt] at f12); have f13 := rng32 ((v7.toUInt32 >>> ((1 : Int32) &&& 31).toUInt32).toInt32); (try simp only [Int32.reduceToInt, Int64.reduceToInt] at f13); have f14 := c_iushr v7 (1 : Int32) 1 (by decide) (by decide); (try simp only [Int32.reduceToInt, Int64.reduceToInt] at f14); (try have f14e : ((v7.toUInt32 >>> ((1 : Int32) &&& 31).toUInt32).toInt32).toInt = v7.toInt / 2 := (by omega)); have f15 := rng32 ((25 : Int32) - ((v7.toUInt32 >>> ((1 : Int32) &&& 31).toUInt32).toInt32)); (try simp only [Int32.reduceToInt, Int64.reduceToInt] at f15); have f16 := c_isub (25 : Int32) ((v7.toUInt32 >>> ((1 : Int32) &&& 31).toUInt32).toInt32); (try simp only [Int32.reduceToInt, Int64.reduceToInt] at f16); (try have f16e : ((25 : Int32) - ((v7.toUInt32 >>> ((1 : Int32) &&& 31).toUInt32).toInt32)).toInt = (25 : Int) - ((v7.toUInt32 >>> ((1 : Int32) &&& 31).toUInt32).toInt32).toInt := (by omega)); (try simp only [Int32.reduceToInt, Int64.reduceToInt, and_true, true_and, or_true, true_or]); skip; have hu : ((v7.toUInt32 >>> ((1 : Int32) &&& 31).toUInt32).toInt32).toInt = 0 ∨ ((v7.toUInt32 >>> ((1 : Int32) &&& 31).toUInt32).toInt32).toInt = 1 := (by omega); rcases hu with hu | hu; exact Or.inr (Or.inr ⟨6, by decide, by omega, by omega, by omega⟩); first | exact Or.inr (Or.inr ⟨7, by decide, by omega, by omega, by omega⟩) | (exfalso; omega)), e0, rfl⟩
      · intro c3
        refine g_iinc (q := 43) (v := (23 : Int32)) (L' := #[.val (.int ni), .val (.int (23 : Int32))]) X0.here hx (hb hby d5_40) rfl rfl rfl rfl ?_
        refine g_iloadN (q := 44) X0.here hx (hb hby d5_43) rfl rfl ?_
        refine g_bipush (q := 46) (v := (8 : Int32)) X0.here hx (hb hby d5_44) rfl rfl ?_
        refine g_iushr (q := 47) X0.here hx (hb hby d5_46) rfl ?_
        refine g_istoreN (q := 48) (L' := #[.val (.int ((ni.toUInt32 >>> ((8 : Int32) &&& 31).toUInt32).toInt32)), .val (.int (23 : Int32))]) X0.here hx (hb hby d5_47) rfl rfl ?_
        refine g_iloadN (q := 49) X0.here hx (hb hby d5_48) rfl rfl ?_
        refine g_bipush (q := 51) (v := (16 : Int32)) X0.here hx (hb hby d5_49) rfl rfl ?_
        refine g_icmp_lt (q := 61) (q0 := 54) X0.here hx (hb hby d5_51) (by decide) (by decide) rfl ?_ ?_
        · intro c8
          refine g_iloadN (q := 62) X0.here hx (hb hby d5_61) rfl rfl ?_
          refine g_iconst (q := 63) (v := (4 : Int32)) X0.here hx (hb hby d5_62) rfl rfl ?_
          refine g_icmp_lt (q := 73) (q0 := 66) X0.here hx (hb hby d5_63) (by decide) (by decide) rfl ?_ ?_
          · intro c9
            refine g_iloadN (q := 74) X0.here hx (hb hby d5_73) rfl rfl ?_
            refine g_iloadN (q := 75) X0.here hx (hb hby d5_74) rfl rfl ?_
            refine g_iconst (q := 76) (v := (1 : Int32)) X0.here hx (hb hby d5_75) rfl rfl ?_
            refine g_iushr (q := 77) X0.here hx (hb hby d5_76) rfl ?_
            refine g_isub (q := 78) X0.here hx (hb hby d5_77) rfl ?_
            exact g_ireturn X0 hx hlk hrt (hb hby d5_78) (by decide) (by decide) ⟨_, rfl, (show (ni.toInt < 0 ∧ ((23 : Int32) - ((((ni.toUInt32 >>> ((8 : Int32) &&& 31).toUInt32).toInt32).toUInt32 >>> ((1 : Int32) &&& 31).toUInt32).toInt32)).toInt = 0) ∨ (ni.toInt = 0 ∧ ((23 : Int32) - ((((ni.toUInt32 >>> ((8 : Int32) &&& 31).toUInt32).toInt32).toUInt32 >>> ((1 : Int32) &&& 31).toUInt32).toInt32)).toInt = 32) ∨ (∃ k : Nat, k ≤ 30 ∧ ((23 : Int32) - ((((ni.toUInt32 >>> ((8 : Int32) &&& 31).toUInt32).toInt32).toUInt32 >>> ((1 : Int32) &&& 31).toUInt32).toInt32)).toInt = 31 - (k : Int) ∧ (2 : Int) ^ k ≤ ni.toInt ∧ ni.toInt < 2 ^ (k + 1)) by (try simp only [Int32.reduceToInt, Int64.reduceToInt, true_and, and_true, not_true_eq_false, not_false_eq_true, false_and, or_false, false_or] at c1); (try simp only [Int32.reduceToInt, Int64.reduceToInt, true_and, and_true, not_true_eq_false, not_false_eq_true, false_and, or_false, false_or] at c2); (try simp only [Int32.reduceToInt, Int64.reduceToInt, true_and, and_true, not_true_eq_false, not_false_eq_true, false_and, or_false, false_or] at c3); (try simp only [Int32.reduceToInt, Int64.reduceToInt, true_and, and_true, not_true_eq_false, not_false_eq_true, false_and, or_false, false_or] at c8); (try simp only [Int32.reduceToInt, Int64.reduceToInt, true_and, and_true, not_true_eq_false, not_false_eq_true, false_and, or_false, false_or] at c9); have f1 := rng32 ni; (try simp only [Int32.reduceToInt, Int64.reduceToInt] at f1); have f3 := rng32 ((ni.toUInt32 >>> ((8 : Int32) &&& 31).toUInt32).toInt32); (try simp only [Int32.reduceToInt, Int64.reduceToInt] at f3); have f4 := c_iushr ni (8 : Int32) 8 (by decide) (by decide); (try simp only [Int32.reduceToInt, Int64.reduceToInt] at f4); (try have f4e : ((ni.toUInt32 >>> ((8 : Int32) &&& 31).toUInt32).toInt32).toInt = ni.toInt / 256 := (by omega)); have f7 := rng32 ((((ni.toUInt32 >>> ((8 : Int32) &&& 31).toUInt32).toInt32).toUInt32 >>> ((1 : Int32) &&& 31).toUInt32).toInt32); (try simp only [Int32.reduceToInt, Int64.reduceToInt] at f7); have f8 := c_iushr ((ni.toUInt32 >>> ((8 : Int32) &&& 31).toUInt32).toInt32) (1 : Int32) 1 (by decide) (by decide); (try simp only [Int32.reduceToInt, Int64.reduceToInt] at f8); (try have f8e : ((((ni.toUInt32 >>> ((8 : Int32) &&& 31).toUInt32).toInt32).toUInt32 >>> ((1 : Int32) &&& 31).toUInt32).toInt32).toInt = ((ni.toUInt32 >>> ((8 : Int32) &&& 31).toUInt32).toInt32).toInt / 2 := (by omega)); have f9 := rng32 ((23 : Int32) - ((((ni.toUInt32 >>> ((8 : Int32) &&& 31).toUInt32).toInt32).toUInt32 >>> ((1 : Int32) &&& 31).toUInt32).toInt32)); (try simp only [Int32.reduceToInt, Int64.reduceToInt] at f9); have f10 := c_isub (23 : Int32) ((((ni.toUInt32 >>> ((8 : Int32) &&& 31).toUInt32).toInt32).toUInt32 >>> ((1 : Int32) &&& 31).toUInt32).toInt32); (try simp only [Int32.reduceToInt, Int64.reduceToInt] at f10); (try have f10e : ((23 : Int32) - ((((ni.toUInt32 >>> ((8 : Int32) &&& 31).toUInt32).toInt32).toUInt32 >>> ((1 : Int32) &&& 31).toUInt32).toInt32)).toInt = (23 : Int) - ((((ni.toUInt32 >>> ((8 : Int32) &&& 31).toUInt32).toInt32).toUInt32 >>> ((1 : Int32) &&& 31).toUInt32).toInt32).toInt := (by omega)); (try simp only [Int32.reduceToInt, Int64.reduceToInt, and_true, true_and, or_true, true_or]); skip; have hu : ((((ni.toUInt32 >>> ((8 : Int32) &&& 31).toUInt32).toInt32).toUInt32 >>> ((1 : Int32) &&& 31).toUInt32).toInt32).toInt = 0 ∨ ((((ni.toUInt32 >>> ((8 : Int32) &&& 31).toUInt32).toInt32).toUInt32 >>> ((1 : Int32) &&& 31).toUInt32).toInt32).toInt = 1 := (by omega); rcases hu with hu | hu; exact Or.inr (Or.inr ⟨8, by decide, by omega, by omega, by omega⟩); first | exact Or.inr (Or.inr ⟨9, by decide, by omega, by omega, by omega⟩) | (exfalso; omega)), e0, rfl⟩
          · intro c9
            refine g_iinc (q := 69) (v := (21 : Int32)) (L' := #[.val (.int ((ni.toUInt32 >>> ((8 : Int32) &&& 31).toUInt32).toInt32)), .val (.int (21 : Int32))]) X0.here hx (hb hby d5_66) rfl rfl rfl rfl ?_
            refine g_iloadN (q := 70) X0.here hx (hb hby d5_69) rfl rfl ?_
            refine g_iconst (q := 71) (v := (2 : Int32)) X0.here hx (hb hby d5_70) rfl rfl ?_
            refine g_iushr (q := 72) X0.here hx (hb hby d5_71) rfl ?_
            generalize hv_v10 : ((((ni.toUInt32 >>> ((8 : Int32) &&& 31).toUInt32).toInt32).toUInt32 >>> ((2 : Int32) &&& 31).toUInt32).toInt32) = v10
            refine g_istoreN (q := 73) (L' := #[.val (.int v10), .val (.int (21 : Int32))]) X0.here hx (hb hby d5_72) rfl rfl ?_
            refine g_iloadN (q := 74) X0.here hx (hb hby d5_73) rfl rfl ?_
            refine g_iloadN (q := 75) X0.here hx (hb hby d5_74) rfl rfl ?_
            refine g_iconst (q := 76) (v := (1 : Int32)) X0.here hx (hb hby d5_75) rfl rfl ?_
            refine g_iushr (q := 77) X0.here hx (hb hby d5_76) rfl ?_
            refine g_isub (q := 78) X0.here hx (hb hby d5_77) rfl ?_
            exact g_ireturn X0 hx hlk hrt (hb hby d5_78) (by decide) (by decide) ⟨_, rfl, (show (ni.toInt < 0 ∧ ((21 : Int32) - ((v10.toUInt32 >>> ((1 : Int32) &&& 31).toUInt32).toInt32)).toInt = 0) ∨ (ni.toInt = 0 ∧ ((21 : Int32) - ((v10.toUInt32 >>> ((1 : Int32) &&& 31).toUInt32).toInt32)).toInt = 32) ∨ (∃ k : Nat, k ≤ 30 ∧ ((21 : Int32) - ((v10.toUInt32 >>> ((1 : Int32) &&& 31).toUInt32).toInt32)).toInt = 31 - (k : Int) ∧ (2 : Int) ^ k ≤ ni.toInt ∧ ni.toInt < 2 ^ (k + 1)) by (try simp only [Int32.reduceToInt, Int64.reduceToInt, true_and, and_true, not_true_eq_false, not_false_eq_true, false_and, or_false, false_or] at c1); (try simp only [Int32.reduceToInt, Int64.reduceToInt, true_and, and_true, not_true_eq_false, not_false_eq_true, false_and, or_false, false_or] at c2); (try simp only [Int32.reduceToInt, Int64.reduceToInt, true_and, and_true, not_true_eq_false, not_false_eq_true, false_and, or_false, false_or] at c3); (try simp only [Int32.reduceToInt, Int64.reduceToInt, true_and, and_true, not_true_eq_false, not_false_eq_true, false_and, or_false, false_or] at c8); (try simp only [Int32.reduceToInt, Int64.reduceToInt, true_and, and_true, not_true_eq_false, not_false_eq_true, false_and, or_false, false_or] at c9); (try simp only [Int32.reduceToInt, Int64.reduceToInt, true_and, and_true, not_true_eq_false, not_false_eq_true, false_and, or_false, false_or] at hv_v10); have f1 := rng32 ni; (try simp only [Int32.reduceToInt, Int64.reduceToInt] at f1); have f3 := rng32 ((ni.toUInt32 >>> ((8 : Int32) &&& 31).toUInt32).toInt32); (try simp only [Int32.reduceToInt, Int64.reduceToInt] at f3); have f4 := c_iushr ni (8 : Int32) 8 (by decide) (by decide); (try simp only [Int32.reduceToInt, Int64.reduceToInt] at f4); (try have f4e : ((ni.toUInt32 >>> ((8 : Int32) &&& 31).toUInt32).toInt32).toInt = ni.toInt / 256 := (by omega)); have f9 := rng32 ((((ni.toUInt32 >>> ((8 : Int32) &&& 31).toUInt32).toInt32).toUInt32 >>> ((2 : Int32) &&& 31).toUInt32).toInt32); (try simp only [Int32.reduceToInt, Int64.reduceToInt] at f9); have f10 := c_iushr ((ni.toUInt32 >>> ((8 : Int32) &&& 31).toUInt32).toInt32) (2 : Int32) 2 (by decide) (by decide); (try simp only [Int32.reduceToInt, Int64.reduceToInt] at f10); (try have f10e : ((((ni.toUInt32 >>> ((8 : Int32) &&& 31).toUInt32).toInt32).toUInt32 >>> ((2 : Int32) &&& 31).toUInt32).toInt32).toInt = ((ni.toUInt32 >>> ((8 : Int32) &&& 31).toUInt32).toInt32).toInt / 4 := (by omega)); have f11 := congrArg Int32.toInt hv_v10; (try simp only [Int32.reduceToInt, Int64.reduceToInt] at f11); have f12 := rng32 v10; (try simp only [Int32.reduceToInt, Int64.reduceToInt] at f12); have f13 := rng32 ((v10.toUInt32 >>> ((1 : Int32) &&& 31).toUInt32).toInt32); (try simp only [Int32.reduceToInt, Int64.reduceToInt] at f13); have f14 := c_iushr v10 (1 : Int32) 1 (by decide) (by decide); (try simp only [Int32.reduceToInt, Int64.reduceToInt] at f14); (try have f14e : ((v10.toUInt32 >>> ((1 : Int32) &&& 31).toUInt32).toInt32).toInt = v10.toInt / 2 := (by omega)); have f15 := rng32 ((21 : Int32) - ((v10.toUInt32 >>> ((1 : Int32) &&& 31).toUInt32).toInt32)); (try simp only [Int32.reduceToInt, Int64.reduceToInt] at f15); have f16 := c_isub (21 : Int32) ((v10.toUInt32 >>> ((1 : Int32) &&& 31).toUInt32).toInt32); (try simp only [Int32.reduceToInt, Int64.reduceToInt] at f16); (try have f16e : ((21 : Int32) - ((v10.toUInt32 >>> ((1 : Int32) &&& 31).toUInt32).toInt32)).toInt = (21 : Int) - ((v10.toUInt32 >>> ((1 : Int32) &&& 31).toUInt32).toInt32).toInt := (by omega)); (try simp only [Int32.reduceToInt, Int64.reduceToInt, and_true, true_and, or_true, true_or]); skip; have hu : ((v10.toUInt32 >>> ((1 : Int32) &&& 31).toUInt32).toInt32).toInt = 0 ∨ ((v10.toUInt32 >>> ((1 : Int32) &&& 31).toUInt32).toInt32).toInt = 1 := (by omega); rcases hu with hu | hu; exact Or.inr (Or.inr ⟨10, by decide, by omega, by omega, by omega⟩); first | exact Or.inr (Or.inr ⟨11, by decide, by omega, by omega, by omega⟩) | (exfalso; omega)), e0, rfl⟩
        · intro c8
          refine g_iinc (q := 57) (v := (19 : Int32)) (L' := #[.val (.int ((ni.toUInt32 >>> ((8 : Int32) &&& 31).toUInt32).toInt32)), .val (.int (19 : Int32))]) X0.here hx (hb hby d5_54) rfl rfl rfl rfl ?_
          refine g_iloadN (q := 58) X0.here hx (hb hby d5_57) rfl rfl ?_
          refine g_iconst (q := 59) (v := (4 : Int32)) X0.here hx (hb hby d5_58) rfl rfl ?_
          refine g_iushr (q := 60) X0.here hx (hb hby d5_59) rfl ?_
          generalize hv_v11 : ((((ni.toUInt32 >>> ((8 : Int32) &&& 31).toUInt32).toInt32).toUInt32 >>> ((4 : Int32) &&& 31).toUInt32).toInt32) = v11
          refine g_istoreN (q := 61) (L' := #[.val (.int v11), .val (.int (19 : Int32))]) X0.here hx (hb hby d5_60) rfl rfl ?_
          refine g_iloadN (q := 62) X0.here hx (hb hby d5_61) rfl rfl ?_
          refine g_iconst (q := 63) (v := (4 : Int32)) X0.here hx (hb hby d5_62) rfl rfl ?_
          refine g_icmp_lt (q := 73) (q0 := 66) X0.here hx (hb hby d5_63) (by decide) (by decide) rfl ?_ ?_
          · intro c12
            refine g_iloadN (q := 74) X0.here hx (hb hby d5_73) rfl rfl ?_
            refine g_iloadN (q := 75) X0.here hx (hb hby d5_74) rfl rfl ?_
            refine g_iconst (q := 76) (v := (1 : Int32)) X0.here hx (hb hby d5_75) rfl rfl ?_
            refine g_iushr (q := 77) X0.here hx (hb hby d5_76) rfl ?_
            refine g_isub (q := 78) X0.here hx (hb hby d5_77) rfl ?_
            exact g_ireturn X0 hx hlk hrt (hb hby d5_78) (by decide) (by decide) ⟨_, rfl, (show (ni.toInt < 0 ∧ ((19 : Int32) - ((v11.toUInt32 >>> ((1 : Int32) &&& 31).toUInt32).toInt32)).toInt = 0) ∨ (ni.toInt = 0 ∧ ((19 : Int32) - ((v11.toUInt32 >>> ((1 : Int32) &&& 31).toUInt32).toInt32)).toInt = 32) ∨ (∃ k : Nat, k ≤ 30 ∧ ((19 : Int32) - ((v11.toUInt32 >>> ((1 : Int32) &&& 31).toUInt32).toInt32)).toInt = 31 - (k : Int) ∧ (2 : Int) ^ k ≤ ni.toInt ∧ ni.toInt < 2 ^ (k + 1)) by (try simp only [Int32.reduceToInt, Int64.reduceToInt, true_and, and_true, not_true_eq_false, not_false_eq_true, false_and, or_false, false_or] at c1); (try simp only [Int32.reduceToInt, Int64.reduceToInt, true_and, and_true, not_true_eq_false, not_false_eq_true, false_and, or_false, false_or] at c2); (try simp only [Int32.reduceToInt, Int64.reduceToInt, true_and, and_true, not_true_eq_false, not_false_eq_true, false_and, or_false, false_or] at c3); (try simp only [Int32.reduceToInt, Int64.reduceToInt, true_and, and_true, not_true_eq_false, not_false_eq_true, false_and, or_false, false_or] at c8); (try simp only [Int32.reduceToInt, Int64.reduceToInt, true_and, and_true, not_true_eq_false, not_false_eq_true, false_and, or_false, false_or] at hv_v11); (try simp only [Int32.reduceToInt, Int64.reduceToInt, true_and, and_true, not_true_eq_false, not_false_eq_true, false_and, or_false, false_or] at c12); have f1 := rng32 ni; (try simp only [Int32.reduceToInt, Int64.reduceToInt] at f1); have f3 := rng32 ((ni.toUInt32 >>> ((8 : Int32) &&& 31).toUInt32).toInt32); (try simp only [Int32.reduceToInt, Int64.reduceToInt] at f3); have f4 := c_iushr ni (8 : Int32) 8 (by decide) (by decide); (try simp only [Int32.reduceToInt, Int64.reduceToInt] at f4); (try have f4e : ((ni.toUInt32 >>> ((8 : Int32) &&& 31).toUInt32).toInt32).toInt = ni.toInt / 256 := (by omega)); have f7 := rng32 ((((ni.toUInt32 >>> ((8 : Int32) &&& 31).toUInt32).toInt32).toUInt32 >>> ((4 : Int32) &&& 31).toUInt32).toInt32); (try simp only [Int32.reduceToInt, Int64.reduceToInt] at f7); have f8 := c_iushr ((ni.toUInt32 >>> ((8 : Int32) &&& 31).toUInt32).toInt32) (4 : Int32) 4 (by decide) (by decide); (try simp only [Int32.reduceToInt, Int64.reduceToInt] at f8); (try have f8e : ((((ni.toUInt32 >>> ((8 : Int32) &&& 31).toUInt32).toInt32).toUInt32 >>> ((4 : Int32) &&& 31).toUInt32).toInt32).toInt = ((ni.toUInt32 >>> ((8 : Int32) &&& 31).toUInt32).toInt32).toInt / 16 := (by omega)); have f9 := congrArg Int32.toInt hv_v11; (try simp only [Int32.reduceToInt, Int64.reduceToInt] at f9); have f10 := rng32 v11; (try simp only [Int32.reduceToInt, Int64.reduceToInt] at f10); have f13 := rng32 ((v11.toUInt32 >>> ((1 : Int32) &&& 31).toUInt32).toInt32); (try simp only [Int32.reduceToInt, Int64.reduceToInt] at f13); have f14 := c_iushr v11 (1 : Int32) 1 (by decide) (by decide); (try simp only [Int32.reduceToInt, Int64.reduceToInt] at f14); (try have f14e : ((v11.toUInt32 >>> ((1 : Int32) &&& 31).toUInt32).toInt32).toInt = v11.toInt / 2 := (by omega)); have f15 := rng32 ((19 : Int32) - ((v11.toUInt32 >>> ((1 : Int32) &&& 31).toUInt32).toInt32)); (try simp only [Int32.reduceToInt, Int64.reduceToInt] at f15); have f16 := c_isub (19 : Int32) ((v11.toUInt32 >>> ((1 : Int32) &&& 31).toUInt32).toInt32); (try simp only [Int32.reduceToInt, Int64.reduceToInt] at f16); (try have f16e : ((19 : Int32) - ((v11.toUInt32 >>> ((1 : Int32) &&& 31).toUInt32).toInt32)).toInt = (19 : Int) - ((v11.toUInt32 >>> ((1 : Int32) &&& 31).toUInt32).toInt32).toInt := (by omega)); (try simp only [Int32.reduceToInt, Int64.reduceToInt, and_true, true_and, or_true, true_or]); skip; have hu : ((v11.toUInt32 >>> ((1 : Int32) &&& 31).toUInt32).toInt32).toInt = 0 ∨ ((v11.toUInt32 >>> ((1 : Int32) &&& 31).toUInt32).toInt32).toInt = 1 := (by omega); rcases hu with hu | hu; exact Or.inr (Or.inr ⟨12, by decide, by omega, by omega, by omega⟩); first | exact Or.inr (Or.inr ⟨13, by decide, by omega, by omega, by omega⟩) | (exfalso; omega)), e0, rfl⟩
          · intro c12
            refine g_iinc (q := 69) (v := (17 : Int32)) (L' := #[.val (.int v11), .val (.int (17 : Int32))]) X0.here hx (hb hby d5_66) rfl rfl rfl rfl ?_
            refine g_iloadN (q := 70) X0.here hx (hb hby d5_69) rfl rfl ?_
            refine g_iconst (q := 71) (v := (2 : Int32)) X0.here hx (hb hby d5_70) rfl rfl ?_
            refine g_iushr (q := 72) X0.here hx (hb hby d5_71) rfl ?_
            refine g_istoreN (q := 73) (L' := #[.val (.int ((v11.toUInt32 >>> ((2 : Int32) &&& 31).toUInt32).toInt32)), .val (.int (17 : Int32))]) X0.here hx (hb hby d5_72) rfl rfl ?_
            refine g_iloadN (q := 74) X0.here hx (hb hby d5_73) rfl rfl ?_
            refine g_iloadN (q := 75) X0.here hx (hb hby d5_74) rfl rfl ?_
            refine g_iconst (q := 76) (v := (1 : Int32)) X0.here hx (hb hby d5_75) rfl rfl ?_
            refine g_iushr (q := 77) X0.here hx (hb hby d5_76) rfl ?_
            refine g_isub (q := 78) X0.here hx (hb hby d5_77) rfl ?_
            exact g_ireturn X0 hx hlk hrt (hb hby d5_78) (by decide) (by decide) ⟨_, rfl, (show (ni.toInt < 0 ∧ ((17 : Int32) - ((((v11.toUInt32 >>> ((2 : Int32) &&& 31).toUInt32).toInt32).toUInt32 >>> ((1 : Int32) &&& 31).toUInt32).toInt32)).toInt = 0) ∨ (ni.toInt = 0 ∧ ((17 : Int32) - ((((v11.toUInt32 >>> ((2 : Int32) &&& 31).toUInt32).toInt32).toUInt32 >>> ((1 : Int32) &&& 31).toUInt32).toInt32)).toInt = 32) ∨ (∃ k : Nat, k ≤ 30 ∧ ((17 : Int32) - ((((v11.toUInt32 >>> ((2 : Int32) &&& 31).toUInt32).toInt32).toUInt32 >>> ((1 : Int32) &&& 31).toUInt32).toInt32)).toInt = 31 - (k : Int) ∧ (2 : Int) ^ k ≤ ni.toInt ∧ ni.toInt < 2 ^ (k + 1)) by (try simp only [Int32.reduceToInt, Int64.reduceToInt, true_and, and_true, not_true_eq_false, not_false_eq_true, false_and, or_false, false_or] at c1); (try simp only [Int32.reduceToInt, Int64.reduceToInt, true_and, and_true, not_true_eq_false, not_false_eq_true, false_and, or_false, false_or] at c2); (try simp only [Int32.reduceToInt, Int64.reduceToInt, true_and, and_true, not_true_eq_false, not_false_eq_true, false_and, or_false, false_or] at c3); (try simp only [Int32.reduceToInt, Int64.reduceToInt, true_and, and_true, not_true_eq_false, not_false_eq_true, false_and, or_false, false_or] at c8); (try simp only [Int32.reduceToInt, Int64.reduceToInt, true_and, and_true, not_true_eq_false, not_false_eq_true, false_and, or_false, false_or] at hv_v11); (try simp only [Int32.reduceToInt, Int64.reduceToInt, true_and, and_true, not_true_eq_false, not_false_eq_true, false_and, or_false, false_or] at c12); have f1 := rng32 ni; (try simp only [Int32.reduceToInt, Int64.reduceToInt] at f1); have f3 := rng32 ((ni.toUInt32 >>> ((8 : Int32) &&& 31).toUInt32).toInt32); (try simp only [Int32.reduceToInt, Int64.reduceToInt] at f3); have f4 := c_iushr ni (8 : Int32) 8 (by decide) (by decide); (try simp only [Int32.reduceToInt, Int64.reduceToInt] at f4); (try have f4e : ((ni.toUInt32 >>> ((8 : Int32) &&& 31).toUInt32).toInt32).toInt = ni.toInt / 256 := (by omega)); have f7 := rng32 ((((ni.toUInt32 >>> ((8 : Int32) &&& 31).toUInt32).toInt32).toUInt32 >>> ((4 : Int32) &&& 31).toUInt32).toInt32); (try simp only [Int32.reduceToInt, Int64.reduceToInt] at f7); have f8 := c_iushr ((ni.toUInt32 >>> ((8 : Int32) &&& 31).toUInt32).toInt32) (4 : Int32) 4 (by decide) (by decide); (try simp only [Int32.reduceToInt, Int64.reduceToInt] at f8); (try have f8e : ((((ni.toUInt32 >>> ((8 : Int32) &&& 31).toUInt32).toInt32).toUInt32 >>> ((4 : Int32) &&& 31).toUInt32).toInt32).toInt = ((ni.toUInt32 >>> ((8 : Int32) &&& 31).toUInt32).toInt32).toInt / 16 := (by omega)); have f9 := congrArg Int32.toInt hv_v11; (try simp only [Int32.reduceToInt, Int64.reduceToInt] at f9); have f10 := rng32 v11; (try simp only [Int32.reduceToInt, Int64.reduceToInt] at f10); have f14 := rng32 ((v11.toUInt32 >>> ((2 : Int32) &&& 31).toUInt32).toInt32); (try simp only [Int32.reduceToInt, Int64.reduceToInt] at f14); have f15 := c_iushr v11 (2 : Int32) 2 (by decide) (by decide); (try simp only [Int32.reduceToInt, Int64.reduceToInt] at f15); (try have f15e : ((v11.toUInt32 >>> ((2 : Int32) &&& 31).toUInt32).toInt32).toInt = v11.toInt / 4 := (by omega)); have f16 := rng32 ((((v11.toUInt32 >>> ((2 : Int32) &&& 31).toUInt32).toInt32).toUInt32 >>> ((1 : Int32) &&& 31).toUInt32).toInt32); (try simp only [Int32.reduceToInt, Int64.reduceToInt] at f16); have f17 := c_iushr ((v11.toUInt32 >>> ((2 : Int32) &&& 31).toUInt32).toInt32) (1 : Int32) 1 (by decide) (by decide); (try simp only [Int32.reduceToInt, Int64.reduceToInt] at f17); (try have f17e : ((((v11.toUInt32 >>> ((2 : Int32) &&& 31).toUInt32).toInt32).toUInt32 >>> ((1 : Int32) &&& 31).toUInt32).toInt32).toInt = ((v11.toUInt32 >>> ((2 : Int32) &&& 31).toUInt32).toInt32).toInt / 2 := (by omega)); have f18 := rng32 ((17 : Int32) - ((((v11.toUInt32 >>> ((2 : Int32) &&& 31).toUInt32).toInt32).toUInt32 >>> ((1 : Int32) &&& 31).toUInt32).toInt32)); (try simp only [Int32.reduceToInt, Int64.reduceToInt] at f18); have f19 := c_isub (17 : Int32) ((((v11.toUInt32 >>> ((2 : Int32) &&& 31).toUInt32).toInt32).toUInt32 >>> ((1 : Int32) &&& 31).toUInt32).toInt32); (try simp only [Int32.reduceToInt, Int64.reduceToInt] at f19); (try have f19e : ((17 : Int32) - ((((v11.toUInt32 >>> ((2 : Int32) &&& 31).toUInt32).toInt32).toUInt32 >>> ((1 : Int32) &&& 31).toUInt32).toInt32)).toInt = (17 : Int) - ((((v11.toUInt32 >>> ((2 : Int32) &&& 31).toUInt32).toInt32).toUInt32 >>> ((1 : Int32) &&& 31).toUInt32).toInt32).toInt := (by omega)); (try simp only [Int32.reduceToInt, Int64.reduceToInt, and_true, true_and, or_true, true_or]); skip; have hu : ((((v11.toUInt32 >>> ((2 : Int32) &&& 31).toUInt32).toInt32).toUInt32 >>> ((1 : Int32) &&& 31).toUInt32).toInt32).toInt = 0 ∨ ((((v11.toUInt32 >>> ((2 : Int32) &&& 31).toUInt32).toInt32).toUInt32 >>> ((1 : Int32) &&& 31).toUInt32).toInt32).toInt = 1 := (by omega); rcases hu with hu | hu; exact Or.inr (Or.inr ⟨14, by decide, by omega, by omega, by omega⟩); first | exact Or.inr (Or.inr ⟨15, by decide, by omega, by omega, by omega⟩) | (exfalso; omega)), e0, rfl⟩
    · intro c2
      refine g_iinc (q := 28) (v := (15 : Int32)) (L' := #[.val (.int ni), .val (.int (15 : Int32))]) X0.here hx (hb hby d5_25) rfl rfl rfl rfl ?_
      refine g_iloadN (q := 29) X0.here hx (hb hby d5_28) rfl rfl ?_
      refine g_bipush (q := 31) (v := (16 : Int32)) X0.here hx (hb hby d5_29) rfl rfl ?_
      refine g_iushr (q := 32) X0.here hx (hb hby d5_31) rfl ?_
      refine g_istoreN (q := 33) (L' := #[.val (.int ((ni.toUInt32 >>> ((16 : Int32) &&& 31).toUInt32).toInt32)), .val (.int (15 : Int32))]) X0.here hx (hb hby d5_32) rfl rfl ?_
      refine g_iloadN (q := 34) X0.here hx (hb hby d5_33) rfl rfl ?_
      refine g_sipush (q := 37) (v := (256 : Int32)) X0.here hx (hb hby d5_34) rfl rfl ?_
      refine g_icmp_lt (q := 48) (q0 := 40) X0.here hx (hb hby d5_37) (by decide) (by decide) rfl ?_ ?_
      · intro c13
        refine g_iloadN (q := 49) X0.here hx (hb hby d5_48) rfl rfl ?_
        refine g_bipush (q := 51) (v := (16 : Int32)) X0.here hx (hb hby d5_49) rfl rfl ?_
        refine g_icmp_lt (q := 61) (q0 := 54) X0.here hx (hb hby d5_51) (by decide) (by decide) rfl ?_ ?_
        · intro c14
          refine g_iloadN (q := 62) X0.here hx (hb hby d5_61) rfl rfl ?_
          refine g_iconst (q := 63) (v := (4 : Int32)) X0.here hx (hb hby d5_62) rfl rfl ?_
          refine g_icmp_lt (q := 73) (q0 := 66) X0.here hx (hb hby d5_63) (by decide) (by decide) rfl ?_ ?_
          · intro c15
            refine g_iloadN (q := 74) X0.here hx (hb hby d5_73) rfl rfl ?_
            refine g_iloadN (q := 75) X0.here hx (hb hby d5_74) rfl rfl ?_
            refine g_iconst (q := 76) (v := (1 : Int32)) X0.here hx (hb hby d5_75) rfl rfl ?_
            refine g_iushr (q := 77) X0.here hx (hb hby d5_76) rfl ?_
            refine g_isub (q := 78) X0.here hx (hb hby d5_77) rfl ?_
            exact g_ireturn X0 hx hlk hrt (hb hby d5_78) (by decide) (by decide) ⟨_, rfl, (show (ni.toInt < 0 ∧ ((15 : Int32) - ((((ni.toUInt32 >>> ((16 : Int32) &&& 31).toUInt32).toInt32).toUInt32 >>> ((1 : Int32) &&& 31).toUInt32).toInt32)).toInt = 0) ∨ (ni.toInt = 0 ∧ ((15 : Int32) - ((((ni.toUInt32 >>> ((16 : Int32) &&& 31).toUInt32).toInt32).toUInt32 >>> ((1 : Int32) &&& 31).toUInt32).toInt32)).toInt = 32) ∨ (∃ k : Nat, k ≤ 30 ∧ ((15 : Int32) - ((((ni.toUInt32 >>> ((16 : Int32) &&& 31).toUInt32).toInt32).toUInt32 >>> ((1 : Int32) &&& 31).toUInt32).toInt32)).toInt = 31 - (k : Int) ∧ (2 : Int) ^ k ≤ ni.toInt ∧ ni.toInt < 2 ^ (k + 1)) by (try simp only [Int32.reduceToInt, Int64.reduceToInt, true_and, and_true, not_true_eq_false, not_false_eq_true, false_and, or_false, false_or] at c1); (try simp only [Int32.reduceToInt, Int64.reduceToInt, true_and, and_true, not_true_eq_false, not_false_eq_true, false_and, or_false, false_or] at c2); (try simp only [Int32.reduceToInt, Int64.reduceToInt, true_and, and_true, not_true_eq_false, not_false_eq_true, false_and, or_false, false_or] at c13); (try simp only [Int32.reduceToInt, Int64.reduceToInt, true_and, and_true, not_true_eq_false, not_false_eq_true, false_and, or_false, false_or] at c14); (try simp only [Int32.reduceToInt, Int64.reduceToInt, true_and, and_true, not_true_eq_false, not_false_eq_true, false_and, or_false, false_or] at c15); have f1 := rng32 ni; (try simp only [Int32.reduceToInt, Int64.reduceToInt] at f1); have f3 := rng32 ((ni.toUInt32 >>> ((16 : Int32) &&& 31).toUInt32).toInt32); (try simp only [Int32.reduceToInt, Int64.reduceToInt] at f3); have f4 := c_iushr ni (16 : Int32) 16 (by decide) (by decide); (try simp only [Int32.reduceToInt, Int64.reduceToInt] at f4); (try have f4e : ((ni.toUInt32 >>> ((16 : Int32) &&& 31).toUInt32).toInt32).toInt = ni.toInt / 65536 := (by omega)); have f7 := rng32 ((((ni.toUInt32 >>> ((16 : Int32) &&& 31).toUInt32).toInt32).toUInt32 >>> ((1 : Int32) &&& 31).toUInt32).toInt32); (try simp only [Int32.reduceToInt, Int64.reduceToInt] at f7); have f8 := c_iushr ((ni.toUInt32 >>> ((16 : Int32) &&& 31).toUInt32).toInt32) (1 : Int32) 1 (by decide) (by decide); (try simp only [Int32.reduceToInt, Int64.reduceToInt] at f8); (try have f8e : ((((ni.toUInt32 >>> ((16 : Int32) &&& 31).toUInt32).toInt32).toUInt32 >>> ((1 : Int32) &&& 31).toUInt32).toInt32).toInt = ((ni.toUInt32 >>> ((16 : Int32) &&& 31).toUInt32).toInt32).toInt / 2 := (by omega)); have f9 := rng32 ((15 : Int32) - ((((ni.toUInt32 >>> ((16 : Int32) &&& 31).toUInt32).toInt32).toUInt32 >>> ((1 : Int32) &&& 31).toUInt32).toInt32)); (try simp only [Int32.reduceToInt, Int64.reduceToInt] at f9); have f10 := c_isub (15 : Int32) ((((ni.toUInt32 >>> ((16 : Int32) &&& 31).toUInt32).toInt32).toUInt32 >>> ((1 : Int32) &&& 31).toUInt32).toInt32); (try simp only [Int32.reduceToInt, Int64.reduceToInt] at f10); (try have f10e : ((15 : Int32) - ((((ni.toUInt32 >>> ((16 : Int32) &&& 31).toUInt32).toInt32).toUInt32 >>> ((1 : Int32) &&& 31).toUInt32).toInt32)).toInt = (15 : Int) - ((((ni.toUInt32 >>> ((16 : Int32) &&& 31).toUInt32).toInt32).toUInt32 >>> ((1 : Int32) &&& 31).toUInt32).toInt32).toInt := (by omega)); (try simp only [Int32.reduceToInt, Int64.reduceToInt, and_true, true_and, or_true, true_or]); skip; have hu : ((((ni.toUInt32 >>> ((16 : Int32) &&& 31).toUInt32).toInt32).toUInt32 >>> ((1 : Int32) &&& 31).toUInt32).toInt32).toInt = 0 ∨ ((((ni.toUInt32 >>> ((16 : Int32) &&& 31).toUInt32).toInt32).toUInt32 >>> ((1 : Int32) &&& 31).toUInt32).toInt32).toInt = 1 := (by omega); rcases hu with hu | hu; exact Or.inr (Or.inr ⟨16, by decide, by omega, by omega, by omega⟩); first | exact Or.inr (Or.inr ⟨17, by decide, by omega, by omega, by omega⟩) | (exfalso; omega)), e0, rfl⟩
          · intro c15
            refine g_iinc (q := 69) (v := (13 : Int32)) (L' := #[.val (.int ((ni.toUInt32 >>> ((16 : Int32) &&& 31).toUInt32).toInt32)), .val (.int (13 : Int32))]) X0.here hx (hb hby d5_66) rfl rfl rfl rfl ?_
            refine g_iloadN (q := 70) X0.here hx (hb hby d5_69) rfl rfl ?_
            refine g_iconst (q := 71) (v := (2 : Int32)) X0.here hx (hb hby d5_70) rfl rfl ?_
            refine g_iushr (q := 72) X0.here hx (hb hby d5_71) rfl ?_
            generalize hv_v16 : ((((ni.toUInt32 >>> ((16 : Int32) &&& 31).toUInt32).toInt32).toUInt32 >>> ((2 : Int32) &&& 31).toUInt32).toInt32) = v16
            refine g_istoreN (q := 73) (L' := #[.val (.int v16), .val (.int (13 : Int32))]) X0.here hx (hb hby d5_72) rfl rfl ?_
            refine g_iloadN (q := 74) X0.here hx (hb hby d5_73) rfl rfl ?_
            refine g_iloadN (q := 75) X0.here hx (hb hby d5_74) rfl rfl ?_
            refine g_iconst (q := 76) (v := (1 : Int32)) X0.here hx (hb hby d5_75) rfl rfl ?_
            refine g_iushr (q := 77) X0.here hx (hb hby d5_76) rfl ?_
            refine g_isub (q := 78) X0.here hx (hb hby d5_77) rfl ?_
            exact g_ireturn X0 hx hlk hrt (hb hby d5_78) (by decide) (by decide) ⟨_, rfl, (show (ni.toInt < 0 ∧ ((13 : Int32) - ((v16.toUInt32 >>> ((1 : Int32) &&& 31).toUInt32).toInt32)).toInt = 0) ∨ (ni.toInt = 0 ∧ ((13 : Int32) - ((v16.toUInt32 >>> ((1 : Int32) &&& 31).toUInt32).toInt32)).toInt = 32) ∨ (∃ k : Nat, k ≤ 30 ∧ ((13 : Int32) - ((v16.toUInt32 >>> ((1 : Int32) &&& 31).toUInt32).toInt32)).toInt = 31 - (k : Int) ∧ (2 : Int) ^ k ≤ ni.toInt ∧ ni.toInt < 2 ^ (k + 1)) by (try simp only [Int32.reduceToInt, Int64.reduceToInt, true_and, and_true, not_true_eq_false, not_false_eq_true, false_and, or_false, false_or] at c1); (try simp only [Int32.reduceToInt, Int64.reduceToInt, true_and, and_true, not_true_eq_false, not_false_eq_true, false_and, or_false, false_or] at c2); (try simp only [Int32.reduceToInt, Int64.reduceToInt, true_and, and_true, not_true_eq_false, not_false_eq_true, false_and, or_false, false_or] at c13); (try simp only [Int32.reduceToInt, Int64.reduceToInt, true_and, and_true, not_true_eq_false, not_false_eq_true, false_and, or_false, false_or] at c14); (try simp only [Int32.reduceToInt, Int64.reduceToInt, true_and, and_true, not_true_eq_false, not_false_eq_true, false_and, or_false, false_or] at c15); (try simp only [Int32.reduceToInt, Int64.reduceToInt, true_and, and_true, not_true_eq_false, not_false_eq_true, false_and, or_false, false_or] at hv_v16); have f1 := rng32 ni; (try simp only [Int32.reduceToInt, Int64.reduceToInt] at f1); have f3 := rng32 ((ni.toUInt32 >>> ((16 : Int32) &&& 31).toUInt32).toInt32); (try simp only [Int32.reduceToInt, Int64.reduceToInt] at f3); have f4 := c_iushr ni (16 : Int32) 16 (by decide) (by decide); (try simp only [Int32.reduceToInt, Int64.reduceToInt] at f4); (try have f4e : ((ni.toUInt32 >>> ((16 : Int32) &&& 31).toUInt32).toInt32).toInt = ni.toInt / 65536 := (by omega)); have f9 := rng32 ((((ni.toUInt32 >>> ((16 : Int32) &&& 31).toUInt32).toInt32).toUInt32 >>> ((2 : Int32) &&& 31).toUInt32).toInt32); (try simp only [Int32.reduceToInt, Int64.reduceToInt] at f9); have f10 := c_iushr ((ni.toUInt32 >>> ((16 : Int32) &&& 31).toUInt32).toInt32) (2 : Int32) 2 (by decide) (by decide); (try simp only [Int32.reduceToInt, Int64.reduceToInt] at f10); (try have f10e : ((((ni.toUInt32 >>> ((16 : Int32) &&& 31).toUInt32).toInt32).toUInt32 >>> ((2 : Int32) &&& 31).toUInt32).toInt32).toInt = ((ni.toUInt32 >>> ((16 : Int32) &&& 31).toUInt32).toInt32).toInt / 4 := (by omega)); have f11 := congrArg Int32.toInt hv_v16; (try simp only [Int32.reduceToInt, Int64.reduceToInt] at f11); have f12 := rng32 v16; (try simp only [Int32.reduceToInt, Int64.reduceToInt] at f12); have f13 := rng32 ((v16.toUInt32 >>> ((1 : Int32) &&& 31).toUInt32).toInt32); (try simp only [Int32.reduceToInt, Int64.reduceToInt] at f13); have f14 := c_iushr v16 (1 : Int32) 1 (by decide) (by decide); (try simp only [Int32.reduceToInt, Int64.reduceToInt] at f14); (try have f14e : ((v16.toUInt32 >>> ((1 : Int32) &&& 31).toUInt32).toInt32).toInt = v16.toInt / 2 := (by omega)); have f15 := rng32 ((13 : Int32) - ((v16.toUInt32 >>> ((1 : Int32) &&& 31).toUInt32).toInt32)); (try simp only [Int32.reduceToInt, Int64.reduceToInt] at f15); have f16 := c_isub (13 : Int32) ((v16.toUInt32 >>> ((1 : Int32) &&& 31).toUInt32).toInt32); (try simp only [Int32.reduceToInt, Int64.reduceToInt] at f16); (try have f16e : ((13 : Int32) - ((v16.toUInt32 >>> ((1 : Int32) &&& 31).toUInt32).toInt32)).toInt = (13 : Int) - ((v16.toUInt32 >>> ((1 : Int32) &&& 31).toUInt32).toInt32).toInt := (by omega)); (try simp only [Int32.reduceToInt, Int64.reduceToInt, and_true, true_and, or_true, true_or]); skip; have hu : ((v16.toUInt32 >>> ((1 : Int32) &&& 31).toUInt32).toInt32).toInt = 0 ∨ ((v16.toUInt32 >>> ((1 : Int32) &&& 31).toUInt32).toInt32).toInt = 1 := (by omega); rcases hu with hu | hu; exact Or.inr (Or.inr ⟨18, by decide, by omega, by omega, by omega⟩); first | exact Or.inr (Or.inr ⟨19, by decide, by omega, by omega, by omega⟩) | (exfalso; omega)), e0, rfl⟩
        · intro c14
          refine g_iinc (q := 57) (v := (11 : Int32)) (L' := #[.val (.int ((ni.toUInt32 >>> ((16 : Int32) &&& 31).toUInt32).toInt32)), .val (.int (11 : Int32))]) X0.here hx (hb hby d5_54) rfl rfl rfl rfl ?_
          refine g_iloadN (q := 58) X0.here hx (hb hby d5_57) rfl rfl ?_
          refine g_iconst (q := 59) (v := (4 : Int32)) X0.here hx (hb hby d5_58) rfl rfl ?_
          refine g_iushr (q := 60) X0.here hx (hb hby d5_59) rfl ?_
          generalize hv_v17 : ((((ni.toUInt32 >>> ((16 : Int32) &&& 31).toUInt32).toInt32).toUInt32 >>> ((4 : Int32) &&& 31).toUInt32).toInt32) = v17
          refine g_istoreN (q := 61) (L' := #[.val (.int v17), .val (.int (11 : Int32))]) X0.here hx (hb hby d5_60) rfl rfl ?_
          refine g_iloadN (q := 62) X0.here hx (hb hby d5_61) rfl rfl ?_
          refine g_iconst (q := 63) (v := (4 : Int32)) X0.here hx (hb hby d5_62) rfl rfl ?_
          refine g_icmp_lt (q := 73) (q0 := 66) X0.here hx (hb hby d5_63) (by decide) (by decide) rfl ?_ ?_
          · intro c18
            refine g_iloadN (q := 74) X0.here hx (hb hby d5_73) rfl rfl ?_
            refine g_iloadN (q := 75) X0.here hx (hb hby d5_74) rfl rfl ?_
            refine g_iconst (q := 76) (v := (1 : Int32)) X0.here hx (hb hby d5_75) rfl rfl ?_
            refine g_iushr (q := 77) X0.here hx (hb hby d5_76) rfl ?_
            refine g_isub (q := 78) X0.here hx (hb hby d5_77) rfl ?_
            exact g_ireturn X0 hx hlk hrt (hb hby d5_78) (by decide) (by decide) ⟨_, rfl, (show (ni.toInt < 0 ∧ ((11 : Int32) - ((v17.toUInt32 >>> ((1 : Int32) &&& 31).toUInt32).toInt32)).toInt = 0) ∨ (ni.toInt = 0 ∧ ((11 : Int32) - ((v17.toUInt32 >>> ((1 : Int32) &&& 31).toUInt32).toInt32)).toInt = 32) ∨ (∃ k : Nat, k ≤ 30 ∧ ((11 : Int32) - ((v17.toUInt32 >>> ((1 : Int32) &&& 31).toUInt32).toInt32)).toInt = 31 - (k : Int) ∧ (2 : Int) ^ k ≤ ni.toInt ∧ ni.toInt < 2 ^ (k + 1)) by (try simp only [Int32.reduceToInt, Int64.reduceToInt, true_and, and_true, not_true_eq_false, not_false_eq_true, false_and, or_false, false_or] at c1); (try simp only [Int32.reduceToInt, Int64.reduceToInt, true_and, and_true, not_true_eq_false, not_false_eq_true, false_and, or_false, false_or] at c2); (try simp only [Int32.reduceToInt, Int64.reduceToInt, true_and, and_true, not_true_eq_false, not_false_eq_true, false_and, or_false, false_or] at c13); (try simp only [Int32.reduceToInt, Int64.reduceToInt, true_and, and_true, not_true_eq_false, not_false_eq_true, false_and, or_false, false_or] at c14); (try simp only [Int32.reduceToInt, Int64.reduceToInt, true_and, and_true, not_true_eq_false, not_false_eq_true, false_and, or_false, false_or] at hv_v17); (try simp only [Int32.reduceToInt, Int64.reduceToInt, true_and, and_true, not_true_eq_false, not_false_eq_true, false_and, or_false, false_or] at c18); have f1 := rng32 ni; (try simp only [Int32.reduceToInt, Int64.reduceToInt] at f1); have f3 := rng32 ((ni.toUInt32 >>> ((16 : Int32) &&& 31).toUInt32).toInt32); (try simp only [Int32.reduceToInt, Int64.reduceToInt] at f3); have f4 := c_iushr ni (16 : Int32) 16 (by decide) (by decide); (try simp only [Int32.reduceToInt, Int64.reduceToInt] at f4); (try have f4e : ((ni.toUInt32 >>> ((16 : Int32) &&& 31).toUInt32).toInt32).toInt = ni.toInt / 65536 := (by omega)); have f7 := rng32 ((((ni.toUInt32 >>> ((16 : Int32) &&& 31).toUInt32).toInt32).toUInt32 >>> ((4 : Int32) &&& 31).toUInt32).toInt32); (try simp only [Int32.reduceToInt, Int64.reduceToInt] at f7); have f8 := c_iushr ((ni.toUInt32 >>> ((16 : Int32) &&& 31).toUInt32).toInt32) (4 : Int32) 4 (by decide) (by decide); (try simp only [Int32.reduceToInt, Int64.reduceToInt] at f8); (try have f8e : ((((ni.toUInt32 >>> ((16 : Int32) &&& 31).toUInt32).toInt32).toUInt32 >>> ((4 : Int32) &&& 31).toUInt32).toInt32).toInt = ((ni.toUInt32 >>> ((16 : Int32) &&& 31).toUInt32).toInt32).toInt / 16 := (by omega)); have f9 := congrArg Int32.toInt hv_v17; (try simp only [Int32.reduceToInt, Int64.reduceToInt] at f9); have f10 := rng32 v17; (try simp only [Int32.reduceToInt, Int64.reduceToInt] at f10); have f13 := rng32 ((v17.toUInt32 >>> ((1 : Int32) &&& 31).toUInt32).toInt32); (try simp only [Int32.reduceToInt, Int64.reduceToInt] at f13); have f14 := c_iushr v17 (1 : Int32) 1 (by decide) (by decide); (try simp only [Int32.reduceToInt, Int64.reduceToInt] at f14); (try have f14e : ((v17.toUInt32 >>> ((1 : Int32) &&& 31).toUInt32).toInt32).toInt = v17.toInt / 2 := (by omega)); have f15 := rng32 ((11 : Int32) - ((v17.toUInt32 >>> ((1 : Int32) &&& 31).toUInt32).toInt32)); (try simp only [Int32.reduceToInt, Int64.reduceToInt] at f15); have f16 := c_isub (11 : Int32) ((v17.toUInt32 >>> ((1 : Int32) &&& 31).toUInt32).toInt32); (try simp only [Int32.reduceToInt, Int64.reduceToInt] at f16); (try have f16e : ((11 : Int32) - ((v17.toUInt32 >>> ((1 : Int32) &&& 31).toUInt32).toInt32)).toInt = (11 : Int) - ((v17.toUInt32 >>> ((1 : Int32) &&& 31).toUInt32).toInt32).toInt := (by omega)); (try simp only [Int32.reduceToInt, Int64.reduceToInt, and_true, true_and, or_true, true_or]); skip; have hu : ((v17.toUInt32 >>> ((1 : Int32) &&& 31).toUInt32).toInt32).toInt = 0 ∨ ((v17.toUInt32 >>> ((1 : Int32) &&& 31).toUInt32).toInt32).toInt = 1 := (by omega); rcases hu with hu | hu; exact Or.inr (Or.inr ⟨20, by decide, by omega, by omega, by omega⟩); first | exact Or.inr (Or.inr ⟨21, by decide, by omega, by omega, by omega⟩) | (exfalso; omega)), e0, rfl⟩
          · intro c18
            refine g_iinc (q := 69) (v := (9 : Int32)) (L' := #[.val (.int v17), .val (.int (9 : Int32))]) X0.here hx (hb hby d5_66) rfl rfl rfl rfl ?_
            refine g_iloadN (q := 70) X0.here hx (hb hby d5_69) rfl rfl ?_
            refine g_iconst (q := 71) (v := (2 : Int32)) X0.here hx (hb hby d5_70) rfl rfl ?_
            refine g_iushr (q := 72) X0.here hx (hb hby d5_71) rfl ?_
            refine g_istoreN (q := 73) (L' := #[.val (.int ((v17.toUInt32 >>> ((2 : Int32) &&& 31).toUInt32).toInt32)), .val (.int (9 : Int32))]) X0.here hx (hb hby d5_72) rfl rfl ?_
            refine g_iloadN (q := 74) X0.here hx (hb hby d5_73) rfl rfl ?_
            refine g_iloadN (q := 75) X0.here hx (hb hby d5_74) rfl rfl ?_
            refine g_iconst (q := 76) (v := (1 : Int32)) X0.here hx (hb hby d5_75) rfl rfl ?_
            refine g_iushr (q := 77) X0.here hx (hb hby d5_76) rfl ?_
            refine g_isub (q := 78) X0.here hx (hb hby d5_77) rfl ?_
            exact g_ireturn X0 hx hlk hrt (hb hby d5_78) (by decide) (by decide) ⟨_, rfl, (show (ni.toInt < 0 ∧ ((9 : Int32) - ((((v17.toUInt32 >>> ((2 : Int32) &&& 31).toUInt32).toInt32).toUInt32 >>> ((1 : Int32) &&& 31).toUInt32).toInt32)).toInt = 0) ∨ (ni.toInt = 0 ∧ ((9 : Int32) - ((((v17.toUInt32 >>> ((2 : Int32) &&& 31).toUInt32).toInt32).toUInt32 >>> ((1 : Int32) &&& 31).toUInt32).toInt32)).toInt = 32) ∨ (∃ k : Nat, k ≤ 30 ∧ ((9 : Int32) - ((((v17.toUInt32 >>> ((2 : Int32) &&& 31).toUInt32).toInt32).toUInt32 >>> ((1 : Int32) &&& 31).toUInt32).toInt32)).toInt = 31 - (k : Int) ∧ (2 : Int) ^ k ≤ ni.toInt ∧ ni.toInt < 2 ^ (k + 1)) by (try simp only [Int32.reduceToInt, Int64.reduceToInt, true_and, and_true, not_true_eq_false, not_false_eq_true, false_and, or_false, false_or] at c1); (try simp only [Int32.reduceToInt, Int64.reduceToInt, true_and, and_true, not_true_eq_false, not_false_eq_true, false_and, or_false, false_or] at c2); (try simp only [Int32.reduceToInt, Int64.reduceToInt, true_and, and_true, not_true_eq_false, not_false_eq_true, false_and, or_false, false_or] at c13); (try simp only [Int32.reduceToInt, Int64.reduceToInt, true_and, and_true, not_true_eq_false, not_false_eq_true, false_and, or_false, false_or] at c14); (try simp only [Int32.reduceToInt, Int64.reduceToInt, true_and, and_true, not_true_eq_false, not_false_eq_true, false_and, or_false, false_or] at hv_v17); (try simp only [Int32.reduceToInt, Int64.reduceToInt, true_and, and_true, not_true_eq_false, not_false_eq_true, false_and, or_false, false_or] at c18); have f1 := rng32 ni; (try simp only [Int32.reduceToInt, Int64.reduceToInt] at f1); have f3 := rng32 ((ni.toUInt32 >>> ((16 : Int32) &&& 31).toUInt32).toInt32); (try simp only [Int32.reduceToInt, Int64.reduceToInt] at f3); have f4 := c_iushr ni (16 : Int32) 16 (by decide) (by decide); (try simp only [Int32.reduceToInt, Int64.reduceToInt] at f4); (try have f4e : ((ni.toUInt32 >>> ((16 : Int32) &&& 31).toUInt32).toInt32).toInt = ni.toInt / 65536 := (by omega)); have f7 := rng32 ((((ni.toUInt32 >>> ((16 : Int32) &&& 31).toUInt32).toInt32).toUInt32 >>> ((4 : Int32) &&& 31).toUInt32).toInt32); (try simp only [Int32.reduceToInt, Int64.reduceToInt] at f7); have f8 := c_iushr ((ni.toUInt32 >>> ((16 : Int32) &&& 31).toUInt32).toInt32) (4 : Int32) 4 (by decide) (by decide); (try simp only [Int32.reduceToInt, Int64.reduceToInt] at f8); (try have f8e : ((((ni.toUInt32 >>> ((16 : Int32) &&& 31).toUInt32).toInt32).toUInt32 >>> ((4 : Int32) &&& 31).toUInt32).toInt32).toInt = ((ni.toUInt32 >>> ((16 : Int32) &&& 31).toUInt32).toInt32).toInt / 16 := (by omega)); have f9 := congrArg Int32.toInt hv_v17; (try simp only [Int32.reduceToInt, Int64.reduceToInt] at f9); have f10 := rng32 v17; (try simp only [Int32.reduceToInt, Int64.reduceToInt] at f10); have f14 := rng32 ((v17.toUInt32 >>> ((2 : Int32) &&& 31).toUInt32).toInt32); (try simp only [Int32.reduceToInt, Int64.reduceToInt] at f14); have f15 := c_iushr v17 (2 : Int32) 2 (by decide) (by decide); (try simp only [Int32.reduceToInt, Int64.reduceToInt] at f15); (try have f15e : ((v17.toUInt32 >>> ((2 : Int32) &&& 31).toUInt32).toInt32).toInt = v17.toInt / 4 := (by omega)); have f16 := rng32 ((((v17.toUInt32 >>> ((2 : Int32) &&& 31).toUInt32).toInt32).toUInt32 >>> ((1 : Int32) &&& 31).toUInt32).toInt32); (try simp only [Int32.reduceToInt, Int64.reduceToInt] at f16); have f17 := c_iushr ((v17.toUInt32 >>> ((2 : Int32) &&& 31).toUInt32).toInt32) (1 : Int32) 1 (by decide) (by decide); (try simp only [Int32.reduceToInt, Int64.reduceToInt] at f17); (try have f17e : ((((v17.toUInt32 >>> ((2 : Int32) &&& 31).toUInt32).toInt32).toUInt32 >>> ((1 : Int32) &&& 31).toUInt32).toInt32).toInt = ((v17.toUInt32 >>> ((2 : Int32) &&& 31).toUInt32).toInt32).toInt / 2 := (by omega)); have f18 := rng32 ((9 : Int32) - ((((v17.toUInt32 >>> ((2 : Int32) &&& 31).toUInt32).toInt32).toUInt32 >>> ((1 : Int32) &&& 31).toUInt32).toInt32)); (try simp only [Int32.reduceToInt, Int64.reduceToInt] at f18); have f19 := c_isub (9 : Int32) ((((v17.toUInt32 >>> ((2 : Int32) &&& 31).toUInt32).toInt32).toUInt32 >>> ((1 : Int32) &&& 31).toUInt32).toInt32); (try simp only [Int32.reduceToInt, Int64.reduceToInt] at f19); (try have f19e : ((9 : Int32) - ((((v17.toUInt32 >>> ((2 : Int32) &&& 31).toUInt32).toInt32).toUInt32 >>> ((1 : Int32) &&& 31).toUInt32).toInt32)).toInt = (9 : Int) - ((((v17.toUInt32 >>> ((2 : Int32) &&& 31).toUInt32).toInt32).toUInt32 >>> ((1 : Int32) &&& 31).toUInt32).toInt32).toInt := (by omega)); (try simp only [Int32.reduceToInt, Int64.reduceToInt, and_true, true_and, or_true, true_or]); skip; have hu : ((((v17.toUInt32 >>> ((2 : Int32) &&& 31).toUInt32).toInt32).toUInt32 >>> ((1 : Int32) &&& 31).toUInt32).toInt32).toInt = 0 ∨ ((((v17.toUInt32 >>> ((2 : Int32) &&& 31).toUInt32).toInt32).toUInt32 >>> ((1 : Int32) &&& 31).toUInt32).toInt32).toInt = 1 := (by omega); rcases hu with hu | hu; exact Or.inr (Or.inr ⟨22, by decide, by omega, by omega, by omega⟩); first | exact Or.inr (Or.inr ⟨23, by decide, by omega, by omega, by omega⟩) | (exfalso; omega)), e0, rfl⟩
      · intro c13
        refine g_iinc (q := 43) (v := (7 : Int32)) (L' := #[.val (.int ((ni.toUInt32 >>> ((16 : Int32) &&& 31).toUInt32).toInt32)), .val (.int (7 : Int32))]) X0.here hx (hb hby d5_40) rfl rfl rfl rfl ?_
        refine g_iloadN (q := 44) X0.here hx (hb hby d5_43) rfl rfl ?_
        refine g_bipush (q := 46) (v := (8 : Int32)) X0.here hx (hb hby d5_44) rfl rfl ?_
        refine g_iushr (q := 47) X0.here hx (hb hby d5_46) rfl ?_
        generalize hv_v19 : ((((ni.toUInt32 >>> ((16 : Int32) &&& 31).toUInt32).toInt32).toUInt32 >>> ((8 : Int32) &&& 31).toUInt32).toInt32) = v19
        refine g_istoreN (q := 48) (L' := #[.val (.int v19), .val (.int (7 : Int32))]) X0.here hx (hb hby d5_47) rfl rfl ?_
        refine g_iloadN (q := 49) X0.here hx (hb hby d5_48) rfl rfl ?_
        refine g_bipush (q := 51) (v := (16 : Int32)) X0.here hx (hb hby d5_49) rfl rfl ?_
        refine g_icmp_lt (q := 61) (q0 := 54) X0.here hx (hb hby d5_51) (by decide) (by decide) rfl ?_ ?_
        · intro c20
          refine g_iloadN (q := 62) X0.here hx (hb hby d5_61) rfl rfl ?_
          refine g_iconst (q := 63) (v := (4 : Int32)) X0.here hx (hb hby d5_62) rfl rfl ?_
          refine g_icmp_lt (q := 73) (q0 := 66) X0.here hx (hb hby d5_63) (by decide) (by decide) rfl ?_ ?_
          · intro c21
            refine g_iloadN (q := 74) X0.here hx (hb hby d5_73) rfl rfl ?_
            refine g_iloadN (q := 75) X0.here hx (hb hby d5_74) rfl rfl ?_
            refine g_iconst (q := 76) (v := (1 : Int32)) X0.here hx (hb hby d5_75) rfl rfl ?_
            refine g_iushr (q := 77) X0.here hx (hb hby d5_76) rfl ?_
            refine g_isub (q := 78) X0.here hx (hb hby d5_77) rfl ?_
            exact g_ireturn X0 hx hlk hrt (hb hby d5_78) (by decide) (by decide) ⟨_, rfl, (show (ni.toInt < 0 ∧ ((7 : Int32) - ((v19.toUInt32 >>> ((1 : Int32) &&& 31).toUInt32).toInt32)).toInt = 0) ∨ (ni.toInt = 0 ∧ ((7 : Int32) - ((v19.toUInt32 >>> ((1 : Int32) &&& 31).toUInt32).toInt32)).toInt = 32) ∨ (∃ k : Nat, k ≤ 30 ∧ ((7 : Int32) - ((v19.toUInt32 >>> ((1 : Int32) &&& 31).toUInt32).toInt32)).toInt = 31 - (k : Int) ∧ (2 : Int) ^ k ≤ ni.toInt ∧ ni.toInt < 2 ^ (k + 1)) by (try simp only [Int32.reduceToInt, Int64.reduceToInt, true_and, and_true, not_true_eq_false, not_false_eq_true, false_and, or_false, false_or] at c1); (try simp only [Int32.reduceToInt, Int64.reduceToInt, true_and, and_true, not_true_eq_false, not_false_eq_true, false_and, or_false, false_or] at c2); (try simp only [Int32.reduceToInt, Int64.reduceToInt, true_and, and_true, not_true_eq_false, not_false_eq_true, false_and, or_false, false_or] at c13); (try simp only [Int32.reduceToInt, Int64.reduceToInt, true_and, and_true, not_true_eq_false, not_false_eq_true, false_and, or_false, false_or] at hv_v19); (try simp only [Int32.reduceToInt, Int64.reduceToInt, true_and, and_true, not_true_eq_false, not_false_eq_true, false_and, or_false, false_or] at c20); (try simp only [Int32.reduceToInt, Int64.reduceToInt, true_and, and_true, not_true_eq_false, not_false_eq_true, false_and, or_false, false_or] at c21); have f1 := rng32 ni; (try simp only [Int32.reduceToInt, Int64.reduceToInt] at f1); have f3 := rng32 ((ni.toUInt32 >>> ((16 : Int32) &&& 31).toUInt32).toInt32); (try simp only [Int32.reduceToInt, Int64.reduceToInt] at f3); have f4 := c_iushr ni (16 : Int32) 16 (by decide) (by decide); (try simp only [Int32.reduceToInt, Int64.reduceToInt] at f4); (try have f4e : ((ni.toUInt32 >>> ((16 : Int32) &&& 31).toUInt32).toInt32).toInt = ni.toInt / 65536 := (by omega)); have f7 := rng32 ((((ni.toUInt32 >>> ((16 : Int32) &&& 31).toUInt32).toInt32).toUInt32 >>> ((8 : Int32) &&& 31).toUInt32).toInt32); (try simp only [Int32.reduceToInt, Int64.reduceToInt] at f7); have f8 := c_iushr ((ni.toUInt32 >>> ((16 : Int32) &&& 31).toUInt32).toInt32) (8 : Int32) 8 (by decide) (by decide); (try simp only [Int32.reduceToInt, Int64.reduceToInt] at f8); (try have f8e : ((((ni.toUInt32 >>> ((16 : Int32) &&& 31).toUInt32).toInt32).toUInt32 >>> ((8 : Int32) &&& 31).toUInt32).toInt32).toInt = ((ni.toUInt32 >>> ((16 : Int32) &&& 31).toUInt32).toInt32).toInt / 256 := (by omega)); have f9 := congrArg Int32.toInt hv_v19; (try simp only [Int32.reduceToInt, Int64.reduceToInt] at f9); have f10 := rng32 v19; (try simp only [Int32.reduceToInt, Int64.reduceToInt] at f10); have f13 := rng32 ((v19.toUInt32 >>> ((1 : Int32) &&& 31).toUInt32).toInt32); (try simp only [Int32.reduceToInt, Int64.reduceToInt] at f13); have f14 := c_iushr v19 (1 : Int32) 1 (by decide) (by decide); (try simp only [Int32.reduceToInt, Int64.reduceToInt] at f14); (try have f14e : ((v19.toUInt32 >>> ((1 : Int32) &&& 31).toUInt32).toInt32).toInt = v19.toInt / 2 := (by omega)); have f15 := rng32 ((7 : Int32) - ((v19.toUInt32 >>> ((1 : Int32) &&& 31).toUInt32).toInt32)); (try simp only [Int32.reduceToInt, Int64.reduceToInt] at f15); have f16 := c_isub (7 : Int32) ((v19.toUInt32 >>> ((1 : Int32) &&& 31).toUInt32).toInt32); (try simp only [Int32.reduceToInt, Int64.reduceToInt] at f16); (try have f16e : ((7 : Int32) - ((v19.toUInt32 >>> ((1 : Int32) &&& 31).toUInt32).toInt32)).toInt = (7 : Int) - ((v19.toUInt32 >>> ((1 : Int32) &&& 31).toUInt32).toInt32).toInt := (by omega)); (try simp only [Int32.reduceToInt, Int64.reduceToInt, and_true, true_and, or_true, true_or]); skip; have hu : ((v19.toUInt32 >>> ((1 : Int32) &&& 31).toUInt32).toInt32).toInt = 0 ∨ ((v19.toUInt32 >>> ((1 : Int32) &&& 31).toUInt32).toInt32).toInt = 1 := (by omega); rcases hu with hu | hu; exact Or.inr (Or.inr ⟨24, by decide, by omega, by omega, by omega⟩); first | exact Or.inr (Or.inr ⟨25, by decide, by omega, by omega, by omega⟩) | (exfalso; omega)), e0, rfl⟩
          · intro c21
            refine g_iinc (q := 69) (v := (5 : Int32)) (L' := #[.val (.int v19), .val (.int (5 : Int32))]) X0.here hx (hb hby d5_66) rfl rfl rfl rfl ?_
            refine g_iloadN (q := 70) X0.here hx (hb hby d5_69) rfl rfl ?_
            refine g_iconst (q := 71) (v := (2 : Int32)) X0.here hx (hb hby d5_70) rfl rfl ?_
            refine g_iushr (q := 72) X0.here hx (hb hby d5_71) rfl ?_
            refine g_istoreN (q := 73) (L' := #[.val (.int ((v19.toUInt32 >>> ((2 : Int32) &&& 31).toUInt32).toInt32)), .val (.int (5 : Int32))]) X0.here hx (hb hby d5_72) rfl rfl ?_
            refine g_iloadN (q := 74) X0.here hx (hb hby d5_73) rfl rfl ?_
            refine g_iloadN (q := 75) X0.here hx (hb hby d5_74) rfl rfl ?_
            refine g_iconst (q := 76) (v := (1 : Int32)) X0.here hx (hb hby d5_75) rfl rfl ?_
            refine g_iushr (q := 77) X0.here hx (hb hby d5_76) rfl ?_
            refine g_isub (q := 78) X0.here hx (hb hby d5_77) rfl ?_
            exact g_ireturn X0 hx hlk hrt (hb hby d5_78) (by decide) (by decide) ⟨_, rfl, (show (ni.toInt < 0 ∧ ((5 : Int32) - ((((v19.toUInt32 >>> ((2 : Int32) &&& 31).toUInt32).toInt32).toUInt32 >>> ((1 : Int32) &&& 31).toUInt32).toInt32)).toInt = 0) ∨ (ni.toInt = 0 ∧ ((5 : Int32) - ((((v19.toUInt32 >>> ((2 : Int32) &&& 31).toUInt32).toInt32).toUInt32 >>> ((1 : Int32) &&& 31).toUInt32).toInt32)).toInt = 32) ∨ (∃ k : Nat, k ≤ 30 ∧ ((5 : Int32) - ((((v19.toUInt32 >>> ((2 : Int32) &&& 31).toUInt32).toInt32).toUInt32 >>> ((1 : Int32) &&& 31).toUInt32).toInt32)).toInt = 31 - (k : Int) ∧ (2 : Int) ^ k ≤ ni.toInt ∧ ni.toInt < 2 ^ (k + 1)) by (try simp only [Int32.reduceToInt, Int64.reduceToInt, true_and, and_true, not_true_eq_false, not_false_eq_true, false_and, or_false, false_or] at c1); (try simp only [Int32.reduceToInt, Int64.reduceToInt, true_and, and_true, not_true_eq_false, not_false_eq_true, false_and, or_false, false_or] at c2); (try simp only [Int32.reduceToInt, Int64.reduceToInt, true_and, and_true, not_true_eq_false, not_false_eq_true, false_and, or_false, false_or] at c13); (try simp only [Int32.reduceToInt, Int64.reduceToInt, true_and, and_true, not_true_eq_false, not_false_eq_true, false_and, or_false, false_or] at hv_v19); (try simp only [Int32.reduceToInt, Int64.reduceToInt, true_and, and_true, not_true_eq_false, not_false_eq_true, false_and, or_false, false_or] at c20); (try simp only [Int32.reduceToInt, Int64.reduceToInt, true_and, and_true, not_true_eq_false, not_false_eq_true, false_and, or_false, false_or] at c21); have f1 := rng32 ni; (try simp only [Int32.reduceToInt, Int64.reduceToInt] at f1); have f3 := rng32 ((ni.toUInt32 >>> ((16 : Int32) &&& 31).toUInt32).toInt32); (try simp only [Int32.reduceToInt, Int64.reduceToInt] at f3); have f4 := c_iushr ni (16 : Int32) 16 (by decide) (by decide); (try simp only [Int32.reduceToInt, Int64.reduceToInt] at f4); (try have f4e : ((ni.toUInt32 >>> ((16 : Int32) &&& 31).toUInt32).toInt32).toInt = ni.toInt / 65536 := (by omega)); have f7 := rng32 ((((ni.toUInt32 >>> ((16 : Int32) &&& 31).toUInt32).toInt32).toUInt32 >>> ((8 : Int32) &&& 31).toUInt32).toInt32); (try simp only [Int32.reduceToInt, Int64.reduceToInt] at f7); have f8 := c_iushr ((ni.toUInt32 >>> ((16 : Int32) &&& 31).toUInt32).toInt32) (8 : Int32) 8 (by decide) (by decide); (try simp only [Int32.reduceToInt, Int64.reduceToInt] at f8); (try have f8e : ((((ni.toUInt32 >>> ((16 : Int32) &&& 31).toUInt32).toInt32).toUInt32 >>> ((8 : Int32) &&& 31).toUInt32).toInt32).toInt = ((ni.toUInt32 >>> ((16 : Int32) &&& 31).toUInt32).toInt32).toInt / 256 := (by omega)); have f9 := congrArg Int32.toInt hv_v19; (try simp only [Int32.reduceToInt, Int64.reduceToInt] at f9); have f10 := rng32 v19; (try simp only [Int32.reduceToInt, Int64.reduceToInt] at f10); have f14 := rng32 ((v19.toUInt32 >>> ((2 : Int32) &&& 31).toUInt32).toInt32); (try simp only [Int32.reduceToInt, Int64.reduceToInt] at f14); have f15 := c_iushr v19 (2 : Int32) 2 (by decide) (by decide); (try simp only [Int32.reduceToInt, Int64.reduceToInt] at f15); (try have f15e : ((v19.toUInt32 >>> ((2 : Int32) &&& 31).toUInt32).toInt32).toInt = v19.toInt / 4 := (by omega)); have f16 := rng32 ((((v19.toUInt32 >>> ((2 : Int32) &&& 31).toUInt32).toInt32).toUInt32 >>> ((1 : Int32) &&& 31).toUInt32).toInt32); (try simp only [Int32.reduceToInt, Int64.reduceToInt] at f16); have f17 := c_iushr ((v19.toUInt32 >>> ((2 : Int32) &&& 31).toUInt32).toInt32) (1 : Int32) 1 (by decide) (by decide); (try simp only [Int32.reduceToInt, Int64.reduceToInt] at f17); (try have f17e : ((((v19.toUInt32 >>> ((2 : Int32) &&& 31).toUInt32).toInt32).toUInt32 >>> ((1 : Int32) &&& 31).toUInt32).toInt32).toInt = ((v19.toUInt32 >>> ((2 : Int32) &&& 31).toUInt32).toInt32).toInt / 2 := (by omega)); have f18 := rng32 ((5 : Int32) - ((((v19.toUInt32 >>> ((2 : Int32) &&& 31).toUInt32).toInt32).toUInt32 >>> ((1 : Int32) &&& 31).toUInt32).toInt32)); (try simp only [Int32.reduceToInt, Int64.reduceToInt] at f18); have f19 := c_isub (5 : Int32) ((((v19.toUInt32 >>> ((2 : Int32) &&& 31).toUInt32).toInt32).toUInt32 >>> ((1 : Int32) &&& 31).toUInt32).toInt32); (try simp only [Int32.reduceToInt, Int64.reduceToInt] at f19); (try have f19e : ((5 : Int32) - ((((v19.toUInt32 >>> ((2 : Int32) &&& 31).toUInt32).toInt32).toUInt32 >>> ((1 : Int32) &&& 31).toUInt32).toInt32)).toInt = (5 : Int) - ((((v19.toUInt32 >>> ((2 : Int32) &&& 31).toUInt32).toInt32).toUInt32 >>> ((1 : Int32) &&& 31).toUInt32).toInt32).toInt := (by omega)); (try simp only [Int32.reduceToInt, Int64.reduceToInt, and_true, true_and, or_true, true_or]); skip; have hu : ((((v19.toUInt32 >>> ((2 : Int32) &&& 31).toUInt32).toInt32).toUInt32 >>> ((1 : Int32) &&& 31).toUInt32).toInt32).toInt = 0 ∨ ((((v19.toUInt32 >>> ((2 : Int32) &&& 31).toUInt32).toInt32).toUInt32 >>> ((1 : Int32) &&& 31).toUInt32).toInt32).toInt = 1 := (by omega); rcases hu with hu | hu; exact Or.inr (Or.inr ⟨26, by decide, by omega, by omega, by omega⟩); first | exact Or.inr (Or.inr ⟨27, by decide, by omega, by omega, by omega⟩) | (exfalso; omega)), e0, rfl⟩
        · intro c20
          refine g_iinc (q := 57) (v := (3 : Int32)) (L' := #[.val (.int v19), .val (.int (3 : Int32))]) X0.here hx (hb hby d5_54) rfl rfl rfl rfl ?_
          refine g_iloadN (q := 58) X0.here hx (hb hby d5_57) rfl rfl ?_
          refine g_iconst (q := 59) (v := (4 : Int32)) X0.here hx (hb hby d5_58) rfl rfl ?_
          refine g_iushr (q := 60) X0.here hx (hb hby d5_59) rfl ?_
          refine g_istoreN (q := 61) (L' := #[.val (.int ((v19.toUInt32 >>> ((4 : Int32) &&& 31).toUInt32).toInt32)), .val (.int (3 : Int32))]) X0.here hx (hb hby d5_60) rfl rfl ?_
          refine g_iloadN (q := 62) X0.here hx (hb hby d5_61) rfl rfl ?_
          refine g_iconst (q := 63) (v := (4 : Int32)) X0.here hx (hb hby d5_62) rfl rfl ?_
          refine g_icmp_lt (q := 73) (q0 := 66) X0.here hx (hb hby d5_63) (by decide) (by decide) rfl ?_ ?_
          · intro c22
            refine g_iloadN (q := 74) X0.here hx (hb hby d5_73) rfl rfl ?_
            refine g_iloadN (q := 75) X0.here hx (hb hby d5_74) rfl rfl ?_
            refine g_iconst (q := 76) (v := (1 : Int32)) X0.here hx (hb hby d5_75) rfl rfl ?_
            refine g_iushr (q := 77) X0.here hx (hb hby d5_76) rfl ?_
            refine g_isub (q := 78) X0.here hx (hb hby d5_77) rfl ?_
            exact g_ireturn X0 hx hlk hrt (hb hby d5_78) (by decide) (by decide) ⟨_, rfl, (show (ni.toInt < 0 ∧ ((3 : Int32) - ((((v19.toUInt32 >>> ((4 : Int32) &&& 31).toUInt32).toInt32).toUInt32 >>> ((1 : Int32) &&& 31).toUInt32).toInt32)).toInt = 0) ∨ (ni.toInt = 0 ∧ ((3 : Int32) - ((((v19.toUInt32 >>> ((4 : Int32) &&& 31).toUInt32).toInt32).toUInt32 >>> ((1 : Int32) &&& 31).toUInt32).toInt32)).toInt = 32) ∨ (∃ k : Nat, k ≤ 30 ∧ ((3 : Int32) - ((((v19.toUInt32 >>> ((4 : Int32) &&& 31).toUInt32).toInt32).toUInt32 >>> ((1 : Int32) &&& 31).toUInt32).toInt32)).toInt = 31 - (k : Int) ∧ (2 : Int) ^ k ≤ ni.toInt ∧ ni.toInt < 2 ^ (k + 1)) by (try simp only [Int32.reduceToInt, Int64.reduceToInt, true_and, and_true, not_true_eq_false, not_false_eq_true, false_and, or_false, false_or] at c1); (try simp only [Int32.reduceToInt, Int64.reduceToInt, true_and, and_true, not_true_eq_false, not_false_eq_true, false_and, or_false, false_or] at c2); (try simp only [Int32.reduceToInt, Int64.reduceToInt, true_and, and_true, not_true_eq_false, not_false_eq_true, false_and, or_false, false_or] at c13); (try simp only [Int32.reduceToInt, Int64.reduceToInt, true_and, and_true, not_true_eq_false, not_false_eq_true, false_and, or_false, false_or] at hv_v19); (try simp only [Int32.reduceToInt, Int64.reduceToInt, true_and, and_true, not_true_eq_false, not_false_eq_true, false_and, or_false, false_or] at c20); (try simp only [Int32.reduceToInt, Int64.reduceToInt, true_and, and_true, not_true_eq_false, not_false_eq_true, false_and, or_false, false_or] at c22); have f1 := rng32 ni; (try simp only [Int32.reduceToInt, Int64.reduceToInt] at f1); have f3 := rng32 ((ni.toUInt32 >>> ((16 : Int32) &&& 31).toUInt32).toInt32); (try simp only [Int32.reduceToInt, Int64.reduceToInt] at f3); have f4 := c_iushr ni (16 : Int32) 16 (by decide) (by decide); (try simp only [Int32.reduceToInt, Int64.reduceToInt] at f4); (try have f4e : ((ni.toUInt32 >>> ((16 : Int32) &&& 31).toUInt32).toInt32).toInt = ni.toInt / 65536 := (by omega)); have f7 := rng32 ((((ni.toUInt32 >>> ((16 : Int32) &&& 31).toUInt32).toInt32).toUInt32 >>> ((8 : Int32) &&& 31).toUInt32).toInt32); (try simp only [Int32.reduceToInt, Int64.reduceToInt] at f7); have f8 := c_iushr ((ni.toUInt32 >>> ((16 : Int32) &&& 31).toUInt32).toInt32) (8 : Int32) 8 (by decide) (by decide); (try simp only [Int32.reduceToInt, Int64.reduceToInt] at f8); (try have f8e : ((((ni.toUInt32 >>> ((16 : Int32) &&& 31).toUInt32).toInt32).toUInt32 >>> ((8 : Int32) &&& 31).toUInt32).toInt32).toInt = ((ni.toUInt32 >>> ((16 : Int32) &&& 31).toUInt32).toInt32).toInt / 256 := (by omega)); have f9 := congrArg Int32.toInt hv_v19; (try simp only [Int32.reduceToInt, Int64.reduceToInt] at f9); have f10 := rng32 v19; (try simp only [Int32.reduceToInt, Int64.reduceToInt] at f10); have f12 := rng32 ((v19.toUInt32 >>> ((4 : Int32) &&& 31).toUInt32).toInt32); (try simp only [Int32.reduceToInt, Int64.reduceToInt] at f12); have f13 := c_iushr v19 (4 : Int32) 4 (by decide) (by decide); (try simp only [Int32.reduceToInt, Int64.reduceToInt] at f13); (try have f13e : ((v19.toUInt32 >>> ((4 : Int32) &&& 31).toUInt32).toInt32).toInt = v19.toInt / 16 := (by omega)); have f16 := rng32 ((((v19.toUInt32 >>> ((4 : Int32) &&& 31).toUInt32).toInt32).toUInt32 >>> ((1 : Int32) &&& 31).toUInt32).toInt32); (try simp only [Int32.reduceToInt, Int64.reduceToInt] at f16); have f17 := c_iushr ((v19.toUInt32 >>> ((4 : Int32) &&& 31).toUInt32).toInt32) (1 : Int32) 1 (by decide) (by decide); (try simp only [Int32.reduceToInt, Int64.reduceToInt] at f17); (try have f17e : ((((v19.toUInt32 >>> ((4 : Int32) &&& 31).toUInt32).toInt32).toUInt32 >>> ((1 : Int32) &&& 31).toUInt32).toInt32).toInt = ((v19.toUInt32 >>> ((4 : Int32) &&& 31).toUInt32).toInt32).toInt / 2 := (by omega)); have f18 := rng32 ((3 : Int32) - ((((v19.toUInt32 >>> ((4 : Int32) &&& 31).toUInt32).toInt32).toUInt32 >>> ((1 : Int32) &&& 31).toUInt32).toInt32)); (try simp only [Int32.reduceToInt, Int64.reduceToInt] at f18); have f19 := c_isub (3 : Int32) ((((v19.toUInt32 >>> ((4 : Int32) &&& 31).toUInt32).toInt32).toUInt32 >>> ((1 : Int32) &&& 31).toUInt32).toInt32); (try simp only [Int32.reduceToInt, Int64.reduceToInt] at f19); (try have f19e : ((3 : Int32) - ((((v19.toUInt32 >>> ((4 : Int32) &&& 31).toUInt32).toInt32).toUInt32 >>> ((1 : Int32) &&& 31).toUInt32).toInt32)).toInt = (3 : Int) - ((((v19.toUInt32 >>> ((4 : Int32) &&& 31).toUInt32).toInt32).toUInt32 >>> ((1 : Int32) &&& 31).toUInt32).toInt32).toInt := (by omega)); (try simp only [Int32.reduceToInt, Int64.reduceToInt, and_true, true_and, or_true, true_or]); skip; have hu : ((((v19.toUInt32 >>> ((4 : Int32) &&& 31).toUInt32).toInt32).toUInt32 >>> ((1 : Int32) &&& 31).toUInt32).toInt32).toInt = 0 ∨ ((((v19.toUInt32 >>> ((4 : Int32) &&& 31).toUInt32).toInt32).toUInt32 >>> ((1 : Int32) &&& 31).toUInt32).toInt32).toInt = 1 := (by omega); rcases hu with hu | hu; exact Or.inr (Or.inr ⟨28, by decide, by omega, by omega, by omega⟩); first | exact Or.inr (Or.inr ⟨29, by decide, by omega, by omega, by omega⟩) | (exfalso; omega)), e0, rfl⟩
          · intro c22
            refine g_iinc (q := 69) (v := (1 : Int32)) (L' := #[.val (.int ((v19.toUInt32 >>> ((4 : Int32) &&& 31).toUInt32).toInt32)), .val (.int (1 : Int32))]) X0.here hx (hb hby d5_66) rfl rfl rfl rfl ?_
            refine g_iloadN (q := 70) X0.here hx (hb hby d5_69) rfl rfl ?_
            refine g_iconst (q := 71) (v := (2 : Int32)) X0.here hx (hb hby d5_70) rfl rfl ?_
            refine g_iushr (q := 72) X0.here hx (hb hby d5_71) rfl ?_
            generalize hv_v23 : ((((v19.toUInt32 >>> ((4 : Int32) &&& 31).toUInt32).toInt32).toUInt32 >>> ((2 : Int32) &&& 31).toUInt32).toInt32) = v23
            refine g_istoreN (q := 73) (L' := #[.val (.int v23), .val (.int (1 : Int32))]) X0.here hx (hb hby d5_72) rfl rfl ?_
            refine g_iloadN (q := 74) X0.here hx (hb hby d5_73) rfl rfl ?_
            refine g_iloadN (q := 75) X0.here hx (hb hby d5_74) rfl rfl ?_
            refine g_iconst (q := 76) (v := (1 : Int32)) X0.here hx (hb hby d5_75) rfl rfl ?_
            refine g_iushr (q := 77) X0.here hx (hb hby d5_76) rfl ?_
            refine g_isub (q := 78) X0.here hx (hb hby d5_77) rfl ?_
            exact g_ireturn X0 hx hlk hrt (hb hby d5_78) (by decide) (by decide) ⟨_, rfl, (show (ni.toInt < 0 ∧ ((1 : Int32) - ((v23.toUInt32 >>> ((1 : Int32) &&& 31).toUInt32).toInt32)).toInt = 0) ∨ (ni.toInt = 0 ∧ ((1 : Int32) - ((v23.toUInt32 >>> ((1 : Int32) &&& 31).toUInt32).toInt32)).toInt = 32) ∨ (∃ k : Nat, k ≤ 30 ∧ ((1 : Int32) - ((v23.toUInt32 >>> ((1 : Int32) &&& 31).toUInt32).toInt32)).toInt = 31 - (k : Int) ∧ (2 : Int) ^ k ≤ ni.toInt ∧ ni.toInt < 2 ^ (k + 1)) by (try simp only [Int32.reduceToInt, Int64.reduceToInt, true_and, and_true, not_true_eq_false, not_false_eq_true, false_and, or_false, false_or] at c1); (try simp only [Int32.reduceToInt, Int64.reduceToInt, true_and, and_true, not_true_eq_false, not_false_eq_true, false_and, or_false, false_or] at c2); (try simp only [Int32.reduceToInt, Int64.reduceToInt, true_and, and_true, not_true_eq_false, not_false_eq_true, false_and, or_false, false_or] at c13); (try simp only [Int32.reduceToInt, Int64.reduceToInt, true_and, and_true, not_true_eq_false, not_false_eq_true, false_and, or_false, false_or] at hv_v19); (try simp only [Int32.reduceToInt, Int64.reduceToInt, true_and, and_true, not_true_eq_false, not_false_eq_true, false_and, or_false, false_or] at c20); (try simp only [Int32.reduceToInt, Int64.reduceToInt, true_and, and_true, not_true_eq_false, not_false_eq_true, false_and, or_false, false_or] at c22); (try simp only [Int32.reduceToInt, Int64.reduceToInt, true_and, and_true, not_true_eq_false, not_false_eq_true, false_and, or_false, false_or] at hv_v23); have f1 := rng32 ni; (try simp only [Int32.reduceToInt, Int64.reduceToInt] at f1); have f3 := rng32 ((ni.toUInt32 >>> ((16 : Int32) &&& 31).toUInt32).toInt32); (try simp only [Int32.reduceToInt, Int64.reduceToInt] at f3); have f4 := c_iushr ni (16 : Int32) 16 (by decide) (by decide); (try simp only [Int32.reduceToInt, Int64.reduceToInt] at f4); (try have f4e : ((ni.toUInt32 >>> ((16 : Int32) &&& 31).toUInt32).toInt32).toInt = ni.toInt / 65536 := (by omega)); have f7 := rng32 ((((ni.toUInt32 >>> ((16 : Int32) &&& 31).toUInt32).toInt32).toUInt32 >>> ((8 : Int32) &&& 31).toUInt32).toInt32); (try simp only [Int32.reduceToInt, Int64.reduceToInt] at f7); have f8 := c_iushr ((ni.toUInt32 >>> ((16 : Int32) &&& 31).toUInt32).toInt32) (8 : Int32) 8 (by decide) (by decide); (try simp only [Int32.reduceToInt, Int64.reduceToInt] at f8); (try have f8e : ((((ni.toUInt32 >>> ((16 : Int32) &&& 31).toUInt32).toInt32).toUInt32 >>> ((8 : Int32) &&& 31).toUInt32).toInt32).toInt = ((ni.toUInt32 >>> ((16 : Int32) &&& 31).toUInt32).toInt32).toInt / 256 := (by omega)); have f9 := congrArg Int32.toInt hv_v19; (try simp only [Int32.reduceToInt, Int64.reduceToInt] at f9); have f10 := rng32 v19; (try simp only [Int32.reduceToInt, Int64.reduceToInt] at f10); have f12 := rng32 ((v19.toUInt32 >>> ((4 : Int32) &&& 31).toUInt32).toInt32); (try simp only [Int32.reduceToInt, Int64.reduceToInt] at f12); have f13 := c_iushr v19 (4 : Int32) 4 (by decide) (by decide); (try simp only [Int32.reduceToInt, Int64.reduceToInt] at f13); (try have f13e : ((v19.toUInt32 >>> ((4 : Int32) &&& 31).toUInt32).toInt32).toInt = v19.toInt / 16 := (by omega)); have f18 := rng32 ((((v19.toUInt32 >>> ((4 : Int32) &&& 31).toUInt32).toInt32).toUInt32 >>> ((2 : Int32) &&& 31).toUInt32).toInt32); (try simp only [Int32.reduceToInt, Int64.reduceToInt] at f18); have f19 := c_iushr ((v19.toUInt32 >>> ((4 : Int32) &&& 31).toUInt32).toInt32) (2 : Int32) 2 (by decide) (by decide); (try simp only [Int32.reduceToInt, Int64.reduceToInt] at f19); (try have f19e : ((((v19.toUInt32 >>> ((4 : Int32) &&& 31).toUInt32).toInt32).toUInt32 >>> ((2 : Int32) &&& 31).toUInt32).toInt32).toInt = ((v19.toUInt32 >>> ((4 : Int32) &&& 31).toUInt32).toInt32).toInt / 4 := (by omega)); have f20 := congrArg Int32.toInt hv_v23; (try simp only [Int32.reduceToInt, Int64.reduceToInt] at f20); have f21 := rng32 v23; (try simp only [Int32.reduceToInt, Int64.reduceToInt] at f21); have f22 := rng32 ((v23.toUInt32 >>> ((1 : Int32) &&& 31).toUInt32).toInt32); (try simp only [Int32.reduceToInt, Int64.reduceToInt] at f22); have f23 := c_iushr v23 (1 : Int32) 1 (by decide) (by decide); (try simp only [Int32.reduceToInt, Int64.reduceToInt] at f23); (try have f23e : ((v23.toUInt32 >>> ((1 : Int32) &&& 31).toUInt32).toInt32).toInt = v23.toInt / 2 := (by omega)); have f24 := rng32 ((1 : Int32) - ((v23.toUInt32 >>> ((1 : Int32) &&& 31).toUInt32).toInt32)); (try simp only [Int32.reduceToInt, Int64.reduceToInt] at f24); have f25 := c_isub (1 : Int32) ((v23.toUInt32 >>> ((1 : Int32) &&& 31).toUInt32).toInt32); (try simp only [Int32.reduceToInt, Int64.reduceToInt] at f25); (try have f25e : ((1 : Int32) - ((v23.toUInt32 >>> ((1 : Int32) &&& 31).toUInt32).toInt32)).toInt = (1 : Int) - ((v23.toUInt32 >>> ((1 : Int32) &&& 31).toUInt32).toInt32).toInt := (by omega)); (try simp only [Int32.reduceToInt, Int64.reduceToInt, and_true, true_and, or_true, true_or]); skip; have hu : ((v23.toUInt32 >>> ((1 : Int32) &&& 31).toUInt32).toInt32).toInt = 0 ∨ ((v23.toUInt32 >>> ((1 : Int32) &&& 31).toUInt32).toInt32).toInt = 1 := (by omega); rcases hu with hu | hu; exact Or.inr (Or.inr ⟨30, by decide, by omega, by omega, by omega⟩); first | exact Or.inr (Or.inr ⟨31, by decide, by omega, by omega, by omega⟩) | (exfalso; omega)), e0, rfl⟩
  · intro c1
    refine g_iloadN (q := 5) X0.here hx (hb hby d5_4) rfl rfl ?_
    refine g_if_ne (q := 13) (q0 := 8) X0.here hx (hb hby d5_5) (by decide) (by decide) rfl ?_ ?_
    · intro c24
      refine g_iconst (q := 14) (v := (0 : Int32)) X0.here hx (hb hby d5_13) rfl rfl ?_
      exact g_ireturn X0 hx hlk hrt (hb hby d5_14) (by decide) (by decide) ⟨_, rfl, (show (ni.toInt < 0 ∧ (0 : Int32).toInt = 0) ∨ (ni.toInt = 0 ∧ (0 : Int32).toInt = 32) ∨ (∃ k : Nat, k ≤ 30 ∧ (0 : Int32).toInt = 31 - (k : Int) ∧ (2 : Int) ^ k ≤ ni.toInt ∧ ni.toInt < 2 ^ (k + 1)) by (try simp only [Int32.reduceToInt, Int64.reduceToInt] at c1); (try simp only [Int32.reduceToInt, Int64.reduceToInt] at c24);  first | exact Or.inl ⟨by omega, by decide⟩ | exact Or.inr (Or.inl ⟨by omega, by decide⟩)), e0, rfl⟩
    · intro c24
      refine g_bipush (q := 10) (v := (32 : Int32)) X0.here hx (hb hby d5_8) rfl rfl ?_
      refine g_goto (q := 14) X0.here hx (hb hby d5_10) (by decide) (by decide) ?_
      exact g_ireturn X0 hx hlk hrt (hb hby d5_14) (by decide) (by decide) ⟨_, rfl, (show (ni.toInt < 0 ∧ (32 : Int32).toInt = 0) ∨ (ni.toInt = 0 ∧ (32 : Int32).toInt = 32) ∨ (∃ k : Nat, k ≤ 30 ∧ (32 : Int32).toInt = 31 - (k : Int) ∧ (2 : Int) ^ k ≤ ni.toInt ∧ ni.toInt < 2 ^ (k + 1)) by (try simp only [Int32.reduceToInt, Int64.reduceToInt] at c1); (try simp only [Int32.reduceToInt, Int64.reduceToInt] at c24);  first | exact Or.inl ⟨by omega, by decide⟩ | exact Or.inr (Or.inl ⟨by omega, by decide⟩)), e0, rfl⟩
theorem pd_0 : parseMethodDescriptor "(I)I" = some ⟨[.int], some .int⟩ := by decide +kernel
def RM_rm4 : Room := ({ frames := 1, cells := 0, slots := 0, locals := 14 } : Room)
theorem d4_0 : decode jdk_35_method_48_code 0 = .ok (.lload_n 0, 1) := by decide +kernel
theorem d4_1 : decode jdk_35_method_48_code 1 = .ok (.bipush 32, 2) := by decide +kernel
theorem d4_3 : decode jdk_35_method_48_code 3 = .ok (.lushr, 1) := by decide +kernel
theorem d4_4 : decode jdk_35_method_48_code 4 = .ok (.l2i, 1) := by decide +kernel
theorem d4_5 : decode jdk_35_method_48_code 5 = .ok (.istore_n 2, 1) := by decide +kernel
theorem d4_6 : decode jdk_35_method_48_code 6 = .ok (.iload_n 2, 1) := by decide +kernel
theorem d4_7 : decode jdk_35_method_48_code 7 = .ok (.ifCond .ne 14, 3) := by decide +kernel
theorem d4_10 : decode jdk_35_method_48_code 10 = .ok (.bipush 32, 2) := by decide +kernel
theorem d4_12 : decode jdk_35_method_48_code 12 = .ok (.lload_n 0, 1) := by decide +kernel
theorem d4_13 : decode jdk_35_method_48_code 13 = .ok (.l2i, 1) := by decide +kernel
theorem d4_14 : decode jdk_35_method_48_code 14 = .ok (.invokestatic 308, 3) := by decide +kernel
theorem d4_17 : decode jdk_35_method_48_code 17 = .ok (.iadd, 1) := by decide +kernel
theorem d4_18 : decode jdk_35_method_48_code 18 = .ok (.goto 7, 3) := by decide +kernel
theorem d4_21 : decode jdk_35_method_48_code 21 = .ok (.iload_n 2, 1) := by decide +kernel
theorem d4_22 : decode jdk_35_method_48_code 22 = .ok (.invokestatic 308, 3) := by decide +kernel
theorem d4_25 : decode jdk_35_method_48_code 25 = .ok (.ireturn, 1) := by decide +kernel
theorem ef_4 (m : MethodId) (z0 : Int64) : entryFrame m #[.long z0] 3 = mkF m 0 #[.val (.long z0), .second, .unset] [] := by first | (simp [entryFrame, mkF, argsToLocals, Value.category]; done) | rfl
theorem pn_3 : plainName "java/lang/Long" = true := by first | (simp [plainName, overriddenIn]; done) | decide +kernel
set_option maxRecDepth 65536 in
set_option maxHeartbeats 40000000 in
theorem rm4 (l : Launch) (Z : State) (a0 : Array Value) (hw : ∀ d ∈ tables_1, d.before a0 Z = true) (ws : List Jvm.Cond) (nx : Int64) (h0 : Heap) (n0 : Nat) (Z0 : n0 ≤ h0.size) (hpos : 0 < nx.toInt) :
    Ctr l Z (⟨"java/lang/Long", "numberOfLeadingZeros", "(J)I"⟩ : MethodName) jdk_35_method_48_code 3 (some .int) RM_rm4 ws #[.long nx] h0 (IQ (fun r => ∃ k : Nat, k ≤ 62 ∧ r.toInt = 63 - (k : Int) ∧ (2 : Int) ^ k ≤ nx.toInt ∧ nx.toInt < 2 ^ (k + 1)) h0) := by
  refine Ctr.of (plainFor_of_name pn_3) ?_
  intro p e s m below meth c s₁ hx hby hml hrt hlk hnm hown hZ X0 e0
  have N0 := Fr.nil n0
  refine Go.cast (ef_4 m nx) ?_
  refine g_lloadN (q := 1) X0.here hx (hb hby d4_0) rfl rfl ?_
  refine g_bipush (q := 3) (v := (32 : Int32)) X0.here hx (hb hby d4_1) rfl rfl ?_
  refine g_lushr (q := 4) X0.here hx (hb hby d4_3) rfl ?_
  refine g_l2i (q := 5) X0.here hx (hb hby d4_4) rfl ?_
  refine g_istoreN (q := 6) (L' := #[.val (.long nx), .second, .val (.int (((nx.toUInt64 >>> ((32 : Int32) &&& 0x3f).toInt64.toUInt64).toInt64).toInt32))]) X0.here hx (hb hby d4_5) rfl rfl ?_
  refine g_iloadN (q := 7) X0.here hx (hb hby d4_6) rfl rfl ?_
  refine g_if_ne (q := 21) (q0 := 10) X0.here hx (hb hby d4_7) (by decide) (by decide) rfl ?_ ?_
  · intro c1
    refine g_iloadN (q := 22) X0.here hx (hb hby d4_21) rfl rfl ?_
    refine g_callSI (q := 25) X0 hx hZ hown (hw _ (List.mem_of_getElem? (i := 22) rfl)) (hw _ (List.mem_of_getElem? (i := 23) rfl)) (hw _ (List.mem_of_getElem? (i := 24) rfl)) (hw _ (List.mem_of_getElem? (i := 25) rfl)) (by decide) (rm5 l Z a0 hw [] (((nx.toUInt64 >>> ((32 : Int32) &&& 0x3f).toInt64.toUInt64).toInt64).toInt32) h0 n0 Z0) (argsL := [.int (((nx.toUInt64 >>> ((32 : Int32) &&& 0x3f).toInt64.toUInt64).toInt64).toInt32)]) (rest := []) pd_0 rfl rfl rfl (hb hby d4_22) rfl (by rw [hml]; rfl) e0 (by decide) (W := 0) rfl (by decide) rfl rfl (by decide) (by decide) ?_
    intro T2 r3 X2 e2 hr3
    exact g_ireturn X2 hx hlk hrt (hb hby d4_25) (by decide) (by decide) ⟨_, rfl, (show ∃ k : Nat, k ≤ 62 ∧ r3.toInt = 63 - (k : Int) ∧ (2 : Int) ^ k ≤ nx.toInt ∧ nx.toInt < 2 ^ (k + 1) by (try simp only [Int32.reduceToInt, Int64.reduceToInt, true_and, and_true, not_true_eq_false, not_false_eq_true, false_and, or_false, false_or] at c1); (try simp only [Int32.reduceToInt, Int64.reduceToInt, true_and, and_true, not_true_eq_false, not_false_eq_true, false_and, or_false, false_or] at hr3); have f3 := rng64 nx; (try simp only [Int32.reduceToInt, Int64.reduceToInt] at f3); have f4 := rng64 ((nx.toUInt64 >>> ((32 : Int32) &&& 0x3f).toInt64.toUInt64).toInt64); (try simp only [Int32.reduceToInt, Int64.reduceToInt] at f4); have f5 := c_lushr nx (32 : Int32) 32 (by decide) (by decide); (try simp only [Int32.reduceToInt, Int64.reduceToInt] at f5); (try have f5e : ((nx.toUInt64 >>> ((32 : Int32) &&& 0x3f).toInt64.toUInt64).toInt64).toInt = nx.toInt / 4294967296 := (by omega)); have f6 := rng32 (((nx.toUInt64 >>> ((32 : Int32) &&& 0x3f).toInt64.toUInt64).toInt64).toInt32); (try simp only [Int32.reduceToInt, Int64.reduceToInt] at f6); have f7 := c_l2i ((nx.toUInt64 >>> ((32 : Int32) &&& 0x3f).toInt64.toUInt64).toInt64); (try simp only [Int32.reduceToInt, Int64.reduceToInt] at f7); (try have f7e : (((nx.toUInt64 >>> ((32 : Int32) &&& 0x3f).toInt64.toUInt64).toInt64).toInt32).toInt = ((nx.toUInt64 >>> ((32 : Int32) &&& 0x3f).toInt64.toUInt64).toInt64).toInt := (by omega)); have f9 := rng32 r3; (try simp only [Int32.reduceToInt, Int64.reduceToInt] at f9); (try simp only [Int32.reduceToInt, Int64.reduceToInt, and_true, true_and, or_true, true_or]); skip; rcases hr3 with ⟨q1, q2⟩ | ⟨q1, q2⟩ | ⟨k, q0, q1, q2, q3⟩; exfalso; omega; exfalso; omega; exact ⟨k + 32, by omega, by omega, by rw [Int.pow_add]; generalize (2 : Int) ^ k = P at *; omega, by rw [show k + 32 + 1 = (k + 1) + 32 by omega, Int.pow_add]; generalize (2 : Int) ^ (k + 1) = P at *; omega⟩), e2, rfl⟩
  · intro c1
    refine g_bipush (q := 12) (v := (32 : Int32)) X0.here hx (hb hby d4_10) rfl rfl ?_
    refine g_lloadN (q := 13) X0.here hx (hb hby d4_12) rfl rfl ?_
    refine g_l2i (q := 14) X0.here hx (hb hby d4_13) rfl ?_
    refine g_callSI (q := 17) X0 hx hZ hown (hw _ (List.mem_of_getElem? (i := 22) rfl)) (hw _ (List.mem_of_getElem? (i := 23) rfl)) (hw _ (List.mem_of_getElem? (i := 24) rfl)) (hw _ (List.mem_of_getElem? (i := 25) rfl)) (by decide) (rm5 l Z a0 hw [] nx.toInt32 h0 n0 Z0) (argsL := [.int nx.toInt32]) (rest := [.int (32 : Int32)]) pd_0 rfl rfl rfl (hb hby d4_14) rfl (by rw [hml]; rfl) e0 (by decide) (W := 1) rfl (by decide) rfl rfl (by decide) (by decide) ?_
    intro T4 r5 X4 e4 hr5
    refine g_iadd (q := 18) X4.here hx (hb hby d4_17) rfl ?_
    refine g_goto (q := 25) X4.here hx (hb hby d4_18) (by decide) (by decide) ?_
    exact g_ireturn X4 hx hlk hrt (hb hby d4_25) (by decide) (by decide) ⟨_, rfl, (show ∃ k : Nat, k ≤ 62 ∧ ((32 : Int32) + r5).toInt = 63 - (k : Int) ∧ (2 : Int) ^ k ≤ nx.toInt ∧ nx.toInt < 2 ^ (k + 1) by (try simp only [Int32.reduceToInt, Int64.reduceToInt, true_and, and_true, not_true_eq_false, not_false_eq_true, false_and, or_false, false_or] at c1); (try simp only [Int32.reduceToInt, Int64.reduceToInt, true_and, and_true, not_true_eq_false, not_false_eq_true, false_and, or_false, false_or] at hr5); have f3 := rng64 nx; (try simp only [Int32.reduceToInt, Int64.reduceToInt] at f3); have f4 := rng64 ((nx.toUInt64 >>> ((32 : Int32) &&& 0x3f).toInt64.toUInt64).toInt64); (try simp only [Int32.reduceToInt, Int64.reduceToInt] at f4); have f5 := c_lushr nx (32 : Int32) 32 (by decide) (by decide); (try simp only [Int32.reduceToInt, Int64.reduceToInt] at f5); (try have f5e : ((nx.toUInt64 >>> ((32 : Int32) &&& 0x3f).toInt64.toUInt64).toInt64).toInt = nx.toInt / 4294967296 := (by omega)); have f6 := rng32 (((nx.toUInt64 >>> ((32 : Int32) &&& 0x3f).toInt64.toUInt64).toInt64).toInt32); (try simp only [Int32.reduceToInt, Int64.reduceToInt] at f6); have f7 := c_l2i ((nx.toUInt64 >>> ((32 : Int32) &&& 0x3f).toInt64.toUInt64).toInt64); (try simp only [Int32.reduceToInt, Int64.reduceToInt] at f7); (try have f7e : (((nx.toUInt64 >>> ((32 : Int32) &&& 0x3f).toInt64.toUInt64).toInt64).toInt32).toInt = ((nx.toUInt64 >>> ((32 : Int32) &&& 0x3f).toInt64.toUInt64).toInt64).toInt := (by omega)); have f9 := rng32 nx.toInt32; (try simp only [Int32.reduceToInt, Int64.reduceToInt] at f9); have f10 := c_l2i nx; (try simp only [Int32.reduceToInt, Int64.reduceToInt] at f10); (try have f10e : nx.toInt32.toInt = nx.toInt := (by omega)); have f13 := rng32 r5; (try simp only [Int32.reduceToInt, Int64.reduceToInt] at f13); have f14 := rng32 ((32 : Int32) + r5); (try simp only [Int32.reduceToInt, Int64.reduceToInt] at f14); have f15 := c_iadd (32 : Int32) r5; (try simp only [Int32.reduceToInt, Int64.reduceToInt] at f15); (try have f15e : ((32 : Int32) + r5).toInt = (32 : Int) + r5.toInt := (by omega)); (try simp only [Int32.reduceToInt, Int64.reduceToInt, and_true, true_and, or_true, true_or]); skip; rcases hr5 with ⟨q1, q2⟩ | ⟨q1, q2⟩ | ⟨k, q0, q1, q2, q3⟩; exact ⟨31, by decide, by omega, by omega, by omega⟩; exfalso; omega; exact ⟨k, by omega, by omega, by (have : nx.toInt32.toInt = nx.toInt := (by omega)); omega, by (have : nx.toInt32.toInt = nx.toInt := (by omega)); omega⟩), e4, rfl⟩
theorem pd_1 : parseMethodDescriptor "(J)I" = some ⟨[.long], some .int⟩ := by decide +kernel
def RM_rm3 : Room := ({ frames := 2, cells := 0, slots := 0, locals := 32 } : Room)
theorem d3_0 : decode jdk_35_method_46_code 0 = .ok (.lload_n 0, 1) := by decide +kernel
theorem d3_1 : decode jdk_35_method_46_code 1 = .ok (.ldc2_w 168, 3) := by decide +kernel
theorem d3_4 : decode jdk_35_method_46_code 4 = .ok (.lload_n 0, 1) := by decide +kernel
theorem d3_5 : decode jdk_35_method_46_code 5 = .ok (.invokestatic 98, 3) := by decide +kernel
theorem d3_8 : decode jdk_35_method_46_code 8 = .ok (.lushr, 1) := by decide +kernel
theorem d3_9 : decode jdk_35_method_46_code 9 = .ok (.land, 1) := by decide +kernel
theorem d3_10 : decode jdk_35_method_46_code 10 = .ok (.lreturn, 1) := by decide +kernel
theorem ef_3 (m : MethodId) (z0 : Int64) : entryFrame m #[.long z0] 2 = mkF m 0 #[.val (.long z0), .second] [] := by first | (simp [entryFrame, mkF, argsToLocals, Value.category]; done) | rfl
set_option maxRecDepth 65536 in
set_option maxHeartbeats 40000000 in
theorem rm3 (l : Launch) (Z : State) (a0 : Array Value) (hw : ∀ d ∈ tables_1, d.before a0 Z = true) (ws : List Jvm.Cond) (nx : Int64) (h0 : Heap) (n0 : Nat) (Z0 : n0 ≤ h0.size) (hpos : 0 < nx.toInt) :
    Ctr l Z (⟨"java/lang/Long", "highestOneBit", "(J)J"⟩ : MethodName) jdk_35_method_46_code 2 (some .long) RM_rm3 ws #[.long nx] h0 (JQ (fun r => ∃ k : Nat, k ≤ 62 ∧ r.toInt = 2 ^ k ∧ (2 : Int) ^ k ≤ nx.toInt ∧ nx.toInt < 2 ^ (k + 1)) h0) := by
  refine Ctr.of (plainFor_of_name pn_3) ?_
  intro p e s m below meth c s₁ hx hby hml hrt hlk hnm hown hZ X0 e0
  have N0 := Fr.nil n0
  refine Go.cast (ef_3 m nx) ?_
  refine g_lloadN (q := 1) X0.here hx (hb hby d3_0) rfl rfl ?_
  refine g_ldc2J (q := 4) X0 hx hZ hown (hw _ (List.mem_of_getElem? (i := 18) rfl)) (hb hby d3_1) rfl ?_
  refine g_lloadN (q := 5) X0.here hx (hb hby d3_4) rfl rfl ?_
  refine g_callSI (q := 8) X0 hx hZ hown (hw _ (List.mem_of_getElem? (i := 19) rfl)) (hw _ (List.mem_of_getElem? (i := 20) rfl)) (hw _ (List.mem_of_getElem? (i := 16) rfl)) (hw _ (List.mem_of_getElem? (i := 21) rfl)) (by decide) (rm4 l Z a0 hw [] nx h0 n0 Z0 hpos) (argsL := [.long nx]) (rest := [.long (-9223372036854775808 : Int64), .long nx]) pd_1 rfl rfl rfl (hb hby d3_5) rfl (by rw [hml]; rfl) e0 (by decide) (W := 4) rfl (by decide) rfl rfl (by decide) (by decide) ?_
  intro T1 r2 X1 e1 hr2
  refine g_lushr (q := 9) X1.here hx (hb hby d3_8) rfl ?_
  refine g_land (q := 10) X1.here hx (hb hby d3_9) rfl ?_
  exact g_lreturn X1 hx hlk hrt (hb hby d3_10) (by decide) (by decide) ⟨_, rfl, (by obtain ⟨k, q0, q1, q2, q3⟩ := hr2; exact ⟨k, q0, own_hob q0 q1 q2 q3, q2, q3⟩), e1, rfl⟩
theorem own_grt_1 {ln : Int32} {nd r3 r5 r8 r10 : Int64} (hln : 0 ≤ ln.toInt) (hnd : 0 ≤ nd.toInt ∧ nd.toInt ≤ 2147483639) (hr3 : nd.toInt ≤ r3.toInt ∧ ((2 : Int64) * ln.toInt64).toInt ≤ r3.toInt ∧ (r3.toInt = nd.toInt ∨ r3.toInt = ((2 : Int64) * ln.toInt64).toInt)) (hr8 : ∃ k : Nat, k ≤ 62 ∧ r8.toInt = 2 ^ k ∧ (2 : Int) ^ k ≤ ((16 : Int64) + (r3 * (1 : Int64))).toInt ∧ ((16 : Int64) + (r3 * (1 : Int64))).toInt < 2 ^ (k + 1)) (hr5 : ∃ k : Nat, k ≤ 62 ∧ r5.toInt = 2 ^ k ∧ (2 : Int) ^ k ≤ ((16 : Int64) + (r3 * (1 : Int64))).toInt ∧ ((16 : Int64) + (r3 * (1 : Int64))).toInt < 2 ^ (k + 1)) (c6 : ¬ r5.toInt = ((16 : Int64) + (r3 * (1 : Int64))).toInt) (hr10 : r10.toInt ≤ (2147483639 : Int64).toInt ∧ r10.toInt ≤ (((r8 <<< ((1 : Int32) &&& 0x3f).toInt64) - (16 : Int64)) / (1 : Int64)).toInt ∧ (r10.toInt = (2147483639 : Int64).toInt ∨ r10.toInt = (((r8 <<< ((1 : Int32) &&& 0x3f).toInt64) - (16 : Int64)) / (1 : Int64)).toInt)) : ∃ (k : Nat) (mx : Int), 4 ≤ k ∧ k ≤ 37 ∧ nd.toInt ≤ mx ∧ 2 * ln.toInt ≤ mx ∧ (mx = nd.toInt ∨ mx = 2 * ln.toInt) ∧ 16 + mx * 1 ≤ 2 ^ k ∧ (2 : Int) ^ k < 2 * (16 + mx * 1) ∧ ((r10.toInt32.toInt = 2147483639 ∧ 2147483639 ≤ ((2 : Int) ^ k - 16) / 1) ∨ (r10.toInt32.toInt = ((2 : Int) ^ k - 16) / 1 ∧ ((2 : Int) ^ k - 16) / 1 < 2147483639)) := by
  have e1 : ((2 : Int64) * ln.toInt64).toInt = 2 * ln.toInt := (by have f3 := rng32 ln; (try simp only [Int32.reduceToInt, Int64.reduceToInt] at f3); have f4 := c_i2l ln; (try simp only [Int32.reduceToInt, Int64.reduceToInt] at f4); have f5 := rng64 ((2 : Int64) * ln.toInt64); (try simp only [Int32.reduceToInt, Int64.reduceToInt] at f5); have f6 := c_lmul (2 : Int64) ln.toInt64; (try simp only [Int32.reduceToInt, Int64.reduceToInt] at f6); (try have f6e : ((2 : Int64) * ln.toInt64).toInt = (2 : Int) * ln.toInt64.toInt := (by omega)); omega)
  rw [e1] at hr3
  have g0 := rng32 ln
  have b3 : 0 ≤ r3.toInt ∧ r3.toInt ≤ 4294967294 := (by omega)
  have e2 : ((16 : Int64) + (r3 * (1 : Int64))).toInt = 16 + r3.toInt * 1 := (by have f3 := rng64 r3; (try simp only [Int32.reduceToInt, Int64.reduceToInt] at f3); have f4 := rng64 (r3 * (1 : Int64)); (try simp only [Int32.reduceToInt, Int64.reduceToInt] at f4); have f5 := c_lmul r3 (1 : Int64); (try simp only [Int32.reduceToInt, Int64.reduceToInt] at f5); (try have f5e : (r3 * (1 : Int64)).toInt = r3.toInt * (1 : Int) := (by omega)); have f6 := rng64 ((16 : Int64) + (r3 * (1 : Int64))); (try simp only [Int32.reduceToInt, Int64.reduceToInt] at f6); have f7 := c_ladd (16 : Int64) (r3 * (1 : Int64)); (try simp only [Int32.reduceToInt, Int64.reduceToInt] at f7); (try have f7e : ((16 : Int64) + (r3 * (1 : Int64))).toInt = (16 : Int) + (r3 * (1 : Int64)).toInt := (by omega)); omega)
  rw [e2] at hr8
  obtain ⟨k, q0, q1, q2, q3⟩ := hr8
  rw [e2] at hr5 c6
  obtain ⟨k', p0, p1, p2, p3⟩ := hr5
  have hkk := own_pu q2 q3 p2 p3
  rw [← hkk] at p1
  rw [p1] at c6
  clear p0 p1 p2 p3 hkk
  have hpow : (2 : Int) ^ (k + 1) = 2 * 2 ^ k := (by rw [Int.pow_succ, Int.mul_comm])
  rw [hpow] at q3
  have q4 : 3 ≤ k := (by rcases Nat.lt_or_ge k 3 with h | h; exfalso; have h5 := own_powle (show k ≤ 2 by omega); omega; exact h)
  have q5 : k ≤ 36 := (by rcases Nat.lt_or_ge k 37 with h | h; omega; exfalso; have h5 := own_powle h; omega)
  have hM : (2147483639 : Int64).toInt = 2147483639 := (by decide)
  rw [hM] at hr10
  generalize hP : (2 : Int) ^ k = P at *
  have e3 : (((r8 <<< ((1 : Int32) &&& 0x3f).toInt64) - (16 : Int64)) / (1 : Int64)).toInt = (2 * P - 16) / 1 := (by have f4 := rng64 r8; (try simp only [Int32.reduceToInt, Int64.reduceToInt] at f4); have f5 := rng64 (r8 <<< ((1 : Int32) &&& 0x3f).toInt64); (try simp only [Int32.reduceToInt, Int64.reduceToInt] at f5); have f6 := c_lshl r8 (1 : Int32) 1 (by decide); (try simp only [Int32.reduceToInt, Int64.reduceToInt] at f6); (try have f6e : (r8 <<< ((1 : Int32) &&& 0x3f).toInt64).toInt = r8.toInt * 2 := (by omega)); have f7 := rng64 ((r8 <<< ((1 : Int32) &&& 0x3f).toInt64) - (16 : Int64)); (try simp only [Int32.reduceToInt, Int64.reduceToInt] at f7); have f8 := c_lsub (r8 <<< ((1 : Int32) &&& 0x3f).toInt64) (16 : Int64); (try simp only [Int32.reduceToInt, Int64.reduceToInt] at f8); (try have f8e : ((r8 <<< ((1 : Int32) &&& 0x3f).toInt64) - (16 : Int64)).toInt = (r8 <<< ((1 : Int32) &&& 0x3f).toInt64).toInt - (16 : Int) := (by omega)); have f9 := rng64 (((r8 <<< ((1 : Int32) &&& 0x3f).toInt64) - (16 : Int64)) / (1 : Int64)); (try simp only [Int32.reduceToInt, Int64.reduceToInt] at f9); have f10 := c_ldiv ((r8 <<< ((1 : Int32) &&& 0x3f).toInt64) - (16 : Int64)) (1 : Int64) 1 (by decide) (by decide); (try simp only [Int32.reduceToInt, Int64.reduceToInt] at f10); (try have f10e : (((r8 <<< ((1 : Int32) &&& 0x3f).toInt64) - (16 : Int64)) / (1 : Int64)).toInt = ((r8 <<< ((1 : Int32) &&& 0x3f).toInt64) - (16 : Int64)).toInt / 1 := (by omega)); omega)
  rw [e3] at hr10
  have e4 : r10.toInt32.toInt = r10.toInt := (by have f2 := rng64 r10; (try simp only [Int32.reduceToInt, Int64.reduceToInt] at f2); have f3 := rng32 r10.toInt32; (try simp only [Int32.reduceToInt, Int64.reduceToInt] at f3); have f4 := c_l2i r10; (try simp only [Int32.reduceToInt, Int64.reduceToInt] at f4); (try have f4e : r10.toInt32.toInt = r10.toInt := (by omega)); omega)
  rw [e4]
  refine ⟨k + 1, r3.toInt, by omega, by omega, by omega, by omega, by omega, ?_⟩
  rw [hpow]
  refine ⟨by omega, by omega, ?_⟩
  rcases Int.lt_or_le ((2 * P - 16) / 1) 2147483639 with h | h
  · right; constructor; omega; exact h
  · left; constructor; omega; exact h
theorem own_grf_1 {ln : Int32} {nd r3 r8 r10 : Int64} (hln : 0 ≤ ln.toInt) (hnd : 0 ≤ nd.toInt ∧ nd.toInt ≤ 2147483639) (hr3 : nd.toInt ≤ r3.toInt ∧ ((2 : Int64) * ln.toInt64).toInt ≤ r3.toInt ∧ (r3.toInt = nd.toInt ∨ r3.toInt = ((2 : Int64) * ln.toInt64).toInt)) (hr8 : ∃ k : Nat, k ≤ 62 ∧ r8.toInt = 2 ^ k ∧ (2 : Int) ^ k ≤ ((16 : Int64) + (r3 * (1 : Int64))).toInt ∧ ((16 : Int64) + (r3 * (1 : Int64))).toInt < 2 ^ (k + 1)) (c6 : r8.toInt = ((16 : Int64) + (r3 * (1 : Int64))).toInt) (hr10 : r10.toInt ≤ (2147483639 : Int64).toInt ∧ r10.toInt ≤ ((((16 : Int64) + (r3 * (1 : Int64))) - (16 : Int64)) / (1 : Int64)).toInt ∧ (r10.toInt = (2147483639 : Int64).toInt ∨ r10.toInt = ((((16 : Int64) + (r3 * (1 : Int64))) - (16 : Int64)) / (1 : Int64)).toInt)) : ∃ (k : Nat) (mx : Int), 4 ≤ k ∧ k ≤ 37 ∧ nd.toInt ≤ mx ∧ 2 * ln.toInt ≤ mx ∧ (mx = nd.toInt ∨ mx = 2 * ln.toInt) ∧ 16 + mx * 1 ≤ 2 ^ k ∧ (2 : Int) ^ k < 2 * (16 + mx * 1) ∧ ((r10.toInt32.toInt = 2147483639 ∧ 2147483639 ≤ ((2 : Int) ^ k - 16) / 1) ∨ (r10.toInt32.toInt = ((2 : Int) ^ k - 16) / 1 ∧ ((2 : Int) ^ k - 16) / 1 < 2147483639)) := by
  have e1 : ((2 : Int64) * ln.toInt64).toInt = 2 * ln.toInt := (by have f3 := rng32 ln; (try simp only [Int32.reduceToInt, Int64.reduceToInt] at f3); have f4 := c_i2l ln; (try simp only [Int32.reduceToInt, Int64.reduceToInt] at f4); have f5 := rng64 ((2 : Int64) * ln.toInt64); (try simp only [Int32.reduceToInt, Int64.reduceToInt] at f5); have f6 := c_lmul (2 : Int64) ln.toInt64; (try simp only [Int32.reduceToInt, Int64.reduceToInt] at f6); (try have f6e : ((2 : Int64) * ln.toInt64).toInt = (2 : Int) * ln.toInt64.toInt := (by omega)); omega)
  rw [e1] at hr3
  have g0 := rng32 ln
  have b3 : 0 ≤ r3.toInt ∧ r3.toInt ≤ 4294967294 := (by omega)
  have e2 : ((16 : Int64) + (r3 * (1 : Int64))).toInt = 16 + r3.toInt * 1 := (by have f3 := rng64 r3; (try simp only [Int32.reduceToInt, Int64.reduceToInt] at f3); have f4 := rng64 (r3 * (1 : Int64)); (try simp only [Int32.reduceToInt, Int64.reduceToInt] at f4); have f5 := c_lmul r3 (1 : Int64); (try simp only [Int32.reduceToInt, Int64.reduceToInt] at f5); (try have f5e : (r3 * (1 : Int64)).toInt = r3.toInt * (1 : Int) := (by omega)); have f6 := rng64 ((16 : Int64) + (r3 * (1 : Int64))); (try simp only [Int32.reduceToInt, Int64.reduceToInt] at f6); have f7 := c_ladd (16 : Int64) (r3 * (1 : Int64)); (try simp only [Int32.reduceToInt, Int64.reduceToInt] at f7); (try have f7e : ((16 : Int64) + (r3 * (1 : Int64))).toInt = (16 : Int) + (r3 * (1 : Int64)).toInt := (by omega)); omega)
  rw [e2] at hr8
  obtain ⟨k, q0, q1, q2, q3⟩ := hr8
  have hpow : (2 : Int) ^ (k + 1) = 2 * 2 ^ k := (by rw [Int.pow_succ, Int.mul_comm])
  rw [hpow] at q3
  have q4 : 3 ≤ k := (by rcases Nat.lt_or_ge k 3 with h | h; exfalso; have h5 := own_powle (show k ≤ 2 by omega); omega; exact h)
  have q5 : k ≤ 36 := (by rcases Nat.lt_or_ge k 37 with h | h; omega; exfalso; have h5 := own_powle h; omega)
  have hM : (2147483639 : Int64).toInt = 2147483639 := (by decide)
  rw [hM] at hr10
  rw [e2] at c6
  have q6 : k ≠ 3 := (fun h => by rw [h] at q1 q2 q3; omega)
  generalize hP : (2 : Int) ^ k = P at *
  have e3 : ((((16 : Int64) + (r3 * (1 : Int64))) - (16 : Int64)) / (1 : Int64)).toInt = (P - 16) / 1 := (by have f5 := rng64 r3; (try simp only [Int32.reduceToInt, Int64.reduceToInt] at f5); have f6 := rng64 (r3 * (1 : Int64)); (try simp only [Int32.reduceToInt, Int64.reduceToInt] at f6); have f7 := c_lmul r3 (1 : Int64); (try simp only [Int32.reduceToInt, Int64.reduceToInt] at f7); (try have f7e : (r3 * (1 : Int64)).toInt = r3.toInt * (1 : Int) := (by omega)); have f8 := rng64 ((16 : Int64) + (r3 * (1 : Int64))); (try simp only [Int32.reduceToInt, Int64.reduceToInt] at f8); have f9 := c_ladd (16 : Int64) (r3 * (1 : Int64)); (try simp only [Int32.reduceToInt, Int64.reduceToInt] at f9); (try have f9e : ((16 : Int64) + (r3 * (1 : Int64))).toInt = (16 : Int) + (r3 * (1 : Int64)).toInt := (by omega)); have f10 := rng64 (((16 : Int64) + (r3 * (1 : Int64))) - (16 : Int64)); (try simp only [Int32.reduceToInt, Int64.reduceToInt] at f10); have f11 := c_lsub ((16 : Int64) + (r3 * (1 : Int64))) (16 : Int64); (try simp only [Int32.reduceToInt, Int64.reduceToInt] at f11); (try have f11e : (((16 : Int64) + (r3 * (1 : Int64))) - (16 : Int64)).toInt = ((16 : Int64) + (r3 * (1 : Int64))).toInt - (16 : Int) := (by omega)); have f12 := rng64 ((((16 : Int64) + (r3 * (1 : Int64))) - (16 : Int64)) / (1 : Int64)); (try simp only [Int32.reduceToInt, Int64.reduceToInt] at f12); have f13 := c_ldiv (((16 : Int64) + (r3 * (1 : Int64))) - (16 : Int64)) (1 : Int64) 1 (by decide) (by decide); (try simp only [Int32.reduceToInt, Int64.reduceToInt] at f13); (try have f13e : ((((16 : Int64) + (r3 * (1 : Int64))) - (16 : Int64)) / (1 : Int64)).toInt = (((16 : Int64) + (r3 * (1 : Int64))) - (16 : Int64)).toInt / 1 := (by omega)); omega)
  rw [e3] at hr10
  have e4 : r10.toInt32.toInt = r10.toInt := (by have f2 := rng64 r10; (try simp only [Int32.reduceToInt, Int64.reduceToInt] at f2); have f3 := rng32 r10.toInt32; (try simp only [Int32.reduceToInt, Int64.reduceToInt] at f3); have f4 := c_l2i r10; (try simp only [Int32.reduceToInt, Int64.reduceToInt] at f4); (try have f4e : r10.toInt32.toInt = r10.toInt := (by omega)); omega)
  rw [e4]
  refine ⟨k, r3.toInt, by omega, by omega, by omega, by omega, by omega, ?_⟩
  rw [hP]
  refine ⟨by omega, by omega, ?_⟩
  rcases Int.lt_or_le ((P - 16) / 1) 2147483639 with h | h
  · right; constructor; omega; exact h
  · left; constructor; omega; exact h
theorem pd_2 : parseMethodDescriptor "(JJ)J" = some ⟨[.long, .long], some .long⟩ := by decide +kernel
theorem pd_3 : parseMethodDescriptor "(J)J" = some ⟨[.long], some .long⟩ := by decide +kernel
def RM_rm1_1 : Room := ({ frames := 3, cells := 0, slots := 0, locals := 45 } : Room)
theorem d1_0 : decode prog_67_method_2_code 0 = .ok (.lload_n 1, 1) := by decide +kernel
theorem d1_1 : decode prog_67_method_2_code 1 = .ok (.ldc2_w 11, 3) := by decide +kernel
theorem d1_4 : decode prog_67_method_2_code 4 = .ok (.lcmp, 1) := by decide +kernel
theorem d1_5 : decode prog_67_method_2_code 5 = .ok (.ifCond .le 17, 3) := by decide +kernel
theorem d1_22 : decode prog_67_method_2_code 22 = .ok (.ldc2_w 22, 3) := by decide +kernel
theorem d1_25 : decode prog_67_method_2_code 25 = .ok (.lload_n 1, 1) := by decide +kernel
theorem d1_26 : decode prog_67_method_2_code 26 = .ok (.ldc2_w 24, 3) := by decide +kernel
theorem d1_29 : decode prog_67_method_2_code 29 = .ok (.iload_n 0, 1) := by decide +kernel
theorem d1_30 : decode prog_67_method_2_code 30 = .ok (.i2l, 1) := by decide +kernel
theorem d1_31 : decode prog_67_method_2_code 31 = .ok (.lmul, 1) := by decide +kernel
theorem d1_32 : decode prog_67_method_2_code 32 = .ok (.invokestatic 26, 3) := by decide +kernel
theorem d1_35 : decode prog_67_method_2_code 35 = .ok (.iload_n 3, 1) := by decide +kernel
theorem d1_36 : decode prog_67_method_2_code 36 = .ok (.i2l, 1) := by decide +kernel
theorem d1_37 : decode prog_67_method_2_code 37 = .ok (.lmul, 1) := by decide +kernel
theorem d1_38 : decode prog_67_method_2_code 38 = .ok (.ladd, 1) := by decide +kernel
theorem d1_39 : decode prog_67_method_2_code 39 = .ok (.lstore 4, 2) := by decide +kernel
theorem d1_41 : decode prog_67_method_2_code 41 = .ok (.lload 4, 2) := by decide +kernel
theorem d1_43 : decode prog_67_method_2_code 43 = .ok (.invokestatic 32, 3) := by decide +kernel
theorem d1_46 : decode prog_67_method_2_code 46 = .ok (.lload 4, 2) := by decide +kernel
theorem d1_48 : decode prog_67_method_2_code 48 = .ok (.lcmp, 1) := by decide +kernel
theorem d1_49 : decode prog_67_method_2_code 49 = .ok (.ifCond .ne 8, 3) := by decide +kernel
theorem d1_52 : decode prog_67_method_2_code 52 = .ok (.lload 4, 2) := by decide +kernel
theorem d1_54 : decode prog_67_method_2_code 54 = .ok (.goto 10, 3) := by decide +kernel
theorem d1_57 : decode prog_67_method_2_code 57 = .ok (.lload 4, 2) := by decide +kernel
theorem d1_59 : decode prog_67_method_2_code 59 = .ok (.invokestatic 32, 3) := by decide +kernel
theorem d1_62 : decode prog_67_method_2_code 62 = .ok (.iconst 1, 1) := by decide +kernel
theorem d1_63 : decode prog_67_method_2_code 63 = .ok (.lshl, 1) := by decide +kernel
theorem d1_64 : decode prog_67_method_2_code 64 = .ok (.lstore 6, 2) := by decide +kernel
theorem d1_66 : decode prog_67_method_2_code 66 = .ok (.ldc2_w 11, 3) := by decide +kernel
theorem d1_69 : decode prog_67_method_2_code 69 = .ok (.lload 6, 2) := by decide +kernel
theorem d1_71 : decode prog_67_method_2_code 71 = .ok (.ldc2_w 22, 3) := by decide +kernel
theorem d1_74 : decode prog_67_method_2_code 74 = .ok (.lsub, 1) := by decide +kernel
theorem d1_75 : decode prog_67_method_2_code 75 = .ok (.iload_n 3, 1) := by decide +kernel
theorem d1_76 : decode prog_67_method_2_code 76 = .ok (.i2l, 1) := by decide +kernel
theorem d1_77 : decode prog_67_method_2_code 77 = .ok (.ldiv, 1) := by decide +kernel
theorem d1_78 : decode prog_67_method_2_code 78 = .ok (.invokestatic 38, 3) := by decide +kernel
theorem d1_81 : decode prog_67_method_2_code 81 = .ok (.l2i, 1) := by decide +kernel
theorem d1_82 : decode prog_67_method_2_code 82 = .ok (.ireturn, 1) := by decide +kernel
theorem ef_1 (m : MethodId) (z0 : Int32) (z1 : Int64) (z2 : Int32) : entryFrame m #[.int z0, .long z1, .int z2] 8 = mkF m 0 #[.val (.int z0), .val (.long z1), .second, .val (.int z2), .unset, .unset, .unset, .unset] [] := by first | (simp [entryFrame, mkF, argsToLocals, Value.category]; done) | rfl
theorem pn_4 : plainName "com/example/vestline/vestline/number/Growth" = true := by first | (simp [plainName, overriddenIn]; done) | decide +kernel
set_option maxRecDepth 65536 in
set_option maxHeartbeats 40000000 in
theorem rm1_1 (l : Launch) (Z : State) (a0 : Array Value) (hw : ∀ d ∈ tables_1, d.before a0 Z = true) (ws : List Jvm.Cond) (ln : Int32) (nd : Int64) (h0 : Heap) (n0 : Nat) (Z0 : n0 ≤ h0.size) (hln : 0 ≤ ln.toInt) (hnd : 0 ≤ nd.toInt ∧ nd.toInt ≤ 2147483639) :
    Ctr l Z (⟨"com/example/vestline/vestline/number/Growth", "grown", "(IJI)I"⟩ : MethodName) prog_67_method_2_code 8 (some .int) RM_rm1_1 ws #[.int ln, .long nd, .int (1 : Int32)] h0 (IQ (fun r => ∃ (k : Nat) (mx : Int), 4 ≤ k ∧ k ≤ 37 ∧ nd.toInt ≤ mx ∧ 2 * ln.toInt ≤ mx ∧ (mx = nd.toInt ∨ mx = 2 * ln.toInt) ∧ 16 + mx * 1 ≤ 2 ^ k ∧ (2 : Int) ^ k < 2 * (16 + mx * 1) ∧ ((r.toInt = 2147483639 ∧ 2147483639 ≤ ((2 : Int) ^ k - 16) / 1) ∨ (r.toInt = ((2 : Int) ^ k - 16) / 1 ∧ ((2 : Int) ^ k - 16) / 1 < 2147483639))) h0) := by
  refine Ctr.of (plainFor_of_name pn_4) ?_
  intro p e s m below meth c s₁ hx hby hml hrt hlk hnm hown hZ X0 e0
  have N0 := Fr.nil n0
  refine Go.cast (ef_1 m ln nd (1 : Int32)) ?_
  refine g_lloadN (q := 1) X0.here hx (hb hby d1_0) rfl rfl ?_
  refine g_ldc2J (q := 4) X0 hx hZ hown (hw _ (List.mem_of_getElem? (i := 7) rfl)) (hb hby d1_1) rfl ?_
  refine g_lcmp_le (q := 22) (q1 := 5) (q0 := 8) X0.here hx (hb hby d1_4) rfl (hb hby d1_5) (by decide) (by decide) rfl ?_ ?_
  · intro c1
    refine g_ldc2J (q := 25) X0 hx hZ hown (hw _ (List.mem_of_getElem? (i := 8) rfl)) (hb hby d1_22) rfl ?_
    refine g_lloadN (q := 26) X0.here hx (hb hby d1_25) rfl rfl ?_
    refine g_ldc2J (q := 29) X0 hx hZ hown (hw _ (List.mem_of_getElem? (i := 9) rfl)) (hb hby d1_26) rfl ?_
    refine g_iloadN (q := 30) X0.here hx (hb hby d1_29) rfl rfl ?_
    refine g_i2l (q := 31) X0.here hx (hb hby d1_30) rfl ?_
    refine g_lmul (q := 32) X0.here hx (hb hby d1_31) rfl ?_
    refine g_callSJ (q := 35) X0 hx hZ hown (hw _ (List.mem_of_getElem? (i := 10) rfl)) (hw _ (List.mem_of_getElem? (i := 11) rfl)) (hw _ (List.mem_of_getElem? (i := 12) rfl)) (hw _ (List.mem_of_getElem? (i := 13) rfl)) (by decide) (rm2 l Z a0 hw [] nd ((2 : Int64) * ln.toInt64) h0 n0 Z0) (argsL := [.long nd, .long ((2 : Int64) * ln.toInt64)]) (rest := [.long (16 : Int64)]) pd_2 rfl rfl rfl (hb hby d1_32) rfl (by rw [hml]; rfl) e0 (by decide) (W := 2) rfl (by decide) rfl rfl (by decide) (by decide) ?_
    intro T2 r3 X2 e2 hr3
    refine g_iloadN (q := 36) X2.here hx (hb hby d1_35) rfl rfl ?_
    refine g_i2l (q := 37) X2.here hx (hb hby d1_36) rfl ?_
    rw [show (1 : Int32).toInt64 = (1 : Int64) from by decide]
    refine g_lmul (q := 38) X2.here hx (hb hby d1_37) rfl ?_
    refine g_ladd (q := 39) X2.here hx (hb hby d1_38) rfl ?_
    refine g_lstore (q := 41) (L' := #[.val (.int ln), .val (.long nd), .second, .val (.int (1 : Int32)), .val (.long ((16 : Int64) + (r3 * (1 : Int64)))), .second, .unset, .unset]) X2.here hx (hb hby d1_39) rfl rfl ?_
    refine g_lload (q := 43) X2.here hx (hb hby d1_41) rfl rfl ?_
    refine g_callSJ (q := 46) X2 hx hZ hown (hw _ (List.mem_of_getElem? (i := 14) rfl)) (hw _ (List.mem_of_getElem? (i := 15) rfl)) (hw _ (List.mem_of_getElem? (i := 16) rfl)) (hw _ (List.mem_of_getElem? (i := 17) rfl)) (by decide) (rm3 l Z a0 hw [] ((16 : Int64) + (r3 * (1 : Int64))) h0 n0 Z0 (by (try simp only [Int32.reduceToInt, Int64.reduceToInt, true_and, and_true, not_true_eq_false, not_false_eq_true, false_and, or_false, false_or] at c1); (try simp only [Int32.reduceToInt, Int64.reduceToInt, true_and, and_true, not_true_eq_false, not_false_eq_true, false_and, or_false, false_or] at hr3); (try simp only [Int32.reduceToInt, Int64.reduceToInt, true_and, and_true, not_true_eq_false, not_false_eq_true, false_and, or_false, false_or] at hln); (try simp only [Int32.reduceToInt, Int64.reduceToInt, true_and, and_true, not_true_eq_false, not_false_eq_true, false_and, or_false, false_or] at hnd); have f1 := rng64 nd; (try simp only [Int32.reduceToInt, Int64.reduceToInt] at f1); have f5 := rng32 ln; (try simp only [Int32.reduceToInt, Int64.reduceToInt] at f5); have f6 := c_i2l ln; (try simp only [Int32.reduceToInt, Int64.reduceToInt] at f6); have f7 := rng64 ((2 : Int64) * ln.toInt64); (try simp only [Int32.reduceToInt, Int64.reduceToInt] at f7); have f8 := c_lmul (2 : Int64) ln.toInt64; (try simp only [Int32.reduceToInt, Int64.reduceToInt] at f8); (try have f8e : ((2 : Int64) * ln.toInt64).toInt = (2 : Int) * ln.toInt64.toInt := (by omega)); have f12 := rng64 r3; (try simp only [Int32.reduceToInt, Int64.reduceToInt] at f12); have f13 := rng64 (r3 * (1 : Int64)); (try simp only [Int32.reduceToInt, Int64.reduceToInt] at f13); have f14 := c_lmul r3 (1 : Int64); (try simp only [Int32.reduceToInt, Int64.reduceToInt] at f14); (try have f14e : (r3 * (1 : Int64)).toInt = r3.toInt * (1 : Int) := (by omega)); have f15 := rng64 ((16 : Int64) + (r3 * (1 : Int64))); (try simp only [Int32.reduceToInt, Int64.reduceToInt] at f15); have f16 := c_ladd (16 : Int64) (r3 * (1 : Int64)); (try simp only [Int32.reduceToInt, Int64.reduceToInt] at f16); (try have f16e : ((16 : Int64) + (r3 * (1 : Int64))).toInt = (16 : Int) + (r3 * (1 : Int64)).toInt := (by omega)); (try simp only [Int32.reduceToInt, Int64.reduceToInt, and_true, true_and, or_true, true_or]); (first | done | omega))) (argsL := [.long ((16 : Int64) + (r3 * (1 : Int64)))]) (rest := []) pd_3 rfl rfl rfl (hb hby d1_43) rfl (by rw [hml]; rfl) e2 (by decide) (W := 0) rfl (by decide) rfl rfl (by decide) (by decide) ?_
    intro T4 r5 X4 e4 hr5
    refine g_lload (q := 48) X4.here hx (hb hby d1_46) rfl rfl ?_
    refine g_lcmp_ne (q := 57) (q1 := 49) (q0 := 52) X4.here hx (hb hby d1_48) rfl (hb hby d1_49) (by decide) (by decide) rfl ?_ ?_
    · intro c6
      refine g_lload (q := 59) X4.here hx (hb hby d1_57) rfl rfl ?_
      refine g_callSJ (q := 62) X4 hx hZ hown (hw _ (List.mem_of_getElem? (i := 14) rfl)) (hw _ (List.mem_of_getElem? (i := 15) rfl)) (hw _ (List.mem_of_getElem? (i := 16) rfl)) (hw _ (List.mem_of_getElem? (i := 17) rfl)) (by decide) (rm3 l Z a0 hw [] ((16 : Int64) + (r3 * (1 : Int64))) h0 n0 Z0 (by (try simp only [Int32.reduceToInt, Int64.reduceToInt, true_and, and_true, not_true_eq_false, not_false_eq_true, false_and, or_false, false_or] at c1); (try simp only [Int32.reduceToInt, Int64.reduceToInt, true_and, and_true, not_true_eq_false, not_false_eq_true, false_and, or_false, false_or] at hr3); (try simp only [Int32.reduceToInt, Int64.reduceToInt, true_and, and_true, not_true_eq_false, not_false_eq_true, false_and, or_false, false_or] at hr5); (try simp only [Int32.reduceToInt, Int64.reduceToInt, true_and, and_true, not_true_eq_false, not_false_eq_true, false_and, or_false, false_or] at c6); (try simp only [Int32.reduceToInt, Int64.reduceToInt, true_and, and_true, not_true_eq_false, not_false_eq_true, false_and, or_false, false_or] at hln); (try simp only [Int32.reduceToInt, Int64.reduceToInt, true_and, and_true, not_true_eq_false, not_false_eq_true, false_and, or_false, false_or] at hnd); have f1 := rng64 nd; (try simp only [Int32.reduceToInt, Int64.reduceToInt] at f1); have f5 := rng32 ln; (try simp only [Int32.reduceToInt, Int64.reduceToInt] at f5); have f6 := c_i2l ln; (try simp only [Int32.reduceToInt, Int64.reduceToInt] at f6); have f7 := rng64 ((2 : Int64) * ln.toInt64); (try simp only [Int32.reduceToInt, Int64.reduceToInt] at f7); have f8 := c_lmul (2 : Int64) ln.toInt64; (try simp only [Int32.reduceToInt, Int64.reduceToInt] at f8); (try have f8e : ((2 : Int64) * ln.toInt64).toInt = (2 : Int) * ln.toInt64.toInt := (by omega)); have f12 := rng64 r3; (try simp only [Int32.reduceToInt, Int64.reduceToInt] at f12); have f13 := rng64 (r3 * (1 : Int64)); (try simp only [Int32.reduceToInt, Int64.reduceToInt] at f13); have f14 := c_lmul r3 (1 : Int64); (try simp only [Int32.reduceToInt, Int64.reduceToInt] at f14); (try have f14e : (r3 * (1 : Int64)).toInt = r3.toInt * (1 : Int) := (by omega)); have f15 := rng64 ((16 : Int64) + (r3 * (1 : Int64))); (try simp only [Int32.reduceToInt, Int64.reduceToInt] at f15); have f16 := c_ladd (16 : Int64) (r3 * (1 : Int64)); (try simp only [Int32.reduceToInt, Int64.reduceToInt] at f16); (try have f16e : ((16 : Int64) + (r3 * (1 : Int64))).toInt = (16 : Int) + (r3 * (1 : Int64)).toInt := (by omega)); have f18 := rng64 r5; (try simp only [Int32.reduceToInt, Int64.reduceToInt] at f18); (try simp only [Int32.reduceToInt, Int64.reduceToInt, and_true, true_and, or_true, true_or]); (first | done | omega))) (argsL := [.long ((16 : Int64) + (r3 * (1 : Int64)))]) (rest := []) pd_3 rfl rfl rfl (hb hby d1_59) rfl (by rw [hml]; rfl) e4 (by decide) (W := 0) rfl (by decide) rfl rfl (by decide) (by decide) ?_
      intro T7 r8 X7 e7 hr8
      refine g_iconst (q := 63) (v := (1 : Int32)) X7.here hx (hb hby d1_62) rfl rfl ?_
      refine g_lshl (q := 64) X7.here hx (hb hby d1_63) rfl ?_
      refine g_lstore (q := 66) (L' := #[.val (.int ln), .val (.long nd), .second, .val (.int (1 : Int32)), .val (.long ((16 : Int64) + (r3 * (1 : Int64)))), .second, .val (.long (r8 <<< ((1 : Int32) &&& 0x3f).toInt64)), .second]) X7.here hx (hb hby d1_64) rfl rfl ?_
      refine g_ldc2J (q := 69) X7 hx hZ hown (hw _ (List.mem_of_getElem? (i := 7) rfl)) (hb hby d1_66) rfl ?_
      refine g_lload (q := 71) X7.here hx (hb hby d1_69) rfl rfl ?_
      refine g_ldc2J (q := 74) X7 hx hZ hown (hw _ (List.mem_of_getElem? (i := 8) rfl)) (hb hby d1_71) rfl ?_
      refine g_lsub (q := 75) X7.here hx (hb hby d1_74) rfl ?_
      refine g_iloadN (q := 76) X7.here hx (hb hby d1_75) rfl rfl ?_
      refine g_i2l (q := 77) X7.here hx (hb hby d1_76) rfl ?_
      rw [show (1 : Int32).toInt64 = (1 : Int64) from by decide]
      refine g_ldiv (q := 78) X7.here hx (hb hby d1_77) (by decide) rfl ?_
      refine g_callSJ (q := 81) X7 hx hZ hown (hw _ (List.mem_of_getElem? (i := 27) rfl)) (hw _ (List.mem_of_getElem? (i := 28) rfl)) (hw _ (List.mem_of_getElem? (i := 12) rfl)) (hw _ (List.mem_of_getElem? (i := 29) rfl)) (by decide) (rm6 l Z a0 hw [] (2147483639 : Int64) (((r8 <<< ((1 : Int32) &&& 0x3f).toInt64) - (16 : Int64)) / (1 : Int64)) h0 n0 Z0) (argsL := [.long (2147483639 : Int64), .long (((r8 <<< ((1 : Int32) &&& 0x3f).toInt64) - (16 : Int64)) / (1 : Int64))]) (rest := []) pd_2 rfl rfl rfl (hb hby d1_78) rfl (by rw [hml]; rfl) e7 (by decide) (W := 0) rfl (by decide) rfl rfl (by decide) (by decide) ?_
      intro T9 r10 X9 e9 hr10
      refine g_l2i (q := 82) X9.here hx (hb hby d1_81) rfl ?_
      exact g_ireturn X9 hx hlk hrt (hb hby d1_82) (by decide) (by decide) ⟨_, rfl, own_grt_1 hln hnd hr3 hr8 hr5 c6 hr10, e9, rfl⟩
    · intro c6
      refine g_lload (q := 54) X4.here hx (hb hby d1_52) rfl rfl ?_
      refine g_goto (q := 64) X4.here hx (hb hby d1_54) (by decide) (by decide) ?_
      refine g_lstore (q := 66) (L' := #[.val (.int ln), .val (.long nd), .second, .val (.int (1 : Int32)), .val (.long ((16 : Int64) + (r3 * (1 : Int64)))), .second, .val (.long ((16 : Int64) + (r3 * (1 : Int64)))), .second]) X4.here hx (hb hby d1_64) rfl rfl ?_
      refine g_ldc2J (q := 69) X4 hx hZ hown (hw _ (List.mem_of_getElem? (i := 7) rfl)) (hb hby d1_66) rfl ?_
      refine g_lload (q := 71) X4.here hx (hb hby d1_69) rfl rfl ?_
      refine g_ldc2J (q := 74) X4 hx hZ hown (hw _ (List.mem_of_getElem? (i := 8) rfl)) (hb hby d1_71) rfl ?_
      refine g_lsub (q := 75) X4.here hx (hb hby d1_74) rfl ?_
      refine g_iloadN (q := 76) X4.here hx (hb hby d1_75) rfl rfl ?_
      refine g_i2l (q := 77) X4.here hx (hb hby d1_76) rfl ?_
      rw [show (1 : Int32).toInt64 = (1 : Int64) from by decide]
      refine g_ldiv (q := 78) X4.here hx (hb hby d1_77) (by decide) rfl ?_
      refine g_callSJ (q := 81) X4 hx hZ hown (hw _ (List.mem_of_getElem? (i := 27) rfl)) (hw _ (List.mem_of_getElem? (i := 28) rfl)) (hw _ (List.mem_of_getElem? (i := 12) rfl)) (hw _ (List.mem_of_getElem? (i := 29) rfl)) (by decide) (rm6 l Z a0 hw [] (2147483639 : Int64) ((((16 : Int64) + (r3 * (1 : Int64))) - (16 : Int64)) / (1 : Int64)) h0 n0 Z0) (argsL := [.long (2147483639 : Int64), .long ((((16 : Int64) + (r3 * (1 : Int64))) - (16 : Int64)) / (1 : Int64))]) (rest := []) pd_2 rfl rfl rfl (hb hby d1_78) rfl (by rw [hml]; rfl) e4 (by decide) (W := 0) rfl (by decide) rfl rfl (by decide) (by decide) ?_
      intro T11 r12 X11 e11 hr12
      refine g_l2i (q := 82) X11.here hx (hb hby d1_81) rfl ?_
      exact g_ireturn X11 hx hlk hrt (hb hby d1_82) (by decide) (by decide) ⟨_, rfl, own_grf_1 hln hnd hr3 hr5 (by have h6 := c6; first | exact h6 | omega) hr12, e11, rfl⟩
  · intro c1
    exfalso; (try simp only [Int32.reduceToInt, Int64.reduceToInt, true_and, and_true, not_true_eq_false, not_false_eq_true, false_and, or_false, false_or] at c1); (try simp only [Int32.reduceToInt, Int64.reduceToInt, true_and, and_true, not_true_eq_false, not_false_eq_true, false_and, or_false, false_or] at hnd); have f1 := rng64 nd; (try simp only [Int32.reduceToInt, Int64.reduceToInt] at f1); (try simp only [Int32.reduceToInt, Int64.reduceToInt, and_true, true_and, or_true, true_or]); (first | done | omega)
theorem own_grt_2 {ln : Int32} {nd r3 r5 r8 r10 : Int64} (hln : 0 ≤ ln.toInt) (hnd : 0 ≤ nd.toInt ∧ nd.toInt ≤ 2147483639) (hr3 : nd.toInt ≤ r3.toInt ∧ ((2 : Int64) * ln.toInt64).toInt ≤ r3.toInt ∧ (r3.toInt = nd.toInt ∨ r3.toInt = ((2 : Int64) * ln.toInt64).toInt)) (hr8 : ∃ k : Nat, k ≤ 62 ∧ r8.toInt = 2 ^ k ∧ (2 : Int) ^ k ≤ ((16 : Int64) + (r3 * (2 : Int64))).toInt ∧ ((16 : Int64) + (r3 * (2 : Int64))).toInt < 2 ^ (k + 1)) (hr5 : ∃ k : Nat, k ≤ 62 ∧ r5.toInt = 2 ^ k ∧ (2 : Int) ^ k ≤ ((16 : Int64) + (r3 * (2 : Int64))).toInt ∧ ((16 : Int64) + (r3 * (2 : Int64))).toInt < 2 ^ (k + 1)) (c6 : ¬ r5.toInt = ((16 : Int64) + (r3 * (2 : Int64))).toInt) (hr10 : r10.toInt ≤ (2147483639 : Int64).toInt ∧ r10.toInt ≤ (((r8 <<< ((1 : Int32) &&& 0x3f).toInt64) - (16 : Int64)) / (2 : Int64)).toInt ∧ (r10.toInt = (2147483639 : Int64).toInt ∨ r10.toInt = (((r8 <<< ((1 : Int32) &&& 0x3f).toInt64) - (16 : Int64)) / (2 : Int64)).toInt)) : ∃ (k : Nat) (mx : Int), 4 ≤ k ∧ k ≤ 37 ∧ nd.toInt ≤ mx ∧ 2 * ln.toInt ≤ mx ∧ (mx = nd.toInt ∨ mx = 2 * ln.toInt) ∧ 16 + mx * 2 ≤ 2 ^ k ∧ (2 : Int) ^ k < 2 * (16 + mx * 2) ∧ ((r10.toInt32.toInt = 2147483639 ∧ 2147483639 ≤ ((2 : Int) ^ k - 16) / 2) ∨ (r10.toInt32.toInt = ((2 : Int) ^ k - 16) / 2 ∧ ((2 : Int) ^ k - 16) / 2 < 2147483639)) := by
  have e1 : ((2 : Int64) * ln.toInt64).toInt = 2 * ln.toInt := (by have f3 := rng32 ln; (try simp only [Int32.reduceToInt, Int64.reduceToInt] at f3); have f4 := c_i2l ln; (try simp only [Int32.reduceToInt, Int64.reduceToInt] at f4); have f5 := rng64 ((2 : Int64) * ln.toInt64); (try simp only [Int32.reduceToInt, Int64.reduceToInt] at f5); have f6 := c_lmul (2 : Int64) ln.toInt64; (try simp only [Int32.reduceToInt, Int64.reduceToInt] at f6); (try have f6e : ((2 : Int64) * ln.toInt64).toInt = (2 : Int) * ln.toInt64.toInt := (by omega)); omega)
  rw [e1] at hr3
  have g0 := rng32 ln
  have b3 : 0 ≤ r3.toInt ∧ r3.toInt ≤ 4294967294 := (by omega)
  have e2 : ((16 : Int64) + (r3 * (2 : Int64))).toInt = 16 + r3.toInt * 2 := (by have f3 := rng64 r3; (try simp only [Int32.reduceToInt, Int64.reduceToInt] at f3); have f4 := rng64 (r3 * (2 : Int64)); (try simp only [Int32.reduceToInt, Int64.reduceToInt] at f4); have f5 := c_lmul r3 (2 : Int64); (try simp only [Int32.reduceToInt, Int64.reduceToInt] at f5); (try have f5e : (r3 * (2 : Int64)).toInt = r3.toInt * (2 : Int) := (by omega)); have f6 := rng64 ((16 : Int64) + (r3 * (2 : Int64))); (try simp only [Int32.reduceToInt, Int64.reduceToInt] at f6); have f7 := c_ladd (16 : Int64) (r3 * (2 : Int64)); (try simp only [Int32.reduceToInt, Int64.reduceToInt] at f7); (try have f7e : ((16 : Int64) + (r3 * (2 : Int64))).toInt = (16 : Int) + (r3 * (2 : Int64)).toInt := (by omega)); omega)
  rw [e2] at hr8
  obtain ⟨k, q0, q1, q2, q3⟩ := hr8
  rw [e2] at hr5 c6
  obtain ⟨k', p0, p1, p2, p3⟩ := hr5
  have hkk := own_pu q2 q3 p2 p3
  rw [← hkk] at p1
  rw [p1] at c6
  clear p0 p1 p2 p3 hkk
  have hpow : (2 : Int) ^ (k + 1) = 2 * 2 ^ k := (by rw [Int.pow_succ, Int.mul_comm])
  rw [hpow] at q3
  have q4 : 3 ≤ k := (by rcases Nat.lt_or_ge k 3 with h | h; exfalso; have h5 := own_powle (show k ≤ 2 by omega); omega; exact h)
  have q5 : k ≤ 36 := (by rcases Nat.lt_or_ge k 37 with h | h; omega; exfalso; have h5 := own_powle h; omega)
  have hM : (2147483639 : Int64).toInt = 2147483639 := (by decide)
  rw [hM] at hr10
  generalize hP : (2 : Int) ^ k = P at *
  have e3 : (((r8 <<< ((1 : Int32) &&& 0x3f).toInt64) - (16 : Int64)) / (2 : Int64)).toInt = (2 * P - 16) / 2 := (by have f4 := rng64 r8; (try simp only [Int32.reduceToInt, Int64.reduceToInt] at f4); have f5 := rng64 (r8 <<< ((1 : Int32) &&& 0x3f).toInt64); (try simp only [Int32.reduceToInt, Int64.reduceToInt] at f5); have f6 := c_lshl r8 (1 : Int32) 1 (by decide); (try simp only [Int32.reduceToInt, Int64.reduceToInt] at f6); (try have f6e : (r8 <<< ((1 : Int32) &&& 0x3f).toInt64).toInt = r8.toInt * 2 := (by omega)); have f7 := rng64 ((r8 <<< ((1 : Int32) &&& 0x3f).toInt64) - (16 : Int64)); (try simp only [Int32.reduceToInt, Int64.reduceToInt] at f7); have f8 := c_lsub (r8 <<< ((1 : Int32) &&& 0x3f).toInt64) (16 : Int64); (try simp only [Int32.reduceToInt, Int64.reduceToInt] at f8); (try have f8e : ((r8 <<< ((1 : Int32) &&& 0x3f).toInt64) - (16 : Int64)).toInt = (r8 <<< ((1 : Int32) &&& 0x3f).toInt64).toInt - (16 : Int) := (by omega)); have f9 := rng64 (((r8 <<< ((1 : Int32) &&& 0x3f).toInt64) - (16 : Int64)) / (2 : Int64)); (try simp only [Int32.reduceToInt, Int64.reduceToInt] at f9); have f10 := c_ldiv ((r8 <<< ((1 : Int32) &&& 0x3f).toInt64) - (16 : Int64)) (2 : Int64) 2 (by decide) (by decide); (try simp only [Int32.reduceToInt, Int64.reduceToInt] at f10); (try have f10e : (((r8 <<< ((1 : Int32) &&& 0x3f).toInt64) - (16 : Int64)) / (2 : Int64)).toInt = ((r8 <<< ((1 : Int32) &&& 0x3f).toInt64) - (16 : Int64)).toInt / 2 := (by omega)); omega)
  rw [e3] at hr10
  have e4 : r10.toInt32.toInt = r10.toInt := (by have f2 := rng64 r10; (try simp only [Int32.reduceToInt, Int64.reduceToInt] at f2); have f3 := rng32 r10.toInt32; (try simp only [Int32.reduceToInt, Int64.reduceToInt] at f3); have f4 := c_l2i r10; (try simp only [Int32.reduceToInt, Int64.reduceToInt] at f4); (try have f4e : r10.toInt32.toInt = r10.toInt := (by omega)); omega)
  rw [e4]
  refine ⟨k + 1, r3.toInt, by omega, by omega, by omega, by omega, by omega, ?_⟩
  rw [hpow]
  refine ⟨by omega, by omega, ?_⟩
  rcases Int.lt_or_le ((2 * P - 16) / 2) 2147483639 with h | h
  · right; constructor; omega; exact h
  · left; constructor; omega; exact h
theorem own_grf_2 {ln : Int32} {nd r3 r8 r10 : Int64} (hln : 0 ≤ ln.toInt) (hnd : 0 ≤ nd.toInt ∧ nd.toInt ≤ 2147483639) (hr3 : nd.toInt ≤ r3.toInt ∧ ((2 : Int64) * ln.toInt64).toInt ≤ r3.toInt ∧ (r3.toInt = nd.toInt ∨ r3.toInt = ((2 : Int64) * ln.toInt64).toInt)) (hr8 : ∃ k : Nat, k ≤ 62 ∧ r8.toInt = 2 ^ k ∧ (2 : Int) ^ k ≤ ((16 : Int64) + (r3 * (2 : Int64))).toInt ∧ ((16 : Int64) + (r3 * (2 : Int64))).toInt < 2 ^ (k + 1)) (c6 : r8.toInt = ((16 : Int64) + (r3 * (2 : Int64))).toInt) (hr10 : r10.toInt ≤ (2147483639 : Int64).toInt ∧ r10.toInt ≤ ((((16 : Int64) + (r3 * (2 : Int64))) - (16 : Int64)) / (2 : Int64)).toInt ∧ (r10.toInt = (2147483639 : Int64).toInt ∨ r10.toInt = ((((16 : Int64) + (r3 * (2 : Int64))) - (16 : Int64)) / (2 : Int64)).toInt)) : ∃ (k : Nat) (mx : Int), 4 ≤ k ∧ k ≤ 37 ∧ nd.toInt ≤ mx ∧ 2 * ln.toInt ≤ mx ∧ (mx = nd.toInt ∨ mx = 2 * ln.toInt) ∧ 16 + mx * 2 ≤ 2 ^ k ∧ (2 : Int) ^ k < 2 * (16 + mx * 2) ∧ ((r10.toInt32.toInt = 2147483639 ∧ 2147483639 ≤ ((2 : Int) ^ k - 16) / 2) ∨ (r10.toInt32.toInt = ((2 : Int) ^ k - 16) / 2 ∧ ((2 : Int) ^ k - 16) / 2 < 2147483639)) := by
  have e1 : ((2 : Int64) * ln.toInt64).toInt = 2 * ln.toInt := (by have f3 := rng32 ln; (try simp only [Int32.reduceToInt, Int64.reduceToInt] at f3); have f4 := c_i2l ln; (try simp only [Int32.reduceToInt, Int64.reduceToInt] at f4); have f5 := rng64 ((2 : Int64) * ln.toInt64); (try simp only [Int32.reduceToInt, Int64.reduceToInt] at f5); have f6 := c_lmul (2 : Int64) ln.toInt64; (try simp only [Int32.reduceToInt, Int64.reduceToInt] at f6); (try have f6e : ((2 : Int64) * ln.toInt64).toInt = (2 : Int) * ln.toInt64.toInt := (by omega)); omega)
  rw [e1] at hr3
  have g0 := rng32 ln
  have b3 : 0 ≤ r3.toInt ∧ r3.toInt ≤ 4294967294 := (by omega)
  have e2 : ((16 : Int64) + (r3 * (2 : Int64))).toInt = 16 + r3.toInt * 2 := (by have f3 := rng64 r3; (try simp only [Int32.reduceToInt, Int64.reduceToInt] at f3); have f4 := rng64 (r3 * (2 : Int64)); (try simp only [Int32.reduceToInt, Int64.reduceToInt] at f4); have f5 := c_lmul r3 (2 : Int64); (try simp only [Int32.reduceToInt, Int64.reduceToInt] at f5); (try have f5e : (r3 * (2 : Int64)).toInt = r3.toInt * (2 : Int) := (by omega)); have f6 := rng64 ((16 : Int64) + (r3 * (2 : Int64))); (try simp only [Int32.reduceToInt, Int64.reduceToInt] at f6); have f7 := c_ladd (16 : Int64) (r3 * (2 : Int64)); (try simp only [Int32.reduceToInt, Int64.reduceToInt] at f7); (try have f7e : ((16 : Int64) + (r3 * (2 : Int64))).toInt = (16 : Int) + (r3 * (2 : Int64)).toInt := (by omega)); omega)
  rw [e2] at hr8
  obtain ⟨k, q0, q1, q2, q3⟩ := hr8
  have hpow : (2 : Int) ^ (k + 1) = 2 * 2 ^ k := (by rw [Int.pow_succ, Int.mul_comm])
  rw [hpow] at q3
  have q4 : 3 ≤ k := (by rcases Nat.lt_or_ge k 3 with h | h; exfalso; have h5 := own_powle (show k ≤ 2 by omega); omega; exact h)
  have q5 : k ≤ 36 := (by rcases Nat.lt_or_ge k 37 with h | h; omega; exfalso; have h5 := own_powle h; omega)
  have hM : (2147483639 : Int64).toInt = 2147483639 := (by decide)
  rw [hM] at hr10
  rw [e2] at c6
  have q6 : k ≠ 3 := (fun h => by rw [h] at q1 q2 q3; omega)
  generalize hP : (2 : Int) ^ k = P at *
  have e3 : ((((16 : Int64) + (r3 * (2 : Int64))) - (16 : Int64)) / (2 : Int64)).toInt = (P - 16) / 2 := (by have f5 := rng64 r3; (try simp only [Int32.reduceToInt, Int64.reduceToInt] at f5); have f6 := rng64 (r3 * (2 : Int64)); (try simp only [Int32.reduceToInt, Int64.reduceToInt] at f6); have f7 := c_lmul r3 (2 : Int64); (try simp only [Int32.reduceToInt, Int64.reduceToInt] at f7); (try have f7e : (r3 * (2 : Int64)).toInt = r3.toInt * (2 : Int) := (by omega)); have f8 := rng64 ((16 : Int64) + (r3 * (2 : Int64))); (try simp only [Int32.reduceToInt, Int64.reduceToInt] at f8); have f9 := c_ladd (16 : Int64) (r3 * (2 : Int64)); (try simp only [Int32.reduceToInt, Int64.reduceToInt] at f9); (try have f9e : ((16 : Int64) + (r3 * (2 : Int64))).toInt = (16 : Int) + (r3 * (2 : Int64)).toInt := (by omega)); have f10 := rng64 (((16 : Int64) + (r3 * (2 : Int64))) - (16 : Int64)); (try simp only [Int32.reduceToInt, Int64.reduceToInt] at f10); have f11 := c_lsub ((16 : Int64) + (r3 * (2 : Int64))) (16 : Int64); (try simp only [Int32.reduceToInt, Int64.reduceToInt] at f11); (try have f11e : (((16 : Int64) + (r3 * (2 : Int64))) - (16 : Int64)).toInt = ((16 : Int64) + (r3 * (2 : Int64))).toInt - (16 : Int) := (by omega)); have f12 := rng64 ((((16 : Int64) + (r3 * (2 : Int64))) - (16 : Int64)) / (2 : Int64)); (try simp only [Int32.reduceToInt, Int64.reduceToInt] at f12); have f13 := c_ldiv (((16 : Int64) + (r3 * (2 : Int64))) - (16 : Int64)) (2 : Int64) 2 (by decide) (by decide); (try simp only [Int32.reduceToInt, Int64.reduceToInt] at f13); (try have f13e : ((((16 : Int64) + (r3 * (2 : Int64))) - (16 : Int64)) / (2 : Int64)).toInt = (((16 : Int64) + (r3 * (2 : Int64))) - (16 : Int64)).toInt / 2 := (by omega)); omega)
  rw [e3] at hr10
  have e4 : r10.toInt32.toInt = r10.toInt := (by have f2 := rng64 r10; (try simp only [Int32.reduceToInt, Int64.reduceToInt] at f2); have f3 := rng32 r10.toInt32; (try simp only [Int32.reduceToInt, Int64.reduceToInt] at f3); have f4 := c_l2i r10; (try simp only [Int32.reduceToInt, Int64.reduceToInt] at f4); (try have f4e : r10.toInt32.toInt = r10.toInt := (by omega)); omega)
  rw [e4]
  refine ⟨k, r3.toInt, by omega, by omega, by omega, by omega, by omega, ?_⟩
  rw [hP]
  refine ⟨by omega, by omega, ?_⟩
  rcases Int.lt_or_le ((P - 16) / 2) 2147483639 with h | h
  · right; constructor; omega; exact h
  · left; constructor; omega; exact h
def RM_rm1_2 : Room := ({ frames := 3, cells := 0, slots := 0, locals := 45 } : Room)
set_option maxRecDepth 65536 in
set_option maxHeartbeats 40000000 in
theorem rm1_2 (l : Launch) (Z : State) (a0 : Array Value) (hw : ∀ d ∈ tables_1, d.before a0 Z = true) (ws : List Jvm.Cond) (ln : Int32) (nd : Int64) (h0 : Heap) (n0 : Nat) (Z0 : n0 ≤ h0.size) (hln : 0 ≤ ln.toInt) (hnd : 0 ≤ nd.toInt ∧ nd.toInt ≤ 2147483639) :
    Ctr l Z (⟨"com/example/vestline/vestline/number/Growth", "grown", "(IJI)I"⟩ : MethodName) prog_67_method_2_code 8 (some .int) RM_rm1_2 ws #[.int ln, .long nd, .int (2 : Int32)] h0 (IQ (fun r => ∃ (k : Nat) (mx : Int), 4 ≤ k ∧ k ≤ 37 ∧ nd.toInt ≤ mx ∧ 2 * ln.toInt ≤ mx ∧ (mx = nd.toInt ∨ mx = 2 * ln.toInt) ∧ 16 + mx * 2 ≤ 2 ^ k ∧ (2 : Int) ^ k < 2 * (16 + mx * 2) ∧ ((r.toInt = 2147483639 ∧ 2147483639 ≤ ((2 : Int) ^ k - 16) / 2) ∨ (r.toInt = ((2 : Int) ^ k - 16) / 2 ∧ ((2 : Int) ^ k - 16) / 2 < 2147483639))) h0) := by
  refine Ctr.of (plainFor_of_name pn_4) ?_
  intro p e s m below meth c s₁ hx hby hml hrt hlk hnm hown hZ X0 e0
  have N0 := Fr.nil n0
  refine Go.cast (ef_1 m ln nd (2 : Int32)) ?_
  refine g_lloadN (q := 1) X0.here hx (hb hby d1_0) rfl rfl ?_
  refine g_ldc2J (q := 4) X0 hx hZ hown (hw _ (List.mem_of_getElem? (i := 7) rfl)) (hb hby d1_1) rfl ?_
  refine g_lcmp_le (q := 22) (q1 := 5) (q0 := 8) X0.here hx (hb hby d1_4) rfl (hb hby d1_5) (by decide) (by decide) rfl ?_ ?_
  · intro c1
    refine g_ldc2J (q := 25) X0 hx hZ hown (hw _ (List.mem_of_getElem? (i := 8) rfl)) (hb hby d1_22) rfl ?_
    refine g_lloadN (q := 26) X0.here hx (hb hby d1_25) rfl rfl ?_
    refine g_ldc2J (q := 29) X0 hx hZ hown (hw _ (List.mem_of_getElem? (i := 9) rfl)) (hb hby d1_26) rfl ?_
    refine g_iloadN (q := 30) X0.here hx (hb hby d1_29) rfl rfl ?_
    refine g_i2l (q := 31) X0.here hx (hb hby d1_30) rfl ?_
    refine g_lmul (q := 32) X0.here hx (hb hby d1_31) rfl ?_
    refine g_callSJ (q := 35) X0 hx hZ hown (hw _ (List.mem_of_getElem? (i := 10) rfl)) (hw _ (List.mem_of_getElem? (i := 11) rfl)) (hw _ (List.mem_of_getElem? (i := 12) rfl)) (hw _ (List.mem_of_getElem? (i := 13) rfl)) (by decide) (rm2 l Z a0 hw [] nd ((2 : Int64) * ln.toInt64) h0 n0 Z0) (argsL := [.long nd, .long ((2 : Int64) * ln.toInt64)]) (rest := [.long (16 : Int64)]) pd_2 rfl rfl rfl (hb hby d1_32) rfl (by rw [hml]; rfl) e0 (by decide) (W := 2) rfl (by decide) rfl rfl (by decide) (by decide) ?_
    intro T2 r3 X2 e2 hr3
    refine g_iloadN (q := 36) X2.here hx (hb hby d1_35) rfl rfl ?_
    refine g_i2l (q := 37) X2.here hx (hb hby d1_36) rfl ?_
    rw [show (2 : Int32).toInt64 = (2 : Int64) from by decide]
    refine g_lmul (q := 38) X2.here hx (hb hby d1_37) rfl ?_
    refine g_ladd (q := 39) X2.here hx (hb hby d1_38) rfl ?_
    refine g_lstore (q := 41) (L' := #[.val (.int ln), .val (.long nd), .second, .val (.int (2 : Int32)), .val (.long ((16 : Int64) + (r3 * (2 : Int64)))), .second, .unset, .unset]) X2.here hx (hb hby d1_39) rfl rfl ?_
    refine g_lload (q := 43) X2.here hx (hb hby d1_41) rfl rfl ?_
    refine g_callSJ (q := 46) X2 hx hZ hown (hw _ (List.mem_of_getElem? (i := 14) rfl)) (hw _ (List.mem_of_getElem? (i := 15) rfl)) (hw _ (List.mem_of_getElem? (i := 16) rfl)) (hw _ (List.mem_of_getElem? (i := 17) rfl)) (by decide) (rm3 l Z a0 hw [] ((16 : Int64) + (r3 * (2 : Int64))) h0 n0 Z0 (by (try simp only [Int32.reduceToInt, Int64.reduceToInt, true_and, and_true, not_true_eq_false, not_false_eq_true, false_and, or_false, false_or] at c1); (try simp only [Int32.reduceToInt, Int64.reduceToInt, true_and, and_true, not_true_eq_false, not_false_eq_true, false_and, or_false, false_or] at hr3); (try simp only [Int32.reduceToInt, Int64.reduceToInt, true_and, and_true, not_true_eq_false, not_false_eq_true, false_and, or_false, false_or] at hln); (try simp only [Int32.reduceToInt, Int64.reduceToInt, true_and, and_true, not_true_eq_false, not_false_eq_true, false_and, or_false, false_or] at hnd); have f1 := rng64 nd; (try simp only [Int32.reduceToInt, Int64.reduceToInt] at f1); have f5 := rng32 ln; (try simp only [Int32.reduceToInt, Int64.reduceToInt] at f5); have f6 := c_i2l ln; (try simp only [Int32.reduceToInt, Int64.reduceToInt] at f6); have f7 := rng64 ((2 : Int64) * ln.toInt64); (try simp only [Int32.reduceToInt, Int64.reduceToInt] at f7); have f8 := c_lmul (2 : Int64) ln.toInt64; (try simp only [Int32.reduceToInt, Int64.reduceToInt] at f8); (try have f8e : ((2 : Int64) * ln.toInt64).toInt = (2 : Int) * ln.toInt64.toInt := (by omega)); have f12 := rng64 r3; (try simp only [Int32.reduceToInt, Int64.reduceToInt] at f12); have f13 := rng64 (r3 * (2 : Int64)); (try simp only [Int32.reduceToInt, Int64.reduceToInt] at f13); have f14 := c_lmul r3 (2 : Int64); (try simp only [Int32.reduceToInt, Int64.reduceToInt] at f14); (try have f14e : (r3 * (2 : Int64)).toInt = r3.toInt * (2 : Int) := (by omega)); have f15 := rng64 ((16 : Int64) + (r3 * (2 : Int64))); (try simp only [Int32.reduceToInt, Int64.reduceToInt] at f15); have f16 := c_ladd (16 : Int64) (r3 * (2 : Int64)); (try simp only [Int32.reduceToInt, Int64.reduceToInt] at f16); (try have f16e : ((16 : Int64) + (r3 * (2 : Int64))).toInt = (16 : Int) + (r3 * (2 : Int64)).toInt := (by omega)); (try simp only [Int32.reduceToInt, Int64.reduceToInt, and_true, true_and, or_true, true_or]); (first | done | omega))) (argsL := [.long ((16 : Int64) + (r3 * (2 : Int64)))]) (rest := []) pd_3 rfl rfl rfl (hb hby d1_43) rfl (by rw [hml]; rfl) e2 (by decide) (W := 0) rfl (by decide) rfl rfl (by decide) (by decide) ?_
    intro T4 r5 X4 e4 hr5
    refine g_lload (q := 48) X4.here hx (hb hby d1_46) rfl rfl ?_
    refine g_lcmp_ne (q := 57) (q1 := 49) (q0 := 52) X4.here hx (hb hby d1_48) rfl (hb hby d1_49) (by decide) (by decide) rfl ?_ ?_
    · intro c6
      refine g_lload (q := 59) X4.here hx (hb hby d1_57) rfl rfl ?_
      refine g_callSJ (q := 62) X4 hx hZ hown (hw _ (List.mem_of_getElem? (i := 14) rfl)) (hw _ (List.mem_of_getElem? (i := 15) rfl)) (hw _ (List.mem_of_getElem? (i := 16) rfl)) (hw _ (List.mem_of_getElem? (i := 17) rfl)) (by decide) (rm3 l Z a0 hw [] ((16 : Int64) + (r3 * (2 : Int64))) h0 n0 Z0 (by (try simp only [Int32.reduceToInt, Int64.reduceToInt, true_and, and_true, not_true_eq_false, not_false_eq_true, false_and, or_false, false_or] at c1); (try simp only [Int32.reduceToInt, Int64.reduceToInt, true_and, and_true, not_true_eq_false, not_false_eq_true, false_and, or_false, false_or] at hr3); (try simp only [Int32.reduceToInt, Int64.reduceToInt, true_and, and_true, not_true_eq_false, not_false_eq_true, false_and, or_false, false_or] at hr5); (try simp only [Int32.reduceToInt, Int64.reduceToInt, true_and, and_true, not_true_eq_false, not_false_eq_true, false_and, or_false, false_or] at c6); (try simp only [Int32.reduceToInt, Int64.reduceToInt, true_and, and_true, not_true_eq_false, not_false_eq_true, false_and, or_false, false_or] at hln); (try simp only [Int32.reduceToInt, Int64.reduceToInt, true_and, and_true, not_true_eq_false, not_false_eq_true, false_and, or_false, false_or] at hnd); have f1 := rng64 nd; (try simp only [Int32.reduceToInt, Int64.reduceToInt] at f1); have f5 := rng32 ln; (try simp only [Int32.reduceToInt, Int64.reduceToInt] at f5); have f6 := c_i2l ln; (try simp only [Int32.reduceToInt, Int64.reduceToInt] at f6); have f7 := rng64 ((2 : Int64) * ln.toInt64); (try simp only [Int32.reduceToInt, Int64.reduceToInt] at f7); have f8 := c_lmul (2 : Int64) ln.toInt64; (try simp only [Int32.reduceToInt, Int64.reduceToInt] at f8); (try have f8e : ((2 : Int64) * ln.toInt64).toInt = (2 : Int) * ln.toInt64.toInt := (by omega)); have f12 := rng64 r3; (try simp only [Int32.reduceToInt, Int64.reduceToInt] at f12); have f13 := rng64 (r3 * (2 : Int64)); (try simp only [Int32.reduceToInt, Int64.reduceToInt] at f13); have f14 := c_lmul r3 (2 : Int64); (try simp only [Int32.reduceToInt, Int64.reduceToInt] at f14); (try have f14e : (r3 * (2 : Int64)).toInt = r3.toInt * (2 : Int) := (by omega)); have f15 := rng64 ((16 : Int64) + (r3 * (2 : Int64))); (try simp only [Int32.reduceToInt, Int64.reduceToInt] at f15); have f16 := c_ladd (16 : Int64) (r3 * (2 : Int64)); (try simp only [Int32.reduceToInt, Int64.reduceToInt] at f16); (try have f16e : ((16 : Int64) + (r3 * (2 : Int64))).toInt = (16 : Int) + (r3 * (2 : Int64)).toInt := (by omega)); have f18 := rng64 r5; (try simp only [Int32.reduceToInt, Int64.reduceToInt] at f18); (try simp only [Int32.reduceToInt, Int64.reduceToInt, and_true, true_and, or_true, true_or]); (first | done | omega))) (argsL := [.long ((16 : Int64) + (r3 * (2 : Int64)))]) (rest := []) pd_3 rfl rfl rfl (hb hby d1_59) rfl (by rw [hml]; rfl) e4 (by decide) (W := 0) rfl (by decide) rfl rfl (by decide) (by decide) ?_
      intro T7 r8 X7 e7 hr8
      refine g_iconst (q := 63) (v := (1 : Int32)) X7.here hx (hb hby d1_62) rfl rfl ?_
      refine g_lshl (q := 64) X7.here hx (hb hby d1_63) rfl ?_
      refine g_lstore (q := 66) (L' := #[.val (.int ln), .val (.long nd), .second, .val (.int (2 : Int32)), .val (.long ((16 : Int64) + (r3 * (2 : Int64)))), .second, .val (.long (r8 <<< ((1 : Int32) &&& 0x3f).toInt64)), .second]) X7.here hx (hb hby d1_64) rfl rfl ?_
      refine g_ldc2J (q := 69) X7 hx hZ hown (hw _ (List.mem_of_getElem? (i := 7) rfl)) (hb hby d1_66) rfl ?_
      refine g_lload (q := 71) X7.here hx (hb hby d1_69) rfl rfl ?_
      refine g_ldc2J (q := 74) X7 hx hZ hown (hw _ (List.mem_of_getElem? (i := 8) rfl)) (hb hby d1_71) rfl ?_
      refine g_lsub (q := 75) X7.here hx (hb hby d1_74) rfl ?_
      refine g_iloadN (q := 76) X7.here hx (hb hby d1_75) rfl rfl ?_
      refine g_i2l (q := 77) X7.here hx (hb hby d1_76) rfl ?_
      rw [show (2 : Int32).toInt64 = (2 : Int64) from by decide]
      refine g_ldiv (q := 78) X7.here hx (hb hby d1_77) (by decide) rfl ?_
      refine g_callSJ (q := 81) X7 hx hZ hown (hw _ (List.mem_of_getElem? (i := 27) rfl)) (hw _ (List.mem_of_getElem? (i := 28) rfl)) (hw _ (List.mem_of_getElem? (i := 12) rfl)) (hw _ (List.mem_of_getElem? (i := 29) rfl)) (by decide) (rm6 l Z a0 hw [] (2147483639 : Int64) (((r8 <<< ((1 : Int32) &&& 0x3f).toInt64) - (16 : Int64)) / (2 : Int64)) h0 n0 Z0) (argsL := [.long (2147483639 : Int64), .long (((r8 <<< ((1 : Int32) &&& 0x3f).toInt64) - (16 : Int64)) / (2 : Int64))]) (rest := []) pd_2 rfl rfl rfl (hb hby d1_78) rfl (by rw [hml]; rfl) e7 (by decide) (W := 0) rfl (by decide) rfl rfl (by decide) (by decide) ?_
      intro T9 r10 X9 e9 hr10
      refine g_l2i (q := 82) X9.here hx (hb hby d1_81) rfl ?_
      exact g_ireturn X9 hx hlk hrt (hb hby d1_82) (by decide) (by decide) ⟨_, rfl, own_grt_2 hln hnd hr3 hr8 hr5 c6 hr10, e9, rfl⟩
    · intro c6
      refine g_lload (q := 54) X4.here hx (hb hby d1_52) rfl rfl ?_
      refine g_goto (q := 64) X4.here hx (hb hby d1_54) (by decide) (by decide) ?_
      refine g_lstore (q := 66) (L' := #[.val (.int ln), .val (.long nd), .second, .val (.int (2 : Int32)), .val (.long ((16 : Int64) + (r3 * (2 : Int64)))), .second, .val (.long ((16 : Int64) + (r3 * (2 : Int64)))), .second]) X4.here hx (hb hby d1_64) rfl rfl ?_
      refine g_ldc2J (q := 69) X4 hx hZ hown (hw _ (List.mem_of_getElem? (i := 7) rfl)) (hb hby d1_66) rfl ?_
      refine g_lload (q := 71) X4.here hx (hb hby d1_69) rfl rfl ?_
      refine g_ldc2J (q := 74) X4 hx hZ hown (hw _ (List.mem_of_getElem? (i := 8) rfl)) (hb hby d1_71) rfl ?_
      refine g_lsub (q := 75) X4.here hx (hb hby d1_74) rfl ?_
      refine g_iloadN (q := 76) X4.here hx (hb hby d1_75) rfl rfl ?_
      refine g_i2l (q := 77) X4.here hx (hb hby d1_76) rfl ?_
      rw [show (2 : Int32).toInt64 = (2 : Int64) from by decide]
      refine g_ldiv (q := 78) X4.here hx (hb hby d1_77) (by decide) rfl ?_
      refine g_callSJ (q := 81) X4 hx hZ hown (hw _ (List.mem_of_getElem? (i := 27) rfl)) (hw _ (List.mem_of_getElem? (i := 28) rfl)) (hw _ (List.mem_of_getElem? (i := 12) rfl)) (hw _ (List.mem_of_getElem? (i := 29) rfl)) (by decide) (rm6 l Z a0 hw [] (2147483639 : Int64) ((((16 : Int64) + (r3 * (2 : Int64))) - (16 : Int64)) / (2 : Int64)) h0 n0 Z0) (argsL := [.long (2147483639 : Int64), .long ((((16 : Int64) + (r3 * (2 : Int64))) - (16 : Int64)) / (2 : Int64))]) (rest := []) pd_2 rfl rfl rfl (hb hby d1_78) rfl (by rw [hml]; rfl) e4 (by decide) (W := 0) rfl (by decide) rfl rfl (by decide) (by decide) ?_
      intro T11 r12 X11 e11 hr12
      refine g_l2i (q := 82) X11.here hx (hb hby d1_81) rfl ?_
      exact g_ireturn X11 hx hlk hrt (hb hby d1_82) (by decide) (by decide) ⟨_, rfl, own_grf_2 hln hnd hr3 hr5 (by have h6 := c6; first | exact h6 | omega) hr12, e11, rfl⟩
  · intro c1
    exfalso; (try simp only [Int32.reduceToInt, Int64.reduceToInt, true_and, and_true, not_true_eq_false, not_false_eq_true, false_and, or_false, false_or] at c1); (try simp only [Int32.reduceToInt, Int64.reduceToInt, true_and, and_true, not_true_eq_false, not_false_eq_true, false_and, or_false, false_or] at hnd); have f1 := rng64 nd; (try simp only [Int32.reduceToInt, Int64.reduceToInt] at f1); (try simp only [Int32.reduceToInt, Int64.reduceToInt, and_true, true_and, or_true, true_or]); (first | done | omega)
theorem own_grt_4 {ln : Int32} {nd r3 r5 r8 r10 : Int64} (hln : 0 ≤ ln.toInt) (hnd : 0 ≤ nd.toInt ∧ nd.toInt ≤ 2147483639) (hr3 : nd.toInt ≤ r3.toInt ∧ ((2 : Int64) * ln.toInt64).toInt ≤ r3.toInt ∧ (r3.toInt = nd.toInt ∨ r3.toInt = ((2 : Int64) * ln.toInt64).toInt)) (hr8 : ∃ k : Nat, k ≤ 62 ∧ r8.toInt = 2 ^ k ∧ (2 : Int) ^ k ≤ ((16 : Int64) + (r3 * (4 : Int64))).toInt ∧ ((16 : Int64) + (r3 * (4 : Int64))).toInt < 2 ^ (k + 1)) (hr5 : ∃ k : Nat, k ≤ 62 ∧ r5.toInt = 2 ^ k ∧ (2 : Int) ^ k ≤ ((16 : Int64) + (r3 * (4 : Int64))).toInt ∧ ((16 : Int64) + (r3 * (4 : Int64))).toInt < 2 ^ (k + 1)) (c6 : ¬ r5.toInt = ((16 : Int64) + (r3 * (4 : Int64))).toInt) (hr10 : r10.toInt ≤ (2147483639 : Int64).toInt ∧ r10.toInt ≤ (((r8 <<< ((1 : Int32) &&& 0x3f).toInt64) - (16 : Int64)) / (4 : Int64)).toInt ∧ (r10.toInt = (2147483639 : Int64).toInt ∨ r10.toInt = (((r8 <<< ((1 : Int32) &&& 0x3f).toInt64) - (16 : Int64)) / (4 : Int64)).toInt)) : ∃ (k : Nat) (mx : Int), 4 ≤ k ∧ k ≤ 37 ∧ nd.toInt ≤ mx ∧ 2 * ln.toInt ≤ mx ∧ (mx = nd.toInt ∨ mx = 2 * ln.toInt) ∧ 16 + mx * 4 ≤ 2 ^ k ∧ (2 : Int) ^ k < 2 * (16 + mx * 4) ∧ ((r10.toInt32.toInt = 2147483639 ∧ 2147483639 ≤ ((2 : Int) ^ k - 16) / 4) ∨ (r10.toInt32.toInt = ((2 : Int) ^ k - 16) / 4 ∧ ((2 : Int) ^ k - 16) / 4 < 2147483639)) := by
  have e1 : ((2 : Int64) * ln.toInt64).toInt = 2 * ln.toInt := (by have f3 := rng32 ln; (try simp only [Int32.reduceToInt, Int64.reduceToInt] at f3); have f4 := c_i2l ln; (try simp only [Int32.reduceToInt, Int64.reduceToInt] at f4); have f5 := rng64 ((2 : Int64) * ln.toInt64); (try simp only [Int32.reduceToInt, Int64.reduceToInt] at f5); have f6 := c_lmul (2 : Int64) ln.toInt64; (try simp only [Int32.reduceToInt, Int64.reduceToInt] at f6); (try have f6e : ((2 : Int64) * ln.toInt64).toInt = (2 : Int) * ln.toInt64.toInt := (by omega)); omega)
  rw [e1] at hr3
  have g0 := rng32 ln
  have b3 : 0 ≤ r3.toInt ∧ r3.toInt ≤ 4294967294 := (by omega)
  have e2 : ((16 : Int64) + (r3 * (4 : Int64))).toInt = 16 + r3.toInt * 4 := (by have f3 := rng64 r3; (try simp only [Int32.reduceToInt, Int64.reduceToInt] at f3); have f4 := rng64 (r3 * (4 : Int64)); (try simp only [Int32.reduceToInt, Int64.reduceToInt] at f4); have f5 := c_lmul r3 (4 : Int64); (try simp only [Int32.reduceToInt, Int64.reduceToInt] at f5); (try have f5e : (r3 * (4 : Int64)).toInt = r3.toInt * (4 : Int) := (by omega)); have f6 := rng64 ((16 : Int64) + (r3 * (4 : Int64))); (try simp only [Int32.reduceToInt, Int64.reduceToInt] at f6); have f7 := c_ladd (16 : Int64) (r3 * (4 : Int64)); (try simp only [Int32.reduceToInt, Int64.reduceToInt] at f7); (try have f7e : ((16 : Int64) + (r3 * (4 : Int64))).toInt = (16 : Int) + (r3 * (4 : Int64)).toInt := (by omega)); omega)
  rw [e2] at hr8
  obtain ⟨k, q0, q1, q2, q3⟩ := hr8
  rw [e2] at hr5 c6
  obtain ⟨k', p0, p1, p2, p3⟩ := hr5
  have hkk := own_pu q2 q3 p2 p3
  rw [← hkk] at p1
  rw [p1] at c6
  clear p0 p1 p2 p3 hkk
  have hpow : (2 : Int) ^ (k + 1) = 2 * 2 ^ k := (by rw [Int.pow_succ, Int.mul_comm])
  rw [hpow] at q3
  have q4 : 3 ≤ k := (by rcases Nat.lt_or_ge k 3 with h | h; exfalso; have h5 := own_powle (show k ≤ 2 by omega); omega; exact h)
  have q5 : k ≤ 36 := (by rcases Nat.lt_or_ge k 37 with h | h; omega; exfalso; have h5 := own_powle h; omega)
  have hM : (2147483639 : Int64).toInt = 2147483639 := (by decide)
  rw [hM] at hr10
  generalize hP : (2 : Int) ^ k = P at *
  have e3 : (((r8 <<< ((1 : Int32) &&& 0x3f).toInt64) - (16 : Int64)) / (4 : Int64)).toInt = (2 * P - 16) / 4 := (by have f4 := rng64 r8; (try simp only [Int32.reduceToInt, Int64.reduceToInt] at f4); have f5 := rng64 (r8 <<< ((1 : Int32) &&& 0x3f).toInt64); (try simp only [Int32.reduceToInt, Int64.reduceToInt] at f5); have f6 := c_lshl r8 (1 : Int32) 1 (by decide); (try simp only [Int32.reduceToInt, Int64.reduceToInt] at f6); (try have f6e : (r8 <<< ((1 : Int32) &&& 0x3f).toInt64).toInt = r8.toInt * 2 := (by omega)); have f7 := rng64 ((r8 <<< ((1 : Int32) &&& 0x3f).toInt64) - (16 : Int64)); (try simp only [Int32.reduceToInt, Int64.reduceToInt] at f7); have f8 := c_lsub (r8 <<< ((1 : Int32) &&& 0x3f).toInt64) (16 : Int64); (try simp only [Int32.reduceToInt, Int64.reduceToInt] at f8); (try have f8e : ((r8 <<< ((1 : Int32) &&& 0x3f).toInt64) - (16 : Int64)).toInt = (r8 <<< ((1 : Int32) &&& 0x3f).toInt64).toInt - (16 : Int) := (by omega)); have f9 := rng64 (((r8 <<< ((1 : Int32) &&& 0x3f).toInt64) - (16 : Int64)) / (4 : Int64)); (try simp only [Int32.reduceToInt, Int64.reduceToInt] at f9); have f10 := c_ldiv ((r8 <<< ((1 : Int32) &&& 0x3f).toInt64) - (16 : Int64)) (4 : Int64) 4 (by decide) (by decide); (try simp only [Int32.reduceToInt, Int64.reduceToInt] at f10); (try have f10e : (((r8 <<< ((1 : Int32) &&& 0x3f).toInt64) - (16 : Int64)) / (4 : Int64)).toInt = ((r8 <<< ((1 : Int32) &&& 0x3f).toInt64) - (16 : Int64)).toInt / 4 := (by omega)); omega)
  rw [e3] at hr10
  have e4 : r10.toInt32.toInt = r10.toInt := (by have f2 := rng64 r10; (try simp only [Int32.reduceToInt, Int64.reduceToInt] at f2); have f3 := rng32 r10.toInt32; (try simp only [Int32.reduceToInt, Int64.reduceToInt] at f3); have f4 := c_l2i r10; (try simp only [Int32.reduceToInt, Int64.reduceToInt] at f4); (try have f4e : r10.toInt32.toInt = r10.toInt := (by omega)); omega)
  rw [e4]
  refine ⟨k + 1, r3.toInt, by omega, by omega, by omega, by omega, by omega, ?_⟩
  rw [hpow]
  refine ⟨by omega, by omega, ?_⟩
  rcases Int.lt_or_le ((2 * P - 16) / 4) 2147483639 with h | h
  · right; constructor; omega; exact h
  · left; constructor; omega; exact h
theorem own_grf_4 {ln : Int32} {nd r3 r8 r10 : Int64} (hln : 0 ≤ ln.toInt) (hnd : 0 ≤ nd.toInt ∧ nd.toInt ≤ 2147483639) (hr3 : nd.toInt ≤ r3.toInt ∧ ((2 : Int64) * ln.toInt64).toInt ≤ r3.toInt ∧ (r3.toInt = nd.toInt ∨ r3.toInt = ((2 : Int64) * ln.toInt64).toInt)) (hr8 : ∃ k : Nat, k ≤ 62 ∧ r8.toInt = 2 ^ k ∧ (2 : Int) ^ k ≤ ((16 : Int64) + (r3 * (4 : Int64))).toInt ∧ ((16 : Int64) + (r3 * (4 : Int64))).toInt < 2 ^ (k + 1)) (c6 : r8.toInt = ((16 : Int64) + (r3 * (4 : Int64))).toInt) (hr10 : r10.toInt ≤ (2147483639 : Int64).toInt ∧ r10.toInt ≤ ((((16 : Int64) + (r3 * (4 : Int64))) - (16 : Int64)) / (4 : Int64)).toInt ∧ (r10.toInt = (2147483639 : Int64).toInt ∨ r10.toInt = ((((16 : Int64) + (r3 * (4 : Int64))) - (16 : Int64)) / (4 : Int64)).toInt)) : ∃ (k : Nat) (mx : Int), 4 ≤ k ∧ k ≤ 37 ∧ nd.toInt ≤ mx ∧ 2 * ln.toInt ≤ mx ∧ (mx = nd.toInt ∨ mx = 2 * ln.toInt) ∧ 16 + mx * 4 ≤ 2 ^ k ∧ (2 : Int) ^ k < 2 * (16 + mx * 4) ∧ ((r10.toInt32.toInt = 2147483639 ∧ 2147483639 ≤ ((2 : Int) ^ k - 16) / 4) ∨ (r10.toInt32.toInt = ((2 : Int) ^ k - 16) / 4 ∧ ((2 : Int) ^ k - 16) / 4 < 2147483639)) := by
  have e1 : ((2 : Int64) * ln.toInt64).toInt = 2 * ln.toInt := (by have f3 := rng32 ln; (try simp only [Int32.reduceToInt, Int64.reduceToInt] at f3); have f4 := c_i2l ln; (try simp only [Int32.reduceToInt, Int64.reduceToInt] at f4); have f5 := rng64 ((2 : Int64) * ln.toInt64); (try simp only [Int32.reduceToInt, Int64.reduceToInt] at f5); have f6 := c_lmul (2 : Int64) ln.toInt64; (try simp only [Int32.reduceToInt, Int64.reduceToInt] at f6); (try have f6e : ((2 : Int64) * ln.toInt64).toInt = (2 : Int) * ln.toInt64.toInt := (by omega)); omega)
  rw [e1] at hr3
  have g0 := rng32 ln
  have b3 : 0 ≤ r3.toInt ∧ r3.toInt ≤ 4294967294 := (by omega)
  have e2 : ((16 : Int64) + (r3 * (4 : Int64))).toInt = 16 + r3.toInt * 4 := (by have f3 := rng64 r3; (try simp only [Int32.reduceToInt, Int64.reduceToInt] at f3); have f4 := rng64 (r3 * (4 : Int64)); (try simp only [Int32.reduceToInt, Int64.reduceToInt] at f4); have f5 := c_lmul r3 (4 : Int64); (try simp only [Int32.reduceToInt, Int64.reduceToInt] at f5); (try have f5e : (r3 * (4 : Int64)).toInt = r3.toInt * (4 : Int) := (by omega)); have f6 := rng64 ((16 : Int64) + (r3 * (4 : Int64))); (try simp only [Int32.reduceToInt, Int64.reduceToInt] at f6); have f7 := c_ladd (16 : Int64) (r3 * (4 : Int64)); (try simp only [Int32.reduceToInt, Int64.reduceToInt] at f7); (try have f7e : ((16 : Int64) + (r3 * (4 : Int64))).toInt = (16 : Int) + (r3 * (4 : Int64)).toInt := (by omega)); omega)
  rw [e2] at hr8
  obtain ⟨k, q0, q1, q2, q3⟩ := hr8
  have hpow : (2 : Int) ^ (k + 1) = 2 * 2 ^ k := (by rw [Int.pow_succ, Int.mul_comm])
  rw [hpow] at q3
  have q4 : 3 ≤ k := (by rcases Nat.lt_or_ge k 3 with h | h; exfalso; have h5 := own_powle (show k ≤ 2 by omega); omega; exact h)
  have q5 : k ≤ 36 := (by rcases Nat.lt_or_ge k 37 with h | h; omega; exfalso; have h5 := own_powle h; omega)
  have hM : (2147483639 : Int64).toInt = 2147483639 := (by decide)
  rw [hM] at hr10
  rw [e2] at c6
  have q6 : k ≠ 3 := (fun h => by rw [h] at q1 q2 q3; omega)
  generalize hP : (2 : Int) ^ k = P at *
  have e3 : ((((16 : Int64) + (r3 * (4 : Int64))) - (16 : Int64)) / (4 : Int64)).toInt = (P - 16) / 4 := (by have f5 := rng64 r3; (try simp only [Int32.reduceToInt, Int64.reduceToInt] at f5); have f6 := rng64 (r3 * (4 : Int64)); (try simp only [Int32.reduceToInt, Int64.reduceToInt] at f6); have f7 := c_lmul r3 (4 : Int64); (try simp only [Int32.reduceToInt, Int64.reduceToInt] at f7); (try have f7e : (r3 * (4 : Int64)).toInt = r3.toInt * (4 : Int) := (by omega)); have f8 := rng64 ((16 : Int64) + (r3 * (4 : Int64))); (try simp only [Int32.reduceToInt, Int64.reduceToInt] at f8); have f9 := c_ladd (16 : Int64) (r3 * (4 : Int64)); (try simp only [Int32.reduceToInt, Int64.reduceToInt] at f9); (try have f9e : ((16 : Int64) + (r3 * (4 : Int64))).toInt = (16 : Int) + (r3 * (4 : Int64)).toInt := (by omega)); have f10 := rng64 (((16 : Int64) + (r3 * (4 : Int64))) - (16 : Int64)); (try simp only [Int32.reduceToInt, Int64.reduceToInt] at f10); have f11 := c_lsub ((16 : Int64) + (r3 * (4 : Int64))) (16 : Int64); (try simp only [Int32.reduceToInt, Int64.reduceToInt] at f11); (try have f11e : (((16 : Int64) + (r3 * (4 : Int64))) - (16 : Int64)).toInt = ((16 : Int64) + (r3 * (4 : Int64))).toInt - (16 : Int) := (by omega)); have f12 := rng64 ((((16 : Int64) + (r3 * (4 : Int64))) - (16 : Int64)) / (4 : Int64)); (try simp only [Int32.reduceToInt, Int64.reduceToInt] at f12); have f13 := c_ldiv (((16 : Int64) + (r3 * (4 : Int64))) - (16 : Int64)) (4 : Int64) 4 (by decide) (by decide); (try simp only [Int32.reduceToInt, Int64.reduceToInt] at f13); (try have f13e : ((((16 : Int64) + (r3 * (4 : Int64))) - (16 : Int64)) / (4 : Int64)).toInt = (((16 : Int64) + (r3 * (4 : Int64))) - (16 : Int64)).toInt / 4 := (by omega)); omega)
  rw [e3] at hr10
  have e4 : r10.toInt32.toInt = r10.toInt := (by have f2 := rng64 r10; (try simp only [Int32.reduceToInt, Int64.reduceToInt] at f2); have f3 := rng32 r10.toInt32; (try simp only [Int32.reduceToInt, Int64.reduceToInt] at f3); have f4 := c_l2i r10; (try simp only [Int32.reduceToInt, Int64.reduceToInt] at f4); (try have f4e : r10.toInt32.toInt = r10.toInt := (by omega)); omega)
  rw [e4]
  refine ⟨k, r3.toInt, by omega, by omega, by omega, by omega, by omega, ?_⟩
  rw [hP]
  refine ⟨by omega, by omega, ?_⟩
  rcases Int.lt_or_le ((P - 16) / 4) 2147483639 with h | h
  · right; constructor; omega; exact h
  · left; constructor; omega; exact h
def RM_rm1_4 : Room := ({ frames := 3, cells := 0, slots := 0, locals := 45 } : Room)
set_option maxRecDepth 65536 in
set_option maxHeartbeats 40000000 in
theorem rm1_4 (l : Launch) (Z : State) (a0 : Array Value) (hw : ∀ d ∈ tables_1, d.before a0 Z = true) (ws : List Jvm.Cond) (ln : Int32) (nd : Int64) (h0 : Heap) (n0 : Nat) (Z0 : n0 ≤ h0.size) (hln : 0 ≤ ln.toInt) (hnd : 0 ≤ nd.toInt ∧ nd.toInt ≤ 2147483639) :
    Ctr l Z (⟨"com/example/vestline/vestline/number/Growth", "grown", "(IJI)I"⟩ : MethodName) prog_67_method_2_code 8 (some .int) RM_rm1_4 ws #[.int ln, .long nd, .int (4 : Int32)] h0 (IQ (fun r => ∃ (k : Nat) (mx : Int), 4 ≤ k ∧ k ≤ 37 ∧ nd.toInt ≤ mx ∧ 2 * ln.toInt ≤ mx ∧ (mx = nd.toInt ∨ mx = 2 * ln.toInt) ∧ 16 + mx * 4 ≤ 2 ^ k ∧ (2 : Int) ^ k < 2 * (16 + mx * 4) ∧ ((r.toInt = 2147483639 ∧ 2147483639 ≤ ((2 : Int) ^ k - 16) / 4) ∨ (r.toInt = ((2 : Int) ^ k - 16) / 4 ∧ ((2 : Int) ^ k - 16) / 4 < 2147483639))) h0) := by
  refine Ctr.of (plainFor_of_name pn_4) ?_
  intro p e s m below meth c s₁ hx hby hml hrt hlk hnm hown hZ X0 e0
  have N0 := Fr.nil n0
  refine Go.cast (ef_1 m ln nd (4 : Int32)) ?_
  refine g_lloadN (q := 1) X0.here hx (hb hby d1_0) rfl rfl ?_
  refine g_ldc2J (q := 4) X0 hx hZ hown (hw _ (List.mem_of_getElem? (i := 7) rfl)) (hb hby d1_1) rfl ?_
  refine g_lcmp_le (q := 22) (q1 := 5) (q0 := 8) X0.here hx (hb hby d1_4) rfl (hb hby d1_5) (by decide) (by decide) rfl ?_ ?_
  · intro c1
    refine g_ldc2J (q := 25) X0 hx hZ hown (hw _ (List.mem_of_getElem? (i := 8) rfl)) (hb hby d1_22) rfl ?_
    refine g_lloadN (q := 26) X0.here hx (hb hby d1_25) rfl rfl ?_
    refine g_ldc2J (q := 29) X0 hx hZ hown (hw _ (List.mem_of_getElem? (i := 9) rfl)) (hb hby d1_26) rfl ?_
    refine g_iloadN (q := 30) X0.here hx (hb hby d1_29) rfl rfl ?_
    refine g_i2l (q := 31) X0.here hx (hb hby d1_30) rfl ?_
    refine g_lmul (q := 32) X0.here hx (hb hby d1_31) rfl ?_
    refine g_callSJ (q := 35) X0 hx hZ hown (hw _ (List.mem_of_getElem? (i := 10) rfl)) (hw _ (List.mem_of_getElem? (i := 11) rfl)) (hw _ (List.mem_of_getElem? (i := 12) rfl)) (hw _ (List.mem_of_getElem? (i := 13) rfl)) (by decide) (rm2 l Z a0 hw [] nd ((2 : Int64) * ln.toInt64) h0 n0 Z0) (argsL := [.long nd, .long ((2 : Int64) * ln.toInt64)]) (rest := [.long (16 : Int64)]) pd_2 rfl rfl rfl (hb hby d1_32) rfl (by rw [hml]; rfl) e0 (by decide) (W := 2) rfl (by decide) rfl rfl (by decide) (by decide) ?_
    intro T2 r3 X2 e2 hr3
    refine g_iloadN (q := 36) X2.here hx (hb hby d1_35) rfl rfl ?_
    refine g_i2l (q := 37) X2.here hx (hb hby d1_36) rfl ?_
    rw [show (4 : Int32).toInt64 = (4 : Int64) from by decide]
    refine g_lmul (q := 38) X2.here hx (hb hby d1_37) rfl ?_
    refine g_ladd (q := 39) X2.here hx (hb hby d1_38) rfl ?_
    refine g_lstore (q := 41) (L' := #[.val (.int ln), .val (.long nd), .second, .val (.int (4 : Int32)), .val (.long ((16 : Int64) + (r3 * (4 : Int64)))), .second, .unset, .unset]) X2.here hx (hb hby d1_39) rfl rfl ?_
    refine g_lload (q := 43) X2.here hx (hb hby d1_41) rfl rfl ?_
    refine g_callSJ (q := 46) X2 hx hZ hown (hw _ (List.mem_of_getElem? (i := 14) rfl)) (hw _ (List.mem_of_getElem? (i := 15) rfl)) (hw _ (List.mem_of_getElem? (i := 16) rfl)) (hw _ (List.mem_of_getElem? (i := 17) rfl)) (by decide) (rm3 l Z a0 hw [] ((16 : Int64) + (r3 * (4 : Int64))) h0 n0 Z0 (by (try simp only [Int32.reduceToInt, Int64.reduceToInt, true_and, and_true, not_true_eq_false, not_false_eq_true, false_and, or_false, false_or] at c1); (try simp only [Int32.reduceToInt, Int64.reduceToInt, true_and, and_true, not_true_eq_false, not_false_eq_true, false_and, or_false, false_or] at hr3); (try simp only [Int32.reduceToInt, Int64.reduceToInt, true_and, and_true, not_true_eq_false, not_false_eq_true, false_and, or_false, false_or] at hln); (try simp only [Int32.reduceToInt, Int64.reduceToInt, true_and, and_true, not_true_eq_false, not_false_eq_true, false_and, or_false, false_or] at hnd); have f1 := rng64 nd; (try simp only [Int32.reduceToInt, Int64.reduceToInt] at f1); have f5 := rng32 ln; (try simp only [Int32.reduceToInt, Int64.reduceToInt] at f5); have f6 := c_i2l ln; (try simp only [Int32.reduceToInt, Int64.reduceToInt] at f6); have f7 := rng64 ((2 : Int64) * ln.toInt64); (try simp only [Int32.reduceToInt, Int64.reduceToInt] at f7); have f8 := c_lmul (2 : Int64) ln.toInt64; (try simp only [Int32.reduceToInt, Int64.reduceToInt] at f8); (try have f8e : ((2 : Int64) * ln.toInt64).toInt = (2 : Int) * ln.toInt64.toInt := (by omega)); have f12 := rng64 r3; (try simp only [Int32.reduceToInt, Int64.reduceToInt] at f12); have f13 := rng64 (r3 * (4 : Int64)); (try simp only [Int32.reduceToInt, Int64.reduceToInt] at f13); have f14 := c_lmul r3 (4 : Int64); (try simp only [Int32.reduceToInt, Int64.reduceToInt] at f14); (try have f14e : (r3 * (4 : Int64)).toInt = r3.toInt * (4 : Int) := (by omega)); have f15 := rng64 ((16 : Int64) + (r3 * (4 : Int64))); (try simp only [Int32.reduceToInt, Int64.reduceToInt] at f15); have f16 := c_ladd (16 : Int64) (r3 * (4 : Int64)); (try simp only [Int32.reduceToInt, Int64.reduceToInt] at f16); (try have f16e : ((16 : Int64) + (r3 * (4 : Int64))).toInt = (16 : Int) + (r3 * (4 : Int64)).toInt := (by omega)); (try simp only [Int32.reduceToInt, Int64.reduceToInt, and_true, true_and, or_true, true_or]); (first | done | omega))) (argsL := [.long ((16 : Int64) + (r3 * (4 : Int64)))]) (rest := []) pd_3 rfl rfl rfl (hb hby d1_43) rfl (by rw [hml]; rfl) e2 (by decide) (W := 0) rfl (by decide) rfl rfl (by decide) (by decide) ?_
    intro T4 r5 X4 e4 hr5
    refine g_lload (q := 48) X4.here hx (hb hby d1_46) rfl rfl ?_
    refine g_lcmp_ne (q := 57) (q1 := 49) (q0 := 52) X4.here hx (hb hby d1_48) rfl (hb hby d1_49) (by decide) (by decide) rfl ?_ ?_
    · intro c6
      refine g_lload (q := 59) X4.here hx (hb hby d1_57) rfl rfl ?_
      refine g_callSJ (q := 62) X4 hx hZ hown (hw _ (List.mem_of_getElem? (i := 14) rfl)) (hw _ (List.mem_of_getElem? (i := 15) rfl)) (hw _ (List.mem_of_getElem? (i := 16) rfl)) (hw _ (List.mem_of_getElem? (i := 17) rfl)) (by decide) (rm3 l Z a0 hw [] ((16 : Int64) + (r3 * (4 : Int64))) h0 n0 Z0 (by (try simp only [Int32.reduceToInt, Int64.reduceToInt, true_and, and_true, not_true_eq_false, not_false_eq_true, false_and, or_false, false_or] at c1); (try simp only [Int32.reduceToInt, Int64.reduceToInt, true_and, and_true, not_true_eq_false, not_false_eq_true, false_and, or_false, false_or] at hr3); (try simp only [Int32.reduceToInt, Int64.reduceToInt, true_and, and_true, not_true_eq_false, not_false_eq_true, false_and, or_false, false_or] at hr5); (try simp only [Int32.reduceToInt, Int64.reduceToInt, true_and, and_true, not_true_eq_false, not_false_eq_true, false_and, or_false, false_or] at c6); (try simp only [Int32.reduceToInt, Int64.reduceToInt, true_and, and_true, not_true_eq_false, not_false_eq_true, false_and, or_false, false_or] at hln); (try simp only [Int32.reduceToInt, Int64.reduceToInt, true_and, and_true, not_true_eq_false, not_false_eq_true, false_and, or_false, false_or] at hnd); have f1 := rng64 nd; (try simp only [Int32.reduceToInt, Int64.reduceToInt] at f1); have f5 := rng32 ln; (try simp only [Int32.reduceToInt, Int64.reduceToInt] at f5); have f6 := c_i2l ln; (try simp only [Int32.reduceToInt, Int64.reduceToInt] at f6); have f7 := rng64 ((2 : Int64) * ln.toInt64); (try simp only [Int32.reduceToInt, Int64.reduceToInt] at f7); have f8 := c_lmul (2 : Int64) ln.toInt64; (try simp only [Int32.reduceToInt, Int64.reduceToInt] at f8); (try have f8e : ((2 : Int64) * ln.toInt64).toInt = (2 : Int) * ln.toInt64.toInt := (by omega)); have f12 := rng64 r3; (try simp only [Int32.reduceToInt, Int64.reduceToInt] at f12); have f13 := rng64 (r3 * (4 : Int64)); (try simp only [Int32.reduceToInt, Int64.reduceToInt] at f13); have f14 := c_lmul r3 (4 : Int64); (try simp only [Int32.reduceToInt, Int64.reduceToInt] at f14); (try have f14e : (r3 * (4 : Int64)).toInt = r3.toInt * (4 : Int) := (by omega)); have f15 := rng64 ((16 : Int64) + (r3 * (4 : Int64))); (try simp only [Int32.reduceToInt, Int64.reduceToInt] at f15); have f16 := c_ladd (16 : Int64) (r3 * (4 : Int64)); (try simp only [Int32.reduceToInt, Int64.reduceToInt] at f16); (try have f16e : ((16 : Int64) + (r3 * (4 : Int64))).toInt = (16 : Int) + (r3 * (4 : Int64)).toInt := (by omega)); have f18 := rng64 r5; (try simp only [Int32.reduceToInt, Int64.reduceToInt] at f18); (try simp only [Int32.reduceToInt, Int64.reduceToInt, and_true, true_and, or_true, true_or]); (first | done | omega))) (argsL := [.long ((16 : Int64) + (r3 * (4 : Int64)))]) (rest := []) pd_3 rfl rfl rfl (hb hby d1_59) rfl (by rw [hml]; rfl) e4 (by decide) (W := 0) rfl (by decide) rfl rfl (by decide) (by decide) ?_
      intro T7 r8 X7 e7 hr8
      refine g_iconst (q := 63) (v := (1 : Int32)) X7.here hx (hb hby d1_62) rfl rfl ?_
      refine g_lshl (q := 64) X7.here hx (hb hby d1_63) rfl ?_
      refine g_lstore (q := 66) (L' := #[.val (.int ln), .val (.long nd), .second, .val (.int (4 : Int32)), .val (.long ((16 : Int64) + (r3 * (4 : Int64)))), .second, .val (.long (r8 <<< ((1 : Int32) &&& 0x3f).toInt64)), .second]) X7.here hx (hb hby d1_64) rfl rfl ?_
      refine g_ldc2J (q := 69) X7 hx hZ hown (hw _ (List.mem_of_getElem? (i := 7) rfl)) (hb hby d1_66) rfl ?_
      refine g_lload (q := 71) X7.here hx (hb hby d1_69) rfl rfl ?_
      refine g_ldc2J (q := 74) X7 hx hZ hown (hw _ (List.mem_of_getElem? (i := 8) rfl)) (hb hby d1_71) rfl ?_
      refine g_lsub (q := 75) X7.here hx (hb hby d1_74) rfl ?_
      refine g_iloadN (q := 76) X7.here hx (hb hby d1_75) rfl rfl ?_
      refine g_i2l (q := 77) X7.here hx (hb hby d1_76) rfl ?_
      rw [show (4 : Int32).toInt64 = (4 : Int64) from by decide]
      refine g_ldiv (q := 78) X7.here hx (hb hby d1_77) (by decide) rfl ?_
      refine g_callSJ (q := 81) X7 hx hZ hown (hw _ (List.mem_of_getElem? (i := 27) rfl)) (hw _ (List.mem_of_getElem? (i := 28) rfl)) (hw _ (List.mem_of_getElem? (i := 12) rfl)) (hw _ (List.mem_of_getElem? (i := 29) rfl)) (by decide) (rm6 l Z a0 hw [] (2147483639 : Int64) (((r8 <<< ((1 : Int32) &&& 0x3f).toInt64) - (16 : Int64)) / (4 : Int64)) h0 n0 Z0) (argsL := [.long (2147483639 : Int64), .long (((r8 <<< ((1 : Int32) &&& 0x3f).toInt64) - (16 : Int64)) / (4 : Int64))]) (rest := []) pd_2 rfl rfl rfl (hb hby d1_78) rfl (by rw [hml]; rfl) e7 (by decide) (W := 0) rfl (by decide) rfl rfl (by decide) (by decide) ?_
      intro T9 r10 X9 e9 hr10
      refine g_l2i (q := 82) X9.here hx (hb hby d1_81) rfl ?_
      exact g_ireturn X9 hx hlk hrt (hb hby d1_82) (by decide) (by decide) ⟨_, rfl, own_grt_4 hln hnd hr3 hr8 hr5 c6 hr10, e9, rfl⟩
    · intro c6
      refine g_lload (q := 54) X4.here hx (hb hby d1_52) rfl rfl ?_
      refine g_goto (q := 64) X4.here hx (hb hby d1_54) (by decide) (by decide) ?_
      refine g_lstore (q := 66) (L' := #[.val (.int ln), .val (.long nd), .second, .val (.int (4 : Int32)), .val (.long ((16 : Int64) + (r3 * (4 : Int64)))), .second, .val (.long ((16 : Int64) + (r3 * (4 : Int64)))), .second]) X4.here hx (hb hby d1_64) rfl rfl ?_
      refine g_ldc2J (q := 69) X4 hx hZ hown (hw _ (List.mem_of_getElem? (i := 7) rfl)) (hb hby d1_66) rfl ?_
      refine g_lload (q := 71) X4.here hx (hb hby d1_69) rfl rfl ?_
      refine g_ldc2J (q := 74) X4 hx hZ hown (hw _ (List.mem_of_getElem? (i := 8) rfl)) (hb hby d1_71) rfl ?_
      refine g_lsub (q := 75) X4.here hx (hb hby d1_74) rfl ?_
      refine g_iloadN (q := 76) X4.here hx (hb hby d1_75) rfl rfl ?_
      refine g_i2l (q := 77) X4.here hx (hb hby d1_76) rfl ?_
      rw [show (4 : Int32).toInt64 = (4 : Int64) from by decide]
      refine g_ldiv (q := 78) X4.here hx (hb hby d1_77) (by decide) rfl ?_
      refine g_callSJ (q := 81) X4 hx hZ hown (hw _ (List.mem_of_getElem? (i := 27) rfl)) (hw _ (List.mem_of_getElem? (i := 28) rfl)) (hw _ (List.mem_of_getElem? (i := 12) rfl)) (hw _ (List.mem_of_getElem? (i := 29) rfl)) (by decide) (rm6 l Z a0 hw [] (2147483639 : Int64) ((((16 : Int64) + (r3 * (4 : Int64))) - (16 : Int64)) / (4 : Int64)) h0 n0 Z0) (argsL := [.long (2147483639 : Int64), .long ((((16 : Int64) + (r3 * (4 : Int64))) - (16 : Int64)) / (4 : Int64))]) (rest := []) pd_2 rfl rfl rfl (hb hby d1_78) rfl (by rw [hml]; rfl) e4 (by decide) (W := 0) rfl (by decide) rfl rfl (by decide) (by decide) ?_
      intro T11 r12 X11 e11 hr12
      refine g_l2i (q := 82) X11.here hx (hb hby d1_81) rfl ?_
      exact g_ireturn X11 hx hlk hrt (hb hby d1_82) (by decide) (by decide) ⟨_, rfl, own_grf_4 hln hnd hr3 hr5 (by have h6 := c6; first | exact h6 | omega) hr12, e11, rfl⟩
  · intro c1
    exfalso; (try simp only [Int32.reduceToInt, Int64.reduceToInt, true_and, and_true, not_true_eq_false, not_false_eq_true, false_and, or_false, false_or] at c1); (try simp only [Int32.reduceToInt, Int64.reduceToInt, true_and, and_true, not_true_eq_false, not_false_eq_true, false_and, or_false, false_or] at hnd); have f1 := rng64 nd; (try simp only [Int32.reduceToInt, Int64.reduceToInt] at f1); (try simp only [Int32.reduceToInt, Int64.reduceToInt, and_true, true_and, or_true, true_or]); (first | done | omega)
theorem own_grt_8 {ln : Int32} {nd r3 r5 r8 r10 : Int64} (hln : 0 ≤ ln.toInt) (hnd : 0 ≤ nd.toInt ∧ nd.toInt ≤ 2147483639) (hr3 : nd.toInt ≤ r3.toInt ∧ ((2 : Int64) * ln.toInt64).toInt ≤ r3.toInt ∧ (r3.toInt = nd.toInt ∨ r3.toInt = ((2 : Int64) * ln.toInt64).toInt)) (hr8 : ∃ k : Nat, k ≤ 62 ∧ r8.toInt = 2 ^ k ∧ (2 : Int) ^ k ≤ ((16 : Int64) + (r3 * (8 : Int64))).toInt ∧ ((16 : Int64) + (r3 * (8 : Int64))).toInt < 2 ^ (k + 1)) (hr5 : ∃ k : Nat, k ≤ 62 ∧ r5.toInt = 2 ^ k ∧ (2 : Int) ^ k ≤ ((16 : Int64) + (r3 * (8 : Int64))).toInt ∧ ((16 : Int64) + (r3 * (8 : Int64))).toInt < 2 ^ (k + 1)) (c6 : ¬ r5.toInt = ((16 : Int64) + (r3 * (8 : Int64))).toInt) (hr10 : r10.toInt ≤ (2147483639 : Int64).toInt ∧ r10.toInt ≤ (((r8 <<< ((1 : Int32) &&& 0x3f).toInt64) - (16 : Int64)) / (8 : Int64)).toInt ∧ (r10.toInt = (2147483639 : Int64).toInt ∨ r10.toInt = (((r8 <<< ((1 : Int32) &&& 0x3f).toInt64) - (16 : Int64)) / (8 : Int64)).toInt)) : ∃ (k : Nat) (mx : Int), 4 ≤ k ∧ k ≤ 37 ∧ nd.toInt ≤ mx ∧ 2 * ln.toInt ≤ mx ∧ (mx = nd.toInt ∨ mx = 2 * ln.toInt) ∧ 16 + mx * 8 ≤ 2 ^ k ∧ (2 : Int) ^ k < 2 * (16 + mx * 8) ∧ ((r10.toInt32.toInt = 2147483639 ∧ 2147483639 ≤ ((2 : Int) ^ k - 16) / 8) ∨ (r10.toInt32.toInt = ((2 : Int) ^ k - 16) / 8 ∧ ((2 : Int) ^ k - 16) / 8 < 2147483639)) := by
  have e1 : ((2 : Int64) * ln.toInt64).toInt = 2 * ln.toInt := (by have f3 := rng32 ln; (try simp only [Int32.reduceToInt, Int64.reduceToInt] at f3); have f4 := c_i2l ln; (try simp only [Int32.reduceToInt, Int64.reduceToInt] at f4); have f5 := rng64 ((2 : Int64) * ln.toInt64); (try simp only [Int32.reduceToInt, Int64.reduceToInt] at f5); have f6 := c_lmul (2 : Int64) ln.toInt64; (try simp only [Int32.reduceToInt, Int64.reduceToInt] at f6); (try have f6e : ((2 : Int64) * ln.toInt64).toInt = (2 : Int) * ln.toInt64.toInt := (by omega)); omega)
  rw [e1] at hr3
  have g0 := rng32 ln
  have b3 : 0 ≤ r3.toInt ∧ r3.toInt ≤ 4294967294 := (by omega)
  have e2 : ((16 : Int64) + (r3 * (8 : Int64))).toInt = 16 + r3.toInt * 8 := (by have f3 := rng64 r3; (try simp only [Int32.reduceToInt, Int64.reduceToInt] at f3); have f4 := rng64 (r3 * (8 : Int64)); (try simp only [Int32.reduceToInt, Int64.reduceToInt] at f4); have f5 := c_lmul r3 (8 : Int64); (try simp only [Int32.reduceToInt, Int64.reduceToInt] at f5); (try have f5e : (r3 * (8 : Int64)).toInt = r3.toInt * (8 : Int) := (by omega)); have f6 := rng64 ((16 : Int64) + (r3 * (8 : Int64))); (try simp only [Int32.reduceToInt, Int64.reduceToInt] at f6); have f7 := c_ladd (16 : Int64) (r3 * (8 : Int64)); (try simp only [Int32.reduceToInt, Int64.reduceToInt] at f7); (try have f7e : ((16 : Int64) + (r3 * (8 : Int64))).toInt = (16 : Int) + (r3 * (8 : Int64)).toInt := (by omega)); omega)
  rw [e2] at hr8
  obtain ⟨k, q0, q1, q2, q3⟩ := hr8
  rw [e2] at hr5 c6
  obtain ⟨k', p0, p1, p2, p3⟩ := hr5
  have hkk := own_pu q2 q3 p2 p3
  rw [← hkk] at p1
  rw [p1] at c6
  clear p0 p1 p2 p3 hkk
  have hpow : (2 : Int) ^ (k + 1) = 2 * 2 ^ k := (by rw [Int.pow_succ, Int.mul_comm])
  rw [hpow] at q3
  have q4 : 3 ≤ k := (by rcases Nat.lt_or_ge k 3 with h | h; exfalso; have h5 := own_powle (show k ≤ 2 by omega); omega; exact h)
  have q5 : k ≤ 36 := (by rcases Nat.lt_or_ge k 37 with h | h; omega; exfalso; have h5 := own_powle h; omega)
  have hM : (2147483639 : Int64).toInt = 2147483639 := (by decide)
  rw [hM] at hr10
  generalize hP : (2 : Int) ^ k = P at *
  have e3 : (((r8 <<< ((1 : Int32) &&& 0x3f).toInt64) - (16 : Int64)) / (8 : Int64)).toInt = (2 * P - 16) / 8 := (by have f4 := rng64 r8; (try simp only [Int32.reduceToInt, Int64.reduceToInt] at f4); have f5 := rng64 (r8 <<< ((1 : Int32) &&& 0x3f).toInt64); (try simp only [Int32.reduceToInt, Int64.reduceToInt] at f5); have f6 := c_lshl r8 (1 : Int32) 1 (by decide); (try simp only [Int32.reduceToInt, Int64.reduceToInt] at f6); (try have f6e : (r8 <<< ((1 : Int32) &&& 0x3f).toInt64).toInt = r8.toInt * 2 := (by omega)); have f7 := rng64 ((r8 <<< ((1 : Int32) &&& 0x3f).toInt64) - (16 : Int64)); (try simp only [Int32.reduceToInt, Int64.reduceToInt] at f7); have f8 := c_lsub (r8 <<< ((1 : Int32) &&& 0x3f).toInt64) (16 : Int64); (try simp only [Int32.reduceToInt, Int64.reduceToInt] at f8); (try have f8e : ((r8 <<< ((1 : Int32) &&& 0x3f).toInt64) - (16 : Int64)).toInt = (r8 <<< ((1 : Int32) &&& 0x3f).toInt64).toInt - (16 : Int) := (by omega)); have f9 := rng64 (((r8 <<< ((1 : Int32) &&& 0x3f).toInt64) - (16 : Int64)) / (8 : Int64)); (try simp only [Int32.reduceToInt, Int64.reduceToInt] at f9); have f10 := c_ldiv ((r8 <<< ((1 : Int32) &&& 0x3f).toInt64) - (16 : Int64)) (8 : Int64) 8 (by decide) (by decide); (try simp only [Int32.reduceToInt, Int64.reduceToInt] at f10); (try have f10e : (((r8 <<< ((1 : Int32) &&& 0x3f).toInt64) - (16 : Int64)) / (8 : Int64)).toInt = ((r8 <<< ((1 : Int32) &&& 0x3f).toInt64) - (16 : Int64)).toInt / 8 := (by omega)); omega)
  rw [e3] at hr10
  have e4 : r10.toInt32.toInt = r10.toInt := (by have f2 := rng64 r10; (try simp only [Int32.reduceToInt, Int64.reduceToInt] at f2); have f3 := rng32 r10.toInt32; (try simp only [Int32.reduceToInt, Int64.reduceToInt] at f3); have f4 := c_l2i r10; (try simp only [Int32.reduceToInt, Int64.reduceToInt] at f4); (try have f4e : r10.toInt32.toInt = r10.toInt := (by omega)); omega)
  rw [e4]
  refine ⟨k + 1, r3.toInt, by omega, by omega, by omega, by omega, by omega, ?_⟩
  rw [hpow]
  refine ⟨by omega, by omega, ?_⟩
  rcases Int.lt_or_le ((2 * P - 16) / 8) 2147483639 with h | h
  · right; constructor; omega; exact h
  · left; constructor; omega; exact h
theorem own_grf_8 {ln : Int32} {nd r3 r8 r10 : Int64} (hln : 0 ≤ ln.toInt) (hnd : 0 ≤ nd.toInt ∧ nd.toInt ≤ 2147483639) (hr3 : nd.toInt ≤ r3.toInt ∧ ((2 : Int64) * ln.toInt64).toInt ≤ r3.toInt ∧ (r3.toInt = nd.toInt ∨ r3.toInt = ((2 : Int64) * ln.toInt64).toInt)) (hr8 : ∃ k : Nat, k ≤ 62 ∧ r8.toInt = 2 ^ k ∧ (2 : Int) ^ k ≤ ((16 : Int64) + (r3 * (8 : Int64))).toInt ∧ ((16 : Int64) + (r3 * (8 : Int64))).toInt < 2 ^ (k + 1)) (c6 : r8.toInt = ((16 : Int64) + (r3 * (8 : Int64))).toInt) (hr10 : r10.toInt ≤ (2147483639 : Int64).toInt ∧ r10.toInt ≤ ((((16 : Int64) + (r3 * (8 : Int64))) - (16 : Int64)) / (8 : Int64)).toInt ∧ (r10.toInt = (2147483639 : Int64).toInt ∨ r10.toInt = ((((16 : Int64) + (r3 * (8 : Int64))) - (16 : Int64)) / (8 : Int64)).toInt)) : ∃ (k : Nat) (mx : Int), 4 ≤ k ∧ k ≤ 37 ∧ nd.toInt ≤ mx ∧ 2 * ln.toInt ≤ mx ∧ (mx = nd.toInt ∨ mx = 2 * ln.toInt) ∧ 16 + mx * 8 ≤ 2 ^ k ∧ (2 : Int) ^ k < 2 * (16 + mx * 8) ∧ ((r10.toInt32.toInt = 2147483639 ∧ 2147483639 ≤ ((2 : Int) ^ k - 16) / 8) ∨ (r10.toInt32.toInt = ((2 : Int) ^ k - 16) / 8 ∧ ((2 : Int) ^ k - 16) / 8 < 2147483639)) := by
  have e1 : ((2 : Int64) * ln.toInt64).toInt = 2 * ln.toInt := (by have f3 := rng32 ln; (try simp only [Int32.reduceToInt, Int64.reduceToInt] at f3); have f4 := c_i2l ln; (try simp only [Int32.reduceToInt, Int64.reduceToInt] at f4); have f5 := rng64 ((2 : Int64) * ln.toInt64); (try simp only [Int32.reduceToInt, Int64.reduceToInt] at f5); have f6 := c_lmul (2 : Int64) ln.toInt64; (try simp only [Int32.reduceToInt, Int64.reduceToInt] at f6); (try have f6e : ((2 : Int64) * ln.toInt64).toInt = (2 : Int) * ln.toInt64.toInt := (by omega)); omega)
  rw [e1] at hr3
  have g0 := rng32 ln
  have b3 : 0 ≤ r3.toInt ∧ r3.toInt ≤ 4294967294 := (by omega)
  have e2 : ((16 : Int64) + (r3 * (8 : Int64))).toInt = 16 + r3.toInt * 8 := (by have f3 := rng64 r3; (try simp only [Int32.reduceToInt, Int64.reduceToInt] at f3); have f4 := rng64 (r3 * (8 : Int64)); (try simp only [Int32.reduceToInt, Int64.reduceToInt] at f4); have f5 := c_lmul r3 (8 : Int64); (try simp only [Int32.reduceToInt, Int64.reduceToInt] at f5); (try have f5e : (r3 * (8 : Int64)).toInt = r3.toInt * (8 : Int) := (by omega)); have f6 := rng64 ((16 : Int64) + (r3 * (8 : Int64))); (try simp only [Int32.reduceToInt, Int64.reduceToInt] at f6); have f7 := c_ladd (16 : Int64) (r3 * (8 : Int64)); (try simp only [Int32.reduceToInt, Int64.reduceToInt] at f7); (try have f7e : ((16 : Int64) + (r3 * (8 : Int64))).toInt = (16 : Int) + (r3 * (8 : Int64)).toInt := (by omega)); omega)
  rw [e2] at hr8
  obtain ⟨k, q0, q1, q2, q3⟩ := hr8
  have hpow : (2 : Int) ^ (k + 1) = 2 * 2 ^ k := (by rw [Int.pow_succ, Int.mul_comm])
  rw [hpow] at q3
  have q4 : 3 ≤ k := (by rcases Nat.lt_or_ge k 3 with h | h; exfalso; have h5 := own_powle (show k ≤ 2 by omega); omega; exact h)
  have q5 : k ≤ 36 := (by rcases Nat.lt_or_ge k 37 with h | h; omega; exfalso; have h5 := own_powle h; omega)
  have hM : (2147483639 : Int64).toInt = 2147483639 := (by decide)
  rw [hM] at hr10
  rw [e2] at c6
  have q6 : k ≠ 3 := (fun h => by rw [h] at q1 q2 q3; omega)
  generalize hP : (2 : Int) ^ k = P at *
  have e3 : ((((16 : Int64) + (r3 * (8 : Int64))) - (16 : Int64)) / (8 : Int64)).toInt = (P - 16) / 8 := (by have f5 := rng64 r3; (try simp only [Int32.reduceToInt, Int64.reduceToInt] at f5); have f6 := rng64 (r3 * (8 : Int64)); (try simp only [Int32.reduceToInt, Int64.reduceToInt] at f6); have f7 := c_lmul r3 (8 : Int64); (try simp only [Int32.reduceToInt, Int64.reduceToInt] at f7); (try have f7e : (r3 * (8 : Int64)).toInt = r3.toInt * (8 : Int) := (by omega)); have f8 := rng64 ((16 : Int64) + (r3 * (8 : Int64))); (try simp only [Int32.reduceToInt, Int64.reduceToInt] at f8); have f9 := c_ladd (16 : Int64) (r3 * (8 : Int64)); (try simp only [Int32.reduceToInt, Int64.reduceToInt] at f9); (try have f9e : ((16 : Int64) + (r3 * (8 : Int64))).toInt = (16 : Int) + (r3 * (8 : Int64)).toInt := (by omega)); have f10 := rng64 (((16 : Int64) + (r3 * (8 : Int64))) - (16 : Int64)); (try simp only [Int32.reduceToInt, Int64.reduceToInt] at f10); have f11 := c_lsub ((16 : Int64) + (r3 * (8 : Int64))) (16 : Int64); (try simp only [Int32.reduceToInt, Int64.reduceToInt] at f11); (try have f11e : (((16 : Int64) + (r3 * (8 : Int64))) - (16 : Int64)).toInt = ((16 : Int64) + (r3 * (8 : Int64))).toInt - (16 : Int) := (by omega)); have f12 := rng64 ((((16 : Int64) + (r3 * (8 : Int64))) - (16 : Int64)) / (8 : Int64)); (try simp only [Int32.reduceToInt, Int64.reduceToInt] at f12); have f13 := c_ldiv (((16 : Int64) + (r3 * (8 : Int64))) - (16 : Int64)) (8 : Int64) 8 (by decide) (by decide); (try simp only [Int32.reduceToInt, Int64.reduceToInt] at f13); (try have f13e : ((((16 : Int64) + (r3 * (8 : Int64))) - (16 : Int64)) / (8 : Int64)).toInt = (((16 : Int64) + (r3 * (8 : Int64))) - (16 : Int64)).toInt / 8 := (by omega)); omega)
  rw [e3] at hr10
  have e4 : r10.toInt32.toInt = r10.toInt := (by have f2 := rng64 r10; (try simp only [Int32.reduceToInt, Int64.reduceToInt] at f2); have f3 := rng32 r10.toInt32; (try simp only [Int32.reduceToInt, Int64.reduceToInt] at f3); have f4 := c_l2i r10; (try simp only [Int32.reduceToInt, Int64.reduceToInt] at f4); (try have f4e : r10.toInt32.toInt = r10.toInt := (by omega)); omega)
  rw [e4]
  refine ⟨k, r3.toInt, by omega, by omega, by omega, by omega, by omega, ?_⟩
  rw [hP]
  refine ⟨by omega, by omega, ?_⟩
  rcases Int.lt_or_le ((P - 16) / 8) 2147483639 with h | h
  · right; constructor; omega; exact h
  · left; constructor; omega; exact h
def RM_rm1_8 : Room := ({ frames := 3, cells := 0, slots := 0, locals := 45 } : Room)
set_option maxRecDepth 65536 in
set_option maxHeartbeats 40000000 in
theorem rm1_8 (l : Launch) (Z : State) (a0 : Array Value) (hw : ∀ d ∈ tables_1, d.before a0 Z = true) (ws : List Jvm.Cond) (ln : Int32) (nd : Int64) (h0 : Heap) (n0 : Nat) (Z0 : n0 ≤ h0.size) (hln : 0 ≤ ln.toInt) (hnd : 0 ≤ nd.toInt ∧ nd.toInt ≤ 2147483639) :
    Ctr l Z (⟨"com/example/vestline/vestline/number/Growth", "grown", "(IJI)I"⟩ : MethodName) prog_67_method_2_code 8 (some .int) RM_rm1_8 ws #[.int ln, .long nd, .int (8 : Int32)] h0 (IQ (fun r => ∃ (k : Nat) (mx : Int), 4 ≤ k ∧ k ≤ 37 ∧ nd.toInt ≤ mx ∧ 2 * ln.toInt ≤ mx ∧ (mx = nd.toInt ∨ mx = 2 * ln.toInt) ∧ 16 + mx * 8 ≤ 2 ^ k ∧ (2 : Int) ^ k < 2 * (16 + mx * 8) ∧ ((r.toInt = 2147483639 ∧ 2147483639 ≤ ((2 : Int) ^ k - 16) / 8) ∨ (r.toInt = ((2 : Int) ^ k - 16) / 8 ∧ ((2 : Int) ^ k - 16) / 8 < 2147483639))) h0) := by
  refine Ctr.of (plainFor_of_name pn_4) ?_
  intro p e s m below meth c s₁ hx hby hml hrt hlk hnm hown hZ X0 e0
  have N0 := Fr.nil n0
  refine Go.cast (ef_1 m ln nd (8 : Int32)) ?_
  refine g_lloadN (q := 1) X0.here hx (hb hby d1_0) rfl rfl ?_
  refine g_ldc2J (q := 4) X0 hx hZ hown (hw _ (List.mem_of_getElem? (i := 7) rfl)) (hb hby d1_1) rfl ?_
  refine g_lcmp_le (q := 22) (q1 := 5) (q0 := 8) X0.here hx (hb hby d1_4) rfl (hb hby d1_5) (by decide) (by decide) rfl ?_ ?_
  · intro c1
    refine g_ldc2J (q := 25) X0 hx hZ hown (hw _ (List.mem_of_getElem? (i := 8) rfl)) (hb hby d1_22) rfl ?_
    refine g_lloadN (q := 26) X0.here hx (hb hby d1_25) rfl rfl ?_
    refine g_ldc2J (q := 29) X0 hx hZ hown (hw _ (List.mem_of_getElem? (i := 9) rfl)) (hb hby d1_26) rfl ?_
    refine g_iloadN (q := 30) X0.here hx (hb hby d1_29) rfl rfl ?_
    refine g_i2l (q := 31) X0.here hx (hb hby d1_30) rfl ?_
    refine g_lmul (q := 32) X0.here hx (hb hby d1_31) rfl ?_
    refine g_callSJ (q := 35) X0 hx hZ hown (hw _ (List.mem_of_getElem? (i := 10) rfl)) (hw _ (List.mem_of_getElem? (i := 11) rfl)) (hw _ (List.mem_of_getElem? (i := 12) rfl)) (hw _ (List.mem_of_getElem? (i := 13) rfl)) (by decide) (rm2 l Z a0 hw [] nd ((2 : Int64) * ln.toInt64) h0 n0 Z0) (argsL := [.long nd, .long ((2 : Int64) * ln.toInt64)]) (rest := [.long (16 : Int64)]) pd_2 rfl rfl rfl (hb hby d1_32) rfl (by rw [hml]; rfl) e0 (by decide) (W := 2) rfl (by decide) rfl rfl (by decide) (by decide) ?_
    intro T2 r3 X2 e2 hr3
    refine g_iloadN (q := 36) X2.here hx (hb hby d1_35) rfl rfl ?_
    refine g_i2l (q := 37) X2.here hx (hb hby d1_36) rfl ?_
    rw [show (8 : Int32).toInt64 = (8 : Int64) from by decide]
    refine g_lmul (q := 38) X2.here hx (hb hby d1_37) rfl ?_
    refine g_ladd (q := 39) X2.here hx (hb hby d1_38) rfl ?_
    refine g_lstore (q := 41) (L' := #[.val (.int ln), .val (.long nd), .second, .val (.int (8 : Int32)), .val (.long ((16 : Int64) + (r3 * (8 : Int64)))), .second, .unset, .unset]) X2.here hx (hb hby d1_39) rfl rfl ?_
    refine g_lload (q := 43) X2.here hx (hb hby d1_41) rfl rfl ?_
    refine g_callSJ (q := 46) X2 hx hZ hown (hw _ (List.mem_of_getElem? (i := 14) rfl)) (hw _ (List.mem_of_getElem? (i := 15) rfl)) (hw _ (List.mem_of_getElem? (i := 16) rfl)) (hw _ (List.mem_of_getElem? (i := 17) rfl)) (by decide) (rm3 l Z a0 hw [] ((16 : Int64) + (r3 * (8 : Int64))) h0 n0 Z0 (by (try simp only [Int32.reduceToInt, Int64.reduceToInt, true_and, and_true, not_true_eq_false, not_false_eq_true, false_and, or_false, false_or] at c1); (try simp only [Int32.reduceToInt, Int64.reduceToInt, true_and, and_true, not_true_eq_false, not_false_eq_true, false_and, or_false, false_or] at hr3); (try simp only [Int32.reduceToInt, Int64.reduceToInt, true_and, and_true, not_true_eq_false, not_false_eq_true, false_and, or_false, false_or] at hln); (try simp only [Int32.reduceToInt, Int64.reduceToInt, true_and, and_true, not_true_eq_false, not_false_eq_true, false_and, or_false, false_or] at hnd); have f1 := rng64 nd; (try simp only [Int32.reduceToInt, Int64.reduceToInt] at f1); have f5 := rng32 ln; (try simp only [Int32.reduceToInt, Int64.reduceToInt] at f5); have f6 := c_i2l ln; (try simp only [Int32.reduceToInt, Int64.reduceToInt] at f6); have f7 := rng64 ((2 : Int64) * ln.toInt64); (try simp only [Int32.reduceToInt, Int64.reduceToInt] at f7); have f8 := c_lmul (2 : Int64) ln.toInt64; (try simp only [Int32.reduceToInt, Int64.reduceToInt] at f8); (try have f8e : ((2 : Int64) * ln.toInt64).toInt = (2 : Int) * ln.toInt64.toInt := (by omega)); have f12 := rng64 r3; (try simp only [Int32.reduceToInt, Int64.reduceToInt] at f12); have f13 := rng64 (r3 * (8 : Int64)); (try simp only [Int32.reduceToInt, Int64.reduceToInt] at f13); have f14 := c_lmul r3 (8 : Int64); (try simp only [Int32.reduceToInt, Int64.reduceToInt] at f14); (try have f14e : (r3 * (8 : Int64)).toInt = r3.toInt * (8 : Int) := (by omega)); have f15 := rng64 ((16 : Int64) + (r3 * (8 : Int64))); (try simp only [Int32.reduceToInt, Int64.reduceToInt] at f15); have f16 := c_ladd (16 : Int64) (r3 * (8 : Int64)); (try simp only [Int32.reduceToInt, Int64.reduceToInt] at f16); (try have f16e : ((16 : Int64) + (r3 * (8 : Int64))).toInt = (16 : Int) + (r3 * (8 : Int64)).toInt := (by omega)); (try simp only [Int32.reduceToInt, Int64.reduceToInt, and_true, true_and, or_true, true_or]); (first | done | omega))) (argsL := [.long ((16 : Int64) + (r3 * (8 : Int64)))]) (rest := []) pd_3 rfl rfl rfl (hb hby d1_43) rfl (by rw [hml]; rfl) e2 (by decide) (W := 0) rfl (by decide) rfl rfl (by decide) (by decide) ?_
    intro T4 r5 X4 e4 hr5
    refine g_lload (q := 48) X4.here hx (hb hby d1_46) rfl rfl ?_
    refine g_lcmp_ne (q := 57) (q1 := 49) (q0 := 52) X4.here hx (hb hby d1_48) rfl (hb hby d1_49) (by decide) (by decide) rfl ?_ ?_
    · intro c6
      refine g_lload (q := 59) X4.here hx (hb hby d1_57) rfl rfl ?_
      refine g_callSJ (q := 62) X4 hx hZ hown (hw _ (List.mem_of_getElem? (i := 14) rfl)) (hw _ (List.mem_of_getElem? (i := 15) rfl)) (hw _ (List.mem_of_getElem? (i := 16) rfl)) (hw _ (List.mem_of_getElem? (i := 17) rfl)) (by decide) (rm3 l Z a0 hw [] ((16 : Int64) + (r3 * (8 : Int64))) h0 n0 Z0 (by (try simp only [Int32.reduceToInt, Int64.reduceToInt, true_and, and_true, not_true_eq_false, not_false_eq_true, false_and, or_false, false_or] at c1); (try simp only [Int32.reduceToInt, Int64.reduceToInt, true_and, and_true, not_true_eq_false, not_false_eq_true, false_and, or_false, false_or] at hr3); (try simp only [Int32.reduceToInt, Int64.reduceToInt, true_and, and_true, not_true_eq_false, not_false_eq_true, false_and, or_false, false_or] at hr5); (try simp only [Int32.reduceToInt, Int64.reduceToInt, true_and, and_true, not_true_eq_false, not_false_eq_true, false_and, or_false, false_or] at c6); (try simp only [Int32.reduceToInt, Int64.reduceToInt, true_and, and_true, not_true_eq_false, not_false_eq_true, false_and, or_false, false_or] at hln); (try simp only [Int32.reduceToInt, Int64.reduceToInt, true_and, and_true, not_true_eq_false, not_false_eq_true, false_and, or_false, false_or] at hnd); have f1 := rng64 nd; (try simp only [Int32.reduceToInt, Int64.reduceToInt] at f1); have f5 := rng32 ln; (try simp only [Int32.reduceToInt, Int64.reduceToInt] at f5); have f6 := c_i2l ln; (try simp only [Int32.reduceToInt, Int64.reduceToInt] at f6); have f7 := rng64 ((2 : Int64) * ln.toInt64); (try simp only [Int32.reduceToInt, Int64.reduceToInt] at f7); have f8 := c_lmul (2 : Int64) ln.toInt64; (try simp only [Int32.reduceToInt, Int64.reduceToInt] at f8); (try have f8e : ((2 : Int64) * ln.toInt64).toInt = (2 : Int) * ln.toInt64.toInt := (by omega)); have f12 := rng64 r3; (try simp only [Int32.reduceToInt, Int64.reduceToInt] at f12); have f13 := rng64 (r3 * (8 : Int64)); (try simp only [Int32.reduceToInt, Int64.reduceToInt] at f13); have f14 := c_lmul r3 (8 : Int64); (try simp only [Int32.reduceToInt, Int64.reduceToInt] at f14); (try have f14e : (r3 * (8 : Int64)).toInt = r3.toInt * (8 : Int) := (by omega)); have f15 := rng64 ((16 : Int64) + (r3 * (8 : Int64))); (try simp only [Int32.reduceToInt, Int64.reduceToInt] at f15); have f16 := c_ladd (16 : Int64) (r3 * (8 : Int64)); (try simp only [Int32.reduceToInt, Int64.reduceToInt] at f16); (try have f16e : ((16 : Int64) + (r3 * (8 : Int64))).toInt = (16 : Int) + (r3 * (8 : Int64)).toInt := (by omega)); have f18 := rng64 r5; (try simp only [Int32.reduceToInt, Int64.reduceToInt] at f18); (try simp only [Int32.reduceToInt, Int64.reduceToInt, and_true, true_and, or_true, true_or]); (first | done | omega))) (argsL := [.long ((16 : Int64) + (r3 * (8 : Int64)))]) (rest := []) pd_3 rfl rfl rfl (hb hby d1_59) rfl (by rw [hml]; rfl) e4 (by decide) (W := 0) rfl (by decide) rfl rfl (by decide) (by decide) ?_
      intro T7 r8 X7 e7 hr8
      refine g_iconst (q := 63) (v := (1 : Int32)) X7.here hx (hb hby d1_62) rfl rfl ?_
      refine g_lshl (q := 64) X7.here hx (hb hby d1_63) rfl ?_
      refine g_lstore (q := 66) (L' := #[.val (.int ln), .val (.long nd), .second, .val (.int (8 : Int32)), .val (.long ((16 : Int64) + (r3 * (8 : Int64)))), .second, .val (.long (r8 <<< ((1 : Int32) &&& 0x3f).toInt64)), .second]) X7.here hx (hb hby d1_64) rfl rfl ?_
      refine g_ldc2J (q := 69) X7 hx hZ hown (hw _ (List.mem_of_getElem? (i := 7) rfl)) (hb hby d1_66) rfl ?_
      refine g_lload (q := 71) X7.here hx (hb hby d1_69) rfl rfl ?_
      refine g_ldc2J (q := 74) X7 hx hZ hown (hw _ (List.mem_of_getElem? (i := 8) rfl)) (hb hby d1_71) rfl ?_
      refine g_lsub (q := 75) X7.here hx (hb hby d1_74) rfl ?_
      refine g_iloadN (q := 76) X7.here hx (hb hby d1_75) rfl rfl ?_
      refine g_i2l (q := 77) X7.here hx (hb hby d1_76) rfl ?_
      rw [show (8 : Int32).toInt64 = (8 : Int64) from by decide]
      refine g_ldiv (q := 78) X7.here hx (hb hby d1_77) (by decide) rfl ?_
      refine g_callSJ (q := 81) X7 hx hZ hown (hw _ (List.mem_of_getElem? (i := 27) rfl)) (hw _ (List.mem_of_getElem? (i := 28) rfl)) (hw _ (List.mem_of_getElem? (i := 12) rfl)) (hw _ (List.mem_of_getElem? (i := 29) rfl)) (by decide) (rm6 l Z a0 hw [] (2147483639 : Int64) (((r8 <<< ((1 : Int32) &&& 0x3f).toInt64) - (16 : Int64)) / (8 : Int64)) h0 n0 Z0) (argsL := [.long (2147483639 : Int64), .long (((r8 <<< ((1 : Int32) &&& 0x3f).toInt64) - (16 : Int64)) / (8 : Int64))]) (rest := []) pd_2 rfl rfl rfl (hb hby d1_78) rfl (by rw [hml]; rfl) e7 (by decide) (W := 0) rfl (by decide) rfl rfl (by decide) (by decide) ?_
      intro T9 r10 X9 e9 hr10
      refine g_l2i (q := 82) X9.here hx (hb hby d1_81) rfl ?_
      exact g_ireturn X9 hx hlk hrt (hb hby d1_82) (by decide) (by decide) ⟨_, rfl, own_grt_8 hln hnd hr3 hr8 hr5 c6 hr10, e9, rfl⟩
    · intro c6
      refine g_lload (q := 54) X4.here hx (hb hby d1_52) rfl rfl ?_
      refine g_goto (q := 64) X4.here hx (hb hby d1_54) (by decide) (by decide) ?_
      refine g_lstore (q := 66) (L' := #[.val (.int ln), .val (.long nd), .second, .val (.int (8 : Int32)), .val (.long ((16 : Int64) + (r3 * (8 : Int64)))), .second, .val (.long ((16 : Int64) + (r3 * (8 : Int64)))), .second]) X4.here hx (hb hby d1_64) rfl rfl ?_
      refine g_ldc2J (q := 69) X4 hx hZ hown (hw _ (List.mem_of_getElem? (i := 7) rfl)) (hb hby d1_66) rfl ?_
      refine g_lload (q := 71) X4.here hx (hb hby d1_69) rfl rfl ?_
      refine g_ldc2J (q := 74) X4 hx hZ hown (hw _ (List.mem_of_getElem? (i := 8) rfl)) (hb hby d1_71) rfl ?_
      refine g_lsub (q := 75) X4.here hx (hb hby d1_74) rfl ?_
      refine g_iloadN (q := 76) X4.here hx (hb hby d1_75) rfl rfl ?_
      refine g_i2l (q := 77) X4.here hx (hb hby d1_76) rfl ?_
      rw [show (8 : Int32).toInt64 = (8 : Int64) from by decide]
      refine g_ldiv (q := 78) X4.here hx (hb hby d1_77) (by decide) rfl ?_
      refine g_callSJ (q := 81) X4 hx hZ hown (hw _ (List.mem_of_getElem? (i := 27) rfl)) (hw _ (List.mem_of_getElem? (i := 28) rfl)) (hw _ (List.mem_of_getElem? (i := 12) rfl)) (hw _ (List.mem_of_getElem? (i := 29) rfl)) (by decide) (rm6 l Z a0 hw [] (2147483639 : Int64) ((((16 : Int64) + (r3 * (8 : Int64))) - (16 : Int64)) / (8 : Int64)) h0 n0 Z0) (argsL := [.long (2147483639 : Int64), .long ((((16 : Int64) + (r3 * (8 : Int64))) - (16 : Int64)) / (8 : Int64))]) (rest := []) pd_2 rfl rfl rfl (hb hby d1_78) rfl (by rw [hml]; rfl) e4 (by decide) (W := 0) rfl (by decide) rfl rfl (by decide) (by decide) ?_
      intro T11 r12 X11 e11 hr12
      refine g_l2i (q := 82) X11.here hx (hb hby d1_81) rfl ?_
      exact g_ireturn X11 hx hlk hrt (hb hby d1_82) (by decide) (by decide) ⟨_, rfl, own_grf_8 hln hnd hr3 hr5 (by have h6 := c6; first | exact h6 | omega) hr12, e11, rfl⟩
  · intro c1
    exfalso; (try simp only [Int32.reduceToInt, Int64.reduceToInt, true_and, and_true, not_true_eq_false, not_false_eq_true, false_and, or_false, false_or] at c1); (try simp only [Int32.reduceToInt, Int64.reduceToInt, true_and, and_true, not_true_eq_false, not_false_eq_true, false_and, or_false, false_or] at hnd); have f1 := rng64 nd; (try simp only [Int32.reduceToInt, Int64.reduceToInt] at f1); (try simp only [Int32.reduceToInt, Int64.reduceToInt, and_true, true_and, or_true, true_or]); (first | done | omega)
theorem own_shk (k : Int32) : ((1 : Int32) <<< ((k &&& (3 : Int32)) &&& 31)) = 1 ∨ ((1 : Int32) <<< ((k &&& (3 : Int32)) &&& 31)) = 2 ∨ ((1 : Int32) <<< ((k &&& (3 : Int32)) &&& 31)) = 4 ∨ ((1 : Int32) <<< ((k &&& (3 : Int32)) &&& 31)) = 8 := by
  have h : (k &&& (3 : Int32)) = 0 ∨ (k &&& (3 : Int32)) = 1 ∨ (k &&& (3 : Int32)) = 2 ∨ (k &&& (3 : Int32)) = 3 := by
    have f := c_mask k (3 : Int32) 2 (by decide) (by decide)
    have g : (k &&& (3 : Int32)).toInt = 0 ∨ (k &&& (3 : Int32)).toInt = 1 ∨ (k &&& (3 : Int32)).toInt = 2 ∨ (k &&& (3 : Int32)).toInt = 3 := by omega
    rcases g with g | g | g | g
    · exact Or.inl (Int32.toInt_inj.mp g)
    · exact Or.inr (Or.inl (Int32.toInt_inj.mp g))
    · exact Or.inr (Or.inr (Or.inl (Int32.toInt_inj.mp g)))
    · exact Or.inr (Or.inr (Or.inr (Int32.toInt_inj.mp g)))
  rcases h with h | h | h | h <;> rw [h] <;> decide
theorem own_p2 : ∀ k : Fin 38, ((Int64.ofInt (2 ^ k.val)) &&& (Int64.ofInt (2 ^ k.val) - 1)).toInt = 0 := by decide +kernel
theorem own_pand {p : Int64} {k : Nat} (h : p.toInt = 2 ^ k) (hk : k ≤ 37) : (p &&& (p - 1)).toInt = 0 := by
  have e : p = Int64.ofInt (2 ^ k) := by rw [← h, Int64.ofInt_toInt]
  rw [e]; exact own_p2 ⟨k, by omega⟩
theorem own_lawA_1 {ln rr : Int32} {nd mm : Int64} (hln : 0 ≤ ln.toInt) (hnd : 0 ≤ nd.toInt ∧ nd.toInt ≤ 2147483639) (hr : ∃ (k : Nat) (mx : Int), 4 ≤ k ∧ k ≤ 37 ∧ nd.toInt ≤ mx ∧ 2 * ln.toInt ≤ mx ∧ (mx = nd.toInt ∨ mx = 2 * ln.toInt) ∧ 16 + mx * 1 ≤ 2 ^ k ∧ (2 : Int) ^ k < 2 * (16 + mx * 1) ∧ ((rr.toInt = 2147483639 ∧ 2147483639 ≤ ((2 : Int) ^ k - 16) / 1) ∨ (rr.toInt = ((2 : Int) ^ k - 16) / 1 ∧ ((2 : Int) ^ k - 16) / 1 < 2147483639))) (hm : nd.toInt ≤ mm.toInt ∧ ((2 : Int64) * ln.toInt64).toInt ≤ mm.toInt ∧ (mm.toInt = nd.toInt ∨ mm.toInt = ((2 : Int64) * ln.toInt64).toInt)) (c9 : (2147483648 : Int64).toInt < ((16 : Int64) + (mm * (1 : Int64))).toInt) : rr.toInt = 2147483639 := by
  have e1 : ((2 : Int64) * ln.toInt64).toInt = 2 * ln.toInt := (by have f3 := rng32 ln; (try simp only [Int32.reduceToInt, Int64.reduceToInt] at f3); have f4 := c_i2l ln; (try simp only [Int32.reduceToInt, Int64.reduceToInt] at f4); have f5 := rng64 ((2 : Int64) * ln.toInt64); (try simp only [Int32.reduceToInt, Int64.reduceToInt] at f5); have f6 := c_lmul (2 : Int64) ln.toInt64; (try simp only [Int32.reduceToInt, Int64.reduceToInt] at f6); (try have f6e : ((2 : Int64) * ln.toInt64).toInt = (2 : Int) * ln.toInt64.toInt := (by omega)); omega)
  rw [e1] at hm
  have g0 := rng32 ln
  obtain ⟨k, mx, a1, a2, a3, a4, a5, a6, a7, a8⟩ := hr
  have e0 : mx = mm.toInt := (by omega)
  subst e0
  have b3 : 0 ≤ mm.toInt ∧ mm.toInt ≤ 4294967294 := (by omega)
  clear a3 a4 a5 hm
  have e2 : ((16 : Int64) + (mm * (1 : Int64))).toInt = 16 + mm.toInt * 1 := (by have f3 := rng64 mm; (try simp only [Int32.reduceToInt, Int64.reduceToInt] at f3); have f4 := rng64 (mm * (1 : Int64)); (try simp only [Int32.reduceToInt, Int64.reduceToInt] at f4); have f5 := c_lmul mm (1 : Int64); (try simp only [Int32.reduceToInt, Int64.reduceToInt] at f5); (try have f5e : (mm * (1 : Int64)).toInt = mm.toInt * (1 : Int) := (by omega)); have f6 := rng64 ((16 : Int64) + (mm * (1 : Int64))); (try simp only [Int32.reduceToInt, Int64.reduceToInt] at f6); have f7 := c_ladd (16 : Int64) (mm * (1 : Int64)); (try simp only [Int32.reduceToInt, Int64.reduceToInt] at f7); (try have f7e : ((16 : Int64) + (mm * (1 : Int64))).toInt = (16 : Int) + (mm * (1 : Int64)).toInt := (by omega)); omega)
  rw [e2] at c9
  have hM : (2147483648 : Int64).toInt = 2147483648 := (by decide)
  rw [hM] at c9
  have hk : 32 ≤ k := (by rcases Nat.lt_or_ge k 32 with h | h; exfalso; have h5 := own_powle (show k ≤ 31 by omega); omega; exact h)
  have h5 := own_powle hk
  omega
theorem own_lawB_1 {ln rr : Int32} {nd mm : Int64} (hln : 0 ≤ ln.toInt) (hnd : 0 ≤ nd.toInt ∧ nd.toInt ≤ 2147483639) (hr : ∃ (k : Nat) (mx : Int), 4 ≤ k ∧ k ≤ 37 ∧ nd.toInt ≤ mx ∧ 2 * ln.toInt ≤ mx ∧ (mx = nd.toInt ∨ mx = 2 * ln.toInt) ∧ 16 + mx * 1 ≤ 2 ^ k ∧ (2 : Int) ^ k < 2 * (16 + mx * 1) ∧ ((rr.toInt = 2147483639 ∧ 2147483639 ≤ ((2 : Int) ^ k - 16) / 1) ∨ (rr.toInt = ((2 : Int) ^ k - 16) / 1 ∧ ((2 : Int) ^ k - 16) / 1 < 2147483639))) (hm : nd.toInt ≤ mm.toInt ∧ ((2 : Int64) * ln.toInt64).toInt ≤ mm.toInt ∧ (mm.toInt = nd.toInt ∨ mm.toInt = ((2 : Int64) * ln.toInt64).toInt)) (c9 : ((16 : Int64) + (mm * (1 : Int64))).toInt ≤ (2147483648 : Int64).toInt) : 0 ≤ rr.toInt ∧ 0 < ((16 : Int64) + (rr.toInt64 * (1 : Int64))).toInt ∧ (((16 : Int64) + (rr.toInt64 * (1 : Int64))) &&& (((16 : Int64) + (rr.toInt64 * (1 : Int64))) - (1 : Int64))).toInt = 0 ∧ ((16 : Int64) + (mm * (1 : Int64))).toInt ≤ ((16 : Int64) + (rr.toInt64 * (1 : Int64))).toInt ∧ (((16 : Int64) + (rr.toInt64 * (1 : Int64))) / (2 : Int64)).toInt < ((16 : Int64) + (mm * (1 : Int64))).toInt := by
  have e1 : ((2 : Int64) * ln.toInt64).toInt = 2 * ln.toInt := (by have f3 := rng32 ln; (try simp only [Int32.reduceToInt, Int64.reduceToInt] at f3); have f4 := c_i2l ln; (try simp only [Int32.reduceToInt, Int64.reduceToInt] at f4); have f5 := rng64 ((2 : Int64) * ln.toInt64); (try simp only [Int32.reduceToInt, Int64.reduceToInt] at f5); have f6 := c_lmul (2 : Int64) ln.toInt64; (try simp only [Int32.reduceToInt, Int64.reduceToInt] at f6); (try have f6e : ((2 : Int64) * ln.toInt64).toInt = (2 : Int) * ln.toInt64.toInt := (by omega)); omega)
  rw [e1] at hm
  have g0 := rng32 ln
  obtain ⟨k, mx, a1, a2, a3, a4, a5, a6, a7, a8⟩ := hr
  have e0 : mx = mm.toInt := (by omega)
  subst e0
  have b3 : 0 ≤ mm.toInt ∧ mm.toInt ≤ 4294967294 := (by omega)
  clear a3 a4 a5 hm
  have e2 : ((16 : Int64) + (mm * (1 : Int64))).toInt = 16 + mm.toInt * 1 := (by have f3 := rng64 mm; (try simp only [Int32.reduceToInt, Int64.reduceToInt] at f3); have f4 := rng64 (mm * (1 : Int64)); (try simp only [Int32.reduceToInt, Int64.reduceToInt] at f4); have f5 := c_lmul mm (1 : Int64); (try simp only [Int32.reduceToInt, Int64.reduceToInt] at f5); (try have f5e : (mm * (1 : Int64)).toInt = mm.toInt * (1 : Int) := (by omega)); have f6 := rng64 ((16 : Int64) + (mm * (1 : Int64))); (try simp only [Int32.reduceToInt, Int64.reduceToInt] at f6); have f7 := c_ladd (16 : Int64) (mm * (1 : Int64)); (try simp only [Int32.reduceToInt, Int64.reduceToInt] at f7); (try have f7e : ((16 : Int64) + (mm * (1 : Int64))).toInt = (16 : Int) + (mm * (1 : Int64)).toInt := (by omega)); omega)
  rw [e2] at c9
  have hM : (2147483648 : Int64).toInt = 2147483648 := (by decide)
  rw [hM] at c9
  have hk : k ≤ 31 := (by rcases Nat.lt_or_ge 31 k with h | h; exfalso; have h5 := own_powle (show 32 ≤ k by omega); omega; exact h)
  have h5 := own_powle hk
  have h6 : (2 : Int) ^ k = 16 * 2 ^ (k - 4) := (by rw [show (16 : Int) = 2 ^ 4 from rfl, ← Int.pow_add]; congr 1; omega)
  have h7 : rr.toInt = (2 ^ k - 16) / 1 := (by omega)
  have h8 : rr.toInt * 1 = 2 ^ k - 16 := (by generalize (2 : Int) ^ (k - 4) = Q at *; omega)
  have e3 : ((16 : Int64) + (rr.toInt64 * (1 : Int64))).toInt = 2 ^ k := (by generalize (2 : Int) ^ k = Q at *; have f4 := rng32 rr; (try simp only [Int32.reduceToInt, Int64.reduceToInt] at f4); have f5 := c_i2l rr; (try simp only [Int32.reduceToInt, Int64.reduceToInt] at f5); have f6 := rng64 (rr.toInt64 * (1 : Int64)); (try simp only [Int32.reduceToInt, Int64.reduceToInt] at f6); have f7 := c_lmul rr.toInt64 (1 : Int64); (try simp only [Int32.reduceToInt, Int64.reduceToInt] at f7); (try have f7e : (rr.toInt64 * (1 : Int64)).toInt = rr.toInt64.toInt * (1 : Int) := (by omega)); have f8 := rng64 ((16 : Int64) + (rr.toInt64 * (1 : Int64))); (try simp only [Int32.reduceToInt, Int64.reduceToInt] at f8); have f9 := c_ladd (16 : Int64) (rr.toInt64 * (1 : Int64)); (try simp only [Int32.reduceToInt, Int64.reduceToInt] at f9); (try have f9e : ((16 : Int64) + (rr.toInt64 * (1 : Int64))).toInt = (16 : Int) + (rr.toInt64 * (1 : Int64)).toInt := (by omega)); omega)
  have e4 := own_pand e3 a2
  refine ⟨by omega, by omega, e4, by omega, ?_⟩
  generalize ((16 : Int64) + (rr.toInt64 * (1 : Int64))) = pp at *
  have e5 := c_ldiv pp (2 : Int64) 2 (by decide) (by decide)
  omega
theorem own_lawA_2 {ln rr : Int32} {nd mm : Int64} (hln : 0 ≤ ln.toInt) (hnd : 0 ≤ nd.toInt ∧ nd.toInt ≤ 2147483639) (hr : ∃ (k : Nat) (mx : Int), 4 ≤ k ∧ k ≤ 37 ∧ nd.toInt ≤ mx ∧ 2 * ln.toInt ≤ mx ∧ (mx = nd.toInt ∨ mx = 2 * ln.toInt) ∧ 16 + mx * 2 ≤ 2 ^ k ∧ (2 : Int) ^ k < 2 * (16 + mx * 2) ∧ ((rr.toInt = 2147483639 ∧ 2147483639 ≤ ((2 : Int) ^ k - 16) / 2) ∨ (rr.toInt = ((2 : Int) ^ k - 16) / 2 ∧ ((2 : Int) ^ k - 16) / 2 < 2147483639))) (hm : nd.toInt ≤ mm.toInt ∧ ((2 : Int64) * ln.toInt64).toInt ≤ mm.toInt ∧ (mm.toInt = nd.toInt ∨ mm.toInt = ((2 : Int64) * ln.toInt64).toInt)) (c9 : (2147483648 : Int64).toInt < ((16 : Int64) + (mm * (2 : Int64))).toInt) : rr.toInt = 2147483639 := by
  have e1 : ((2 : Int64) * ln.toInt64).toInt = 2 * ln.toInt := (by have f3 := rng32 ln; (try simp only [Int32.reduceToInt, Int64.reduceToInt] at f3); have f4 := c_i2l ln; (try simp only [Int32.reduceToInt, Int64.reduceToInt] at f4); have f5 := rng64 ((2 : Int64) * ln.toInt64); (try simp only [Int32.reduceToInt, Int64.reduceToInt] at f5); have f6 := c_lmul (2 : Int64) ln.toInt64; (try simp only [Int32.reduceToInt, Int64.reduceToInt] at f6); (try have f6e : ((2 : Int64) * ln.toInt64).toInt = (2 : Int) * ln.toInt64.toInt := (by omega)); omega)
  rw [e1] at hm
  have g0 := rng32 ln
  obtain ⟨k, mx, a1, a2, a3, a4, a5, a6, a7, a8⟩ := hr
  have e0 : mx = mm.toInt := (by omega)
  subst e0
  have b3 : 0 ≤ mm.toInt ∧ mm.toInt ≤ 4294967294 := (by omega)
  clear a3 a4 a5 hm
  have e2 : ((16 : Int64) + (mm * (2 : Int64))).toInt = 16 + mm.toInt * 2 := (by have f3 := rng64 mm; (try simp only [Int32.reduceToInt, Int64.reduceToInt] at f3); have f4 := rng64 (mm * (2 : Int64)); (try simp only [Int32.reduceToInt, Int64.reduceToInt] at f4); have f5 := c_lmul mm (2 : Int64); (try simp only [Int32.reduceToInt, Int64.reduceToInt] at f5); (try have f5e : (mm * (2 : Int64)).toInt = mm.toInt * (2 : Int) := (by omega)); have f6 := rng64 ((16 : Int64) + (mm * (2 : Int64))); (try simp only [Int32.reduceToInt, Int64.reduceToInt] at f6); have f7 := c_ladd (16 : Int64) (mm * (2 : Int64)); (try simp only [Int32.reduceToInt, Int64.reduceToInt] at f7); (try have f7e : ((16 : Int64) + (mm * (2 : Int64))).toInt = (16 : Int) + (mm * (2 : Int64)).toInt := (by omega)); omega)
  rw [e2] at c9
  have hM : (2147483648 : Int64).toInt = 2147483648 := (by decide)
  rw [hM] at c9
  have hk : 32 ≤ k := (by rcases Nat.lt_or_ge k 32 with h | h; exfalso; have h5 := own_powle (show k ≤ 31 by omega); omega; exact h)
  have h5 := own_powle hk
  omega
theorem own_lawB_2 {ln rr : Int32} {nd mm : Int64} (hln : 0 ≤ ln.toInt) (hnd : 0 ≤ nd.toInt ∧ nd.toInt ≤ 2147483639) (hr : ∃ (k : Nat) (mx : Int), 4 ≤ k ∧ k ≤ 37 ∧ nd.toInt ≤ mx ∧ 2 * ln.toInt ≤ mx ∧ (mx = nd.toInt ∨ mx = 2 * ln.toInt) ∧ 16 + mx * 2 ≤ 2 ^ k ∧ (2 : Int) ^ k < 2 * (16 + mx * 2) ∧ ((rr.toInt = 2147483639 ∧ 2147483639 ≤ ((2 : Int) ^ k - 16) / 2) ∨ (rr.toInt = ((2 : Int) ^ k - 16) / 2 ∧ ((2 : Int) ^ k - 16) / 2 < 2147483639))) (hm : nd.toInt ≤ mm.toInt ∧ ((2 : Int64) * ln.toInt64).toInt ≤ mm.toInt ∧ (mm.toInt = nd.toInt ∨ mm.toInt = ((2 : Int64) * ln.toInt64).toInt)) (c9 : ((16 : Int64) + (mm * (2 : Int64))).toInt ≤ (2147483648 : Int64).toInt) : 0 ≤ rr.toInt ∧ 0 < ((16 : Int64) + (rr.toInt64 * (2 : Int64))).toInt ∧ (((16 : Int64) + (rr.toInt64 * (2 : Int64))) &&& (((16 : Int64) + (rr.toInt64 * (2 : Int64))) - (1 : Int64))).toInt = 0 ∧ ((16 : Int64) + (mm * (2 : Int64))).toInt ≤ ((16 : Int64) + (rr.toInt64 * (2 : Int64))).toInt ∧ (((16 : Int64) + (rr.toInt64 * (2 : Int64))) / (2 : Int64)).toInt < ((16 : Int64) + (mm * (2 : Int64))).toInt := by
  have e1 : ((2 : Int64) * ln.toInt64).toInt = 2 * ln.toInt := (by have f3 := rng32 ln; (try simp only [Int32.reduceToInt, Int64.reduceToInt] at f3); have f4 := c_i2l ln; (try simp only [Int32.reduceToInt, Int64.reduceToInt] at f4); have f5 := rng64 ((2 : Int64) * ln.toInt64); (try simp only [Int32.reduceToInt, Int64.reduceToInt] at f5); have f6 := c_lmul (2 : Int64) ln.toInt64; (try simp only [Int32.reduceToInt, Int64.reduceToInt] at f6); (try have f6e : ((2 : Int64) * ln.toInt64).toInt = (2 : Int) * ln.toInt64.toInt := (by omega)); omega)
  rw [e1] at hm
  have g0 := rng32 ln
  obtain ⟨k, mx, a1, a2, a3, a4, a5, a6, a7, a8⟩ := hr
  have e0 : mx = mm.toInt := (by omega)
  subst e0
  have b3 : 0 ≤ mm.toInt ∧ mm.toInt ≤ 4294967294 := (by omega)
  clear a3 a4 a5 hm
  have e2 : ((16 : Int64) + (mm * (2 : Int64))).toInt = 16 + mm.toInt * 2 := (by have f3 := rng64 mm; (try simp only [Int32.reduceToInt, Int64.reduceToInt] at f3); have f4 := rng64 (mm * (2 : Int64)); (try simp only [Int32.reduceToInt, Int64.reduceToInt] at f4); have f5 := c_lmul mm (2 : Int64); (try simp only [Int32.reduceToInt, Int64.reduceToInt] at f5); (try have f5e : (mm * (2 : Int64)).toInt = mm.toInt * (2 : Int) := (by omega)); have f6 := rng64 ((16 : Int64) + (mm * (2 : Int64))); (try simp only [Int32.reduceToInt, Int64.reduceToInt] at f6); have f7 := c_ladd (16 : Int64) (mm * (2 : Int64)); (try simp only [Int32.reduceToInt, Int64.reduceToInt] at f7); (try have f7e : ((16 : Int64) + (mm * (2 : Int64))).toInt = (16 : Int) + (mm * (2 : Int64)).toInt := (by omega)); omega)
  rw [e2] at c9
  have hM : (2147483648 : Int64).toInt = 2147483648 := (by decide)
  rw [hM] at c9
  have hk : k ≤ 31 := (by rcases Nat.lt_or_ge 31 k with h | h; exfalso; have h5 := own_powle (show 32 ≤ k by omega); omega; exact h)
  have h5 := own_powle hk
  have h6 : (2 : Int) ^ k = 16 * 2 ^ (k - 4) := (by rw [show (16 : Int) = 2 ^ 4 from rfl, ← Int.pow_add]; congr 1; omega)
  have h7 : rr.toInt = (2 ^ k - 16) / 2 := (by omega)
  have h8 : rr.toInt * 2 = 2 ^ k - 16 := (by generalize (2 : Int) ^ (k - 4) = Q at *; omega)
  have e3 : ((16 : Int64) + (rr.toInt64 * (2 : Int64))).toInt = 2 ^ k := (by generalize (2 : Int) ^ k = Q at *; have f4 := rng32 rr; (try simp only [Int32.reduceToInt, Int64.reduceToInt] at f4); have f5 := c_i2l rr; (try simp only [Int32.reduceToInt, Int64.reduceToInt] at f5); have f6 := rng64 (rr.toInt64 * (2 : Int64)); (try simp only [Int32.reduceToInt, Int64.reduceToInt] at f6); have f7 := c_lmul rr.toInt64 (2 : Int64); (try simp only [Int32.reduceToInt, Int64.reduceToInt] at f7); (try have f7e : (rr.toInt64 * (2 : Int64)).toInt = rr.toInt64.toInt * (2 : Int) := (by omega)); have f8 := rng64 ((16 : Int64) + (rr.toInt64 * (2 : Int64))); (try simp only [Int32.reduceToInt, Int64.reduceToInt] at f8); have f9 := c_ladd (16 : Int64) (rr.toInt64 * (2 : Int64)); (try simp only [Int32.reduceToInt, Int64.reduceToInt] at f9); (try have f9e : ((16 : Int64) + (rr.toInt64 * (2 : Int64))).toInt = (16 : Int) + (rr.toInt64 * (2 : Int64)).toInt := (by omega)); omega)
  have e4 := own_pand e3 a2
  refine ⟨by omega, by omega, e4, by omega, ?_⟩
  generalize ((16 : Int64) + (rr.toInt64 * (2 : Int64))) = pp at *
  have e5 := c_ldiv pp (2 : Int64) 2 (by decide) (by decide)
  omega
theorem own_lawA_4 {ln rr : Int32} {nd mm : Int64} (hln : 0 ≤ ln.toInt) (hnd : 0 ≤ nd.toInt ∧ nd.toInt ≤ 2147483639) (hr : ∃ (k : Nat) (mx : Int), 4 ≤ k ∧ k ≤ 37 ∧ nd.toInt ≤ mx ∧ 2 * ln.toInt ≤ mx ∧ (mx = nd.toInt ∨ mx = 2 * ln.toInt) ∧ 16 + mx * 4 ≤ 2 ^ k ∧ (2 : Int) ^ k < 2 * (16 + mx * 4) ∧ ((rr.toInt = 2147483639 ∧ 2147483639 ≤ ((2 : Int) ^ k - 16) / 4) ∨ (rr.toInt = ((2 : Int) ^ k - 16) / 4 ∧ ((2 : Int) ^ k - 16) / 4 < 2147483639))) (hm : nd.toInt ≤ mm.toInt ∧ ((2 : Int64) * ln.toInt64).toInt ≤ mm.toInt ∧ (mm.toInt = nd.toInt ∨ mm.toInt = ((2 : Int64) * ln.toInt64).toInt)) (c9 : (4294967296 : Int64).toInt < ((16 : Int64) + (mm * (4 : Int64))).toInt) : rr.toInt = 2147483639 := by
  have e1 : ((2 : Int64) * ln.toInt64).toInt = 2 * ln.toInt := (by have f3 := rng32 ln; (try simp only [Int32.reduceToInt, Int64.reduceToInt] at f3); have f4 := c_i2l ln; (try simp only [Int32.reduceToInt, Int64.reduceToInt] at f4); have f5 := rng64 ((2 : Int64) * ln.toInt64); (try simp only [Int32.reduceToInt, Int64.reduceToInt] at f5); have f6 := c_lmul (2 : Int64) ln.toInt64; (try simp only [Int32.reduceToInt, Int64.reduceToInt] at f6); (try have f6e : ((2 : Int64) * ln.toInt64).toInt = (2 : Int) * ln.toInt64.toInt := (by omega)); omega)
  rw [e1] at hm
  have g0 := rng32 ln
  obtain ⟨k, mx, a1, a2, a3, a4, a5, a6, a7, a8⟩ := hr
  have e0 : mx = mm.toInt := (by omega)
  subst e0
  have b3 : 0 ≤ mm.toInt ∧ mm.toInt ≤ 4294967294 := (by omega)
  clear a3 a4 a5 hm
  have e2 : ((16 : Int64) + (mm * (4 : Int64))).toInt = 16 + mm.toInt * 4 := (by have f3 := rng64 mm; (try simp only [Int32.reduceToInt, Int64.reduceToInt] at f3); have f4 := rng64 (mm * (4 : Int64)); (try simp only [Int32.reduceToInt, Int64.reduceToInt] at f4); have f5 := c_lmul mm (4 : Int64); (try simp only [Int32.reduceToInt, Int64.reduceToInt] at f5); (try have f5e : (mm * (4 : Int64)).toInt = mm.toInt * (4 : Int) := (by omega)); have f6 := rng64 ((16 : Int64) + (mm * (4 : Int64))); (try simp only [Int32.reduceToInt, Int64.reduceToInt] at f6); have f7 := c_ladd (16 : Int64) (mm * (4 : Int64)); (try simp only [Int32.reduceToInt, Int64.reduceToInt] at f7); (try have f7e : ((16 : Int64) + (mm * (4 : Int64))).toInt = (16 : Int) + (mm * (4 : Int64)).toInt := (by omega)); omega)
  rw [e2] at c9
  have hM : (4294967296 : Int64).toInt = 4294967296 := (by decide)
  rw [hM] at c9
  have hk : 33 ≤ k := (by rcases Nat.lt_or_ge k 33 with h | h; exfalso; have h5 := own_powle (show k ≤ 32 by omega); omega; exact h)
  have h5 := own_powle hk
  omega
theorem own_lawB_4 {ln rr : Int32} {nd mm : Int64} (hln : 0 ≤ ln.toInt) (hnd : 0 ≤ nd.toInt ∧ nd.toInt ≤ 2147483639) (hr : ∃ (k : Nat) (mx : Int), 4 ≤ k ∧ k ≤ 37 ∧ nd.toInt ≤ mx ∧ 2 * ln.toInt ≤ mx ∧ (mx = nd.toInt ∨ mx = 2 * ln.toInt) ∧ 16 + mx * 4 ≤ 2 ^ k ∧ (2 : Int) ^ k < 2 * (16 + mx * 4) ∧ ((rr.toInt = 2147483639 ∧ 2147483639 ≤ ((2 : Int) ^ k - 16) / 4) ∨ (rr.toInt = ((2 : Int) ^ k - 16) / 4 ∧ ((2 : Int) ^ k - 16) / 4 < 2147483639))) (hm : nd.toInt ≤ mm.toInt ∧ ((2 : Int64) * ln.toInt64).toInt ≤ mm.toInt ∧ (mm.toInt = nd.toInt ∨ mm.toInt = ((2 : Int64) * ln.toInt64).toInt)) (c9 : ((16 : Int64) + (mm * (4 : Int64))).toInt ≤ (4294967296 : Int64).toInt) : 0 ≤ rr.toInt ∧ 0 < ((16 : Int64) + (rr.toInt64 * (4 : Int64))).toInt ∧ (((16 : Int64) + (rr.toInt64 * (4 : Int64))) &&& (((16 : Int64) + (rr.toInt64 * (4 : Int64))) - (1 : Int64))).toInt = 0 ∧ ((16 : Int64) + (mm * (4 : Int64))).toInt ≤ ((16 : Int64) + (rr.toInt64 * (4 : Int64))).toInt ∧ (((16 : Int64) + (rr.toInt64 * (4 : Int64))) / (2 : Int64)).toInt < ((16 : Int64) + (mm * (4 : Int64))).toInt := by
  have e1 : ((2 : Int64) * ln.toInt64).toInt = 2 * ln.toInt := (by have f3 := rng32 ln; (try simp only [Int32.reduceToInt, Int64.reduceToInt] at f3); have f4 := c_i2l ln; (try simp only [Int32.reduceToInt, Int64.reduceToInt] at f4); have f5 := rng64 ((2 : Int64) * ln.toInt64); (try simp only [Int32.reduceToInt, Int64.reduceToInt] at f5); have f6 := c_lmul (2 : Int64) ln.toInt64; (try simp only [Int32.reduceToInt, Int64.reduceToInt] at f6); (try have f6e : ((2 : Int64) * ln.toInt64).toInt = (2 : Int) * ln.toInt64.toInt := (by omega)); omega)
  rw [e1] at hm
  have g0 := rng32 ln
  obtain ⟨k, mx, a1, a2, a3, a4, a5, a6, a7, a8⟩ := hr
  have e0 : mx = mm.toInt := (by omega)
  subst e0
  have b3 : 0 ≤ mm.toInt ∧ mm.toInt ≤ 4294967294 := (by omega)
  clear a3 a4 a5 hm
  have e2 : ((16 : Int64) + (mm * (4 : Int64))).toInt = 16 + mm.toInt * 4 := (by have f3 := rng64 mm; (try simp only [Int32.reduceToInt, Int64.reduceToInt] at f3); have f4 := rng64 (mm * (4 : Int64)); (try simp only [Int32.reduceToInt, Int64.reduceToInt] at f4); have f5 := c_lmul mm (4 : Int64); (try simp only [Int32.reduceToInt, Int64.reduceToInt] at f5); (try have f5e : (mm * (4 : Int64)).toInt = mm.toInt * (4 : Int) := (by omega)); have f6 := rng64 ((16 : Int64) + (mm * (4 : Int64))); (try simp only [Int32.reduceToInt, Int64.reduceToInt] at f6); have f7 := c_ladd (16 : Int64) (mm * (4 : Int64)); (try simp only [Int32.reduceToInt, Int64.reduceToInt] at f7); (try have f7e : ((16 : Int64) + (mm * (4 : Int64))).toInt = (16 : Int) + (mm * (4 : Int64)).toInt := (by omega)); omega)
  rw [e2] at c9
  have hM : (4294967296 : Int64).toInt = 4294967296 := (by decide)
  rw [hM] at c9
  have hk : k ≤ 32 := (by rcases Nat.lt_or_ge 32 k with h | h; exfalso; have h5 := own_powle (show 33 ≤ k by omega); omega; exact h)
  have h5 := own_powle hk
  have h6 : (2 : Int) ^ k = 16 * 2 ^ (k - 4) := (by rw [show (16 : Int) = 2 ^ 4 from rfl, ← Int.pow_add]; congr 1; omega)
  have h7 : rr.toInt = (2 ^ k - 16) / 4 := (by omega)
  have h8 : rr.toInt * 4 = 2 ^ k - 16 := (by generalize (2 : Int) ^ (k - 4) = Q at *; omega)
  have e3 : ((16 : Int64) + (rr.toInt64 * (4 : Int64))).toInt = 2 ^ k := (by generalize (2 : Int) ^ k = Q at *; have f4 := rng32 rr; (try simp only [Int32.reduceToInt, Int64.reduceToInt] at f4); have f5 := c_i2l rr; (try simp only [Int32.reduceToInt, Int64.reduceToInt] at f5); have f6 := rng64 (rr.toInt64 * (4 : Int64)); (try simp only [Int32.reduceToInt, Int64.reduceToInt] at f6); have f7 := c_lmul rr.toInt64 (4 : Int64); (try simp only [Int32.reduceToInt, Int64.reduceToInt] at f7); (try have f7e : (rr.toInt64 * (4 : Int64)).toInt = rr.toInt64.toInt * (4 : Int) := (by omega)); have f8 := rng64 ((16 : Int64) + (rr.toInt64 * (4 : Int64))); (try simp only [Int32.reduceToInt, Int64.reduceToInt] at f8); have f9 := c_ladd (16 : Int64) (rr.toInt64 * (4 : Int64)); (try simp only [Int32.reduceToInt, Int64.reduceToInt] at f9); (try have f9e : ((16 : Int64) + (rr.toInt64 * (4 : Int64))).toInt = (16 : Int) + (rr.toInt64 * (4 : Int64)).toInt := (by omega)); omega)
  have e4 := own_pand e3 a2
  refine ⟨by omega, by omega, e4, by omega, ?_⟩
  generalize ((16 : Int64) + (rr.toInt64 * (4 : Int64))) = pp at *
  have e5 := c_ldiv pp (2 : Int64) 2 (by decide) (by decide)
  omega
theorem own_lawA_8 {ln rr : Int32} {nd mm : Int64} (hln : 0 ≤ ln.toInt) (hnd : 0 ≤ nd.toInt ∧ nd.toInt ≤ 2147483639) (hr : ∃ (k : Nat) (mx : Int), 4 ≤ k ∧ k ≤ 37 ∧ nd.toInt ≤ mx ∧ 2 * ln.toInt ≤ mx ∧ (mx = nd.toInt ∨ mx = 2 * ln.toInt) ∧ 16 + mx * 8 ≤ 2 ^ k ∧ (2 : Int) ^ k < 2 * (16 + mx * 8) ∧ ((rr.toInt = 2147483639 ∧ 2147483639 ≤ ((2 : Int) ^ k - 16) / 8) ∨ (rr.toInt = ((2 : Int) ^ k - 16) / 8 ∧ ((2 : Int) ^ k - 16) / 8 < 2147483639))) (hm : nd.toInt ≤ mm.toInt ∧ ((2 : Int64) * ln.toInt64).toInt ≤ mm.toInt ∧ (mm.toInt = nd.toInt ∨ mm.toInt = ((2 : Int64) * ln.toInt64).toInt)) (c9 : (8589934592 : Int64).toInt < ((16 : Int64) + (mm * (8 : Int64))).toInt) : rr.toInt = 2147483639 := by
  have e1 : ((2 : Int64) * ln.toInt64).toInt = 2 * ln.toInt := (by have f3 := rng32 ln; (try simp only [Int32.reduceToInt, Int64.reduceToInt] at f3); have f4 := c_i2l ln; (try simp only [Int32.reduceToInt, Int64.reduceToInt] at f4); have f5 := rng64 ((2 : Int64) * ln.toInt64); (try simp only [Int32.reduceToInt, Int64.reduceToInt] at f5); have f6 := c_lmul (2 : Int64) ln.toInt64; (try simp only [Int32.reduceToInt, Int64.reduceToInt] at f6); (try have f6e : ((2 : Int64) * ln.toInt64).toInt = (2 : Int) * ln.toInt64.toInt := (by omega)); omega)
  rw [e1] at hm
  have g0 := rng32 ln
  obtain ⟨k, mx, a1, a2, a3, a4, a5, a6, a7, a8⟩ := hr
  have e0 : mx = mm.toInt := (by omega)
  subst e0
  have b3 : 0 ≤ mm.toInt ∧ mm.toInt ≤ 4294967294 := (by omega)
  clear a3 a4 a5 hm
  have e2 : ((16 : Int64) + (mm * (8 : Int64))).toInt = 16 + mm.toInt * 8 := (by have f3 := rng64 mm; (try simp only [Int32.reduceToInt, Int64.reduceToInt] at f3); have f4 := rng64 (mm * (8 : Int64)); (try simp only [Int32.reduceToInt, Int64.reduceToInt] at f4); have f5 := c_lmul mm (8 : Int64); (try simp only [Int32.reduceToInt, Int64.reduceToInt] at f5); (try have f5e : (mm * (8 : Int64)).toInt = mm.toInt * (8 : Int) := (by omega)); have f6 := rng64 ((16 : Int64) + (mm * (8 : Int64))); (try simp only [Int32.reduceToInt, Int64.reduceToInt] at f6); have f7 := c_ladd (16 : Int64) (mm * (8 : Int64)); (try simp only [Int32.reduceToInt, Int64.reduceToInt] at f7); (try have f7e : ((16 : Int64) + (mm * (8 : Int64))).toInt = (16 : Int) + (mm * (8 : Int64)).toInt := (by omega)); omega)
  rw [e2] at c9
  have hM : (8589934592 : Int64).toInt = 8589934592 := (by decide)
  rw [hM] at c9
  have hk : 34 ≤ k := (by rcases Nat.lt_or_ge k 34 with h | h; exfalso; have h5 := own_powle (show k ≤ 33 by omega); omega; exact h)
  have h5 := own_powle hk
  omega
theorem own_lawB_8 {ln rr : Int32} {nd mm : Int64} (hln : 0 ≤ ln.toInt) (hnd : 0 ≤ nd.toInt ∧ nd.toInt ≤ 2147483639) (hr : ∃ (k : Nat) (mx : Int), 4 ≤ k ∧ k ≤ 37 ∧ nd.toInt ≤ mx ∧ 2 * ln.toInt ≤ mx ∧ (mx = nd.toInt ∨ mx = 2 * ln.toInt) ∧ 16 + mx * 8 ≤ 2 ^ k ∧ (2 : Int) ^ k < 2 * (16 + mx * 8) ∧ ((rr.toInt = 2147483639 ∧ 2147483639 ≤ ((2 : Int) ^ k - 16) / 8) ∨ (rr.toInt = ((2 : Int) ^ k - 16) / 8 ∧ ((2 : Int) ^ k - 16) / 8 < 2147483639))) (hm : nd.toInt ≤ mm.toInt ∧ ((2 : Int64) * ln.toInt64).toInt ≤ mm.toInt ∧ (mm.toInt = nd.toInt ∨ mm.toInt = ((2 : Int64) * ln.toInt64).toInt)) (c9 : ((16 : Int64) + (mm * (8 : Int64))).toInt ≤ (8589934592 : Int64).toInt) : 0 ≤ rr.toInt ∧ 0 < ((16 : Int64) + (rr.toInt64 * (8 : Int64))).toInt ∧ (((16 : Int64) + (rr.toInt64 * (8 : Int64))) &&& (((16 : Int64) + (rr.toInt64 * (8 : Int64))) - (1 : Int64))).toInt = 0 ∧ ((16 : Int64) + (mm * (8 : Int64))).toInt ≤ ((16 : Int64) + (rr.toInt64 * (8 : Int64))).toInt ∧ (((16 : Int64) + (rr.toInt64 * (8 : Int64))) / (2 : Int64)).toInt < ((16 : Int64) + (mm * (8 : Int64))).toInt := by
  have e1 : ((2 : Int64) * ln.toInt64).toInt = 2 * ln.toInt := (by have f3 := rng32 ln; (try simp only [Int32.reduceToInt, Int64.reduceToInt] at f3); have f4 := c_i2l ln; (try simp only [Int32.reduceToInt, Int64.reduceToInt] at f4); have f5 := rng64 ((2 : Int64) * ln.toInt64); (try simp only [Int32.reduceToInt, Int64.reduceToInt] at f5); have f6 := c_lmul (2 : Int64) ln.toInt64; (try simp only [Int32.reduceToInt, Int64.reduceToInt] at f6); (try have f6e : ((2 : Int64) * ln.toInt64).toInt = (2 : Int) * ln.toInt64.toInt := (by omega)); omega)
  rw [e1] at hm
  have g0 := rng32 ln
  obtain ⟨k, mx, a1, a2, a3, a4, a5, a6, a7, a8⟩ := hr
  have e0 : mx = mm.toInt := (by omega)
  subst e0
  have b3 : 0 ≤ mm.toInt ∧ mm.toInt ≤ 4294967294 := (by omega)
  clear a3 a4 a5 hm
  have e2 : ((16 : Int64) + (mm * (8 : Int64))).toInt = 16 + mm.toInt * 8 := (by have f3 := rng64 mm; (try simp only [Int32.reduceToInt, Int64.reduceToInt] at f3); have f4 := rng64 (mm * (8 : Int64)); (try simp only [Int32.reduceToInt, Int64.reduceToInt] at f4); have f5 := c_lmul mm (8 : Int64); (try simp only [Int32.reduceToInt, Int64.reduceToInt] at f5); (try have f5e : (mm * (8 : Int64)).toInt = mm.toInt * (8 : Int) := (by omega)); have f6 := rng64 ((16 : Int64) + (mm * (8 : Int64))); (try simp only [Int32.reduceToInt, Int64.reduceToInt] at f6); have f7 := c_ladd (16 : Int64) (mm * (8 : Int64)); (try simp only [Int32.reduceToInt, Int64.reduceToInt] at f7); (try have f7e : ((16 : Int64) + (mm * (8 : Int64))).toInt = (16 : Int) + (mm * (8 : Int64)).toInt := (by omega)); omega)
  rw [e2] at c9
  have hM : (8589934592 : Int64).toInt = 8589934592 := (by decide)
  rw [hM] at c9
  have hk : k ≤ 33 := (by rcases Nat.lt_or_ge 33 k with h | h; exfalso; have h5 := own_powle (show 34 ≤ k by omega); omega; exact h)
  have h5 := own_powle hk
  have h6 : (2 : Int) ^ k = 16 * 2 ^ (k - 4) := (by rw [show (16 : Int) = 2 ^ 4 from rfl, ← Int.pow_add]; congr 1; omega)
  have h7 : rr.toInt = (2 ^ k - 16) / 8 := (by omega)
  have h8 : rr.toInt * 8 = 2 ^ k - 16 := (by generalize (2 : Int) ^ (k - 4) = Q at *; omega)
  have e3 : ((16 : Int64) + (rr.toInt64 * (8 : Int64))).toInt = 2 ^ k := (by generalize (2 : Int) ^ k = Q at *; have f4 := rng32 rr; (try simp only [Int32.reduceToInt, Int64.reduceToInt] at f4); have f5 := c_i2l rr; (try simp only [Int32.reduceToInt, Int64.reduceToInt] at f5); have f6 := rng64 (rr.toInt64 * (8 : Int64)); (try simp only [Int32.reduceToInt, Int64.reduceToInt] at f6); have f7 := c_lmul rr.toInt64 (8 : Int64); (try simp only [Int32.reduceToInt, Int64.reduceToInt] at f7); (try have f7e : (rr.toInt64 * (8 : Int64)).toInt = rr.toInt64.toInt * (8 : Int) := (by omega)); have f8 := rng64 ((16 : Int64) + (rr.toInt64 * (8 : Int64))); (try simp only [Int32.reduceToInt, Int64.reduceToInt] at f8); have f9 := c_ladd (16 : Int64) (rr.toInt64 * (8 : Int64)); (try simp only [Int32.reduceToInt, Int64.reduceToInt] at f9); (try have f9e : ((16 : Int64) + (rr.toInt64 * (8 : Int64))).toInt = (16 : Int) + (rr.toInt64 * (8 : Int64)).toInt := (by omega)); omega)
  have e4 := own_pand e3 a2
  refine ⟨by omega, by omega, e4, by omega, ?_⟩
  generalize ((16 : Int64) + (rr.toInt64 * (8 : Int64))) = pp at *
  have e5 := c_ldiv pp (2 : Int64) 2 (by decide) (by decide)
  omega
theorem pd_4 : parseMethodDescriptor "(IJI)I" = some ⟨[.int, .long, .int], some .int⟩ := by decide +kernel
theorem ef_0 (m : MethodId) (z0 : Int32) (z1 : Int32) (z2 : Int32) : entryFrame m #[.int z0, .int z1, .int z2] maxLocals = mkF m 0 #[.val (.int z0), .val (.int z1), .val (.int z2), .unset, .unset, .unset, .unset, .unset, .unset, .unset, .unset, .unset, .unset, .unset, .unset, .unset, .unset, .unset] [] := by first | (simp [entryFrame, mkF, argsToLocals, Value.category, maxLocals]; done) | rfl
theorem pn_5 : plainName "com/example/vestline/vestline/number/GrowthGrownPinLaw" = true := by first | (simp [plainName, overriddenIn]; done) | decide +kernel
set_option maxRecDepth 65536 in
set_option maxHeartbeats 40000000 in
theorem rm0 (l : Launch) (Z : State) (a0 : Array Value) (hw : ∀ d ∈ tables_1, d.before a0 Z = true) (ws : List Jvm.Cond) (lr : Int32) (nr : Int32) (kd : Int32) (h0 : Heap) (n0 : Nat) (Z0 : n0 ≤ h0.size) :
    Ctr l Z x code maxLocals ret room_1 ws #[.int lr, .int nr, .int kd] h0 (fun v h L => v = some (.int 1) ∧ Fr n0 L) := by
  refine Ctr.of (plainFor_of_name pn_5) ?_
  intro p e s m below meth c s₁ hx hby hml hrt hlk hnm hown hZ X0 e0
  have N0 := Fr.nil n0
  refine Go.cast (ef_0 m lr nr kd) ?_
  replace hown : s.vm.findClass "com/example/vestline/vestline/number/GrowthGrownPinLaw" = some m.cls := hown
  replace hml : c.maxLocals = 18 := hml
  replace hrt : meth.sig.returnType = some .boolean := hrt
  refine g_iloadN (q := 1) X0.here hx (hb hby at_0) rfl rfl ?_
  refine g_ldcI (q := 3) X0 hx hZ hown (hw _ (List.mem_of_getElem? (i := 0) rfl)) (hb hby at_1) rfl ?_
  refine g_iand (q := 4) X0.here hx (hb hby at_3) rfl ?_
  obtain ⟨ln, hl1, hlnd⟩ : ∃ ln : Int32, (lr &&& (2147483647 : Int32)) = ln ∧ 0 ≤ ln.toInt := ⟨_, rfl, by have f2 := rng32 lr; (try simp only [Int32.reduceToInt, Int64.reduceToInt] at f2); have f3 := rng32 (lr &&& (2147483647 : Int32)); (try simp only [Int32.reduceToInt, Int64.reduceToInt] at f3); have f4 := c_mask lr (2147483647 : Int32) 31 (by decide) (by decide); (try simp only [Int32.reduceToInt, Int64.reduceToInt] at f4); (try have f4e : (lr &&& (2147483647 : Int32)).toInt = lr.toInt ∨ (lr &&& (2147483647 : Int32)).toInt = lr.toInt + 2147483648 := (by omega)); (try simp only [Int32.reduceToInt, Int64.reduceToInt, and_true, true_and, or_true, true_or]); (first | done | omega)⟩
  rw [hl1]
  refine g_istoreN (q := 5) (L' := #[.val (.int lr), .val (.int nr), .val (.int kd), .val (.int ln), .unset, .unset, .unset, .unset, .unset, .unset, .unset, .unset, .unset, .unset, .unset, .unset, .unset, .unset]) X0.here hx (hb hby at_4) rfl rfl ?_
  refine g_iloadN (q := 6) X0.here hx (hb hby at_5) rfl rfl ?_
  refine g_i2l (q := 7) X0.here hx (hb hby at_6) rfl ?_
  refine g_ldc2J (q := 10) X0 hx hZ hown (hw _ (List.mem_of_getElem? (i := 1) rfl)) (hb hby at_7) rfl ?_
  refine g_land (q := 11) X0.here hx (hb hby at_10) rfl ?_
  refine g_ldc2J (q := 14) X0 hx hZ hown (hw _ (List.mem_of_getElem? (i := 2) rfl)) (hb hby at_11) rfl ?_
  refine g_lrem (q := 15) X0.here hx (hb hby at_14) (by decide) rfl ?_
  obtain ⟨nd, hn1, hndd⟩ : ∃ nd : Int64, ((nr.toInt64 &&& (2147483647 : Int64)) % (2147483640 : Int64)) = nd ∧ 0 ≤ nd.toInt ∧ nd.toInt ≤ 2147483639 := ⟨_, rfl, by (try simp only [Int32.reduceToInt, Int64.reduceToInt, true_and, and_true, not_true_eq_false, not_false_eq_true, false_and, or_false, false_or] at hlnd); have f4 := rng32 nr; (try simp only [Int32.reduceToInt, Int64.reduceToInt] at f4); have f5 := c_i2l nr; (try simp only [Int32.reduceToInt, Int64.reduceToInt] at f5); have f6 := rng64 (nr.toInt64 &&& (2147483647 : Int64)); (try simp only [Int32.reduceToInt, Int64.reduceToInt] at f6); have f7 := c_maskL nr.toInt64 (2147483647 : Int64) 31 (by decide) (by decide); (try simp only [Int32.reduceToInt, Int64.reduceToInt] at f7); (try have f7e : (nr.toInt64 &&& (2147483647 : Int64)).toInt = nr.toInt64.toInt ∨ (nr.toInt64 &&& (2147483647 : Int64)).toInt = nr.toInt64.toInt + 2147483648 := (by omega)); have f8 := rng64 ((nr.toInt64 &&& (2147483647 : Int64)) % (2147483640 : Int64)); (try simp only [Int32.reduceToInt, Int64.reduceToInt] at f8); have f9 := (show (0 ≤ (nr.toInt64 &&& (2147483647 : Int64)).toInt → (((nr.toInt64 &&& (2147483647 : Int64)) % (2147483640 : Int64))).toInt = (nr.toInt64 &&& (2147483647 : Int64)).toInt % 2147483640) ∧ ((nr.toInt64 &&& (2147483647 : Int64)).toInt < 0 → (((nr.toInt64 &&& (2147483647 : Int64)) % (2147483640 : Int64))).toInt = -((-(nr.toInt64 &&& (2147483647 : Int64)).toInt) % 2147483640)) from by rw [← lrem_mod]; exact c_lrem (nr.toInt64 &&& (2147483647 : Int64)) (2147483640 : Int64) 2147483640 (by decide)); (try simp only [Int32.reduceToInt, Int64.reduceToInt] at f9); (try have f9e : ((nr.toInt64 &&& (2147483647 : Int64)) % (2147483640 : Int64)).toInt = (nr.toInt64 &&& (2147483647 : Int64)).toInt ∨ ((nr.toInt64 &&& (2147483647 : Int64)) % (2147483640 : Int64)).toInt = (nr.toInt64 &&& (2147483647 : Int64)).toInt - 2147483640 := (by omega)); (try simp only [Int32.reduceToInt, Int64.reduceToInt, and_true, true_and, or_true, true_or]); (first | done | omega)⟩
  rw [hn1]
  refine g_lstore (q := 17) (L' := #[.val (.int lr), .val (.int nr), .val (.int kd), .val (.int ln), .val (.long nd), .second, .unset, .unset, .unset, .unset, .unset, .unset, .unset, .unset, .unset, .unset, .unset, .unset]) X0.here hx (hb hby at_15) rfl rfl ?_
  refine g_iconst (q := 18) (v := (1 : Int32)) X0.here hx (hb hby at_17) rfl rfl ?_
  refine g_iloadN (q := 19) X0.here hx (hb hby at_18) rfl rfl ?_
  refine g_iconst (q := 20) (v := (3 : Int32)) X0.here hx (hb hby at_19) rfl rfl ?_
  refine g_iand (q := 21) X0.here hx (hb hby at_20) rfl ?_
  refine g_ishl (q := 22) X0.here hx (hb hby at_21) rfl ?_
  rcases own_shk kd with hq | hq | hq | hq
  · rw [hq]
    refine g_istore (q := 24) (L' := #[.val (.int lr), .val (.int nr), .val (.int kd), .val (.int ln), .val (.long nd), .second, .val (.int (1 : Int32)), .unset, .unset, .unset, .unset, .unset, .unset, .unset, .unset, .unset, .unset, .unset]) X0.here hx (hb hby at_22) rfl rfl ?_
    refine g_iloadN (q := 25) X0.here hx (hb hby at_24) rfl rfl ?_
    refine g_lload (q := 27) X0.here hx (hb hby at_25) rfl rfl ?_
    refine g_iload (q := 29) X0.here hx (hb hby at_27) rfl rfl ?_
    refine g_callSI (q := 32) X0 hx hZ hown (hw _ (List.mem_of_getElem? (i := 3) rfl)) (hw _ (List.mem_of_getElem? (i := 4) rfl)) (hw _ (List.mem_of_getElem? (i := 5) rfl)) (hw _ (List.mem_of_getElem? (i := 6) rfl)) (by decide) (rm1_1 l Z a0 hw [] ln nd h0 n0 Z0 hlnd hndd) (argsL := [.int ln, .long nd, .int (1 : Int32)]) (rest := []) pd_4 rfl rfl rfl (hb hby at_29) rfl (by rw [hml]; rfl) e0 (by decide) (W := 0) rfl (by decide) rfl rfl (by decide) (by decide) ?_
    intro T1 r2 X1 e1 hr2
    refine g_istore (q := 34) (L' := #[.val (.int lr), .val (.int nr), .val (.int kd), .val (.int ln), .val (.long nd), .second, .val (.int (1 : Int32)), .val (.int r2), .unset, .unset, .unset, .unset, .unset, .unset, .unset, .unset, .unset, .unset]) X1.here hx (hb hby at_32) rfl rfl ?_
    refine g_ldc2J (q := 37) X1 hx hZ hown (hw _ (List.mem_of_getElem? (i := 30) rfl)) (hb hby at_34) rfl ?_
    refine g_lstore (q := 39) (L' := #[.val (.int lr), .val (.int nr), .val (.int kd), .val (.int ln), .val (.long nd), .second, .val (.int (1 : Int32)), .val (.int r2), .val (.long (2147483639 : Int64)), .second, .unset, .unset, .unset, .unset, .unset, .unset, .unset, .unset]) X1.here hx (hb hby at_37) rfl rfl ?_
    refine g_lload (q := 41) X1.here hx (hb hby at_39) rfl rfl ?_
    refine g_ldc2J (q := 44) X1 hx hZ hown (hw _ (List.mem_of_getElem? (i := 31) rfl)) (hb hby at_41) rfl ?_
    refine g_iloadN (q := 45) X1.here hx (hb hby at_44) rfl rfl ?_
    refine g_i2l (q := 46) X1.here hx (hb hby at_45) rfl ?_
    refine g_lmul (q := 47) X1.here hx (hb hby at_46) rfl ?_
    refine g_callSJ (q := 50) X1 hx hZ hown (hw _ (List.mem_of_getElem? (i := 32) rfl)) (hw _ (List.mem_of_getElem? (i := 11) rfl)) (hw _ (List.mem_of_getElem? (i := 12) rfl)) (hw _ (List.mem_of_getElem? (i := 13) rfl)) (by decide) (rm2 l Z a0 hw [] nd ((2 : Int64) * ln.toInt64) h0 n0 Z0) (argsL := [.long nd, .long ((2 : Int64) * ln.toInt64)]) (rest := []) pd_2 rfl rfl rfl (hb hby at_47) rfl (by rw [hml]; rfl) e1 (by decide) (W := 0) rfl (by decide) rfl rfl (by decide) (by decide) ?_
    intro T3 r4 X3 e3 hr4
    refine g_lstore (q := 52) (L' := #[.val (.int lr), .val (.int nr), .val (.int kd), .val (.int ln), .val (.long nd), .second, .val (.int (1 : Int32)), .val (.int r2), .val (.long (2147483639 : Int64)), .second, .val (.long r4), .second, .unset, .unset, .unset, .unset, .unset, .unset]) X3.here hx (hb hby at_50) rfl rfl ?_
    refine g_ldc2J (q := 55) X3 hx hZ hown (hw _ (List.mem_of_getElem? (i := 33) rfl)) (hb hby at_52) rfl ?_
    refine g_lload (q := 57) X3.here hx (hb hby at_55) rfl rfl ?_
    refine g_iload (q := 59) X3.here hx (hb hby at_57) rfl rfl ?_
    refine g_i2l (q := 60) X3.here hx (hb hby at_59) rfl ?_
    rw [show (1 : Int32).toInt64 = (1 : Int64) from by decide]
    refine g_lmul (q := 61) X3.here hx (hb hby at_60) rfl ?_
    refine g_ladd (q := 62) X3.here hx (hb hby at_61) rfl ?_
    refine g_lstore (q := 64) (L' := #[.val (.int lr), .val (.int nr), .val (.int kd), .val (.int ln), .val (.long nd), .second, .val (.int (1 : Int32)), .val (.int r2), .val (.long (2147483639 : Int64)), .second, .val (.long r4), .second, .val (.long ((16 : Int64) + (r4 * (1 : Int64)))), .second, .unset, .unset, .unset, .unset]) X3.here hx (hb hby at_62) rfl rfl ?_
    refine g_iload (q := 66) X3.here hx (hb hby at_64) rfl rfl ?_
    refine g_bipush (q := 68) (v := (8 : Int32)) X3.here hx (hb hby at_66) rfl rfl ?_
    refine g_icmp_ne (q := 77) (q0 := 71) X3.here hx (hb hby at_68) (by decide) (by decide) rfl ?_ ?_
    · intro c5
      refine g_iload (q := 79) X3.here hx (hb hby at_77) rfl rfl ?_
      refine g_iconst (q := 80) (v := (4 : Int32)) X3.here hx (hb hby at_79) rfl rfl ?_
      refine g_icmp_ne (q := 89) (q0 := 83) X3.here hx (hb hby at_80) (by decide) (by decide) rfl ?_ ?_
      · intro c6
        refine g_ldc2J (q := 92) X3 hx hZ hown (hw _ (List.mem_of_getElem? (i := 36) rfl)) (hb hby at_89) rfl ?_
        refine g_lstore (q := 94) (L' := #[.val (.int lr), .val (.int nr), .val (.int kd), .val (.int ln), .val (.long nd), .second, .val (.int (1 : Int32)), .val (.int r2), .val (.long (2147483639 : Int64)), .second, .val (.long r4), .second, .val (.long ((16 : Int64) + (r4 * (1 : Int64)))), .second, .val (.long (2147483648 : Int64)), .second, .unset, .unset]) X3.here hx (hb hby at_92) rfl rfl ?_
        refine g_lload (q := 96) X3.here hx (hb hby at_94) rfl rfl ?_
        refine g_lload (q := 98) X3.here hx (hb hby at_96) rfl rfl ?_
        refine g_lcmp_le (q := 117) (q1 := 99) (q0 := 102) X3.here hx (hb hby at_98) rfl (hb hby at_99) (by decide) (by decide) rfl ?_ ?_
        · intro c7
          obtain ⟨B0, B1, B2, B3, B4⟩ := own_lawB_1 hlnd hndd hr2 hr4 c7
          refine g_ldc2J (q := 120) X3 hx hZ hown (hw _ (List.mem_of_getElem? (i := 33) rfl)) (hb hby at_117) rfl ?_
          refine g_iload (q := 122) X3.here hx (hb hby at_120) rfl rfl ?_
          refine g_i2l (q := 123) X3.here hx (hb hby at_122) rfl ?_
          refine g_iload (q := 125) X3.here hx (hb hby at_123) rfl rfl ?_
          refine g_i2l (q := 126) X3.here hx (hb hby at_125) rfl ?_
          rw [show (1 : Int32).toInt64 = (1 : Int64) from by decide]
          refine g_lmul (q := 127) X3.here hx (hb hby at_126) rfl ?_
          refine g_ladd (q := 128) X3.here hx (hb hby at_127) rfl ?_
          refine g_lstore (q := 130) (L' := #[.val (.int lr), .val (.int nr), .val (.int kd), .val (.int ln), .val (.long nd), .second, .val (.int (1 : Int32)), .val (.int r2), .val (.long (2147483639 : Int64)), .second, .val (.long r4), .second, .val (.long ((16 : Int64) + (r4 * (1 : Int64)))), .second, .val (.long (2147483648 : Int64)), .second, .val (.long ((16 : Int64) + (r2.toInt64 * (1 : Int64)))), .second]) X3.here hx (hb hby at_128) rfl rfl ?_
          refine g_iload (q := 132) X3.here hx (hb hby at_130) rfl rfl ?_
          refine g_if_lt (q := 178) (q0 := 135) X3.here hx (hb hby at_132) (by decide) (by decide) rfl ?_ ?_
          · intro c8
            refine g_iconst (q := 179) (v := (0 : Int32)) X3.here hx (hb hby at_178) rfl rfl ?_
            exact g_zreturn (b := false) X3 hx hlk hrt (hb hby at_179) (by decide) (by decide) (by exfalso; (try simp only [Int32.reduceToInt, Int64.reduceToInt] at c8); omega)
          · intro c8
            refine g_lload (q := 137) X3.here hx (hb hby at_135) rfl rfl ?_
            refine g_lconst0 (q := 138) X3.here hx (hb hby at_137) rfl ?_
            refine g_lcmp_le (q := 178) (q1 := 139) (q0 := 142) X3.here hx (hb hby at_138) rfl (hb hby at_139) (by decide) (by decide) rfl ?_ ?_
            · intro c9
              refine g_iconst (q := 179) (v := (0 : Int32)) X3.here hx (hb hby at_178) rfl rfl ?_
              exact g_zreturn (b := false) X3 hx hlk hrt (hb hby at_179) (by decide) (by decide) (by exfalso; (try simp only [Int32.reduceToInt, Int64.reduceToInt] at c9); omega)
            · intro c9
              refine g_lload (q := 144) X3.here hx (hb hby at_142) rfl rfl ?_
              refine g_lload (q := 146) X3.here hx (hb hby at_144) rfl rfl ?_
              refine g_lconst1 (q := 147) X3.here hx (hb hby at_146) rfl ?_
              refine g_lsub (q := 148) X3.here hx (hb hby at_147) rfl ?_
              refine g_land (q := 149) X3.here hx (hb hby at_148) rfl ?_
              refine g_lconst0 (q := 150) X3.here hx (hb hby at_149) rfl ?_
              refine g_lcmp_ne (q := 178) (q1 := 151) (q0 := 154) X3.here hx (hb hby at_150) rfl (hb hby at_151) (by decide) (by decide) rfl ?_ ?_
              · intro c10
                refine g_iconst (q := 179) (v := (0 : Int32)) X3.here hx (hb hby at_178) rfl rfl ?_
                exact g_zreturn (b := false) X3 hx hlk hrt (hb hby at_179) (by decide) (by decide) (by exfalso; (try simp only [Int32.reduceToInt, Int64.reduceToInt] at c10); omega)
              · intro c10
                refine g_lload (q := 156) X3.here hx (hb hby at_154) rfl rfl ?_
                refine g_lload (q := 158) X3.here hx (hb hby at_156) rfl rfl ?_
                refine g_lcmp_lt (q := 178) (q1 := 159) (q0 := 162) X3.here hx (hb hby at_158) rfl (hb hby at_159) (by decide) (by decide) rfl ?_ ?_
                · intro c11
                  refine g_iconst (q := 179) (v := (0 : Int32)) X3.here hx (hb hby at_178) rfl rfl ?_
                  exact g_zreturn (b := false) X3 hx hlk hrt (hb hby at_179) (by decide) (by decide) (by exfalso; (try simp only [Int32.reduceToInt, Int64.reduceToInt] at c11); omega)
                · intro c11
                  refine g_lload (q := 164) X3.here hx (hb hby at_162) rfl rfl ?_
                  refine g_ldc2J (q := 167) X3 hx hZ hown (hw _ (List.mem_of_getElem? (i := 31) rfl)) (hb hby at_164) rfl ?_
                  refine g_ldiv (q := 168) X3.here hx (hb hby at_167) (by decide) rfl ?_
                  refine g_lload (q := 170) X3.here hx (hb hby at_168) rfl rfl ?_
                  refine g_sel_lcmp_ge (q := 179) (q1 := 171) X3.here hx (hb hby at_170) rfl (hb hby at_171) (by decide) (by decide) rfl (hb hby at_178) (hb hby at_174) (hb hby at_175) rfl (by decide) (by decide) rfl ?_
                  exact g_zreturn (b := decide ((((16 : Int64) + (r2.toInt64 * (1 : Int64))) / (2 : Int64)).toInt < ((16 : Int64) + (r4 * (1 : Int64))).toInt)) X3 hx hlk hrt (hb hby at_179) (by decide) (by decide) ⟨okB (decide_eq_true B4), N0⟩
        · intro c7
          refine g_iload (q := 104) X3.here hx (hb hby at_102) rfl rfl ?_
          refine g_i2l (q := 105) X3.here hx (hb hby at_104) rfl ?_
          refine g_lload (q := 107) X3.here hx (hb hby at_105) rfl rfl ?_
          refine g_sel_lcmp_ne (q := 116) (q1 := 108) X3.here hx (hb hby at_107) rfl (hb hby at_108) (by decide) (by decide) rfl (hb hby at_115) (hb hby at_111) (hb hby at_112) rfl (by decide) (by decide) rfl ?_
          exact g_zreturn (b := decide (r2.toInt64.toInt = (2147483639 : Int))) X3 hx hlk hrt (hb hby at_116) (by decide) (by decide) ⟨okB (decide_eq_true (by have h1 := own_lawA_1 hlnd hndd hr2 hr4 c7; have h2 := c_i2l r2; simp only [Int32.reduceToInt, Int64.reduceToInt] at *; omega)), N0⟩
      · intro c6; exact absurd c6 (by decide)
    · intro c5; exact absurd c5 (by decide)
  · rw [hq]
    refine g_istore (q := 24) (L' := #[.val (.int lr), .val (.int nr), .val (.int kd), .val (.int ln), .val (.long nd), .second, .val (.int (2 : Int32)), .unset, .unset, .unset, .unset, .unset, .unset, .unset, .unset, .unset, .unset, .unset]) X0.here hx (hb hby at_22) rfl rfl ?_
    refine g_iloadN (q := 25) X0.here hx (hb hby at_24) rfl rfl ?_
    refine g_lload (q := 27) X0.here hx (hb hby at_25) rfl rfl ?_
    refine g_iload (q := 29) X0.here hx (hb hby at_27) rfl rfl ?_
    refine g_callSI (q := 32) X0 hx hZ hown (hw _ (List.mem_of_getElem? (i := 3) rfl)) (hw _ (List.mem_of_getElem? (i := 4) rfl)) (hw _ (List.mem_of_getElem? (i := 5) rfl)) (hw _ (List.mem_of_getElem? (i := 6) rfl)) (by decide) (rm1_2 l Z a0 hw [] ln nd h0 n0 Z0 hlnd hndd) (argsL := [.int ln, .long nd, .int (2 : Int32)]) (rest := []) pd_4 rfl rfl rfl (hb hby at_29) rfl (by rw [hml]; rfl) e0 (by decide) (W := 0) rfl (by decide) rfl rfl (by decide) (by decide) ?_
    intro T12 r13 X12 e12 hr13
    refine g_istore (q := 34) (L' := #[.val (.int lr), .val (.int nr), .val (.int kd), .val (.int ln), .val (.long nd), .second, .val (.int (2 : Int32)), .val (.int r13), .unset, .unset, .unset, .unset, .unset, .unset, .unset, .unset, .unset, .unset]) X12.here hx (hb hby at_32) rfl rfl ?_
    refine g_ldc2J (q := 37) X12 hx hZ hown (hw _ (List.mem_of_getElem? (i := 30) rfl)) (hb hby at_34) rfl ?_
    refine g_lstore (q := 39) (L' := #[.val (.int lr), .val (.int nr), .val (.int kd), .val (.int ln), .val (.long nd), .second, .val (.int (2 : Int32)), .val (.int r13), .val (.long (2147483639 : Int64)), .second, .unset, .unset, .unset, .unset, .unset, .unset, .unset, .unset]) X12.here hx (hb hby at_37) rfl rfl ?_
    refine g_lload (q := 41) X12.here hx (hb hby at_39) rfl rfl ?_
    refine g_ldc2J (q := 44) X12 hx hZ hown (hw _ (List.mem_of_getElem? (i := 31) rfl)) (hb hby at_41) rfl ?_
    refine g_iloadN (q := 45) X12.here hx (hb hby at_44) rfl rfl ?_
    refine g_i2l (q := 46) X12.here hx (hb hby at_45) rfl ?_
    refine g_lmul (q := 47) X12.here hx (hb hby at_46) rfl ?_
    refine g_callSJ (q := 50) X12 hx hZ hown (hw _ (List.mem_of_getElem? (i := 32) rfl)) (hw _ (List.mem_of_getElem? (i := 11) rfl)) (hw _ (List.mem_of_getElem? (i := 12) rfl)) (hw _ (List.mem_of_getElem? (i := 13) rfl)) (by decide) (rm2 l Z a0 hw [] nd ((2 : Int64) * ln.toInt64) h0 n0 Z0) (argsL := [.long nd, .long ((2 : Int64) * ln.toInt64)]) (rest := []) pd_2 rfl rfl rfl (hb hby at_47) rfl (by rw [hml]; rfl) e12 (by decide) (W := 0) rfl (by decide) rfl rfl (by decide) (by decide) ?_
    intro T14 r15 X14 e14 hr15
    refine g_lstore (q := 52) (L' := #[.val (.int lr), .val (.int nr), .val (.int kd), .val (.int ln), .val (.long nd), .second, .val (.int (2 : Int32)), .val (.int r13), .val (.long (2147483639 : Int64)), .second, .val (.long r15), .second, .unset, .unset, .unset, .unset, .unset, .unset]) X14.here hx (hb hby at_50) rfl rfl ?_
    refine g_ldc2J (q := 55) X14 hx hZ hown (hw _ (List.mem_of_getElem? (i := 33) rfl)) (hb hby at_52) rfl ?_
    refine g_lload (q := 57) X14.here hx (hb hby at_55) rfl rfl ?_
    refine g_iload (q := 59) X14.here hx (hb hby at_57) rfl rfl ?_
    refine g_i2l (q := 60) X14.here hx (hb hby at_59) rfl ?_
    rw [show (2 : Int32).toInt64 = (2 : Int64) from by decide]
    refine g_lmul (q := 61) X14.here hx (hb hby at_60) rfl ?_
    refine g_ladd (q := 62) X14.here hx (hb hby at_61) rfl ?_
    refine g_lstore (q := 64) (L' := #[.val (.int lr), .val (.int nr), .val (.int kd), .val (.int ln), .val (.long nd), .second, .val (.int (2 : Int32)), .val (.int r13), .val (.long (2147483639 : Int64)), .second, .val (.long r15), .second, .val (.long ((16 : Int64) + (r15 * (2 : Int64)))), .second, .unset, .unset, .unset, .unset]) X14.here hx (hb hby at_62) rfl rfl ?_
    refine g_iload (q := 66) X14.here hx (hb hby at_64) rfl rfl ?_
    refine g_bipush (q := 68) (v := (8 : Int32)) X14.here hx (hb hby at_66) rfl rfl ?_
    refine g_icmp_ne (q := 77) (q0 := 71) X14.here hx (hb hby at_68) (by decide) (by decide) rfl ?_ ?_
    · intro c16
      refine g_iload (q := 79) X14.here hx (hb hby at_77) rfl rfl ?_
      refine g_iconst (q := 80) (v := (4 : Int32)) X14.here hx (hb hby at_79) rfl rfl ?_
      refine g_icmp_ne (q := 89) (q0 := 83) X14.here hx (hb hby at_80) (by decide) (by decide) rfl ?_ ?_
      · intro c17
        refine g_ldc2J (q := 92) X14 hx hZ hown (hw _ (List.mem_of_getElem? (i := 36) rfl)) (hb hby at_89) rfl ?_
        refine g_lstore (q := 94) (L' := #[.val (.int lr), .val (.int nr), .val (.int kd), .val (.int ln), .val (.long nd), .second, .val (.int (2 : Int32)), .val (.int r13), .val (.long (2147483639 : Int64)), .second, .val (.long r15), .second, .val (.long ((16 : Int64) + (r15 * (2 : Int64)))), .second, .val (.long (2147483648 : Int64)), .second, .unset, .unset]) X14.here hx (hb hby at_92) rfl rfl ?_
        refine g_lload (q := 96) X14.here hx (hb hby at_94) rfl rfl ?_
        refine g_lload (q := 98) X14.here hx (hb hby at_96) rfl rfl ?_
        refine g_lcmp_le (q := 117) (q1 := 99) (q0 := 102) X14.here hx (hb hby at_98) rfl (hb hby at_99) (by decide) (by decide) rfl ?_ ?_
        · intro c18
          obtain ⟨B0, B1, B2, B3, B4⟩ := own_lawB_2 hlnd hndd hr13 hr15 c18
          refine g_ldc2J (q := 120) X14 hx hZ hown (hw _ (List.mem_of_getElem? (i := 33) rfl)) (hb hby at_117) rfl ?_
          refine g_iload (q := 122) X14.here hx (hb hby at_120) rfl rfl ?_
          refine g_i2l (q := 123) X14.here hx (hb hby at_122) rfl ?_
          refine g_iload (q := 125) X14.here hx (hb hby at_123) rfl rfl ?_
          refine g_i2l (q := 126) X14.here hx (hb hby at_125) rfl ?_
          rw [show (2 : Int32).toInt64 = (2 : Int64) from by decide]
          refine g_lmul (q := 127) X14.here hx (hb hby at_126) rfl ?_
          refine g_ladd (q := 128) X14.here hx (hb hby at_127) rfl ?_
          refine g_lstore (q := 130) (L' := #[.val (.int lr), .val (.int nr), .val (.int kd), .val (.int ln), .val (.long nd), .second, .val (.int (2 : Int32)), .val (.int r13), .val (.long (2147483639 : Int64)), .second, .val (.long r15), .second, .val (.long ((16 : Int64) + (r15 * (2 : Int64)))), .second, .val (.long (2147483648 : Int64)), .second, .val (.long ((16 : Int64) + (r13.toInt64 * (2 : Int64)))), .second]) X14.here hx (hb hby at_128) rfl rfl ?_
          refine g_iload (q := 132) X14.here hx (hb hby at_130) rfl rfl ?_
          refine g_if_lt (q := 178) (q0 := 135) X14.here hx (hb hby at_132) (by decide) (by decide) rfl ?_ ?_
          · intro c19
            refine g_iconst (q := 179) (v := (0 : Int32)) X14.here hx (hb hby at_178) rfl rfl ?_
            exact g_zreturn (b := false) X14 hx hlk hrt (hb hby at_179) (by decide) (by decide) (by exfalso; (try simp only [Int32.reduceToInt, Int64.reduceToInt] at c19); omega)
          · intro c19
            refine g_lload (q := 137) X14.here hx (hb hby at_135) rfl rfl ?_
            refine g_lconst0 (q := 138) X14.here hx (hb hby at_137) rfl ?_
            refine g_lcmp_le (q := 178) (q1 := 139) (q0 := 142) X14.here hx (hb hby at_138) rfl (hb hby at_139) (by decide) (by decide) rfl ?_ ?_
            · intro c20
              refine g_iconst (q := 179) (v := (0 : Int32)) X14.here hx (hb hby at_178) rfl rfl ?_
              exact g_zreturn (b := false) X14 hx hlk hrt (hb hby at_179) (by decide) (by decide) (by exfalso; (try simp only [Int32.reduceToInt, Int64.reduceToInt] at c20); omega)
            · intro c20
              refine g_lload (q := 144) X14.here hx (hb hby at_142) rfl rfl ?_
              refine g_lload (q := 146) X14.here hx (hb hby at_144) rfl rfl ?_
              refine g_lconst1 (q := 147) X14.here hx (hb hby at_146) rfl ?_
              refine g_lsub (q := 148) X14.here hx (hb hby at_147) rfl ?_
              refine g_land (q := 149) X14.here hx (hb hby at_148) rfl ?_
              refine g_lconst0 (q := 150) X14.here hx (hb hby at_149) rfl ?_
              refine g_lcmp_ne (q := 178) (q1 := 151) (q0 := 154) X14.here hx (hb hby at_150) rfl (hb hby at_151) (by decide) (by decide) rfl ?_ ?_
              · intro c21
                refine g_iconst (q := 179) (v := (0 : Int32)) X14.here hx (hb hby at_178) rfl rfl ?_
                exact g_zreturn (b := false) X14 hx hlk hrt (hb hby at_179) (by decide) (by decide) (by exfalso; (try simp only [Int32.reduceToInt, Int64.reduceToInt] at c21); omega)
              · intro c21
                refine g_lload (q := 156) X14.here hx (hb hby at_154) rfl rfl ?_
                refine g_lload (q := 158) X14.here hx (hb hby at_156) rfl rfl ?_
                refine g_lcmp_lt (q := 178) (q1 := 159) (q0 := 162) X14.here hx (hb hby at_158) rfl (hb hby at_159) (by decide) (by decide) rfl ?_ ?_
                · intro c22
                  refine g_iconst (q := 179) (v := (0 : Int32)) X14.here hx (hb hby at_178) rfl rfl ?_
                  exact g_zreturn (b := false) X14 hx hlk hrt (hb hby at_179) (by decide) (by decide) (by exfalso; (try simp only [Int32.reduceToInt, Int64.reduceToInt] at c22); omega)
                · intro c22
                  refine g_lload (q := 164) X14.here hx (hb hby at_162) rfl rfl ?_
                  refine g_ldc2J (q := 167) X14 hx hZ hown (hw _ (List.mem_of_getElem? (i := 31) rfl)) (hb hby at_164) rfl ?_
                  refine g_ldiv (q := 168) X14.here hx (hb hby at_167) (by decide) rfl ?_
                  refine g_lload (q := 170) X14.here hx (hb hby at_168) rfl rfl ?_
                  refine g_sel_lcmp_ge (q := 179) (q1 := 171) X14.here hx (hb hby at_170) rfl (hb hby at_171) (by decide) (by decide) rfl (hb hby at_178) (hb hby at_174) (hb hby at_175) rfl (by decide) (by decide) rfl ?_
                  exact g_zreturn (b := decide ((((16 : Int64) + (r13.toInt64 * (2 : Int64))) / (2 : Int64)).toInt < ((16 : Int64) + (r15 * (2 : Int64))).toInt)) X14 hx hlk hrt (hb hby at_179) (by decide) (by decide) ⟨okB (decide_eq_true B4), N0⟩
        · intro c18
          refine g_iload (q := 104) X14.here hx (hb hby at_102) rfl rfl ?_
          refine g_i2l (q := 105) X14.here hx (hb hby at_104) rfl ?_
          refine g_lload (q := 107) X14.here hx (hb hby at_105) rfl rfl ?_
          refine g_sel_lcmp_ne (q := 116) (q1 := 108) X14.here hx (hb hby at_107) rfl (hb hby at_108) (by decide) (by decide) rfl (hb hby at_115) (hb hby at_111) (hb hby at_112) rfl (by decide) (by decide) rfl ?_
          exact g_zreturn (b := decide (r13.toInt64.toInt = (2147483639 : Int))) X14 hx hlk hrt (hb hby at_116) (by decide) (by decide) ⟨okB (decide_eq_true (by have h1 := own_lawA_2 hlnd hndd hr13 hr15 c18; have h2 := c_i2l r13; simp only [Int32.reduceToInt, Int64.reduceToInt] at *; omega)), N0⟩
      · intro c17; exact absurd c17 (by decide)
    · intro c16; exact absurd c16 (by decide)
  · rw [hq]
    refine g_istore (q := 24) (L' := #[.val (.int lr), .val (.int nr), .val (.int kd), .val (.int ln), .val (.long nd), .second, .val (.int (4 : Int32)), .unset, .unset, .unset, .unset, .unset, .unset, .unset, .unset, .unset, .unset, .unset]) X0.here hx (hb hby at_22) rfl rfl ?_
    refine g_iloadN (q := 25) X0.here hx (hb hby at_24) rfl rfl ?_
    refine g_lload (q := 27) X0.here hx (hb hby at_25) rfl rfl ?_
    refine g_iload (q := 29) X0.here hx (hb hby at_27) rfl rfl ?_
    refine g_callSI (q := 32) X0 hx hZ hown (hw _ (List.mem_of_getElem? (i := 3) rfl)) (hw _ (List.mem_of_getElem? (i := 4) rfl)) (hw _ (List.mem_of_getElem? (i := 5) rfl)) (hw _ (List.mem_of_getElem? (i := 6) rfl)) (by decide) (rm1_4 l Z a0 hw [] ln nd h0 n0 Z0 hlnd hndd) (argsL := [.int ln, .long nd, .int (4 : Int32)]) (rest := []) pd_4 rfl rfl rfl (hb hby at_29) rfl (by rw [hml]; rfl) e0 (by decide) (W := 0) rfl (by decide) rfl rfl (by decide) (by decide) ?_
    intro T23 r24 X23 e23 hr24
    refine g_istore (q := 34) (L' := #[.val (.int lr), .val (.int nr), .val (.int kd), .val (.int ln), .val (.long nd), .second, .val (.int (4 : Int32)), .val (.int r24), .unset, .unset, .unset, .unset, .unset, .unset, .unset, .unset, .unset, .unset]) X23.here hx (hb hby at_32) rfl rfl ?_
    refine g_ldc2J (q := 37) X23 hx hZ hown (hw _ (List.mem_of_getElem? (i := 30) rfl)) (hb hby at_34) rfl ?_
    refine g_lstore (q := 39) (L' := #[.val (.int lr), .val (.int nr), .val (.int kd), .val (.int ln), .val (.long nd), .second, .val (.int (4 : Int32)), .val (.int r24), .val (.long (2147483639 : Int64)), .second, .unset, .unset, .unset, .unset, .unset, .unset, .unset, .unset]) X23.here hx (hb hby at_37) rfl rfl ?_
    refine g_lload (q := 41) X23.here hx (hb hby at_39) rfl rfl ?_
    refine g_ldc2J (q := 44) X23 hx hZ hown (hw _ (List.mem_of_getElem? (i := 31) rfl)) (hb hby at_41) rfl ?_
    refine g_iloadN (q := 45) X23.here hx (hb hby at_44) rfl rfl ?_
    refine g_i2l (q := 46) X23.here hx (hb hby at_45) rfl ?_
    refine g_lmul (q := 47) X23.here hx (hb hby at_46) rfl ?_
    refine g_callSJ (q := 50) X23 hx hZ hown (hw _ (List.mem_of_getElem? (i := 32) rfl)) (hw _ (List.mem_of_getElem? (i := 11) rfl)) (hw _ (List.mem_of_getElem? (i := 12) rfl)) (hw _ (List.mem_of_getElem? (i := 13) rfl)) (by decide) (rm2 l Z a0 hw [] nd ((2 : Int64) * ln.toInt64) h0 n0 Z0) (argsL := [.long nd, .long ((2 : Int64) * ln.toInt64)]) (rest := []) pd_2 rfl rfl rfl (hb hby at_47) rfl (by rw [hml]; rfl) e23 (by decide) (W := 0) rfl (by decide) rfl rfl (by decide) (by decide) ?_
    intro T25 r26 X25 e25 hr26
    refine g_lstore (q := 52) (L' := #[.val (.int lr), .val (.int nr), .val (.int kd), .val (.int ln), .val (.long nd), .second, .val (.int (4 : Int32)), .val (.int r24), .val (.long (2147483639 : Int64)), .second, .val (.long r26), .second, .unset, .unset, .unset, .unset, .unset, .unset]) X25.here hx (hb hby at_50) rfl rfl ?_
    refine g_ldc2J (q := 55) X25 hx hZ hown (hw _ (List.mem_of_getElem? (i := 33) rfl)) (hb hby at_52) rfl ?_
    refine g_lload (q := 57) X25.here hx (hb hby at_55) rfl rfl ?_
    refine g_iload (q := 59) X25.here hx (hb hby at_57) rfl rfl ?_
    refine g_i2l (q := 60) X25.here hx (hb hby at_59) rfl ?_
    rw [show (4 : Int32).toInt64 = (4 : Int64) from by decide]
    refine g_lmul (q := 61) X25.here hx (hb hby at_60) rfl ?_
    refine g_ladd (q := 62) X25.here hx (hb hby at_61) rfl ?_
    refine g_lstore (q := 64) (L' := #[.val (.int lr), .val (.int nr), .val (.int kd), .val (.int ln), .val (.long nd), .second, .val (.int (4 : Int32)), .val (.int r24), .val (.long (2147483639 : Int64)), .second, .val (.long r26), .second, .val (.long ((16 : Int64) + (r26 * (4 : Int64)))), .second, .unset, .unset, .unset, .unset]) X25.here hx (hb hby at_62) rfl rfl ?_
    refine g_iload (q := 66) X25.here hx (hb hby at_64) rfl rfl ?_
    refine g_bipush (q := 68) (v := (8 : Int32)) X25.here hx (hb hby at_66) rfl rfl ?_
    refine g_icmp_ne (q := 77) (q0 := 71) X25.here hx (hb hby at_68) (by decide) (by decide) rfl ?_ ?_
    · intro c27
      refine g_iload (q := 79) X25.here hx (hb hby at_77) rfl rfl ?_
      refine g_iconst (q := 80) (v := (4 : Int32)) X25.here hx (hb hby at_79) rfl rfl ?_
      refine g_icmp_ne (q := 89) (q0 := 83) X25.here hx (hb hby at_80) (by decide) (by decide) rfl ?_ ?_
      · intro c28; exact absurd c28 (by decide)
      · intro c28
        refine g_ldc2J (q := 86) X25 hx hZ hown (hw _ (List.mem_of_getElem? (i := 34) rfl)) (hb hby at_83) rfl ?_
        refine g_goto (q := 92) X25.here hx (hb hby at_86) (by decide) (by decide) ?_
        refine g_lstore (q := 94) (L' := #[.val (.int lr), .val (.int nr), .val (.int kd), .val (.int ln), .val (.long nd), .second, .val (.int (4 : Int32)), .val (.int r24), .val (.long (2147483639 : Int64)), .second, .val (.long r26), .second, .val (.long ((16 : Int64) + (r26 * (4 : Int64)))), .second, .val (.long (4294967296 : Int64)), .second, .unset, .unset]) X25.here hx (hb hby at_92) rfl rfl ?_
        refine g_lload (q := 96) X25.here hx (hb hby at_94) rfl rfl ?_
        refine g_lload (q := 98) X25.here hx (hb hby at_96) rfl rfl ?_
        refine g_lcmp_le (q := 117) (q1 := 99) (q0 := 102) X25.here hx (hb hby at_98) rfl (hb hby at_99) (by decide) (by decide) rfl ?_ ?_
        · intro c29
          obtain ⟨B0, B1, B2, B3, B4⟩ := own_lawB_4 hlnd hndd hr24 hr26 c29
          refine g_ldc2J (q := 120) X25 hx hZ hown (hw _ (List.mem_of_getElem? (i := 33) rfl)) (hb hby at_117) rfl ?_
          refine g_iload (q := 122) X25.here hx (hb hby at_120) rfl rfl ?_
          refine g_i2l (q := 123) X25.here hx (hb hby at_122) rfl ?_
          refine g_iload (q := 125) X25.here hx (hb hby at_123) rfl rfl ?_
          refine g_i2l (q := 126) X25.here hx (hb hby at_125) rfl ?_
          rw [show (4 : Int32).toInt64 = (4 : Int64) from by decide]
          refine g_lmul (q := 127) X25.here hx (hb hby at_126) rfl ?_
          refine g_ladd (q := 128) X25.here hx (hb hby at_127) rfl ?_
          refine g_lstore (q := 130) (L' := #[.val (.int lr), .val (.int nr), .val (.int kd), .val (.int ln), .val (.long nd), .second, .val (.int (4 : Int32)), .val (.int r24), .val (.long (2147483639 : Int64)), .second, .val (.long r26), .second, .val (.long ((16 : Int64) + (r26 * (4 : Int64)))), .second, .val (.long (4294967296 : Int64)), .second, .val (.long ((16 : Int64) + (r24.toInt64 * (4 : Int64)))), .second]) X25.here hx (hb hby at_128) rfl rfl ?_
          refine g_iload (q := 132) X25.here hx (hb hby at_130) rfl rfl ?_
          refine g_if_lt (q := 178) (q0 := 135) X25.here hx (hb hby at_132) (by decide) (by decide) rfl ?_ ?_
          · intro c30
            refine g_iconst (q := 179) (v := (0 : Int32)) X25.here hx (hb hby at_178) rfl rfl ?_
            exact g_zreturn (b := false) X25 hx hlk hrt (hb hby at_179) (by decide) (by decide) (by exfalso; (try simp only [Int32.reduceToInt, Int64.reduceToInt] at c30); omega)
          · intro c30
            refine g_lload (q := 137) X25.here hx (hb hby at_135) rfl rfl ?_
            refine g_lconst0 (q := 138) X25.here hx (hb hby at_137) rfl ?_
            refine g_lcmp_le (q := 178) (q1 := 139) (q0 := 142) X25.here hx (hb hby at_138) rfl (hb hby at_139) (by decide) (by decide) rfl ?_ ?_
            · intro c31
              refine g_iconst (q := 179) (v := (0 : Int32)) X25.here hx (hb hby at_178) rfl rfl ?_
              exact g_zreturn (b := false) X25 hx hlk hrt (hb hby at_179) (by decide) (by decide) (by exfalso; (try simp only [Int32.reduceToInt, Int64.reduceToInt] at c31); omega)
            · intro c31
              refine g_lload (q := 144) X25.here hx (hb hby at_142) rfl rfl ?_
              refine g_lload (q := 146) X25.here hx (hb hby at_144) rfl rfl ?_
              refine g_lconst1 (q := 147) X25.here hx (hb hby at_146) rfl ?_
              refine g_lsub (q := 148) X25.here hx (hb hby at_147) rfl ?_
              refine g_land (q := 149) X25.here hx (hb hby at_148) rfl ?_
              refine g_lconst0 (q := 150) X25.here hx (hb hby at_149) rfl ?_
              refine g_lcmp_ne (q := 178) (q1 := 151) (q0 := 154) X25.here hx (hb hby at_150) rfl (hb hby at_151) (by decide) (by decide) rfl ?_ ?_
              · intro c32
                refine g_iconst (q := 179) (v := (0 : Int32)) X25.here hx (hb hby at_178) rfl rfl ?_
                exact g_zreturn (b := false) X25 hx hlk hrt (hb hby at_179) (by decide) (by decide) (by exfalso; (try simp only [Int32.reduceToInt, Int64.reduceToInt] at c32); omega)
              · intro c32
                refine g_lload (q := 156) X25.here hx (hb hby at_154) rfl rfl ?_
                refine g_lload (q := 158) X25.here hx (hb hby at_156) rfl rfl ?_
                refine g_lcmp_lt (q := 178) (q1 := 159) (q0 := 162) X25.here hx (hb hby at_158) rfl (hb hby at_159) (by decide) (by decide) rfl ?_ ?_
                · intro c33
                  refine g_iconst (q := 179) (v := (0 : Int32)) X25.here hx (hb hby at_178) rfl rfl ?_
                  exact g_zreturn (b := false) X25 hx hlk hrt (hb hby at_179) (by decide) (by decide) (by exfalso; (try simp only [Int32.reduceToInt, Int64.reduceToInt] at c33); omega)
                · intro c33
                  refine g_lload (q := 164) X25.here hx (hb hby at_162) rfl rfl ?_
                  refine g_ldc2J (q := 167) X25 hx hZ hown (hw _ (List.mem_of_getElem? (i := 31) rfl)) (hb hby at_164) rfl ?_
                  refine g_ldiv (q := 168) X25.here hx (hb hby at_167) (by decide) rfl ?_
                  refine g_lload (q := 170) X25.here hx (hb hby at_168) rfl rfl ?_
                  refine g_sel_lcmp_ge (q := 179) (q1 := 171) X25.here hx (hb hby at_170) rfl (hb hby at_171) (by decide) (by decide) rfl (hb hby at_178) (hb hby at_174) (hb hby at_175) rfl (by decide) (by decide) rfl ?_
                  exact g_zreturn (b := decide ((((16 : Int64) + (r24.toInt64 * (4 : Int64))) / (2 : Int64)).toInt < ((16 : Int64) + (r26 * (4 : Int64))).toInt)) X25 hx hlk hrt (hb hby at_179) (by decide) (by decide) ⟨okB (decide_eq_true B4), N0⟩
        · intro c29
          refine g_iload (q := 104) X25.here hx (hb hby at_102) rfl rfl ?_
          refine g_i2l (q := 105) X25.here hx (hb hby at_104) rfl ?_
          refine g_lload (q := 107) X25.here hx (hb hby at_105) rfl rfl ?_
          refine g_sel_lcmp_ne (q := 116) (q1 := 108) X25.here hx (hb hby at_107) rfl (hb hby at_108) (by decide) (by decide) rfl (hb hby at_115) (hb hby at_111) (hb hby at_112) rfl (by decide) (by decide) rfl ?_
          exact g_zreturn (b := decide (r24.toInt64.toInt = (2147483639 : Int))) X25 hx hlk hrt (hb hby at_116) (by decide) (by decide) ⟨okB (decide_eq_true (by have h1 := own_lawA_4 hlnd hndd hr24 hr26 c29; have h2 := c_i2l r24; simp only [Int32.reduceToInt, Int64.reduceToInt] at *; omega)), N0⟩
    · intro c27; exact absurd c27 (by decide)
  · rw [hq]
    refine g_istore (q := 24) (L' := #[.val (.int lr), .val (.int nr), .val (.int kd), .val (.int ln), .val (.long nd), .second, .val (.int (8 : Int32)), .unset, .unset, .unset, .unset, .unset, .unset, .unset, .unset, .unset, .unset, .unset]) X0.here hx (hb hby at_22) rfl rfl ?_
    refine g_iloadN (q := 25) X0.here hx (hb hby at_24) rfl rfl ?_
    refine g_lload (q := 27) X0.here hx (hb hby at_25) rfl rfl ?_
    refine g_iload (q := 29) X0.here hx (hb hby at_27) rfl rfl ?_
    refine g_callSI (q := 32) X0 hx hZ hown (hw _ (List.mem_of_getElem? (i := 3) rfl)) (hw _ (List.mem_of_getElem? (i := 4) rfl)) (hw _ (List.mem_of_getElem? (i := 5) rfl)) (hw _ (List.mem_of_getElem? (i := 6) rfl)) (by decide) (rm1_8 l Z a0 hw [] ln nd h0 n0 Z0 hlnd hndd) (argsL := [.int ln, .long nd, .int (8 : Int32)]) (rest := []) pd_4 rfl rfl rfl (hb hby at_29) rfl (by rw [hml]; rfl) e0 (by decide) (W := 0) rfl (by decide) rfl rfl (by decide) (by decide) ?_
    intro T34 r35 X34 e34 hr35
    refine g_istore (q := 34) (L' := #[.val (.int lr), .val (.int nr), .val (.int kd), .val (.int ln), .val (.long nd), .second, .val (.int (8 : Int32)), .val (.int r35), .unset, .unset, .unset, .unset, .unset, .unset, .unset, .unset, .unset, .unset]) X34.here hx (hb hby at_32) rfl rfl ?_
    refine g_ldc2J (q := 37) X34 hx hZ hown (hw _ (List.mem_of_getElem? (i := 30) rfl)) (hb hby at_34) rfl ?_
    refine g_lstore (q := 39) (L' := #[.val (.int lr), .val (.int nr), .val (.int kd), .val (.int ln), .val (.long nd), .second, .val (.int (8 : Int32)), .val (.int r35), .val (.long (2147483639 : Int64)), .second, .unset, .unset, .unset, .unset, .unset, .unset, .unset, .unset]) X34.here hx (hb hby at_37) rfl rfl ?_
    refine g_lload (q := 41) X34.here hx (hb hby at_39) rfl rfl ?_
    refine g_ldc2J (q := 44) X34 hx hZ hown (hw _ (List.mem_of_getElem? (i := 31) rfl)) (hb hby at_41) rfl ?_
    refine g_iloadN (q := 45) X34.here hx (hb hby at_44) rfl rfl ?_
    refine g_i2l (q := 46) X34.here hx (hb hby at_45) rfl ?_
    refine g_lmul (q := 47) X34.here hx (hb hby at_46) rfl ?_
    refine g_callSJ (q := 50) X34 hx hZ hown (hw _ (List.mem_of_getElem? (i := 32) rfl)) (hw _ (List.mem_of_getElem? (i := 11) rfl)) (hw _ (List.mem_of_getElem? (i := 12) rfl)) (hw _ (List.mem_of_getElem? (i := 13) rfl)) (by decide) (rm2 l Z a0 hw [] nd ((2 : Int64) * ln.toInt64) h0 n0 Z0) (argsL := [.long nd, .long ((2 : Int64) * ln.toInt64)]) (rest := []) pd_2 rfl rfl rfl (hb hby at_47) rfl (by rw [hml]; rfl) e34 (by decide) (W := 0) rfl (by decide) rfl rfl (by decide) (by decide) ?_
    intro T36 r37 X36 e36 hr37
    refine g_lstore (q := 52) (L' := #[.val (.int lr), .val (.int nr), .val (.int kd), .val (.int ln), .val (.long nd), .second, .val (.int (8 : Int32)), .val (.int r35), .val (.long (2147483639 : Int64)), .second, .val (.long r37), .second, .unset, .unset, .unset, .unset, .unset, .unset]) X36.here hx (hb hby at_50) rfl rfl ?_
    refine g_ldc2J (q := 55) X36 hx hZ hown (hw _ (List.mem_of_getElem? (i := 33) rfl)) (hb hby at_52) rfl ?_
    refine g_lload (q := 57) X36.here hx (hb hby at_55) rfl rfl ?_
    refine g_iload (q := 59) X36.here hx (hb hby at_57) rfl rfl ?_
    refine g_i2l (q := 60) X36.here hx (hb hby at_59) rfl ?_
    rw [show (8 : Int32).toInt64 = (8 : Int64) from by decide]
    refine g_lmul (q := 61) X36.here hx (hb hby at_60) rfl ?_
    refine g_ladd (q := 62) X36.here hx (hb hby at_61) rfl ?_
    refine g_lstore (q := 64) (L' := #[.val (.int lr), .val (.int nr), .val (.int kd), .val (.int ln), .val (.long nd), .second, .val (.int (8 : Int32)), .val (.int r35), .val (.long (2147483639 : Int64)), .second, .val (.long r37), .second, .val (.long ((16 : Int64) + (r37 * (8 : Int64)))), .second, .unset, .unset, .unset, .unset]) X36.here hx (hb hby at_62) rfl rfl ?_
    refine g_iload (q := 66) X36.here hx (hb hby at_64) rfl rfl ?_
    refine g_bipush (q := 68) (v := (8 : Int32)) X36.here hx (hb hby at_66) rfl rfl ?_
    refine g_icmp_ne (q := 77) (q0 := 71) X36.here hx (hb hby at_68) (by decide) (by decide) rfl ?_ ?_
    · intro c38; exact absurd c38 (by decide)
    · intro c38
      refine g_ldc2J (q := 74) X36 hx hZ hown (hw _ (List.mem_of_getElem? (i := 35) rfl)) (hb hby at_71) rfl ?_
      refine g_goto (q := 92) X36.here hx (hb hby at_74) (by decide) (by decide) ?_
      refine g_lstore (q := 94) (L' := #[.val (.int lr), .val (.int nr), .val (.int kd), .val (.int ln), .val (.long nd), .second, .val (.int (8 : Int32)), .val (.int r35), .val (.long (2147483639 : Int64)), .second, .val (.long r37), .second, .val (.long ((16 : Int64) + (r37 * (8 : Int64)))), .second, .val (.long (8589934592 : Int64)), .second, .unset, .unset]) X36.here hx (hb hby at_92) rfl rfl ?_
      refine g_lload (q := 96) X36.here hx (hb hby at_94) rfl rfl ?_
      refine g_lload (q := 98) X36.here hx (hb hby at_96) rfl rfl ?_
      refine g_lcmp_le (q := 117) (q1 := 99) (q0 := 102) X36.here hx (hb hby at_98) rfl (hb hby at_99) (by decide) (by decide) rfl ?_ ?_
      · intro c39
        obtain ⟨B0, B1, B2, B3, B4⟩ := own_lawB_8 hlnd hndd hr35 hr37 c39
        refine g_ldc2J (q := 120) X36 hx hZ hown (hw _ (List.mem_of_getElem? (i := 33) rfl)) (hb hby at_117) rfl ?_
        refine g_iload (q := 122) X36.here hx (hb hby at_120) rfl rfl ?_
        refine g_i2l (q := 123) X36.here hx (hb hby at_122) rfl ?_
        refine g_iload (q := 125) X36.here hx (hb hby at_123) rfl rfl ?_
        refine g_i2l (q := 126) X36.here hx (hb hby at_125) rfl ?_
        rw [show (8 : Int32).toInt64 = (8 : Int64) from by decide]
        refine g_lmul (q := 127) X36.here hx (hb hby at_126) rfl ?_
        refine g_ladd (q := 128) X36.here hx (hb hby at_127) rfl ?_
        refine g_lstore (q := 130) (L' := #[.val (.int lr), .val (.int nr), .val (.int kd), .val (.int ln), .val (.long nd), .second, .val (.int (8 : Int32)), .val (.int r35), .val (.long (2147483639 : Int64)), .second, .val (.long r37), .second, .val (.long ((16 : Int64) + (r37 * (8 : Int64)))), .second, .val (.long (8589934592 : Int64)), .second, .val (.long ((16 : Int64) + (r35.toInt64 * (8 : Int64)))), .second]) X36.here hx (hb hby at_128) rfl rfl ?_
        refine g_iload (q := 132) X36.here hx (hb hby at_130) rfl rfl ?_
        refine g_if_lt (q := 178) (q0 := 135) X36.here hx (hb hby at_132) (by decide) (by decide) rfl ?_ ?_
        · intro c40
          refine g_iconst (q := 179) (v := (0 : Int32)) X36.here hx (hb hby at_178) rfl rfl ?_
          exact g_zreturn (b := false) X36 hx hlk hrt (hb hby at_179) (by decide) (by decide) (by exfalso; (try simp only [Int32.reduceToInt, Int64.reduceToInt] at c40); omega)
        · intro c40
          refine g_lload (q := 137) X36.here hx (hb hby at_135) rfl rfl ?_
          refine g_lconst0 (q := 138) X36.here hx (hb hby at_137) rfl ?_
          refine g_lcmp_le (q := 178) (q1 := 139) (q0 := 142) X36.here hx (hb hby at_138) rfl (hb hby at_139) (by decide) (by decide) rfl ?_ ?_
          · intro c41
            refine g_iconst (q := 179) (v := (0 : Int32)) X36.here hx (hb hby at_178) rfl rfl ?_
            exact g_zreturn (b := false) X36 hx hlk hrt (hb hby at_179) (by decide) (by decide) (by exfalso; (try simp only [Int32.reduceToInt, Int64.reduceToInt] at c41); omega)
          · intro c41
            refine g_lload (q := 144) X36.here hx (hb hby at_142) rfl rfl ?_
            refine g_lload (q := 146) X36.here hx (hb hby at_144) rfl rfl ?_
            refine g_lconst1 (q := 147) X36.here hx (hb hby at_146) rfl ?_
            refine g_lsub (q := 148) X36.here hx (hb hby at_147) rfl ?_
            refine g_land (q := 149) X36.here hx (hb hby at_148) rfl ?_
            refine g_lconst0 (q := 150) X36.here hx (hb hby at_149) rfl ?_
            refine g_lcmp_ne (q := 178) (q1 := 151) (q0 := 154) X36.here hx (hb hby at_150) rfl (hb hby at_151) (by decide) (by decide) rfl ?_ ?_
            · intro c42
              refine g_iconst (q := 179) (v := (0 : Int32)) X36.here hx (hb hby at_178) rfl rfl ?_
              exact g_zreturn (b := false) X36 hx hlk hrt (hb hby at_179) (by decide) (by decide) (by exfalso; (try simp only [Int32.reduceToInt, Int64.reduceToInt] at c42); omega)
            · intro c42
              refine g_lload (q := 156) X36.here hx (hb hby at_154) rfl rfl ?_
              refine g_lload (q := 158) X36.here hx (hb hby at_156) rfl rfl ?_
              refine g_lcmp_lt (q := 178) (q1 := 159) (q0 := 162) X36.here hx (hb hby at_158) rfl (hb hby at_159) (by decide) (by decide) rfl ?_ ?_
              · intro c43
                refine g_iconst (q := 179) (v := (0 : Int32)) X36.here hx (hb hby at_178) rfl rfl ?_
                exact g_zreturn (b := false) X36 hx hlk hrt (hb hby at_179) (by decide) (by decide) (by exfalso; (try simp only [Int32.reduceToInt, Int64.reduceToInt] at c43); omega)
              · intro c43
                refine g_lload (q := 164) X36.here hx (hb hby at_162) rfl rfl ?_
                refine g_ldc2J (q := 167) X36 hx hZ hown (hw _ (List.mem_of_getElem? (i := 31) rfl)) (hb hby at_164) rfl ?_
                refine g_ldiv (q := 168) X36.here hx (hb hby at_167) (by decide) rfl ?_
                refine g_lload (q := 170) X36.here hx (hb hby at_168) rfl rfl ?_
                refine g_sel_lcmp_ge (q := 179) (q1 := 171) X36.here hx (hb hby at_170) rfl (hb hby at_171) (by decide) (by decide) rfl (hb hby at_178) (hb hby at_174) (hb hby at_175) rfl (by decide) (by decide) rfl ?_
                exact g_zreturn (b := decide ((((16 : Int64) + (r35.toInt64 * (8 : Int64))) / (2 : Int64)).toInt < ((16 : Int64) + (r37 * (8 : Int64))).toInt)) X36 hx hlk hrt (hb hby at_179) (by decide) (by decide) ⟨okB (decide_eq_true B4), N0⟩
      · intro c39
        refine g_iload (q := 104) X36.here hx (hb hby at_102) rfl rfl ?_
        refine g_i2l (q := 105) X36.here hx (hb hby at_104) rfl ?_
        refine g_lload (q := 107) X36.here hx (hb hby at_105) rfl rfl ?_
        refine g_sel_lcmp_ne (q := 116) (q1 := 108) X36.here hx (hb hby at_107) rfl (hb hby at_108) (by decide) (by decide) rfl (hb hby at_115) (hb hby at_111) (hb hby at_112) rfl (by decide) (by decide) rfl ?_
        exact g_zreturn (b := decide (r35.toInt64.toInt = (2147483639 : Int))) X36 hx hlk hrt (hb hby at_116) (by decide) (by decide) ⟨okB (decide_eq_true (by have h1 := own_lawA_8 hlnd hndd hr35 hr37 c39; have h2 := c_i2l r35; simp only [Int32.reduceToInt, Int64.reduceToInt] at *; omega)), N0⟩
set_option maxRecDepth 65536 in
set_option maxHeartbeats 40000000 in
theorem comes_1 {Post : Tables → Env → Array Value → State → Outcome → State → Prop} (hpost : ∀ tb e args s v u, (limb_1_1.after args s (.returned v) u = true ∧ limb_1_2.after args s (.returned v) u = true ∧ True) → FrameEnd s (.returned v) u (Jvm.fieldLocs frame_1_writes args s ++ Jvm.arrayLocs frame_1_arrays args s ++ Jvm.staticLocs frame_1_statics s) 0 0 → Post tb e args s (.returned v) u) :
    ArmFor flags0 classFile x code maxLocals ret World_1 tables_1 room_1 Calls_1 rest_1 Pre_1 Post := by
  intro l hfl _ _ p e ha hc hk s m args below hf hA hF happ hP
  obtain ⟨hcalls, hrest, hpre⟩ := hP
  obtain ⟨-, -, -, hnamed, -, -, -, hat⟩ := (Spec.applies_iff hf).mp happ
  obtain ⟨hg, hn⟩ := and_e (Cond.before_iff.mp (show (Jvm.Cond.and given_1 narrow_1).before args s = true from hpre))
  obtain ⟨g1, g2⟩ := and_e hg
  obtain ⟨g3, g4⟩ := and_e g2
  obtain ⟨g5, g6⟩ := and_e g4
  obtain ⟨w0, w1, w2, rfl⟩ : ∃ w0 w1 w2 : Value, args = #[w0, w1, w2] := by
    have hs : args.size = 3 := by simpa [Cond.value, given_1] using g1
    obtain ⟨L⟩ := args
    match L, hs with
    | [w0, w1, w2], _ => exact ⟨w0, w1, w2, rfl⟩
  have hw := fun d (hd : d ∈ tables_1) => atoms_spec (ws := Jvm.Cond.code x code maxLocals ret :: tables_1) hat d (List.mem_cons_of_mem _ hd)
  obtain ⟨i0, ei0⟩ := is_v g3
  obtain rfl : w0 = (.int i0) := Option.some.inj ei0
  obtain ⟨i1, ei1⟩ := is_v g5
  obtain rfl : w1 = (.int i1) := Option.some.inj ei1
  obtain ⟨i2, ei2⟩ := is_v g6
  obtain rfl : w2 = (.int i2) := Option.some.inj ei2
  obtain ⟨n, o, h1, h2, h3, _, L, rfl, ⟨rfl, N⟩, hq⟩ := rm0 l s _ hw tables_1 i0 i1 i2 s.heap s.heap.size (Nat.le_refl _) p e ha hc hk s m _ below hf ((Spec.applies_iff_loose hf).mp happ).1 ⟨rfl, State.Warmed39.refl s, rfl⟩ trivial
  refine ⟨n, _, h1, h2, h3, hpost _ _ _ _ _ _ ⟨Cond.after_iff.mpr rfl, Cond.after_iff.mpr (eq_i res_at (Term.int_eval (1)) rfl), trivial⟩ ⟨hq.1, hq.2.1, (hq.2.2.sift fun y hy => Or.inr (N y hy)).mono (by decide) (by decide)⟩⟩
theorem main_1_1 : Claimed_1_1 := comes_1 fun _ _ _ _ _ _ h hF => ⟨h.1, hF⟩
theorem main_1_2 : Claimed_1_2 := comes_1 fun _ _ _ _ _ _ h hF => ⟨h.2.1, hF⟩
end Jvm.Pilot.@@N@@
namespace Jvm.Pilot.@@N@@
open Jvm Jvm.ClassFile Sem Op Lib Jvm.Free Jvm.Stand Jvm.Pilot.@@N@@.Jvm.D
/-! MADE BY PROGRAM (witnessworld.py) out of the Statement's table words and the real class files: 16 classes; the members and pool entries that the words name. The judged class is class 1, her method 1. -/
namespace start1
open Jvm.ClassFile
def u (s : String) : CpInfo := .utf8 (stringToUtf16 s)
/-- a pool by its gaps: so many unusable entries, then the entry; so many at the end -/
def gap : Nat → List CpInfo → List CpInfo
  | 0, r => r
  | n + 1, r => .unusable :: gap n r
def poolList (es : List (Nat × CpInfo)) (last : Nat) : List CpInfo := es.foldr (fun e r => gap e.1 (e.2 :: r)) (gap last [])
def pool (es : List (Nat × CpInfo)) (last : Nat) : Array CpInfo := ⟨poolList es last⟩
def fileOf (pool : Array CpInfo) (this : Nat) (attrs : Array Attribute := #[]) (ms : Array MethodInfo := #[]) (fl : Nat := 33) (sup : Nat := 0) (ifs : Array Nat := #[]) (fds : Array FieldInfo := #[]) : ClassFile where
  minorVersion := 0
  majorVersion := 65
  constantPool := pool
  accessFlags := fl
  thisClass := this
  superClass := sup
  interfaces := ifs
  fields := fds
  methods := ms
  attributes := attrs
def plain (name : String) (sup : Option ClassId) : Class where
  name := name
  kind := .ordinary
  loader := none
  accessFlags := 33
  super := sup
  interfaces := #[]
  cf := none
  fields := #[]
  methods := #[]
  instanceTypes := #[]
  staticTypes := #[]
  resolved := #[]
  callSites := []
  init := .initialized
  statics := none
  mirror := none

def pool0 : Array CpInfo := pool [(5, u "<init>"), (0, u "()V"), (1, .class_ 10), (1, u "java/lang/Object")] 113

def k0m0 : Method := { name := "<init>", desc := "()V", sig := { parameters := [], returnType := none }, accessFlags := 1, code := none }
/-- java/lang/Object -/
def k0 : Class := { plain "java/lang/Object" none with
  accessFlags := 33
  interfaces := #[]
  cf := some (fileOf pool0 8 #[] #[{ accessFlags := 1, nameIndex := 5, descriptorIndex := 6, attributes := #[] }] 33 0 #[] #[])
  fields := #[]
  methods := #[k0m0]
  instanceTypes := #[]
  staticTypes := #[]
  resolved := Array.replicate 124 none
  statics := none }

def pool1 : Array CpInfo := pool [(2, .class_ 4), (1, u "java/lang/Object"), (0, u "<init>"), (0, u "()V"), (0, .integer 2147483647), (0, .long 2147483647), (1, .long 2147483640), (1, .methodref 13 14), (0, .class_ 15), (0, .nameAndType 16 17), (0, u "com/example/vestline/vestline/number/Growth"), (0, u "grown"), (0, u "(IJI)I"), (0, .long 2147483639), (1, .long 2), (1, .methodref 23 24), (0, .class_ 25), (0, .nameAndType 26 27), (0, u "java/lang/Math"), (0, u "max"), (0, u "(JJ)J"), (0, .long 16), (1, .long 8589934592), (1, .long 4294967296), (1, .long 2147483648), (1, .class_ 37), (0, u "com/example/vestline/vestline/number/GrowthGrownPinLaw"), (2, u "law"), (0, u "(III)Z")] 3

def k1m0 : Method := { name := "<init>", desc := "()V", sig := { parameters := [], returnType := none }, accessFlags := 2, code := none }
def k1c1 : Code := { maxStack := 6, maxLocals := 18, code := code, exceptionTable := #[], attributes := #[] }
def k1m1 : Method := { name := "law", desc := "(III)Z", sig := { parameters := [.int, .int, .int], returnType := some .boolean }, accessFlags := 9, code := some k1c1 }
/-- com/example/vestline/vestline/number/GrowthGrownPinLaw -/
def k1 : Class := { plain "com/example/vestline/vestline/number/GrowthGrownPinLaw" (some 0) with
  accessFlags := 49
  interfaces := #[]
  cf := some (fileOf pool1 36 #[] #[{ accessFlags := 2, nameIndex := 5, descriptorIndex := 6, attributes := #[] }, { accessFlags := 9, nameIndex := 40, descriptorIndex := 41, attributes := #[] }] 49 2 #[] #[])
  fields := #[]
  methods := #[k1m0, k1m1]
  instanceTypes := #[]
  staticTypes := #[]
  resolved := Array.replicate 45 none
  statics := none }

def pool2 : Array CpInfo := pool [(4, .class_ 6), (1, u "java/lang/Object"), (0, u "<init>"), (0, u "()V"), (0, .class_ 10), (0, u "com/example/vestline/vestline/number/Growth"), (0, .long 2147483639), (10, .long 16), (1, .long 2), (1, .methodref 27 28), (0, .class_ 29), (0, .nameAndType 30 31), (0, u "java/lang/Math"), (0, u "max"), (0, u "(JJ)J"), (0, .methodref 33 34), (0, .class_ 35), (0, .nameAndType 36 37), (0, u "java/lang/Long"), (0, u "highestOneBit"), (0, u "(J)J"), (0, .methodref 27 39), (0, .nameAndType 40 31), (0, u "min"), (2, u "grown"), (0, u "(IJI)I"), (12, u "HEADER"), (0, u "J"), (1, u "MOST_LENGTH"), (0, u "I"), (1, u "REFERENCE")] 30

def k2m0 : Method := { name := "<init>", desc := "()V", sig := { parameters := [], returnType := none }, accessFlags := 2, code := none }
def k2c1 : Code := { maxStack := 8, maxLocals := 8, code := prog_67_method_2_code, exceptionTable := #[], attributes := #[] }
def k2m1 : Method := { name := "grown", desc := "(IJI)I", sig := { parameters := [.int, .long, .int], returnType := some .int }, accessFlags := 9, code := some k2c1 }
/-- com/example/vestline/vestline/number/Growth -/
def k2 : Class := { plain "com/example/vestline/vestline/number/Growth" (some 0) with
  accessFlags := 49
  interfaces := #[]
  cf := some (fileOf pool2 9 #[] #[{ accessFlags := 2, nameIndex := 7, descriptorIndex := 8, attributes := #[] }, { accessFlags := 9, nameIndex := 43, descriptorIndex := 44, attributes := #[] }] 49 4 #[] #[{ accessFlags := 26, nameIndex := 57, descriptorIndex := 58, attributes := #[] }, { accessFlags := 26, nameIndex := 60, descriptorIndex := 61, attributes := #[] }, { accessFlags := 26, nameIndex := 63, descriptorIndex := 61, attributes := #[] }])
  fields := #[{ name := "HEADER", type := .long, accessFlags := 26, slot := 0, constantValue := 0 }, { name := "MOST_LENGTH", type := .int, accessFlags := 26, slot := 1, constantValue := 0 }, { name := "REFERENCE", type := .int, accessFlags := 26, slot := 2, constantValue := 0 }]
  methods := #[k2m0, k2m1]
  instanceTypes := #[]
  staticTypes := #[.long, .int, .int]
  resolved := Array.replicate 94 none
  statics := none }

def pool3 : Array CpInfo := pool [(1, .class_ 2), (0, u "java/lang/Math"), (1, .class_ 6), (1, u "java/lang/Object"), (0, u "<init>"), (0, u "()V"), (89, .class_ 100), (1, u "java/lang/Math$RandomNumberGeneratorHolder"), (20, u "(JJ)J"), (50, u "negativeZeroFloatBits"), (0, u "J"), (2, u "negativeZeroDoubleBits"), (21, u "max"), (2, u "min"), (43, u "$assertionsDisabled"), (0, u "Z"), (91, u "twoToTheDoubleScaleDown"), (0, u "D"), (4, u "twoToTheDoubleScaleUp"), (9, u "E"), (3, u "PI"), (2, u "TAU"), (2, u "DEGREES_TO_RADIANS"), (0, u "RADIANS_TO_DEGREES")] 94

def k3m0 : Method := { name := "<init>", desc := "()V", sig := { parameters := [], returnType := none }, accessFlags := 2, code := none }
def k3c1 : Code := { maxStack := 4, maxLocals := 4, code := jdk_29_method_66_code, exceptionTable := #[], attributes := #[] }
def k3m1 : Method := { name := "max", desc := "(JJ)J", sig := { parameters := [.long, .long], returnType := some .long }, accessFlags := 9, code := some k3c1 }
def k3c2 : Code := { maxStack := 4, maxLocals := 4, code := jdk_29_method_70_code, exceptionTable := #[], attributes := #[] }
def k3m2 : Method := { name := "min", desc := "(JJ)J", sig := { parameters := [.long, .long], returnType := some .long }, accessFlags := 9, code := some k3c2 }
/-- java/lang/Math -/
def k3 : Class := { plain "java/lang/Math" (some 0) with
  accessFlags := 49
  interfaces := #[]
  cf := some (fileOf pool3 1 #[.nestMembers #[98]] #[{ accessFlags := 2, nameIndex := 7, descriptorIndex := 8, attributes := #[] }, { accessFlags := 9, nameIndex := 198, descriptorIndex := 121, attributes := #[] }, { accessFlags := 9, nameIndex := 201, descriptorIndex := 121, attributes := #[] }] 49 4 #[] #[{ accessFlags := 25, nameIndex := 354, descriptorIndex := 339, attributes := #[] }, { accessFlags := 25, nameIndex := 358, descriptorIndex := 339, attributes := #[] }, { accessFlags := 25, nameIndex := 361, descriptorIndex := 339, attributes := #[] }, { accessFlags := 26, nameIndex := 364, descriptorIndex := 339, attributes := #[] }, { accessFlags := 26, nameIndex := 365, descriptorIndex := 339, attributes := #[] }, { accessFlags := 26, nameIndex := 172, descriptorIndex := 173, attributes := #[] }, { accessFlags := 26, nameIndex := 176, descriptorIndex := 173, attributes := #[] }, { accessFlags := 8, nameIndex := 344, descriptorIndex := 339, attributes := #[] }, { accessFlags := 8, nameIndex := 338, descriptorIndex := 339, attributes := #[] }, { accessFlags := 4120, nameIndex := 245, descriptorIndex := 246, attributes := #[] }])
  fields := #[{ name := "E", type := .double, accessFlags := 25, slot := 0, constantValue := 0 }, { name := "PI", type := .double, accessFlags := 25, slot := 1, constantValue := 0 }, { name := "TAU", type := .double, accessFlags := 25, slot := 2, constantValue := 0 }, { name := "DEGREES_TO_RADIANS", type := .double, accessFlags := 26, slot := 3, constantValue := 0 }, { name := "RADIANS_TO_DEGREES", type := .double, accessFlags := 26, slot := 4, constantValue := 0 }, { name := "negativeZeroFloatBits", type := .long, accessFlags := 26, slot := 5, constantValue := 0 }, { name := "negativeZeroDoubleBits", type := .long, accessFlags := 26, slot := 6, constantValue := 0 }, { name := "twoToTheDoubleScaleUp", type := .double, accessFlags := 8, slot := 7, constantValue := 0 }, { name := "twoToTheDoubleScaleDown", type := .double, accessFlags := 8, slot := 8, constantValue := 0 }, { name := "$assertionsDisabled", type := .boolean, accessFlags := 4120, slot := 9, constantValue := 0 }]
  methods := #[k3m0, k3m1, k3m2]
  instanceTypes := #[]
  staticTypes := #[.double, .double, .double, .double, .double, .long, .long, .double, .double, .boolean]
  resolved := Array.replicate 460 none
  statics := none }

def pool4 : Array CpInfo := pool [(1, .class_ 2), (0, u "java/io/Serializable"), (0, .class_ 4), (0, u "java/lang/Object")] 2

/-- java/io/Serializable -/
def k4 : Class := { plain "java/io/Serializable" (some 0) with
  accessFlags := 1537
  interfaces := #[]
  cf := some (fileOf pool4 1 #[] #[] 1537 3 #[] #[])
  fields := #[]
  methods := #[]
  instanceTypes := #[]
  staticTypes := #[]
  resolved := Array.replicate 7 none
  statics := none }

def pool5 : Array CpInfo := pool [(2, .class_ 4), (1, u "java/lang/Object"), (0, u "<init>"), (0, u "()V"), (1, .class_ 10), (1, u "java/lang/Number"), (2, .class_ 14), (0, u "java/io/Serializable"), (0, u "serialVersionUID"), (0, u "J")] 20

def k5m0 : Method := { name := "<init>", desc := "()V", sig := { parameters := [], returnType := none }, accessFlags := 1, code := none }
/-- java/lang/Number -/
def k5 : Class := { plain "java/lang/Number" (some 0) with
  accessFlags := 1057
  interfaces := #[4]
  cf := some (fileOf pool5 8 #[] #[{ accessFlags := 1, nameIndex := 5, descriptorIndex := 6, attributes := #[] }] 1057 2 #[13] #[{ accessFlags := 26, nameIndex := 15, descriptorIndex := 16, attributes := #[] }])
  fields := #[{ name := "serialVersionUID", type := .long, accessFlags := 26, slot := 0, constantValue := 0 }]
  methods := #[k5m0]
  instanceTypes := #[]
  staticTypes := #[.long]
  resolved := Array.replicate 37 none
  statics := none }

def pool6 : Array CpInfo := pool [(1, .class_ 2), (0, u "java/lang/Comparable"), (0, .class_ 4), (0, u "java/lang/Object")] 7

/-- java/lang/Comparable -/
def k6 : Class := { plain "java/lang/Comparable" (some 0) with
  accessFlags := 1537
  interfaces := #[]
  cf := some (fileOf pool6 1 #[] #[] 1537 3 #[] #[])
  fields := #[]
  methods := #[]
  instanceTypes := #[]
  staticTypes := #[]
  resolved := Array.replicate 12 none
  statics := none }

def pool7 : Array CpInfo := pool [(1, .class_ 2), (0, u "java/lang/constant/Constable"), (0, .class_ 4), (0, u "java/lang/Object")] 6

/-- java/lang/constant/Constable -/
def k7 : Class := { plain "java/lang/constant/Constable" (some 0) with
  accessFlags := 1537
  interfaces := #[]
  cf := some (fileOf pool7 1 #[] #[] 1537 3 #[] #[])
  fields := #[]
  methods := #[]
  instanceTypes := #[]
  staticTypes := #[]
  resolved := Array.replicate 11 none
  statics := none }

def pool8 : Array CpInfo := pool [(1, .class_ 2), (0, u "java/lang/constant/ConstantDesc"), (0, .class_ 4), (0, u "java/lang/Object")] 32

/-- java/lang/constant/ConstantDesc -/
def k8 : Class := { plain "java/lang/constant/ConstantDesc" (some 0) with
  accessFlags := 1537
  interfaces := #[]
  cf := some (fileOf pool8 1 #[] #[] 1537 3 #[] #[])
  fields := #[]
  methods := #[]
  instanceTypes := #[]
  staticTypes := #[]
  resolved := Array.replicate 37 none
  statics := none }

def pool9 : Array CpInfo := pool [(1, .class_ 2), (0, u "java/lang/Long"), (15, .class_ 20), (1, u "java/lang/Integer"), (77, .methodref 1 99), (0, .nameAndType 100 101), (0, u "numberOfLeadingZeros"), (0, u "(J)I"), (66, .long 9223372036854775808), (66, .class_ 237), (1, u "java/lang/Long$LongCache"), (33, .class_ 272), (0, u "java/lang/Number"), (2, u "value"), (0, u "J"), (31, .methodref 18 309), (0, .nameAndType 100 310), (0, u "(I)I"), (12, u "(J)J"), (37, u "TYPE"), (0, u "Ljava/lang/Class;"), (0, .class_ 364), (0, u "java/lang/Comparable"), (0, .class_ 366), (0, u "java/lang/constant/Constable"), (0, .class_ 368), (0, u "java/lang/constant/ConstantDesc"), (0, u "MIN_VALUE"), (1, u "MAX_VALUE"), (4, u "SIZE"), (0, u "I"), (1, u "BYTES"), (1, u "serialVersionUID"), (92, u "highestOneBit")] 49

def k9c0 : Code := { maxStack := 6, maxLocals := 2, code := jdk_35_method_46_code, exceptionTable := #[], attributes := #[] }
def k9m0 : Method := { name := "highestOneBit", desc := "(J)J", sig := { parameters := [.long], returnType := some .long }, accessFlags := 9, code := some k9c0 }
def k9c1 : Code := { maxStack := 3, maxLocals := 3, code := jdk_35_method_48_code, exceptionTable := #[], attributes := #[] }
def k9m1 : Method := { name := "numberOfLeadingZeros", desc := "(J)I", sig := { parameters := [.long], returnType := some .int }, accessFlags := 9, code := some k9c1 }
/-- java/lang/Long -/
def k9 : Class := { plain "java/lang/Long" (some 5) with
  accessFlags := 49
  interfaces := #[6, 7, 8]
  cf := some (fileOf pool9 1 #[.nestMembers #[235]] #[{ accessFlags := 9, nameIndex := 474, descriptorIndex := 323, attributes := #[] }, { accessFlags := 9, nameIndex := 100, descriptorIndex := 101, attributes := #[] }] 49 271 #[363, 365, 367] #[{ accessFlags := 25, nameIndex := 369, descriptorIndex := 276, attributes := #[] }, { accessFlags := 25, nameIndex := 371, descriptorIndex := 276, attributes := #[] }, { accessFlags := 25, nameIndex := 361, descriptorIndex := 362, attributes := #[] }, { accessFlags := 18, nameIndex := 275, descriptorIndex := 276, attributes := #[] }, { accessFlags := 25, nameIndex := 376, descriptorIndex := 377, attributes := #[] }, { accessFlags := 25, nameIndex := 379, descriptorIndex := 377, attributes := #[] }, { accessFlags := 26, nameIndex := 381, descriptorIndex := 276, attributes := #[] }])
  fields := #[{ name := "MIN_VALUE", type := .long, accessFlags := 25, slot := 0, constantValue := 0 }, { name := "MAX_VALUE", type := .long, accessFlags := 25, slot := 1, constantValue := 0 }, { name := "TYPE", type := (.object "java/lang/Class"), accessFlags := 25, slot := 2, constantValue := 0 }, { name := "value", type := .long, accessFlags := 18, slot := 0, constantValue := 0 }, { name := "SIZE", type := .int, accessFlags := 25, slot := 3, constantValue := 0 }, { name := "BYTES", type := .int, accessFlags := 25, slot := 4, constantValue := 0 }, { name := "serialVersionUID", type := .long, accessFlags := 26, slot := 5, constantValue := 0 }]
  methods := #[k9m0, k9m1]
  instanceTypes := #[.long]
  staticTypes := #[.long, .long, (.object "java/lang/Class"), .int, .int, .long]
  resolved := Array.replicate 524 none
  statics := none }

def pool10 : Array CpInfo := pool [(1, .class_ 2), (0, u "java/lang/Integer"), (16, u "digits"), (0, u "[C"), (32, u "numberOfLeadingZeros"), (0, u "(I)I"), (30, u "DigitOnes"), (0, u "[B"), (2, u "DigitTens"), (99, .class_ 190), (0, u "java/lang/Integer$IntegerCache"), (3, u "I"), (8, .class_ 204), (0, u "java/lang/Number"), (2, u "value"), (56, .integer 65536), (37, u "TYPE"), (0, u "Ljava/lang/Class;"), (0, .class_ 305), (0, u "java/lang/Comparable"), (0, .class_ 307), (0, u "java/lang/constant/Constable"), (0, .class_ 309), (0, u "java/lang/constant/ConstantDesc"), (0, u "MIN_VALUE"), (1, u "MAX_VALUE"), (3, u "SIZE"), (1, u "BYTES"), (1, u "serialVersionUID"), (0, u "J")] 131

def k10c0 : Code := { maxStack := 3, maxLocals := 2, code := jdk_33_method_47_code, exceptionTable := #[], attributes := #[] }
def k10m0 : Method := { name := "numberOfLeadingZeros", desc := "(I)I", sig := { parameters := [.int], returnType := some .int }, accessFlags := 9, code := some k10c0 }
/-- java/lang/Integer -/
def k10 : Class := { plain "java/lang/Integer" (some 5) with
  accessFlags := 49
  interfaces := #[6, 7, 8]
  cf := some (fileOf pool10 1 #[.nestMembers #[189]] #[{ accessFlags := 9, nameIndex := 53, descriptorIndex := 54, attributes := #[] }] 49 203 #[304, 306, 308] #[{ accessFlags := 25, nameIndex := 310, descriptorIndex := 194, attributes := #[] }, { accessFlags := 25, nameIndex := 312, descriptorIndex := 194, attributes := #[] }, { accessFlags := 25, nameIndex := 302, descriptorIndex := 303, attributes := #[] }, { accessFlags := 24, nameIndex := 19, descriptorIndex := 20, attributes := #[] }, { accessFlags := 24, nameIndex := 89, descriptorIndex := 86, attributes := #[] }, { accessFlags := 24, nameIndex := 85, descriptorIndex := 86, attributes := #[] }, { accessFlags := 18, nameIndex := 207, descriptorIndex := 194, attributes := #[] }, { accessFlags := 25, nameIndex := 316, descriptorIndex := 194, attributes := #[] }, { accessFlags := 25, nameIndex := 318, descriptorIndex := 194, attributes := #[] }, { accessFlags := 26, nameIndex := 320, descriptorIndex := 321, attributes := #[] }])
  fields := #[{ name := "MIN_VALUE", type := .int, accessFlags := 25, slot := 0, constantValue := 0 }, { name := "MAX_VALUE", type := .int, accessFlags := 25, slot := 1, constantValue := 0 }, { name := "TYPE", type := (.object "java/lang/Class"), accessFlags := 25, slot := 2, constantValue := 0 }, { name := "digits", type := (.array .char), accessFlags := 24, slot := 3, constantValue := 0 }, { name := "DigitTens", type := (.array .byte), accessFlags := 24, slot := 4, constantValue := 0 }, { name := "DigitOnes", type := (.array .byte), accessFlags := 24, slot := 5, constantValue := 0 }, { name := "value", type := .int, accessFlags := 18, slot := 0, constantValue := 0 }, { name := "SIZE", type := .int, accessFlags := 25, slot := 6, constantValue := 0 }, { name := "BYTES", type := .int, accessFlags := 25, slot := 7, constantValue := 0 }, { name := "serialVersionUID", type := .long, accessFlags := 26, slot := 8, constantValue := 0 }]
  methods := #[k10m0]
  instanceTypes := #[.int]
  staticTypes := #[.int, .int, (.object "java/lang/Class"), (.array .char), (.array .byte), (.array .byte), .int, .int, .long]
  resolved := Array.replicate 453 none
  statics := none }

def pool11 : Array CpInfo := pool [(1, u "java/lang/Cloneable"), (0, .class_ 1), (0, u "java/lang/Object"), (0, .class_ 3)] 3

/-- java/lang/Cloneable -/
def k11 : Class := { plain "java/lang/Cloneable" (some 0) with
  accessFlags := 1537
  interfaces := #[]
  cf := some (fileOf pool11 2 #[] #[] 1537 4 #[] #[])
  fields := #[]
  methods := #[]
  instanceTypes := #[]
  staticTypes := #[]
  resolved := Array.replicate 8 none
  statics := none }

/-- the primitive byte -/
def k12 : Class := { plain "byte" none with kind := .primitive 'B', accessFlags := 0x411 }
/-- [B -/
def k13 : Class := { plain "[B" (some 0) with kind := .array 12 .byte, interfaces := #[11, 4], accessFlags := 1041 }

/-- the primitive int -/
def k14 : Class := { plain "int" none with kind := .primitive 'I', accessFlags := 0x411 }
/-- [I -/
def k15 : Class := { plain "[I" (some 0) with kind := .array 14 .int, interfaces := #[11, 4], accessFlags := 1041 }

def heap : Heap := #[]
def classes : Array Class := #[k0, k1, k2, k3, k4, k5, k6, k7, k8, k9, k10, k11, k12, k13, k14, k15]
def interned : List (Array UInt16 × Addr) := []
def slotsUsed : Nat := 0
def theMethod : MethodId := ⟨1, 1⟩
def args0 : Array Value := #[.int 5, .int 6, .int 7]
def aboutOver (below : List Frame) : State where
  vm := { classes := classes, interned := interned.toArray }
  heap := heap
  slotsUsed := slotsUsed
  threads := #[{ frames := .invoking theMethod args0 :: below }]
def below0 : List Frame := [.native { method := ⟨0, 0⟩, args := #[] }]
def about1 : State := aboutOver below0
def p0 : Program := .bare "" "" ""
def e0 : Env := launch0.env 0 0 0
theorem w_frames : about1.frames = Frame.invoking theMethod args0 :: below0 := rfl
set_option maxRecDepth 65536 in
theorem w_args : argsFit about1.vm theMethod args0 = true := by decide +kernel
set_option maxRecDepth 65536 in
theorem w_heap : heapFits about1 = true := by decide +kernel
set_option maxRecDepth 65536 in
theorem w_runnable : about1.curStatus? = some .runnable := by decide +kernel
set_option maxRecDepth 65536 in
theorem w_alone : about1.alone = true := by decide +kernel
set_option maxRecDepth 65536 in
theorem w_named : about1.methodNamed? x = some theMethod := by decide +kernel
set_option maxRecDepth 65536 in
theorem w_hears : about1.hears theMethod below0 = true := by decide +kernel
set_option maxRecDepth 65536 in
theorem w_ripe : about1.ripe theMethod args0 below0 = true := by decide +kernel
theorem w_running : about1.status = .running := rfl
set_option maxRecDepth 65536 in
theorem w_room : about1.hasRoom e0.platform room_1 = true :=
  launch0.hasRoom_least _ room_1 (by decide +kernel) (by decide +kernel) (by decide +kernel) (by decide +kernel) (by decide +kernel) (by decide +kernel)
theorem allAtoms_all (ts : List Jvm.Cond) (a : Array Jvm.Value) (st : Jvm.State) : (allAtoms ts).before a st = ts.all (fun c => c.before a st) := by
  induction ts with
  | nil => rfl
  | cons c t ih =>
    show (Jvm.Cond.and c (allAtoms t)).before a st = _
    rw [Jvm.Cond.before_and, ih, List.all_cons]
def words1 : List Jvm.Cond := Jvm.Cond.code x code maxLocals ret :: tables_1
/-- a 'code' word, met by the world's own term for the bytes: nothing is compared byte by byte -/
theorem code_word {y : MethodName} {bytes : ByteArray} {mx : Nat} {rt : Option FieldType} {a : Array Value} {s : State} {m : MethodId} {meth : Method} {c : Code} (h1 : s.methodNamed? y = some m) (h2 : s.vm.method? m = some meth) (h3 : meth.code = some c) (h4 : c.code = bytes)
    (h5 : (c.maxLocals == mx && c.exceptionTable.isEmpty && decide (c.maxStack ≤ mostOperands) && decide (meth.sig.returnType = rt) && !meth.locks && decide (parseMethodDescriptor y.desc = some meth.sig)) = true) : (Jvm.Cond.code y bytes mx rt).before a s = true := by
  simp only [Bool.and_eq_true, beq_iff_eq, Bool.not_eq_true', decide_eq_true_eq] at h5
  obtain ⟨⟨⟨⟨⟨g1, g2⟩, g3⟩, g4⟩, g5⟩, g6⟩ := h5
  simp [Cond.before, Cond.holds, Cond.value, h1, h2, h3, h4, g1, g2, g3, g4, g5, g6]
def isCode : Jvm.Cond → Bool
  | .code _ _ _ _ => true
  | _ => false
theorem all_split {L : List Jvm.Cond} {P : Jvm.Cond → Bool} (h1 : L.all (fun c => isCode c || P c) = true) (h2 : ∀ c ∈ L.filter isCode, P c = true) : L.all P = true := by
  refine List.all_eq_true.mpr fun c hc => ?_
  have h := List.all_eq_true.mp h1 c hc
  rcases Bool.eq_false_or_eq_true (isCode c) with hi | hi
  · exact h2 c (List.mem_filter.mpr ⟨hc, hi⟩)
  · simpa [hi] using h
set_option maxRecDepth 65536 in
theorem w_c0 : (Jvm.Cond.code x code maxLocals ret).before args0 about1 = true := code_word (m := ⟨1, 1⟩) (meth := k1m1) (c := k1c1) (by decide +kernel) rfl rfl rfl (by decide +kernel)
set_option maxRecDepth 65536 in
theorem w_c1 : (Jvm.Cond.code ({ cls := "com/example/vestline/vestline/number/Growth", name := "grown", desc := "(IJI)I" } : Jvm.MethodName) prog_67_method_2_code (8 : Nat) (Option.some Jvm.ClassFile.FieldType.int)).before args0 about1 = true := code_word (m := ⟨2, 1⟩) (meth := k2m1) (c := k2c1) (by decide +kernel) rfl rfl rfl (by decide +kernel)
set_option maxRecDepth 65536 in
theorem w_c2 : (Jvm.Cond.code ({ cls := "java/lang/Math", name := "max", desc := "(JJ)J" } : Jvm.MethodName) jdk_29_method_66_code (4 : Nat) (Option.some Jvm.ClassFile.FieldType.long)).before args0 about1 = true := code_word (m := ⟨3, 1⟩) (meth := k3m1) (c := k3c1) (by decide +kernel) rfl rfl rfl (by decide +kernel)
set_option maxRecDepth 65536 in
theorem w_c3 : (Jvm.Cond.code ({ cls := "java/lang/Long", name := "highestOneBit", desc := "(J)J" } : Jvm.MethodName) jdk_35_method_46_code (2 : Nat) (Option.some Jvm.ClassFile.FieldType.long)).before args0 about1 = true := code_word (m := ⟨9, 0⟩) (meth := k9m0) (c := k9c0) (by decide +kernel) rfl rfl rfl (by decide +kernel)
set_option maxRecDepth 65536 in
theorem w_c4 : (Jvm.Cond.code ({ cls := "java/lang/Long", name := "numberOfLeadingZeros", desc := "(J)I" } : Jvm.MethodName) jdk_35_method_48_code (3 : Nat) (Option.some Jvm.ClassFile.FieldType.int)).before args0 about1 = true := code_word (m := ⟨9, 1⟩) (meth := k9m1) (c := k9c1) (by decide +kernel) rfl rfl rfl (by decide +kernel)
set_option maxRecDepth 65536 in
theorem w_c5 : (Jvm.Cond.code ({ cls := "java/lang/Integer", name := "numberOfLeadingZeros", desc := "(I)I" } : Jvm.MethodName) jdk_33_method_47_code (2 : Nat) (Option.some Jvm.ClassFile.FieldType.int)).before args0 about1 = true := code_word (m := ⟨10, 0⟩) (meth := k10m0) (c := k10c0) (by decide +kernel) rfl rfl rfl (by decide +kernel)
set_option maxRecDepth 65536 in
theorem w_c6 : (Jvm.Cond.code ({ cls := "java/lang/Math", name := "min", desc := "(JJ)J" } : Jvm.MethodName) jdk_29_method_70_code (4 : Nat) (Option.some Jvm.ClassFile.FieldType.long)).before args0 about1 = true := code_word (m := ⟨3, 2⟩) (meth := k3m2) (c := k3c2) (by decide +kernel) rfl rfl rfl (by decide +kernel)
def codes1 : List Jvm.Cond := [Jvm.Cond.code x code maxLocals ret, Jvm.Cond.code ({ cls := "com/example/vestline/vestline/number/Growth", name := "grown", desc := "(IJI)I" } : Jvm.MethodName) prog_67_method_2_code (8 : Nat) (Option.some Jvm.ClassFile.FieldType.int), Jvm.Cond.code ({ cls := "java/lang/Math", name := "max", desc := "(JJ)J" } : Jvm.MethodName) jdk_29_method_66_code (4 : Nat) (Option.some Jvm.ClassFile.FieldType.long), Jvm.Cond.code ({ cls := "java/lang/Long", name := "highestOneBit", desc := "(J)J" } : Jvm.MethodName) jdk_35_method_46_code (2 : Nat) (Option.some Jvm.ClassFile.FieldType.long), Jvm.Cond.code ({ cls := "java/lang/Long", name := "numberOfLeadingZeros", desc := "(J)I" } : Jvm.MethodName) jdk_35_method_48_code (3 : Nat) (Option.some Jvm.ClassFile.FieldType.int), Jvm.Cond.code ({ cls := "java/lang/Integer", name := "numberOfLeadingZeros", desc := "(I)I" } : Jvm.MethodName) jdk_33_method_47_code (2 : Nat) (Option.some Jvm.ClassFile.FieldType.int), Jvm.Cond.code ({ cls := "java/lang/Math", name := "min", desc := "(JJ)J" } : Jvm.MethodName) jdk_29_method_70_code (4 : Nat) (Option.some Jvm.ClassFile.FieldType.long)]
set_option maxRecDepth 65536 in
theorem codes_eq : words1.filter isCode = codes1 := rfl
theorem w_codes : ∀ c ∈ words1.filter isCode, c.before args0 about1 = true := by
  rw [codes_eq]
  intro c hc
  simp only [codes1, List.mem_cons, List.not_mem_nil, or_false] at hc
  rcases hc with rfl | rfl | rfl | rfl | rfl | rfl | rfl
  · exact w_c0
  · exact w_c1
  · exact w_c2
  · exact w_c3
  · exact w_c4
  · exact w_c5
  · exact w_c6
set_option maxRecDepth 65536 in
theorem w_t1 : (words1.take 24).all (fun c => isCode c || c.before args0 about1) = true := by decide +kernel
set_option maxRecDepth 65536 in
theorem w_t2 : (words1.drop 24).all (fun c => isCode c || c.before args0 about1) = true := by decide +kernel
theorem w_tables : (allAtoms (Jvm.Cond.code x code maxLocals ret :: tables_1)).before args0 about1 = true := by
  rw [allAtoms_all]
  show words1.all (fun c => c.before args0 about1) = true
  refine all_split ?_ w_codes
  rw [← List.take_append_drop 24 words1, List.all_append, w_t1, w_t2]
  rfl
set_option maxRecDepth 65536 in
theorem w_case : (Jvm.Cond.and given_1 narrow_1).before args0 about1 = true := by decide +kernel
theorem w_applies : (headSpec (Jvm.Cond.code x code maxLocals ret :: tables_1) room_1).applies x e0.platform about1 = true :=
  (Spec.applies_iff w_frames).mpr ⟨w_running, w_runnable, w_alone, w_named, w_hears, w_ripe, w_room, w_tables⟩
theorem atStart : AtStart classFile x code maxLocals ret World_1 tables_1 room_1 Calls_1 rest_1 Pre_1 launch0 p0 e0 about1 theMethod args0 below0 :=
  ⟨lists_1, trivial, launch0.admits_env _ _ _, launch0.least_env, fairChoices_fair.cas, fairChoices_fair.clock, w_frames, w_args, w_heap, w_applies, trivial, trivial, w_case⟩
end start1
theorem witness_1 : WitnessClaimed_1 := ⟨start1.p0, start1.e0, start1.about1, start1.theMethod, start1.args0, start1.below0, start1.atStart⟩
end Jvm.Pilot.@@N@@
