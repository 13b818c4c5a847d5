import JvmDerived
import JvmDerived.Pilot.@@N@@Statement
import JvmDerived.Pilot.@@N@@Code
set_option linter.unusedVariables false
set_option linter.unusedSimpArgs false
namespace Jvm.Pilot.@@N@@
open Jvm Jvm.ClassFile Sem Op Lib Jvm.Free Jvm.Stand Jvm.LawKit Jvm.RoadKit Bundle Jvm.Pilot.@@N@@.Jvm.D

/-! ### the own kit: a walk's goal in continuation form -/
def Go (p : Program) (e : Env) (below : List Frame) (Φ : Outcome → State → Prop) (U : State) : Prop :=
  ∃ s₂ o, Steps p.tables e below U s₂ ∧ s₂.status = .running ∧ Ended s₂ below o ∧ Φ o s₂
def Fin0 (s : State) (rm : Room) (Q : Option Value → Heap → List Loc → Prop) : Outcome → State → Prop :=
  fun o U' => ∃ v L, o = .returned v ∧ Q v U'.heap L ∧ FrameEnd s o U' L rm.cells rm.slots
abbrev Ctr (l : Launch) (Z : State) (y : MethodName) (bytes : ByteArray) (ml : Nat) (rt : Option FieldType) (rm : Room) (ws : List Jvm.Cond) (as' : Array Value) (h0 : Heap) (Q : Option Value → Heap → List Loc → Prop) : Prop :=
  MetFree l y (head1 (Jvm.Cond.code y bytes ml rt :: ws) rm) (fun a U => a = as' ∧ Z.Warmed39 U.vm ∧ U.heap = h0) (fun _ _ _ _ _ => True) (fun _ U o U' => ∃ v L, o = .returned v ∧ Q v U'.heap L ∧ FrameEnd U o U' L rm.cells rm.slots)
def b2i (b : Bool) : Int32 := if b then 1 else 0
theorem b2i_t : b2i true = 1 := rfl
theorem b2i_f : b2i false = 0 := rfl
theorem b2i_nar (b : Bool) : nar .boolean (b2i b) = b2i b := by cases b <;> rfl
theorem b2i_or (b : Bool) : (b = true ∧ (b2i b).toInt = 1) ∨ (b = false ∧ (b2i b).toInt = 0) := by cases b <;> decide
theorem b2i_dec {P : Prop} [Decidable P] : (P ∧ (b2i (decide P)).toInt = 1) ∨ (¬ P ∧ (b2i (decide P)).toInt = 0) := by
  by_cases h : P
  · exact Or.inl ⟨h, by rw [decide_eq_true h]; rfl⟩
  · exact Or.inr ⟨h, by rw [decide_eq_false h]; rfl⟩
theorem b2i_inj {a b : Bool} : b2i a = b2i b ↔ a = b := by cases a <;> cases b <;> decide
theorem i32e {x y : Int32} : x = y ↔ x.toInt = y.toInt := Int32.toInt_inj.symm
theorem i64e {x y : Int64} : x = y ↔ x.toInt = y.toInt := Int64.toInt_inj.symm
theorem okB {b : Bool} (h : b = true) : some (Value.int (b2i b)) = some (Value.int 1) := by rw [h]; rfl
theorem eqT {P : Prop} [Decidable P] (h : P) : some (Value.int (b2i true)) = some (Value.int (b2i (decide P))) := by rw [decide_eq_true h]
theorem eqF {P : Prop} [Decidable P] (h : ¬ P) : some (Value.int (b2i false)) = some (Value.int (b2i (decide P))) := by rw [decide_eq_false h]
theorem eqD {P Q : Prop} [Decidable P] [Decidable Q] (h : Q ↔ P) : some (Value.int (b2i (decide Q))) = some (Value.int (b2i (decide P))) := by rw [decide_eq_decide.mpr h]
theorem eqB {P : Prop} [Decidable P] {b : Bool} (h : b = true ↔ P) : some (Value.int (b2i b)) = some (Value.int (b2i (decide P))) := by
  rw [show b = decide P from by by_cases q : P <;> simp [q, h] <;> (cases b <;> simp_all)]
/-- what a pure callee leaves that returns an int (a long) of which P is said -/
def IQ (P : Int32 → Prop) (h0 : Heap) : Option Value → Heap → List Loc → Prop := fun v h L => ∃ r, v = some (.int r) ∧ P r ∧ h = h0 ∧ L = []
def JQ (P : Int64 → Prop) (h0 : Heap) : Option Value → Heap → List Loc → Prop := fun v h L => ∃ r, v = some (.long r) ∧ P r ∧ h = h0 ∧ L = []
/-- what a pure callee leaves -/
def PQ (r : Value) (h0 : Heap) : Option Value → Heap → List Loc → Prop := fun v h L => v = some r ∧ h = h0 ∧ L = []
theorem Ctr.of {l : Launch} {Z : State} {y : MethodName} {bytes : ByteArray} {ml : Nat} {rt : Option FieldType} {rm : Room} {ws : List Jvm.Cond} {as' : Array Value} {h0 : Heap} {Q : Option Value → Heap → List Loc → Prop} (hp : plainFor y = true)
    (body : ∀ (p : Program) (e : Env) (s : State) (m : MethodId) (below : List Frame) (meth : Method) (c : Code) (s₁ : State), p.tables.exec = Jvm.exec → c.code = bytes → c.maxLocals = ml → meth.sig.returnType = rt → meth.locks = false → meth.name = y.name → s.vm.findClass y.cls = some m.cls → Z.Warmed39 s.vm → Stand p l e rm s m as' below meth c s₁ [] 0 0 → s₁.heap = h0 →
      Go p e below (Fin0 s rm Q) (s₁.setTop (entryFrame m as' ml))) : Ctr l Z y bytes ml rt rm ws as' h0 Q := by
  refine MetFree.of_bodySF hp hisR ?_
  intro p e s m args below meth c s₁ Bd hml0 hP hK
  obtain ⟨rfl, hZ, hh⟩ := hP
  obtain ⟨s₂, o, g1, g2, g3, v, L, g4, g5, g6⟩ := body p e s m below meth c s₁ Bd.exec Bd.bytes hml0 Bd.returns Bd.notSynchronized (name_of_methodNamed Bd.named Bd.method).1 (findClass_of_methodNamed Bd.named) hZ (Stand.of_body Bd) (by rw [← hh, Bd.state]; rfl)
  exact ⟨s₂, o, g1, g2, g3, v, L, g4, g5, g6⟩
theorem st_one {L L' : Array Slot} {i : Nat} {o : Slot} {v : Value} (h : L[i]? = some o) (ho : One o) (hv : v.category = 1) (hL : L.setIfInBounds i (.val v) = L') : storeLocals L i v = some L' := by
  rw [XS.store1 h ho hv, hL]
section OwnKit
variable {p : Program} {l : Launch} {e : Env} {R : Room} {s : State} {m : MethodId} {args : Array Value} {below : List Frame} {meth : Method} {c : Code} {T : State} {locs : List Loc} {cells slots : Nat} {Z : State} {a0 : Array Value} {h : Heap} {Φ : Outcome → State → Prop} {pc q : Nat} {L : Array Slot} {S : List Value}
theorem Go.by {U U' : State} (h : ∀ t, Steps p.tables e below U' t → Steps p.tables e below U t) (k : Go p e below Φ U') : Go p e below Φ U := by
  obtain ⟨s₂, o, h1, r⟩ := k; exact ⟨s₂, o, h _ h1, r⟩
theorem Go.cast {g g' : JFrame} (q : g = g') (k : Go p e below Φ (T.setTop g')) : Go p e below Φ (T.setTop g) := q ▸ k
theorem g_iloadN (hA : At T m c below) (hx : p.tables.exec = Jvm.exec) {j : Fin 4} {v : Int32} (hd : decode c.code pc = .ok (.iload_n j, 1)) (hl : L[j.val]? = some (.val (.int v))) (hq : pc + 1 = q) (k : Go p e below Φ (T.setTop (mkF m q L (.int v :: S)))) : Go p e below Φ (T.setTop (mkF m pc L S)) := by
  subst hq; exact Go.by (fun _ => XS.iloadN hA hx rfl hd hl) k
theorem g_iload (hA : At T m c below) (hx : p.tables.exec = Jvm.exec) {j : Nat} {v : Int32} (hd : decode c.code pc = .ok (.iload j, 2)) (hl : L[j]? = some (.val (.int v))) (hq : pc + 2 = q) (k : Go p e below Φ (T.setTop (mkF m q L (.int v :: S)))) : Go p e below Φ (T.setTop (mkF m pc L S)) := by
  subst hq; exact Go.by (fun _ => XS.iload hA hx rfl hd hl) k
theorem g_istoreN (hA : At T m c below) (hx : p.tables.exec = Jvm.exec) {j : Fin 4} {v : Int32} {L' : Array Slot} (hd : decode c.code pc = .ok (.istore_n j, 1)) (hl : storeLocals L j.val (.int v) = some L') (hq : pc + 1 = q) (k : Go p e below Φ (T.setTop (mkF m q L' S))) : Go p e below Φ (T.setTop (mkF m pc L (.int v :: S))) := by
  subst hq; exact Go.by (fun _ => XS.istoreN hA hx rfl hd rfl hl) k
theorem g_istore (hA : At T m c below) (hx : p.tables.exec = Jvm.exec) {j : Nat} {v : Int32} {L' : Array Slot} (hd : decode c.code pc = .ok (.istore j, 2)) (hl : storeLocals L j (.int v) = some L') (hq : pc + 2 = q) (k : Go p e below Φ (T.setTop (mkF m q L' S))) : Go p e below Φ (T.setTop (mkF m pc L (.int v :: S))) := by
  subst hq; exact Go.by (fun _ => XS.istore hA hx rfl hd rfl hl) k
theorem g_lloadN (hA : At T m c below) (hx : p.tables.exec = Jvm.exec) {j : Fin 4} {v : Int64} (hd : decode c.code pc = .ok (.lload_n j, 1)) (hl : L[j.val]? = some (.val (.long v))) (hq : pc + 1 = q) (k : Go p e below Φ (T.setTop (mkF m q L (.long v :: S)))) : Go p e below Φ (T.setTop (mkF m pc L S)) := by
  subst hq; exact Go.by (fun _ => XS.lloadN hA hx rfl hd hl) k
theorem g_lload (hA : At T m c below) (hx : p.tables.exec = Jvm.exec) {j : Nat} {v : Int64} (hd : decode c.code pc = .ok (.lload j, 2)) (hl : L[j]? = some (.val (.long v))) (hq : pc + 2 = q) (k : Go p e below Φ (T.setTop (mkF m q L (.long v :: S)))) : Go p e below Φ (T.setTop (mkF m pc L S)) := by
  subst hq; exact Go.by (fun _ => XS.lload hA hx rfl hd hl) k
theorem g_lstoreN (hA : At T m c below) (hx : p.tables.exec = Jvm.exec) {j : Fin 4} {v : Int64} {L' : Array Slot} (hd : decode c.code pc = .ok (.lstore_n j, 1)) (hl : storeLocals L j.val (.long v) = some L') (hq : pc + 1 = q) (k : Go p e below Φ (T.setTop (mkF m q L' S))) : Go p e below Φ (T.setTop (mkF m pc L (.long v :: S))) := by
  subst hq; exact Go.by (fun _ => XS.lstoreN hA hx rfl hd rfl hl) k
theorem g_lstore (hA : At T m c below) (hx : p.tables.exec = Jvm.exec) {j : Nat} {v : Int64} {L' : Array Slot} (hd : decode c.code pc = .ok (.lstore j, 2)) (hl : storeLocals L j (.long v) = some L') (hq : pc + 2 = q) (k : Go p e below Φ (T.setTop (mkF m q L' S))) : Go p e below Φ (T.setTop (mkF m pc L (.long v :: S))) := by
  subst hq; exact Go.by (fun _ => XS.lstore hA hx rfl hd rfl hl) k
theorem g_aloadN (hA : At T m c below) (hx : p.tables.exec = Jvm.exec) {j : Fin 4} {v : Value} (hd : decode c.code pc = .ok (.aload_n j, 1)) (hl : L[j.val]? = some (.val v)) (hv : v.isRef = true) (hq : pc + 1 = q) (k : Go p e below Φ (T.setTop (mkF m q L (v :: S)))) : Go p e below Φ (T.setTop (mkF m pc L S)) := by
  subst hq; exact Go.by (fun _ => XS.aloadN hA hx rfl hd hl hv) k
theorem g_aload (hA : At T m c below) (hx : p.tables.exec = Jvm.exec) {j : Nat} {v : Value} (hd : decode c.code pc = .ok (.aload j, 2)) (hl : L[j]? = some (.val v)) (hv : v.isRef = true) (hq : pc + 2 = q) (k : Go p e below Φ (T.setTop (mkF m q L (v :: S)))) : Go p e below Φ (T.setTop (mkF m pc L S)) := by
  subst hq; exact Go.by (fun _ => XS.aload hA hx rfl hd hl hv) k
theorem g_astoreN (hA : At T m c below) (hx : p.tables.exec = Jvm.exec) {j : Fin 4} {v : Value} {L' : Array Slot} (hd : decode c.code pc = .ok (.astore_n j, 1)) (hv : v.isRef = true) (hl : storeLocals L j.val v = some L') (hq : pc + 1 = q) (k : Go p e below Φ (T.setTop (mkF m q L' S))) : Go p e below Φ (T.setTop (mkF m pc L (v :: S))) := by
  subst hq; exact Go.by (fun _ => XS.astoreN hA hx rfl hd rfl hv hl) k
theorem g_astore (hA : At T m c below) (hx : p.tables.exec = Jvm.exec) {j : Nat} {v : Value} {L' : Array Slot} (hd : decode c.code pc = .ok (.astore j, 2)) (hv : v.isRef = true) (hl : storeLocals L j v = some L') (hq : pc + 2 = q) (k : Go p e below Φ (T.setTop (mkF m q L' S))) : Go p e below Φ (T.setTop (mkF m pc L (v :: S))) := by
  subst hq; exact Go.by (fun _ => XS.astore hA hx rfl hd rfl hv hl) k
theorem g_iconst (hA : At T m c below) (hx : p.tables.exec = Jvm.exec) {i : Int} {v : Int32} (hd : decode c.code pc = .ok (.iconst i, 1)) (hv : Int32.ofInt i = v) (hq : pc + 1 = q) (k : Go p e below Φ (T.setTop (mkF m q L (.int v :: S)))) : Go p e below Φ (T.setTop (mkF m pc L S)) := by
  subst hq hv; exact Go.by (fun _ => XS.iconst hA hx rfl hd) k
theorem g_bipush (hA : At T m c below) (hx : p.tables.exec = Jvm.exec) {i : Int} {v : Int32} (hd : decode c.code pc = .ok (.bipush i, 2)) (hv : (Int8.ofInt i).toInt32 = v) (hq : pc + 2 = q) (k : Go p e below Φ (T.setTop (mkF m q L (.int v :: S)))) : Go p e below Φ (T.setTop (mkF m pc L S)) := by
  subst hq hv; exact Go.by (fun _ => XS.bipush hA hx rfl hd) k
theorem g_sipush (hA : At T m c below) (hx : p.tables.exec = Jvm.exec) {i : Int} {v : Int32} (hd : decode c.code pc = .ok (.sipush i, 3)) (hv : (Int16.ofInt i).toInt32 = v) (hq : pc + 3 = q) (k : Go p e below Φ (T.setTop (mkF m q L (.int v :: S)))) : Go p e below Φ (T.setTop (mkF m pc L S)) := by
  subst hq hv; exact Go.by (fun _ => XS.sipush hA hx rfl hd) k
theorem g_lconst0 (hA : At T m c below) (hx : p.tables.exec = Jvm.exec) (hd : decode c.code pc = .ok (.lconst 0, 1)) (hq : pc + 1 = q) (k : Go p e below Φ (T.setTop (mkF m q L (.long 0 :: S)))) : Go p e below Φ (T.setTop (mkF m pc L S)) := by
  subst hq; exact Go.by (fun _ => XS.lconst hA hx rfl hd) k
theorem g_lconst1 (hA : At T m c below) (hx : p.tables.exec = Jvm.exec) (hd : decode c.code pc = .ok (.lconst 1, 1)) (hq : pc + 1 = q) (k : Go p e below Φ (T.setTop (mkF m q L (.long 1 :: S)))) : Go p e below Φ (T.setTop (mkF m pc L S)) := by
  subst hq; exact Go.by (fun _ => XS.lconst hA hx rfl hd) k
theorem g_aconst_null (hA : At T m c below) (hx : p.tables.exec = Jvm.exec) (hd : decode c.code pc = .ok (.aconst_null, 1)) (hq : pc + 1 = q) (k : Go p e below Φ (T.setTop (mkF m q L (.null :: S)))) : Go p e below Φ (T.setTop (mkF m pc L S)) := by
  subst hq; exact Go.by (fun _ => XS.aconstNull hA hx rfl hd) k
theorem g_iadd (hA : At T m c below) (hx : p.tables.exec = Jvm.exec) {x y : Int32} (hd : decode c.code pc = .ok (.iadd, 1)) (hq : pc + 1 = q) (k : Go p e below Φ (T.setTop (mkF m q L (.int (x + y) :: S)))) : Go p e below Φ (T.setTop (mkF m pc L (.int y :: .int x :: S))) := by
  subst hq; exact Go.by (fun _ => XS.iadd hA hx rfl hd rfl) k
theorem g_isub (hA : At T m c below) (hx : p.tables.exec = Jvm.exec) {x y : Int32} (hd : decode c.code pc = .ok (.isub, 1)) (hq : pc + 1 = q) (k : Go p e below Φ (T.setTop (mkF m q L (.int (x - y) :: S)))) : Go p e below Φ (T.setTop (mkF m pc L (.int y :: .int x :: S))) := by
  subst hq; exact Go.by (fun _ => XS.isub hA hx rfl hd rfl) k
theorem g_imul (hA : At T m c below) (hx : p.tables.exec = Jvm.exec) {x y : Int32} (hd : decode c.code pc = .ok (.imul, 1)) (hq : pc + 1 = q) (k : Go p e below Φ (T.setTop (mkF m q L (.int (x * y) :: S)))) : Go p e below Φ (T.setTop (mkF m pc L (.int y :: .int x :: S))) := by
  subst hq; exact Go.by (fun _ => XS.imul hA hx rfl hd rfl) k
theorem g_iand (hA : At T m c below) (hx : p.tables.exec = Jvm.exec) {x y : Int32} (hd : decode c.code pc = .ok (.iand, 1)) (hq : pc + 1 = q) (k : Go p e below Φ (T.setTop (mkF m q L (.int (x &&& y) :: S)))) : Go p e below Φ (T.setTop (mkF m pc L (.int y :: .int x :: S))) := by
  subst hq; exact Go.by (fun _ => XS.iand hA hx rfl hd rfl) k
theorem g_ior (hA : At T m c below) (hx : p.tables.exec = Jvm.exec) {x y : Int32} (hd : decode c.code pc = .ok (.ior, 1)) (hq : pc + 1 = q) (k : Go p e below Φ (T.setTop (mkF m q L (.int (x ||| y) :: S)))) : Go p e below Φ (T.setTop (mkF m pc L (.int y :: .int x :: S))) := by
  subst hq; exact Go.by (fun _ => XS.ior hA hx rfl hd rfl) k
theorem g_ixor (hA : At T m c below) (hx : p.tables.exec = Jvm.exec) {x y : Int32} (hd : decode c.code pc = .ok (.ixor, 1)) (hq : pc + 1 = q) (k : Go p e below Φ (T.setTop (mkF m q L (.int (x ^^^ y) :: S)))) : Go p e below Φ (T.setTop (mkF m pc L (.int y :: .int x :: S))) := by
  subst hq; exact Go.by (fun _ => XS.ixor hA hx rfl hd rfl) k
theorem g_ishl (hA : At T m c below) (hx : p.tables.exec = Jvm.exec) {x y : Int32} (hd : decode c.code pc = .ok (.ishl, 1)) (hq : pc + 1 = q) (k : Go p e below Φ (T.setTop (mkF m q L (.int (x <<< (y &&& 31)) :: S)))) : Go p e below Φ (T.setTop (mkF m pc L (.int y :: .int x :: S))) := by
  subst hq; exact Go.by (fun _ => XS.ishl hA hx rfl hd rfl) k
theorem g_ishr (hA : At T m c below) (hx : p.tables.exec = Jvm.exec) {x y : Int32} (hd : decode c.code pc = .ok (.ishr, 1)) (hq : pc + 1 = q) (k : Go p e below Φ (T.setTop (mkF m q L (.int (x >>> (y &&& 31)) :: S)))) : Go p e below Φ (T.setTop (mkF m pc L (.int y :: .int x :: S))) := by
  subst hq; exact Go.by (fun _ => XS.ishr hA hx rfl hd rfl) k
theorem g_iushr (hA : At T m c below) (hx : p.tables.exec = Jvm.exec) {x y : Int32} (hd : decode c.code pc = .ok (.iushr, 1)) (hq : pc + 1 = q) (k : Go p e below Φ (T.setTop (mkF m q L (.int ((x.toUInt32 >>> (y &&& 31).toUInt32).toInt32) :: S)))) : Go p e below Φ (T.setTop (mkF m pc L (.int y :: .int x :: S))) := by
  subst hq; exact Go.by (fun _ => XS.iushr hA hx rfl hd rfl) k
theorem g_ladd (hA : At T m c below) (hx : p.tables.exec = Jvm.exec) {x y : Int64} (hd : decode c.code pc = .ok (.ladd, 1)) (hq : pc + 1 = q) (k : Go p e below Φ (T.setTop (mkF m q L (.long (x + y) :: S)))) : Go p e below Φ (T.setTop (mkF m pc L (.long y :: .long x :: S))) := by
  subst hq; exact Go.by (fun _ => XS.ladd hA hx rfl hd rfl) k
theorem g_lsub (hA : At T m c below) (hx : p.tables.exec = Jvm.exec) {x y : Int64} (hd : decode c.code pc = .ok (.lsub, 1)) (hq : pc + 1 = q) (k : Go p e below Φ (T.setTop (mkF m q L (.long (x - y) :: S)))) : Go p e below Φ (T.setTop (mkF m pc L (.long y :: .long x :: S))) := by
  subst hq; exact Go.by (fun _ => XS.lsub hA hx rfl hd rfl) k
theorem g_lmul (hA : At T m c below) (hx : p.tables.exec = Jvm.exec) {x y : Int64} (hd : decode c.code pc = .ok (.lmul, 1)) (hq : pc + 1 = q) (k : Go p e below Φ (T.setTop (mkF m q L (.long (x * y) :: S)))) : Go p e below Φ (T.setTop (mkF m pc L (.long y :: .long x :: S))) := by
  subst hq; exact Go.by (fun _ => XS.lmul hA hx rfl hd rfl) k
theorem g_land (hA : At T m c below) (hx : p.tables.exec = Jvm.exec) {x y : Int64} (hd : decode c.code pc = .ok (.land, 1)) (hq : pc + 1 = q) (k : Go p e below Φ (T.setTop (mkF m q L (.long (x &&& y) :: S)))) : Go p e below Φ (T.setTop (mkF m pc L (.long y :: .long x :: S))) := by
  subst hq; exact Go.by (fun _ => XS.land hA hx rfl hd rfl) k
theorem g_lor (hA : At T m c below) (hx : p.tables.exec = Jvm.exec) {x y : Int64} (hd : decode c.code pc = .ok (.lor, 1)) (hq : pc + 1 = q) (k : Go p e below Φ (T.setTop (mkF m q L (.long (x ||| y) :: S)))) : Go p e below Φ (T.setTop (mkF m pc L (.long y :: .long x :: S))) := by
  subst hq; exact Go.by (fun _ => XS.lor hA hx rfl hd rfl) k
theorem g_lxor (hA : At T m c below) (hx : p.tables.exec = Jvm.exec) {x y : Int64} (hd : decode c.code pc = .ok (.lxor, 1)) (hq : pc + 1 = q) (k : Go p e below Φ (T.setTop (mkF m q L (.long (x ^^^ y) :: S)))) : Go p e below Φ (T.setTop (mkF m pc L (.long y :: .long x :: S))) := by
  subst hq; exact Go.by (fun _ => XS.lxor hA hx rfl hd rfl) k
theorem g_lshl (hA : At T m c below) (hx : p.tables.exec = Jvm.exec) {x : Int64} {y : Int32} (hd : decode c.code pc = .ok (.lshl, 1)) (hq : pc + 1 = q) (k : Go p e below Φ (T.setTop (mkF m q L (.long (x <<< (y &&& 0x3f).toInt64) :: S)))) : Go p e below Φ (T.setTop (mkF m pc L (.int y :: .long x :: S))) := by
  subst hq; exact Go.by (fun _ => XS.lshl hA hx rfl hd rfl) k
theorem g_lshr (hA : At T m c below) (hx : p.tables.exec = Jvm.exec) {x : Int64} {y : Int32} (hd : decode c.code pc = .ok (.lshr, 1)) (hq : pc + 1 = q) (k : Go p e below Φ (T.setTop (mkF m q L (.long (x >>> (y &&& 0x3f).toInt64) :: S)))) : Go p e below Φ (T.setTop (mkF m pc L (.int y :: .long x :: S))) := by
  subst hq; exact Go.by (fun _ => XS.lshr hA hx rfl hd rfl) k
theorem g_lushr (hA : At T m c below) (hx : p.tables.exec = Jvm.exec) {x : Int64} {y : Int32} (hd : decode c.code pc = .ok (.lushr, 1)) (hq : pc + 1 = q) (k : Go p e below Φ (T.setTop (mkF m q L (.long ((x.toUInt64 >>> (y &&& 0x3f).toInt64.toUInt64).toInt64) :: S)))) : Go p e below Φ (T.setTop (mkF m pc L (.int y :: .long x :: S))) := by
  subst hq; exact Go.by (fun _ => XS.lushr hA hx rfl hd rfl) k
theorem g_idiv (hA : At T m c below) (hx : p.tables.exec = Jvm.exec) {x y : Int32} (hd : decode c.code pc = .ok (.idiv, 1)) (hy : y ≠ 0) (hq : pc + 1 = q) (k : Go p e below Φ (T.setTop (mkF m q L (.int (x / y) :: S)))) : Go p e below Φ (T.setTop (mkF m pc L (.int y :: .int x :: S))) := by
  subst hq; exact Go.by (fun _ => XS.idiv hA hx rfl hd rfl hy) k
theorem g_irem (hA : At T m c below) (hx : p.tables.exec = Jvm.exec) {x y : Int32} (hd : decode c.code pc = .ok (.irem, 1)) (hy : y ≠ 0) (hq : pc + 1 = q) (k : Go p e below Φ (T.setTop (mkF m q L (.int (x % y) :: S)))) : Go p e below Φ (T.setTop (mkF m pc L (.int y :: .int x :: S))) := by
  subst hq; exact Go.by (fun _ => fun r => XS.irem hA hx rfl hd rfl hy (by rw [irem_eq_mod x y]; exact r)) k
theorem g_ldiv (hA : At T m c below) (hx : p.tables.exec = Jvm.exec) {x y : Int64} (hd : decode c.code pc = .ok (.ldiv, 1)) (hy : y ≠ 0) (hq : pc + 1 = q) (k : Go p e below Φ (T.setTop (mkF m q L (.long (x / y) :: S)))) : Go p e below Φ (T.setTop (mkF m pc L (.long y :: .long x :: S))) := by
  subst hq; exact Go.by (fun _ => XS.ldiv hA hx rfl hd rfl hy) k
theorem g_lrem (hA : At T m c below) (hx : p.tables.exec = Jvm.exec) {x y : Int64} (hd : decode c.code pc = .ok (.lrem, 1)) (hy : y ≠ 0) (hq : pc + 1 = q) (k : Go p e below Φ (T.setTop (mkF m q L (.long (x % y) :: S)))) : Go p e below Φ (T.setTop (mkF m pc L (.long y :: .long x :: S))) := by
  subst hq; exact Go.by (fun _ => fun r => XS.lrem hA hx rfl hd rfl hy (by rw [lrem_mod x y]; exact r)) k
theorem g_ineg (hA : At T m c below) (hx : p.tables.exec = Jvm.exec) {x : Int32} (hd : decode c.code pc = .ok (.ineg, 1)) (hq : pc + 1 = q) (k : Go p e below Φ (T.setTop (mkF m q L (.int (-x) :: S)))) : Go p e below Φ (T.setTop (mkF m pc L (.int x :: S))) := by
  subst hq; exact Go.by (fun _ => XS.ineg hA hx rfl hd rfl) k
theorem g_i2l (hA : At T m c below) (hx : p.tables.exec = Jvm.exec) {x : Int32} (hd : decode c.code pc = .ok (.i2l, 1)) (hq : pc + 1 = q) (k : Go p e below Φ (T.setTop (mkF m q L (.long x.toInt64 :: S)))) : Go p e below Φ (T.setTop (mkF m pc L (.int x :: S))) := by
  subst hq; exact Go.by (fun _ => XS.i2l hA hx rfl hd rfl) k
theorem g_l2i (hA : At T m c below) (hx : p.tables.exec = Jvm.exec) {x : Int64} (hd : decode c.code pc = .ok (.l2i, 1)) (hq : pc + 1 = q) (k : Go p e below Φ (T.setTop (mkF m q L (.int x.toInt32 :: S)))) : Go p e below Φ (T.setTop (mkF m pc L (.long x :: S))) := by
  subst hq; exact Go.by (fun _ => XS.l2i hA hx rfl hd rfl) k
theorem g_i2c (hA : At T m c below) (hx : p.tables.exec = Jvm.exec) {x : Int32} (hd : decode c.code pc = .ok (.i2c, 1)) (hq : pc + 1 = q) (k : Go p e below Φ (T.setTop (mkF m q L (.int x.toUInt32.toUInt16.toUInt32.toInt32 :: S)))) : Go p e below Φ (T.setTop (mkF m pc L (.int x :: S))) := by
  subst hq; exact Go.by (fun _ => XS.i2c hA hx rfl hd rfl) k
theorem g_lcmp (hA : At T m c below) (hx : p.tables.exec = Jvm.exec) {x y : Int64} (hd : decode c.code pc = .ok (.lcmp, 1)) (hq : pc + 1 = q) (k : Go p e below Φ (T.setTop (mkF m q L (.int (lcmpW x y) :: S)))) : Go p e below Φ (T.setTop (mkF m pc L (.long y :: .long x :: S))) := by
  subst hq; exact Go.by (fun _ => XS.lcmp hA hx rfl hd rfl) k
theorem g_iinc (hA : At T m c below) (hx : p.tables.exec = Jvm.exec) {j : Nat} {i : Int} {x v : Int32} {L' : Array Slot} (hd : decode c.code pc = .ok (.iinc j i, 3)) (hl : L[j]? = some (.val (.int x))) (hv : x + Int32.ofInt i = v) (hl' : storeLocals L j (.int v) = some L') (hq : pc + 3 = q) (k : Go p e below Φ (T.setTop (mkF m q L' S))) : Go p e below Φ (T.setTop (mkF m pc L S)) := by
  subst hq; exact Go.by (fun _ => XS.iinc hA hx rfl hd hl (by rw [hv]; exact hl')) k
theorem g_dup (hA : At T m c below) (hx : p.tables.exec = Jvm.exec) {v : Value} (hd : decode c.code pc = .ok (.dup, 1)) (hv : v.category = 1) (hq : pc + 1 = q) (k : Go p e below Φ (T.setTop (mkF m q L (v :: v :: S)))) : Go p e below Φ (T.setTop (mkF m pc L (v :: S))) := by
  subst hq; exact Go.by (fun _ => XS.dup hA hx rfl hd rfl hv) k
theorem g_pop (hA : At T m c below) (hx : p.tables.exec = Jvm.exec) {v : Value} (hd : decode c.code pc = .ok (.pop, 1)) (hv : v.category = 1) (hq : pc + 1 = q) (k : Go p e below Φ (T.setTop (mkF m q L S))) : Go p e below Φ (T.setTop (mkF m pc L (v :: S))) := by
  subst hq; exact Go.by (fun _ => XS.pop hA hx rfl hd rfl hv) k
theorem g_dupX1 (hA : At T m c below) (hx : p.tables.exec = Jvm.exec) {v w : Value} (hd : decode c.code pc = .ok (.dup_x1, 1)) (hv : v.category = 1) (hw' : w.category = 1) (hq : pc + 1 = q) (k : Go p e below Φ (T.setTop (mkF m q L (v :: w :: v :: S)))) : Go p e below Φ (T.setTop (mkF m pc L (v :: w :: S))) := by
  subst hq; exact Go.by (fun _ => XS.dupX1 hA hx rfl hd rfl hv hw') k
theorem g_dup2 (hA : At T m c below) (hx : p.tables.exec = Jvm.exec) {v w : Value} (hd : decode c.code pc = .ok (.dup2, 1)) (hv : v.category = 1) (hw' : w.category = 1) (hq : pc + 1 = q) (k : Go p e below Φ (T.setTop (mkF m q L (v :: w :: v :: w :: S)))) : Go p e below Φ (T.setTop (mkF m pc L (v :: w :: S))) := by
  subst hq; exact Go.by (fun _ => Jvm.Free.XT.dup2 hA hx rfl hd rfl hv hw') k
theorem g_goto (hA : At T m c below) (hx : p.tables.exec = Jvm.exec) {o : Int} (hd : decode c.code pc = .ok (.goto o, 3)) (ho : 0 ≤ (pc : Int) + o) (hq : ((pc : Int) + o).toNat = q) (k : Go p e below Φ (T.setTop (mkF m q L S))) : Go p e below Φ (T.setTop (mkF m pc L S)) := Go.by (fun _ => XS.goto hA hx rfl rfl hd ho hq) k
theorem g_icmp (hA : At T m c below) (hx : p.tables.exec = Jvm.exec) {cd : ClassFile.Cond} {o : Int} {q0 : Nat} {x y : Int32} (hd : decode c.code pc = .ok (.if_icmp cd o, 3)) (ho : 0 ≤ (pc : Int) + o) (hq : ((pc : Int) + o).toNat = q) (hq0 : pc + 3 = q0) (k1 : if_icmp.holds cd x y = true → Go p e below Φ (T.setTop (mkF m q L S))) (k0 : if_icmp.holds cd x y = false → Go p e below Φ (T.setTop (mkF m q0 L S))) : Go p e below Φ (T.setTop (mkF m pc L (.int y :: .int x :: S))) := by
  subst hq0
  cases hb : if_icmp.holds cd x y
  · exact Go.by (fun _ => XS.icmpNo hA hx rfl hd rfl hb) (k0 hb)
  · exact Go.by (fun _ => XS.icmpYes hA hx rfl rfl hd rfl hb ho hq) (k1 hb)
theorem g_if0 (hA : At T m c below) (hx : p.tables.exec = Jvm.exec) {cd : ClassFile.Cond} {o : Int} {q0 : Nat} {x : Int32} (hd : decode c.code pc = .ok (.ifCond cd o, 3)) (ho : 0 ≤ (pc : Int) + o) (hq : ((pc : Int) + o).toNat = q) (hq0 : pc + 3 = q0) (k1 : if_icmp.holds cd x 0 = true → Go p e below Φ (T.setTop (mkF m q L S))) (k0 : if_icmp.holds cd x 0 = false → Go p e below Φ (T.setTop (mkF m q0 L S))) : Go p e below Φ (T.setTop (mkF m pc L (.int x :: S))) := by
  subst hq0
  cases hb : if_icmp.holds cd x 0
  · exact Go.by (fun _ => XS.ifNo hA hx rfl hd rfl ((if0 _ _).trans hb)) (k0 hb)
  · exact Go.by (fun _ => XS.ifYes hA hx rfl rfl hd rfl ((if0 _ _).trans hb) ho hq) (k1 hb)
theorem rel_eq {x y : Int32} : (if_icmp.holds .eq x y = true → x.toInt = y.toInt) ∧ (if_icmp.holds .eq x y = false → x.toInt ≠ y.toInt) := by
  constructor <;> intro h <;> simp [if_icmp.holds, Int32.lt_iff_toInt_lt, Int32.le_iff_toInt_le, ← Int32.toInt_inj] at h <;> omega
theorem g_icmp_eq (hA : At T m c below) (hx : p.tables.exec = Jvm.exec) {o : Int} {q0 : Nat} {x y : Int32} (hd : decode c.code pc = .ok (.if_icmp .eq o, 3)) (ho : 0 ≤ (pc : Int) + o) (hq : ((pc : Int) + o).toNat = q) (hq0 : pc + 3 = q0) (k1 : x.toInt = y.toInt → Go p e below Φ (T.setTop (mkF m q L S))) (k0 : x.toInt ≠ y.toInt → Go p e below Φ (T.setTop (mkF m q0 L S))) : Go p e below Φ (T.setTop (mkF m pc L (.int y :: .int x :: S))) := g_icmp hA hx hd ho hq hq0 (fun h => k1 (rel_eq.1 h)) (fun h => k0 (rel_eq.2 h))
theorem g_if_eq (hA : At T m c below) (hx : p.tables.exec = Jvm.exec) {o : Int} {q0 : Nat} {x : Int32} (hd : decode c.code pc = .ok (.ifCond .eq o, 3)) (ho : 0 ≤ (pc : Int) + o) (hq : ((pc : Int) + o).toNat = q) (hq0 : pc + 3 = q0) (k1 : x.toInt = 0 → Go p e below Φ (T.setTop (mkF m q L S))) (k0 : x.toInt ≠ 0 → Go p e below Φ (T.setTop (mkF m q0 L S))) : Go p e below Φ (T.setTop (mkF m pc L (.int x :: S))) := g_if0 hA hx hd ho hq hq0 (fun h => k1 (rel_eq.1 h)) (fun h => k0 (rel_eq.2 h))
theorem rell_eq {x y : Int64} : (if_icmp.holds .eq (lcmpW x y) 0 = true → x.toInt = y.toInt) ∧ (if_icmp.holds .eq (lcmpW x y) 0 = false → x.toInt ≠ y.toInt) := by
  have q := c_lcmp x y
  constructor <;> intro h
  · have h' := (rel_eq (x := lcmpW x y) (y := 0)).1 h; rw [show (0 : Int32).toInt = 0 from rfl] at h'; generalize lcmpW x y = w at *; omega
  · have h' := (rel_eq (x := lcmpW x y) (y := 0)).2 h; rw [show (0 : Int32).toInt = 0 from rfl] at h'; generalize lcmpW x y = w at *; omega
theorem g_lcmp_eq (hA : At T m c below) (hx : p.tables.exec = Jvm.exec) {o : Int} {q1 q0 : Nat} {x y : Int64} (hd : decode c.code pc = .ok (.lcmp, 1)) (hq1 : pc + 1 = q1) (hd' : decode c.code q1 = .ok (.ifCond .eq o, 3)) (ho : 0 ≤ (q1 : Int) + o) (hq : ((q1 : Int) + o).toNat = q) (hq0 : q1 + 3 = q0) (k1 : x.toInt = y.toInt → Go p e below Φ (T.setTop (mkF m q L S))) (k0 : x.toInt ≠ y.toInt → Go p e below Φ (T.setTop (mkF m q0 L S))) : Go p e below Φ (T.setTop (mkF m pc L (.long y :: .long x :: S))) := g_lcmp hA hx hd hq1 (g_if0 hA hx hd' ho hq hq0 (fun h => k1 (rell_eq.1 h)) (fun h => k0 (rell_eq.2 h)))
theorem rel_ne {x y : Int32} : (if_icmp.holds .ne x y = true → x.toInt ≠ y.toInt) ∧ (if_icmp.holds .ne x y = false → x.toInt = y.toInt) := by
  constructor <;> intro h <;> simp [if_icmp.holds, Int32.lt_iff_toInt_lt, Int32.le_iff_toInt_le, ← Int32.toInt_inj] at h <;> omega
theorem g_icmp_ne (hA : At T m c below) (hx : p.tables.exec = Jvm.exec) {o : Int} {q0 : Nat} {x y : Int32} (hd : decode c.code pc = .ok (.if_icmp .ne o, 3)) (ho : 0 ≤ (pc : Int) + o) (hq : ((pc : Int) + o).toNat = q) (hq0 : pc + 3 = q0) (k1 : x.toInt ≠ y.toInt → Go p e below Φ (T.setTop (mkF m q L S))) (k0 : x.toInt = y.toInt → Go p e below Φ (T.setTop (mkF m q0 L S))) : Go p e below Φ (T.setTop (mkF m pc L (.int y :: .int x :: S))) := g_icmp hA hx hd ho hq hq0 (fun h => k1 (rel_ne.1 h)) (fun h => k0 (rel_ne.2 h))
theorem g_if_ne (hA : At T m c below) (hx : p.tables.exec = Jvm.exec) {o : Int} {q0 : Nat} {x : Int32} (hd : decode c.code pc = .ok (.ifCond .ne o, 3)) (ho : 0 ≤ (pc : Int) + o) (hq : ((pc : Int) + o).toNat = q) (hq0 : pc + 3 = q0) (k1 : x.toInt ≠ 0 → Go p e below Φ (T.setTop (mkF m q L S))) (k0 : x.toInt = 0 → Go p e below Φ (T.setTop (mkF m q0 L S))) : Go p e below Φ (T.setTop (mkF m pc L (.int x :: S))) := g_if0 hA hx hd ho hq hq0 (fun h => k1 (rel_ne.1 h)) (fun h => k0 (rel_ne.2 h))
theorem rell_ne {x y : Int64} : (if_icmp.holds .ne (lcmpW x y) 0 = true → x.toInt ≠ y.toInt) ∧ (if_icmp.holds .ne (lcmpW x y) 0 = false → x.toInt = y.toInt) := by
  have q := c_lcmp x y
  constructor <;> intro h
  · have h' := (rel_ne (x := lcmpW x y) (y := 0)).1 h; rw [show (0 : Int32).toInt = 0 from rfl] at h'; generalize lcmpW x y = w at *; omega
  · have h' := (rel_ne (x := lcmpW x y) (y := 0)).2 h; rw [show (0 : Int32).toInt = 0 from rfl] at h'; generalize lcmpW x y = w at *; omega
theorem g_lcmp_ne (hA : At T m c below) (hx : p.tables.exec = Jvm.exec) {o : Int} {q1 q0 : Nat} {x y : Int64} (hd : decode c.code pc = .ok (.lcmp, 1)) (hq1 : pc + 1 = q1) (hd' : decode c.code q1 = .ok (.ifCond .ne o, 3)) (ho : 0 ≤ (q1 : Int) + o) (hq : ((q1 : Int) + o).toNat = q) (hq0 : q1 + 3 = q0) (k1 : x.toInt ≠ y.toInt → Go p e below Φ (T.setTop (mkF m q L S))) (k0 : x.toInt = y.toInt → Go p e below Φ (T.setTop (mkF m q0 L S))) : Go p e below Φ (T.setTop (mkF m pc L (.long y :: .long x :: S))) := g_lcmp hA hx hd hq1 (g_if0 hA hx hd' ho hq hq0 (fun h => k1 (rell_ne.1 h)) (fun h => k0 (rell_ne.2 h)))
theorem rel_lt {x y : Int32} : (if_icmp.holds .lt x y = true → x.toInt < y.toInt) ∧ (if_icmp.holds .lt x y = false → y.toInt ≤ x.toInt) := by
  constructor <;> intro h <;> simp [if_icmp.holds, Int32.lt_iff_toInt_lt, Int32.le_iff_toInt_le, ← Int32.toInt_inj] at h <;> omega
theorem g_icmp_lt (hA : At T m c below) (hx : p.tables.exec = Jvm.exec) {o : Int} {q0 : Nat} {x y : Int32} (hd : decode c.code pc = .ok (.if_icmp .lt o, 3)) (ho : 0 ≤ (pc : Int) + o) (hq : ((pc : Int) + o).toNat = q) (hq0 : pc + 3 = q0) (k1 : x.toInt < y.toInt → Go p e below Φ (T.setTop (mkF m q L S))) (k0 : y.toInt ≤ x.toInt → Go p e below Φ (T.setTop (mkF m q0 L S))) : Go p e below Φ (T.setTop (mkF m pc L (.int y :: .int x :: S))) := g_icmp hA hx hd ho hq hq0 (fun h => k1 (rel_lt.1 h)) (fun h => k0 (rel_lt.2 h))
theorem g_if_lt (hA : At T m c below) (hx : p.tables.exec = Jvm.exec) {o : Int} {q0 : Nat} {x : Int32} (hd : decode c.code pc = .ok (.ifCond .lt o, 3)) (ho : 0 ≤ (pc : Int) + o) (hq : ((pc : Int) + o).toNat = q) (hq0 : pc + 3 = q0) (k1 : x.toInt < 0 → Go p e below Φ (T.setTop (mkF m q L S))) (k0 : 0 ≤ x.toInt → Go p e below Φ (T.setTop (mkF m q0 L S))) : Go p e below Φ (T.setTop (mkF m pc L (.int x :: S))) := g_if0 hA hx hd ho hq hq0 (fun h => k1 (rel_lt.1 h)) (fun h => k0 (rel_lt.2 h))
theorem rell_lt {x y : Int64} : (if_icmp.holds .lt (lcmpW x y) 0 = true → x.toInt < y.toInt) ∧ (if_icmp.holds .lt (lcmpW x y) 0 = false → y.toInt ≤ x.toInt) := by
  have q := c_lcmp x y
  constructor <;> intro h
  · have h' := (rel_lt (x := lcmpW x y) (y := 0)).1 h; rw [show (0 : Int32).toInt = 0 from rfl] at h'; generalize lcmpW x y = w at *; omega
  · have h' := (rel_lt (x := lcmpW x y) (y := 0)).2 h; rw [show (0 : Int32).toInt = 0 from rfl] at h'; generalize lcmpW x y = w at *; omega
theorem g_lcmp_lt (hA : At T m c below) (hx : p.tables.exec = Jvm.exec) {o : Int} {q1 q0 : Nat} {x y : Int64} (hd : decode c.code pc = .ok (.lcmp, 1)) (hq1 : pc + 1 = q1) (hd' : decode c.code q1 = .ok (.ifCond .lt o, 3)) (ho : 0 ≤ (q1 : Int) + o) (hq : ((q1 : Int) + o).toNat = q) (hq0 : q1 + 3 = q0) (k1 : x.toInt < y.toInt → Go p e below Φ (T.setTop (mkF m q L S))) (k0 : y.toInt ≤ x.toInt → Go p e below Φ (T.setTop (mkF m q0 L S))) : Go p e below Φ (T.setTop (mkF m pc L (.long y :: .long x :: S))) := g_lcmp hA hx hd hq1 (g_if0 hA hx hd' ho hq hq0 (fun h => k1 (rell_lt.1 h)) (fun h => k0 (rell_lt.2 h)))
theorem rel_ge {x y : Int32} : (if_icmp.holds .ge x y = true → y.toInt ≤ x.toInt) ∧ (if_icmp.holds .ge x y = false → x.toInt < y.toInt) := by
  constructor <;> intro h <;> simp [if_icmp.holds, Int32.lt_iff_toInt_lt, Int32.le_iff_toInt_le, ← Int32.toInt_inj] at h <;> omega
theorem g_icmp_ge (hA : At T m c below) (hx : p.tables.exec = Jvm.exec) {o : Int} {q0 : Nat} {x y : Int32} (hd : decode c.code pc = .ok (.if_icmp .ge o, 3)) (ho : 0 ≤ (pc : Int) + o) (hq : ((pc : Int) + o).toNat = q) (hq0 : pc + 3 = q0) (k1 : y.toInt ≤ x.toInt → Go p e below Φ (T.setTop (mkF m q L S))) (k0 : x.toInt < y.toInt → Go p e below Φ (T.setTop (mkF m q0 L S))) : Go p e below Φ (T.setTop (mkF m pc L (.int y :: .int x :: S))) := g_icmp hA hx hd ho hq hq0 (fun h => k1 (rel_ge.1 h)) (fun h => k0 (rel_ge.2 h))
theorem g_if_ge (hA : At T m c below) (hx : p.tables.exec = Jvm.exec) {o : Int} {q0 : Nat} {x : Int32} (hd : decode c.code pc = .ok (.ifCond .ge o, 3)) (ho : 0 ≤ (pc : Int) + o) (hq : ((pc : Int) + o).toNat = q) (hq0 : pc + 3 = q0) (k1 : 0 ≤ x.toInt → Go p e below Φ (T.setTop (mkF m q L S))) (k0 : x.toInt < 0 → Go p e below Φ (T.setTop (mkF m q0 L S))) : Go p e below Φ (T.setTop (mkF m pc L (.int x :: S))) := g_if0 hA hx hd ho hq hq0 (fun h => k1 (rel_ge.1 h)) (fun h => k0 (rel_ge.2 h))
theorem rell_ge {x y : Int64} : (if_icmp.holds .ge (lcmpW x y) 0 = true → y.toInt ≤ x.toInt) ∧ (if_icmp.holds .ge (lcmpW x y) 0 = false → x.toInt < y.toInt) := by
  have q := c_lcmp x y
  constructor <;> intro h
  · have h' := (rel_ge (x := lcmpW x y) (y := 0)).1 h; rw [show (0 : Int32).toInt = 0 from rfl] at h'; generalize lcmpW x y = w at *; omega
  · have h' := (rel_ge (x := lcmpW x y) (y := 0)).2 h; rw [show (0 : Int32).toInt = 0 from rfl] at h'; generalize lcmpW x y = w at *; omega
theorem g_lcmp_ge (hA : At T m c below) (hx : p.tables.exec = Jvm.exec) {o : Int} {q1 q0 : Nat} {x y : Int64} (hd : decode c.code pc = .ok (.lcmp, 1)) (hq1 : pc + 1 = q1) (hd' : decode c.code q1 = .ok (.ifCond .ge o, 3)) (ho : 0 ≤ (q1 : Int) + o) (hq : ((q1 : Int) + o).toNat = q) (hq0 : q1 + 3 = q0) (k1 : y.toInt ≤ x.toInt → Go p e below Φ (T.setTop (mkF m q L S))) (k0 : x.toInt < y.toInt → Go p e below Φ (T.setTop (mkF m q0 L S))) : Go p e below Φ (T.setTop (mkF m pc L (.long y :: .long x :: S))) := g_lcmp hA hx hd hq1 (g_if0 hA hx hd' ho hq hq0 (fun h => k1 (rell_ge.1 h)) (fun h => k0 (rell_ge.2 h)))
theorem rel_gt {x y : Int32} : (if_icmp.holds .gt x y = true → y.toInt < x.toInt) ∧ (if_icmp.holds .gt x y = false → x.toInt ≤ y.toInt) := by
  constructor <;> intro h <;> simp [if_icmp.holds, Int32.lt_iff_toInt_lt, Int32.le_iff_toInt_le, ← Int32.toInt_inj] at h <;> omega
theorem g_icmp_gt (hA : At T m c below) (hx : p.tables.exec = Jvm.exec) {o : Int} {q0 : Nat} {x y : Int32} (hd : decode c.code pc = .ok (.if_icmp .gt o, 3)) (ho : 0 ≤ (pc : Int) + o) (hq : ((pc : Int) + o).toNat = q) (hq0 : pc + 3 = q0) (k1 : y.toInt < x.toInt → Go p e below Φ (T.setTop (mkF m q L S))) (k0 : x.toInt ≤ y.toInt → Go p e below Φ (T.setTop (mkF m q0 L S))) : Go p e below Φ (T.setTop (mkF m pc L (.int y :: .int x :: S))) := g_icmp hA hx hd ho hq hq0 (fun h => k1 (rel_gt.1 h)) (fun h => k0 (rel_gt.2 h))
theorem g_if_gt (hA : At T m c below) (hx : p.tables.exec = Jvm.exec) {o : Int} {q0 : Nat} {x : Int32} (hd : decode c.code pc = .ok (.ifCond .gt o, 3)) (ho : 0 ≤ (pc : Int) + o) (hq : ((pc : Int) + o).toNat = q) (hq0 : pc + 3 = q0) (k1 : 0 < x.toInt → Go p e below Φ (T.setTop (mkF m q L S))) (k0 : x.toInt ≤ 0 → Go p e below Φ (T.setTop (mkF m q0 L S))) : Go p e below Φ (T.setTop (mkF m pc L (.int x :: S))) := g_if0 hA hx hd ho hq hq0 (fun h => k1 (rel_gt.1 h)) (fun h => k0 (rel_gt.2 h))
theorem rell_gt {x y : Int64} : (if_icmp.holds .gt (lcmpW x y) 0 = true → y.toInt < x.toInt) ∧ (if_icmp.holds .gt (lcmpW x y) 0 = false → x.toInt ≤ y.toInt) := by
  have q := c_lcmp x y
  constructor <;> intro h
  · have h' := (rel_gt (x := lcmpW x y) (y := 0)).1 h; rw [show (0 : Int32).toInt = 0 from rfl] at h'; generalize lcmpW x y = w at *; omega
  · have h' := (rel_gt (x := lcmpW x y) (y := 0)).2 h; rw [show (0 : Int32).toInt = 0 from rfl] at h'; generalize lcmpW x y = w at *; omega
theorem g_lcmp_gt (hA : At T m c below) (hx : p.tables.exec = Jvm.exec) {o : Int} {q1 q0 : Nat} {x y : Int64} (hd : decode c.code pc = .ok (.lcmp, 1)) (hq1 : pc + 1 = q1) (hd' : decode c.code q1 = .ok (.ifCond .gt o, 3)) (ho : 0 ≤ (q1 : Int) + o) (hq : ((q1 : Int) + o).toNat = q) (hq0 : q1 + 3 = q0) (k1 : y.toInt < x.toInt → Go p e below Φ (T.setTop (mkF m q L S))) (k0 : x.toInt ≤ y.toInt → Go p e below Φ (T.setTop (mkF m q0 L S))) : Go p e below Φ (T.setTop (mkF m pc L (.long y :: .long x :: S))) := g_lcmp hA hx hd hq1 (g_if0 hA hx hd' ho hq hq0 (fun h => k1 (rell_gt.1 h)) (fun h => k0 (rell_gt.2 h)))
theorem rel_le {x y : Int32} : (if_icmp.holds .le x y = true → x.toInt ≤ y.toInt) ∧ (if_icmp.holds .le x y = false → y.toInt < x.toInt) := by
  constructor <;> intro h <;> simp [if_icmp.holds, Int32.lt_iff_toInt_lt, Int32.le_iff_toInt_le, ← Int32.toInt_inj] at h <;> omega
theorem g_icmp_le (hA : At T m c below) (hx : p.tables.exec = Jvm.exec) {o : Int} {q0 : Nat} {x y : Int32} (hd : decode c.code pc = .ok (.if_icmp .le o, 3)) (ho : 0 ≤ (pc : Int) + o) (hq : ((pc : Int) + o).toNat = q) (hq0 : pc + 3 = q0) (k1 : x.toInt ≤ y.toInt → Go p e below Φ (T.setTop (mkF m q L S))) (k0 : y.toInt < x.toInt → Go p e below Φ (T.setTop (mkF m q0 L S))) : Go p e below Φ (T.setTop (mkF m pc L (.int y :: .int x :: S))) := g_icmp hA hx hd ho hq hq0 (fun h => k1 (rel_le.1 h)) (fun h => k0 (rel_le.2 h))
theorem g_if_le (hA : At T m c below) (hx : p.tables.exec = Jvm.exec) {o : Int} {q0 : Nat} {x : Int32} (hd : decode c.code pc = .ok (.ifCond .le o, 3)) (ho : 0 ≤ (pc : Int) + o) (hq : ((pc : Int) + o).toNat = q) (hq0 : pc + 3 = q0) (k1 : x.toInt ≤ 0 → Go p e below Φ (T.setTop (mkF m q L S))) (k0 : 0 < x.toInt → Go p e below Φ (T.setTop (mkF m q0 L S))) : Go p e below Φ (T.setTop (mkF m pc L (.int x :: S))) := g_if0 hA hx hd ho hq hq0 (fun h => k1 (rel_le.1 h)) (fun h => k0 (rel_le.2 h))
theorem rell_le {x y : Int64} : (if_icmp.holds .le (lcmpW x y) 0 = true → x.toInt ≤ y.toInt) ∧ (if_icmp.holds .le (lcmpW x y) 0 = false → y.toInt < x.toInt) := by
  have q := c_lcmp x y
  constructor <;> intro h
  · have h' := (rel_le (x := lcmpW x y) (y := 0)).1 h; rw [show (0 : Int32).toInt = 0 from rfl] at h'; generalize lcmpW x y = w at *; omega
  · have h' := (rel_le (x := lcmpW x y) (y := 0)).2 h; rw [show (0 : Int32).toInt = 0 from rfl] at h'; generalize lcmpW x y = w at *; omega
theorem g_lcmp_le (hA : At T m c below) (hx : p.tables.exec = Jvm.exec) {o : Int} {q1 q0 : Nat} {x y : Int64} (hd : decode c.code pc = .ok (.lcmp, 1)) (hq1 : pc + 1 = q1) (hd' : decode c.code q1 = .ok (.ifCond .le o, 3)) (ho : 0 ≤ (q1 : Int) + o) (hq : ((q1 : Int) + o).toNat = q) (hq0 : q1 + 3 = q0) (k1 : x.toInt ≤ y.toInt → Go p e below Φ (T.setTop (mkF m q L S))) (k0 : y.toInt < x.toInt → Go p e below Φ (T.setTop (mkF m q0 L S))) : Go p e below Φ (T.setTop (mkF m pc L (.long y :: .long x :: S))) := g_lcmp hA hx hd hq1 (g_if0 hA hx hd' ho hq hq0 (fun h => k1 (rell_le.1 h)) (fun h => k0 (rell_le.2 h)))
theorem g_ifB_ne (hA : At T m c below) (hx : p.tables.exec = Jvm.exec) {o : Int} {q0 : Nat} {b : Bool} (hd : decode c.code pc = .ok (.ifCond .ne o, 3)) (ho : 0 ≤ (pc : Int) + o) (hq : ((pc : Int) + o).toNat = q) (hq0 : pc + 3 = q0) (k1 : b = true → Go p e below Φ (T.setTop (mkF m q L S))) (k0 : b = false → Go p e below Φ (T.setTop (mkF m q0 L S))) : Go p e below Φ (T.setTop (mkF m pc L (.int (b2i b) :: S))) := g_if0 hA hx hd ho hq hq0 (fun h => k1 (by cases b <;> first | rfl | exact Bool.noConfusion h)) (fun h => k0 (by cases b <;> first | rfl | exact Bool.noConfusion h))
theorem g_ifB_eq (hA : At T m c below) (hx : p.tables.exec = Jvm.exec) {o : Int} {q0 : Nat} {b : Bool} (hd : decode c.code pc = .ok (.ifCond .eq o, 3)) (ho : 0 ≤ (pc : Int) + o) (hq : ((pc : Int) + o).toNat = q) (hq0 : pc + 3 = q0) (k1 : b = false → Go p e below Φ (T.setTop (mkF m q L S))) (k0 : b = true → Go p e below Φ (T.setTop (mkF m q0 L S))) : Go p e below Φ (T.setTop (mkF m pc L (.int (b2i b) :: S))) := g_if0 hA hx hd ho hq hq0 (fun h => k1 (by cases b <;> first | rfl | exact Bool.noConfusion h)) (fun h => k0 (by cases b <;> first | rfl | exact Bool.noConfusion h))
theorem g_sel_icmp_eq (hA : At T m c below) (hx : p.tables.exec = Jvm.exec) {o o' : Int} {z t t' : Nat} {x y : Int32} (hd : decode c.code pc = .ok (.if_icmp .eq o, 3)) (ho : 0 ≤ (pc : Int) + o) (hz' : ((pc : Int) + o).toNat = z) (ht0 : pc + 3 = t) (hz : decode c.code z = .ok (.iconst 0, 1)) (ht : decode c.code t = .ok (.iconst 1, 1)) (hg : decode c.code t' = .ok (.goto o', 3)) (ht' : t + 1 = t') (hog : 0 ≤ (t' : Int) + o') (hj : ((t' : Int) + o').toNat = q) (hj' : z + 1 = q) (k : Go p e below Φ (T.setTop (mkF m q L (.int (b2i (decide (x.toInt ≠ y.toInt))) :: S)))) : Go p e below Φ (T.setTop (mkF m pc L (.int y :: .int x :: S))) :=
  g_icmp_eq hA hx hd ho hz' ht0 (fun h => g_iconst hA hx hz rfl hj' (by rw [show decide (x.toInt ≠ y.toInt) = false from decide_eq_false (by omega)] at k; exact k)) (fun h => g_iconst hA hx ht rfl ht' (g_goto hA hx hg hog hj (by rw [show decide (x.toInt ≠ y.toInt) = true from decide_eq_true (by omega)] at k; exact k)))
theorem g_sel_icmp_ne (hA : At T m c below) (hx : p.tables.exec = Jvm.exec) {o o' : Int} {z t t' : Nat} {x y : Int32} (hd : decode c.code pc = .ok (.if_icmp .ne o, 3)) (ho : 0 ≤ (pc : Int) + o) (hz' : ((pc : Int) + o).toNat = z) (ht0 : pc + 3 = t) (hz : decode c.code z = .ok (.iconst 0, 1)) (ht : decode c.code t = .ok (.iconst 1, 1)) (hg : decode c.code t' = .ok (.goto o', 3)) (ht' : t + 1 = t') (hog : 0 ≤ (t' : Int) + o') (hj : ((t' : Int) + o').toNat = q) (hj' : z + 1 = q) (k : Go p e below Φ (T.setTop (mkF m q L (.int (b2i (decide (x.toInt = y.toInt))) :: S)))) : Go p e below Φ (T.setTop (mkF m pc L (.int y :: .int x :: S))) :=
  g_icmp_ne hA hx hd ho hz' ht0 (fun h => g_iconst hA hx hz rfl hj' (by rw [show decide (x.toInt = y.toInt) = false from decide_eq_false (by omega)] at k; exact k)) (fun h => g_iconst hA hx ht rfl ht' (g_goto hA hx hg hog hj (by rw [show decide (x.toInt = y.toInt) = true from decide_eq_true (by omega)] at k; exact k)))
theorem g_sel_icmp_lt (hA : At T m c below) (hx : p.tables.exec = Jvm.exec) {o o' : Int} {z t t' : Nat} {x y : Int32} (hd : decode c.code pc = .ok (.if_icmp .lt o, 3)) (ho : 0 ≤ (pc : Int) + o) (hz' : ((pc : Int) + o).toNat = z) (ht0 : pc + 3 = t) (hz : decode c.code z = .ok (.iconst 0, 1)) (ht : decode c.code t = .ok (.iconst 1, 1)) (hg : decode c.code t' = .ok (.goto o', 3)) (ht' : t + 1 = t') (hog : 0 ≤ (t' : Int) + o') (hj : ((t' : Int) + o').toNat = q) (hj' : z + 1 = q) (k : Go p e below Φ (T.setTop (mkF m q L (.int (b2i (decide (y.toInt ≤ x.toInt))) :: S)))) : Go p e below Φ (T.setTop (mkF m pc L (.int y :: .int x :: S))) :=
  g_icmp_lt hA hx hd ho hz' ht0 (fun h => g_iconst hA hx hz rfl hj' (by rw [show decide (y.toInt ≤ x.toInt) = false from decide_eq_false (by omega)] at k; exact k)) (fun h => g_iconst hA hx ht rfl ht' (g_goto hA hx hg hog hj (by rw [show decide (y.toInt ≤ x.toInt) = true from decide_eq_true (by omega)] at k; exact k)))
theorem g_sel_icmp_ge (hA : At T m c below) (hx : p.tables.exec = Jvm.exec) {o o' : Int} {z t t' : Nat} {x y : Int32} (hd : decode c.code pc = .ok (.if_icmp .ge o, 3)) (ho : 0 ≤ (pc : Int) + o) (hz' : ((pc : Int) + o).toNat = z) (ht0 : pc + 3 = t) (hz : decode c.code z = .ok (.iconst 0, 1)) (ht : decode c.code t = .ok (.iconst 1, 1)) (hg : decode c.code t' = .ok (.goto o', 3)) (ht' : t + 1 = t') (hog : 0 ≤ (t' : Int) + o') (hj : ((t' : Int) + o').toNat = q) (hj' : z + 1 = q) (k : Go p e below Φ (T.setTop (mkF m q L (.int (b2i (decide (x.toInt < y.toInt))) :: S)))) : Go p e below Φ (T.setTop (mkF m pc L (.int y :: .int x :: S))) :=
  g_icmp_ge hA hx hd ho hz' ht0 (fun h => g_iconst hA hx hz rfl hj' (by rw [show decide (x.toInt < y.toInt) = false from decide_eq_false (by omega)] at k; exact k)) (fun h => g_iconst hA hx ht rfl ht' (g_goto hA hx hg hog hj (by rw [show decide (x.toInt < y.toInt) = true from decide_eq_true (by omega)] at k; exact k)))
theorem g_sel_icmp_gt (hA : At T m c below) (hx : p.tables.exec = Jvm.exec) {o o' : Int} {z t t' : Nat} {x y : Int32} (hd : decode c.code pc = .ok (.if_icmp .gt o, 3)) (ho : 0 ≤ (pc : Int) + o) (hz' : ((pc : Int) + o).toNat = z) (ht0 : pc + 3 = t) (hz : decode c.code z = .ok (.iconst 0, 1)) (ht : decode c.code t = .ok (.iconst 1, 1)) (hg : decode c.code t' = .ok (.goto o', 3)) (ht' : t + 1 = t') (hog : 0 ≤ (t' : Int) + o') (hj : ((t' : Int) + o').toNat = q) (hj' : z + 1 = q) (k : Go p e below Φ (T.setTop (mkF m q L (.int (b2i (decide (x.toInt ≤ y.toInt))) :: S)))) : Go p e below Φ (T.setTop (mkF m pc L (.int y :: .int x :: S))) :=
  g_icmp_gt hA hx hd ho hz' ht0 (fun h => g_iconst hA hx hz rfl hj' (by rw [show decide (x.toInt ≤ y.toInt) = false from decide_eq_false (by omega)] at k; exact k)) (fun h => g_iconst hA hx ht rfl ht' (g_goto hA hx hg hog hj (by rw [show decide (x.toInt ≤ y.toInt) = true from decide_eq_true (by omega)] at k; exact k)))
theorem g_sel_icmp_le (hA : At T m c below) (hx : p.tables.exec = Jvm.exec) {o o' : Int} {z t t' : Nat} {x y : Int32} (hd : decode c.code pc = .ok (.if_icmp .le o, 3)) (ho : 0 ≤ (pc : Int) + o) (hz' : ((pc : Int) + o).toNat = z) (ht0 : pc + 3 = t) (hz : decode c.code z = .ok (.iconst 0, 1)) (ht : decode c.code t = .ok (.iconst 1, 1)) (hg : decode c.code t' = .ok (.goto o', 3)) (ht' : t + 1 = t') (hog : 0 ≤ (t' : Int) + o') (hj : ((t' : Int) + o').toNat = q) (hj' : z + 1 = q) (k : Go p e below Φ (T.setTop (mkF m q L (.int (b2i (decide (y.toInt < x.toInt))) :: S)))) : Go p e below Φ (T.setTop (mkF m pc L (.int y :: .int x :: S))) :=
  g_icmp_le hA hx hd ho hz' ht0 (fun h => g_iconst hA hx hz rfl hj' (by rw [show decide (y.toInt < x.toInt) = false from decide_eq_false (by omega)] at k; exact k)) (fun h => g_iconst hA hx ht rfl ht' (g_goto hA hx hg hog hj (by rw [show decide (y.toInt < x.toInt) = true from decide_eq_true (by omega)] at k; exact k)))
theorem g_sel_if_eq (hA : At T m c below) (hx : p.tables.exec = Jvm.exec) {o o' : Int} {z t t' : Nat} {x : Int32} (hd : decode c.code pc = .ok (.ifCond .eq o, 3)) (ho : 0 ≤ (pc : Int) + o) (hz' : ((pc : Int) + o).toNat = z) (ht0 : pc + 3 = t) (hz : decode c.code z = .ok (.iconst 0, 1)) (ht : decode c.code t = .ok (.iconst 1, 1)) (hg : decode c.code t' = .ok (.goto o', 3)) (ht' : t + 1 = t') (hog : 0 ≤ (t' : Int) + o') (hj : ((t' : Int) + o').toNat = q) (hj' : z + 1 = q) (k : Go p e below Φ (T.setTop (mkF m q L (.int (b2i (decide (x.toInt ≠ 0))) :: S)))) : Go p e below Φ (T.setTop (mkF m pc L (.int x :: S))) :=
  g_if_eq hA hx hd ho hz' ht0 (fun h => g_iconst hA hx hz rfl hj' (by rw [show decide (x.toInt ≠ 0) = false from decide_eq_false (by omega)] at k; exact k)) (fun h => g_iconst hA hx ht rfl ht' (g_goto hA hx hg hog hj (by rw [show decide (x.toInt ≠ 0) = true from decide_eq_true (by omega)] at k; exact k)))
theorem g_sel_if_ne (hA : At T m c below) (hx : p.tables.exec = Jvm.exec) {o o' : Int} {z t t' : Nat} {x : Int32} (hd : decode c.code pc = .ok (.ifCond .ne o, 3)) (ho : 0 ≤ (pc : Int) + o) (hz' : ((pc : Int) + o).toNat = z) (ht0 : pc + 3 = t) (hz : decode c.code z = .ok (.iconst 0, 1)) (ht : decode c.code t = .ok (.iconst 1, 1)) (hg : decode c.code t' = .ok (.goto o', 3)) (ht' : t + 1 = t') (hog : 0 ≤ (t' : Int) + o') (hj : ((t' : Int) + o').toNat = q) (hj' : z + 1 = q) (k : Go p e below Φ (T.setTop (mkF m q L (.int (b2i (decide (x.toInt = 0))) :: S)))) : Go p e below Φ (T.setTop (mkF m pc L (.int x :: S))) :=
  g_if_ne hA hx hd ho hz' ht0 (fun h => g_iconst hA hx hz rfl hj' (by rw [show decide (x.toInt = 0) = false from decide_eq_false (by omega)] at k; exact k)) (fun h => g_iconst hA hx ht rfl ht' (g_goto hA hx hg hog hj (by rw [show decide (x.toInt = 0) = true from decide_eq_true (by omega)] at k; exact k)))
theorem g_sel_if_lt (hA : At T m c below) (hx : p.tables.exec = Jvm.exec) {o o' : Int} {z t t' : Nat} {x : Int32} (hd : decode c.code pc = .ok (.ifCond .lt o, 3)) (ho : 0 ≤ (pc : Int) + o) (hz' : ((pc : Int) + o).toNat = z) (ht0 : pc + 3 = t) (hz : decode c.code z = .ok (.iconst 0, 1)) (ht : decode c.code t = .ok (.iconst 1, 1)) (hg : decode c.code t' = .ok (.goto o', 3)) (ht' : t + 1 = t') (hog : 0 ≤ (t' : Int) + o') (hj : ((t' : Int) + o').toNat = q) (hj' : z + 1 = q) (k : Go p e below Φ (T.setTop (mkF m q L (.int (b2i (decide (0 ≤ x.toInt))) :: S)))) : Go p e below Φ (T.setTop (mkF m pc L (.int x :: S))) :=
  g_if_lt hA hx hd ho hz' ht0 (fun h => g_iconst hA hx hz rfl hj' (by rw [show decide (0 ≤ x.toInt) = false from decide_eq_false (by omega)] at k; exact k)) (fun h => g_iconst hA hx ht rfl ht' (g_goto hA hx hg hog hj (by rw [show decide (0 ≤ x.toInt) = true from decide_eq_true (by omega)] at k; exact k)))
theorem g_sel_if_ge (hA : At T m c below) (hx : p.tables.exec = Jvm.exec) {o o' : Int} {z t t' : Nat} {x : Int32} (hd : decode c.code pc = .ok (.ifCond .ge o, 3)) (ho : 0 ≤ (pc : Int) + o) (hz' : ((pc : Int) + o).toNat = z) (ht0 : pc + 3 = t) (hz : decode c.code z = .ok (.iconst 0, 1)) (ht : decode c.code t = .ok (.iconst 1, 1)) (hg : decode c.code t' = .ok (.goto o', 3)) (ht' : t + 1 = t') (hog : 0 ≤ (t' : Int) + o') (hj : ((t' : Int) + o').toNat = q) (hj' : z + 1 = q) (k : Go p e below Φ (T.setTop (mkF m q L (.int (b2i (decide (x.toInt < 0))) :: S)))) : Go p e below Φ (T.setTop (mkF m pc L (.int x :: S))) :=
  g_if_ge hA hx hd ho hz' ht0 (fun h => g_iconst hA hx hz rfl hj' (by rw [show decide (x.toInt < 0) = false from decide_eq_false (by omega)] at k; exact k)) (fun h => g_iconst hA hx ht rfl ht' (g_goto hA hx hg hog hj (by rw [show decide (x.toInt < 0) = true from decide_eq_true (by omega)] at k; exact k)))
theorem g_sel_if_gt (hA : At T m c below) (hx : p.tables.exec = Jvm.exec) {o o' : Int} {z t t' : Nat} {x : Int32} (hd : decode c.code pc = .ok (.ifCond .gt o, 3)) (ho : 0 ≤ (pc : Int) + o) (hz' : ((pc : Int) + o).toNat = z) (ht0 : pc + 3 = t) (hz : decode c.code z = .ok (.iconst 0, 1)) (ht : decode c.code t = .ok (.iconst 1, 1)) (hg : decode c.code t' = .ok (.goto o', 3)) (ht' : t + 1 = t') (hog : 0 ≤ (t' : Int) + o') (hj : ((t' : Int) + o').toNat = q) (hj' : z + 1 = q) (k : Go p e below Φ (T.setTop (mkF m q L (.int (b2i (decide (x.toInt ≤ 0))) :: S)))) : Go p e below Φ (T.setTop (mkF m pc L (.int x :: S))) :=
  g_if_gt hA hx hd ho hz' ht0 (fun h => g_iconst hA hx hz rfl hj' (by rw [show decide (x.toInt ≤ 0) = false from decide_eq_false (by omega)] at k; exact k)) (fun h => g_iconst hA hx ht rfl ht' (g_goto hA hx hg hog hj (by rw [show decide (x.toInt ≤ 0) = true from decide_eq_true (by omega)] at k; exact k)))
theorem g_sel_if_le (hA : At T m c below) (hx : p.tables.exec = Jvm.exec) {o o' : Int} {z t t' : Nat} {x : Int32} (hd : decode c.code pc = .ok (.ifCond .le o, 3)) (ho : 0 ≤ (pc : Int) + o) (hz' : ((pc : Int) + o).toNat = z) (ht0 : pc + 3 = t) (hz : decode c.code z = .ok (.iconst 0, 1)) (ht : decode c.code t = .ok (.iconst 1, 1)) (hg : decode c.code t' = .ok (.goto o', 3)) (ht' : t + 1 = t') (hog : 0 ≤ (t' : Int) + o') (hj : ((t' : Int) + o').toNat = q) (hj' : z + 1 = q) (k : Go p e below Φ (T.setTop (mkF m q L (.int (b2i (decide (0 < x.toInt))) :: S)))) : Go p e below Φ (T.setTop (mkF m pc L (.int x :: S))) :=
  g_if_le hA hx hd ho hz' ht0 (fun h => g_iconst hA hx hz rfl hj' (by rw [show decide (0 < x.toInt) = false from decide_eq_false (by omega)] at k; exact k)) (fun h => g_iconst hA hx ht rfl ht' (g_goto hA hx hg hog hj (by rw [show decide (0 < x.toInt) = true from decide_eq_true (by omega)] at k; exact k)))
theorem g_sel_lcmp_eq (hA : At T m c below) (hx : p.tables.exec = Jvm.exec) {o o' : Int} {q1 z t t' : Nat} {x y : Int64} (hd : decode c.code pc = .ok (.lcmp, 1)) (hq1 : pc + 1 = q1) (hd' : decode c.code q1 = .ok (.ifCond .eq o, 3)) (ho : 0 ≤ (q1 : Int) + o) (hz' : ((q1 : Int) + o).toNat = z) (ht0 : q1 + 3 = t) (hz : decode c.code z = .ok (.iconst 0, 1)) (ht : decode c.code t = .ok (.iconst 1, 1)) (hg : decode c.code t' = .ok (.goto o', 3)) (ht' : t + 1 = t') (hog : 0 ≤ (t' : Int) + o') (hj : ((t' : Int) + o').toNat = q) (hj' : z + 1 = q) (k : Go p e below Φ (T.setTop (mkF m q L (.int (b2i (decide (x.toInt ≠ y.toInt))) :: S)))) : Go p e below Φ (T.setTop (mkF m pc L (.long y :: .long x :: S))) :=
  g_lcmp_eq hA hx hd hq1 hd' ho hz' ht0 (fun h => g_iconst hA hx hz rfl hj' (by rw [show decide (x.toInt ≠ y.toInt) = false from decide_eq_false (by omega)] at k; exact k)) (fun h => g_iconst hA hx ht rfl ht' (g_goto hA hx hg hog hj (by rw [show decide (x.toInt ≠ y.toInt) = true from decide_eq_true (by omega)] at k; exact k)))
theorem g_sel_lcmp_ne (hA : At T m c below) (hx : p.tables.exec = Jvm.exec) {o o' : Int} {q1 z t t' : Nat} {x y : Int64} (hd : decode c.code pc = .ok (.lcmp, 1)) (hq1 : pc + 1 = q1) (hd' : decode c.code q1 = .ok (.ifCond .ne o, 3)) (ho : 0 ≤ (q1 : Int) + o) (hz' : ((q1 : Int) + o).toNat = z) (ht0 : q1 + 3 = t) (hz : decode c.code z = .ok (.iconst 0, 1)) (ht : decode c.code t = .ok (.iconst 1, 1)) (hg : decode c.code t' = .ok (.goto o', 3)) (ht' : t + 1 = t') (hog : 0 ≤ (t' : Int) + o') (hj : ((t' : Int) + o').toNat = q) (hj' : z + 1 = q) (k : Go p e below Φ (T.setTop (mkF m q L (.int (b2i (decide (x.toInt = y.toInt))) :: S)))) : Go p e below Φ (T.setTop (mkF m pc L (.long y :: .long x :: S))) :=
  g_lcmp_ne hA hx hd hq1 hd' ho hz' ht0 (fun h => g_iconst hA hx hz rfl hj' (by rw [show decide (x.toInt = y.toInt) = false from decide_eq_false (by omega)] at k; exact k)) (fun h => g_iconst hA hx ht rfl ht' (g_goto hA hx hg hog hj (by rw [show decide (x.toInt = y.toInt) = true from decide_eq_true (by omega)] at k; exact k)))
theorem g_sel_lcmp_lt (hA : At T m c below) (hx : p.tables.exec = Jvm.exec) {o o' : Int} {q1 z t t' : Nat} {x y : Int64} (hd : decode c.code pc = .ok (.lcmp, 1)) (hq1 : pc + 1 = q1) (hd' : decode c.code q1 = .ok (.ifCond .lt o, 3)) (ho : 0 ≤ (q1 : Int) + o) (hz' : ((q1 : Int) + o).toNat = z) (ht0 : q1 + 3 = t) (hz : decode c.code z = .ok (.iconst 0, 1)) (ht : decode c.code t = .ok (.iconst 1, 1)) (hg : decode c.code t' = .ok (.goto o', 3)) (ht' : t + 1 = t') (hog : 0 ≤ (t' : Int) + o') (hj : ((t' : Int) + o').toNat = q) (hj' : z + 1 = q) (k : Go p e below Φ (T.setTop (mkF m q L (.int (b2i (decide (y.toInt ≤ x.toInt))) :: S)))) : Go p e below Φ (T.setTop (mkF m pc L (.long y :: .long x :: S))) :=
  g_lcmp_lt hA hx hd hq1 hd' ho hz' ht0 (fun h => g_iconst hA hx hz rfl hj' (by rw [show decide (y.toInt ≤ x.toInt) = false from decide_eq_false (by omega)] at k; exact k)) (fun h => g_iconst hA hx ht rfl ht' (g_goto hA hx hg hog hj (by rw [show decide (y.toInt ≤ x.toInt) = true from decide_eq_true (by omega)] at k; exact k)))
theorem g_sel_lcmp_ge (hA : At T m c below) (hx : p.tables.exec = Jvm.exec) {o o' : Int} {q1 z t t' : Nat} {x y : Int64} (hd : decode c.code pc = .ok (.lcmp, 1)) (hq1 : pc + 1 = q1) (hd' : decode c.code q1 = .ok (.ifCond .ge o, 3)) (ho : 0 ≤ (q1 : Int) + o) (hz' : ((q1 : Int) + o).toNat = z) (ht0 : q1 + 3 = t) (hz : decode c.code z = .ok (.iconst 0, 1)) (ht : decode c.code t = .ok (.iconst 1, 1)) (hg : decode c.code t' = .ok (.goto o', 3)) (ht' : t + 1 = t') (hog : 0 ≤ (t' : Int) + o') (hj : ((t' : Int) + o').toNat = q) (hj' : z + 1 = q) (k : Go p e below Φ (T.setTop (mkF m q L (.int (b2i (decide (x.toInt < y.toInt))) :: S)))) : Go p e below Φ (T.setTop (mkF m pc L (.long y :: .long x :: S))) :=
  g_lcmp_ge hA hx hd hq1 hd' ho hz' ht0 (fun h => g_iconst hA hx hz rfl hj' (by rw [show decide (x.toInt < y.toInt) = false from decide_eq_false (by omega)] at k; exact k)) (fun h => g_iconst hA hx ht rfl ht' (g_goto hA hx hg hog hj (by rw [show decide (x.toInt < y.toInt) = true from decide_eq_true (by omega)] at k; exact k)))
theorem g_sel_lcmp_gt (hA : At T m c below) (hx : p.tables.exec = Jvm.exec) {o o' : Int} {q1 z t t' : Nat} {x y : Int64} (hd : decode c.code pc = .ok (.lcmp, 1)) (hq1 : pc + 1 = q1) (hd' : decode c.code q1 = .ok (.ifCond .gt o, 3)) (ho : 0 ≤ (q1 : Int) + o) (hz' : ((q1 : Int) + o).toNat = z) (ht0 : q1 + 3 = t) (hz : decode c.code z = .ok (.iconst 0, 1)) (ht : decode c.code t = .ok (.iconst 1, 1)) (hg : decode c.code t' = .ok (.goto o', 3)) (ht' : t + 1 = t') (hog : 0 ≤ (t' : Int) + o') (hj : ((t' : Int) + o').toNat = q) (hj' : z + 1 = q) (k : Go p e below Φ (T.setTop (mkF m q L (.int (b2i (decide (x.toInt ≤ y.toInt))) :: S)))) : Go p e below Φ (T.setTop (mkF m pc L (.long y :: .long x :: S))) :=
  g_lcmp_gt hA hx hd hq1 hd' ho hz' ht0 (fun h => g_iconst hA hx hz rfl hj' (by rw [show decide (x.toInt ≤ y.toInt) = false from decide_eq_false (by omega)] at k; exact k)) (fun h => g_iconst hA hx ht rfl ht' (g_goto hA hx hg hog hj (by rw [show decide (x.toInt ≤ y.toInt) = true from decide_eq_true (by omega)] at k; exact k)))
theorem g_sel_lcmp_le (hA : At T m c below) (hx : p.tables.exec = Jvm.exec) {o o' : Int} {q1 z t t' : Nat} {x y : Int64} (hd : decode c.code pc = .ok (.lcmp, 1)) (hq1 : pc + 1 = q1) (hd' : decode c.code q1 = .ok (.ifCond .le o, 3)) (ho : 0 ≤ (q1 : Int) + o) (hz' : ((q1 : Int) + o).toNat = z) (ht0 : q1 + 3 = t) (hz : decode c.code z = .ok (.iconst 0, 1)) (ht : decode c.code t = .ok (.iconst 1, 1)) (hg : decode c.code t' = .ok (.goto o', 3)) (ht' : t + 1 = t') (hog : 0 ≤ (t' : Int) + o') (hj : ((t' : Int) + o').toNat = q) (hj' : z + 1 = q) (k : Go p e below Φ (T.setTop (mkF m q L (.int (b2i (decide (y.toInt < x.toInt))) :: S)))) : Go p e below Φ (T.setTop (mkF m pc L (.long y :: .long x :: S))) :=
  g_lcmp_le hA hx hd hq1 hd' ho hz' ht0 (fun h => g_iconst hA hx hz rfl hj' (by rw [show decide (y.toInt < x.toInt) = false from decide_eq_false (by omega)] at k; exact k)) (fun h => g_iconst hA hx ht rfl ht' (g_goto hA hx hg hog hj (by rw [show decide (y.toInt < x.toInt) = true from decide_eq_true (by omega)] at k; exact k)))
theorem g_selB_ne (hA : At T m c below) (hx : p.tables.exec = Jvm.exec) {o o' : Int} {z t t' : Nat} {b : Bool} (hd : decode c.code pc = .ok (.ifCond .ne o, 3)) (ho : 0 ≤ (pc : Int) + o) (hz' : ((pc : Int) + o).toNat = z) (ht0 : pc + 3 = t) (hz : decode c.code z = .ok (.iconst 0, 1)) (ht : decode c.code t = .ok (.iconst 1, 1)) (hg : decode c.code t' = .ok (.goto o', 3)) (ht' : t + 1 = t') (hog : 0 ≤ (t' : Int) + o') (hj : ((t' : Int) + o').toNat = q) (hj' : z + 1 = q) (k : Go p e below Φ (T.setTop (mkF m q L (.int (b2i (!b)) :: S)))) : Go p e below Φ (T.setTop (mkF m pc L (.int (b2i b) :: S))) :=
  g_ifB_ne hA hx hd ho hz' ht0 (fun h => g_iconst hA hx hz rfl hj' (by subst h; exact k)) (fun h => g_iconst hA hx ht rfl ht' (g_goto hA hx hg hog hj (by subst h; exact k)))
theorem g_selB_eq (hA : At T m c below) (hx : p.tables.exec = Jvm.exec) {o o' : Int} {z t t' : Nat} {b : Bool} (hd : decode c.code pc = .ok (.ifCond .eq o, 3)) (ho : 0 ≤ (pc : Int) + o) (hz' : ((pc : Int) + o).toNat = z) (ht0 : pc + 3 = t) (hz : decode c.code z = .ok (.iconst 0, 1)) (ht : decode c.code t = .ok (.iconst 1, 1)) (hg : decode c.code t' = .ok (.goto o', 3)) (ht' : t + 1 = t') (hog : 0 ≤ (t' : Int) + o') (hj : ((t' : Int) + o').toNat = q) (hj' : z + 1 = q) (k : Go p e below Φ (T.setTop (mkF m q L (.int (b2i (b)) :: S)))) : Go p e below Φ (T.setTop (mkF m pc L (.int (b2i b) :: S))) :=
  g_ifB_eq hA hx hd ho hz' ht0 (fun h => g_iconst hA hx hz rfl hj' (by subst h; exact k)) (fun h => g_iconst hA hx ht rfl ht' (g_goto hA hx hg hog hj (by subst h; exact k)))
theorem g_selBB_ne (hA : At T m c below) (hx : p.tables.exec = Jvm.exec) {o o' : Int} {z t t' : Nat} {a b : Bool} (hd : decode c.code pc = .ok (.if_icmp .ne o, 3)) (ho : 0 ≤ (pc : Int) + o) (hz' : ((pc : Int) + o).toNat = z) (ht0 : pc + 3 = t) (hz : decode c.code z = .ok (.iconst 0, 1)) (ht : decode c.code t = .ok (.iconst 1, 1)) (hg : decode c.code t' = .ok (.goto o', 3)) (ht' : t + 1 = t') (hog : 0 ≤ (t' : Int) + o') (hj : ((t' : Int) + o').toNat = q) (hj' : z + 1 = q) (k : Go p e below Φ (T.setTop (mkF m q L (.int (b2i (a == b)) :: S)))) : Go p e below Φ (T.setTop (mkF m pc L (.int (b2i b) :: .int (b2i a) :: S))) :=
  g_icmp hA hx hd ho hz' ht0 (fun h => g_iconst hA hx hz rfl hj' (by cases a <;> cases b <;> first | exact k | exact Bool.noConfusion h)) (fun h => g_iconst hA hx ht rfl ht' (g_goto hA hx hg hog hj (by cases a <;> cases b <;> first | exact k | exact Bool.noConfusion h)))
theorem g_selBB_eq (hA : At T m c below) (hx : p.tables.exec = Jvm.exec) {o o' : Int} {z t t' : Nat} {a b : Bool} (hd : decode c.code pc = .ok (.if_icmp .eq o, 3)) (ho : 0 ≤ (pc : Int) + o) (hz' : ((pc : Int) + o).toNat = z) (ht0 : pc + 3 = t) (hz : decode c.code z = .ok (.iconst 0, 1)) (ht : decode c.code t = .ok (.iconst 1, 1)) (hg : decode c.code t' = .ok (.goto o', 3)) (ht' : t + 1 = t') (hog : 0 ≤ (t' : Int) + o') (hj : ((t' : Int) + o').toNat = q) (hj' : z + 1 = q) (k : Go p e below Φ (T.setTop (mkF m q L (.int (b2i (a != b)) :: S)))) : Go p e below Φ (T.setTop (mkF m pc L (.int (b2i b) :: .int (b2i a) :: S))) :=
  g_icmp hA hx hd ho hz' ht0 (fun h => g_iconst hA hx hz rfl hj' (by cases a <;> cases b <;> first | exact k | exact Bool.noConfusion h)) (fun h => g_iconst hA hx ht rfl ht' (g_goto hA hx hg hog hj (by cases a <;> cases b <;> first | exact k | exact Bool.noConfusion h)))
theorem g_ldcI (X : Stand p l e R s m args below meth c T locs cells slots) (hx : p.tables.exec = Jvm.exec) (hZ : Z.Warmed39 s.vm) {own : String} {index : Nat} {v : Int32} (hown : s.vm.findClass own = some m.cls) (w : (Jvm.Cond.constant own index v).before a0 Z = true) (hd : decode c.code pc = .ok (.ldc index, 2)) (hq : pc + 2 = q) (k : Go p e below Φ (T.setTop (mkF m q L (.int v :: S)))) : Go p e below Φ (T.setTop (mkF m pc L S)) := by
  subst hq; exact Go.by (X.ldcInt hx hown (mvT hZ w) rfl hd) k
theorem g_ldcWI (X : Stand p l e R s m args below meth c T locs cells slots) (hx : p.tables.exec = Jvm.exec) (hZ : Z.Warmed39 s.vm) {own : String} {index : Nat} {v : Int32} (hown : s.vm.findClass own = some m.cls) (w : (Jvm.Cond.constant own index v).before a0 Z = true) (hd : decode c.code pc = .ok (.ldc_w index, 3)) (hq : pc + 3 = q) (k : Go p e below Φ (T.setTop (mkF m q L (.int v :: S)))) : Go p e below Φ (T.setTop (mkF m pc L S)) := by
  subst hq; exact Go.by (X.ldcWInt hx hown (mvT hZ w) rfl hd) k
theorem g_ldc2J (X : Stand p l e R s m args below meth c T locs cells slots) (hx : p.tables.exec = Jvm.exec) (hZ : Z.Warmed39 s.vm) {own : String} {index : Nat} {v : Int64} (hown : s.vm.findClass own = some m.cls) (w : (Jvm.Cond.constantLong own index v).before a0 Z = true) (hd : decode c.code pc = .ok (.ldc2_w index, 3)) (hq : pc + 3 = q) (k : Go p e below Φ (T.setTop (mkF m q L (.long v :: S)))) : Go p e below Φ (T.setTop (mkF m pc L S)) := by
  subst hq; exact Go.by (X.ldc2Long hx hown (mvT hZ w) rfl hd) k
theorem g_ireturn (X : Stand p l e R s m args below meth c T locs cells slots) (hx : p.tables.exec = Jvm.exec) {Q : Option Value → Heap → List Loc → Prop} {rm : Room} (hlk : meth.locks = false) {z : Int32} (hrt : meth.sig.returnType = some .int) (hd : decode c.code pc = .ok (.ireturn, 1)) (hc : cells ≤ rm.cells) (hs : slots ≤ rm.slots) (hQ : Q (some (.int z)) T.heap locs) : Go p e below (Fin0 s rm Q) (T.setTop (mkF m pc L (.int z :: S))) := by
  obtain ⟨fs, hr, hrun, hended, hW, hsame⟩ := X.leave (v := (some (.int z))) (fun h => by rw [hrt] at h; cases h) hlk
  exact ⟨_, _, retOut X hx hrt rfl (Or.inl ⟨rfl, Or.inl rfl, z, rfl⟩) hd hr, hrun, hended, _, _, rfl, hQ, ⟨_, rfl⟩, hW, hsame.mono hc hs⟩
theorem g_lreturn (X : Stand p l e R s m args below meth c T locs cells slots) (hx : p.tables.exec = Jvm.exec) {Q : Option Value → Heap → List Loc → Prop} {rm : Room} (hlk : meth.locks = false) {z : Int64} (hrt : meth.sig.returnType = some .long) (hd : decode c.code pc = .ok (.lreturn, 1)) (hc : cells ≤ rm.cells) (hs : slots ≤ rm.slots) (hQ : Q (some (.long z)) T.heap locs) : Go p e below (Fin0 s rm Q) (T.setTop (mkF m pc L (.long z :: S))) := by
  obtain ⟨fs, hr, hrun, hended, hW, hsame⟩ := X.leave (v := (some (.long z))) (fun h => by rw [hrt] at h; cases h) hlk
  exact ⟨_, _, retOut X hx hrt rfl (Or.inr (Or.inl ⟨rfl, rfl, z, rfl⟩)) hd hr, hrun, hended, _, _, rfl, hQ, ⟨_, rfl⟩, hW, hsame.mono hc hs⟩
theorem g_areturn (X : Stand p l e R s m args below meth c T locs cells slots) (hx : p.tables.exec = Jvm.exec) {Q : Option Value → Heap → List Loc → Prop} {rm : Room} (hlk : meth.locks = false) {w : Value} {t : FieldType} (hw : w.isRef = true) (hrt : meth.sig.returnType = some t) (ht : t.isReference = true) (hd : decode c.code pc = .ok (.areturn, 1)) (hc : cells ≤ rm.cells) (hs : slots ≤ rm.slots) (hQ : Q (some w) T.heap locs) : Go p e below (Fin0 s rm Q) (T.setTop (mkF m pc L (w :: S))) := by
  obtain ⟨fs, hr, hrun, hended, hW, hsame⟩ := X.leave (v := (some w)) (fun h => by rw [hrt] at h; cases h) hlk
  exact ⟨_, _, retOut X hx hrt (by cases t <;> first | rfl | cases ht) (Or.inr (Or.inr (Or.inr (Or.inr ⟨rfl, ht, hw⟩)))) hd hr, hrun, hended, _, _, rfl, hQ, ⟨_, rfl⟩, hW, hsame.mono hc hs⟩
theorem g_zreturn (X : Stand p l e R s m args below meth c T locs cells slots) (hx : p.tables.exec = Jvm.exec) {Q : Option Value → Heap → List Loc → Prop} {rm : Room} (hlk : meth.locks = false) {b : Bool} (hrt : meth.sig.returnType = some .boolean) (hd : decode c.code pc = .ok (.ireturn, 1)) (hc : cells ≤ rm.cells) (hs : slots ≤ rm.slots) (hQ : Q (some (.int (b2i b))) T.heap locs) : Go p e below (Fin0 s rm Q) (T.setTop (mkF m pc L (.int (b2i b) :: S))) := by
  obtain ⟨fs, hr, hrun, hended, hW, hsame⟩ := X.leave (v := (some (.int (b2i b)))) (fun h => by rw [hrt] at h; cases h) hlk
  exact ⟨_, _, retOut X hx hrt (by cases b <;> rfl) (Or.inl ⟨rfl, Or.inr (Or.inl rfl), _, rfl⟩) hd hr, hrun, hended, _, _, rfl, hQ, ⟨_, rfl⟩, hW, hsame.mono hc hs⟩
theorem g_nreturn (X : Stand p l e R s m args below meth c T locs cells slots) (hx : p.tables.exec = Jvm.exec) {Q : Option Value → Heap → List Loc → Prop} {rm : Room} (hlk : meth.locks = false) {z : Int32} {t : FieldType} (hn : narrow t (.int z) = .int z) (ht : t = .int ∨ t = .boolean ∨ t = .byte ∨ t = .char ∨ t = .short) (hrt : meth.sig.returnType = some t) (hd : decode c.code pc = .ok (.ireturn, 1)) (hc : cells ≤ rm.cells) (hs : slots ≤ rm.slots) (hQ : Q (some (.int z)) T.heap locs) : Go p e below (Fin0 s rm Q) (T.setTop (mkF m pc L (.int z :: S))) := by
  obtain ⟨fs, hr, hrun, hended, hW, hsame⟩ := X.leave (v := (some (.int z))) (fun h => by rw [hrt] at h; cases h) hlk
  exact ⟨_, _, retOut X hx hrt hn (Or.inl ⟨rfl, ht, z, rfl⟩) hd hr, hrun, hended, _, _, rfl, hQ, ⟨_, rfl⟩, hW, hsame.mono hc hs⟩
theorem g_ret (X : Stand p l e R s m args below meth c T locs cells slots) (hx : p.tables.exec = Jvm.exec) {Q : Option Value → Heap → List Loc → Prop} {rm : Room} (hlk : meth.locks = false) (hrt : meth.sig.returnType = none) (hd : decode c.code pc = .ok (.return_, 1)) (hc : cells ≤ rm.cells) (hs : slots ≤ rm.slots) (hQ : Q none T.heap locs) : Go p e below (Fin0 s rm Q) (T.setTop (mkF m pc L [])) := by
  obtain ⟨fs, hr, hrun, hended, hW, hsame⟩ := X.leave (v := none) (fun _ => rfl) hlk
  exact ⟨_, _, X.returnOut hx hrt hd hr, hrun, hended, _, _, rfl, hQ, ⟨_, rfl⟩, hW, hsame.mono hc hs⟩
theorem g_callS (X : Stand p l e R s m args below meth c T locs cells slots) (hx : p.tables.exec = Jvm.exec) (hZ : Z.Warmed39 s.vm) {own : String} {index : Nat} {y : MethodName} {bytes : ByteArray} {maxL : Nat} {ret : Option FieldType} (hown : s.vm.findClass own = some m.cls) (w1 : (Jvm.Cond.methodLink own index y).before a0 Z = true) (w2 : (Jvm.Cond.static y).before a0 Z = true) (w3 : (Jvm.Cond.initialized y.cls).before a0 Z = true) (w4 : (Jvm.Cond.code y bytes maxL ret).before a0 Z = true) (hy : y.cls ≠ "java/lang/invoke/MethodHandle" ∧ y.cls ≠ "java/lang/invoke/VarHandle")
    {rm : Room} {as' : Array Value} {Q : Option Value → Heap → List Loc → Prop} (C : Ctr l Z y bytes maxL ret rm [] as' h Q) {argsL rest : List Value} {ps : List FieldType} {rt : Option FieldType} (hpd : parseMethodDescriptor y.desc = some ⟨ps, rt⟩) (hlen : argsL.length = ps.length) (hst : S = argsL.reverse ++ rest) (has : argsL.toArray = as') (hd : decode c.code pc = .ok (.invokestatic index, 3)) (hq : pc + 3 = q) (hsz : L.size = c.maxLocals) (eT : T.heap = h)
    (hf : rm.frames + 1 ≤ R.frames) {W : Nat} (hW : (rest.map fun v => v.category).sum = W) (hl : W + (maxL + 11) + rm.locals ≤ R.locals) (hc : cells + rm.cells ≤ R.cells) (hs : slots + rm.slots ≤ R.slots)
    (k : ∀ v T' Lc, Stand p l e R s m args below meth c T' (locs ++ Lc) (cells + rm.cells) (slots + rm.slots) → Q v T'.heap Lc → Go p e below Φ (T'.setTop (mkF m q L (v.toList ++ rest)))) : Go p e below Φ (T.setTop (mkF m pc L S)) := by
  subst hq has
  obtain ⟨v, _, ⟨T', L', k', n'⟩, -, X', ⟨Lc, hQ, l1, y1, z1⟩, st⟩ := Jvm.LawKit.callS X hx (y := y) hown (mvT hZ w1) (mvT hZ w2) (mvT hZ w3) (mvT hZ w4) hy (backOf (W := W) C hZ w4 w3 hf hl) (g := mkF m pc L S) rfl hsz (argsL := argsL) (rest := rest) (lenOf hpd hlen) hst (by show 2 * 0 + _ ≤ _; omega) hd (fun _ _ => ⟨rfl, eT, hc, hs⟩)
  dsimp only [Pt.U, Pt.locs, Pt.cells, Pt.slots] at X' l1 y1 z1 st hQ
  subst l1 y1 z1
  exact Go.by st (k v T' Lc X' hQ)
theorem g_callSP (X : Stand p l e R s m args below meth c T locs cells slots) (hx : p.tables.exec = Jvm.exec) (hZ : Z.Warmed39 s.vm) {own : String} {index : Nat} {y : MethodName} {bytes : ByteArray} {maxL : Nat} {ret : Option FieldType} (hown : s.vm.findClass own = some m.cls) (w1 : (Jvm.Cond.methodLink own index y).before a0 Z = true) (w2 : (Jvm.Cond.static y).before a0 Z = true) (w3 : (Jvm.Cond.initialized y.cls).before a0 Z = true) (w4 : (Jvm.Cond.code y bytes maxL ret).before a0 Z = true) (hy : y.cls ≠ "java/lang/invoke/MethodHandle" ∧ y.cls ≠ "java/lang/invoke/VarHandle")
    {rm : Room} {as' : Array Value} {r : Value} (C : Ctr l Z y bytes maxL ret rm [] as' h (PQ r h)) {argsL rest : List Value} {ps : List FieldType} {rt : Option FieldType} (hpd : parseMethodDescriptor y.desc = some ⟨ps, rt⟩) (hlen : argsL.length = ps.length) (hst : S = argsL.reverse ++ rest) (has : argsL.toArray = as') (hd : decode c.code pc = .ok (.invokestatic index, 3)) (hq : pc + 3 = q) (hsz : L.size = c.maxLocals) (eT : T.heap = h)
    (hf : rm.frames + 1 ≤ R.frames) {W : Nat} (hW : (rest.map fun v => v.category).sum = W) (hl : W + (maxL + 11) + rm.locals ≤ R.locals) (hc : rm.cells = 0) (hs : rm.slots = 0) (hc' : cells ≤ R.cells) (hs' : slots ≤ R.slots)
    (k : ∀ T', Stand p l e R s m args below meth c T' locs cells slots → T'.heap = h → Go p e below Φ (T'.setTop (mkF m q L (r :: rest)))) : Go p e below Φ (T.setTop (mkF m pc L S)) := by
  refine g_callS X hx hZ hown w1 w2 w3 w4 hy C hpd hlen hst has hd hq hsz eT hf hW hl (by omega) (by omega) ?_
  intro v T' Lc X' hQ
  obtain ⟨rfl, e1, rfl⟩ := hQ
  rw [hc, hs, List.append_nil] at X'
  exact k T' X' e1
theorem g_callSI (X : Stand p l e R s m args below meth c T locs cells slots) (hx : p.tables.exec = Jvm.exec) (hZ : Z.Warmed39 s.vm) {own : String} {index : Nat} {y : MethodName} {bytes : ByteArray} {maxL : Nat} {ret : Option FieldType} (hown : s.vm.findClass own = some m.cls) (w1 : (Jvm.Cond.methodLink own index y).before a0 Z = true) (w2 : (Jvm.Cond.static y).before a0 Z = true) (w3 : (Jvm.Cond.initialized y.cls).before a0 Z = true) (w4 : (Jvm.Cond.code y bytes maxL ret).before a0 Z = true) (hy : y.cls ≠ "java/lang/invoke/MethodHandle" ∧ y.cls ≠ "java/lang/invoke/VarHandle")
    {rm : Room} {as' : Array Value} {P : Int32 → Prop} (C : Ctr l Z y bytes maxL ret rm [] as' h (IQ P h)) {argsL rest : List Value} {ps : List FieldType} {rt : Option FieldType} (hpd : parseMethodDescriptor y.desc = some ⟨ps, rt⟩) (hlen : argsL.length = ps.length) (hst : S = argsL.reverse ++ rest) (has : argsL.toArray = as') (hd : decode c.code pc = .ok (.invokestatic index, 3)) (hq : pc + 3 = q) (hsz : L.size = c.maxLocals) (eT : T.heap = h)
    (hf : rm.frames + 1 ≤ R.frames) {W : Nat} (hW : (rest.map fun v => v.category).sum = W) (hl : W + (maxL + 11) + rm.locals ≤ R.locals) (hc : rm.cells = 0) (hs : rm.slots = 0) (hc' : cells ≤ R.cells) (hs' : slots ≤ R.slots)
    (k : ∀ T' r, Stand p l e R s m args below meth c T' locs cells slots → T'.heap = h → P r → Go p e below Φ (T'.setTop (mkF m q L (.int r :: rest)))) : Go p e below Φ (T.setTop (mkF m pc L S)) := by
  refine g_callS X hx hZ hown w1 w2 w3 w4 hy C hpd hlen hst has hd hq hsz eT hf hW hl (by omega) (by omega) ?_
  intro v T' Lc X' hQ
  obtain ⟨r, rfl, hP, e1, rfl⟩ := hQ
  rw [hc, hs, List.append_nil] at X'
  exact k T' r X' e1 hP
theorem g_callSJ (X : Stand p l e R s m args below meth c T locs cells slots) (hx : p.tables.exec = Jvm.exec) (hZ : Z.Warmed39 s.vm) {own : String} {index : Nat} {y : MethodName} {bytes : ByteArray} {maxL : Nat} {ret : Option FieldType} (hown : s.vm.findClass own = some m.cls) (w1 : (Jvm.Cond.methodLink own index y).before a0 Z = true) (w2 : (Jvm.Cond.static y).before a0 Z = true) (w3 : (Jvm.Cond.initialized y.cls).before a0 Z = true) (w4 : (Jvm.Cond.code y bytes maxL ret).before a0 Z = true) (hy : y.cls ≠ "java/lang/invoke/MethodHandle" ∧ y.cls ≠ "java/lang/invoke/VarHandle")
    {rm : Room} {as' : Array Value} {P : Int64 → Prop} (C : Ctr l Z y bytes maxL ret rm [] as' h (JQ P h)) {argsL rest : List Value} {ps : List FieldType} {rt : Option FieldType} (hpd : parseMethodDescriptor y.desc = some ⟨ps, rt⟩) (hlen : argsL.length = ps.length) (hst : S = argsL.reverse ++ rest) (has : argsL.toArray = as') (hd : decode c.code pc = .ok (.invokestatic index, 3)) (hq : pc + 3 = q) (hsz : L.size = c.maxLocals) (eT : T.heap = h)
    (hf : rm.frames + 1 ≤ R.frames) {W : Nat} (hW : (rest.map fun v => v.category).sum = W) (hl : W + (maxL + 11) + rm.locals ≤ R.locals) (hc : rm.cells = 0) (hs : rm.slots = 0) (hc' : cells ≤ R.cells) (hs' : slots ≤ R.slots)
    (k : ∀ T' r, Stand p l e R s m args below meth c T' locs cells slots → T'.heap = h → P r → Go p e below Φ (T'.setTop (mkF m q L (.long r :: rest)))) : Go p e below Φ (T.setTop (mkF m pc L S)) := by
  refine g_callS X hx hZ hown w1 w2 w3 w4 hy C hpd hlen hst has hd hq hsz eT hf hW hl (by omega) (by omega) ?_
  intro v T' Lc X' hQ
  obtain ⟨r, rfl, hP, e1, rfl⟩ := hQ
  rw [hc, hs, List.append_nil] at X'
  exact k T' r X' e1 hP
end OwnKit

/-! ### the own kit, heap part -/
def ArrL (Z : State) (h : Heap) (a : Addr) (ty : FieldType) (vals : List Value) : Prop := ∃ c : Cell, Arr Z h a c ty ∧ c.slots = vals.toArray ∧ vals.length < 2 ^ 31
abbrev IA (Z : State) (h : Heap) (a : Addr) (vs : List Int32) : Prop := ArrL Z h a .int (vs.map Value.int)
abbrev LA (Z : State) (h : Heap) (a : Addr) (vs : List Int64) : Prop := ArrL Z h a .long (vs.map Value.long)
abbrev ZA (Z : State) (h : Heap) (a : Addr) (vs : List Bool) : Prop := ArrL Z h a .boolean (vs.map fun b => Value.int (b2i b))
theorem own_clamp (j : Int32) : j.toNatClampNeg = j.toInt.toNat := rfl
theorem idxN {j : Int32} {i : Nat} (hj : j.toInt = (i : Int)) : ¬ j < 0 ∧ j.toNatClampNeg = i := by
  rw [own_clamp, Int32.lt_iff_toInt_lt, show (0 : Int32).toInt = 0 from rfl, hj]; omega
theorem idxIn {j : Int32} {i n : Nat} (hj : j.toInt = (i : Int)) (hi : i < n) : ¬ (j < 0 ∨ n ≤ j.toNatClampNeg) := by
  obtain ⟨h1, h2⟩ := idxN hj; exact fun h => h.elim h1 fun h => by rw [h2] at h; omega
section OwnHeap
variable {p : Program} {l : Launch} {e : Env} {R : Room} {s : State} {m : MethodId} {args : Array Value} {below : List Frame} {meth : Method} {c : Code} {T : State} {locs : List Loc} {cells slots : Nat} {Z : State} {a0 : Array Value} {h : Heap} {Φ : Outcome → State → Prop} {pc q : Nat} {L : Array Slot} {S : List Value}
variable {h' : Heap} {a b o : Addr} {ty : FieldType} {vals : List Value} {sl : Nat} {v w : Value} {ws : List Addr}
theorem ArrL.lt (F : ArrL Z h a ty vals) : a < h.size := by obtain ⟨c, A, -⟩ := F; exact A.lt
theorem ArrL.ext (F : ArrL Z h a ty vals) (E : Ext h h') : ArrL Z h' a ty vals := by obtain ⟨c, A, r⟩ := F; exact ⟨c, A.ext E, r⟩
theorem ArrL.other (F : ArrL Z h a ty vals) (W : Wr h h' b sl v) (q : a ≠ b) : ArrL Z h' a ty vals := by obtain ⟨c, A, r⟩ := F; exact ⟨c, A.other W q, r⟩
theorem ArrL.keep (F : ArrL Z h a ty vals) (K : Keep h h' ws) (q : a ∉ ws) : ArrL Z h' a ty vals := by obtain ⟨c, A, r⟩ := F; exact ⟨c, ⟨K.2.1 a c A.1 q, A.2⟩, r⟩
theorem ArrL.len (F : ArrL Z h a ty vals) : vals.length < 2 ^ 31 := by obtain ⟨c, A, -, r⟩ := F; exact r
theorem ArrL.set (F : ArrL Z h a ty vals) {i : Nat} (W : Wr h h' a i v) : ArrL Z h' a ty (vals.set i v) := by
  obtain ⟨c, A, e1, r⟩ := F
  refine ⟨_, A.same W, ?_, by rw [List.length_set]; exact r⟩
  show c.slots.setIfInBounds i v = _
  rw [e1]; simp
theorem ArrL.new {k : ClassId} {z : Int32} {n : Nat} (A : Arr Z h a (newA k ty z) ty) (hz : z.toInt = (n : Int)) : ArrL Z h a ty (List.replicate n (defaultValue ty)) := by
  refine ⟨_, A, ?_, ?_⟩
  · show Array.replicate z.toNatClampNeg (defaultValue ty) = _
    rw [(idxN hz).2]; simp
  · have := rng32 z; rw [List.length_replicate]; omega
theorem IA.eq {us vs : List Int32} (F : IA Z h a us) (q : us = vs) : IA Z h a vs := q ▸ F
theorem LA.eq {us vs : List Int64} (F : LA Z h a us) (q : us = vs) : LA Z h a vs := q ▸ F
theorem ZA.eq {us vs : List Bool} (F : ZA Z h a us) (q : us = vs) : ZA Z h a vs := q ▸ F
theorem ne_new (h1 : a < h.size) (q : o = h.size) : a ≠ o := by subst q; exact Nat.ne_of_lt h1
theorem ne_ge (h1 : a < h.size) (q : h.size ≤ o) : a ≠ o := Nat.ne_of_lt (Nat.lt_of_lt_of_le h1 q)
theorem ge_new {n0 : Nat} (h1 : n0 ≤ h.size) (q : o = h.size) : n0 ≤ o := by subst q; exact h1
theorem Fr.wr {n0 i : Nat} (N : Fr n0 locs) (q : n0 ≤ a) : Fr n0 (locs ++ [⟨a, i⟩]) := N.app fun y hy => by cases List.mem_singleton.mp hy; exact q
theorem g_iload_ (X : Stand p l e R s m args below meth c T locs cells slots) (hx : p.tables.exec = Jvm.exec) (hZ : Z.Warmed39 s.vm) (eT : T.heap = h) {vs : List Int32} (F : IA Z h a vs) {j : Int32} {i : Nat} {v : Int32} (hj : j.toInt = (i : Int)) (hv : vs[i]? = some v) (hd : decode c.code pc = .ok (.iaload, 1)) (hq : pc + 1 = q) (k : Go p e below Φ (T.setTop (mkF m q L (.int v :: S)))) : Go p e below Φ (T.setTop (mkF m pc L (.int j :: .ref a :: S))) := by
  subst hq
  obtain ⟨cl, A, e1, r⟩ := F
  have hi : i < vs.length := (List.getElem?_eq_some_iff.mp hv).1
  have hs : cl.slots.size = vs.length := by rw [e1]; simp
  refine Go.by (X.iaload hx (cell := cl) (j := j) (v := (.int v)) (by rw [eT]; exact A.1) (State.isArrayOf_alike hZ.alike A.2.1) A.2.2 (idxIn hj (by rw [hs]; exact hi)) (by rw [(idxN hj).2, e1]; simp [hv]) rfl rfl hd) k
theorem g_istore_ (X : Stand p l e R s m args below meth c T locs cells slots) (hx : p.tables.exec = Jvm.exec) (hZ : Z.Warmed39 s.vm) (eT : T.heap = h) {vs : List Int32} (F : IA Z h a vs) {j : Int32} {i : Nat} {v : Int32} (hj : j.toInt = (i : Int)) (hi : i < vs.length) (hd : decode c.code pc = .ok (.iastore, 1)) (hq : pc + 1 = q) (k : ∀ T' h', Stand p l e R s m args below meth c T' (locs ++ [⟨a, i⟩]) cells slots → T'.heap = h' → Wr h h' a i (.int v) → IA Z h' a (vs.set i v) → Go p e below Φ (T'.setTop (mkF m q L S))) : Go p e below Φ (T.setTop (mkF m pc L (.int v :: .int j :: .ref a :: S))) := by
  subst hq
  have F0 := F
  obtain ⟨cl, A, e1, r⟩ := F
  have hs : cl.slots.size = vs.length := by rw [e1]; simp
  obtain ⟨T', h', X', e', W, st⟩ := stI X hx hZ eT A (j := j) (x := v) (idxIn hj (by rw [hs]; exact hi)) (g := mkF m pc L ((.int v) :: .int j :: .ref a :: S)) rfl rfl hd
  rw [(idxN hj).2] at X' W
  refine Go.by st (k T' h' X' e' W ?_)
  have := F0.set W
  show ArrL Z h' a .int ((vs.set i v).map Value.int)
  rw [List.map_set]; exact this
theorem g_inew_ (X : Stand p l e R s m args below meth c T locs cells slots) (hx : p.tables.exec = Jvm.exec) (hZ : Z.Warmed39 s.vm) (w : (Jvm.Cond.arrayClass .int).before a0 Z = true) (eT : T.heap = h) {z : Int32} {n cap : Nat} (hz : z.toInt = (n : Int)) (hn : n ≤ cap) (hb : cap * 8 ≤ 536870912) (hd : decode c.code pc = .ok (.newarray .int, 2)) (hq : pc + 2 = q) (hc : cells + 1 ≤ R.cells) (hl : slots + cap ≤ R.slots) (k : ∀ T' h' o, Stand p l e R s m args below meth c T' locs (cells + 1) (slots + cap) → T'.heap = h' → Ext h h' → o = h.size → IA Z h' o (List.replicate n 0) → Go p e below Φ (T'.setTop (mkF m q L (.ref o :: S)))) : Go p e below Φ (T.setTop (mkF m pc L (.int z :: S))) := by
  subst hq
  obtain ⟨T', h', cA, X', e', E, A, st⟩ := newP X hx hZ (aty := .int) w eT (g := mkF m pc L (.int z :: S)) rfl hd rfl (idxN hz).1 (cap := cap) (by rw [(idxN hz).2]; exact hn) hb hc hl
  refine Go.by st (k T' h' h.size X' e' E rfl ?_)
  have := ArrL.new A hz
  show ArrL Z h' h.size .int _
  rw [List.map_replicate]; exact this
theorem g_lload_ (X : Stand p l e R s m args below meth c T locs cells slots) (hx : p.tables.exec = Jvm.exec) (hZ : Z.Warmed39 s.vm) (eT : T.heap = h) {vs : List Int64} (F : LA Z h a vs) {j : Int32} {i : Nat} {v : Int64} (hj : j.toInt = (i : Int)) (hv : vs[i]? = some v) (hd : decode c.code pc = .ok (.laload, 1)) (hq : pc + 1 = q) (k : Go p e below Φ (T.setTop (mkF m q L (.long v :: S)))) : Go p e below Φ (T.setTop (mkF m pc L (.int j :: .ref a :: S))) := by
  subst hq
  obtain ⟨cl, A, e1, r⟩ := F
  have hi : i < vs.length := (List.getElem?_eq_some_iff.mp hv).1
  have hs : cl.slots.size = vs.length := by rw [e1]; simp
  refine Go.by (X.laload hx (cell := cl) (j := j) (v := (.long v)) (by rw [eT]; exact A.1) (State.isArrayOf_alike hZ.alike A.2.1) A.2.2 (idxIn hj (by rw [hs]; exact hi)) (by rw [(idxN hj).2, e1]; simp [hv]) rfl rfl hd) k
theorem g_lstore_ (X : Stand p l e R s m args below meth c T locs cells slots) (hx : p.tables.exec = Jvm.exec) (hZ : Z.Warmed39 s.vm) (eT : T.heap = h) {vs : List Int64} (F : LA Z h a vs) {j : Int32} {i : Nat} {v : Int64} (hj : j.toInt = (i : Int)) (hi : i < vs.length) (hd : decode c.code pc = .ok (.lastore, 1)) (hq : pc + 1 = q) (k : ∀ T' h', Stand p l e R s m args below meth c T' (locs ++ [⟨a, i⟩]) cells slots → T'.heap = h' → Wr h h' a i (.long v) → LA Z h' a (vs.set i v) → Go p e below Φ (T'.setTop (mkF m q L S))) : Go p e below Φ (T.setTop (mkF m pc L (.long v :: .int j :: .ref a :: S))) := by
  subst hq
  have F0 := F
  obtain ⟨cl, A, e1, r⟩ := F
  have hs : cl.slots.size = vs.length := by rw [e1]; simp
  obtain ⟨T', h', X', e', W, st⟩ := stJ X hx hZ eT A (j := j) (x := v) (idxIn hj (by rw [hs]; exact hi)) (g := mkF m pc L ((.long v) :: .int j :: .ref a :: S)) rfl rfl hd
  rw [(idxN hj).2] at X' W
  refine Go.by st (k T' h' X' e' W ?_)
  have := F0.set W
  show ArrL Z h' a .long ((vs.set i v).map Value.long)
  rw [List.map_set]; exact this
theorem g_lnew_ (X : Stand p l e R s m args below meth c T locs cells slots) (hx : p.tables.exec = Jvm.exec) (hZ : Z.Warmed39 s.vm) (w : (Jvm.Cond.arrayClass .long).before a0 Z = true) (eT : T.heap = h) {z : Int32} {n cap : Nat} (hz : z.toInt = (n : Int)) (hn : n ≤ cap) (hb : cap * 8 ≤ 536870912) (hd : decode c.code pc = .ok (.newarray .long, 2)) (hq : pc + 2 = q) (hc : cells + 1 ≤ R.cells) (hl : slots + cap ≤ R.slots) (k : ∀ T' h' o, Stand p l e R s m args below meth c T' locs (cells + 1) (slots + cap) → T'.heap = h' → Ext h h' → o = h.size → LA Z h' o (List.replicate n 0) → Go p e below Φ (T'.setTop (mkF m q L (.ref o :: S)))) : Go p e below Φ (T.setTop (mkF m pc L (.int z :: S))) := by
  subst hq
  obtain ⟨T', h', cA, X', e', E, A, st⟩ := newP X hx hZ (aty := .long) w eT (g := mkF m pc L (.int z :: S)) rfl hd rfl (idxN hz).1 (cap := cap) (by rw [(idxN hz).2]; exact hn) hb hc hl
  refine Go.by st (k T' h' h.size X' e' E rfl ?_)
  have := ArrL.new A hz
  show ArrL Z h' h.size .long _
  rw [List.map_replicate]; exact this
theorem g_zload_ (X : Stand p l e R s m args below meth c T locs cells slots) (hx : p.tables.exec = Jvm.exec) (hZ : Z.Warmed39 s.vm) (eT : T.heap = h) {vs : List Bool} (F : ZA Z h a vs) {j : Int32} {i : Nat} {v : Bool} (hj : j.toInt = (i : Int)) (hv : vs[i]? = some v) (hd : decode c.code pc = .ok (.baload, 1)) (hq : pc + 1 = q) (k : Go p e below Φ (T.setTop (mkF m q L (.int (b2i v) :: S)))) : Go p e below Φ (T.setTop (mkF m pc L (.int j :: .ref a :: S))) := by
  subst hq
  obtain ⟨cl, A, e1, r⟩ := F
  have hi : i < vs.length := (List.getElem?_eq_some_iff.mp hv).1
  have hs : cl.slots.size = vs.length := by rw [e1]; simp
  refine Go.by (X.baloadBooleans hx (cell := cl) (j := j) (v := (.int (b2i v))) (by rw [eT]; exact A.1) (State.isArrayOf_alike hZ.alike A.2.1) A.2.2 (idxIn hj (by rw [hs]; exact hi)) (by rw [(idxN hj).2, e1]; simp [hv]) rfl rfl hd) k
theorem g_zstore_ (X : Stand p l e R s m args below meth c T locs cells slots) (hx : p.tables.exec = Jvm.exec) (hZ : Z.Warmed39 s.vm) (eT : T.heap = h) {vs : List Bool} (F : ZA Z h a vs) {j : Int32} {i : Nat} {v : Bool} (hj : j.toInt = (i : Int)) (hi : i < vs.length) (hd : decode c.code pc = .ok (.bastore, 1)) (hq : pc + 1 = q) (k : ∀ T' h', Stand p l e R s m args below meth c T' (locs ++ [⟨a, i⟩]) cells slots → T'.heap = h' → Wr h h' a i (.int (b2i v)) → ZA Z h' a (vs.set i v) → Go p e below Φ (T'.setTop (mkF m q L S))) : Go p e below Φ (T.setTop (mkF m pc L (.int (b2i v) :: .int j :: .ref a :: S))) := by
  subst hq
  have F0 := F
  obtain ⟨cl, A, e1, r⟩ := F
  have hs : cl.slots.size = vs.length := by rw [e1]; simp
  obtain ⟨T', h', X', e', W, st⟩ := stZ X hx hZ eT A (j := j) (x := b2i v) (idxIn hj (by rw [hs]; exact hi)) (g := mkF m pc L ((.int (b2i v)) :: .int j :: .ref a :: S)) rfl rfl hd
  have W : Wr h h' a j.toNatClampNeg (.int (b2i v)) := by have W' := W; rw [b2i_nar] at W'; exact W'
  rw [(idxN hj).2] at X' W
  refine Go.by st (k T' h' X' e' W ?_)
  have := F0.set W
  show ArrL Z h' a .boolean ((vs.set i v).map (fun b => Value.int (b2i b)))
  rw [List.map_set]; exact this
theorem g_znew_ (X : Stand p l e R s m args below meth c T locs cells slots) (hx : p.tables.exec = Jvm.exec) (hZ : Z.Warmed39 s.vm) (w : (Jvm.Cond.arrayClass .boolean).before a0 Z = true) (eT : T.heap = h) {z : Int32} {n cap : Nat} (hz : z.toInt = (n : Int)) (hn : n ≤ cap) (hb : cap * 8 ≤ 536870912) (hd : decode c.code pc = .ok (.newarray .boolean, 2)) (hq : pc + 2 = q) (hc : cells + 1 ≤ R.cells) (hl : slots + cap ≤ R.slots) (k : ∀ T' h' o, Stand p l e R s m args below meth c T' locs (cells + 1) (slots + cap) → T'.heap = h' → Ext h h' → o = h.size → ZA Z h' o (List.replicate n false) → Go p e below Φ (T'.setTop (mkF m q L (.ref o :: S)))) : Go p e below Φ (T.setTop (mkF m pc L (.int z :: S))) := by
  subst hq
  obtain ⟨T', h', cA, X', e', E, A, st⟩ := newP X hx hZ (aty := .boolean) w eT (g := mkF m pc L (.int z :: S)) rfl hd rfl (idxN hz).1 (cap := cap) (by rw [(idxN hz).2]; exact hn) hb hc hl
  refine Go.by st (k T' h' h.size X' e' E rfl ?_)
  have := ArrL.new A hz
  show ArrL Z h' h.size .boolean _
  rw [List.map_replicate]; exact this
theorem g_bnew_ (X : Stand p l e R s m args below meth c T locs cells slots) (hx : p.tables.exec = Jvm.exec) (hZ : Z.Warmed39 s.vm) (w : (Jvm.Cond.arrayClass .byte).before a0 Z = true) (eT : T.heap = h) {z : Int32} {n cap : Nat} (hz : z.toInt = (n : Int)) (hn : n ≤ cap) (hb : cap * 8 ≤ 536870912) (hd : decode c.code pc = .ok (.newarray .byte, 2)) (hq : pc + 2 = q) (hc : cells + 1 ≤ R.cells) (hl : slots + cap ≤ R.slots) (k : ∀ T' h' o, Stand p l e R s m args below meth c T' locs (cells + 1) (slots + cap) → T'.heap = h' → Ext h h' → o = h.size → ArrL Z h' o .byte (List.replicate n (.int 0)) → Go p e below Φ (T'.setTop (mkF m q L (.ref o :: S)))) : Go p e below Φ (T.setTop (mkF m pc L (.int z :: S))) := by
  subst hq
  obtain ⟨T', h', cA, X', e', E, A, st⟩ := newP X hx hZ (aty := .byte) w eT (g := mkF m pc L (.int z :: S)) rfl hd rfl (idxN hz).1 (cap := cap) (by rw [(idxN hz).2]; exact hn) hb hc hl
  exact Go.by st (k T' h' h.size X' e' E rfl (ArrL.new A hz))
theorem g_bload_ (X : Stand p l e R s m args below meth c T locs cells slots) (hx : p.tables.exec = Jvm.exec) (hZ : Z.Warmed39 s.vm) (eT : T.heap = h) (F : ArrL Z h a .byte vals) {j : Int32} {i : Nat} {v : Int32} (hj : j.toInt = (i : Int)) (hv : vals[i]? = some (.int v)) (hd : decode c.code pc = .ok (.baload, 1)) (hq : pc + 1 = q) (k : Go p e below Φ (T.setTop (mkF m q L (.int v :: S)))) : Go p e below Φ (T.setTop (mkF m pc L (.int j :: .ref a :: S))) := by
  subst hq
  obtain ⟨cl, A, e1, r⟩ := F
  have hi : i < vals.length := (List.getElem?_eq_some_iff.mp hv).1
  have hs : cl.slots.size = vals.length := by rw [e1]; simp
  refine Go.by (X.baloadBytes hx (cell := cl) (j := j) (v := .int v) (by rw [eT]; exact A.1) (State.isArrayOf_alike hZ.alike A.2.1) A.2.2 (idxIn hj (by rw [hs]; exact hi)) (by rw [(idxN hj).2, e1]; simp [hv]) rfl rfl hd) k
theorem g_getS (X : Stand p l e R s m args below meth c T locs cells slots) (hx : p.tables.exec = Jvm.exec) (hZ : Z.Warmed39 s.vm) {own R0 n d : String} {index : Nat} (hown : s.vm.findClass own = some m.cls) (w : (Jvm.Cond.fieldLink own index R0 n d).before a0 Z = true) (eT : T.heap = h) (F : Sta Z h R0 n d v) (hd : decode c.code pc = .ok (.getstatic index, 3)) (hq : pc + 3 = q) (k : ∀ T', Stand p l e R s m args below meth c T' locs cells slots → T'.heap = h → Go p e below Φ (T'.setTop (mkF m q L (v :: S)))) : Go p e below Φ (T.setTop (mkF m pc L S)) := by
  subst hq
  obtain ⟨T', X', e', st⟩ := getS (host := "") X hx hZ hown w Via.refl eT F (g := mkF m pc L S) rfl hd
  exact Go.by st (k T' X' e')
theorem g_alen (X : Stand p l e R s m args below meth c T locs cells slots) (hx : p.tables.exec = Jvm.exec) (hZ : Z.Warmed39 s.vm) (eT : T.heap = h) (F : ArrL Z h a ty vals) {v : Int32} (hv : v.toInt = (vals.length : Int)) (hd : decode c.code pc = .ok (.arraylength, 1)) (hq : pc + 1 = q) (k : Go p e below Φ (T.setTop (mkF m q L (.int v :: S)))) : Go p e below Φ (T.setTop (mkF m pc L (.ref a :: S))) := by
  subst hq
  obtain ⟨cl, A, e1, r⟩ := F
  have hs : cl.slots.size = vals.length := by rw [e1]; simp
  have hz : cl.slots.size.toInt32 = v := Int32.toInt_inj.mp (by rw [hs, len_toInt r]; exact hv.symm)
  refine Go.by (X.arraylength hx (cell := cl) (by rw [eT]; exact A.1) (State.isArrayOf_alike hZ.alike A.2.1) rfl rfl hd) ?_
  rw [hz]; exact k
theorem g_getF (X : Stand p l e R s m args below meth c T locs cells slots) (hx : p.tables.exec = Jvm.exec) (hZ : Z.Warmed39 s.vm) {own R0 n d : String} {index : Nat} (hown : s.vm.findClass own = some m.cls) (w : (Jvm.Cond.fieldLink own index R0 n d).before a0 Z = true) (eT : T.heap = h) (F : Fld Z h a R0 n d v) (hd : decode c.code pc = .ok (.getfield index, 3)) (hq : pc + 3 = q) (k : ∀ T', Stand p l e R s m args below meth c T' locs cells slots → T'.heap = h → Go p e below Φ (T'.setTop (mkF m q L (v :: S)))) : Go p e below Φ (T.setTop (mkF m pc L (.ref a :: S))) := by
  subst hq
  obtain ⟨T', X', e', st⟩ := getF X hx hZ hown (host := "") (Or.inl w) Via.refl eT F (g := mkF m pc L (.ref a :: S)) rfl rfl hd
  exact Go.by st (k T' X' e')
theorem g_putF (X : Stand p l e R s m args below meth c T locs cells slots) (hx : p.tables.exec = Jvm.exec) (hZ : Z.Warmed39 s.vm) {own R0 n d C : String} {index kk : Nat} {ty : FieldType} (hown : s.vm.findClass own = some m.cls) (wl : (Jvm.Cond.fieldLink own index R0 n d).before a0 Z = true) (eT : T.heap = h) (F : Fld Z h a R0 n d w) (E : Exa Z h a C) (Ly : (Jvm.Cond.lays C R0 n d).before a0 Z = true ∨ ((Jvm.Cond.laysFinal C R0 n d).before a0 Z = true ∧ own = R0 ∧ meth.name = "<init>")) (wi : (Jvm.Cond.instantiable C kk).before a0 Z = true) (hty : parseFieldDescriptor d = some ty) (hn : narrow ty v = v) (hf : fits ty v = true) (hd : decode c.code pc = .ok (.putfield index, 3)) (hq : pc + 3 = q) (k : ∀ T' h', Stand p l e R s m args below meth c T' (locs ++ [⟨a, Jvm.RoadKit.slotOf Z R0 n d⟩]) cells slots → T'.heap = h' → Wr h h' a (Jvm.RoadKit.slotOf Z R0 n d) v → Fld Z h' a R0 n d v → Go p e below Φ (T'.setTop (mkF m q L S))) : Go p e below Φ (T.setTop (mkF m pc L (v :: .ref a :: S))) := by
  subst hq
  obtain ⟨T', h', X', e', W, st⟩ := putF X hx hZ hown (host := "") (Or.inl wl) Via.refl eT F E Ly wi hty hn hf (g := mkF m pc L (v :: .ref a :: S)) rfl rfl hd
  exact Go.by st (k T' h' X' e' W (F.same W))
theorem g_newO (X : Stand p l e R s m args below meth c T locs cells slots) (hx : p.tables.exec = Jvm.exec) (hZ : Z.Warmed39 s.vm) {own C : String} {index n : Nat} (hown : s.vm.findClass own = some m.cls) (w : (Jvm.Cond.classLink own index C).before a0 Z = true) (wi : (Jvm.Cond.instantiable C n).before a0 Z = true) (wz : (Jvm.Cond.initialized C).before a0 Z = true) (eT : T.heap = h) (hd : decode c.code pc = .ok (.new index, 3)) (hq : pc + 3 = q) (hc : cells + 1 ≤ R.cells) (hl : slots + n ≤ R.slots) (k : ∀ T' h' o, Stand p l e R s m args below meth c T' locs (cells + 1) (slots + n) → T'.heap = h' → Ext h h' → o = h.size → Exa Z h' o C → (∀ {O nm d : String} {ty : FieldType}, Laid Z a0 C O nm d → parseFieldDescriptor d = some ty → Fld Z h' o O nm d (defaultValue ty)) → Go p e below Φ (T'.setTop (mkF m q L (.ref o :: S)))) : Go p e below Φ (T.setTop (mkF m pc L S)) := by
  subst hq
  obtain ⟨T', h', X', e', E, A, D, -, st⟩ := newO X hx hZ hown w wi wz eT (g := mkF m pc L S) rfl hd hc hl
  exact Go.by st (k T' h' h.size X' e' E rfl A D)
theorem g_initO (X : Stand p l e R s m args below meth c T locs cells slots) (hx : p.tables.exec = Jvm.exec) (hZ : Z.Warmed39 s.vm) {own : String} {index : Nat} (hown : s.vm.findClass own = some m.cls) (w1 : (Jvm.Cond.methodLink own index Lib.objectInit).before a0 Z = true) (w2 : (Jvm.Cond.instanceMethod Lib.objectInit).before a0 Z = true) (w3 : (Jvm.Cond.code Lib.objectInit ⟨#[0xb1]⟩ 1 none).before a0 Z = true) (eT : T.heap = h) (hsz : L.size = c.maxLocals) (hd : decode c.code pc = .ok (.invokespecial index, 3)) (hq : pc + 3 = q) (hf : 1 ≤ R.frames) {W : Nat} (hW : (S.map fun v => v.category).sum = W) (hl : W + 12 ≤ R.locals) (k : ∀ T', Stand p l e R s m args below meth c T' locs cells slots → T'.heap = h → Go p e below Φ (T'.setTop (mkF m q L S))) : Go p e below Φ (T.setTop (mkF m pc L (.ref a :: S))) := by
  subst hq
  obtain ⟨T', X', e', st⟩ := initO X hx hZ hown w1 w2 w3 eT (g := mkF m pc L (.ref a :: S)) rfl hsz rfl hd hf (W := W) (by show 2 * 0 + _ ≤ _; omega) hl
  exact Go.by st (k T' X' e')
theorem g_special (X : Stand p l e R s m args below meth c T locs cells slots) (hx : p.tables.exec = Jvm.exec) (hZ : Z.Warmed39 s.vm) {own : String} {index : Nat} {y : MethodName} {bytes : ByteArray} {maxL : Nat} (hy1 : y.name = "<init>") (hown : s.vm.findClass own = some m.cls) (w1 : (Jvm.Cond.methodLink own index y).before a0 Z = true) (w2 : (Jvm.Cond.instanceMethod y).before a0 Z = true) (w3 : (Jvm.Cond.initialized y.cls).before a0 Z = true) (w4 : (Jvm.Cond.code y bytes maxL none).before a0 Z = true) (hy : y.cls ≠ "java/lang/invoke/MethodHandle" ∧ y.cls ≠ "java/lang/invoke/VarHandle")
    {rm : Room} {as' : Array Value} {Q : Option Value → Heap → List Loc → Prop} (C : Ctr l Z y bytes maxL none rm [] as' h Q) {argsL rest : List Value} {ps : List FieldType} {rt : Option FieldType} (hpd : parseMethodDescriptor y.desc = some ⟨ps, rt⟩) (hlen : argsL.length = ps.length) (hst : S = argsL.reverse ++ .ref a :: rest) (has : (.ref a :: argsL).toArray = as') (hd : decode c.code pc = .ok (.invokespecial index, 3)) (hq : pc + 3 = q) (hsz : L.size = c.maxLocals) (eT : T.heap = h)
    (hf : rm.frames + 1 ≤ R.frames) {W : Nat} (hW : (rest.map fun v => v.category).sum = W) (hl : W + (maxL + 11) + rm.locals ≤ R.locals) (hc : cells + rm.cells ≤ R.cells) (hs : slots + rm.slots ≤ R.slots)
    (k : ∀ v T' Lc, Stand p l e R s m args below meth c T' (locs ++ Lc) (cells + rm.cells) (slots + rm.slots) → Q v T'.heap Lc → Go p e below Φ (T'.setTop (mkF m q L (v.toList ++ rest)))) : Go p e below Φ (T.setTop (mkF m pc L S)) := by
  subst hq has
  obtain ⟨v, _, ⟨T', L', k', n'⟩, -, X', ⟨Lc, hQ, l1, y1, z1⟩, st⟩ := X.specialBack hx (y := y) hy1 hown (mvT hZ w1) (mvT hZ w2) (mvT hZ w4) hy (backOf (W := W) C hZ w4 w3 hf hl) (g := mkF m pc L S) rfl hsz (Steps.refl _) (a := a) (argsL := argsL) (rest := rest) (lenOf hpd hlen) hst (by show 2 * 0 + _ ≤ _; omega) hd (fun _ _ => ⟨rfl, eT, hc, hs⟩)
  dsimp only [Pt.U, Pt.locs, Pt.cells, Pt.slots] at X' l1 y1 z1 st hQ
  subst l1 y1 z1
  exact Go.by (fun _ r => st.trans r) (k v T' Lc X' hQ)
theorem g_virtual (X : Stand p l e R s m args below meth c T locs cells slots) (hx : p.tables.exec = Jvm.exec) (hZ : Z.Warmed39 s.vm) {own C0 : String} {index : Nat} {y : MethodName} {bytes : ByteArray} {maxL : Nat} {ret : Option FieldType} (hown : s.vm.findClass own = some m.cls) (w1 : (Jvm.Cond.methodLink own index y).before a0 Z = true) (w2 : (Jvm.Cond.declares y).before a0 Z = true) (w3 : (Jvm.Cond.selects C0 y y).before a0 Z = true) (w4 : (Jvm.Cond.instanceMethod y).before a0 Z = true) (w5 : (Jvm.Cond.initialized y.cls).before a0 Z = true) (w6 : (Jvm.Cond.code y bytes maxL ret).before a0 Z = true) (hy : y.cls ≠ "java/lang/invoke/MethodHandle" ∧ y.cls ≠ "java/lang/invoke/VarHandle")
    {rm : Room} {as' : Array Value} {Q : Option Value → Heap → List Loc → Prop} (C : Ctr l Z y bytes maxL ret rm [] as' h Q) (Ex : Exa Z h a C0) {argsL rest : List Value} {ps : List FieldType} {rt : Option FieldType} (hpd : parseMethodDescriptor y.desc = some ⟨ps, rt⟩) (hlen : argsL.length = ps.length) (hst : S = argsL.reverse ++ .ref a :: rest) (has : (.ref a :: argsL).toArray = as') (hd : decode c.code pc = .ok (.invokevirtual index, 3)) (hq : pc + 3 = q) (hsz : L.size = c.maxLocals) (eT : T.heap = h)
    (hf : rm.frames + 1 ≤ R.frames) {W : Nat} (hW : (rest.map fun v => v.category).sum = W) (hl : W + (maxL + 11) + rm.locals ≤ R.locals) (hc : cells + rm.cells ≤ R.cells) (hs : slots + rm.slots ≤ R.slots)
    (k : ∀ v T' Lc, Stand p l e R s m args below meth c T' (locs ++ Lc) (cells + rm.cells) (slots + rm.slots) → Q v T'.heap Lc → Go p e below Φ (T'.setTop (mkF m q L (v.toList ++ rest)))) : Go p e below Φ (T.setTop (mkF m pc L S)) := by
  subst hq has
  obtain ⟨cq, kq, qa, qb, qc⟩ := isOf hZ eT Ex
  obtain ⟨v, _, ⟨T', L', k', n'⟩, -, X', ⟨Lc, hQ, l1, y1, z1⟩, st⟩ := X.virtualBack hx (y := y) (z := y) hown (mvT hZ w1) (mvT hZ w2) (notFace_of_selects (args := #[]) (mvT hZ w3)) (mvT hZ w3) (mvT hZ w4) hy (backOf (W := W) C hZ w6 w5 hf hl) qa qc (g := mkF m pc L S) rfl hsz (Steps.refl _) (argsL := argsL) (rest := rest) (lenOf hpd hlen) hst (by show 2 * 0 + _ ≤ _; omega) hd (fun _ _ => ⟨rfl, eT, hc, hs⟩)
  dsimp only [Pt.U, Pt.locs, Pt.cells, Pt.slots] at X' l1 y1 z1 st hQ
  subst l1 y1 z1
  exact Go.by (fun _ r => st.trans r) (k v T' Lc X' hQ)
theorem g_private (X : Stand p l e R s m args below meth c T locs cells slots) (hx : p.tables.exec = Jvm.exec) (hZ : Z.Warmed39 s.vm) {own : String} {index kI : Nat} {y : MethodName} {bytes : ByteArray} {maxL : Nat} {ret : Option FieldType} (hown : s.vm.findClass own = some m.cls) (w1 : (Jvm.Cond.methodLink own index y).before a0 Z = true) (w2 : (Jvm.Cond.instanceMethod y).before a0 Z = true) (w3 : (Jvm.Cond.privateMethod y).before a0 Z = true) (w4 : (Jvm.Cond.instantiable y.cls kI).before a0 Z = true) (w5 : (Jvm.Cond.initialized y.cls).before a0 Z = true) (w6 : (Jvm.Cond.code y bytes maxL ret).before a0 Z = true) (hy : y.cls ≠ "java/lang/invoke/MethodHandle" ∧ y.cls ≠ "java/lang/invoke/VarHandle")
    {rm : Room} {as' : Array Value} {Q : Option Value → Heap → List Loc → Prop} (C : Ctr l Z y bytes maxL ret rm [] as' h Q) (Ex : Exa Z h a y.cls) {argsL rest : List Value} {ps : List FieldType} {rt : Option FieldType} (hpd : parseMethodDescriptor y.desc = some ⟨ps, rt⟩) (hlen : argsL.length = ps.length) (hst : S = argsL.reverse ++ .ref a :: rest) (has : (.ref a :: argsL).toArray = as') (hd : decode c.code pc = .ok (.invokevirtual index, 3)) (hq : pc + 3 = q) (hsz : L.size = c.maxLocals) (eT : T.heap = h)
    (hf : rm.frames + 1 ≤ R.frames) {W : Nat} (hW : (rest.map fun v => v.category).sum = W) (hl : W + (maxL + 11) + rm.locals ≤ R.locals) (hc : cells + rm.cells ≤ R.cells) (hs : slots + rm.slots ≤ R.slots)
    (k : ∀ v T' Lc, Stand p l e R s m args below meth c T' (locs ++ Lc) (cells + rm.cells) (slots + rm.slots) → Q v T'.heap Lc → Go p e below Φ (T'.setTop (mkF m q L (v.toList ++ rest)))) : Go p e below Φ (T.setTop (mkF m pc L S)) := by
  subst hq has
  obtain ⟨cq, q1, q2⟩ := Ex.cell
  have hp : s.PrivateAt y := Cond.privateMethod_at (mvP hZ w3 (args := args))
  obtain ⟨c1, k1, i1, i2, i3, i4, -⟩ := Cond.instantiable_spec (mvT (args := args) hZ w4)
  have hsel : (Jvm.Cond.selects y.cls y y).before args s = true := selects_self_of_private i1 i2 (Bool.or_eq_false_iff.mp i4).1 hp (mvT hZ w2) hy
  obtain ⟨v, _, ⟨T', L', k', n'⟩, -, X', ⟨Lc, hQ, l1, y1, z1⟩, st⟩ := X.privateBack hx (y := y) hown (mvT hZ w1) (mvT hZ w2) hsel hp (mvT hZ w6) hy (backOf (W := W) C hZ w6 w5 hf hl) (g := mkF m pc L S) rfl hsz (Steps.refl _) (a := a) (cell := cq) (by rw [eT]; exact q1) q2 (argsL := argsL) (rest := rest) (lenOf hpd hlen) hst (by show 2 * 0 + _ ≤ _; omega) hd (fun _ _ => ⟨rfl, eT, hc, hs⟩)
  dsimp only [Pt.U, Pt.locs, Pt.cells, Pt.slots] at X' l1 y1 z1 st hQ
  subst l1 y1 z1
  exact Go.by (fun _ r => st.trans r) (k v T' Lc X' hQ)
theorem g_acmp_eq (X : Stand p l e R s m args below meth c T locs cells slots) (hx : p.tables.exec = Jvm.exec) {o : Int} {q0 : Nat} {x y : Addr} (hd : decode c.code pc = .ok (.if_acmp .eq o, 3)) (ho : 0 ≤ (pc : Int) + o) (hq : ((pc : Int) + o).toNat = q) (hq0 : pc + 3 = q0) (k1 : x = y → Go p e below Φ (T.setTop (mkF m q L S))) (k0 : x ≠ y → Go p e below Φ (T.setTop (mkF m q0 L S))) : Go p e below Φ (T.setTop (mkF m pc L (.ref y :: .ref x :: S))) := by
  subst hq0
  by_cases hb : x = y
  · exact Go.by (fun _ => acmp X hx rfl rfl rfl (same := true) rfl hd rfl (by simp [hb]) ho (by rw [if_pos (by rfl)]; exact hq.symm)) (k1 hb)
  · exact Go.by (fun _ => acmp X hx rfl rfl rfl (same := false) rfl hd rfl (by simp [hb]) ho (by rw [if_neg (by decide)])) (k0 hb)
theorem g_acmp_ne (X : Stand p l e R s m args below meth c T locs cells slots) (hx : p.tables.exec = Jvm.exec) {o : Int} {q0 : Nat} {x y : Addr} (hd : decode c.code pc = .ok (.if_acmp .ne o, 3)) (ho : 0 ≤ (pc : Int) + o) (hq : ((pc : Int) + o).toNat = q) (hq0 : pc + 3 = q0) (k1 : x ≠ y → Go p e below Φ (T.setTop (mkF m q L S))) (k0 : x = y → Go p e below Φ (T.setTop (mkF m q0 L S))) : Go p e below Φ (T.setTop (mkF m pc L (.ref y :: .ref x :: S))) := by
  subst hq0
  by_cases hb : x = y
  · exact Go.by (fun _ => acmp X hx rfl rfl rfl (same := true) rfl hd rfl (by simp [hb]) ho (by rw [if_neg (by decide)])) (k0 hb)
  · exact Go.by (fun _ => acmp X hx rfl rfl rfl (same := false) rfl hd rfl (by simp [hb]) ho (by rw [if_pos (by rfl)]; exact hq.symm)) (k1 hb)
theorem g_ifnull_no (X : Stand p l e R s m args below meth c T locs cells slots) (hx : p.tables.exec = Jvm.exec) {o : Int} {y : Addr} (hd : decode c.code pc = .ok (.ifnull o, 3)) (hq : pc + 3 = q) (k : Go p e below Φ (T.setTop (mkF m q L S))) : Go p e below Φ (T.setTop (mkF m pc L (.ref y :: S))) := by
  subst hq; exact Go.by (fun _ => XS.ifnullNo X.here hx rfl hd rfl) k
theorem g_ifnonnull_yes (X : Stand p l e R s m args below meth c T locs cells slots) (hx : p.tables.exec = Jvm.exec) {o : Int} {y : Addr} (hd : decode c.code pc = .ok (.ifnonnull o, 3)) (ho : 0 ≤ (pc : Int) + o) (hq : ((pc : Int) + o).toNat = q) (k : Go p e below Φ (T.setTop (mkF m q L S))) : Go p e below Φ (T.setTop (mkF m pc L (.ref y :: S))) := Go.by (fun _ => XS.ifnonnullYes X.here hx rfl rfl hd rfl ho hq) k
end OwnHeap

section OwnCopy
variable {p : Program} {l : Launch} {e : Env} {R : Room} {s : State} {m : MethodId} {args : Array Value} {below : List Frame} {meth : Method} {c : Code} {T : State} {locs : List Loc} {cells slots : Nat} {Z : State} {a0 : Array Value} {h : Heap} {Φ : Outcome → State → Prop} {pc q : Nat} {L : Array Slot} {S : List Value}
theorem own_arv {a : Addr} {vs : List Int32} (F : IA Z h a vs) : ∃ (k : ClassId) (z : Int32), z.toInt = (vs.length : Int) ∧ Arv Z h a k .int z (vs.map Value.int) (.int 0) := by
  obtain ⟨cl, A, e1, r⟩ := F
  rw [List.length_map] at r
  have hz : (Int32.ofNat vs.length).toInt = (vs.length : Int) := Int32.toInt_ofNat_of_lt r
  have hs : cl.slots.size = vs.length := by rw [e1]; simp
  refine ⟨cl.cls, Int32.ofNat vs.length, hz, cl, A, rfl, ?_, (idxN hz).1, ?_, ?_⟩
  · rw [hs, (idxN hz).2]
  · intro i hi
    rw [hs] at hi
    rw [e1]
    simp [List.getElem?_eq_getElem, hi, List.getD]
  · intro i hi
    rw [hs] at hi
    simp [List.getElem?_eq_getElem, hi, List.getD, fits]
theorem own_vra {a : Addr} {k : ClassId} {z : Int32} {us : List Int32} {d : Value} (F : Arv Z h a k .int z (us.map Value.int) d) (hz : z.toInt = (us.length : Int)) (hl : us.length < 2 ^ 31) : IA Z h a us := by
  obtain ⟨cl, A, -, hs, -, H, -⟩ := F
  rw [(idxN hz).2] at hs
  refine ⟨cl, A, ?_, by rw [List.length_map]; exact hl⟩
  apply Array.ext_getElem?
  intro i
  by_cases hi : i < cl.slots.size
  · have h1 := H i hi
    rw [h1]
    rw [hs] at hi
    simp [List.getElem?_eq_getElem, hi, List.getD]
  · rw [Array.getElem?_eq_none (by omega), Array.getElem?_eq_none (by simp; omega)]
theorem g_cpI (X : Stand p l e R s m args below meth c T locs cells slots) (hx : p.tables.exec = Jvm.exec) (hZ : Z.Warmed39 s.vm) {own : String} {index : Nat} (hown : s.vm.findClass own = some m.cls)
    (w1 : (Cond.methodLink own index Jvm.Stand.acN).before a0 Z = true) (w2 : (Cond.native Jvm.Stand.acN).before a0 Z = true) (w3 : (Cond.static Jvm.Stand.acN).before a0 Z = true) (w4 : (Cond.initialized "java/lang/System").before a0 Z = true) (eT : T.heap = h)
    {a b : Addr} {vs us : List Int32} (A : IA Z h a vs) (B : IA Z h b us) {nn : Int32} {k : Nat} (hn : nn.toInt = (k : Int)) (h1 : k ≤ vs.length) (h2 : k ≤ us.length) {n0 : Nat} (N : Fr n0 locs) (ge : n0 ≤ b)
    (hd : decode c.code pc = .ok (.invokestatic index, 3)) (hq : pc + 3 = q) (hsize : L.size = c.maxLocals) (hf : 1 ≤ R.frames) {W : Nat} (hW : (S.map fun v => v.category).sum ≤ W) (hlo : W + (nativeFrameWords "java/lang/System" "arraycopy" 5 + 11) ≤ R.locals)
    (kk : ∀ T' h' L', Stand p l e R s m args below meth c T' L' cells slots → T'.heap = h' → Fr n0 L' → Keep h h' [b] → IA Z h' b (vs.take k ++ us.drop k) → Go p e below Φ (T'.setTop (mkF m q L S))) : Go p e below Φ (T.setTop (mkF m pc L (.int nn :: .int 0 :: .ref b :: .int 0 :: .ref a :: S))) := by
  subst hq
  obtain ⟨ka, za, ea, A'⟩ := own_arv A
  obtain ⟨kb, zb, eb, B'⟩ := own_arv B
  have hlb : us.length < 2 ^ 31 := by have := B.len; rwa [List.length_map] at this
  have z0 : (0 : Int32).toNatClampNeg = 0 := rfl
  have hk := (idxN hn).2
  obtain ⟨T', h', L', X', e', N', K', F', st⟩ := cpA X hx hZ hown w1 w2 w3 w4 eT A' B' (sp := 0) (dp := 0) (nn := nn) (Or.inl ⟨rfl, rfl⟩) (by decide) (by decide) (idxN hn).1
    (by rw [z0, hk, (idxN ea).2]; omega) (by rw [z0, hk, (idxN eb).2]; omega) rfl (by rw [z0, hk, List.length_map]; omega) N ge (g := mkF m pc L (.int nn :: .int 0 :: .ref b :: .int 0 :: .ref a :: S)) rfl hsize rfl hd hf (W := W) (by simpa [mkF, JFrame.monitorRoom] using hW) hlo
  refine Go.by st (kk T' h' L' X' e' N' K' (own_vra (k := kb) (z := zb) (d := .int 0) ?_ ?_ ?_))
  · rw [z0, hk] at F'
    have e : (List.range k).map (fun i => (vs.map Value.int).getD (0 + i) (.int 0)) = (vs.take k).map Value.int := by
      apply List.ext_getElem?
      intro i
      by_cases hi : i < k
      · simp [hi, List.getD, List.getElem?_take, List.getElem?_eq_getElem (show i < vs.length by omega)]
      · simp [List.getElem?_take, hi]
    rw [e] at F'
    rw [List.map_append, List.map_drop]
    simpa using F'
  · rw [eb]; simp; omega
  · simp; omega
end OwnCopy

theorem own_sh64 : ∀ k : Fin 63, (((-9223372036854775808 : Int64).toUInt64 >>> ((Int32.ofNat (63 - k.val)) &&& 0x3f).toInt64.toUInt64).toInt64).toBitVec = BitVec.twoPow 64 k.val := by decide +kernel
theorem own_hob {x : Int64} {n : Int32} {k : Nat} (hk : k ≤ 62) (hn : n.toInt = 63 - (k : Int)) (h1 : (2 : Int) ^ k ≤ x.toInt) (h2 : x.toInt < 2 ^ (k + 1)) : (x &&& (((-9223372036854775808 : Int64).toUInt64 >>> (n &&& 0x3f).toInt64.toUInt64).toInt64)).toInt = 2 ^ k := by
  have e : n = Int32.ofNat (63 - k) := Int32.toInt_inj.mp (by rw [Int32.toInt_ofNat_of_lt (by omega)]; omega)
  have h3 := own_sh64 ⟨k, by omega⟩
  simp only at h3
  have hp : (0 : Int) < 2 ^ k := Int.pow_pos (by decide)
  have hx : x.toInt = x.toBitVec.toNat := by
    show x.toBitVec.toInt = _
    rw [BitVec.toInt_eq_toNat_cond]
    split
    · rfl
    · exfalso
      have h4 : x.toInt = x.toBitVec.toInt := rfl
      rw [h4, BitVec.toInt_eq_toNat_cond, if_neg (by assumption)] at h1
      have := x.toBitVec.isLt; omega
  have hN1 : 2 ^ k ≤ x.toBitVec.toNat := by rw [hx] at h1; exact_mod_cast h1
  have hN2 : x.toBitVec.toNat < 2 ^ (k + 1) := by rw [hx] at h2; exact_mod_cast h2
  have hb : x.toBitVec.getLsbD k = true := by
    rw [BitVec.getLsbD, Nat.testBit_eq_decide_div_mod_eq]
    have : x.toBitVec.toNat / 2 ^ k = 1 := by
      apply Nat.div_eq_of_lt_le
      · simpa using hN1
      · rw [Nat.pow_succ] at hN2; simpa [Nat.mul_comm] using hN2
    rw [this]; rfl
  subst e
  show (x &&& _).toBitVec.toInt = _
  rw [Int64.toBitVec_and, h3, BitVec.and_twoPow, hb, if_pos rfl, BitVec.toInt_eq_toNat_cond, BitVec.toNat_twoPow_of_lt (by omega), if_pos ?_]
  · simp
  · have : 2 ^ k ≤ 2 ^ 62 := Nat.pow_le_pow_right (by decide) hk
    omega
theorem own_powle {a b : Nat} (h : a ≤ b) : (2 : Int) ^ a ≤ 2 ^ b := by exact_mod_cast Nat.pow_le_pow_right (by decide) h
theorem own_pu {x : Int} {a b : Nat} (h1 : (2 : Int) ^ a ≤ x) (h2 : x < 2 ^ (a + 1)) (h3 : (2 : Int) ^ b ≤ x) (h4 : x < 2 ^ (b + 1)) : a = b := by
  rcases Nat.lt_trichotomy a b with h | h | h
  · have := own_powle (show a + 1 ≤ b by omega); exfalso; exact absurd (Int.lt_of_le_of_lt (Int.le_trans this h3) h2) (Int.lt_irrefl _)
  · exact h
  · have := own_powle (show b + 1 ≤ a by omega); exfalso; exact absurd (Int.lt_of_le_of_lt (Int.le_trans this h1) h4) (Int.lt_irrefl _)
def RM_rm3 : Room := ({ frames := 0, cells := 0, slots := 0, locals := 0 } : Room)
theorem d3_0 : decode jdk_29_method_66_code 0 = .ok (.lload_n 0, 1) := by decide +kernel
theorem d3_1 : decode jdk_29_method_66_code 1 = .ok (.lload_n 2, 1) := by decide +kernel
theorem d3_2 : decode jdk_29_method_66_code 2 = .ok (.lcmp, 1) := by decide +kernel
theorem d3_3 : decode jdk_29_method_66_code 3 = .ok (.ifCond .lt 7, 3) := by decide +kernel
theorem d3_6 : decode jdk_29_method_66_code 6 = .ok (.lload_n 0, 1) := by decide +kernel
theorem d3_7 : decode jdk_29_method_66_code 7 = .ok (.goto 4, 3) := by decide +kernel
theorem d3_10 : decode jdk_29_method_66_code 10 = .ok (.lload_n 2, 1) := by decide +kernel
theorem d3_11 : decode jdk_29_method_66_code 11 = .ok (.lreturn, 1) := by decide +kernel
theorem ef_3 (m : MethodId) (z0 : Int64) (z1 : Int64) : entryFrame m #[.long z0, .long z1] 4 = mkF m 0 #[.val (.long z0), .second, .val (.long z1), .second] [] := by first | (simp [entryFrame, mkF, argsToLocals, Value.category]; done) | rfl
theorem pn_0 : plainFor (⟨"java/lang/Math", "max", "(JJ)J"⟩ : MethodName) = true := by exact (Jvm.Free.JP.mathPlain rfl (by decide +kernel))
set_option maxRecDepth 65536 in
set_option maxHeartbeats 40000000 in
theorem rm3 (l : Launch) (Z : State) (a0 : Array Value) (hw : ∀ d ∈ tables_1, d.before a0 Z = true) (ws : List Jvm.Cond) (ma : Int64) (mb : Int64) (h0 : Heap) (n0 : Nat) (Z0 : n0 ≤ h0.size) :
    Ctr l Z (⟨"java/lang/Math", "max", "(JJ)J"⟩ : MethodName) jdk_29_method_66_code 4 (some .long) RM_rm3 ws #[.long ma, .long mb] h0 (JQ (fun r => ma.toInt ≤ r.toInt ∧ mb.toInt ≤ r.toInt ∧ (r.toInt = ma.toInt ∨ r.toInt = mb.toInt)) h0) := by
  refine Ctr.of pn_0 ?_
  intro p e s m below meth c s₁ hx hby hml hrt hlk hnm hown hZ X0 e0
  have N0 := Fr.nil n0
  refine Go.cast (ef_3 m ma mb) ?_
  refine g_lloadN (q := 1) X0.here hx (hb hby d3_0) rfl rfl ?_
  refine g_lloadN (q := 2) X0.here hx (hb hby d3_1) rfl rfl ?_
  refine g_lcmp_lt (q := 10) (q1 := 3) (q0 := 6) X0.here hx (hb hby d3_2) rfl (hb hby d3_3) (by decide) (by decide) rfl ?_ ?_
  · intro c1
    refine g_lloadN (q := 11) X0.here hx (hb hby d3_10) rfl rfl ?_
    exact g_lreturn X0 hx hlk hrt (hb hby d3_11) (by decide) (by decide) ⟨_, rfl, (show ma.toInt ≤ mb.toInt ∧ mb.toInt ≤ mb.toInt ∧ (mb.toInt = ma.toInt ∨ mb.toInt = mb.toInt) by (try simp only [Int32.reduceToInt, Int64.reduceToInt, true_and, and_true, not_true_eq_false, not_false_eq_true, false_and, or_false, false_or] at c1); have f1 := rng64 mb; (try simp only [Int32.reduceToInt, Int64.reduceToInt] at f1); have f3 := rng64 ma; (try simp only [Int32.reduceToInt, Int64.reduceToInt] at f3); (try simp only [Int32.reduceToInt, Int64.reduceToInt, and_true, true_and, or_true, true_or]); (first | done | omega)), e0, rfl⟩
  · intro c1
    refine g_lloadN (q := 7) X0.here hx (hb hby d3_6) rfl rfl ?_
    refine g_goto (q := 11) X0.here hx (hb hby d3_7) (by decide) (by decide) ?_
    exact g_lreturn X0 hx hlk hrt (hb hby d3_11) (by decide) (by decide) ⟨_, rfl, (show ma.toInt ≤ ma.toInt ∧ mb.toInt ≤ ma.toInt ∧ (ma.toInt = ma.toInt ∨ ma.toInt = mb.toInt) by (try simp only [Int32.reduceToInt, Int64.reduceToInt, true_and, and_true, not_true_eq_false, not_false_eq_true, false_and, or_false, false_or] at c1); have f1 := rng64 mb; (try simp only [Int32.reduceToInt, Int64.reduceToInt] at f1); have f3 := rng64 ma; (try simp only [Int32.reduceToInt, Int64.reduceToInt] at f3); (try simp only [Int32.reduceToInt, Int64.reduceToInt, and_true, true_and, or_true, true_or]); (first | done | omega)), e0, rfl⟩
def RM_rm7 : Room := ({ frames := 0, cells := 0, slots := 0, locals := 0 } : Room)
theorem d7_0 : decode jdk_29_method_70_code 0 = .ok (.lload_n 0, 1) := by decide +kernel
theorem d7_1 : decode jdk_29_method_70_code 1 = .ok (.lload_n 2, 1) := by decide +kernel
theorem d7_2 : decode jdk_29_method_70_code 2 = .ok (.lcmp, 1) := by decide +kernel
theorem d7_3 : decode jdk_29_method_70_code 3 = .ok (.ifCond .gt 7, 3) := by decide +kernel
theorem d7_6 : decode jdk_29_method_70_code 6 = .ok (.lload_n 0, 1) := by decide +kernel
theorem d7_7 : decode jdk_29_method_70_code 7 = .ok (.goto 4, 3) := by decide +kernel
theorem d7_10 : decode jdk_29_method_70_code 10 = .ok (.lload_n 2, 1) := by decide +kernel
theorem d7_11 : decode jdk_29_method_70_code 11 = .ok (.lreturn, 1) := by decide +kernel
theorem ef_7 (m : MethodId) (z0 : Int64) (z1 : Int64) : entryFrame m #[.long z0, .long z1] 4 = mkF m 0 #[.val (.long z0), .second, .val (.long z1), .second] [] := by first | (simp [entryFrame, mkF, argsToLocals, Value.category]; done) | rfl
theorem pn_1 : plainFor (⟨"java/lang/Math", "min", "(JJ)J"⟩ : MethodName) = true := by exact (Jvm.Free.JP.mathPlain rfl (by decide +kernel))
set_option maxRecDepth 65536 in
set_option maxHeartbeats 40000000 in
theorem rm7 (l : Launch) (Z : State) (a0 : Array Value) (hw : ∀ d ∈ tables_1, d.before a0 Z = true) (ws : List Jvm.Cond) (ma : Int64) (mb : Int64) (h0 : Heap) (n0 : Nat) (Z0 : n0 ≤ h0.size) :
    Ctr l Z (⟨"java/lang/Math", "min", "(JJ)J"⟩ : MethodName) jdk_29_method_70_code 4 (some .long) RM_rm7 ws #[.long ma, .long mb] h0 (JQ (fun r => r.toInt ≤ ma.toInt ∧ r.toInt ≤ mb.toInt ∧ (r.toInt = ma.toInt ∨ r.toInt = mb.toInt)) h0) := by
  refine Ctr.of pn_1 ?_
  intro p e s m below meth c s₁ hx hby hml hrt hlk hnm hown hZ X0 e0
  have N0 := Fr.nil n0
  refine Go.cast (ef_7 m ma mb) ?_
  refine g_lloadN (q := 1) X0.here hx (hb hby d7_0) rfl rfl ?_
  refine g_lloadN (q := 2) X0.here hx (hb hby d7_1) rfl rfl ?_
  refine g_lcmp_gt (q := 10) (q1 := 3) (q0 := 6) X0.here hx (hb hby d7_2) rfl (hb hby d7_3) (by decide) (by decide) rfl ?_ ?_
  · intro c1
    refine g_lloadN (q := 11) X0.here hx (hb hby d7_10) rfl rfl ?_
    exact g_lreturn X0 hx hlk hrt (hb hby d7_11) (by decide) (by decide) ⟨_, rfl, (show mb.toInt ≤ ma.toInt ∧ mb.toInt ≤ mb.toInt ∧ (mb.toInt = ma.toInt ∨ mb.toInt = mb.toInt) by (try simp only [Int32.reduceToInt, Int64.reduceToInt, true_and, and_true, not_true_eq_false, not_false_eq_true, false_and, or_false, false_or] at c1); have f1 := rng64 mb; (try simp only [Int32.reduceToInt, Int64.reduceToInt] at f1); have f3 := rng64 ma; (try simp only [Int32.reduceToInt, Int64.reduceToInt] at f3); (try simp only [Int32.reduceToInt, Int64.reduceToInt, and_true, true_and, or_true, true_or]); (first | done | omega)), e0, rfl⟩
  · intro c1
    refine g_lloadN (q := 7) X0.here hx (hb hby d7_6) rfl rfl ?_
    refine g_goto (q := 11) X0.here hx (hb hby d7_7) (by decide) (by decide) ?_
    exact g_lreturn X0 hx hlk hrt (hb hby d7_11) (by decide) (by decide) ⟨_, rfl, (show ma.toInt ≤ ma.toInt ∧ ma.toInt ≤ mb.toInt ∧ (ma.toInt = ma.toInt ∨ ma.toInt = mb.toInt) by (try simp only [Int32.reduceToInt, Int64.reduceToInt, true_and, and_true, not_true_eq_false, not_false_eq_true, false_and, or_false, false_or] at c1); have f1 := rng64 mb; (try simp only [Int32.reduceToInt, Int64.reduceToInt] at f1); have f3 := rng64 ma; (try simp only [Int32.reduceToInt, Int64.reduceToInt] at f3); (try simp only [Int32.reduceToInt, Int64.reduceToInt, and_true, true_and, or_true, true_or]); (first | done | omega)), e0, rfl⟩
def RM_rm6 : Room := ({ frames := 0, cells := 0, slots := 0, locals := 0 } : Room)
theorem d6_0 : decode jdk_33_method_47_code 0 = .ok (.iload_n 0, 1) := by decide +kernel
theorem d6_1 : decode jdk_33_method_47_code 1 = .ok (.ifCond .gt 14, 3) := by decide +kernel
theorem d6_4 : decode jdk_33_method_47_code 4 = .ok (.iload_n 0, 1) := by decide +kernel
theorem d6_5 : decode jdk_33_method_47_code 5 = .ok (.ifCond .ne 8, 3) := by decide +kernel
theorem d6_8 : decode jdk_33_method_47_code 8 = .ok (.bipush 32, 2) := by decide +kernel
theorem d6_10 : decode jdk_33_method_47_code 10 = .ok (.goto 4, 3) := by decide +kernel
theorem d6_13 : decode jdk_33_method_47_code 13 = .ok (.iconst 0, 1) := by decide +kernel
theorem d6_14 : decode jdk_33_method_47_code 14 = .ok (.ireturn, 1) := by decide +kernel
theorem d6_15 : decode jdk_33_method_47_code 15 = .ok (.bipush 31, 2) := by decide +kernel
theorem d6_17 : decode jdk_33_method_47_code 17 = .ok (.istore_n 1, 1) := by decide +kernel
theorem d6_18 : decode jdk_33_method_47_code 18 = .ok (.iload_n 0, 1) := by decide +kernel
theorem d6_19 : decode jdk_33_method_47_code 19 = .ok (.ldc_w 264, 3) := by decide +kernel
theorem d6_22 : decode jdk_33_method_47_code 22 = .ok (.if_icmp .lt 11, 3) := by decide +kernel
theorem d6_25 : decode jdk_33_method_47_code 25 = .ok (.iinc 1 (-16), 3) := by decide +kernel
theorem d6_28 : decode jdk_33_method_47_code 28 = .ok (.iload_n 0, 1) := by decide +kernel
theorem d6_29 : decode jdk_33_method_47_code 29 = .ok (.bipush 16, 2) := by decide +kernel
theorem d6_31 : decode jdk_33_method_47_code 31 = .ok (.iushr, 1) := by decide +kernel
theorem d6_32 : decode jdk_33_method_47_code 32 = .ok (.istore_n 0, 1) := by decide +kernel
theorem d6_33 : decode jdk_33_method_47_code 33 = .ok (.iload_n 0, 1) := by decide +kernel
theorem d6_34 : decode jdk_33_method_47_code 34 = .ok (.sipush 256, 3) := by decide +kernel
theorem d6_37 : decode jdk_33_method_47_code 37 = .ok (.if_icmp .lt 11, 3) := by decide +kernel
theorem d6_40 : decode jdk_33_method_47_code 40 = .ok (.iinc 1 (-8), 3) := by decide +kernel
theorem d6_43 : decode jdk_33_method_47_code 43 = .ok (.iload_n 0, 1) := by decide +kernel
theorem d6_44 : decode jdk_33_method_47_code 44 = .ok (.bipush 8, 2) := by decide +kernel
theorem d6_46 : decode jdk_33_method_47_code 46 = .ok (.iushr, 1) := by decide +kernel
theorem d6_47 : decode jdk_33_method_47_code 47 = .ok (.istore_n 0, 1) := by decide +kernel
theorem d6_48 : decode jdk_33_method_47_code 48 = .ok (.iload_n 0, 1) := by decide +kernel
theorem d6_49 : decode jdk_33_method_47_code 49 = .ok (.bipush 16, 2) := by decide +kernel
theorem d6_51 : decode jdk_33_method_47_code 51 = .ok (.if_icmp .lt 10, 3) := by decide +kernel
theorem d6_54 : decode jdk_33_method_47_code 54 = .ok (.iinc 1 (-4), 3) := by decide +kernel
theorem d6_57 : decode jdk_33_method_47_code 57 = .ok (.iload_n 0, 1) := by decide +kernel
theorem d6_58 : decode jdk_33_method_47_code 58 = .ok (.iconst 4, 1) := by decide +kernel
theorem d6_59 : decode jdk_33_method_47_code 59 = .ok (.iushr, 1) := by decide +kernel
theorem d6_60 : decode jdk_33_method_47_code 60 = .ok (.istore_n 0, 1) := by decide +kernel
theorem d6_61 : decode jdk_33_method_47_code 61 = .ok (.iload_n 0, 1) := by decide +kernel
theorem d6_62 : decode jdk_33_method_47_code 62 = .ok (.iconst 4, 1) := by decide +kernel
theorem d6_63 : decode jdk_33_method_47_code 63 = .ok (.if_icmp .lt 10, 3) := by decide +kernel
theorem d6_66 : decode jdk_33_method_47_code 66 = .ok (.iinc 1 (-2), 3) := by decide +kernel
theorem d6_69 : decode jdk_33_method_47_code 69 = .ok (.iload_n 0, 1) := by decide +kernel
theorem d6_70 : decode jdk_33_method_47_code 70 = .ok (.iconst 2, 1) := by decide +kernel
theorem d6_71 : decode jdk_33_method_47_code 71 = .ok (.iushr, 1) := by decide +kernel
theorem d6_72 : decode jdk_33_method_47_code 72 = .ok (.istore_n 0, 1) := by decide +kernel
theorem d6_73 : decode jdk_33_method_47_code 73 = .ok (.iload_n 1, 1) := by decide +kernel
theorem d6_74 : decode jdk_33_method_47_code 74 = .ok (.iload_n 0, 1) := by decide +kernel
theorem d6_75 : decode jdk_33_method_47_code 75 = .ok (.iconst 1, 1) := by decide +kernel
theorem d6_76 : decode jdk_33_method_47_code 76 = .ok (.iushr, 1) := by decide +kernel
theorem d6_77 : decode jdk_33_method_47_code 77 = .ok (.isub, 1) := by decide +kernel
theorem d6_78 : decode jdk_33_method_47_code 78 = .ok (.ireturn, 1) := by decide +kernel
theorem ef_6 (m : MethodId) (z0 : Int32) : entryFrame m #[.int z0] 2 = mkF m 0 #[.val (.int z0), .unset] [] := by first | (simp [entryFrame, mkF, argsToLocals, Value.category]; done) | rfl
theorem pn_2 : plainName "java/lang/Integer" = true := by first | (simp [plainName, overriddenIn]; done) | decide +kernel
set_option maxRecDepth 65536 in
set_option maxHeartbeats 40000000 in
theorem rm6 (l : Launch) (Z : State) (a0 : Array Value) (hw : ∀ d ∈ tables_1, d.before a0 Z = true) (ws : List Jvm.Cond) (ni : Int32) (h0 : Heap) (n0 : Nat) (Z0 : n0 ≤ h0.size) :
    Ctr l Z (⟨"java/lang/Integer", "numberOfLeadingZeros", "(I)I"⟩ : MethodName) jdk_33_method_47_code 2 (some .int) RM_rm6 ws #[.int ni] h0 (IQ (fun r => (ni.toInt < 0 ∧ r.toInt = 0) ∨ (ni.toInt = 0 ∧ r.toInt = 32) ∨ (∃ k : Nat, k ≤ 30 ∧ r.toInt = 31 - (k : Int) ∧ (2 : Int) ^ k ≤ ni.toInt ∧ ni.toInt < 2 ^ (k + 1))) h0) := by
  refine Ctr.of (plainFor_of_name pn_2) ?_
  intro p e s m below meth c s₁ hx hby hml hrt hlk hnm hown hZ X0 e0
  have N0 := Fr.nil n0
  refine Go.cast (ef_6 m ni) ?_
  refine g_iloadN (q := 1) X0.here hx (hb hby d6_0) rfl rfl ?_
  refine g_if_gt (q := 15) (q0 := 4) X0.here hx (hb hby d6_1) (by decide) (by decide) rfl ?_ ?_
  · intro c1
    refine g_bipush (q := 17) (v := (31 : Int32)) X0.here hx (hb hby d6_15) rfl rfl ?_
    refine g_istoreN (q := 18) (L' := #[.val (.int ni), .val (.int (31 : Int32))]) X0.here hx (hb hby d6_17) rfl rfl ?_
    refine g_iloadN (q := 19) X0.here hx (hb hby d6_18) rfl rfl ?_
    refine g_ldcWI (q := 22) X0 hx hZ hown (hw _ (List.mem_of_getElem? (i := 27) rfl)) (hb hby d6_19) rfl ?_
    refine g_icmp_lt (q := 33) (q0 := 25) X0.here hx (hb hby d6_22) (by decide) (by decide) rfl ?_ ?_
    · intro c2
      refine g_iloadN (q := 34) X0.here hx (hb hby d6_33) rfl rfl ?_
      refine g_sipush (q := 37) (v := (256 : Int32)) X0.here hx (hb hby d6_34) rfl rfl ?_
      refine g_icmp_lt (q := 48) (q0 := 40) X0.here hx (hb hby d6_37) (by decide) (by decide) rfl ?_ ?_
      · intro c3
        refine g_iloadN (q := 49) X0.here hx (hb hby d6_48) rfl rfl ?_
        refine g_bipush (q := 51) (v := (16 : Int32)) X0.here hx (hb hby d6_49) rfl rfl ?_
        refine g_icmp_lt (q := 61) (q0 := 54) X0.here hx (hb hby d6_51) (by decide) (by decide) rfl ?_ ?_
        · intro c4
          refine g_iloadN (q := 62) X0.here hx (hb hby d6_61) rfl rfl ?_
          refine g_iconst (q := 63) (v := (4 : Int32)) X0.here hx (hb hby d6_62) rfl rfl ?_
          refine g_icmp_lt (q := 73) (q0 := 66) X0.here hx (hb hby d6_63) (by decide) (by decide) rfl ?_ ?_
          · intro c5
            refine g_iloadN (q := 74) X0.here hx (hb hby d6_73) rfl rfl ?_
            refine g_iloadN (q := 75) X0.here hx (hb hby d6_74) rfl rfl ?_
            refine g_iconst (q := 76) (v := (1 : Int32)) X0.here hx (hb hby d6_75) rfl rfl ?_
            refine g_iushr (q := 77) X0.here hx (hb hby d6_76) rfl ?_
            refine g_isub (q := 78) X0.here hx (hb hby d6_77) rfl ?_
            exact g_ireturn X0 hx hlk hrt (hb hby d6_78) (by decide) (by decide) ⟨_, rfl, (show (ni.toInt < 0 ∧ ((31 : Int32) - ((ni.toUInt32 >>> ((1 : Int32) &&& 31).toUInt32).toInt32)).toInt = 0) ∨ (ni.toInt = 0 ∧ ((31 : Int32) - ((ni.toUInt32 >>> ((1 : Int32) &&& 31).toUInt32).toInt32)).toInt = 32) ∨ (∃ k : Nat, k ≤ 30 ∧ ((31 : Int32) - ((ni.toUInt32 >>> ((1 : Int32) &&& 31).toUInt32).toInt32)).toInt = 31 - (k : Int) ∧ (2 : Int) ^ k ≤ ni.toInt ∧ ni.toInt < 2 ^ (k + 1)) by (try simp only [Int32.reduceToInt, Int64.reduceToInt, true_and, and_true, not_true_eq_false, not_false_eq_true, false_and, or_false, false_or] at c1); (try simp only [Int32.reduceToInt, Int64.reduceToInt, true_and, and_true, not_true_eq_false, not_false_eq_true, false_and, or_false, false_or] at c2); (try simp only [Int32.reduceToInt, Int64.reduceToInt, true_and, and_true, not_true_eq_false, not_false_eq_true, false_and, or_false, false_or] at c3); (try simp only [Int32.reduceToInt, Int64.reduceToInt, true_and, and_true, not_true_eq_false, not_false_eq_true, false_and, or_false, false_or] at c4); (try simp only [Int32.reduceToInt, Int64.reduceToInt, true_and, and_true, not_true_eq_false, not_false_eq_true, false_and, or_false, false_or] at c5); have f1 := rng32 ni; (try simp only [Int32.reduceToInt, Int64.reduceToInt] at f1); have f4 := rng32 ((ni.toUInt32 >>> ((1 : Int32) &&& 31).toUInt32).toInt32); (try simp only [Int32.reduceToInt, Int64.reduceToInt] at f4); have f5 := c_iushr ni (1 : Int32) 1 (by decide) (by decide); (try simp only [Int32.reduceToInt, Int64.reduceToInt] at f5); (try have f5e : ((ni.toUInt32 >>> ((1 : Int32) &&& 31).toUInt32).toInt32).toInt = ni.toInt / 2 := (by omega)); have f6 := rng32 ((31 : Int32) - ((ni.toUInt32 >>> ((1 : Int32) &&& 31).toUInt32).toInt32)); (try simp only [Int32.reduceToInt, Int64.reduceToInt] at f6); have f7 := c_isub (31 : Int32) ((ni.toUInt32 >>> ((1 : Int32) &&& 31).toUInt32).toInt32); (try simp only [Int32.reduceToInt, Int64.reduceToInt] at f7); (try have f7e : ((31 : Int32) - ((ni.toUInt32 >>> ((1 : Int32) &&& 31).toUInt32).toInt32)).toInt = (31 : Int) - ((ni.toUInt32 >>> ((1 : Int32) &&& 31).toUInt32).toInt32).toInt := (by omega)); (try simp only [Int32.reduceToInt, Int64.reduceToInt, and_true, true_and, or_true, true_or]); skip; have hu : ((ni.toUInt32 >>> ((1 : Int32) &&& 31).toUInt32).toInt32).toInt = 0 ∨ ((ni.toUInt32 >>> ((1 : Int32) &&& 31).toUInt32).toInt32).toInt = 1 := (by omega); rcases hu with hu | hu; exact Or.inr (Or.inr ⟨0, by decide, by omega, by omega, by omega⟩); first | exact Or.inr (Or.inr ⟨1, by decide, by omega, by omega, by omega⟩) | (exfalso; omega)), e0, rfl⟩
          · intro c5
            refine g_iinc (q := 69) (v := (29 : Int32)) (L' := #[.val (.int ni), .val (.int (29 : Int32))]) X0.here hx (hb hby d6_66) rfl rfl rfl rfl ?_
            refine g_iloadN (q := 70) X0.here hx (hb hby d6_69) rfl rfl ?_
            refine g_iconst (q := 71) (v := (2 : Int32)) X0.here hx (hb hby d6_70) rfl rfl ?_
            refine g_iushr (q := 72) X0.here hx (hb hby d6_71) rfl ?_
            refine g_istoreN (q := 73) (L' := #[.val (.int ((ni.toUInt32 >>> ((2 : Int32) &&& 31).toUInt32).toInt32)), .val (.int (29 : Int32))]) X0.here hx (hb hby d6_72) rfl rfl ?_
            refine g_iloadN (q := 74) X0.here hx (hb hby d6_73) rfl rfl ?_
            refine g_iloadN (q := 75) X0.here hx (hb hby d6_74) rfl rfl ?_
            refine g_iconst (q := 76) (v := (1 : Int32)) X0.here hx (hb hby d6_75) rfl rfl ?_
            refine g_iushr (q := 77) X0.here hx (hb hby d6_76) rfl ?_
            refine g_isub (q := 78) X0.here hx (hb hby d6_77) rfl ?_
            exact g_ireturn X0 hx hlk hrt (hb hby d6_78) (by decide) (by decide) ⟨_, rfl, (show (ni.toInt < 0 ∧ ((29 : Int32) - ((((ni.toUInt32 >>> ((2 : Int32) &&& 31).toUInt32).toInt32).toUInt32 >>> ((1 : Int32) &&& 31).toUInt32).toInt32)).toInt = 0) ∨ (ni.toInt = 0 ∧ ((29 : Int32) - ((((ni.toUInt32 >>> ((2 : Int32) &&& 31).toUInt32).toInt32).toUInt32 >>> ((1 : Int32) &&& 31).toUInt32).toInt32)).toInt = 32) ∨ (∃ k : Nat, k ≤ 30 ∧ ((29 : Int32) - ((((ni.toUInt32 >>> ((2 : Int32) &&& 31).toUInt32).toInt32).toUInt32 >>> ((1 : Int32) &&& 31).toUInt32).toInt32)).toInt = 31 - (k : Int) ∧ (2 : Int) ^ k ≤ ni.toInt ∧ ni.toInt < 2 ^ (k + 1)) by (try simp only [Int32.reduceToInt, Int64.reduceToInt, true_and, and_true, not_true_eq_false, not_false_eq_true, false_and, or_false, false_or] at c1); (try simp only [Int32.reduceToInt, Int64.reduceToInt, true_and, and_true, not_true_eq_false, not_false_eq_true, false_and, or_false, false_or] at c2); (try simp only [Int32.reduceToInt, Int64.reduceToInt, true_and, and_true, not_true_eq_false, not_false_eq_true, false_and, or_false, false_or] at c3); (try simp only [Int32.reduceToInt, Int64.reduceToInt, true_and, and_true, not_true_eq_false, not_false_eq_true, false_and, or_false, false_or] at c4); (try simp only [Int32.reduceToInt, Int64.reduceToInt, true_and, and_true, not_true_eq_false, not_false_eq_true, false_and, or_false, false_or] at c5); have f1 := rng32 ni; (try simp only [Int32.reduceToInt, Int64.reduceToInt] at f1); have f5 := rng32 ((ni.toUInt32 >>> ((2 : Int32) &&& 31).toUInt32).toInt32); (try simp only [Int32.reduceToInt, Int64.reduceToInt] at f5); have f6 := c_iushr ni (2 : Int32) 2 (by decide) (by decide); (try simp only [Int32.reduceToInt, Int64.reduceToInt] at f6); (try have f6e : ((ni.toUInt32 >>> ((2 : Int32) &&& 31).toUInt32).toInt32).toInt = ni.toInt / 4 := (by omega)); have f7 := rng32 ((((ni.toUInt32 >>> ((2 : Int32) &&& 31).toUInt32).toInt32).toUInt32 >>> ((1 : Int32) &&& 31).toUInt32).toInt32); (try simp only [Int32.reduceToInt, Int64.reduceToInt] at f7); have f8 := c_iushr ((ni.toUInt32 >>> ((2 : Int32) &&& 31).toUInt32).toInt32) (1 : Int32) 1 (by decide) (by decide); (try simp only [Int32.reduceToInt, Int64.reduceToInt] at f8); (try have f8e : ((((ni.toUInt32 >>> ((2 : Int32) &&& 31).toUInt32).toInt32).toUInt32 >>> ((1 : Int32) &&& 31).toUInt32).toInt32).toInt = ((ni.toUInt32 >>> ((2 : Int32) &&& 31).toUInt32).toInt32).toInt / 2 := (by omega)); have f9 := rng32 ((29 : Int32) - ((((ni.toUInt32 >>> ((2 : Int32) &&& 31).toUInt32).toInt32).toUInt32 >>> ((1 : Int32) &&& 31).toUInt32).toInt32)); (try simp only [Int32.reduceToInt, Int64.reduceToInt] at f9); have f10 := c_isub (29 : Int32) ((((ni.toUInt32 >>> ((2 : Int32) &&& 31).toUInt32).toInt32).toUInt32 >>> ((1 : Int32) &&& 31).toUInt32).toInt32); (try simp only [Int32.reduceToInt, Int64.reduceToInt] at f10); (try have f10e : ((29 : Int32) - ((((ni.toUInt32 >>> ((2 : Int32) &&& 31).toUInt32).toInt32).toUInt32 >>> ((1 : Int32) &&& 31).toUInt32).toInt32)).toInt = (29 : Int) - ((((ni.toUInt32 >>> ((2 : Int32) &&& 31).toUInt32).toInt32).toUInt32 >>> ((1 : Int32) &&& 31).toUInt32).toInt32).toInt := (by omega)); (try simp only [Int32.reduceToInt, Int64.reduceToInt, and_true, true_and, or_true, true_or]); skip; have hu : ((((ni.toUInt32 >>> ((2 : Int32) &&& 31).toUInt32).toInt32).toUInt32 >>> ((1 : Int32) &&& 31).toUInt32).toInt32).toInt = 0 ∨ ((((ni.toUInt32 >>> ((2 : Int32) &&& 31).toUInt32).toInt32).toUInt32 >>> ((1 : Int32) &&& 31).toUInt32).toInt32).toInt = 1 := (by omega); rcases hu with hu | hu; exact Or.inr (Or.inr ⟨2, by decide, by omega, by omega, by omega⟩); first | exact Or.inr (Or.inr ⟨3, by decide, by omega, by omega, by omega⟩) | (exfalso; omega)), e0, rfl⟩
        · intro c4
          refine g_iinc (q := 57) (v := (27 : Int32)) (L' := #[.val (.int ni), .val (.int (27 : Int32))]) X0.here hx (hb hby d6_54) rfl rfl rfl rfl ?_
          refine g_iloadN (q := 58) X0.here hx (hb hby d6_57) rfl rfl ?_
          refine g_iconst (q := 59) (v := (4 : Int32)) X0.here hx (hb hby d6_58) rfl rfl ?_
          refine g_iushr (q := 60) X0.here hx (hb hby d6_59) rfl ?_
          refine g_istoreN (q := 61) (L' := #[.val (.int ((ni.toUInt32 >>> ((4 : Int32) &&& 31).toUInt32).toInt32)), .val (.int (27 : Int32))]) X0.here hx (hb hby d6_60) rfl rfl ?_
          refine g_iloadN (q := 62) X0.here hx (hb hby d6_61) rfl rfl ?_
          refine g_iconst (q := 63) (v := (4 : Int32)) X0.here hx (hb hby d6_62) rfl rfl ?_
          refine g_icmp_lt (q := 73) (q0 := 66) X0.here hx (hb hby d6_63) (by decide) (by decide) rfl ?_ ?_
          · intro c6
            refine g_iloadN (q := 74) X0.here hx (hb hby d6_73) rfl rfl ?_
            refine g_iloadN (q := 75) X0.here hx (hb hby d6_74) rfl rfl ?_
            refine g_iconst (q := 76) (v := (1 : Int32)) X0.here hx (hb hby d6_75) rfl rfl ?_
            refine g_iushr (q := 77) X0.here hx (hb hby d6_76) rfl ?_
            refine g_isub (q := 78) X0.here hx (hb hby d6_77) rfl ?_
            exact g_ireturn X0 hx hlk hrt (hb hby d6_78) (by decide) (by decide) ⟨_, rfl, (show (ni.toInt < 0 ∧ ((27 : Int32) - ((((ni.toUInt32 >>> ((4 : Int32) &&& 31).toUInt32).toInt32).toUInt32 >>> ((1 : Int32) &&& 31).toUInt32).toInt32)).toInt = 0) ∨ (ni.toInt = 0 ∧ ((27 : Int32) - ((((ni.toUInt32 >>> ((4 : Int32) &&& 31).toUInt32).toInt32).toUInt32 >>> ((1 : Int32) &&& 31).toUInt32).toInt32)).toInt = 32) ∨ (∃ k : Nat, k ≤ 30 ∧ ((27 : Int32) - ((((ni.toUInt32 >>> ((4 : Int32) &&& 31).toUInt32).toInt32).toUInt32 >>> ((1 : Int32) &&& 31).toUInt32).toInt32)).toInt = 31 - (k : Int) ∧ (2 : Int) ^ k ≤ ni.toInt ∧ ni.toInt < 2 ^ (k + 1)) by (try simp only [Int32.reduceToInt, Int64.reduceToInt, true_and, and_true, not_true_eq_false, not_false_eq_true, false_and, or_false, false_or] at c1); (try simp only [Int32.reduceToInt, Int64.reduceToInt, true_and, and_true, not_true_eq_false, not_false_eq_true, false_and, or_false, false_or] at c2); (try simp only [Int32.reduceToInt, Int64.reduceToInt, true_and, and_true, not_true_eq_false, not_false_eq_true, false_and, or_false, false_or] at c3); (try simp only [Int32.reduceToInt, Int64.reduceToInt, true_and, and_true, not_true_eq_false, not_false_eq_true, false_and, or_false, false_or] at c4); (try simp only [Int32.reduceToInt, Int64.reduceToInt, true_and, and_true, not_true_eq_false, not_false_eq_true, false_and, or_false, false_or] at c6); have f1 := rng32 ni; (try simp only [Int32.reduceToInt, Int64.reduceToInt] at f1); have f3 := rng32 ((ni.toUInt32 >>> ((4 : Int32) &&& 31).toUInt32).toInt32); (try simp only [Int32.reduceToInt, Int64.reduceToInt] at f3); have f4 := c_iushr ni (4 : Int32) 4 (by decide) (by decide); (try simp only [Int32.reduceToInt, Int64.reduceToInt] at f4); (try have f4e : ((ni.toUInt32 >>> ((4 : Int32) &&& 31).toUInt32).toInt32).toInt = ni.toInt / 16 := (by omega)); have f7 := rng32 ((((ni.toUInt32 >>> ((4 : Int32) &&& 31).toUInt32).toInt32).toUInt32 >>> ((1 : Int32) &&& 31).toUInt32).toInt32); (try simp only [Int32.reduceToInt, Int64.reduceToInt] at f7); have f8 := c_iushr ((ni.toUInt32 >>> ((4 : Int32) &&& 31).toUInt32).toInt32) (1 : Int32) 1 (by decide) (by decide); (try simp only [Int32.reduceToInt, Int64.reduceToInt] at f8); (try have f8e : ((((ni.toUInt32 >>> ((4 : Int32) &&& 31).toUInt32).toInt32).toUInt32 >>> ((1 : Int32) &&& 31).toUInt32).toInt32).toInt = ((ni.toUInt32 >>> ((4 : Int32) &&& 31).toUInt32).toInt32).toInt / 2 := (by omega)); have f9 := rng32 ((27 : Int32) - ((((ni.toUInt32 >>> ((4 : Int32) &&& 31).toUInt32).toInt32).toUInt32 >>> ((1 : Int32) &&& 31).toUInt32).toInt32)); (try simp only [Int32.reduceToInt, Int64.reduceToInt] at f9); have f10 := c_isub (27 : Int32) ((((ni.toUInt32 >>> ((4 : Int32) &&& 31).toUInt32).toInt32).toUInt32 >>> ((1 : Int32) &&& 31).toUInt32).toInt32); (try simp only [Int32.reduceToInt, Int64.reduceToInt] at f10); (try have f10e : ((27 : Int32) - ((((ni.toUInt32 >>> ((4 : Int32) &&& 31).toUInt32).toInt32).toUInt32 >>> ((1 : Int32) &&& 31).toUInt32).toInt32)).toInt = (27 : Int) - ((((ni.toUInt32 >>> ((4 : Int32) &&& 31).toUInt32).toInt32).toUInt32 >>> ((1 : Int32) &&& 31).toUInt32).toInt32).toInt := (by omega)); (try simp only [Int32.reduceToInt, Int64.reduceToInt, and_true, true_and, or_true, true_or]); skip; have hu : ((((ni.toUInt32 >>> ((4 : Int32) &&& 31).toUInt32).toInt32).toUInt32 >>> ((1 : Int32) &&& 31).toUInt32).toInt32).toInt = 0 ∨ ((((ni.toUInt32 >>> ((4 : Int32) &&& 31).toUInt32).toInt32).toUInt32 >>> ((1 : Int32) &&& 31).toUInt32).toInt32).toInt = 1 := (by omega); rcases hu with hu | hu; exact Or.inr (Or.inr ⟨4, by decide, by omega, by omega, by omega⟩); first | exact Or.inr (Or.inr ⟨5, by decide, by omega, by omega, by omega⟩) | (exfalso; omega)), e0, rfl⟩
          · intro c6
            refine g_iinc (q := 69) (v := (25 : Int32)) (L' := #[.val (.int ((ni.toUInt32 >>> ((4 : Int32) &&& 31).toUInt32).toInt32)), .val (.int (25 : Int32))]) X0.here hx (hb hby d6_66) rfl rfl rfl rfl ?_
            refine g_iloadN (q := 70) X0.here hx (hb hby d6_69) rfl rfl ?_
            refine g_iconst (q := 71) (v := (2 : Int32)) X0.here hx (hb hby d6_70) rfl rfl ?_
            refine g_iushr (q := 72) X0.here hx (hb hby d6_71) rfl ?_
            generalize hv_v7 : ((((ni.toUInt32 >>> ((4 : Int32) &&& 31).toUInt32).toInt32).toUInt32 >>> ((2 : Int32) &&& 31).toUInt32).toInt32) = v7
            refine g_istoreN (q := 73) (L' := #[.val (.int v7), .val (.int (25 : Int32))]) X0.here hx (hb hby d6_72) rfl rfl ?_
            refine g_iloadN (q := 74) X0.here hx (hb hby d6_73) rfl rfl ?_
            refine g_iloadN (q := 75) X0.here hx (hb hby d6_74) rfl rfl ?_
            refine g_iconst (q := 76) (v := (1 : Int32)) X0.here hx (hb hby d6_75) rfl rfl ?_
            refine g_iushr (q := 77) X0.here hx (hb hby d6_76) rfl ?_
            refine g_isub (q := 78) X0.here hx (hb hby d6_77) rfl ?_
            exact g_ireturn X0 hx hlk hrt (hb hby d6_78) (by decide) (by decide) ⟨_, rfl, (show (ni.toInt < 0 ∧ ((25 : Int32) - ((v7.toUInt32 >>> ((1 : Int32) &&& 31).toUInt32).toInt32)).toInt = 0) ∨ (ni.toInt = 0 ∧ ((25 : Int32) - ((v7.toUInt32 >>> ((1 : Int32) &&& 31).toUInt32).toInt32)).toInt = 32) ∨ (∃ k : Nat, k ≤ 30 ∧ ((25 : Int32) - ((v7.toUInt32 >>> ((1 : Int32) &&& 31).toUInt32).toInt32)).toInt = 31 - (k : Int) ∧ (2 : Int) ^ k ≤ ni.toInt ∧ ni.toInt < 2 ^ (k + 1)) by (try simp only [Int32.reduceToInt, Int64.reduceToInt, true_and, and_true, not_true_eq_false, not_false_eq_true, false_and, or_false, false_or] at c1); (try simp only [Int32.reduceToInt, Int64.reduceToInt, true_and, and_true, not_true_eq_false, not_false_eq_true, false_and, or_false, false_or] at c2); (try simp only [Int32.reduceToInt, Int64.reduceToInt, true_and, and_true, not_true_eq_false, not_false_eq_true, false_and, or_false, false_or] at c3); (try simp only [Int32.reduceToInt, Int64.reduceToInt, true_and, and_true, not_true_eq_false, not_false_eq_true, false_and, or_false, false_or] at c4); (try simp only [Int32.reduceToInt, Int64.reduceToInt, true_and, and_true, not_true_eq_false, not_false_eq_true, false_and, or_false, false_or] at c6); (try simp only [Int32.reduceToInt, Int64.reduceToInt, true_and, and_true, not_true_eq_false, not_false_eq_true, false_and, or_false, false_or] at hv_v7); have f1 := rng32 ni; (try simp only [Int32.reduceToInt, Int64.reduceToInt] at f1); have f3 := rng32 ((ni.toUInt32 >>> ((4 : Int32) &&& 31).toUInt32).toInt32); (try simp only [Int32.reduceToInt, Int64.reduceToInt] at f3); have f4 := c_iushr ni (4 : Int32) 4 (by decide) (by decide); (try simp only [Int32.reduceToInt, Int64.reduceToInt] at f4); (try have f4e : ((ni.toUInt32 >>> ((4 : Int32) &&& 31).toUInt32).toInt32).toInt = ni.toInt / 16 := (by omega)); have f9 := rng32 ((((ni.toUInt32 >>> ((4 : Int32) &&& 31).toUInt32).toInt32).toUInt32 >>> ((2 : Int32) &&& 31).toUInt32).toInt32); (try simp only [Int32.reduceToInt, Int64.reduceToInt] at f9); have f10 := c_iushr ((ni.toUInt32 >>> ((4 : Int32) &&& 31).toUInt32).toInt32) (2 : Int32) 2 (by decide) (by decide); (try simp only [Int32.reduceToInt, Int64.reduceToInt] at f10); (try have f10e : ((((ni.toUInt32 >>> ((4 : Int32) &&& 31).toUInt32).toInt32).toUInt32 >>> ((2 : Int32) &&& 31).toUInt32).toInt32).toInt = ((ni.toUInt32 >>> ((4 : Int32) &&& 31).toUInt32).toInt32).toInt / 4 := (by omega)); have f11 := congrArg Int32.toInt hv_v7; (try simp only [Int32.reduceToInt, Int64.reduceToInt] at f11); have f12 := rng32 v7; (try simp only [Int32.reduceToInt, Int64.reduceToInt] at f12); have f13 := rng32 ((v7.toUInt32 >>> ((1 : Int32) &&& 31).toUInt32).toInt32); (try simp only [Int32.reduceToInt, Int64.reduceToInt] at f13); have f14 := c_iushr v7 (1 : Int32) 1 (by decide) (by decide); (try simp only [Int32.reduceToInt, Int64.reduceToInt] at f14); (try have f14e : ((v7.toUInt32 >>> ((1 : Int32) &&& 31).toUInt32).toInt32).toInt = v7.toInt / 2 := (by omega)); have f15 := rng32 ((25 : Int32) - ((v7.toUInt32 >>> ((1 : Int32) &&& 31).toUInt32).toInt32)); (try simp only [Int32.reduceToInt, Int64.reduceToInt] at f15); have f16 := c_isub (25 : Int32) ((v7.toUInt32 >>> ((1 : Int32) &&& 31).toUInt32).toInt32); (try simp only [Int32.reduceToInt, Int64.reduceToInt] at f16); (try have f16e : ((25 : Int32) - ((v7.toUInt32 >>> ((1 : Int32) &&& 31).toUInt32).toInt32)).toInt = (25 : Int) - ((v7.toUInt32 >>> ((1 : Int32) &&& 31).toUInt32).toInt32).toInt := (by omega)); (try simp only [Int32.reduceToInt, Int64.reduceToInt, and_true, true_and, or_true, true_or]); skip; have hu : ((v7.toUInt32 >>> ((1 : Int32) &&& 31).toUInt32).toInt32).toInt = 0 ∨ ((v7.toUInt32 >>> ((1 : Int32) &&& 31).toUInt32).toInt32).toInt = 1 := (by omega); rcases hu with hu | hu; exact Or.inr (Or.inr ⟨6, by decide, by omega, by omega, by omega⟩); first | exact Or.inr (Or.inr ⟨7, by decide, by omega, by omega, by omega⟩) | (exfalso; omega)), e0, rfl⟩
      · intro c3
        refine g_iinc (q := 43) (v := (23 : Int32)) (L' := #[.val (.int ni), .val (.int (23 : Int32))]) X0.here hx (hb hby d6_40) rfl rfl rfl rfl ?_
        refine g_iloadN (q := 44) X0.here hx (hb hby d6_43) rfl rfl ?_
        refine g_bipush (q := 46) (v := (8 : Int32)) X0.here hx (hb hby d6_44) rfl rfl ?_
        refine g_iushr (q := 47) X0.here hx (hb hby d6_46) rfl ?_
        refine g_istoreN (q := 48) (L' := #[.val (.int ((ni.toUInt32 >>> ((8 : Int32) &&& 31).toUInt32).toInt32)), .val (.int (23 : Int32))]) X0.here hx (hb hby d6_47) rfl rfl ?_
        refine g_iloadN (q := 49) X0.here hx (hb hby d6_48) rfl rfl ?_
        refine g_bipush (q := 51) (v := (16 : Int32)) X0.here hx (hb hby d6_49) rfl rfl ?_
        refine g_icmp_lt (q := 61) (q0 := 54) X0.here hx (hb hby d6_51) (by decide) (by decide) rfl ?_ ?_
        · intro c8
          refine g_iloadN (q := 62) X0.here hx (hb hby d6_61) rfl rfl ?_
          refine g_iconst (q := 63) (v := (4 : Int32)) X0.here hx (hb hby d6_62) rfl rfl ?_
          refine g_icmp_lt (q := 73) (q0 := 66) X0.here hx (hb hby d6_63) (by decide) (by decide) rfl ?_ ?_
          · intro c9
            refine g_iloadN (q := 74) X0.here hx (hb hby d6_73) rfl rfl ?_
            refine g_iloadN (q := 75) X0.here hx (hb hby d6_74) rfl rfl ?_
            refine g_iconst (q := 76) (v := (1 : Int32)) X0.here hx (hb hby d6_75) rfl rfl ?_
            refine g_iushr (q := 77) X0.here hx (hb hby d6_76) rfl ?_
            refine g_isub (q := 78) X0.here hx (hb hby d6_77) rfl ?_
            exact g_ireturn X0 hx hlk hrt (hb hby d6_78) (by decide) (by decide) ⟨_, rfl, (show (ni.toInt < 0 ∧ ((23 : Int32) - ((((ni.toUInt32 >>> ((8 : Int32) &&& 31).toUInt32).toInt32).toUInt32 >>> ((1 : Int32) &&& 31).toUInt32).toInt32)).toInt = 0) ∨ (ni.toInt = 0 ∧ ((23 : Int32) - ((((ni.toUInt32 >>> ((8 : Int32) &&& 31).toUInt32).toInt32).toUInt32 >>> ((1 : Int32) &&& 31).toUInt32).toInt32)).toInt = 32) ∨ (∃ k : Nat, k ≤ 30 ∧ ((23 : Int32) - ((((ni.toUInt32 >>> ((8 : Int32) &&& 31).toUInt32).toInt32).toUInt32 >>> ((1 : Int32) &&& 31).toUInt32).toInt32)).toInt = 31 - (k : Int) ∧ (2 : Int) ^ k ≤ ni.toInt ∧ ni.toInt < 2 ^ (k + 1)) by (try simp only [Int32.reduceToInt, Int64.reduceToInt, true_and, and_true, not_true_eq_false, not_false_eq_true, false_and, or_false, false_or] at c1); (try simp only [Int32.reduceToInt, Int64.reduceToInt, true_and, and_true, not_true_eq_false, not_false_eq_true, false_and, or_false, false_or] at c2); (try simp only [Int32.reduceToInt, Int64.reduceToInt, true_and, and_true, not_true_eq_false, not_false_eq_true, false_and, or_false, false_or] at c3); (try simp only [Int32.reduceToInt, Int64.reduceToInt, true_and, and_true, not_true_eq_false, not_false_eq_true, false_and, or_false, false_or] at c8); (try simp only [Int32.reduceToInt, Int64.reduceToInt, true_and, and_true, not_true_eq_false, not_false_eq_true, false_and, or_false, false_or] at c9); have f1 := rng32 ni; (try simp only [Int32.reduceToInt, Int64.reduceToInt] at f1); have f3 := rng32 ((ni.toUInt32 >>> ((8 : Int32) &&& 31).toUInt32).toInt32); (try simp only [Int32.reduceToInt, Int64.reduceToInt] at f3); have f4 := c_iushr ni (8 : Int32) 8 (by decide) (by decide); (try simp only [Int32.reduceToInt, Int64.reduceToInt] at f4); (try have f4e : ((ni.toUInt32 >>> ((8 : Int32) &&& 31).toUInt32).toInt32).toInt = ni.toInt / 256 := (by omega)); have f7 := rng32 ((((ni.toUInt32 >>> ((8 : Int32) &&& 31).toUInt32).toInt32).toUInt32 >>> ((1 : Int32) &&& 31).toUInt32).toInt32); (try simp only [Int32.reduceToInt, Int64.reduceToInt] at f7); have f8 := c_iushr ((ni.toUInt32 >>> ((8 : Int32) &&& 31).toUInt32).toInt32) (1 : Int32) 1 (by decide) (by decide); (try simp only [Int32.reduceToInt, Int64.reduceToInt] at f8); (try have f8e : ((((ni.toUInt32 >>> ((8 : Int32) &&& 31).toUInt32).toInt32).toUInt32 >>> ((1 : Int32) &&& 31).toUInt32).toInt32).toInt = ((ni.toUInt32 >>> ((8 : Int32) &&& 31).toUInt32).toInt32).toInt / 2 := (by omega)); have f9 := rng32 ((23 : Int32) - ((((ni.toUInt32 >>> ((8 : Int32) &&& 31).toUInt32).toInt32).toUInt32 >>> ((1 : Int32) &&& 31).toUInt32).toInt32)); (try simp only [Int32.reduceToInt, Int64.reduceToInt] at f9); have f10 := c_isub (23 : Int32) ((((ni.toUInt32 >>> ((8 : Int32) &&& 31).toUInt32).toInt32).toUInt32 >>> ((1 : Int32) &&& 31).toUInt32).toInt32); (try simp only [Int32.reduceToInt, Int64.reduceToInt] at f10); (try have f10e : ((23 : Int32) - ((((ni.toUInt32 >>> ((8 : Int32) &&& 31).toUInt32).toInt32).toUInt32 >>> ((1 : Int32) &&& 31).toUInt32).toInt32)).toInt = (23 : Int) - ((((ni.toUInt32 >>> ((8 : Int32) &&& 31).toUInt32).toInt32).toUInt32 >>> ((1 : Int32) &&& 31).toUInt32).toInt32).toInt := (by omega)); (try simp only [Int32.reduceToInt, Int64.reduceToInt, and_true, true_and, or_true, true_or]); skip; have hu : ((((ni.toUInt32 >>> ((8 : Int32) &&& 31).toUInt32).toInt32).toUInt32 >>> ((1 : Int32) &&& 31).toUInt32).toInt32).toInt = 0 ∨ ((((ni.toUInt32 >>> ((8 : Int32) &&& 31).toUInt32).toInt32).toUInt32 >>> ((1 : Int32) &&& 31).toUInt32).toInt32).toInt = 1 := (by omega); rcases hu with hu | hu; exact Or.inr (Or.inr ⟨8, by decide, by omega, by omega, by omega⟩); first | exact Or.inr (Or.inr ⟨9, by decide, by omega, by omega, by omega⟩) | (exfalso; omega)), e0, rfl⟩
          · intro c9
            refine g_iinc (q := 69) (v := (21 : Int32)) (L' := #[.val (.int ((ni.toUInt32 >>> ((8 : Int32) &&& 31).toUInt32).toInt32)), .val (.int (21 : Int32))]) X0.here hx (hb hby d6_66) rfl rfl rfl rfl ?_
            refine g_iloadN (q := 70) X0.here hx (hb hby d6_69) rfl rfl ?_
            refine g_iconst (q := 71) (v := (2 : Int32)) X0.here hx (hb hby d6_70) rfl rfl ?_
            refine g_iushr (q := 72) X0.here hx (hb hby d6_71) rfl ?_
            generalize hv_v10 : ((((ni.toUInt32 >>> ((8 : Int32) &&& 31).toUInt32).toInt32).toUInt32 >>> ((2 : Int32) &&& 31).toUInt32).toInt32) = v10
            refine g_istoreN (q := 73) (L' := #[.val (.int v10), .val (.int (21 : Int32))]) X0.here hx (hb hby d6_72) rfl rfl ?_
            refine g_iloadN (q := 74) X0.here hx (hb hby d6_73) rfl rfl ?_
            refine g_iloadN (q := 75) X0.here hx (hb hby d6_74) rfl rfl ?_
            refine g_iconst (q := 76) (v := (1 : Int32)) X0.here hx (hb hby d6_75) rfl rfl ?_
            refine g_iushr (q := 77) X0.here hx (hb hby d6_76) rfl ?_
            refine g_isub (q := 78) X0.here hx (hb hby d6_77) rfl ?_
            exact g_ireturn X0 hx hlk hrt (hb hby d6_78) (by decide) (by decide) ⟨_, rfl, (show (ni.toInt < 0 ∧ ((21 : Int32) - ((v10.toUInt32 >>> ((1 : Int32) &&& 31).toUInt32).toInt32)).toInt = 0) ∨ (ni.toInt = 0 ∧ ((21 : Int32) - ((v10.toUInt32 >>> ((1 : Int32) &&& 31).toUInt32).toInt32)).toInt = 32) ∨ (∃ k : Nat, k ≤ 30 ∧ ((21 : Int32) - ((v10.toUInt32 >>> ((1 : Int32) &&& 31).toUInt32).toInt32)).toInt = 31 - (k : Int) ∧ (2 : Int) ^ k ≤ ni.toInt ∧ ni.toInt < 2 ^ (k + 1)) by (try simp only [Int32.reduceToInt, Int64.reduceToInt, true_and, and_true, not_true_eq_false, not_false_eq_true, false_and, or_false, false_or] at c1); (try simp only [Int32.reduceToInt, Int64.reduceToInt, true_and, and_true, not_true_eq_false, not_false_eq_true, false_and, or_false, false_or] at c2); (try simp only [Int32.reduceToInt, Int64.reduceToInt, true_and, and_true, not_true_eq_false, not_false_eq_true, false_and, or_false, false_or] at c3); (try simp only [Int32.reduceToInt, Int64.reduceToInt, true_and, and_true, not_true_eq_false, not_false_eq_true, false_and, or_false, false_or] at c8); (try simp only [Int32.reduceToInt, Int64.reduceToInt, true_and, and_true, not_true_eq_false, not_false_eq_true, false_and, or_false, false_or] at c9); (try simp only [Int32.reduceToInt, Int64.reduceToInt, true_and, and_true, not_true_eq_false, not_false_eq_true, false_and, or_false, false_or] at hv_v10); have f1 := rng32 ni; (try simp only [Int32.reduceToInt, Int64.reduceToInt] at f1); have f3 := rng32 ((ni.toUInt32 >>> ((8 : Int32) &&& 31).toUInt32).toInt32); (try simp only [Int32.reduceToInt, Int64.reduceToInt] at f3); have f4 := c_iushr ni (8 : Int32) 8 (by decide) (by decide); (try simp only [Int32.reduceToInt, Int64.reduceToInt] at f4); (try have f4e : ((ni.toUInt32 >>> ((8 : Int32) &&& 31).toUInt32).toInt32).toInt = ni.toInt / 256 := (by omega)); have f9 := rng32 ((((ni.toUInt32 >>> ((8 : Int32) &&& 31).toUInt32).toInt32).toUInt32 >>> ((2 : Int32) &&& 31).toUInt32).toInt32); (try simp only [Int32.reduceToInt, Int64.reduceToInt] at f9); have f10 := c_iushr ((ni.toUInt32 >>> ((8 : Int32) &&& 31).toUInt32).toInt32) (2 : Int32) 2 (by decide) (by decide); (try simp only [Int32.reduceToInt, Int64.reduceToInt] at f10); (try have f10e : ((((ni.toUInt32 >>> ((8 : Int32) &&& 31).toUInt32).toInt32).toUInt32 >>> ((2 : Int32) &&& 31).toUInt32).toInt32).toInt = ((ni.toUInt32 >>> ((8 : Int32) &&& 31).toUInt32).toInt32).toInt / 4 := (by omega)); have f11 := congrArg Int32.toInt hv_v10; (try simp only [Int32.reduceToInt, Int64.reduceToInt] at f11); have f12 := rng32 v10; (try simp only [Int32.reduceToInt, Int64.reduceToInt] at f12); have f13 := rng32 ((v10.toUInt32 >>> ((1 : Int32) &&& 31).toUInt32).toInt32); (try simp only [Int32.reduceToInt, Int64.reduceToInt] at f13); have f14 := c_iushr v10 (1 : Int32) 1 (by decide) (by decide); (try simp only [Int32.reduceToInt, Int64.reduceToInt] at f14); (try have f14e : ((v10.toUInt32 >>> ((1 : Int32) &&& 31).toUInt32).toInt32).toInt = v10.toInt / 2 := (by omega)); have f15 := rng32 ((21 : Int32) - ((v10.toUInt32 >>> ((1 : Int32) &&& 31).toUInt32).toInt32)); (try simp only [Int32.reduceToInt, Int64.reduceToInt] at f15); have f16 := c_isub (21 : Int32) ((v10.toUInt32 >>> ((1 : Int32) &&& 31).toUInt32).toInt32); (try simp only [Int32.reduceToInt, Int64.reduceToInt] at f16); (try have f16e : ((21 : Int32) - ((v10.toUInt32 >>> ((1 : Int32) &&& 31).toUInt32).toInt32)).toInt = (21 : Int) - ((v10.toUInt32 >>> ((1 : Int32) &&& 31).toUInt32).toInt32).toInt := (by omega)); (try simp only [Int32.reduceToInt, Int64.reduceToInt, and_true, true_and, or_true, true_or]); skip; have hu : ((v10.toUInt32 >>> ((1 : Int32) &&& 31).toUInt32).toInt32).toInt = 0 ∨ ((v10.toUInt32 >>> ((1 : Int32) &&& 31).toUInt32).toInt32).toInt = 1 := (by omega); rcases hu with hu | hu; exact Or.inr (Or.inr ⟨10, by decide, by omega, by omega, by omega⟩); first | exact Or.inr (Or.inr ⟨11, by decide, by omega, by omega, by omega⟩) | (exfalso; omega)), e0, rfl⟩
        · intro c8
          refine g_iinc (q := 57) (v := (19 : Int32)) (L' := #[.val (.int ((ni.toUInt32 >>> ((8 : Int32) &&& 31).toUInt32).toInt32)), .val (.int (19 : Int32))]) X0.here hx (hb hby d6_54) rfl rfl rfl rfl ?_
          refine g_iloadN (q := 58) X0.here hx (hb hby d6_57) rfl rfl ?_
          refine g_iconst (q := 59) (v := (4 : Int32)) X0.here hx (hb hby d6_58) rfl rfl ?_
          refine g_iushr (q := 60) X0.here hx (hb hby d6_59) rfl ?_
          generalize hv_v11 : ((((ni.toUInt32 >>> ((8 : Int32) &&& 31).toUInt32).toInt32).toUInt32 >>> ((4 : Int32) &&& 31).toUInt32).toInt32) = v11
          refine g_istoreN (q := 61) (L' := #[.val (.int v11), .val (.int (19 : Int32))]) X0.here hx (hb hby d6_60) rfl rfl ?_
          refine g_iloadN (q := 62) X0.here hx (hb hby d6_61) rfl rfl ?_
          refine g_iconst (q := 63) (v := (4 : Int32)) X0.here hx (hb hby d6_62) rfl rfl ?_
          refine g_icmp_lt (q := 73) (q0 := 66) X0.here hx (hb hby d6_63) (by decide) (by decide) rfl ?_ ?_
          · intro c12
            refine g_iloadN (q := 74) X0.here hx (hb hby d6_73) rfl rfl ?_
            refine g_iloadN (q := 75) X0.here hx (hb hby d6_74) rfl rfl ?_
            refine g_iconst (q := 76) (v := (1 : Int32)) X0.here hx (hb hby d6_75) rfl rfl ?_
            refine g_iushr (q := 77) X0.here hx (hb hby d6_76) rfl ?_
            refine g_isub (q := 78) X0.here hx (hb hby d6_77) rfl ?_
            exact g_ireturn X0 hx hlk hrt (hb hby d6_78) (by decide) (by decide) ⟨_, rfl, (show (ni.toInt < 0 ∧ ((19 : Int32) - ((v11.toUInt32 >>> ((1 : Int32) &&& 31).toUInt32).toInt32)).toInt = 0) ∨ (ni.toInt = 0 ∧ ((19 : Int32) - ((v11.toUInt32 >>> ((1 : Int32) &&& 31).toUInt32).toInt32)).toInt = 32) ∨ (∃ k : Nat, k ≤ 30 ∧ ((19 : Int32) - ((v11.toUInt32 >>> ((1 : Int32) &&& 31).toUInt32).toInt32)).toInt = 31 - (k : Int) ∧ (2 : Int) ^ k ≤ ni.toInt ∧ ni.toInt < 2 ^ (k + 1)) by (try simp only [Int32.reduceToInt, Int64.reduceToInt, true_and, and_true, not_true_eq_false, not_false_eq_true, false_and, or_false, false_or] at c1); (try simp only [Int32.reduceToInt, Int64.reduceToInt, true_and, and_true, not_true_eq_false, not_false_eq_true, false_and, or_false, false_or] at c2); (try simp only [Int32.reduceToInt, Int64.reduceToInt, true_and, and_true, not_true_eq_false, not_false_eq_true, false_and, or_false, false_or] at c3); (try simp only [Int32.reduceToInt, Int64.reduceToInt, true_and, and_true, not_true_eq_false, not_false_eq_true, false_and, or_false, false_or] at c8); (try simp only [Int32.reduceToInt, Int64.reduceToInt, true_and, and_true, not_true_eq_false, not_false_eq_true, false_and, or_false, false_or] at hv_v11); (try simp only [Int32.reduceToInt, Int64.reduceToInt, true_and, and_true, not_true_eq_false, not_false_eq_true, false_and, or_false, false_or] at c12); have f1 := rng32 ni; (try simp only [Int32.reduceToInt, Int64.reduceToInt] at f1); have f3 := rng32 ((ni.toUInt32 >>> ((8 : Int32) &&& 31).toUInt32).toInt32); (try simp only [Int32.reduceToInt, Int64.reduceToInt] at f3); have f4 := c_iushr ni (8 : Int32) 8 (by decide) (by decide); (try simp only [Int32.reduceToInt, Int64.reduceToInt] at f4); (try have f4e : ((ni.toUInt32 >>> ((8 : Int32) &&& 31).toUInt32).toInt32).toInt = ni.toInt / 256 := (by omega)); have f7 := rng32 ((((ni.toUInt32 >>> ((8 : Int32) &&& 31).toUInt32).toInt32).toUInt32 >>> ((4 : Int32) &&& 31).toUInt32).toInt32); (try simp only [Int32.reduceToInt, Int64.reduceToInt] at f7); have f8 := c_iushr ((ni.toUInt32 >>> ((8 : Int32) &&& 31).toUInt32).toInt32) (4 : Int32) 4 (by decide) (by decide); (try simp only [Int32.reduceToInt, Int64.reduceToInt] at f8); (try have f8e : ((((ni.toUInt32 >>> ((8 : Int32) &&& 31).toUInt32).toInt32).toUInt32 >>> ((4 : Int32) &&& 31).toUInt32).toInt32).toInt = ((ni.toUInt32 >>> ((8 : Int32) &&& 31).toUInt32).toInt32).toInt / 16 := (by omega)); have f9 := congrArg Int32.toInt hv_v11; (try simp only [Int32.reduceToInt, Int64.reduceToInt] at f9); have f10 := rng32 v11; (try simp only [Int32.reduceToInt, Int64.reduceToInt] at f10); have f13 := rng32 ((v11.toUInt32 >>> ((1 : Int32) &&& 31).toUInt32).toInt32); (try simp only [Int32.reduceToInt, Int64.reduceToInt] at f13); have f14 := c_iushr v11 (1 : Int32) 1 (by decide) (by decide); (try simp only [Int32.reduceToInt, Int64.reduceToInt] at f14); (try have f14e : ((v11.toUInt32 >>> ((1 : Int32) &&& 31).toUInt32).toInt32).toInt = v11.toInt / 2 := (by omega)); have f15 := rng32 ((19 : Int32) - ((v11.toUInt32 >>> ((1 : Int32) &&& 31).toUInt32).toInt32)); (try simp only [Int32.reduceToInt, Int64.reduceToInt] at f15); have f16 := c_isub (19 : Int32) ((v11.toUInt32 >>> ((1 : Int32) &&& 31).toUInt32).toInt32); (try simp only [Int32.reduceToInt, Int64.reduceToInt] at f16); (try have f16e : ((19 : Int32) - ((v11.toUInt32 >>> ((1 : Int32) &&& 31).toUInt32).toInt32)).toInt = (19 : Int) - ((v11.toUInt32 >>> ((1 : Int32) &&& 31).toUInt32).toInt32).toInt := (by omega)); (try simp only [Int32.reduceToInt, Int64.reduceToInt, and_true, true_and, or_true, true_or]); skip; have hu : ((v11.toUInt32 >>> ((1 : Int32) &&& 31).toUInt32).toInt32).toInt = 0 ∨ ((v11.toUInt32 >>> ((1 : Int32) &&& 31).toUInt32).toInt32).toInt = 1 := (by omega); rcases hu with hu | hu; exact Or.inr (Or.inr ⟨12, by decide, by omega, by omega, by omega⟩); first | exact Or.inr (Or.inr ⟨13, by decide, by omega, by omega, by omega⟩) | (exfalso; omega)), e0, rfl⟩
          · intro c12
            refine g_iinc (q := 69) (v := (17 : Int32)) (L' := #[.val (.int v11), .val (.int (17 : Int32))]) X0.here hx (hb hby d6_66) rfl rfl rfl rfl ?_
            refine g_iloadN (q := 70) X0.here hx (hb hby d6_69) rfl rfl ?_
            refine g_iconst (q := 71) (v := (2 : Int32)) X0.here hx (hb hby d6_70) rfl rfl ?_
            refine g_iushr (q := 72) X0.here hx (hb hby d6_71) rfl ?_
            refine g_istoreN (q := 73) (L' := #[.val (.int ((v11.toUInt32 >>> ((2 : Int32) &&& 31).toUInt32).toInt32)), .val (.int (17 : Int32))]) X0.here hx (hb hby d6_72) rfl rfl ?_
            refine g_iloadN (q := 74) X0.here hx (hb hby d6_73) rfl rfl ?_
            refine g_iloadN (q := 75) X0.here hx (hb hby d6_74) rfl rfl ?_
            refine g_iconst (q := 76) (v := (1 : Int32)) X0.here hx (hb hby d6_75) rfl rfl ?_
            refine g_iushr (q := 77) X0.here hx (hb hby d6_76) rfl ?_
            refine g_isub (q := 78) X0.here hx (hb hby d6_77) rfl ?_
            exact g_ireturn X0 hx hlk hrt (hb hby d6_78) (by decide) (by decide) ⟨_, rfl, (show (ni.toInt < 0 ∧ ((17 : Int32) - ((((v11.toUInt32 >>> ((2 : Int32) &&& 31).toUInt32).toInt32).toUInt32 >>> ((1 : Int32) &&& 31).toUInt32).toInt32)).toInt = 0) ∨ (ni.toInt = 0 ∧ ((17 : Int32) - ((((v11.toUInt32 >>> ((2 : Int32) &&& 31).toUInt32).toInt32).toUInt32 >>> ((1 : Int32) &&& 31).toUInt32).toInt32)).toInt = 32) ∨ (∃ k : Nat, k ≤ 30 ∧ ((17 : Int32) - ((((v11.toUInt32 >>> ((2 : Int32) &&& 31).toUInt32).toInt32).toUInt32 >>> ((1 : Int32) &&& 31).toUInt32).toInt32)).toInt = 31 - (k : Int) ∧ (2 : Int) ^ k ≤ ni.toInt ∧ ni.toInt < 2 ^ (k + 1)) by (try simp only [Int32.reduceToInt, Int64.reduceToInt, true_and, and_true, not_true_eq_false, not_false_eq_true, false_and, or_false, false_or] at c1); (try simp only [Int32.reduceToInt, Int64.reduceToInt, true_and, and_true, not_true_eq_false, not_false_eq_true, false_and, or_false, false_or] at c2); (try simp only [Int32.reduceToInt, Int64.reduceToInt, true_and, and_true, not_true_eq_false, not_false_eq_true, false_and, or_false, false_or] at c3); (try simp only [Int32.reduceToInt, Int64.reduceToInt, true_and, and_true, not_true_eq_false, not_false_eq_true, false_and, or_false, false_or] at c8); (try simp only [Int32.reduceToInt, Int64.reduceToInt, true_and, and_true, not_true_eq_false, not_false_eq_true, false_and, or_false, false_or] at hv_v11); (try simp only [Int32.reduceToInt, Int64.reduceToInt, true_and, and_true, not_true_eq_false, not_false_eq_true, false_and, or_false, false_or] at c12); have f1 := rng32 ni; (try simp only [Int32.reduceToInt, Int64.reduceToInt] at f1); have f3 := rng32 ((ni.toUInt32 >>> ((8 : Int32) &&& 31).toUInt32).toInt32); (try simp only [Int32.reduceToInt, Int64.reduceToInt] at f3); have f4 := c_iushr ni (8 : Int32) 8 (by decide) (by decide); (try simp only [Int32.reduceToInt, Int64.reduceToInt] at f4); (try have f4e : ((ni.toUInt32 >>> ((8 : Int32) &&& 31).toUInt32).toInt32).toInt = ni.toInt / 256 := (by omega)); have f7 := rng32 ((((ni.toUInt32 >>> ((8 : Int32) &&& 31).toUInt32).toInt32).toUInt32 >>> ((4 : Int32) &&& 31).toUInt32).toInt32); (try simp only [Int32.reduceToInt, Int64.reduceToInt] at f7); have f8 := c_iushr ((ni.toUInt32 >>> ((8 : Int32) &&& 31).toUInt32).toInt32) (4 : Int32) 4 (by decide) (by decide); (try simp only [Int32.reduceToInt, Int64.reduceToInt] at f8); (try have f8e : ((((ni.toUInt32 >>> ((8 : Int32) &&& 31).toUInt32).toInt32).toUInt32 >>> ((4 : Int32) &&& 31).toUInt32).toInt32).toInt = ((ni.toUInt32 >>> ((8 : Int32) &&& 31).toUInt32).toInt32).toInt / 16 := (by omega)); have f9 := congrArg Int32.toInt hv_v11; (try simp only [Int32.reduceToInt, Int64.reduceToInt] at f9); have f10 := rng32 v11; (try simp only [Int32.reduceToInt, Int64.reduceToInt] at f10); have f14 := rng32 ((v11.toUInt32 >>> ((2 : Int32) &&& 31).toUInt32).toInt32); (try simp only [Int32.reduceToInt, Int64.reduceToInt] at f14); have f15 := c_iushr v11 (2 : Int32) 2 (by decide) (by decide); (try simp only [Int32.reduceToInt, Int64.reduceToInt] at f15); (try have f15e : ((v11.toUInt32 >>> ((2 : Int32) &&& 31).toUInt32).toInt32).toInt = v11.toInt / 4 := (by omega)); have f16 := rng32 ((((v11.toUInt32 >>> ((2 : Int32) &&& 31).toUInt32).toInt32).toUInt32 >>> ((1 : Int32) &&& 31).toUInt32).toInt32); (try simp only [Int32.reduceToInt, Int64.reduceToInt] at f16); have f17 := c_iushr ((v11.toUInt32 >>> ((2 : Int32) &&& 31).toUInt32).toInt32) (1 : Int32) 1 (by decide) (by decide); (try simp only [Int32.reduceToInt, Int64.reduceToInt] at f17); (try have f17e : ((((v11.toUInt32 >>> ((2 : Int32) &&& 31).toUInt32).toInt32).toUInt32 >>> ((1 : Int32) &&& 31).toUInt32).toInt32).toInt = ((v11.toUInt32 >>> ((2 : Int32) &&& 31).toUInt32).toInt32).toInt / 2 := (by omega)); have f18 := rng32 ((17 : Int32) - ((((v11.toUInt32 >>> ((2 : Int32) &&& 31).toUInt32).toInt32).toUInt32 >>> ((1 : Int32) &&& 31).toUInt32).toInt32)); (try simp only [Int32.reduceToInt, Int64.reduceToInt] at f18); have f19 := c_isub (17 : Int32) ((((v11.toUInt32 >>> ((2 : Int32) &&& 31).toUInt32).toInt32).toUInt32 >>> ((1 : Int32) &&& 31).toUInt32).toInt32); (try simp only [Int32.reduceToInt, Int64.reduceToInt] at f19); (try have f19e : ((17 : Int32) - ((((v11.toUInt32 >>> ((2 : Int32) &&& 31).toUInt32).toInt32).toUInt32 >>> ((1 : Int32) &&& 31).toUInt32).toInt32)).toInt = (17 : Int) - ((((v11.toUInt32 >>> ((2 : Int32) &&& 31).toUInt32).toInt32).toUInt32 >>> ((1 : Int32) &&& 31).toUInt32).toInt32).toInt := (by omega)); (try simp only [Int32.reduceToInt, Int64.reduceToInt, and_true, true_and, or_true, true_or]); skip; have hu : ((((v11.toUInt32 >>> ((2 : Int32) &&& 31).toUInt32).toInt32).toUInt32 >>> ((1 : Int32) &&& 31).toUInt32).toInt32).toInt = 0 ∨ ((((v11.toUInt32 >>> ((2 : Int32) &&& 31).toUInt32).toInt32).toUInt32 >>> ((1 : Int32) &&& 31).toUInt32).toInt32).toInt = 1 := (by omega); rcases hu with hu | hu; exact Or.inr (Or.inr ⟨14, by decide, by omega, by omega, by omega⟩); first | exact Or.inr (Or.inr ⟨15, by decide, by omega, by omega, by omega⟩) | (exfalso; omega)), e0, rfl⟩
    · intro c2
      refine g_iinc (q := 28) (v := (15 : Int32)) (L' := #[.val (.int ni), .val (.int (15 : Int32))]) X0.here hx (hb hby d6_25) rfl rfl rfl rfl ?_
      refine g_iloadN (q := 29) X0.here hx (hb hby d6_28) rfl rfl ?_
      refine g_bipush (q := 31) (v := (16 : Int32)) X0.here hx (hb hby d6_29) rfl rfl ?_
      refine g_iushr (q := 32) X0.here hx (hb hby d6_31) rfl ?_
      refine g_istoreN (q := 33) (L' := #[.val (.int ((ni.toUInt32 >>> ((16 : Int32) &&& 31).toUInt32).toInt32)), .val (.int (15 : Int32))]) X0.here hx (hb hby d6_32) rfl rfl ?_
      refine g_iloadN (q := 34) X0.here hx (hb hby d6_33) rfl rfl ?_
      refine g_sipush (q := 37) (v := (256 : Int32)) X0.here hx (hb hby d6_34) rfl rfl ?_
      refine g_icmp_lt (q := 48) (q0 := 40) X0.here hx (hb hby d6_37) (by decide) (by decide) rfl ?_ ?_
      · intro c13
        refine g_iloadN (q := 49) X0.here hx (hb hby d6_48) rfl rfl ?_
        refine g_bipush (q := 51) (v := (16 : Int32)) X0.here hx (hb hby d6_49) rfl rfl ?_
        refine g_icmp_lt (q := 61) (q0 := 54) X0.here hx (hb hby d6_51) (by decide) (by decide) rfl ?_ ?_
        · intro c14
          refine g_iloadN (q := 62) X0.here hx (hb hby d6_61) rfl rfl ?_
          refine g_iconst (q := 63) (v := (4 : Int32)) X0.here hx (hb hby d6_62) rfl rfl ?_
          refine g_icmp_lt (q := 73) (q0 := 66) X0.here hx (hb hby d6_63) (by decide) (by decide) rfl ?_ ?_
          · intro c15
            refine g_iloadN (q := 74) X0.here hx (hb hby d6_73) rfl rfl ?_
            refine g_iloadN (q := 75) X0.here hx (hb hby d6_74) rfl rfl ?_
            refine g_iconst (q := 76) (v := (1 : Int32)) X0.here hx (hb hby d6_75) rfl rfl ?_
            refine g_iushr (q := 77) X0.here hx (hb hby d6_76) rfl ?_
            refine g_isub (q := 78) X0.here hx (hb hby d6_77) rfl ?_
            exact g_ireturn X0 hx hlk hrt (hb hby d6_78) (by decide) (by decide) ⟨_, rfl, (show (ni.toInt < 0 ∧ ((15 : Int32) - ((((ni.toUInt32 >>> ((16 : Int32) &&& 31).toUInt32).toInt32).toUInt32 >>> ((1 : Int32) &&& 31).toUInt32).toInt32)).toInt = 0) ∨ (ni.toInt = 0 ∧ ((15 : Int32) - ((((ni.toUInt32 >>> ((16 : Int32) &&& 31).toUInt32).toInt32).toUInt32 >>> ((1 : Int32) &&& 31).toUInt32).toInt32)).toInt = 32) ∨ (∃ k : Nat, k ≤ 30 ∧ ((15 : Int32) - ((((ni.toUInt32 >>> ((16 : Int32) &&& 31).toUInt32).toInt32).toUInt32 >>> ((1 : Int32) &&& 31).toUInt32).toInt32)).toInt = 31 - (k : Int) ∧ (2 : Int) ^ k ≤ ni.toInt ∧ ni.toInt < 2 ^ (k + 1)) by (try simp only [Int32.reduceToInt, Int64.reduceToInt, true_and, and_true, not_true_eq_false, not_false_eq_true, false_and, or_false, false_or] at c1); (try simp only [Int32.reduceToInt, Int64.reduceToInt, true_and, and_true, not_true_eq_false, not_false_eq_true, false_and, or_false, false_or] at c2); (try simp only [Int32.reduceToInt, Int64.reduceToInt, true_and, and_true, not_true_eq_false, not_false_eq_true, false_and, or_false, false_or] at c13); (try simp only [Int32.reduceToInt, Int64.reduceToInt, true_and, and_true, not_true_eq_false, not_false_eq_true, false_and, or_false, false_or] at c14); (try simp only [Int32.reduceToInt, Int64.reduceToInt, true_and, and_true, not_true_eq_false, not_false_eq_true, false_and, or_false, false_or] at c15); have f1 := rng32 ni; (try simp only [Int32.reduceToInt, Int64.reduceToInt] at f1); have f3 := rng32 ((ni.toUInt32 >>> ((16 : Int32) &&& 31).toUInt32).toInt32); (try simp only [Int32.reduceToInt, Int64.reduceToInt] at f3); have f4 := c_iushr ni (16 : Int32) 16 (by decide) (by decide); (try simp only [Int32.reduceToInt, Int64.reduceToInt] at f4); (try have f4e : ((ni.toUInt32 >>> ((16 : Int32) &&& 31).toUInt32).toInt32).toInt = ni.toInt / 65536 := (by omega)); have f7 := rng32 ((((ni.toUInt32 >>> ((16 : Int32) &&& 31).toUInt32).toInt32).toUInt32 >>> ((1 : Int32) &&& 31).toUInt32).toInt32); (try simp only [Int32.reduceToInt, Int64.reduceToInt] at f7); have f8 := c_iushr ((ni.toUInt32 >>> ((16 : Int32) &&& 31).toUInt32).toInt32) (1 : Int32) 1 (by decide) (by decide); (try simp only [Int32.reduceToInt, Int64.reduceToInt] at f8); (try have f8e : ((((ni.toUInt32 >>> ((16 : Int32) &&& 31).toUInt32).toInt32).toUInt32 >>> ((1 : Int32) &&& 31).toUInt32).toInt32).toInt = ((ni.toUInt32 >>> ((16 : Int32) &&& 31).toUInt32).toInt32).toInt / 2 := (by omega)); have f9 := rng32 ((15 : Int32) - ((((ni.toUInt32 >>> ((16 : Int32) &&& 31).toUInt32).toInt32).toUInt32 >>> ((1 : Int32) &&& 31).toUInt32).toInt32)); (try simp only [Int32.reduceToInt, Int64.reduceToInt] at f9); have f10 := c_isub (15 : Int32) ((((ni.toUInt32 >>> ((16 : Int32) &&& 31).toUInt32).toInt32).toUInt32 >>> ((1 : Int32) &&& 31).toUInt32).toInt32); (try simp only [Int32.reduceToInt, Int64.reduceToInt] at f10); (try have f10e : ((15 : Int32) - ((((ni.toUInt32 >>> ((16 : Int32) &&& 31).toUInt32).toInt32).toUInt32 >>> ((1 : Int32) &&& 31).toUInt32).toInt32)).toInt = (15 : Int) - ((((ni.toUInt32 >>> ((16 : Int32) &&& 31).toUInt32).toInt32).toUInt32 >>> ((1 : Int32) &&& 31).toUInt32).toInt32).toInt := (by omega)); (try simp only [Int32.reduceToInt, Int64.reduceToInt, and_true, true_and, or_true, true_or]); skip; have hu : ((((ni.toUInt32 >>> ((16 : Int32) &&& 31).toUInt32).toInt32).toUInt32 >>> ((1 : Int32) &&& 31).toUInt32).toInt32).toInt = 0 ∨ ((((ni.toUInt32 >>> ((16 : Int32) &&& 31).toUInt32).toInt32).toUInt32 >>> ((1 : Int32) &&& 31).toUInt32).toInt32).toInt = 1 := (by omega); rcases hu with hu | hu; exact Or.inr (Or.inr ⟨16, by decide, by omega, by omega, by omega⟩); first | exact Or.inr (Or.inr ⟨17, by decide, by omega, by omega, by omega⟩) | (exfalso; omega)), e0, rfl⟩
          · intro c15
            refine g_iinc (q := 69) (v := (13 : Int32)) (L' := #[.val (.int ((ni.toUInt32 >>> ((16 : Int32) &&& 31).toUInt32).toInt32)), .val (.int (13 : Int32))]) X0.here hx (hb hby d6_66) rfl rfl rfl rfl ?_
            refine g_iloadN (q := 70) X0.here hx (hb hby d6_69) rfl rfl ?_
            refine g_iconst (q := 71) (v := (2 : Int32)) X0.here hx (hb hby d6_70) rfl rfl ?_
            refine g_iushr (q := 72) X0.here hx (hb hby d6_71) rfl ?_
            generalize hv_v16 : ((((ni.toUInt32 >>> ((16 : Int32) &&& 31).toUInt32).toInt32).toUInt32 >>> ((2 : Int32) &&& 31).toUInt32).toInt32) = v16
            refine g_istoreN (q := 73) (L' := #[.val (.int v16), .val (.int (13 : Int32))]) X0.here hx (hb hby d6_72) rfl rfl ?_
            refine g_iloadN (q := 74) X0.here hx (hb hby d6_73) rfl rfl ?_
            refine g_iloadN (q := 75) X0.here hx (hb hby d6_74) rfl rfl ?_
            refine g_iconst (q := 76) (v := (1 : Int32)) X0.here hx (hb hby d6_75) rfl rfl ?_
            refine g_iushr (q := 77) X0.here hx (hb hby d6_76) rfl ?_
            refine g_isub (q := 78) X0.here hx (hb hby d6_77) rfl ?_
            exact g_ireturn X0 hx hlk hrt (hb hby d6_78) (by decide) (by decide) ⟨_, rfl, (show (ni.toInt < 0 ∧ ((13 : Int32) - ((v16.toUInt32 >>> ((1 : Int32) &&& 31).toUInt32).toInt32)).toInt = 0) ∨ (ni.toInt = 0 ∧ ((13 : Int32) - ((v16.toUInt32 >>> ((1 : Int32) &&& 31).toUInt32).toInt32)).toInt = 32) ∨ (∃ k : Nat, k ≤ 30 ∧ ((13 : Int32) - ((v16.toUInt32 >>> ((1 : Int32) &&& 31).toUInt32).toInt32)).toInt = 31 - (k : Int) ∧ (2 : Int) ^ k ≤ ni.toInt ∧ ni.toInt < 2 ^ (k + 1)) by (try simp only [Int32.reduceToInt, Int64.reduceToInt, true_and, and_true, not_true_eq_false, not_false_eq_true, false_and, or_false, false_or] at c1); (try simp only [Int32.reduceToInt, Int64.reduceToInt, true_and, and_true, not_true_eq_false, not_false_eq_true, false_and, or_false, false_or] at c2); (try simp only [Int32.reduceToInt, Int64.reduceToInt, true_and, and_true, not_true_eq_false, not_false_eq_true, false_and, or_false, false_or] at c13); (try simp only [Int32.reduceToInt, Int64.reduceToInt, true_and, and_true, not_true_eq_false, not_false_eq_true, false_and, or_false, false_or] at c14); (try simp only [Int32.reduceToInt, Int64.reduceToInt, true_and, and_true, not_true_eq_false, not_false_eq_true, false_and, or_false, false_or] at c15); (try simp only [Int32.reduceToInt, Int64.reduceToInt, true_and, and_true, not_true_eq_false, not_false_eq_true, false_and, or_false, false_or] at hv_v16); have f1 := rng32 ni; (try simp only [Int32.reduceToInt, Int64.reduceToInt] at f1); have f3 := rng32 ((ni.toUInt32 >>> ((16 : Int32) &&& 31).toUInt32).toInt32); (try simp only [Int32.reduceToInt, Int64.reduceToInt] at f3); have f4 := c_iushr ni (16 : Int32) 16 (by decide) (by decide); (try simp only [Int32.reduceToInt, Int64.reduceToInt] at f4); (try have f4e : ((ni.toUInt32 >>> ((16 : Int32) &&& 31).toUInt32).toInt32).toInt = ni.toInt / 65536 := (by omega)); have f9 := rng32 ((((ni.toUInt32 >>> ((16 : Int32) &&& 31).toUInt32).toInt32).toUInt32 >>> ((2 : Int32) &&& 31).toUInt32).toInt32); (try simp only [Int32.reduceToInt, Int64.reduceToInt] at f9); have f10 := c_iushr ((ni.toUInt32 >>> ((16 : Int32) &&& 31).toUInt32).toInt32) (2 : Int32) 2 (by decide) (by decide); (try simp only [Int32.reduceToInt, Int64.reduceToInt] at f10); (try have f10e : ((((ni.toUInt32 >>> ((16 : Int32) &&& 31).toUInt32).toInt32).toUInt32 >>> ((2 : Int32) &&& 31).toUInt32).toInt32).toInt = ((ni.toUInt32 >>> ((16 : Int32) &&& 31).toUInt32).toInt32).toInt / 4 := (by omega)); have f11 := congrArg Int32.toInt hv_v16; (try simp only [Int32.reduceToInt, Int64.reduceToInt] at f11); have f12 := rng32 v16; (try simp only [Int32.reduceToInt, Int64.reduceToInt] at f12); have f13 := rng32 ((v16.toUInt32 >>> ((1 : Int32) &&& 31).toUInt32).toInt32); (try simp only [Int32.reduceToInt, Int64.reduceToInt] at f13); have f14 := c_iushr v16 (1 : Int32) 1 (by decide) (by decide); (try simp only [Int32.reduceToInt, Int64.reduceToInt] at f14); (try have f14e : ((v16.toUInt32 >>> ((1 : Int32) &&& 31).toUInt32).toInt32).toInt = v16.toInt / 2 := (by omega)); have f15 := rng32 ((13 : Int32) - ((v16.toUInt32 >>> ((1 : Int32) &&& 31).toUInt32).toInt32)); (try simp only [Int32.reduceToInt, Int64.reduceToInt] at f15); have f16 := c_isub (13 : Int32) ((v16.toUInt32 >>> ((1 : Int32) &&& 31).toUInt32).toInt32); (try simp only [Int32.reduceToInt, Int64.reduceToInt] at f16); (try have f16e : ((13 : Int32) - ((v16.toUInt32 >>> ((1 : Int32) &&& 31).toUInt32).toInt32)).toInt = (13 : Int) - ((v16.toUInt32 >>> ((1 : Int32) &&& 31).toUInt32).toInt32).toInt := (by omega)); (try simp only [Int32.reduceToInt, Int64.reduceToInt, and_true, true_and, or_true, true_or]); skip; have hu : ((v16.toUInt32 >>> ((1 : Int32) &&& 31).toUInt32).toInt32).toInt = 0 ∨ ((v16.toUInt32 >>> ((1 : Int32) &&& 31).toUInt32).toInt32).toInt = 1 := (by omega); rcases hu with hu | hu; exact Or.inr (Or.inr ⟨18, by decide, by omega, by omega, by omega⟩); first | exact Or.inr (Or.inr ⟨19, by decide, by omega, by omega, by omega⟩) | (exfalso; omega)), e0, rfl⟩
        · intro c14
          refine g_iinc (q := 57) (v := (11 : Int32)) (L' := #[.val (.int ((ni.toUInt32 >>> ((16 : Int32) &&& 31).toUInt32).toInt32)), .val (.int (11 : Int32))]) X0.here hx (hb hby d6_54) rfl rfl rfl rfl ?_
          refine g_iloadN (q := 58) X0.here hx (hb hby d6_57) rfl rfl ?_
          refine g_iconst (q := 59) (v := (4 : Int32)) X0.here hx (hb hby d6_58) rfl rfl ?_
          refine g_iushr (q := 60) X0.here hx (hb hby d6_59) rfl ?_
          generalize hv_v17 : ((((ni.toUInt32 >>> ((16 : Int32) &&& 31).toUInt32).toInt32).toUInt32 >>> ((4 : Int32) &&& 31).toUInt32).toInt32) = v17
          refine g_istoreN (q := 61) (L' := #[.val (.int v17), .val (.int (11 : Int32))]) X0.here hx (hb hby d6_60) rfl rfl ?_
          refine g_iloadN (q := 62) X0.here hx (hb hby d6_61) rfl rfl ?_
          refine g_iconst (q := 63) (v := (4 : Int32)) X0.here hx (hb hby d6_62) rfl rfl ?_
          refine g_icmp_lt (q := 73) (q0 := 66) X0.here hx (hb hby d6_63) (by decide) (by decide) rfl ?_ ?_
          · intro c18
            refine g_iloadN (q := 74) X0.here hx (hb hby d6_73) rfl rfl ?_
            refine g_iloadN (q := 75) X0.here hx (hb hby d6_74) rfl rfl ?_
            refine g_iconst (q := 76) (v := (1 : Int32)) X0.here hx (hb hby d6_75) rfl rfl ?_
            refine g_iushr (q := 77) X0.here hx (hb hby d6_76) rfl ?_
            refine g_isub (q := 78) X0.here hx (hb hby d6_77) rfl ?_
            exact g_ireturn X0 hx hlk hrt (hb hby d6_78) (by decide) (by decide) ⟨_, rfl, (show (ni.toInt < 0 ∧ ((11 : Int32) - ((v17.toUInt32 >>> ((1 : Int32) &&& 31).toUInt32).toInt32)).toInt = 0) ∨ (ni.toInt = 0 ∧ ((11 : Int32) - ((v17.toUInt32 >>> ((1 : Int32) &&& 31).toUInt32).toInt32)).toInt = 32) ∨ (∃ k : Nat, k ≤ 30 ∧ ((11 : Int32) - ((v17.toUInt32 >>> ((1 : Int32) &&& 31).toUInt32).toInt32)).toInt = 31 - (k : Int) ∧ (2 : Int) ^ k ≤ ni.toInt ∧ ni.toInt < 2 ^ (k + 1)) by (try simp only [Int32.reduceToInt, Int64.reduceToInt, true_and, and_true, not_true_eq_false, not_false_eq_true, false_and, or_false, false_or] at c1); (try simp only [Int32.reduceToInt, Int64.reduceToInt, true_and, and_true, not_true_eq_false, not_false_eq_true, false_and, or_false, false_or] at c2); (try simp only [Int32.reduceToInt, Int64.reduceToInt, true_and, and_true, not_true_eq_false, not_false_eq_true, false_and, or_false, false_or] at c13); (try simp only [Int32.reduceToInt, Int64.reduceToInt, true_and, and_true, not_true_eq_false, not_false_eq_true, false_and, or_false, false_or] at c14); (try simp only [Int32.reduceToInt, Int64.reduceToInt, true_and, and_true, not_true_eq_false, not_false_eq_true, false_and, or_false, false_or] at hv_v17); (try simp only [Int32.reduceToInt, Int64.reduceToInt, true_and, and_true, not_true_eq_false, not_false_eq_true, false_and, or_false, false_or] at c18); have f1 := rng32 ni; (try simp only [Int32.reduceToInt, Int64.reduceToInt] at f1); have f3 := rng32 ((ni.toUInt32 >>> ((16 : Int32) &&& 31).toUInt32).toInt32); (try simp only [Int32.reduceToInt, Int64.reduceToInt] at f3); have f4 := c_iushr ni (16 : Int32) 16 (by decide) (by decide); (try simp only [Int32.reduceToInt, Int64.reduceToInt] at f4); (try have f4e : ((ni.toUInt32 >>> ((16 : Int32) &&& 31).toUInt32).toInt32).toInt = ni.toInt / 65536 := (by omega)); have f7 := rng32 ((((ni.toUInt32 >>> ((16 : Int32) &&& 31).toUInt32).toInt32).toUInt32 >>> ((4 : Int32) &&& 31).toUInt32).toInt32); (try simp only [Int32.reduceToInt, Int64.reduceToInt] at f7); have f8 := c_iushr ((ni.toUInt32 >>> ((16 : Int32) &&& 31).toUInt32).toInt32) (4 : Int32) 4 (by decide) (by decide); (try simp only [Int32.reduceToInt, Int64.reduceToInt] at f8); (try have f8e : ((((ni.toUInt32 >>> ((16 : Int32) &&& 31).toUInt32).toInt32).toUInt32 >>> ((4 : Int32) &&& 31).toUInt32).toInt32).toInt = ((ni.toUInt32 >>> ((16 : Int32) &&& 31).toUInt32).toInt32).toInt / 16 := (by omega)); have f9 := congrArg Int32.toInt hv_v17; (try simp only [Int32.reduceToInt, Int64.reduceToInt] at f9); have f10 := rng32 v17; (try simp only [Int32.reduceToInt, Int64.reduceToInt] at f10); have f13 := rng32 ((v17.toUInt32 >>> ((1 : Int32) &&& 31).toUInt32).toInt32); (try simp only [Int32.reduceToInt, Int64.reduceToInt] at f13); have f14 := c_iushr v17 (1 : Int32) 1 (by decide) (by decide); (try simp only [Int32.reduceToInt, Int64.reduceToInt] at f14); (try have f14e : ((v17.toUInt32 >>> ((1 : Int32) &&& 31).toUInt32).toInt32).toInt = v17.toInt / 2 := (by omega)); have f15 := rng32 ((11 : Int32) - ((v17.toUInt32 >>> ((1 : Int32) &&& 31).toUInt32).toInt32)); (try simp only [Int32.reduceToInt, Int64.reduceToInt] at f15); have f16 := c_isub (11 : Int32) ((v17.toUInt32 >>> ((1 : Int32) &&& 31).toUInt32).toInt32); (try simp only [Int32.reduceToInt, Int64.reduceToInt] at f16); (try have f16e : ((11 : Int32) - ((v17.toUInt32 >>> ((1 : Int32) &&& 31).toUInt32).toInt32)).toInt = (11 : Int) - ((v17.toUInt32 >>> ((1 : Int32) &&& 31).toUInt32).toInt32).toInt := (by omega)); (try simp only [Int32.reduceToInt, Int64.reduceToInt, and_true, true_and, or_true, true_or]); skip; have hu : ((v17.toUInt32 >>> ((1 : Int32) &&& 31).toUInt32).toInt32).toInt = 0 ∨ ((v17.toUInt32 >>> ((1 : Int32) &&& 31).toUInt32).toInt32).toInt = 1 := (by omega); rcases hu with hu | hu; exact Or.inr (Or.inr ⟨20, by decide, by omega, by omega, by omega⟩); first | exact Or.inr (Or.inr ⟨21, by decide, by omega, by omega, by omega⟩) | (exfalso; omega)), e0, rfl⟩
          · intro c18
            refine g_iinc (q := 69) (v := (9 : Int32)) (L' := #[.val (.int v17), .val (.int (9 : Int32))]) X0.here hx (hb hby d6_66) rfl rfl rfl rfl ?_
            refine g_iloadN (q := 70) X0.here hx (hb hby d6_69) rfl rfl ?_
            refine g_iconst (q := 71) (v := (2 : Int32)) X0.here hx (hb hby d6_70) rfl rfl ?_
            refine g_iushr (q := 72) X0.here hx (hb hby d6_71) rfl ?_
            refine g_istoreN (q := 73) (L' := #[.val (.int ((v17.toUInt32 >>> ((2 : Int32) &&& 31).toUInt32).toInt32)), .val (.int (9 : Int32))]) X0.here hx (hb hby d6_72) rfl rfl ?_
            refine g_iloadN (q := 74) X0.here hx (hb hby d6_73) rfl rfl ?_
            refine g_iloadN (q := 75) X0.here hx (hb hby d6_74) rfl rfl ?_
            refine g_iconst (q := 76) (v := (1 : Int32)) X0.here hx (hb hby d6_75) rfl rfl ?_
            refine g_iushr (q := 77) X0.here hx (hb hby d6_76) rfl ?_
            refine g_isub (q := 78) X0.here hx (hb hby d6_77) rfl ?_
            exact g_ireturn X0 hx hlk hrt (hb hby d6_78) (by decide) (by decide) ⟨_, rfl, (show (ni.toInt < 0 ∧ ((9 : Int32) - ((((v17.toUInt32 >>> ((2 : Int32) &&& 31).toUInt32).toInt32).toUInt32 >>> ((1 : Int32) &&& 31).toUInt32).toInt32)).toInt = 0) ∨ (ni.toInt = 0 ∧ ((9 : Int32) - ((((v17.toUInt32 >>> ((2 : Int32) &&& 31).toUInt32).toInt32).toUInt32 >>> ((1 : Int32) &&& 31).toUInt32).toInt32)).toInt = 32) ∨ (∃ k : Nat, k ≤ 30 ∧ ((9 : Int32) - ((((v17.toUInt32 >>> ((2 : Int32) &&& 31).toUInt32).toInt32).toUInt32 >>> ((1 : Int32) &&& 31).toUInt32).toInt32)).toInt = 31 - (k : Int) ∧ (2 : Int) ^ k ≤ ni.toInt ∧ ni.toInt < 2 ^ (k + 1)) by (try simp only [Int32.reduceToInt, Int64.reduceToInt, true_and, and_true, not_true_eq_false, not_false_eq_true, false_and, or_false, false_or] at c1); (try simp only [Int32.reduceToInt, Int64.reduceToInt, true_and, and_true, not_true_eq_false, not_false_eq_true, false_and, or_false, false_or] at c2); (try simp only [Int32.reduceToInt, Int64.reduceToInt, true_and, and_true, not_true_eq_false, not_false_eq_true, false_and, or_false, false_or] at c13); (try simp only [Int32.reduceToInt, Int64.reduceToInt, true_and, and_true, not_true_eq_false, not_false_eq_true, false_and, or_false, false_or] at c14); (try simp only [Int32.reduceToInt, Int64.reduceToInt, true_and, and_true, not_true_eq_false, not_false_eq_true, false_and, or_false, false_or] at hv_v17); (try simp only [Int32.reduceToInt, Int64.reduceToInt, true_and, and_true, not_true_eq_false, not_false_eq_true, false_and, or_false, false_or] at c18); have f1 := rng32 ni; (try simp only [Int32.reduceToInt, Int64.reduceToInt] at f1); have f3 := rng32 ((ni.toUInt32 >>> ((16 : Int32) &&& 31).toUInt32).toInt32); (try simp only [Int32.reduceToInt, Int64.reduceToInt] at f3); have f4 := c_iushr ni (16 : Int32) 16 (by decide) (by decide); (try simp only [Int32.reduceToInt, Int64.reduceToInt] at f4); (try have f4e : ((ni.toUInt32 >>> ((16 : Int32) &&& 31).toUInt32).toInt32).toInt = ni.toInt / 65536 := (by omega)); have f7 := rng32 ((((ni.toUInt32 >>> ((16 : Int32) &&& 31).toUInt32).toInt32).toUInt32 >>> ((4 : Int32) &&& 31).toUInt32).toInt32); (try simp only [Int32.reduceToInt, Int64.reduceToInt] at f7); have f8 := c_iushr ((ni.toUInt32 >>> ((16 : Int32) &&& 31).toUInt32).toInt32) (4 : Int32) 4 (by decide) (by decide); (try simp only [Int32.reduceToInt, Int64.reduceToInt] at f8); (try have f8e : ((((ni.toUInt32 >>> ((16 : Int32) &&& 31).toUInt32).toInt32).toUInt32 >>> ((4 : Int32) &&& 31).toUInt32).toInt32).toInt = ((ni.toUInt32 >>> ((16 : Int32) &&& 31).toUInt32).toInt32).toInt / 16 := (by omega)); have f9 := congrArg Int32.toInt hv_v17; (try simp only [Int32.reduceToInt, Int64.reduceToInt] at f9); have f10 := rng32 v17; (try simp only [Int32.reduceToInt, Int64.reduceToInt] at f10); have f14 := rng32 ((v17.toUInt32 >>> ((2 : Int32) &&& 31).toUInt32).toInt32); (try simp only [Int32.reduceToInt, Int64.reduceToInt] at f14); have f15 := c_iushr v17 (2 : Int32) 2 (by decide) (by decide); (try simp only [Int32.reduceToInt, Int64.reduceToInt] at f15); (try have f15e : ((v17.toUInt32 >>> ((2 : Int32) &&& 31).toUInt32).toInt32).toInt = v17.toInt / 4 := (by omega)); have f16 := rng32 ((((v17.toUInt32 >>> ((2 : Int32) &&& 31).toUInt32).toInt32).toUInt32 >>> ((1 : Int32) &&& 31).toUInt32).toInt32); (try simp only [Int32.reduceToInt, Int64.reduceToInt] at f16); have f17 := c_iushr ((v17.toUInt32 >>> ((2 : Int32) &&& 31).toUInt32).toInt32) (1 : Int32) 1 (by decide) (by decide); (try simp only [Int32.reduceToInt, Int64.reduceToInt] at f17); (try have f17e : ((((v17.toUInt32 >>> ((2 : Int32) &&& 31).toUInt32).toInt32).toUInt32 >>> ((1 : Int32) &&& 31).toUInt32).toInt32).toInt = ((v17.toUInt32 >>> ((2 : Int32) &&& 31).toUInt32).toInt32).toInt / 2 := (by omega)); have f18 := rng32 ((9 : Int32) - ((((v17.toUInt32 >>> ((2 : Int32) &&& 31).toUInt32).toInt32).toUInt32 >>> ((1 : Int32) &&& 31).toUInt32).toInt32)); (try simp only [Int32.reduceToInt, Int64.reduceToInt] at f18); have f19 := c_isub (9 : Int32) ((((v17.toUInt32 >>> ((2 : Int32) &&& 31).toUInt32).toInt32).toUInt32 >>> ((1 : Int32) &&& 31).toUInt32).toInt32); (try simp only [Int32.reduceToInt, Int64.reduceToInt] at f19); (try have f19e : ((9 : Int32) - ((((v17.toUInt32 >>> ((2 : Int32) &&& 31).toUInt32).toInt32).toUInt32 >>> ((1 : Int32) &&& 31).toUInt32).toInt32)).toInt = (9 : Int) - ((((v17.toUInt32 >>> ((2 : Int32) &&& 31).toUInt32).toInt32).toUInt32 >>> ((1 : Int32) &&& 31).toUInt32).toInt32).toInt := (by omega)); (try simp only [Int32.reduceToInt, Int64.reduceToInt, and_true, true_and, or_true, true_or]); skip; have hu : ((((v17.toUInt32 >>> ((2 : Int32) &&& 31).toUInt32).toInt32).toUInt32 >>> ((1 : Int32) &&& 31).toUInt32).toInt32).toInt = 0 ∨ ((((v17.toUInt32 >>> ((2 : Int32) &&& 31).toUInt32).toInt32).toUInt32 >>> ((1 : Int32) &&& 31).toUInt32).toInt32).toInt = 1 := (by omega); rcases hu with hu | hu; exact Or.inr (Or.inr ⟨22, by decide, by omega, by omega, by omega⟩); first | exact Or.inr (Or.inr ⟨23, by decide, by omega, by omega, by omega⟩) | (exfalso; omega)), e0, rfl⟩
      · intro c13
        refine g_iinc (q := 43) (v := (7 : Int32)) (L' := #[.val (.int ((ni.toUInt32 >>> ((16 : Int32) &&& 31).toUInt32).toInt32)), .val (.int (7 : Int32))]) X0.here hx (hb hby d6_40) rfl rfl rfl rfl ?_
        refine g_iloadN (q := 44) X0.here hx (hb hby d6_43) rfl rfl ?_
        refine g_bipush (q := 46) (v := (8 : Int32)) X0.here hx (hb hby d6_44) rfl rfl ?_
        refine g_iushr (q := 47) X0.here hx (hb hby d6_46) rfl ?_
        generalize hv_v19 : ((((ni.toUInt32 >>> ((16 : Int32) &&& 31).toUInt32).toInt32).toUInt32 >>> ((8 : Int32) &&& 31).toUInt32).toInt32) = v19
        refine g_istoreN (q := 48) (L' := #[.val (.int v19), .val (.int (7 : Int32))]) X0.here hx (hb hby d6_47) rfl rfl ?_
        refine g_iloadN (q := 49) X0.here hx (hb hby d6_48) rfl rfl ?_
        refine g_bipush (q := 51) (v := (16 : Int32)) X0.here hx (hb hby d6_49) rfl rfl ?_
        refine g_icmp_lt (q := 61) (q0 := 54) X0.here hx (hb hby d6_51) (by decide) (by decide) rfl ?_ ?_
        · intro c20
          refine g_iloadN (q := 62) X0.here hx (hb hby d6_61) rfl rfl ?_
          refine g_iconst (q := 63) (v := (4 : Int32)) X0.here hx (hb hby d6_62) rfl rfl ?_
          refine g_icmp_lt (q := 73) (q0 := 66) X0.here hx (hb hby d6_63) (by decide) (by decide) rfl ?_ ?_
          · intro c21
            refine g_iloadN (q := 74) X0.here hx (hb hby d6_73) rfl rfl ?_
            refine g_iloadN (q := 75) X0.here hx (hb hby d6_74) rfl rfl ?_
            refine g_iconst (q := 76) (v := (1 : Int32)) X0.here hx (hb hby d6_75) rfl rfl ?_
            refine g_iushr (q := 77) X0.here hx (hb hby d6_76) rfl ?_
            refine g_isub (q := 78) X0.here hx (hb hby d6_77) rfl ?_
            exact g_ireturn X0 hx hlk hrt (hb hby d6_78) (by decide) (by decide) ⟨_, rfl, (show (ni.toInt < 0 ∧ ((7 : Int32) - ((v19.toUInt32 >>> ((1 : Int32) &&& 31).toUInt32).toInt32)).toInt = 0) ∨ (ni.toInt = 0 ∧ ((7 : Int32) - ((v19.toUInt32 >>> ((1 : Int32) &&& 31).toUInt32).toInt32)).toInt = 32) ∨ (∃ k : Nat, k ≤ 30 ∧ ((7 : Int32) - ((v19.toUInt32 >>> ((1 : Int32) &&& 31).toUInt32).toInt32)).toInt = 31 - (k : Int) ∧ (2 : Int) ^ k ≤ ni.toInt ∧ ni.toInt < 2 ^ (k + 1)) by (try simp only [Int32.reduceToInt, Int64.reduceToInt, true_and, and_true, not_true_eq_false, not_false_eq_true, false_and, or_false, false_or] at c1); (try simp only [Int32.reduceToInt, Int64.reduceToInt, true_and, and_true, not_true_eq_false, not_false_eq_true, false_and, or_false, false_or] at c2); (try simp only [Int32.reduceToInt, Int64.reduceToInt, true_and, and_true, not_true_eq_false, not_false_eq_true, false_and, or_false, false_or] at c13); (try simp only [Int32.reduceToInt, Int64.reduceToInt, true_and, and_true, not_true_eq_false, not_false_eq_true, false_and, or_false, false_or] at hv_v19); (try simp only [Int32.reduceToInt, Int64.reduceToInt, true_and, and_true, not_true_eq_false, not_false_eq_true, false_and, or_false, false_or] at c20); (try simp only [Int32.reduceToInt, Int64.reduceToInt, true_and, and_true, not_true_eq_false, not_false_eq_true, false_and, or_false, false_or] at c21); have f1 := rng32 ni; (try simp only [Int32.reduceToInt, Int64.reduceToInt] at f1); have f3 := rng32 ((ni.toUInt32 >>> ((16 : Int32) &&& 31).toUInt32).toInt32); (try simp only [Int32.reduceToInt, Int64.reduceToInt] at f3); have f4 := c_iushr ni (16 : Int32) 16 (by decide) (by decide); (try simp only [Int32.reduceToInt, Int64.reduceToInt] at f4); (try have f4e : ((ni.toUInt32 >>> ((16 : Int32) &&& 31).toUInt32).toInt32).toInt = ni.toInt / 65536 := (by omega)); have f7 := rng32 ((((ni.toUInt32 >>> ((16 : Int32) &&& 31).toUInt32).toInt32).toUInt32 >>> ((8 : Int32) &&& 31).toUInt32).toInt32); (try simp only [Int32.reduceToInt, Int64.reduceToInt] at f7); have f8 := c_iushr ((ni.toUInt32 >>> ((16 : Int32) &&& 31).toUInt32).toInt32) (8 : Int32) 8 (by decide) (by decide); (try simp only [Int32.reduceToInt, Int64.reduceToInt] at f8); (try have f8e : ((((ni.toUInt32 >>> ((16 : Int32) &&& 31).toUInt32).toInt32).toUInt32 >>> ((8 : Int32) &&& 31).toUInt32).toInt32).toInt = ((ni.toUInt32 >>> ((16 : Int32) &&& 31).toUInt32).toInt32).toInt / 256 := (by omega)); have f9 := congrArg Int32.toInt hv_v19; (try simp only [Int32.reduceToInt, Int64.reduceToInt] at f9); have f10 := rng32 v19; (try simp only [Int32.reduceToInt, Int64.reduceToInt] at f10); have f13 := rng32 ((v19.toUInt32 >>> ((1 : Int32) &&& 31).toUInt32).toInt32); (try simp only [Int32.reduceToInt, Int64.reduceToInt] at f13); have f14 := c_iushr v19 (1 : Int32) 1 (by decide) (by decide); (try simp only [Int32.reduceToInt, Int64.reduceToInt] at f14); (try have f14e : ((v19.toUInt32 >>> ((1 : Int32) &&& 31).toUInt32).toInt32).toInt = v19.toInt / 2 := (by omega)); have f15 := rng32 ((7 : Int32) - ((v19.toUInt32 >>> ((1 : Int32) &&& 31).toUInt32).toInt32)); (try simp only [Int32.reduceToInt, Int64.reduceToInt] at f15); have f16 := c_isub (7 : Int32) ((v19.toUInt32 >>> ((1 : Int32) &&& 31).toUInt32).toInt32); (try simp only [Int32.reduceToInt, Int64.reduceToInt] at f16); (try have f16e : ((7 : Int32) - ((v19.toUInt32 >>> ((1 : Int32) &&& 31).toUInt32).toInt32)).toInt = (7 : Int) - ((v19.toUInt32 >>> ((1 : Int32) &&& 31).toUInt32).toInt32).toInt := (by omega)); (try simp only [Int32.reduceToInt, Int64.reduceToInt, and_true, true_and, or_true, true_or]); skip; have hu : ((v19.toUInt32 >>> ((1 : Int32) &&& 31).toUInt32).toInt32).toInt = 0 ∨ ((v19.toUInt32 >>> ((1 : Int32) &&& 31).toUInt32).toInt32).toInt = 1 := (by omega); rcases hu with hu | hu; exact Or.inr (Or.inr ⟨24, by decide, by omega, by omega, by omega⟩); first | exact Or.inr (Or.inr ⟨25, by decide, by omega, by omega, by omega⟩) | (exfalso; omega)), e0, rfl⟩
          · intro c21
            refine g_iinc (q := 69) (v := (5 : Int32)) (L' := #[.val (.int v19), .val (.int (5 : Int32))]) X0.here hx (hb hby d6_66) rfl rfl rfl rfl ?_
            refine g_iloadN (q := 70) X0.here hx (hb hby d6_69) rfl rfl ?_
            refine g_iconst (q := 71) (v := (2 : Int32)) X0.here hx (hb hby d6_70) rfl rfl ?_
            refine g_iushr (q := 72) X0.here hx (hb hby d6_71) rfl ?_
            refine g_istoreN (q := 73) (L' := #[.val (.int ((v19.toUInt32 >>> ((2 : Int32) &&& 31).toUInt32).toInt32)), .val (.int (5 : Int32))]) X0.here hx (hb hby d6_72) rfl rfl ?_
            refine g_iloadN (q := 74) X0.here hx (hb hby d6_73) rfl rfl ?_
            refine g_iloadN (q := 75) X0.here hx (hb hby d6_74) rfl rfl ?_
            refine g_iconst (q := 76) (v := (1 : Int32)) X0.here hx (hb hby d6_75) rfl rfl ?_
            refine g_iushr (q := 77) X0.here hx (hb hby d6_76) rfl ?_
            refine g_isub (q := 78) X0.here hx (hb hby d6_77) rfl ?_
            exact g_ireturn X0 hx hlk hrt (hb hby d6_78) (by decide) (by decide) ⟨_, rfl, (show (ni.toInt < 0 ∧ ((5 : Int32) - ((((v19.toUInt32 >>> ((2 : Int32) &&& 31).toUInt32).toInt32).toUInt32 >>> ((1 : Int32) &&& 31).toUInt32).toInt32)).toInt = 0) ∨ (ni.toInt = 0 ∧ ((5 : Int32) - ((((v19.toUInt32 >>> ((2 : Int32) &&& 31).toUInt32).toInt32).toUInt32 >>> ((1 : Int32) &&& 31).toUInt32).toInt32)).toInt = 32) ∨ (∃ k : Nat, k ≤ 30 ∧ ((5 : Int32) - ((((v19.toUInt32 >>> ((2 : Int32) &&& 31).toUInt32).toInt32).toUInt32 >>> ((1 : Int32) &&& 31).toUInt32).toInt32)).toInt = 31 - (k : Int) ∧ (2 : Int) ^ k ≤ ni.toInt ∧ ni.toInt < 2 ^ (k + 1)) by (try simp only [Int32.reduceToInt, Int64.reduceToInt, true_and, and_true, not_true_eq_false, not_false_eq_true, false_and, or_false, false_or] at c1); (try simp only [Int32.reduceToInt, Int64.reduceToInt, true_and, and_true, not_true_eq_false, not_false_eq_true, false_and, or_false, false_or] at c2); (try simp only [Int32.reduceToInt, Int64.reduceToInt, true_and, and_true, not_true_eq_false, not_false_eq_true, false_and, or_false, false_or] at c13); (try simp only [Int32.reduceToInt, Int64.reduceToInt, true_and, and_true, not_true_eq_false, not_false_eq_true, false_and, or_false, false_or] at hv_v19); (try simp only [Int32.reduceToInt, Int64.reduceToInt, true_and, and_true, not_true_eq_false, not_false_eq_true, false_and, or_false, false_or] at c20); (try simp only [Int32.reduceToInt, Int64.reduceToInt, true_and, and_true, not_true_eq_false, not_false_eq_true, false_and, or_false, false_or] at c21); have f1 := rng32 ni; (try simp only [Int32.reduceToInt, Int64.reduceToInt] at f1); have f3 := rng32 ((ni.toUInt32 >>> ((16 : Int32) &&& 31).toUInt32).toInt32); (try simp only [Int32.reduceToInt, Int64.reduceToInt] at f3); have f4 := c_iushr ni (16 : Int32) 16 (by decide) (by decide); (try simp only [Int32.reduceToInt, Int64.reduceToInt] at f4); (try have f4e : ((ni.toUInt32 >>> ((16 : Int32) &&& 31).toUInt32).toInt32).toInt = ni.toInt / 65536 := (by omega)); have f7 := rng32 ((((ni.toUInt32 >>> ((16 : Int32) &&& 31).toUInt32).toInt32).toUInt32 >>> ((8 : Int32) &&& 31).toUInt32).toInt32); (try simp only [Int32.reduceToInt, Int64.reduceToInt] at f7); have f8 := c_iushr ((ni.toUInt32 >>> ((16 : Int32) &&& 31).toUInt32).toInt32) (8 : Int32) 8 (by decide) (by decide); (try simp only [Int32.reduceToInt, Int64.reduceToInt] at f8); (try have f8e : ((((ni.toUInt32 >>> ((16 : Int32) &&& 31).toUInt32).toInt32).toUInt32 >>> ((8 : Int32) &&& 31).toUInt32).toInt32).toInt = ((ni.toUInt32 >>> ((16 : Int32) &&& 31).toUInt32).toInt32).toInt / 256 := (by omega)); have f9 := congrArg Int32.toInt hv_v19; (try simp only [Int32.reduceToInt, Int64.reduceToInt] at f9); have f10 := rng32 v19; (try simp only [Int32.reduceToInt, Int64.reduceToInt] at f10); have f14 := rng32 ((v19.toUInt32 >>> ((2 : Int32) &&& 31).toUInt32).toInt32); (try simp only [Int32.reduceToInt, Int64.reduceToInt] at f14); have f15 := c_iushr v19 (2 : Int32) 2 (by decide) (by decide); (try simp only [Int32.reduceToInt, Int64.reduceToInt] at f15); (try have f15e : ((v19.toUInt32 >>> ((2 : Int32) &&& 31).toUInt32).toInt32).toInt = v19.toInt / 4 := (by omega)); have f16 := rng32 ((((v19.toUInt32 >>> ((2 : Int32) &&& 31).toUInt32).toInt32).toUInt32 >>> ((1 : Int32) &&& 31).toUInt32).toInt32); (try simp only [Int32.reduceToInt, Int64.reduceToInt] at f16); have f17 := c_iushr ((v19.toUInt32 >>> ((2 : Int32) &&& 31).toUInt32).toInt32) (1 : Int32) 1 (by decide) (by decide); (try simp only [Int32.reduceToInt, Int64.reduceToInt] at f17); (try have f17e : ((((v19.toUInt32 >>> ((2 : Int32) &&& 31).toUInt32).toInt32).toUInt32 >>> ((1 : Int32) &&& 31).toUInt32).toInt32).toInt = ((v19.toUInt32 >>> ((2 : Int32) &&& 31).toUInt32).toInt32).toInt / 2 := (by omega)); have f18 := rng32 ((5 : Int32) - ((((v19.toUInt32 >>> ((2 : Int32) &&& 31).toUInt32).toInt32).toUInt32 >>> ((1 : Int32) &&& 31).toUInt32).toInt32)); (try simp only [Int32.reduceToInt, Int64.reduceToInt] at f18); have f19 := c_isub (5 : Int32) ((((v19.toUInt32 >>> ((2 : Int32) &&& 31).toUInt32).toInt32).toUInt32 >>> ((1 : Int32) &&& 31).toUInt32).toInt32); (try simp only [Int32.reduceToInt, Int64.reduceToInt] at f19); (try have f19e : ((5 : Int32) - ((((v19.toUInt32 >>> ((2 : Int32) &&& 31).toUInt32).toInt32).toUInt32 >>> ((1 : Int32) &&& 31).toUInt32).toInt32)).toInt = (5 : Int) - ((((v19.toUInt32 >>> ((2 : Int32) &&& 31).toUInt32).toInt32).toUInt32 >>> ((1 : Int32) &&& 31).toUInt32).toInt32).toInt := (by omega)); (try simp only [Int32.reduceToInt, Int64.reduceToInt, and_true, true_and, or_true, true_or]); skip; have hu : ((((v19.toUInt32 >>> ((2 : Int32) &&& 31).toUInt32).toInt32).toUInt32 >>> ((1 : Int32) &&& 31).toUInt32).toInt32).toInt = 0 ∨ ((((v19.toUInt32 >>> ((2 : Int32) &&& 31).toUInt32).toInt32).toUInt32 >>> ((1 : Int32) &&& 31).toUInt32).toInt32).toInt = 1 := (by omega); rcases hu with hu | hu; exact Or.inr (Or.inr ⟨26, by decide, by omega, by omega, by omega⟩); first | exact Or.inr (Or.inr ⟨27, by decide, by omega, by omega, by omega⟩) | (exfalso; omega)), e0, rfl⟩
        · intro c20
          refine g_iinc (q := 57) (v := (3 : Int32)) (L' := #[.val (.int v19), .val (.int (3 : Int32))]) X0.here hx (hb hby d6_54) rfl rfl rfl rfl ?_
          refine g_iloadN (q := 58) X0.here hx (hb hby d6_57) rfl rfl ?_
          refine g_iconst (q := 59) (v := (4 : Int32)) X0.here hx (hb hby d6_58) rfl rfl ?_
          refine g_iushr (q := 60) X0.here hx (hb hby d6_59) rfl ?_
          refine g_istoreN (q := 61) (L' := #[.val (.int ((v19.toUInt32 >>> ((4 : Int32) &&& 31).toUInt32).toInt32)), .val (.int (3 : Int32))]) X0.here hx (hb hby d6_60) rfl rfl ?_
          refine g_iloadN (q := 62) X0.here hx (hb hby d6_61) rfl rfl ?_
          refine g_iconst (q := 63) (v := (4 : Int32)) X0.here hx (hb hby d6_62) rfl rfl ?_
          refine g_icmp_lt (q := 73) (q0 := 66) X0.here hx (hb hby d6_63) (by decide) (by decide) rfl ?_ ?_
          · intro c22
            refine g_iloadN (q := 74) X0.here hx (hb hby d6_73) rfl rfl ?_
            refine g_iloadN (q := 75) X0.here hx (hb hby d6_74) rfl rfl ?_
            refine g_iconst (q := 76) (v := (1 : Int32)) X0.here hx (hb hby d6_75) rfl rfl ?_
            refine g_iushr (q := 77) X0.here hx (hb hby d6_76) rfl ?_
            refine g_isub (q := 78) X0.here hx (hb hby d6_77) rfl ?_
            exact g_ireturn X0 hx hlk hrt (hb hby d6_78) (by decide) (by decide) ⟨_, rfl, (show (ni.toInt < 0 ∧ ((3 : Int32) - ((((v19.toUInt32 >>> ((4 : Int32) &&& 31).toUInt32).toInt32).toUInt32 >>> ((1 : Int32) &&& 31).toUInt32).toInt32)).toInt = 0) ∨ (ni.toInt = 0 ∧ ((3 : Int32) - ((((v19.toUInt32 >>> ((4 : Int32) &&& 31).toUInt32).toInt32).toUInt32 >>> ((1 : Int32) &&& 31).toUInt32).toInt32)).toInt = 32) ∨ (∃ k : Nat, k ≤ 30 ∧ ((3 : Int32) - ((((v19.toUInt32 >>> ((4 : Int32) &&& 31).toUInt32).toInt32).toUInt32 >>> ((1 : Int32) &&& 31).toUInt32).toInt32)).toInt = 31 - (k : Int) ∧ (2 : Int) ^ k ≤ ni.toInt ∧ ni.toInt < 2 ^ (k + 1)) by (try simp only [Int32.reduceToInt, Int64.reduceToInt, true_and, and_true, not_true_eq_false, not_false_eq_true, false_and, or_false, false_or] at c1); (try simp only [Int32.reduceToInt, Int64.reduceToInt, true_and, and_true, not_true_eq_false, not_false_eq_true, false_and, or_false, false_or] at c2); (try simp only [Int32.reduceToInt, Int64.reduceToInt, true_and, and_true, not_true_eq_false, not_false_eq_true, false_and, or_false, false_or] at c13); (try simp only [Int32.reduceToInt, Int64.reduceToInt, true_and, and_true, not_true_eq_false, not_false_eq_true, false_and, or_false, false_or] at hv_v19); (try simp only [Int32.reduceToInt, Int64.reduceToInt, true_and, and_true, not_true_eq_false, not_false_eq_true, false_and, or_false, false_or] at c20); (try simp only [Int32.reduceToInt, Int64.reduceToInt, true_and, and_true, not_true_eq_false, not_false_eq_true, false_and, or_false, false_or] at c22); have f1 := rng32 ni; (try simp only [Int32.reduceToInt, Int64.reduceToInt] at f1); have f3 := rng32 ((ni.toUInt32 >>> ((16 : Int32) &&& 31).toUInt32).toInt32); (try simp only [Int32.reduceToInt, Int64.reduceToInt] at f3); have f4 := c_iushr ni (16 : Int32) 16 (by decide) (by decide); (try simp only [Int32.reduceToInt, Int64.reduceToInt] at f4); (try have f4e : ((ni.toUInt32 >>> ((16 : Int32) &&& 31).toUInt32).toInt32).toInt = ni.toInt / 65536 := (by omega)); have f7 := rng32 ((((ni.toUInt32 >>> ((16 : Int32) &&& 31).toUInt32).toInt32).toUInt32 >>> ((8 : Int32) &&& 31).toUInt32).toInt32); (try simp only [Int32.reduceToInt, Int64.reduceToInt] at f7); have f8 := c_iushr ((ni.toUInt32 >>> ((16 : Int32) &&& 31).toUInt32).toInt32) (8 : Int32) 8 (by decide) (by decide); (try simp only [Int32.reduceToInt, Int64.reduceToInt] at f8); (try have f8e : ((((ni.toUInt32 >>> ((16 : Int32) &&& 31).toUInt32).toInt32).toUInt32 >>> ((8 : Int32) &&& 31).toUInt32).toInt32).toInt = ((ni.toUInt32 >>> ((16 : Int32) &&& 31).toUInt32).toInt32).toInt / 256 := (by omega)); have f9 := congrArg Int32.toInt hv_v19; (try simp only [Int32.reduceToInt, Int64.reduceToInt] at f9); have f10 := rng32 v19; (try simp only [Int32.reduceToInt, Int64.reduceToInt] at f10); have f12 := rng32 ((v19.toUInt32 >>> ((4 : Int32) &&& 31).toUInt32).toInt32); (try simp only [Int32.reduceToInt, Int64.reduceToInt] at f12); have f13 := c_iushr v19 (4 : Int32) 4 (by decide) (by decide); (try simp only [Int32.reduceToInt, Int64.reduceToInt] at f13); (try have f13e : ((v19.toUInt32 >>> ((4 : Int32) &&& 31).toUInt32).toInt32).toInt = v19.toInt / 16 := (by omega)); have f16 := rng32 ((((v19.toUInt32 >>> ((4 : Int32) &&& 31).toUInt32).toInt32).toUInt32 >>> ((1 : Int32) &&& 31).toUInt32).toInt32); (try simp only [Int32.reduceToInt, Int64.reduceToInt] at f16); have f17 := c_iushr ((v19.toUInt32 >>> ((4 : Int32) &&& 31).toUInt32).toInt32) (1 : Int32) 1 (by decide) (by decide); (try simp only [Int32.reduceToInt, Int64.reduceToInt] at f17); (try have f17e : ((((v19.toUInt32 >>> ((4 : Int32) &&& 31).toUInt32).toInt32).toUInt32 >>> ((1 : Int32) &&& 31).toUInt32).toInt32).toInt = ((v19.toUInt32 >>> ((4 : Int32) &&& 31).toUInt32).toInt32).toInt / 2 := (by omega)); have f18 := rng32 ((3 : Int32) - ((((v19.toUInt32 >>> ((4 : Int32) &&& 31).toUInt32).toInt32).toUInt32 >>> ((1 : Int32) &&& 31).toUInt32).toInt32)); (try simp only [Int32.reduceToInt, Int64.reduceToInt] at f18); have f19 := c_isub (3 : Int32) ((((v19.toUInt32 >>> ((4 : Int32) &&& 31).toUInt32).toInt32).toUInt32 >>> ((1 : Int32) &&& 31).toUInt32).toInt32); (try simp only [Int32.reduceToInt, Int64.reduceToInt] at f19); (try have f19e : ((3 : Int32) - ((((v19.toUInt32 >>> ((4 : Int32) &&& 31).toUInt32).toInt32).toUInt32 >>> ((1 : Int32) &&& 31).toUInt32).toInt32)).toInt = (3 : Int) - ((((v19.toUInt32 >>> ((4 : Int32) &&& 31).toUInt32).toInt32).toUInt32 >>> ((1 : Int32) &&& 31).toUInt32).toInt32).toInt := (by omega)); (try simp only [Int32.reduceToInt, Int64.reduceToInt, and_true, true_and, or_true, true_or]); skip; have hu : ((((v19.toUInt32 >>> ((4 : Int32) &&& 31).toUInt32).toInt32).toUInt32 >>> ((1 : Int32) &&& 31).toUInt32).toInt32).toInt = 0 ∨ ((((v19.toUInt32 >>> ((4 : Int32) &&& 31).toUInt32).toInt32).toUInt32 >>> ((1 : Int32) &&& 31).toUInt32).toInt32).toInt = 1 := (by omega); rcases hu with hu | hu; exact Or.inr (Or.inr ⟨28, by decide, by omega, by omega, by omega⟩); first | exact Or.inr (Or.inr ⟨29, by decide, by omega, by omega, by omega⟩) | (exfalso; omega)), e0, rfl⟩
          · intro c22
            refine g_iinc (q := 69) (v := (1 : Int32)) (L' := #[.val (.int ((v19.toUInt32 >>> ((4 : Int32) &&& 31).toUInt32).toInt32)), .val (.int (1 : Int32))]) X0.here hx (hb hby d6_66) rfl rfl rfl rfl ?_
            refine g_iloadN (q := 70) X0.here hx (hb hby d6_69) rfl rfl ?_
            refine g_iconst (q := 71) (v := (2 : Int32)) X0.here hx (hb hby d6_70) rfl rfl ?_
            refine g_iushr (q := 72) X0.here hx (hb hby d6_71) rfl ?_
            generalize hv_v23 : ((((v19.toUInt32 >>> ((4 : Int32) &&& 31).toUInt32).toInt32).toUInt32 >>> ((2 : Int32) &&& 31).toUInt32).toInt32) = v23
            refine g_istoreN (q := 73) (L' := #[.val (.int v23), .val (.int (1 : Int32))]) X0.here hx (hb hby d6_72) rfl rfl ?_
            refine g_iloadN (q := 74) X0.here hx (hb hby d6_73) rfl rfl ?_
            refine g_iloadN (q := 75) X0.here hx (hb hby d6_74) rfl rfl ?_
            refine g_iconst (q := 76) (v := (1 : Int32)) X0.here hx (hb hby d6_75) rfl rfl ?_
            refine g_iushr (q := 77) X0.here hx (hb hby d6_76) rfl ?_
            refine g_isub (q := 78) X0.here hx (hb hby d6_77) rfl ?_
            exact g_ireturn X0 hx hlk hrt (hb hby d6_78) (by decide) (by decide) ⟨_, rfl, (show (ni.toInt < 0 ∧ ((1 : Int32) - ((v23.toUInt32 >>> ((1 : Int32) &&& 31).toUInt32).toInt32)).toInt = 0) ∨ (ni.toInt = 0 ∧ ((1 : Int32) - ((v23.toUInt32 >>> ((1 : Int32) &&& 31).toUInt32).toInt32)).toInt = 32) ∨ (∃ k : Nat, k ≤ 30 ∧ ((1 : Int32) - ((v23.toUInt32 >>> ((1 : Int32) &&& 31).toUInt32).toInt32)).toInt = 31 - (k : Int) ∧ (2 : Int) ^ k ≤ ni.toInt ∧ ni.toInt < 2 ^ (k + 1)) by (try simp only [Int32.reduceToInt, Int64.reduceToInt, true_and, and_true, not_true_eq_false, not_false_eq_true, false_and, or_false, false_or] at c1); (try simp only [Int32.reduceToInt, Int64.reduceToInt, true_and, and_true, not_true_eq_false, not_false_eq_true, false_and, or_false, false_or] at c2); (try simp only [Int32.reduceToInt, Int64.reduceToInt, true_and, and_true, not_true_eq_false, not_false_eq_true, false_and, or_false, false_or] at c13); (try simp only [Int32.reduceToInt, Int64.reduceToInt, true_and, and_true, not_true_eq_false, not_false_eq_true, false_and, or_false, false_or] at hv_v19); (try simp only [Int32.reduceToInt, Int64.reduceToInt, true_and, and_true, not_true_eq_false, not_false_eq_true, false_and, or_false, false_or] at c20); (try simp only [Int32.reduceToInt, Int64.reduceToInt, true_and, and_true, not_true_eq_false, not_false_eq_true, false_and, or_false, false_or] at c22); (try simp only [Int32.reduceToInt, Int64.reduceToInt, true_and, and_true, not_true_eq_false, not_false_eq_true, false_and, or_false, false_or] at hv_v23); have f1 := rng32 ni; (try simp only [Int32.reduceToInt, Int64.reduceToInt] at f1); have f3 := rng32 ((ni.toUInt32 >>> ((16 : Int32) &&& 31).toUInt32).toInt32); (try simp only [Int32.reduceToInt, Int64.reduceToInt] at f3); have f4 := c_iushr ni (16 : Int32) 16 (by decide) (by decide); (try simp only [Int32.reduceToInt, Int64.reduceToInt] at f4); (try have f4e : ((ni.toUInt32 >>> ((16 : Int32) &&& 31).toUInt32).toInt32).toInt = ni.toInt / 65536 := (by omega)); have f7 := rng32 ((((ni.toUInt32 >>> ((16 : Int32) &&& 31).toUInt32).toInt32).toUInt32 >>> ((8 : Int32) &&& 31).toUInt32).toInt32); (try simp only [Int32.reduceToInt, Int64.reduceToInt] at f7); have f8 := c_iushr ((ni.toUInt32 >>> ((16 : Int32) &&& 31).toUInt32).toInt32) (8 : Int32) 8 (by decide) (by decide); (try simp only [Int32.reduceToInt, Int64.reduceToInt] at f8); (try have f8e : ((((ni.toUInt32 >>> ((16 : Int32) &&& 31).toUInt32).toInt32).toUInt32 >>> ((8 : Int32) &&& 31).toUInt32).toInt32).toInt = ((ni.toUInt32 >>> ((16 : Int32) &&& 31).toUInt32).toInt32).toInt / 256 := (by omega)); have f9 := congrArg Int32.toInt hv_v19; (try simp only [Int32.reduceToInt, Int64.reduceToInt] at f9); have f10 := rng32 v19; (try simp only [Int32.reduceToInt, Int64.reduceToInt] at f10); have f12 := rng32 ((v19.toUInt32 >>> ((4 : Int32) &&& 31).toUInt32).toInt32); (try simp only [Int32.reduceToInt, Int64.reduceToInt] at f12); have f13 := c_iushr v19 (4 : Int32) 4 (by decide) (by decide); (try simp only [Int32.reduceToInt, Int64.reduceToInt] at f13); (try have f13e : ((v19.toUInt32 >>> ((4 : Int32) &&& 31).toUInt32).toInt32).toInt = v19.toInt / 16 := (by omega)); have f18 := rng32 ((((v19.toUInt32 >>> ((4 : Int32) &&& 31).toUInt32).toInt32).toUInt32 >>> ((2 : Int32) &&& 31).toUInt32).toInt32); (try simp only [Int32.reduceToInt, Int64.reduceToInt] at f18); have f19 := c_iushr ((v19.toUInt32 >>> ((4 : Int32) &&& 31).toUInt32).toInt32) (2 : Int32) 2 (by decide) (by decide); (try simp only [Int32.reduceToInt, Int64.reduceToInt] at f19); (try have f19e : ((((v19.toUInt32 >>> ((4 : Int32) &&& 31).toUInt32).toInt32).toUInt32 >>> ((2 : Int32) &&& 31).toUInt32).toInt32).toInt = ((v19.toUInt32 >>> ((4 : Int32) &&& 31).toUInt32).toInt32).toInt / 4 := (by omega)); have f20 := congrArg Int32.toInt hv_v23; (try simp only [Int32.reduceToInt, Int64.reduceToInt] at f20); have f21 := rng32 v23; (try simp only [Int32.reduceToInt, Int64.reduceToInt] at f21); have f22 := rng32 ((v23.toUInt32 >>> ((1 : Int32) &&& 31).toUInt32).toInt32); (try simp only [Int32.reduceToInt, Int64.reduceToInt] at f22); have f23 := c_iushr v23 (1 : Int32) 1 (by decide) (by decide); (try simp only [Int32.reduceToInt, Int64.reduceToInt] at f23); (try have f23e : ((v23.toUInt32 >>> ((1 : Int32) &&& 31).toUInt32).toInt32).toInt = v23.toInt / 2 := (by omega)); have f24 := rng32 ((1 : Int32) - ((v23.toUInt32 >>> ((1 : Int32) &&& 31).toUInt32).toInt32)); (try simp only [Int32.reduceToInt, Int64.reduceToInt] at f24); have f25 := c_isub (1 : Int32) ((v23.toUInt32 >>> ((1 : Int32) &&& 31).toUInt32).toInt32); (try simp only [Int32.reduceToInt, Int64.reduceToInt] at f25); (try have f25e : ((1 : Int32) - ((v23.toUInt32 >>> ((1 : Int32) &&& 31).toUInt32).toInt32)).toInt = (1 : Int) - ((v23.toUInt32 >>> ((1 : Int32) &&& 31).toUInt32).toInt32).toInt := (by omega)); (try simp only [Int32.reduceToInt, Int64.reduceToInt, and_true, true_and, or_true, true_or]); skip; have hu : ((v23.toUInt32 >>> ((1 : Int32) &&& 31).toUInt32).toInt32).toInt = 0 ∨ ((v23.toUInt32 >>> ((1 : Int32) &&& 31).toUInt32).toInt32).toInt = 1 := (by omega); rcases hu with hu | hu; exact Or.inr (Or.inr ⟨30, by decide, by omega, by omega, by omega⟩); first | exact Or.inr (Or.inr ⟨31, by decide, by omega, by omega, by omega⟩) | (exfalso; omega)), e0, rfl⟩
  · intro c1
    refine g_iloadN (q := 5) X0.here hx (hb hby d6_4) rfl rfl ?_
    refine g_if_ne (q := 13) (q0 := 8) X0.here hx (hb hby d6_5) (by decide) (by decide) rfl ?_ ?_
    · intro c24
      refine g_iconst (q := 14) (v := (0 : Int32)) X0.here hx (hb hby d6_13) rfl rfl ?_
      exact g_ireturn X0 hx hlk hrt (hb hby d6_14) (by decide) (by decide) ⟨_, rfl, (show (ni.toInt < 0 ∧ (0 : Int32).toInt = 0) ∨ (ni.toInt = 0 ∧ (0 : Int32).toInt = 32) ∨ (∃ k : Nat, k ≤ 30 ∧ (0 : Int32).toInt = 31 - (k : Int) ∧ (2 : Int) ^ k ≤ ni.toInt ∧ ni.toInt < 2 ^ (k + 1)) by (try simp only [Int32.reduceToInt, Int64.reduceToInt] at c1); (try simp only [Int32.reduceToInt, Int64.reduceToInt] at c24);  first | exact Or.inl ⟨by omega, by decide⟩ | exact Or.inr (Or.inl ⟨by omega, by decide⟩)), e0, rfl⟩
    · intro c24
      refine g_bipush (q := 10) (v := (32 : Int32)) X0.here hx (hb hby d6_8) rfl rfl ?_
      refine g_goto (q := 14) X0.here hx (hb hby d6_10) (by decide) (by decide) ?_
      exact g_ireturn X0 hx hlk hrt (hb hby d6_14) (by decide) (by decide) ⟨_, rfl, (show (ni.toInt < 0 ∧ (32 : Int32).toInt = 0) ∨ (ni.toInt = 0 ∧ (32 : Int32).toInt = 32) ∨ (∃ k : Nat, k ≤ 30 ∧ (32 : Int32).toInt = 31 - (k : Int) ∧ (2 : Int) ^ k ≤ ni.toInt ∧ ni.toInt < 2 ^ (k + 1)) by (try simp only [Int32.reduceToInt, Int64.reduceToInt] at c1); (try simp only [Int32.reduceToInt, Int64.reduceToInt] at c24);  first | exact Or.inl ⟨by omega, by decide⟩ | exact Or.inr (Or.inl ⟨by omega, by decide⟩)), e0, rfl⟩
theorem pd_0 : parseMethodDescriptor "(I)I" = some ⟨[.int], some .int⟩ := by decide +kernel
def RM_rm5 : Room := ({ frames := 1, cells := 0, slots := 0, locals := 14 } : Room)
theorem d5_0 : decode jdk_35_method_48_code 0 = .ok (.lload_n 0, 1) := by decide +kernel
theorem d5_1 : decode jdk_35_method_48_code 1 = .ok (.bipush 32, 2) := by decide +kernel
theorem d5_3 : decode jdk_35_method_48_code 3 = .ok (.lushr, 1) := by decide +kernel
theorem d5_4 : decode jdk_35_method_48_code 4 = .ok (.l2i, 1) := by decide +kernel
theorem d5_5 : decode jdk_35_method_48_code 5 = .ok (.istore_n 2, 1) := by decide +kernel
theorem d5_6 : decode jdk_35_method_48_code 6 = .ok (.iload_n 2, 1) := by decide +kernel
theorem d5_7 : decode jdk_35_method_48_code 7 = .ok (.ifCond .ne 14, 3) := by decide +kernel
theorem d5_10 : decode jdk_35_method_48_code 10 = .ok (.bipush 32, 2) := by decide +kernel
theorem d5_12 : decode jdk_35_method_48_code 12 = .ok (.lload_n 0, 1) := by decide +kernel
theorem d5_13 : decode jdk_35_method_48_code 13 = .ok (.l2i, 1) := by decide +kernel
theorem d5_14 : decode jdk_35_method_48_code 14 = .ok (.invokestatic 308, 3) := by decide +kernel
theorem d5_17 : decode jdk_35_method_48_code 17 = .ok (.iadd, 1) := by decide +kernel
theorem d5_18 : decode jdk_35_method_48_code 18 = .ok (.goto 7, 3) := by decide +kernel
theorem d5_21 : decode jdk_35_method_48_code 21 = .ok (.iload_n 2, 1) := by decide +kernel
theorem d5_22 : decode jdk_35_method_48_code 22 = .ok (.invokestatic 308, 3) := by decide +kernel
theorem d5_25 : decode jdk_35_method_48_code 25 = .ok (.ireturn, 1) := by decide +kernel
theorem ef_5 (m : MethodId) (z0 : Int64) : entryFrame m #[.long z0] 3 = mkF m 0 #[.val (.long z0), .second, .unset] [] := by first | (simp [entryFrame, mkF, argsToLocals, Value.category]; done) | rfl
theorem pn_3 : plainName "java/lang/Long" = true := by first | (simp [plainName, overriddenIn]; done) | decide +kernel
set_option maxRecDepth 65536 in
set_option maxHeartbeats 40000000 in
theorem rm5 (l : Launch) (Z : State) (a0 : Array Value) (hw : ∀ d ∈ tables_1, d.before a0 Z = true) (ws : List Jvm.Cond) (nx : Int64) (h0 : Heap) (n0 : Nat) (Z0 : n0 ≤ h0.size) (hpos : 0 < nx.toInt) :
    Ctr l Z (⟨"java/lang/Long", "numberOfLeadingZeros", "(J)I"⟩ : MethodName) jdk_35_method_48_code 3 (some .int) RM_rm5 ws #[.long nx] h0 (IQ (fun r => ∃ k : Nat, k ≤ 62 ∧ r.toInt = 63 - (k : Int) ∧ (2 : Int) ^ k ≤ nx.toInt ∧ nx.toInt < 2 ^ (k + 1)) h0) := by
  refine Ctr.of (plainFor_of_name pn_3) ?_
  intro p e s m below meth c s₁ hx hby hml hrt hlk hnm hown hZ X0 e0
  have N0 := Fr.nil n0
  refine Go.cast (ef_5 m nx) ?_
  refine g_lloadN (q := 1) X0.here hx (hb hby d5_0) rfl rfl ?_
  refine g_bipush (q := 3) (v := (32 : Int32)) X0.here hx (hb hby d5_1) rfl rfl ?_
  refine g_lushr (q := 4) X0.here hx (hb hby d5_3) rfl ?_
  refine g_l2i (q := 5) X0.here hx (hb hby d5_4) rfl ?_
  refine g_istoreN (q := 6) (L' := #[.val (.long nx), .second, .val (.int (((nx.toUInt64 >>> ((32 : Int32) &&& 0x3f).toInt64.toUInt64).toInt64).toInt32))]) X0.here hx (hb hby d5_5) rfl rfl ?_
  refine g_iloadN (q := 7) X0.here hx (hb hby d5_6) rfl rfl ?_
  refine g_if_ne (q := 21) (q0 := 10) X0.here hx (hb hby d5_7) (by decide) (by decide) rfl ?_ ?_
  · intro c1
    refine g_iloadN (q := 22) X0.here hx (hb hby d5_21) rfl rfl ?_
    refine g_callSI (q := 25) X0 hx hZ hown (hw _ (List.mem_of_getElem? (i := 23) rfl)) (hw _ (List.mem_of_getElem? (i := 24) rfl)) (hw _ (List.mem_of_getElem? (i := 25) rfl)) (hw _ (List.mem_of_getElem? (i := 26) rfl)) (by decide) (rm6 l Z a0 hw [] (((nx.toUInt64 >>> ((32 : Int32) &&& 0x3f).toInt64.toUInt64).toInt64).toInt32) h0 n0 Z0) (argsL := [.int (((nx.toUInt64 >>> ((32 : Int32) &&& 0x3f).toInt64.toUInt64).toInt64).toInt32)]) (rest := []) pd_0 rfl rfl rfl (hb hby d5_22) rfl (by rw [hml]; rfl) e0 (by decide) (W := 0) rfl (by decide) rfl rfl (by decide) (by decide) ?_
    intro T2 r3 X2 e2 hr3
    exact g_ireturn X2 hx hlk hrt (hb hby d5_25) (by decide) (by decide) ⟨_, rfl, (show ∃ k : Nat, k ≤ 62 ∧ r3.toInt = 63 - (k : Int) ∧ (2 : Int) ^ k ≤ nx.toInt ∧ nx.toInt < 2 ^ (k + 1) by (try simp only [Int32.reduceToInt, Int64.reduceToInt, true_and, and_true, not_true_eq_false, not_false_eq_true, false_and, or_false, false_or] at c1); (try simp only [Int32.reduceToInt, Int64.reduceToInt, true_and, and_true, not_true_eq_false, not_false_eq_true, false_and, or_false, false_or] at hr3); have f3 := rng64 nx; (try simp only [Int32.reduceToInt, Int64.reduceToInt] at f3); have f4 := rng64 ((nx.toUInt64 >>> ((32 : Int32) &&& 0x3f).toInt64.toUInt64).toInt64); (try simp only [Int32.reduceToInt, Int64.reduceToInt] at f4); have f5 := c_lushr nx (32 : Int32) 32 (by decide) (by decide); (try simp only [Int32.reduceToInt, Int64.reduceToInt] at f5); (try have f5e : ((nx.toUInt64 >>> ((32 : Int32) &&& 0x3f).toInt64.toUInt64).toInt64).toInt = nx.toInt / 4294967296 := (by omega)); have f6 := rng32 (((nx.toUInt64 >>> ((32 : Int32) &&& 0x3f).toInt64.toUInt64).toInt64).toInt32); (try simp only [Int32.reduceToInt, Int64.reduceToInt] at f6); have f7 := c_l2i ((nx.toUInt64 >>> ((32 : Int32) &&& 0x3f).toInt64.toUInt64).toInt64); (try simp only [Int32.reduceToInt, Int64.reduceToInt] at f7); (try have f7e : (((nx.toUInt64 >>> ((32 : Int32) &&& 0x3f).toInt64.toUInt64).toInt64).toInt32).toInt = ((nx.toUInt64 >>> ((32 : Int32) &&& 0x3f).toInt64.toUInt64).toInt64).toInt := (by omega)); have f9 := rng32 r3; (try simp only [Int32.reduceToInt, Int64.reduceToInt] at f9); (try simp only [Int32.reduceToInt, Int64.reduceToInt, and_true, true_and, or_true, true_or]); skip; rcases hr3 with ⟨q1, q2⟩ | ⟨q1, q2⟩ | ⟨k, q0, q1, q2, q3⟩; exfalso; omega; exfalso; omega; exact ⟨k + 32, by omega, by omega, by rw [Int.pow_add]; generalize (2 : Int) ^ k = P at *; omega, by rw [show k + 32 + 1 = (k + 1) + 32 by omega, Int.pow_add]; generalize (2 : Int) ^ (k + 1) = P at *; omega⟩), e2, rfl⟩
  · intro c1
    refine g_bipush (q := 12) (v := (32 : Int32)) X0.here hx (hb hby d5_10) rfl rfl ?_
    refine g_lloadN (q := 13) X0.here hx (hb hby d5_12) rfl rfl ?_
    refine g_l2i (q := 14) X0.here hx (hb hby d5_13) rfl ?_
    refine g_callSI (q := 17) X0 hx hZ hown (hw _ (List.mem_of_getElem? (i := 23) rfl)) (hw _ (List.mem_of_getElem? (i := 24) rfl)) (hw _ (List.mem_of_getElem? (i := 25) rfl)) (hw _ (List.mem_of_getElem? (i := 26) rfl)) (by decide) (rm6 l Z a0 hw [] nx.toInt32 h0 n0 Z0) (argsL := [.int nx.toInt32]) (rest := [.int (32 : Int32)]) pd_0 rfl rfl rfl (hb hby d5_14) rfl (by rw [hml]; rfl) e0 (by decide) (W := 1) rfl (by decide) rfl rfl (by decide) (by decide) ?_
    intro T4 r5 X4 e4 hr5
    refine g_iadd (q := 18) X4.here hx (hb hby d5_17) rfl ?_
    refine g_goto (q := 25) X4.here hx (hb hby d5_18) (by decide) (by decide) ?_
    exact g_ireturn X4 hx hlk hrt (hb hby d5_25) (by decide) (by decide) ⟨_, rfl, (show ∃ k : Nat, k ≤ 62 ∧ ((32 : Int32) + r5).toInt = 63 - (k : Int) ∧ (2 : Int) ^ k ≤ nx.toInt ∧ nx.toInt < 2 ^ (k + 1) by (try simp only [Int32.reduceToInt, Int64.reduceToInt, true_and, and_true, not_true_eq_false, not_false_eq_true, false_and, or_false, false_or] at c1); (try simp only [Int32.reduceToInt, Int64.reduceToInt, true_and, and_true, not_true_eq_false, not_false_eq_true, false_and, or_false, false_or] at hr5); have f3 := rng64 nx; (try simp only [Int32.reduceToInt, Int64.reduceToInt] at f3); have f4 := rng64 ((nx.toUInt64 >>> ((32 : Int32) &&& 0x3f).toInt64.toUInt64).toInt64); (try simp only [Int32.reduceToInt, Int64.reduceToInt] at f4); have f5 := c_lushr nx (32 : Int32) 32 (by decide) (by decide); (try simp only [Int32.reduceToInt, Int64.reduceToInt] at f5); (try have f5e : ((nx.toUInt64 >>> ((32 : Int32) &&& 0x3f).toInt64.toUInt64).toInt64).toInt = nx.toInt / 4294967296 := (by omega)); have f6 := rng32 (((nx.toUInt64 >>> ((32 : Int32) &&& 0x3f).toInt64.toUInt64).toInt64).toInt32); (try simp only [Int32.reduceToInt, Int64.reduceToInt] at f6); have f7 := c_l2i ((nx.toUInt64 >>> ((32 : Int32) &&& 0x3f).toInt64.toUInt64).toInt64); (try simp only [Int32.reduceToInt, Int64.reduceToInt] at f7); (try have f7e : (((nx.toUInt64 >>> ((32 : Int32) &&& 0x3f).toInt64.toUInt64).toInt64).toInt32).toInt = ((nx.toUInt64 >>> ((32 : Int32) &&& 0x3f).toInt64.toUInt64).toInt64).toInt := (by omega)); have f9 := rng32 nx.toInt32; (try simp only [Int32.reduceToInt, Int64.reduceToInt] at f9); have f10 := c_l2i nx; (try simp only [Int32.reduceToInt, Int64.reduceToInt] at f10); (try have f10e : nx.toInt32.toInt = nx.toInt := (by omega)); have f13 := rng32 r5; (try simp only [Int32.reduceToInt, Int64.reduceToInt] at f13); have f14 := rng32 ((32 : Int32) + r5); (try simp only [Int32.reduceToInt, Int64.reduceToInt] at f14); have f15 := c_iadd (32 : Int32) r5; (try simp only [Int32.reduceToInt, Int64.reduceToInt] at f15); (try have f15e : ((32 : Int32) + r5).toInt = (32 : Int) + r5.toInt := (by omega)); (try simp only [Int32.reduceToInt, Int64.reduceToInt, and_true, true_and, or_true, true_or]); skip; rcases hr5 with ⟨q1, q2⟩ | ⟨q1, q2⟩ | ⟨k, q0, q1, q2, q3⟩; exact ⟨31, by decide, by omega, by omega, by omega⟩; exfalso; omega; exact ⟨k, by omega, by omega, by (have : nx.toInt32.toInt = nx.toInt := (by omega)); omega, by (have : nx.toInt32.toInt = nx.toInt := (by omega)); omega⟩), e4, rfl⟩
theorem pd_1 : parseMethodDescriptor "(J)I" = some ⟨[.long], some .int⟩ := by decide +kernel
def RM_rm4 : Room := ({ frames := 2, cells := 0, slots := 0, locals := 32 } : Room)
theorem d4_0 : decode jdk_35_method_46_code 0 = .ok (.lload_n 0, 1) := by decide +kernel
theorem d4_1 : decode jdk_35_method_46_code 1 = .ok (.ldc2_w 168, 3) := by decide +kernel
theorem d4_4 : decode jdk_35_method_46_code 4 = .ok (.lload_n 0, 1) := by decide +kernel
theorem d4_5 : decode jdk_35_method_46_code 5 = .ok (.invokestatic 98, 3) := by decide +kernel
theorem d4_8 : decode jdk_35_method_46_code 8 = .ok (.lushr, 1) := by decide +kernel
theorem d4_9 : decode jdk_35_method_46_code 9 = .ok (.land, 1) := by decide +kernel
theorem d4_10 : decode jdk_35_method_46_code 10 = .ok (.lreturn, 1) := by decide +kernel
theorem ef_4 (m : MethodId) (z0 : Int64) : entryFrame m #[.long z0] 2 = mkF m 0 #[.val (.long z0), .second] [] := by first | (simp [entryFrame, mkF, argsToLocals, Value.category]; done) | rfl
set_option maxRecDepth 65536 in
set_option maxHeartbeats 40000000 in
theorem rm4 (l : Launch) (Z : State) (a0 : Array Value) (hw : ∀ d ∈ tables_1, d.before a0 Z = true) (ws : List Jvm.Cond) (nx : Int64) (h0 : Heap) (n0 : Nat) (Z0 : n0 ≤ h0.size) (hpos : 0 < nx.toInt) :
    Ctr l Z (⟨"java/lang/Long", "highestOneBit", "(J)J"⟩ : MethodName) jdk_35_method_46_code 2 (some .long) RM_rm4 ws #[.long nx] h0 (JQ (fun r => ∃ k : Nat, k ≤ 62 ∧ r.toInt = 2 ^ k ∧ (2 : Int) ^ k ≤ nx.toInt ∧ nx.toInt < 2 ^ (k + 1)) h0) := by
  refine Ctr.of (plainFor_of_name pn_3) ?_
  intro p e s m below meth c s₁ hx hby hml hrt hlk hnm hown hZ X0 e0
  have N0 := Fr.nil n0
  refine Go.cast (ef_4 m nx) ?_
  refine g_lloadN (q := 1) X0.here hx (hb hby d4_0) rfl rfl ?_
  refine g_ldc2J (q := 4) X0 hx hZ hown (hw _ (List.mem_of_getElem? (i := 19) rfl)) (hb hby d4_1) rfl ?_
  refine g_lloadN (q := 5) X0.here hx (hb hby d4_4) rfl rfl ?_
  refine g_callSI (q := 8) X0 hx hZ hown (hw _ (List.mem_of_getElem? (i := 20) rfl)) (hw _ (List.mem_of_getElem? (i := 21) rfl)) (hw _ (List.mem_of_getElem? (i := 17) rfl)) (hw _ (List.mem_of_getElem? (i := 22) rfl)) (by decide) (rm5 l Z a0 hw [] nx h0 n0 Z0 hpos) (argsL := [.long nx]) (rest := [.long (-9223372036854775808 : Int64), .long nx]) pd_1 rfl rfl rfl (hb hby d4_5) rfl (by rw [hml]; rfl) e0 (by decide) (W := 4) rfl (by decide) rfl rfl (by decide) (by decide) ?_
  intro T1 r2 X1 e1 hr2
  refine g_lushr (q := 9) X1.here hx (hb hby d4_8) rfl ?_
  refine g_land (q := 10) X1.here hx (hb hby d4_9) rfl ?_
  exact g_lreturn X1 hx hlk hrt (hb hby d4_10) (by decide) (by decide) ⟨_, rfl, (by obtain ⟨k, q0, q1, q2, q3⟩ := hr2; exact ⟨k, q0, own_hob q0 q1 q2 q3, q2, q3⟩), e1, rfl⟩
theorem own_grt_4 {ln : Int32} {nd r3 r5 r8 r10 : Int64} (hln : 0 ≤ ln.toInt) (hnd : 0 ≤ nd.toInt ∧ nd.toInt ≤ 2147483639) (hr3 : nd.toInt ≤ r3.toInt ∧ ((2 : Int64) * ln.toInt64).toInt ≤ r3.toInt ∧ (r3.toInt = nd.toInt ∨ r3.toInt = ((2 : Int64) * ln.toInt64).toInt)) (hr8 : ∃ k : Nat, k ≤ 62 ∧ r8.toInt = 2 ^ k ∧ (2 : Int) ^ k ≤ ((16 : Int64) + (r3 * (4 : Int64))).toInt ∧ ((16 : Int64) + (r3 * (4 : Int64))).toInt < 2 ^ (k + 1)) (hr5 : ∃ k : Nat, k ≤ 62 ∧ r5.toInt = 2 ^ k ∧ (2 : Int) ^ k ≤ ((16 : Int64) + (r3 * (4 : Int64))).toInt ∧ ((16 : Int64) + (r3 * (4 : Int64))).toInt < 2 ^ (k + 1)) (c6 : ¬ r5.toInt = ((16 : Int64) + (r3 * (4 : Int64))).toInt) (hr10 : r10.toInt ≤ (2147483639 : Int64).toInt ∧ r10.toInt ≤ (((r8 <<< ((1 : Int32) &&& 0x3f).toInt64) - (16 : Int64)) / (4 : Int64)).toInt ∧ (r10.toInt = (2147483639 : Int64).toInt ∨ r10.toInt = (((r8 <<< ((1 : Int32) &&& 0x3f).toInt64) - (16 : Int64)) / (4 : Int64)).toInt)) : ∃ (k : Nat) (mx : Int), 4 ≤ k ∧ k ≤ 37 ∧ nd.toInt ≤ mx ∧ 2 * ln.toInt ≤ mx ∧ (mx = nd.toInt ∨ mx = 2 * ln.toInt) ∧ 16 + mx * 4 ≤ 2 ^ k ∧ (2 : Int) ^ k < 2 * (16 + mx * 4) ∧ ((r10.toInt32.toInt = 2147483639 ∧ 2147483639 ≤ ((2 : Int) ^ k - 16) / 4) ∨ (r10.toInt32.toInt = ((2 : Int) ^ k - 16) / 4 ∧ ((2 : Int) ^ k - 16) / 4 < 2147483639)) := by
  have e1 : ((2 : Int64) * ln.toInt64).toInt = 2 * ln.toInt := (by have f3 := rng32 ln; (try simp only [Int32.reduceToInt, Int64.reduceToInt] at f3); have f4 := c_i2l ln; (try simp only [Int32.reduceToInt, Int64.reduceToInt] at f4); have f5 := rng64 ((2 : Int64) * ln.toInt64); (try simp only [Int32.reduceToInt, Int64.reduceToInt] at f5); have f6 := c_lmul (2 : Int64) ln.toInt64; (try simp only [Int32.reduceToInt, Int64.reduceToInt] at f6); (try have f6e : ((2 : Int64) * ln.toInt64).toInt = (2 : Int) * ln.toInt64.toInt := (by omega)); omega)
  rw [e1] at hr3
  have g0 := rng32 ln
  have b3 : 0 ≤ r3.toInt ∧ r3.toInt ≤ 4294967294 := (by omega)
  have e2 : ((16 : Int64) + (r3 * (4 : Int64))).toInt = 16 + r3.toInt * 4 := (by have f3 := rng64 r3; (try simp only [Int32.reduceToInt, Int64.reduceToInt] at f3); have f4 := rng64 (r3 * (4 : Int64)); (try simp only [Int32.reduceToInt, Int64.reduceToInt] at f4); have f5 := c_lmul r3 (4 : Int64); (try simp only [Int32.reduceToInt, Int64.reduceToInt] at f5); (try have f5e : (r3 * (4 : Int64)).toInt = r3.toInt * (4 : Int) := (by omega)); have f6 := rng64 ((16 : Int64) + (r3 * (4 : Int64))); (try simp only [Int32.reduceToInt, Int64.reduceToInt] at f6); have f7 := c_ladd (16 : Int64) (r3 * (4 : Int64)); (try simp only [Int32.reduceToInt, Int64.reduceToInt] at f7); (try have f7e : ((16 : Int64) + (r3 * (4 : Int64))).toInt = (16 : Int) + (r3 * (4 : Int64)).toInt := (by omega)); omega)
  rw [e2] at hr8
  obtain ⟨k, q0, q1, q2, q3⟩ := hr8
  rw [e2] at hr5 c6
  obtain ⟨k', p0, p1, p2, p3⟩ := hr5
  have hkk := own_pu q2 q3 p2 p3
  rw [← hkk] at p1
  rw [p1] at c6
  clear p0 p1 p2 p3 hkk
  have hpow : (2 : Int) ^ (k + 1) = 2 * 2 ^ k := (by rw [Int.pow_succ, Int.mul_comm])
  rw [hpow] at q3
  have q4 : 3 ≤ k := (by rcases Nat.lt_or_ge k 3 with h | h; exfalso; have h5 := own_powle (show k ≤ 2 by omega); omega; exact h)
  have q5 : k ≤ 36 := (by rcases Nat.lt_or_ge k 37 with h | h; omega; exfalso; have h5 := own_powle h; omega)
  have hM : (2147483639 : Int64).toInt = 2147483639 := (by decide)
  rw [hM] at hr10
  generalize hP : (2 : Int) ^ k = P at *
  have e3 : (((r8 <<< ((1 : Int32) &&& 0x3f).toInt64) - (16 : Int64)) / (4 : Int64)).toInt = (2 * P - 16) / 4 := (by have f4 := rng64 r8; (try simp only [Int32.reduceToInt, Int64.reduceToInt] at f4); have f5 := rng64 (r8 <<< ((1 : Int32) &&& 0x3f).toInt64); (try simp only [Int32.reduceToInt, Int64.reduceToInt] at f5); have f6 := c_lshl r8 (1 : Int32) 1 (by decide); (try simp only [Int32.reduceToInt, Int64.reduceToInt] at f6); (try have f6e : (r8 <<< ((1 : Int32) &&& 0x3f).toInt64).toInt = r8.toInt * 2 := (by omega)); have f7 := rng64 ((r8 <<< ((1 : Int32) &&& 0x3f).toInt64) - (16 : Int64)); (try simp only [Int32.reduceToInt, Int64.reduceToInt] at f7); have f8 := c_lsub (r8 <<< ((1 : Int32) &&& 0x3f).toInt64) (16 : Int64); (try simp only [Int32.reduceToInt, Int64.reduceToInt] at f8); (try have f8e : ((r8 <<< ((1 : Int32) &&& 0x3f).toInt64) - (16 : Int64)).toInt = (r8 <<< ((1 : Int32) &&& 0x3f).toInt64).toInt - (16 : Int) := (by omega)); have f9 := rng64 (((r8 <<< ((1 : Int32) &&& 0x3f).toInt64) - (16 : Int64)) / (4 : Int64)); (try simp only [Int32.reduceToInt, Int64.reduceToInt] at f9); have f10 := c_ldiv ((r8 <<< ((1 : Int32) &&& 0x3f).toInt64) - (16 : Int64)) (4 : Int64) 4 (by decide) (by decide); (try simp only [Int32.reduceToInt, Int64.reduceToInt] at f10); (try have f10e : (((r8 <<< ((1 : Int32) &&& 0x3f).toInt64) - (16 : Int64)) / (4 : Int64)).toInt = ((r8 <<< ((1 : Int32) &&& 0x3f).toInt64) - (16 : Int64)).toInt / 4 := (by omega)); omega)
  rw [e3] at hr10
  have e4 : r10.toInt32.toInt = r10.toInt := (by have f2 := rng64 r10; (try simp only [Int32.reduceToInt, Int64.reduceToInt] at f2); have f3 := rng32 r10.toInt32; (try simp only [Int32.reduceToInt, Int64.reduceToInt] at f3); have f4 := c_l2i r10; (try simp only [Int32.reduceToInt, Int64.reduceToInt] at f4); (try have f4e : r10.toInt32.toInt = r10.toInt := (by omega)); omega)
  rw [e4]
  refine ⟨k + 1, r3.toInt, by omega, by omega, by omega, by omega, by omega, ?_⟩
  rw [hpow]
  refine ⟨by omega, by omega, ?_⟩
  rcases Int.lt_or_le ((2 * P - 16) / 4) 2147483639 with h | h
  · right; constructor; omega; exact h
  · left; constructor; omega; exact h
theorem own_grf_4 {ln : Int32} {nd r3 r8 r10 : Int64} (hln : 0 ≤ ln.toInt) (hnd : 0 ≤ nd.toInt ∧ nd.toInt ≤ 2147483639) (hr3 : nd.toInt ≤ r3.toInt ∧ ((2 : Int64) * ln.toInt64).toInt ≤ r3.toInt ∧ (r3.toInt = nd.toInt ∨ r3.toInt = ((2 : Int64) * ln.toInt64).toInt)) (hr8 : ∃ k : Nat, k ≤ 62 ∧ r8.toInt = 2 ^ k ∧ (2 : Int) ^ k ≤ ((16 : Int64) + (r3 * (4 : Int64))).toInt ∧ ((16 : Int64) + (r3 * (4 : Int64))).toInt < 2 ^ (k + 1)) (c6 : r8.toInt = ((16 : Int64) + (r3 * (4 : Int64))).toInt) (hr10 : r10.toInt ≤ (2147483639 : Int64).toInt ∧ r10.toInt ≤ ((((16 : Int64) + (r3 * (4 : Int64))) - (16 : Int64)) / (4 : Int64)).toInt ∧ (r10.toInt = (2147483639 : Int64).toInt ∨ r10.toInt = ((((16 : Int64) + (r3 * (4 : Int64))) - (16 : Int64)) / (4 : Int64)).toInt)) : ∃ (k : Nat) (mx : Int), 4 ≤ k ∧ k ≤ 37 ∧ nd.toInt ≤ mx ∧ 2 * ln.toInt ≤ mx ∧ (mx = nd.toInt ∨ mx = 2 * ln.toInt) ∧ 16 + mx * 4 ≤ 2 ^ k ∧ (2 : Int) ^ k < 2 * (16 + mx * 4) ∧ ((r10.toInt32.toInt = 2147483639 ∧ 2147483639 ≤ ((2 : Int) ^ k - 16) / 4) ∨ (r10.toInt32.toInt = ((2 : Int) ^ k - 16) / 4 ∧ ((2 : Int) ^ k - 16) / 4 < 2147483639)) := by
  have e1 : ((2 : Int64) * ln.toInt64).toInt = 2 * ln.toInt := (by have f3 := rng32 ln; (try simp only [Int32.reduceToInt, Int64.reduceToInt] at f3); have f4 := c_i2l ln; (try simp only [Int32.reduceToInt, Int64.reduceToInt] at f4); have f5 := rng64 ((2 : Int64) * ln.toInt64); (try simp only [Int32.reduceToInt, Int64.reduceToInt] at f5); have f6 := c_lmul (2 : Int64) ln.toInt64; (try simp only [Int32.reduceToInt, Int64.reduceToInt] at f6); (try have f6e : ((2 : Int64) * ln.toInt64).toInt = (2 : Int) * ln.toInt64.toInt := (by omega)); omega)
  rw [e1] at hr3
  have g0 := rng32 ln
  have b3 : 0 ≤ r3.toInt ∧ r3.toInt ≤ 4294967294 := (by omega)
  have e2 : ((16 : Int64) + (r3 * (4 : Int64))).toInt = 16 + r3.toInt * 4 := (by have f3 := rng64 r3; (try simp only [Int32.reduceToInt, Int64.reduceToInt] at f3); have f4 := rng64 (r3 * (4 : Int64)); (try simp only [Int32.reduceToInt, Int64.reduceToInt] at f4); have f5 := c_lmul r3 (4 : Int64); (try simp only [Int32.reduceToInt, Int64.reduceToInt] at f5); (try have f5e : (r3 * (4 : Int64)).toInt = r3.toInt * (4 : Int) := (by omega)); have f6 := rng64 ((16 : Int64) + (r3 * (4 : Int64))); (try simp only [Int32.reduceToInt, Int64.reduceToInt] at f6); have f7 := c_ladd (16 : Int64) (r3 * (4 : Int64)); (try simp only [Int32.reduceToInt, Int64.reduceToInt] at f7); (try have f7e : ((16 : Int64) + (r3 * (4 : Int64))).toInt = (16 : Int) + (r3 * (4 : Int64)).toInt := (by omega)); omega)
  rw [e2] at hr8
  obtain ⟨k, q0, q1, q2, q3⟩ := hr8
  have hpow : (2 : Int) ^ (k + 1) = 2 * 2 ^ k := (by rw [Int.pow_succ, Int.mul_comm])
  rw [hpow] at q3
  have q4 : 3 ≤ k := (by rcases Nat.lt_or_ge k 3 with h | h; exfalso; have h5 := own_powle (show k ≤ 2 by omega); omega; exact h)
  have q5 : k ≤ 36 := (by rcases Nat.lt_or_ge k 37 with h | h; omega; exfalso; have h5 := own_powle h; omega)
  have hM : (2147483639 : Int64).toInt = 2147483639 := (by decide)
  rw [hM] at hr10
  rw [e2] at c6
  have q6 : k ≠ 3 := (fun h => by rw [h] at q1 q2 q3; omega)
  generalize hP : (2 : Int) ^ k = P at *
  have e3 : ((((16 : Int64) + (r3 * (4 : Int64))) - (16 : Int64)) / (4 : Int64)).toInt = (P - 16) / 4 := (by have f5 := rng64 r3; (try simp only [Int32.reduceToInt, Int64.reduceToInt] at f5); have f6 := rng64 (r3 * (4 : Int64)); (try simp only [Int32.reduceToInt, Int64.reduceToInt] at f6); have f7 := c_lmul r3 (4 : Int64); (try simp only [Int32.reduceToInt, Int64.reduceToInt] at f7); (try have f7e : (r3 * (4 : Int64)).toInt = r3.toInt * (4 : Int) := (by omega)); have f8 := rng64 ((16 : Int64) + (r3 * (4 : Int64))); (try simp only [Int32.reduceToInt, Int64.reduceToInt] at f8); have f9 := c_ladd (16 : Int64) (r3 * (4 : Int64)); (try simp only [Int32.reduceToInt, Int64.reduceToInt] at f9); (try have f9e : ((16 : Int64) + (r3 * (4 : Int64))).toInt = (16 : Int) + (r3 * (4 : Int64)).toInt := (by omega)); have f10 := rng64 (((16 : Int64) + (r3 * (4 : Int64))) - (16 : Int64)); (try simp only [Int32.reduceToInt, Int64.reduceToInt] at f10); have f11 := c_lsub ((16 : Int64) + (r3 * (4 : Int64))) (16 : Int64); (try simp only [Int32.reduceToInt, Int64.reduceToInt] at f11); (try have f11e : (((16 : Int64) + (r3 * (4 : Int64))) - (16 : Int64)).toInt = ((16 : Int64) + (r3 * (4 : Int64))).toInt - (16 : Int) := (by omega)); have f12 := rng64 ((((16 : Int64) + (r3 * (4 : Int64))) - (16 : Int64)) / (4 : Int64)); (try simp only [Int32.reduceToInt, Int64.reduceToInt] at f12); have f13 := c_ldiv (((16 : Int64) + (r3 * (4 : Int64))) - (16 : Int64)) (4 : Int64) 4 (by decide) (by decide); (try simp only [Int32.reduceToInt, Int64.reduceToInt] at f13); (try have f13e : ((((16 : Int64) + (r3 * (4 : Int64))) - (16 : Int64)) / (4 : Int64)).toInt = (((16 : Int64) + (r3 * (4 : Int64))) - (16 : Int64)).toInt / 4 := (by omega)); omega)
  rw [e3] at hr10
  have e4 : r10.toInt32.toInt = r10.toInt := (by have f2 := rng64 r10; (try simp only [Int32.reduceToInt, Int64.reduceToInt] at f2); have f3 := rng32 r10.toInt32; (try simp only [Int32.reduceToInt, Int64.reduceToInt] at f3); have f4 := c_l2i r10; (try simp only [Int32.reduceToInt, Int64.reduceToInt] at f4); (try have f4e : r10.toInt32.toInt = r10.toInt := (by omega)); omega)
  rw [e4]
  refine ⟨k, r3.toInt, by omega, by omega, by omega, by omega, by omega, ?_⟩
  rw [hP]
  refine ⟨by omega, by omega, ?_⟩
  rcases Int.lt_or_le ((P - 16) / 4) 2147483639 with h | h
  · right; constructor; omega; exact h
  · left; constructor; omega; exact h
theorem pd_2 : parseMethodDescriptor "(JJ)J" = some ⟨[.long, .long], some .long⟩ := by decide +kernel
theorem pd_3 : parseMethodDescriptor "(J)J" = some ⟨[.long], some .long⟩ := by decide +kernel
def RM_rm2_4 : Room := ({ frames := 3, cells := 0, slots := 0, locals := 45 } : Room)
theorem d2_0 : decode prog_67_method_2_code 0 = .ok (.lload_n 1, 1) := by decide +kernel
theorem d2_1 : decode prog_67_method_2_code 1 = .ok (.ldc2_w 11, 3) := by decide +kernel
theorem d2_4 : decode prog_67_method_2_code 4 = .ok (.lcmp, 1) := by decide +kernel
theorem d2_5 : decode prog_67_method_2_code 5 = .ok (.ifCond .le 17, 3) := by decide +kernel
theorem d2_22 : decode prog_67_method_2_code 22 = .ok (.ldc2_w 22, 3) := by decide +kernel
theorem d2_25 : decode prog_67_method_2_code 25 = .ok (.lload_n 1, 1) := by decide +kernel
theorem d2_26 : decode prog_67_method_2_code 26 = .ok (.ldc2_w 24, 3) := by decide +kernel
theorem d2_29 : decode prog_67_method_2_code 29 = .ok (.iload_n 0, 1) := by decide +kernel
theorem d2_30 : decode prog_67_method_2_code 30 = .ok (.i2l, 1) := by decide +kernel
theorem d2_31 : decode prog_67_method_2_code 31 = .ok (.lmul, 1) := by decide +kernel
theorem d2_32 : decode prog_67_method_2_code 32 = .ok (.invokestatic 26, 3) := by decide +kernel
theorem d2_35 : decode prog_67_method_2_code 35 = .ok (.iload_n 3, 1) := by decide +kernel
theorem d2_36 : decode prog_67_method_2_code 36 = .ok (.i2l, 1) := by decide +kernel
theorem d2_37 : decode prog_67_method_2_code 37 = .ok (.lmul, 1) := by decide +kernel
theorem d2_38 : decode prog_67_method_2_code 38 = .ok (.ladd, 1) := by decide +kernel
theorem d2_39 : decode prog_67_method_2_code 39 = .ok (.lstore 4, 2) := by decide +kernel
theorem d2_41 : decode prog_67_method_2_code 41 = .ok (.lload 4, 2) := by decide +kernel
theorem d2_43 : decode prog_67_method_2_code 43 = .ok (.invokestatic 32, 3) := by decide +kernel
theorem d2_46 : decode prog_67_method_2_code 46 = .ok (.lload 4, 2) := by decide +kernel
theorem d2_48 : decode prog_67_method_2_code 48 = .ok (.lcmp, 1) := by decide +kernel
theorem d2_49 : decode prog_67_method_2_code 49 = .ok (.ifCond .ne 8, 3) := by decide +kernel
theorem d2_52 : decode prog_67_method_2_code 52 = .ok (.lload 4, 2) := by decide +kernel
theorem d2_54 : decode prog_67_method_2_code 54 = .ok (.goto 10, 3) := by decide +kernel
theorem d2_57 : decode prog_67_method_2_code 57 = .ok (.lload 4, 2) := by decide +kernel
theorem d2_59 : decode prog_67_method_2_code 59 = .ok (.invokestatic 32, 3) := by decide +kernel
theorem d2_62 : decode prog_67_method_2_code 62 = .ok (.iconst 1, 1) := by decide +kernel
theorem d2_63 : decode prog_67_method_2_code 63 = .ok (.lshl, 1) := by decide +kernel
theorem d2_64 : decode prog_67_method_2_code 64 = .ok (.lstore 6, 2) := by decide +kernel
theorem d2_66 : decode prog_67_method_2_code 66 = .ok (.ldc2_w 11, 3) := by decide +kernel
theorem d2_69 : decode prog_67_method_2_code 69 = .ok (.lload 6, 2) := by decide +kernel
theorem d2_71 : decode prog_67_method_2_code 71 = .ok (.ldc2_w 22, 3) := by decide +kernel
theorem d2_74 : decode prog_67_method_2_code 74 = .ok (.lsub, 1) := by decide +kernel
theorem d2_75 : decode prog_67_method_2_code 75 = .ok (.iload_n 3, 1) := by decide +kernel
theorem d2_76 : decode prog_67_method_2_code 76 = .ok (.i2l, 1) := by decide +kernel
theorem d2_77 : decode prog_67_method_2_code 77 = .ok (.ldiv, 1) := by decide +kernel
theorem d2_78 : decode prog_67_method_2_code 78 = .ok (.invokestatic 38, 3) := by decide +kernel
theorem d2_81 : decode prog_67_method_2_code 81 = .ok (.l2i, 1) := by decide +kernel
theorem d2_82 : decode prog_67_method_2_code 82 = .ok (.ireturn, 1) := by decide +kernel
theorem ef_2 (m : MethodId) (z0 : Int32) (z1 : Int64) (z2 : Int32) : entryFrame m #[.int z0, .long z1, .int z2] 8 = mkF m 0 #[.val (.int z0), .val (.long z1), .second, .val (.int z2), .unset, .unset, .unset, .unset] [] := by first | (simp [entryFrame, mkF, argsToLocals, Value.category]; done) | rfl
theorem pn_4 : plainName "com/example/vestline/vestline/number/Growth" = true := by first | (simp [plainName, overriddenIn]; done) | decide +kernel
set_option maxRecDepth 65536 in
set_option maxHeartbeats 40000000 in
theorem rm2_4 (l : Launch) (Z : State) (a0 : Array Value) (hw : ∀ d ∈ tables_1, d.before a0 Z = true) (ws : List Jvm.Cond) (ln : Int32) (nd : Int64) (h0 : Heap) (n0 : Nat) (Z0 : n0 ≤ h0.size) (hln : 0 ≤ ln.toInt) (hnd : 0 ≤ nd.toInt ∧ nd.toInt ≤ 2147483639) :
    Ctr l Z (⟨"com/example/vestline/vestline/number/Growth", "grown", "(IJI)I"⟩ : MethodName) prog_67_method_2_code 8 (some .int) RM_rm2_4 ws #[.int ln, .long nd, .int (4 : Int32)] h0 (IQ (fun r => ∃ (k : Nat) (mx : Int), 4 ≤ k ∧ k ≤ 37 ∧ nd.toInt ≤ mx ∧ 2 * ln.toInt ≤ mx ∧ (mx = nd.toInt ∨ mx = 2 * ln.toInt) ∧ 16 + mx * 4 ≤ 2 ^ k ∧ (2 : Int) ^ k < 2 * (16 + mx * 4) ∧ ((r.toInt = 2147483639 ∧ 2147483639 ≤ ((2 : Int) ^ k - 16) / 4) ∨ (r.toInt = ((2 : Int) ^ k - 16) / 4 ∧ ((2 : Int) ^ k - 16) / 4 < 2147483639))) h0) := by
  refine Ctr.of (plainFor_of_name pn_4) ?_
  intro p e s m below meth c s₁ hx hby hml hrt hlk hnm hown hZ X0 e0
  have N0 := Fr.nil n0
  refine Go.cast (ef_2 m ln nd (4 : Int32)) ?_
  refine g_lloadN (q := 1) X0.here hx (hb hby d2_0) rfl rfl ?_
  refine g_ldc2J (q := 4) X0 hx hZ hown (hw _ (List.mem_of_getElem? (i := 8) rfl)) (hb hby d2_1) rfl ?_
  refine g_lcmp_le (q := 22) (q1 := 5) (q0 := 8) X0.here hx (hb hby d2_4) rfl (hb hby d2_5) (by decide) (by decide) rfl ?_ ?_
  · intro c1
    refine g_ldc2J (q := 25) X0 hx hZ hown (hw _ (List.mem_of_getElem? (i := 9) rfl)) (hb hby d2_22) rfl ?_
    refine g_lloadN (q := 26) X0.here hx (hb hby d2_25) rfl rfl ?_
    refine g_ldc2J (q := 29) X0 hx hZ hown (hw _ (List.mem_of_getElem? (i := 10) rfl)) (hb hby d2_26) rfl ?_
    refine g_iloadN (q := 30) X0.here hx (hb hby d2_29) rfl rfl ?_
    refine g_i2l (q := 31) X0.here hx (hb hby d2_30) rfl ?_
    refine g_lmul (q := 32) X0.here hx (hb hby d2_31) rfl ?_
    refine g_callSJ (q := 35) X0 hx hZ hown (hw _ (List.mem_of_getElem? (i := 11) rfl)) (hw _ (List.mem_of_getElem? (i := 12) rfl)) (hw _ (List.mem_of_getElem? (i := 13) rfl)) (hw _ (List.mem_of_getElem? (i := 14) rfl)) (by decide) (rm3 l Z a0 hw [] nd ((2 : Int64) * ln.toInt64) h0 n0 Z0) (argsL := [.long nd, .long ((2 : Int64) * ln.toInt64)]) (rest := [.long (16 : Int64)]) pd_2 rfl rfl rfl (hb hby d2_32) rfl (by rw [hml]; rfl) e0 (by decide) (W := 2) rfl (by decide) rfl rfl (by decide) (by decide) ?_
    intro T2 r3 X2 e2 hr3
    refine g_iloadN (q := 36) X2.here hx (hb hby d2_35) rfl rfl ?_
    refine g_i2l (q := 37) X2.here hx (hb hby d2_36) rfl ?_
    rw [show (4 : Int32).toInt64 = (4 : Int64) from by decide]
    refine g_lmul (q := 38) X2.here hx (hb hby d2_37) rfl ?_
    refine g_ladd (q := 39) X2.here hx (hb hby d2_38) rfl ?_
    refine g_lstore (q := 41) (L' := #[.val (.int ln), .val (.long nd), .second, .val (.int (4 : Int32)), .val (.long ((16 : Int64) + (r3 * (4 : Int64)))), .second, .unset, .unset]) X2.here hx (hb hby d2_39) rfl rfl ?_
    refine g_lload (q := 43) X2.here hx (hb hby d2_41) rfl rfl ?_
    refine g_callSJ (q := 46) X2 hx hZ hown (hw _ (List.mem_of_getElem? (i := 15) rfl)) (hw _ (List.mem_of_getElem? (i := 16) rfl)) (hw _ (List.mem_of_getElem? (i := 17) rfl)) (hw _ (List.mem_of_getElem? (i := 18) rfl)) (by decide) (rm4 l Z a0 hw [] ((16 : Int64) + (r3 * (4 : Int64))) h0 n0 Z0 (by (try simp only [Int32.reduceToInt, Int64.reduceToInt, true_and, and_true, not_true_eq_false, not_false_eq_true, false_and, or_false, false_or] at c1); (try simp only [Int32.reduceToInt, Int64.reduceToInt, true_and, and_true, not_true_eq_false, not_false_eq_true, false_and, or_false, false_or] at hr3); (try simp only [Int32.reduceToInt, Int64.reduceToInt, true_and, and_true, not_true_eq_false, not_false_eq_true, false_and, or_false, false_or] at hln); (try simp only [Int32.reduceToInt, Int64.reduceToInt, true_and, and_true, not_true_eq_false, not_false_eq_true, false_and, or_false, false_or] at hnd); have f1 := rng64 nd; (try simp only [Int32.reduceToInt, Int64.reduceToInt] at f1); have f5 := rng32 ln; (try simp only [Int32.reduceToInt, Int64.reduceToInt] at f5); have f6 := c_i2l ln; (try simp only [Int32.reduceToInt, Int64.reduceToInt] at f6); have f7 := rng64 ((2 : Int64) * ln.toInt64); (try simp only [Int32.reduceToInt, Int64.reduceToInt] at f7); have f8 := c_lmul (2 : Int64) ln.toInt64; (try simp only [Int32.reduceToInt, Int64.reduceToInt] at f8); (try have f8e : ((2 : Int64) * ln.toInt64).toInt = (2 : Int) * ln.toInt64.toInt := (by omega)); have f12 := rng64 r3; (try simp only [Int32.reduceToInt, Int64.reduceToInt] at f12); have f13 := rng64 (r3 * (4 : Int64)); (try simp only [Int32.reduceToInt, Int64.reduceToInt] at f13); have f14 := c_lmul r3 (4 : Int64); (try simp only [Int32.reduceToInt, Int64.reduceToInt] at f14); (try have f14e : (r3 * (4 : Int64)).toInt = r3.toInt * (4 : Int) := (by omega)); have f15 := rng64 ((16 : Int64) + (r3 * (4 : Int64))); (try simp only [Int32.reduceToInt, Int64.reduceToInt] at f15); have f16 := c_ladd (16 : Int64) (r3 * (4 : Int64)); (try simp only [Int32.reduceToInt, Int64.reduceToInt] at f16); (try have f16e : ((16 : Int64) + (r3 * (4 : Int64))).toInt = (16 : Int) + (r3 * (4 : Int64)).toInt := (by omega)); (try simp only [Int32.reduceToInt, Int64.reduceToInt, and_true, true_and, or_true, true_or]); (first | done | omega))) (argsL := [.long ((16 : Int64) + (r3 * (4 : Int64)))]) (rest := []) pd_3 rfl rfl rfl (hb hby d2_43) rfl (by rw [hml]; rfl) e2 (by decide) (W := 0) rfl (by decide) rfl rfl (by decide) (by decide) ?_
    intro T4 r5 X4 e4 hr5
    refine g_lload (q := 48) X4.here hx (hb hby d2_46) rfl rfl ?_
    refine g_lcmp_ne (q := 57) (q1 := 49) (q0 := 52) X4.here hx (hb hby d2_48) rfl (hb hby d2_49) (by decide) (by decide) rfl ?_ ?_
    · intro c6
      refine g_lload (q := 59) X4.here hx (hb hby d2_57) rfl rfl ?_
      refine g_callSJ (q := 62) X4 hx hZ hown (hw _ (List.mem_of_getElem? (i := 15) rfl)) (hw _ (List.mem_of_getElem? (i := 16) rfl)) (hw _ (List.mem_of_getElem? (i := 17) rfl)) (hw _ (List.mem_of_getElem? (i := 18) rfl)) (by decide) (rm4 l Z a0 hw [] ((16 : Int64) + (r3 * (4 : Int64))) h0 n0 Z0 (by (try simp only [Int32.reduceToInt, Int64.reduceToInt, true_and, and_true, not_true_eq_false, not_false_eq_true, false_and, or_false, false_or] at c1); (try simp only [Int32.reduceToInt, Int64.reduceToInt, true_and, and_true, not_true_eq_false, not_false_eq_true, false_and, or_false, false_or] at hr3); (try simp only [Int32.reduceToInt, Int64.reduceToInt, true_and, and_true, not_true_eq_false, not_false_eq_true, false_and, or_false, false_or] at hr5); (try simp only [Int32.reduceToInt, Int64.reduceToInt, true_and, and_true, not_true_eq_false, not_false_eq_true, false_and, or_false, false_or] at c6); (try simp only [Int32.reduceToInt, Int64.reduceToInt, true_and, and_true, not_true_eq_false, not_false_eq_true, false_and, or_false, false_or] at hln); (try simp only [Int32.reduceToInt, Int64.reduceToInt, true_and, and_true, not_true_eq_false, not_false_eq_true, false_and, or_false, false_or] at hnd); have f1 := rng64 nd; (try simp only [Int32.reduceToInt, Int64.reduceToInt] at f1); have f5 := rng32 ln; (try simp only [Int32.reduceToInt, Int64.reduceToInt] at f5); have f6 := c_i2l ln; (try simp only [Int32.reduceToInt, Int64.reduceToInt] at f6); have f7 := rng64 ((2 : Int64) * ln.toInt64); (try simp only [Int32.reduceToInt, Int64.reduceToInt] at f7); have f8 := c_lmul (2 : Int64) ln.toInt64; (try simp only [Int32.reduceToInt, Int64.reduceToInt] at f8); (try have f8e : ((2 : Int64) * ln.toInt64).toInt = (2 : Int) * ln.toInt64.toInt := (by omega)); have f12 := rng64 r3; (try simp only [Int32.reduceToInt, Int64.reduceToInt] at f12); have f13 := rng64 (r3 * (4 : Int64)); (try simp only [Int32.reduceToInt, Int64.reduceToInt] at f13); have f14 := c_lmul r3 (4 : Int64); (try simp only [Int32.reduceToInt, Int64.reduceToInt] at f14); (try have f14e : (r3 * (4 : Int64)).toInt = r3.toInt * (4 : Int) := (by omega)); have f15 := rng64 ((16 : Int64) + (r3 * (4 : Int64))); (try simp only [Int32.reduceToInt, Int64.reduceToInt] at f15); have f16 := c_ladd (16 : Int64) (r3 * (4 : Int64)); (try simp only [Int32.reduceToInt, Int64.reduceToInt] at f16); (try have f16e : ((16 : Int64) + (r3 * (4 : Int64))).toInt = (16 : Int) + (r3 * (4 : Int64)).toInt := (by omega)); have f18 := rng64 r5; (try simp only [Int32.reduceToInt, Int64.reduceToInt] at f18); (try simp only [Int32.reduceToInt, Int64.reduceToInt, and_true, true_and, or_true, true_or]); (first | done | omega))) (argsL := [.long ((16 : Int64) + (r3 * (4 : Int64)))]) (rest := []) pd_3 rfl rfl rfl (hb hby d2_59) rfl (by rw [hml]; rfl) e4 (by decide) (W := 0) rfl (by decide) rfl rfl (by decide) (by decide) ?_
      intro T7 r8 X7 e7 hr8
      refine g_iconst (q := 63) (v := (1 : Int32)) X7.here hx (hb hby d2_62) rfl rfl ?_
      refine g_lshl (q := 64) X7.here hx (hb hby d2_63) rfl ?_
      refine g_lstore (q := 66) (L' := #[.val (.int ln), .val (.long nd), .second, .val (.int (4 : Int32)), .val (.long ((16 : Int64) + (r3 * (4 : Int64)))), .second, .val (.long (r8 <<< ((1 : Int32) &&& 0x3f).toInt64)), .second]) X7.here hx (hb hby d2_64) rfl rfl ?_
      refine g_ldc2J (q := 69) X7 hx hZ hown (hw _ (List.mem_of_getElem? (i := 8) rfl)) (hb hby d2_66) rfl ?_
      refine g_lload (q := 71) X7.here hx (hb hby d2_69) rfl rfl ?_
      refine g_ldc2J (q := 74) X7 hx hZ hown (hw _ (List.mem_of_getElem? (i := 9) rfl)) (hb hby d2_71) rfl ?_
      refine g_lsub (q := 75) X7.here hx (hb hby d2_74) rfl ?_
      refine g_iloadN (q := 76) X7.here hx (hb hby d2_75) rfl rfl ?_
      refine g_i2l (q := 77) X7.here hx (hb hby d2_76) rfl ?_
      rw [show (4 : Int32).toInt64 = (4 : Int64) from by decide]
      refine g_ldiv (q := 78) X7.here hx (hb hby d2_77) (by decide) rfl ?_
      refine g_callSJ (q := 81) X7 hx hZ hown (hw _ (List.mem_of_getElem? (i := 28) rfl)) (hw _ (List.mem_of_getElem? (i := 29) rfl)) (hw _ (List.mem_of_getElem? (i := 13) rfl)) (hw _ (List.mem_of_getElem? (i := 30) rfl)) (by decide) (rm7 l Z a0 hw [] (2147483639 : Int64) (((r8 <<< ((1 : Int32) &&& 0x3f).toInt64) - (16 : Int64)) / (4 : Int64)) h0 n0 Z0) (argsL := [.long (2147483639 : Int64), .long (((r8 <<< ((1 : Int32) &&& 0x3f).toInt64) - (16 : Int64)) / (4 : Int64))]) (rest := []) pd_2 rfl rfl rfl (hb hby d2_78) rfl (by rw [hml]; rfl) e7 (by decide) (W := 0) rfl (by decide) rfl rfl (by decide) (by decide) ?_
      intro T9 r10 X9 e9 hr10
      refine g_l2i (q := 82) X9.here hx (hb hby d2_81) rfl ?_
      exact g_ireturn X9 hx hlk hrt (hb hby d2_82) (by decide) (by decide) ⟨_, rfl, own_grt_4 hln hnd hr3 hr8 hr5 c6 hr10, e9, rfl⟩
    · intro c6
      refine g_lload (q := 54) X4.here hx (hb hby d2_52) rfl rfl ?_
      refine g_goto (q := 64) X4.here hx (hb hby d2_54) (by decide) (by decide) ?_
      refine g_lstore (q := 66) (L' := #[.val (.int ln), .val (.long nd), .second, .val (.int (4 : Int32)), .val (.long ((16 : Int64) + (r3 * (4 : Int64)))), .second, .val (.long ((16 : Int64) + (r3 * (4 : Int64)))), .second]) X4.here hx (hb hby d2_64) rfl rfl ?_
      refine g_ldc2J (q := 69) X4 hx hZ hown (hw _ (List.mem_of_getElem? (i := 8) rfl)) (hb hby d2_66) rfl ?_
      refine g_lload (q := 71) X4.here hx (hb hby d2_69) rfl rfl ?_
      refine g_ldc2J (q := 74) X4 hx hZ hown (hw _ (List.mem_of_getElem? (i := 9) rfl)) (hb hby d2_71) rfl ?_
      refine g_lsub (q := 75) X4.here hx (hb hby d2_74) rfl ?_
      refine g_iloadN (q := 76) X4.here hx (hb hby d2_75) rfl rfl ?_
      refine g_i2l (q := 77) X4.here hx (hb hby d2_76) rfl ?_
      rw [show (4 : Int32).toInt64 = (4 : Int64) from by decide]
      refine g_ldiv (q := 78) X4.here hx (hb hby d2_77) (by decide) rfl ?_
      refine g_callSJ (q := 81) X4 hx hZ hown (hw _ (List.mem_of_getElem? (i := 28) rfl)) (hw _ (List.mem_of_getElem? (i := 29) rfl)) (hw _ (List.mem_of_getElem? (i := 13) rfl)) (hw _ (List.mem_of_getElem? (i := 30) rfl)) (by decide) (rm7 l Z a0 hw [] (2147483639 : Int64) ((((16 : Int64) + (r3 * (4 : Int64))) - (16 : Int64)) / (4 : Int64)) h0 n0 Z0) (argsL := [.long (2147483639 : Int64), .long ((((16 : Int64) + (r3 * (4 : Int64))) - (16 : Int64)) / (4 : Int64))]) (rest := []) pd_2 rfl rfl rfl (hb hby d2_78) rfl (by rw [hml]; rfl) e4 (by decide) (W := 0) rfl (by decide) rfl rfl (by decide) (by decide) ?_
      intro T11 r12 X11 e11 hr12
      refine g_l2i (q := 82) X11.here hx (hb hby d2_81) rfl ?_
      exact g_ireturn X11 hx hlk hrt (hb hby d2_82) (by decide) (by decide) ⟨_, rfl, own_grf_4 hln hnd hr3 hr5 (by have h6 := c6; first | exact h6 | omega) hr12, e11, rfl⟩
  · intro c1
    exfalso; (try simp only [Int32.reduceToInt, Int64.reduceToInt, true_and, and_true, not_true_eq_false, not_false_eq_true, false_and, or_false, false_or] at c1); (try simp only [Int32.reduceToInt, Int64.reduceToInt, true_and, and_true, not_true_eq_false, not_false_eq_true, false_and, or_false, false_or] at hnd); have f1 := rng64 nd; (try simp only [Int32.reduceToInt, Int64.reduceToInt] at f1); (try simp only [Int32.reduceToInt, Int64.reduceToInt, and_true, true_and, or_true, true_or]); (first | done | omega)
def RM_rm9 : Room := ({ frames := 0, cells := 0, slots := 0, locals := 0 } : Room)
theorem d9_0 : decode jdk_29_method_69_code 0 = .ok (.iload_n 0, 1) := by decide +kernel
theorem d9_1 : decode jdk_29_method_69_code 1 = .ok (.iload_n 1, 1) := by decide +kernel
theorem d9_2 : decode jdk_29_method_69_code 2 = .ok (.if_icmp .gt 7, 3) := by decide +kernel
theorem d9_5 : decode jdk_29_method_69_code 5 = .ok (.iload_n 0, 1) := by decide +kernel
theorem d9_6 : decode jdk_29_method_69_code 6 = .ok (.goto 4, 3) := by decide +kernel
theorem d9_9 : decode jdk_29_method_69_code 9 = .ok (.iload_n 1, 1) := by decide +kernel
theorem d9_10 : decode jdk_29_method_69_code 10 = .ok (.ireturn, 1) := by decide +kernel
theorem ef_9 (m : MethodId) (z0 : Int32) (z1 : Int32) : entryFrame m #[.int z0, .int z1] 2 = mkF m 0 #[.val (.int z0), .val (.int z1)] [] := by first | (simp [entryFrame, mkF, argsToLocals, Value.category]; done) | rfl
theorem pn_5 : plainFor (⟨"java/lang/Math", "min", "(II)I"⟩ : MethodName) = true := by exact (Jvm.Free.JP.mathPlain rfl (by decide +kernel))
set_option maxRecDepth 65536 in
set_option maxHeartbeats 40000000 in
theorem rm9 (l : Launch) (Z : State) (a0 : Array Value) (hw : ∀ d ∈ tables_1, d.before a0 Z = true) (ws : List Jvm.Cond) (ma : Int32) (mb : Int32) (h0 : Heap) (n0 : Nat) (Z0 : n0 ≤ h0.size) :
    Ctr l Z (⟨"java/lang/Math", "min", "(II)I"⟩ : MethodName) jdk_29_method_69_code 2 (some .int) RM_rm9 ws #[.int ma, .int mb] h0 (IQ (fun r => r.toInt ≤ ma.toInt ∧ r.toInt ≤ mb.toInt ∧ (r.toInt = ma.toInt ∨ r.toInt = mb.toInt)) h0) := by
  refine Ctr.of pn_5 ?_
  intro p e s m below meth c s₁ hx hby hml hrt hlk hnm hown hZ X0 e0
  have N0 := Fr.nil n0
  refine Go.cast (ef_9 m ma mb) ?_
  refine g_iloadN (q := 1) X0.here hx (hb hby d9_0) rfl rfl ?_
  refine g_iloadN (q := 2) X0.here hx (hb hby d9_1) rfl rfl ?_
  refine g_icmp_gt (q := 9) (q0 := 5) X0.here hx (hb hby d9_2) (by decide) (by decide) rfl ?_ ?_
  · intro c1
    refine g_iloadN (q := 10) X0.here hx (hb hby d9_9) rfl rfl ?_
    exact g_ireturn X0 hx hlk hrt (hb hby d9_10) (by decide) (by decide) ⟨_, rfl, (show mb.toInt ≤ ma.toInt ∧ mb.toInt ≤ mb.toInt ∧ (mb.toInt = ma.toInt ∨ mb.toInt = mb.toInt) by (try simp only [Int32.reduceToInt, Int64.reduceToInt, true_and, and_true, not_true_eq_false, not_false_eq_true, false_and, or_false, false_or] at c1); have f1 := rng32 mb; (try simp only [Int32.reduceToInt, Int64.reduceToInt] at f1); have f3 := rng32 ma; (try simp only [Int32.reduceToInt, Int64.reduceToInt] at f3); (try simp only [Int32.reduceToInt, Int64.reduceToInt, and_true, true_and, or_true, true_or]); (first | done | omega)), e0, rfl⟩
  · intro c1
    refine g_iloadN (q := 6) X0.here hx (hb hby d9_5) rfl rfl ?_
    refine g_goto (q := 10) X0.here hx (hb hby d9_6) (by decide) (by decide) ?_
    exact g_ireturn X0 hx hlk hrt (hb hby d9_10) (by decide) (by decide) ⟨_, rfl, (show ma.toInt ≤ ma.toInt ∧ ma.toInt ≤ mb.toInt ∧ (ma.toInt = ma.toInt ∨ ma.toInt = mb.toInt) by (try simp only [Int32.reduceToInt, Int64.reduceToInt, true_and, and_true, not_true_eq_false, not_false_eq_true, false_and, or_false, false_or] at c1); have f1 := rng32 mb; (try simp only [Int32.reduceToInt, Int64.reduceToInt] at f1); have f3 := rng32 ma; (try simp only [Int32.reduceToInt, Int64.reduceToInt] at f3); (try simp only [Int32.reduceToInt, Int64.reduceToInt, and_true, true_and, or_true, true_or]); (first | done | omega)), e0, rfl⟩
theorem pd_4 : parseMethodDescriptor "(II)I" = some ⟨[.int, .int], some .int⟩ := by decide +kernel
def RM_rm8 : Room := ({ frames := 1, cells := 1, slots := 60, locals := 30 } : Room)
theorem d8_0 : decode jdk_65_method_123_code 0 = .ok (.iload_n 1, 1) := by decide +kernel
theorem d8_1 : decode jdk_65_method_123_code 1 = .ok (.aload_n 0, 1) := by decide +kernel
theorem d8_2 : decode jdk_65_method_123_code 2 = .ok (.arraylength, 1) := by decide +kernel
theorem d8_3 : decode jdk_65_method_123_code 3 = .ok (.if_icmp .ne 11, 3) := by decide +kernel
theorem d8_14 : decode jdk_65_method_123_code 14 = .ok (.iload_n 1, 1) := by decide +kernel
theorem d8_15 : decode jdk_65_method_123_code 15 = .ok (.newarray .int, 2) := by decide +kernel
theorem d8_17 : decode jdk_65_method_123_code 17 = .ok (.astore_n 2, 1) := by decide +kernel
theorem d8_18 : decode jdk_65_method_123_code 18 = .ok (.aload_n 0, 1) := by decide +kernel
theorem d8_19 : decode jdk_65_method_123_code 19 = .ok (.iconst 0, 1) := by decide +kernel
theorem d8_20 : decode jdk_65_method_123_code 20 = .ok (.aload_n 2, 1) := by decide +kernel
theorem d8_21 : decode jdk_65_method_123_code 21 = .ok (.iconst 0, 1) := by decide +kernel
theorem d8_22 : decode jdk_65_method_123_code 22 = .ok (.aload_n 0, 1) := by decide +kernel
theorem d8_23 : decode jdk_65_method_123_code 23 = .ok (.arraylength, 1) := by decide +kernel
theorem d8_24 : decode jdk_65_method_123_code 24 = .ok (.iload_n 1, 1) := by decide +kernel
theorem d8_25 : decode jdk_65_method_123_code 25 = .ok (.invokestatic 304, 3) := by decide +kernel
theorem d8_28 : decode jdk_65_method_123_code 28 = .ok (.invokestatic 150, 3) := by decide +kernel
theorem d8_31 : decode jdk_65_method_123_code 31 = .ok (.aload_n 2, 1) := by decide +kernel
theorem d8_32 : decode jdk_65_method_123_code 32 = .ok (.areturn, 1) := by decide +kernel
theorem ef_8 (m : MethodId) (z0 : Addr) (z1 : Int32) : entryFrame m #[.ref z0, .int z1] 3 = mkF m 0 #[.val (.ref z0), .val (.int z1), .unset] [] := by first | (simp [entryFrame, mkF, argsToLocals, Value.category]; done) | rfl
theorem pn_6 : plainName "java/util/Arrays" = true := by first | (simp [plainName, overriddenIn]; done) | decide +kernel
set_option maxRecDepth 65536 in
set_option maxHeartbeats 40000000 in
theorem rm8 (l : Launch) (Z : State) (a0 : Array Value) (hw : ∀ d ∈ tables_1, d.before a0 Z = true) (ws : List Jvm.Cond) (o : Addr) (nl : Int32) (h0 : Heap) (n0 : Nat) (Z0 : n0 ≤ h0.size) (vs : List Int32) (A0 : IA Z h0 o vs) (ln : Int32) (hln : ln.toInt = (vs.length : Int)) (nN : Nat) (hnl : nl.toInt = (nN : Int)) (hgt : vs.length < nN) (hcap : nN ≤ 60) :
    Ctr l Z (⟨"java/util/Arrays", "copyOf", "([II)[I"⟩ : MethodName) jdk_65_method_123_code 3 (some (.array .int)) RM_rm8 ws #[.ref o, .int nl] h0 (fun v h L => Fr n0 L ∧ ∃ o2 : Addr, v = some (.ref o2) ∧ h0.size ≤ o2 ∧ Keep h0 h [] ∧ IA Z h o2 (vs ++ List.replicate (nN - vs.length) 0)) := by
  refine Ctr.of (plainFor_of_name pn_6) ?_
  intro p e s m below meth c s₁ hx hby hml hrt hlk hnm hown hZ X0 e0
  have N0 := Fr.nil n0
  refine Go.cast (ef_8 m o nl) ?_
  refine g_iloadN (q := 1) X0.here hx (hb hby d8_0) rfl rfl ?_
  refine g_aloadN (q := 2) X0.here hx (hb hby d8_1) rfl rfl rfl ?_
  refine g_alen (q := 3) (v := ln) X0 hx hZ e0 A0 (by rw [List.length_map]; exact hln) (hb hby d8_2) rfl ?_
  refine g_icmp_ne (q := 14) (q0 := 6) X0.here hx (hb hby d8_3) (by decide) (by decide) rfl ?_ ?_
  · intro c1
    refine g_iloadN (q := 15) X0.here hx (hb hby d8_14) rfl rfl ?_
    refine g_inew_ (q := 17) (n := nN) (cap := 60) X0 hx hZ (hw _ (List.mem_of_getElem? (i := 0) rfl)) e0 hnl hcap (by decide) (hb hby d8_15) rfl (by decide) (by decide) ?_
    intro T2 h2 o2 X2 e2 E2 q2 A2
    have n3 : o ≠ o2 := ne_new A0.lt q2
    have g4 : n0 ≤ o2 := ge_new Z0 q2
    have g5 : h0.size ≤ o2 := ge_new (Keep.refl h0 []).1 q2
    have K6 := Keep.ext (Keep.refl h0 []) E2
    have F7 := ArrL.ext A0 E2
    have Z8 : n0 ≤ h2.size := Nat.le_trans Z0 E2.1
    refine g_astoreN (q := 18) (L' := #[.val (.ref o), .val (.int nl), .val (.ref o2)]) X2.here hx (hb hby d8_17) rfl rfl rfl ?_
    refine g_aloadN (q := 19) X2.here hx (hb hby d8_18) rfl rfl rfl ?_
    refine g_iconst (q := 20) (v := (0 : Int32)) X2.here hx (hb hby d8_19) rfl rfl ?_
    refine g_aloadN (q := 21) X2.here hx (hb hby d8_20) rfl rfl rfl ?_
    refine g_iconst (q := 22) (v := (0 : Int32)) X2.here hx (hb hby d8_21) rfl rfl ?_
    refine g_aloadN (q := 23) X2.here hx (hb hby d8_22) rfl rfl rfl ?_
    refine g_alen (q := 24) (v := ln) X2 hx hZ e2 F7 (by rw [List.length_map]; exact hln) (hb hby d8_23) rfl ?_
    refine g_iloadN (q := 25) X2.here hx (hb hby d8_24) rfl rfl ?_
    refine g_callSI (q := 28) X2 hx hZ hown (hw _ (List.mem_of_getElem? (i := 35) rfl)) (hw _ (List.mem_of_getElem? (i := 36) rfl)) (hw _ (List.mem_of_getElem? (i := 13) rfl)) (hw _ (List.mem_of_getElem? (i := 37) rfl)) (by decide) (rm9 l Z a0 hw [] ln nl h2 n0 Z8) (argsL := [.int ln, .int nl]) (rest := [.int (0 : Int32), .ref o2, .int (0 : Int32), .ref o]) pd_4 rfl rfl rfl (hb hby d8_25) rfl (by rw [hml]; rfl) e2 (by decide) (W := 4) rfl (by decide) rfl rfl (by decide) (by decide) ?_
    intro T9 r10 X9 e9 hr10
    refine g_cpI (q := 31) X9 hx hZ hown (hw _ (List.mem_of_getElem? (i := 38) rfl)) (hw _ (List.mem_of_getElem? (i := 41) rfl)) (hw _ (List.mem_of_getElem? (i := 39) rfl)) (hw _ (List.mem_of_getElem? (i := 40) rfl)) e9 F7 A2 (nn := r10) (k := vs.length) (by have h := hr10; omega) (Nat.le_refl _) (by rw [List.length_replicate]; omega) N0 g4 (hb hby d8_28) rfl (by rw [hml]; rfl) (by decide) (W := 0) (by decide) (by decide) ?_
    intro T11 h11 Lq11 X11 e11 Nq11 Kq11 A11
    rw [List.take_length, List.drop_replicate] at A11
    have K12 := Keep.trans K6 Kq11 (allS (Or.inr g5) all0)
    have F13 := ArrL.keep F7 Kq11 (ninS n3 nin0)
    have Z15 : n0 ≤ h11.size := Nat.le_trans Z8 Kq11.1
    refine g_aloadN (q := 32) X11.here hx (hb hby d8_31) rfl rfl rfl ?_
    exact g_areturn X11 hx hlk rfl hrt rfl (hb hby d8_32) (by decide) (by decide) (by rw [e11]; exact ⟨Nq11, o2, rfl, g5, K12, A11⟩)
  · intro c1
    exfalso; omega
theorem own_wr {ln rr ix : Int32} {kn : Nat} (h : ∃ (k : Nat) (mx : Int), 4 ≤ k ∧ k ≤ 37 ∧ (ix.toInt64 + (1 : Int64)).toInt ≤ mx ∧ 2 * ln.toInt ≤ mx ∧ (mx = (ix.toInt64 + (1 : Int64)).toInt ∨ mx = 2 * ln.toInt) ∧ 16 + mx * 4 ≤ 2 ^ k ∧ (2 : Int) ^ k < 2 * (16 + mx * 4) ∧ ((rr.toInt = 2147483639 ∧ 2147483639 ≤ ((2 : Int) ^ k - 16) / 4) ∨ (rr.toInt = ((2 : Int) ^ k - 16) / 4 ∧ ((2 : Int) ^ k - 16) / 4 < 2147483639))) (hl : ln.toInt = (kn : Int)) (h7 : kn ≤ 7) (h1 : (kn : Int) ≤ ix.toInt) (h2 : ix.toInt ≤ 31) : ∃ nN : Nat, rr.toInt = (nN : Int) ∧ kn < nN ∧ ix.toInt < (nN : Int) ∧ nN ≤ 60 ∧ (∃ (k : Nat) (mx : Int), k ≤ 37 ∧ 16 + 4 * (nN : Int) = 2 ^ k ∧ ix.toInt + 1 ≤ mx ∧ 2 * (kn : Int) ≤ mx ∧ (mx = ix.toInt + 1 ∨ mx = 2 * (kn : Int)) ∧ mx ≤ (nN : Int) ∧ 16 + 4 * (nN : Int) < 2 * (16 + 4 * mx)) := by
  have e1 : (ix.toInt64 + (1 : Int64)).toInt = ix.toInt + 1 := by have f3 := rng32 ix; (try simp only [Int32.reduceToInt, Int64.reduceToInt] at f3); have f4 := c_i2l ix; (try simp only [Int32.reduceToInt, Int64.reduceToInt] at f4); have f5 := rng64 (ix.toInt64 + (1 : Int64)); (try simp only [Int32.reduceToInt, Int64.reduceToInt] at f5); have f6 := c_ladd ix.toInt64 (1 : Int64); (try simp only [Int32.reduceToInt, Int64.reduceToInt] at f6); (try have f6e : (ix.toInt64 + (1 : Int64)).toInt = ix.toInt64.toInt + (1 : Int) := (by omega)); omega
  rw [e1, hl] at h
  obtain ⟨k, mx, a1, a2, a3, a4, a5, a6, a7, a8⟩ := h
  have hk : k ≤ 8 := by
    rcases Nat.lt_or_ge 8 k with h | h
    · exfalso; have h5 := own_powle (show 9 ≤ k by omega); omega
    · exact h
  have h5 := own_powle hk
  have h6 : (2 : Int) ^ k = 16 * 2 ^ (k - 4) := by rw [show (16 : Int) = 2 ^ 4 from rfl, ← Int.pow_add]; congr 1; omega
  have h7 : rr.toInt = (2 ^ k - 16) / 4 := by omega
  have h8 : 16 + 4 * rr.toInt = 2 ^ k := by generalize (2 : Int) ^ (k - 4) = Q at *; omega
  refine ⟨rr.toInt.toNat, by omega, by omega, by omega, by omega, k, mx, a2, ?_, a3, a4, a5, by omega, by omega⟩
  rw [← h8]; omega
theorem pd_5 : parseMethodDescriptor "(IJI)I" = some ⟨[.int, .long, .int], some .int⟩ := by decide +kernel
theorem pd_6 : parseMethodDescriptor "([II)[I" = some ⟨[(.array .int), .int], some (.array .int)⟩ := by decide +kernel
def RM_rm1_g : Room := ({ frames := 4, cells := 1, slots := 60, locals := 65 } : Room)
theorem d1_0 : decode prog_67_method_3_code 0 = .ok (.iload_n 1, 1) := by decide +kernel
theorem d1_1 : decode prog_67_method_3_code 1 = .ok (.aload_n 0, 1) := by decide +kernel
theorem d1_2 : decode prog_67_method_3_code 2 = .ok (.arraylength, 1) := by decide +kernel
theorem d1_3 : decode prog_67_method_3_code 3 = .ok (.if_icmp .ge 7, 3) := by decide +kernel
theorem d1_10 : decode prog_67_method_3_code 10 = .ok (.aload_n 0, 1) := by decide +kernel
theorem d1_11 : decode prog_67_method_3_code 11 = .ok (.aload_n 0, 1) := by decide +kernel
theorem d1_12 : decode prog_67_method_3_code 12 = .ok (.arraylength, 1) := by decide +kernel
theorem d1_13 : decode prog_67_method_3_code 13 = .ok (.iload_n 1, 1) := by decide +kernel
theorem d1_14 : decode prog_67_method_3_code 14 = .ok (.i2l, 1) := by decide +kernel
theorem d1_15 : decode prog_67_method_3_code 15 = .ok (.lconst 1, 1) := by decide +kernel
theorem d1_16 : decode prog_67_method_3_code 16 = .ok (.ladd, 1) := by decide +kernel
theorem d1_17 : decode prog_67_method_3_code 17 = .ok (.iconst 4, 1) := by decide +kernel
theorem d1_18 : decode prog_67_method_3_code 18 = .ok (.invokestatic 41, 3) := by decide +kernel
theorem d1_21 : decode prog_67_method_3_code 21 = .ok (.invokestatic 45, 3) := by decide +kernel
theorem d1_24 : decode prog_67_method_3_code 24 = .ok (.areturn, 1) := by decide +kernel
theorem ef_1 (m : MethodId) (z0 : Addr) (z1 : Int32) : entryFrame m #[.ref z0, .int z1] 2 = mkF m 0 #[.val (.ref z0), .val (.int z1)] [] := by first | (simp [entryFrame, mkF, argsToLocals, Value.category]; done) | rfl
set_option maxRecDepth 65536 in
set_option maxHeartbeats 40000000 in
theorem rm1_g (l : Launch) (Z : State) (a0 : Array Value) (hw : ∀ d ∈ tables_1, d.before a0 Z = true) (ws : List Jvm.Cond) (o : Addr) (ix : Int32) (h0 : Heap) (n0 : Nat) (Z0 : n0 ≤ h0.size) (vs : List Int32) (A0 : IA Z h0 o vs) (ln : Int32) (hln : ln.toInt = (vs.length : Int)) (hl7 : vs.length ≤ 7) (hix1 : (vs.length : Int) ≤ ix.toInt) (hix2 : ix.toInt ≤ 31) :
    Ctr l Z (⟨"com/example/vestline/vestline/number/Growth", "withRoom", "([II)[I"⟩ : MethodName) prog_67_method_3_code 2 (some (.array .int)) RM_rm1_g ws #[.ref o, .int ix] h0 (fun v h L => Fr n0 L ∧ ∃ (o2 : Addr) (nN : Nat) (rr : Int32), v = some (.ref o2) ∧ rr.toInt = (nN : Int) ∧ h0.size ≤ o2 ∧ Keep h0 h [] ∧ IA Z h o2 (vs ++ List.replicate (nN - vs.length) 0) ∧ vs.length < nN ∧ ix.toInt < (nN : Int) ∧ nN ≤ 60 ∧ (∃ (k : Nat) (mx : Int), k ≤ 37 ∧ 16 + 4 * (nN : Int) = 2 ^ k ∧ ix.toInt + 1 ≤ mx ∧ 2 * (vs.length : Int) ≤ mx ∧ (mx = ix.toInt + 1 ∨ mx = 2 * (vs.length : Int)) ∧ mx ≤ (nN : Int) ∧ 16 + 4 * (nN : Int) < 2 * (16 + 4 * mx))) := by
  refine Ctr.of (plainFor_of_name pn_4) ?_
  intro p e s m below meth c s₁ hx hby hml hrt hlk hnm hown hZ X0 e0
  have N0 := Fr.nil n0
  refine Go.cast (ef_1 m o ix) ?_
  refine g_iloadN (q := 1) X0.here hx (hb hby d1_0) rfl rfl ?_
  refine g_aloadN (q := 2) X0.here hx (hb hby d1_1) rfl rfl rfl ?_
  refine g_alen (q := 3) (v := ln) X0 hx hZ e0 A0 (by rw [List.length_map]; exact hln) (hb hby d1_2) rfl ?_
  refine g_icmp_ge (q := 10) (q0 := 6) X0.here hx (hb hby d1_3) (by decide) (by decide) rfl ?_ ?_
  · intro c1
    refine g_aloadN (q := 11) X0.here hx (hb hby d1_10) rfl rfl rfl ?_
    refine g_aloadN (q := 12) X0.here hx (hb hby d1_11) rfl rfl rfl ?_
    refine g_alen (q := 13) (v := ln) X0 hx hZ e0 A0 (by rw [List.length_map]; exact hln) (hb hby d1_12) rfl ?_
    refine g_iloadN (q := 14) X0.here hx (hb hby d1_13) rfl rfl ?_
    refine g_i2l (q := 15) X0.here hx (hb hby d1_14) rfl ?_
    refine g_lconst1 (q := 16) X0.here hx (hb hby d1_15) rfl ?_
    refine g_ladd (q := 17) X0.here hx (hb hby d1_16) rfl ?_
    refine g_iconst (q := 18) (v := (4 : Int32)) X0.here hx (hb hby d1_17) rfl rfl ?_
    refine g_callSI (q := 21) X0 hx hZ hown (hw _ (List.mem_of_getElem? (i := 5) rfl)) (hw _ (List.mem_of_getElem? (i := 6) rfl)) (hw _ (List.mem_of_getElem? (i := 3) rfl)) (hw _ (List.mem_of_getElem? (i := 7) rfl)) (by decide) (rm2_4 l Z a0 hw [] ln (ix.toInt64 + (1 : Int64)) h0 n0 Z0 (by omega) (by have f3 := rng32 ix; (try simp only [Int32.reduceToInt, Int64.reduceToInt] at f3); have f4 := c_i2l ix; (try simp only [Int32.reduceToInt, Int64.reduceToInt] at f4); have f5 := rng64 (ix.toInt64 + (1 : Int64)); (try simp only [Int32.reduceToInt, Int64.reduceToInt] at f5); have f6 := c_ladd ix.toInt64 (1 : Int64); (try simp only [Int32.reduceToInt, Int64.reduceToInt] at f6); (try have f6e : (ix.toInt64 + (1 : Int64)).toInt = ix.toInt64.toInt + (1 : Int) := (by omega)); omega)) (argsL := [.int ln, .long (ix.toInt64 + (1 : Int64)), .int (4 : Int32)]) (rest := [.ref o]) pd_5 rfl rfl rfl (hb hby d1_18) rfl (by rw [hml]; rfl) e0 (by decide) (W := 1) rfl (by decide) rfl rfl (by decide) (by decide) ?_
    intro T2 r3 X2 e2 hr3
    obtain ⟨nN, hN1, hN2, hN3, hN4, hN5⟩ := own_wr hr3 hln hl7 hix1 hix2
    refine g_callS (q := 24) X2 hx hZ hown (hw _ (List.mem_of_getElem? (i := 31) rfl)) (hw _ (List.mem_of_getElem? (i := 32) rfl)) (hw _ (List.mem_of_getElem? (i := 33) rfl)) (hw _ (List.mem_of_getElem? (i := 34) rfl)) (by decide) (rm8 l Z a0 hw [] o r3 h0 n0 Z0 vs A0 ln hln nN hN1 hN2 hN4) (argsL := [.ref o, .int r3]) (rest := []) pd_6 rfl rfl rfl (hb hby d1_21) rfl (by rw [hml]; rfl) e2 (by decide) (W := 0) rfl (by decide) (by decide) (by decide) ?_
    intro v4 T4 Lc4 X4 Q4
    obtain ⟨Nq4, o4, rfl, q4, Kq4, A4⟩ := Q4
    have N5 := Fr.app N0 Nq4
    have n6 : o ≠ o4 := ne_ge A0.lt q4
    have g7 : h0.size ≤ o4 := Nat.le_trans (Keep.refl h0 []).1 q4
    have g8 : n0 ≤ o4 := Nat.le_trans Z0 q4
    have K9 := Keep.trans (Keep.refl h0 []) Kq4 all0
    have F10 := ArrL.keep A0 Kq4 nin0
    have Z11 : n0 ≤ T4.heap.size := Nat.le_trans Z0 Kq4.1
    exact g_areturn X4 hx hlk rfl hrt rfl (hb hby d1_24) (by decide) (by decide) (by skip; exact ⟨N5, o4, nN, r3, rfl, hN1, g7, K9, A4, hN2, hN3, hN4, hN5⟩)
  · intro c1
    exfalso; omega
def RM_rm1_s : Room := ({ frames := 0, cells := 0, slots := 0, locals := 0 } : Room)
theorem d1_6 : decode prog_67_method_3_code 6 = .ok (.aload_n 0, 1) := by decide +kernel
theorem d1_7 : decode prog_67_method_3_code 7 = .ok (.goto 17, 3) := by decide +kernel
set_option maxRecDepth 65536 in
set_option maxHeartbeats 40000000 in
theorem rm1_s (l : Launch) (Z : State) (a0 : Array Value) (hw : ∀ d ∈ tables_1, d.before a0 Z = true) (ws : List Jvm.Cond) (o : Addr) (ix : Int32) (h0 : Heap) (n0 : Nat) (Z0 : n0 ≤ h0.size) (vs : List Int32) (A0 : IA Z h0 o vs) (ln : Int32) (hln : ln.toInt = (vs.length : Int)) (hl7 : vs.length ≤ 7) (hix1 : ix.toInt < (vs.length : Int)) :
    Ctr l Z (⟨"com/example/vestline/vestline/number/Growth", "withRoom", "([II)[I"⟩ : MethodName) prog_67_method_3_code 2 (some (.array .int)) RM_rm1_s ws #[.ref o, .int ix] h0 (PQ (.ref o) h0) := by
  refine Ctr.of (plainFor_of_name pn_4) ?_
  intro p e s m below meth c s₁ hx hby hml hrt hlk hnm hown hZ X0 e0
  have N0 := Fr.nil n0
  refine Go.cast (ef_1 m o ix) ?_
  refine g_iloadN (q := 1) X0.here hx (hb hby d1_0) rfl rfl ?_
  refine g_aloadN (q := 2) X0.here hx (hb hby d1_1) rfl rfl rfl ?_
  refine g_alen (q := 3) (v := ln) X0 hx hZ e0 A0 (by rw [List.length_map]; exact hln) (hb hby d1_2) rfl ?_
  refine g_icmp_ge (q := 10) (q0 := 6) X0.here hx (hb hby d1_3) (by decide) (by decide) rfl ?_ ?_
  · intro c1
    exfalso; omega
  · intro c1
    refine g_aloadN (q := 7) X0.here hx (hb hby d1_6) rfl rfl rfl ?_
    refine g_goto (q := 24) X0.here hx (hb hby d1_7) (by decide) (by decide) ?_
    exact g_areturn X0 hx hlk rfl hrt rfl (hb hby d1_24) (by decide) (by decide) ⟨rfl, e0, rfl⟩
def own_el (i v0 v1 v2 : Int32) : Int32 := (if (i % (3 : Int32)).toInt = 0 then v0 else if (i % (3 : Int32)).toInt = (1 : Int32).toInt then v1 else v2) + i
theorem own_el0 {i v0 v1 v2 : Int32} (h : (i % (3 : Int32)).toInt = 0) : own_el i v0 v1 v2 = v0 + i := by unfold own_el; rw [if_pos h]
theorem own_el1 {i v0 v1 v2 : Int32} (h : (i % (3 : Int32)).toInt ≠ 0) (h2 : (i % (3 : Int32)).toInt = (1 : Int32).toInt) : own_el i v0 v1 v2 = v1 + i := by unfold own_el; rw [if_neg h, if_pos h2]
theorem own_el2 {i v0 v1 v2 : Int32} (h : (i % (3 : Int32)).toInt ≠ 0) (h2 : (i % (3 : Int32)).toInt ≠ (1 : Int32).toInt) : own_el i v0 v1 v2 = v2 + i := by unfold own_el; rw [if_neg h, if_neg h2]
theorem own_apL {vs : List Int32} {n i : Nat} (h : i < vs.length) : (vs ++ List.replicate n (0 : Int32))[i]? = vs[i]? := List.getElem?_append_left h
theorem own_apR {vs : List Int32} {n i : Nat} (h1 : vs.length ≤ i) (h2 : i < n) : (vs ++ List.replicate (n - vs.length) (0 : Int32))[i]? = some 0 := by
  rw [List.getElem?_append_right h1, List.getElem?_replicate, if_pos (by omega)]
theorem own_apl {vs : List Int32} {n : Nat} (h : vs.length < n) : (vs ++ List.replicate (n - vs.length) (0 : Int32)).length = n := by
  rw [List.length_append, List.length_replicate]; omega
theorem own_gd {vs : List Int32} {i : Nat} (h : i < vs.length) : vs[i]? = some (vs.getD i 0) := by
  rw [List.getD_eq_getElem?_getD, List.getElem?_eq_getElem h]; rfl
theorem own_nn {z : Int} (h : 0 ≤ z ∧ z ≤ 7) : z = (z.toNat : Int) := by omega
theorem own_n7 {z : Int} (h : 0 ≤ z ∧ z ≤ 7) : z.toNat ≤ 7 := by omega
theorem own_n8 {z : Int} (h : 0 ≤ z ∧ z ≤ 7) : z = 0 ∨ z = 1 ∨ z = 2 ∨ z = 3 ∨ z = 4 ∨ z = 5 ∨ z = 6 ∨ z = 7 := by omega
theorem own_mk7 (x : Int32) : 0 ≤ (x &&& (7 : Int32)).toInt ∧ (x &&& (7 : Int32)).toInt ≤ 7 := by have f := c_mask x (7 : Int32) 3 (by decide) (by decide); omega
theorem own_mk63 (x : Int32) : 0 ≤ (x &&& (63 : Int32)).toInt ∧ (x &&& (63 : Int32)).toInt ≤ 63 := by have f := c_mask x (63 : Int32) 6 (by decide) (by decide); omega
theorem own_rm32 (x : Int32) : -31 ≤ (x % (32 : Int32)).toInt ∧ (x % (32 : Int32)).toInt ≤ 31 := by have f := c_irem x (32 : Int32) 32 (by decide); (try simp only [Int32.reduceToInt] at f); omega
theorem own_l7 {vs : List Int32} {n : Int32} (h : (vs.length : Int) = n.toInt) (g : 0 ≤ n.toInt ∧ n.toInt ≤ 7) : vs.length ≤ 7 := by omega
theorem own_tn {z : Int} (h : 0 ≤ z) : z = (z.toNat : Int) := by omega
theorem own_apl2 {vs : List Int32} {rr : Int32} {nN : Nat} (h : rr.toInt = (nN : Int)) (h2 : vs.length < nN) : rr.toInt = ((vs ++ List.replicate (nN - vs.length) (0 : Int32)).length : Int) := by rw [own_apl h2]; exact h
theorem own_r2 {vs : List Int32} {n kd a b d : Int32} (h : (vs.length : Int) = n.toInt) (g : ∀ i : Nat, i < vs.length → vs.getD i 0 = own_el (Int32.ofNat i) a b d) (hk : 0 ≤ kd.toInt ∧ kd.toInt ≤ 63) (hc : kd.toInt < n.toInt) : vs[kd.toInt.toNat]? = some (own_el kd a b d) := by
  have e : Int32.ofNat kd.toInt.toNat = kd := Int32.toInt_inj.mp (by rw [Int32.toInt_ofNat_of_lt (by omega)]; omega)
  have hi : kd.toInt.toNat < vs.length := by omega
  rw [own_gd hi, g _ hi, e]
theorem own_r3 {vs : List Int32} {n kd a b d : Int32} {nN : Nat} (h : (vs.length : Int) = n.toInt) (g : ∀ i : Nat, i < vs.length → vs.getD i 0 = own_el (Int32.ofNat i) a b d) (hk : 0 ≤ kd.toInt ∧ kd.toInt ≤ 63) (hc : kd.toInt < n.toInt) : (vs ++ List.replicate (nN - vs.length) (0 : Int32))[kd.toInt.toNat]? = some (own_el kd a b d) := by
  rw [own_apL (by omega)]; exact own_r2 h g hk hc
theorem own_r0 {vs : List Int32} {n kd rr E : Int32} {nN : Nat} (h : (vs.length : Int) = n.toInt) (hk : 0 ≤ kd.toInt ∧ kd.toInt ≤ 63) (hc : n.toInt ≤ kd.toInt) (hrr : rr.toInt = (nN : Int)) (hE : rr.toInt = E.toInt) (h2 : kd.toInt < E.toInt) : (vs ++ List.replicate (nN - vs.length) (0 : Int32))[kd.toInt.toNat]? = some 0 := own_apR (by omega) (by omega)
theorem own_m2 {rr sn ix mm : Int32} {nN kn : Nat} (hrr : rr.toInt = (nN : Int)) (hl : (kn : Int) = sn.toInt) (h7 : kn ≤ 7) (hN4 : nN ≤ 60) (hix : -31 ≤ ix.toInt ∧ ix.toInt ≤ 31) (hge : ix.toInt ≥ (kn : Int)) (hg : ∃ (k : Nat) (mx : Int), k ≤ 37 ∧ 16 + 4 * (nN : Int) = 2 ^ k ∧ ix.toInt + 1 ≤ mx ∧ 2 * (kn : Int) ≤ mx ∧ (mx = ix.toInt + 1 ∨ mx = 2 * (kn : Int)) ∧ mx ≤ (nN : Int) ∧ 16 + 4 * (nN : Int) < 2 * (16 + 4 * mx)) (hm : (ix + (1 : Int32)).toInt ≤ mm.toInt ∧ ((2 : Int32) * sn).toInt ≤ mm.toInt ∧ (mm.toInt = (ix + (1 : Int32)).toInt ∨ mm.toInt = ((2 : Int32) * sn).toInt)) : (mm.toInt ≤ (4 : Int32).toInt → rr.toInt = (4 : Int32).toInt) ∧ ((4 : Int32).toInt < mm.toInt → mm.toInt ≤ (12 : Int32).toInt → rr.toInt = (12 : Int32).toInt) ∧ ((12 : Int32).toInt < mm.toInt → mm.toInt ≤ (28 : Int32).toInt → rr.toInt = (28 : Int32).toInt) ∧ ((28 : Int32).toInt < mm.toInt → rr.toInt = (60 : Int32).toInt) := by
  have e1 : (ix + (1 : Int32)).toInt = ix.toInt + 1 := (by have f2 := rng32 ix; (try simp only [Int32.reduceToInt, Int64.reduceToInt] at f2); have f3 := rng32 (ix + (1 : Int32)); (try simp only [Int32.reduceToInt, Int64.reduceToInt] at f3); have f4 := c_iadd ix (1 : Int32); (try simp only [Int32.reduceToInt, Int64.reduceToInt] at f4); (try have f4e : (ix + (1 : Int32)).toInt = ix.toInt + (1 : Int) := (by omega)); omega)
  have e2 : ((2 : Int32) * sn).toInt = 2 * sn.toInt := (by have f2 := rng32 sn; (try simp only [Int32.reduceToInt, Int64.reduceToInt] at f2); have f3 := rng32 ((2 : Int32) * sn); (try simp only [Int32.reduceToInt, Int64.reduceToInt] at f3); have f4 := c_imul (2 : Int32) sn; (try simp only [Int32.reduceToInt, Int64.reduceToInt] at f4); (try have f4e : ((2 : Int32) * sn).toInt = (2 : Int) * sn.toInt := (by omega)); omega)
  rw [e1, e2] at hm
  obtain ⟨k, mx, a1, a2, a3, a4, a5, a6, a7⟩ := hg
  have e0 : mx = mm.toInt := by clear a2; omega
  subst e0
  clear e1 e2
  have hk : k ≤ 8 := by
    rcases Nat.lt_or_ge 8 k with h | h
    · exfalso; have h5 := own_powle (show 9 ≤ k by omega); rw [← a2] at h5; omega
    · exact h
  rw [show (4 : Int32).toInt = 4 from rfl, show (12 : Int32).toInt = 12 from rfl, show (28 : Int32).toInt = 28 from rfl, show (60 : Int32).toInt = 60 from rfl]
  have hk2 : k = 0 ∨ k = 1 ∨ k = 2 ∨ k = 3 ∨ k = 4 ∨ k = 5 ∨ k = 6 ∨ k = 7 ∨ k = 8 := by clear a2; omega
  rcases hk2 with rfl | rfl | rfl | rfl | rfl | rfl | rfl | rfl | rfl <;> (try simp only [Int.reducePow] at a2) <;> omega
def RM_rm11 : Room := ({ frames := 0, cells := 0, slots := 0, locals := 0 } : Room)
theorem d11_0 : decode method_2_code 0 = .ok (.iload_n 0, 1) := by decide +kernel
theorem d11_1 : decode method_2_code 1 = .ok (.iconst 3, 1) := by decide +kernel
theorem d11_2 : decode method_2_code 2 = .ok (.irem, 1) := by decide +kernel
theorem d11_3 : decode method_2_code 3 = .ok (.istore 4, 2) := by decide +kernel
theorem d11_5 : decode method_2_code 5 = .ok (.iload 4, 2) := by decide +kernel
theorem d11_7 : decode method_2_code 7 = .ok (.ifCond .ne 7, 3) := by decide +kernel
theorem d11_10 : decode method_2_code 10 = .ok (.iload_n 1, 1) := by decide +kernel
theorem d11_11 : decode method_2_code 11 = .ok (.goto 14, 3) := by decide +kernel
theorem d11_14 : decode method_2_code 14 = .ok (.iload 4, 2) := by decide +kernel
theorem d11_16 : decode method_2_code 16 = .ok (.iconst 1, 1) := by decide +kernel
theorem d11_17 : decode method_2_code 17 = .ok (.if_icmp .ne 7, 3) := by decide +kernel
theorem d11_20 : decode method_2_code 20 = .ok (.iload_n 2, 1) := by decide +kernel
theorem d11_21 : decode method_2_code 21 = .ok (.goto 4, 3) := by decide +kernel
theorem d11_24 : decode method_2_code 24 = .ok (.iload_n 3, 1) := by decide +kernel
theorem d11_25 : decode method_2_code 25 = .ok (.istore 5, 2) := by decide +kernel
theorem d11_27 : decode method_2_code 27 = .ok (.iload 5, 2) := by decide +kernel
theorem d11_29 : decode method_2_code 29 = .ok (.iload_n 0, 1) := by decide +kernel
theorem d11_30 : decode method_2_code 30 = .ok (.iadd, 1) := by decide +kernel
theorem d11_31 : decode method_2_code 31 = .ok (.ireturn, 1) := by decide +kernel
theorem ef_11 (m : MethodId) (z0 : Int32) (z1 : Int32) (z2 : Int32) (z3 : Int32) : entryFrame m #[.int z0, .int z1, .int z2, .int z3] 6 = mkF m 0 #[.val (.int z0), .val (.int z1), .val (.int z2), .val (.int z3), .unset, .unset] [] := by first | (simp [entryFrame, mkF, argsToLocals, Value.category]; done) | rfl
theorem pn_7 : plainName "com/example/vestline/vestline/number/GrowthWithRoomPinLaw" = true := by first | (simp [plainName, overriddenIn]; done) | decide +kernel
set_option maxRecDepth 65536 in
set_option maxHeartbeats 40000000 in
theorem rm11 (l : Launch) (Z : State) (a0 : Array Value) (hw : ∀ d ∈ tables_1, d.before a0 Z = true) (ws : List Jvm.Cond) (ek : Int32) (e0_ : Int32) (e1_ : Int32) (e2_ : Int32) (h0 : Heap) (n0 : Nat) (Z0 : n0 ≤ h0.size) :
    Ctr l Z (⟨"com/example/vestline/vestline/number/GrowthWithRoomPinLaw", "elem", "(IIII)I"⟩ : MethodName) method_2_code 6 (some .int) RM_rm11 ws #[.int ek, .int e0_, .int e1_, .int e2_] h0 (PQ (.int (own_el ek e0_ e1_ e2_)) h0) := by
  refine Ctr.of (plainFor_of_name pn_7) ?_
  intro p e s m below meth c s₁ hx hby hml hrt hlk hnm hown hZ X0 e0
  have N0 := Fr.nil n0
  refine Go.cast (ef_11 m ek e0_ e1_ e2_) ?_
  refine g_iloadN (q := 1) X0.here hx (hb hby d11_0) rfl rfl ?_
  refine g_iconst (q := 2) (v := (3 : Int32)) X0.here hx (hb hby d11_1) rfl rfl ?_
  refine g_irem (q := 3) X0.here hx (hb hby d11_2) (by decide) rfl ?_
  refine g_istore (q := 5) (L' := #[.val (.int ek), .val (.int e0_), .val (.int e1_), .val (.int e2_), .val (.int (ek % (3 : Int32))), .unset]) X0.here hx (hb hby d11_3) rfl rfl ?_
  refine g_iload (q := 7) X0.here hx (hb hby d11_5) rfl rfl ?_
  refine g_if_ne (q := 14) (q0 := 10) X0.here hx (hb hby d11_7) (by decide) (by decide) rfl ?_ ?_
  · intro c1
    refine g_iload (q := 16) X0.here hx (hb hby d11_14) rfl rfl ?_
    refine g_iconst (q := 17) (v := (1 : Int32)) X0.here hx (hb hby d11_16) rfl rfl ?_
    refine g_icmp_ne (q := 24) (q0 := 20) X0.here hx (hb hby d11_17) (by decide) (by decide) rfl ?_ ?_
    · intro c2
      refine g_iloadN (q := 25) X0.here hx (hb hby d11_24) rfl rfl ?_
      refine g_istore (q := 27) (L' := #[.val (.int ek), .val (.int e0_), .val (.int e1_), .val (.int e2_), .val (.int (ek % (3 : Int32))), .val (.int e2_)]) X0.here hx (hb hby d11_25) rfl rfl ?_
      refine g_iload (q := 29) X0.here hx (hb hby d11_27) rfl rfl ?_
      refine g_iloadN (q := 30) X0.here hx (hb hby d11_29) rfl rfl ?_
      refine g_iadd (q := 31) X0.here hx (hb hby d11_30) rfl ?_
      exact g_ireturn X0 hx hlk hrt (hb hby d11_31) (by decide) (by decide) ⟨congrArg (fun z => some (Value.int z)) (own_el2 c1 c2).symm, e0, rfl⟩
    · intro c2
      refine g_iloadN (q := 21) X0.here hx (hb hby d11_20) rfl rfl ?_
      refine g_goto (q := 25) X0.here hx (hb hby d11_21) (by decide) (by decide) ?_
      refine g_istore (q := 27) (L' := #[.val (.int ek), .val (.int e0_), .val (.int e1_), .val (.int e2_), .val (.int (ek % (3 : Int32))), .val (.int e1_)]) X0.here hx (hb hby d11_25) rfl rfl ?_
      refine g_iload (q := 29) X0.here hx (hb hby d11_27) rfl rfl ?_
      refine g_iloadN (q := 30) X0.here hx (hb hby d11_29) rfl rfl ?_
      refine g_iadd (q := 31) X0.here hx (hb hby d11_30) rfl ?_
      exact g_ireturn X0 hx hlk hrt (hb hby d11_31) (by decide) (by decide) ⟨congrArg (fun z => some (Value.int z)) (own_el1 c1 c2).symm, e0, rfl⟩
  · intro c1
    refine g_iloadN (q := 11) X0.here hx (hb hby d11_10) rfl rfl ?_
    refine g_goto (q := 25) X0.here hx (hb hby d11_11) (by decide) (by decide) ?_
    refine g_istore (q := 27) (L' := #[.val (.int ek), .val (.int e0_), .val (.int e1_), .val (.int e2_), .val (.int (ek % (3 : Int32))), .val (.int e0_)]) X0.here hx (hb hby d11_25) rfl rfl ?_
    refine g_iload (q := 29) X0.here hx (hb hby d11_27) rfl rfl ?_
    refine g_iloadN (q := 30) X0.here hx (hb hby d11_29) rfl rfl ?_
    refine g_iadd (q := 31) X0.here hx (hb hby d11_30) rfl ?_
    exact g_ireturn X0 hx hlk hrt (hb hby d11_31) (by decide) (by decide) ⟨congrArg (fun z => some (Value.int z)) (own_el0 c1).symm, e0, rfl⟩
def RM_rm10 : Room := ({ frames := 0, cells := 0, slots := 0, locals := 0 } : Room)
theorem d10_0 : decode jdk_29_method_65_code 0 = .ok (.iload_n 0, 1) := by decide +kernel
theorem d10_1 : decode jdk_29_method_65_code 1 = .ok (.iload_n 1, 1) := by decide +kernel
theorem d10_2 : decode jdk_29_method_65_code 2 = .ok (.if_icmp .lt 7, 3) := by decide +kernel
theorem d10_5 : decode jdk_29_method_65_code 5 = .ok (.iload_n 0, 1) := by decide +kernel
theorem d10_6 : decode jdk_29_method_65_code 6 = .ok (.goto 4, 3) := by decide +kernel
theorem d10_9 : decode jdk_29_method_65_code 9 = .ok (.iload_n 1, 1) := by decide +kernel
theorem d10_10 : decode jdk_29_method_65_code 10 = .ok (.ireturn, 1) := by decide +kernel
theorem ef_10 (m : MethodId) (z0 : Int32) (z1 : Int32) : entryFrame m #[.int z0, .int z1] 2 = mkF m 0 #[.val (.int z0), .val (.int z1)] [] := by first | (simp [entryFrame, mkF, argsToLocals, Value.category]; done) | rfl
theorem pn_8 : plainFor (⟨"java/lang/Math", "max", "(II)I"⟩ : MethodName) = true := by exact (Jvm.Free.JP.mathPlain rfl (by decide +kernel))
set_option maxRecDepth 65536 in
set_option maxHeartbeats 40000000 in
theorem rm10 (l : Launch) (Z : State) (a0 : Array Value) (hw : ∀ d ∈ tables_1, d.before a0 Z = true) (ws : List Jvm.Cond) (ma : Int32) (mb : Int32) (h0 : Heap) (n0 : Nat) (Z0 : n0 ≤ h0.size) :
    Ctr l Z (⟨"java/lang/Math", "max", "(II)I"⟩ : MethodName) jdk_29_method_65_code 2 (some .int) RM_rm10 ws #[.int ma, .int mb] h0 (IQ (fun r => ma.toInt ≤ r.toInt ∧ mb.toInt ≤ r.toInt ∧ (r.toInt = ma.toInt ∨ r.toInt = mb.toInt)) h0) := by
  refine Ctr.of pn_8 ?_
  intro p e s m below meth c s₁ hx hby hml hrt hlk hnm hown hZ X0 e0
  have N0 := Fr.nil n0
  refine Go.cast (ef_10 m ma mb) ?_
  refine g_iloadN (q := 1) X0.here hx (hb hby d10_0) rfl rfl ?_
  refine g_iloadN (q := 2) X0.here hx (hb hby d10_1) rfl rfl ?_
  refine g_icmp_lt (q := 9) (q0 := 5) X0.here hx (hb hby d10_2) (by decide) (by decide) rfl ?_ ?_
  · intro c1
    refine g_iloadN (q := 10) X0.here hx (hb hby d10_9) rfl rfl ?_
    exact g_ireturn X0 hx hlk hrt (hb hby d10_10) (by decide) (by decide) ⟨_, rfl, (show ma.toInt ≤ mb.toInt ∧ mb.toInt ≤ mb.toInt ∧ (mb.toInt = ma.toInt ∨ mb.toInt = mb.toInt) by (try simp only [Int32.reduceToInt, Int64.reduceToInt, true_and, and_true, not_true_eq_false, not_false_eq_true, false_and, or_false, false_or] at c1); have f1 := rng32 mb; (try simp only [Int32.reduceToInt, Int64.reduceToInt] at f1); have f3 := rng32 ma; (try simp only [Int32.reduceToInt, Int64.reduceToInt] at f3); (try simp only [Int32.reduceToInt, Int64.reduceToInt, and_true, true_and, or_true, true_or]); (first | done | omega)), e0, rfl⟩
  · intro c1
    refine g_iloadN (q := 6) X0.here hx (hb hby d10_5) rfl rfl ?_
    refine g_goto (q := 10) X0.here hx (hb hby d10_6) (by decide) (by decide) ?_
    exact g_ireturn X0 hx hlk hrt (hb hby d10_10) (by decide) (by decide) ⟨_, rfl, (show ma.toInt ≤ ma.toInt ∧ mb.toInt ≤ ma.toInt ∧ (ma.toInt = ma.toInt ∨ ma.toInt = mb.toInt) by (try simp only [Int32.reduceToInt, Int64.reduceToInt, true_and, and_true, not_true_eq_false, not_false_eq_true, false_and, or_false, false_or] at c1); have f1 := rng32 mb; (try simp only [Int32.reduceToInt, Int64.reduceToInt] at f1); have f3 := rng32 ma; (try simp only [Int32.reduceToInt, Int64.reduceToInt] at f3); (try simp only [Int32.reduceToInt, Int64.reduceToInt, and_true, true_and, or_true, true_or]); (first | done | omega)), e0, rfl⟩
theorem pd_7 : parseMethodDescriptor "(IIII)I" = some ⟨[.int, .int, .int, .int], some .int⟩ := by decide +kernel
theorem ef_0 (m : MethodId) (z0 : Int32) (z1 : Int32) (z2 : Int32) (z3 : Int32) (z4 : Int32) (z5 : Int32) : entryFrame m #[.int z0, .int z1, .int z2, .int z3, .int z4, .int z5] maxLocals = mkF m 0 #[.val (.int z0), .val (.int z1), .val (.int z2), .val (.int z3), .val (.int z4), .val (.int z5), .unset, .unset, .unset, .unset, .unset, .unset, .unset, .unset, .unset, .unset] [] := by first | (simp [entryFrame, mkF, argsToLocals, Value.category, maxLocals]; done) | rfl
set_option maxRecDepth 65536 in
set_option maxHeartbeats 40000000 in
theorem rm0 (l : Launch) (Z : State) (a0 : Array Value) (hw : ∀ d ∈ tables_1, d.before a0 Z = true) (ws : List Jvm.Cond) (sz : Int32) (idx : Int32) (pk : Int32) (u0 : Int32) (u1 : Int32) (u2 : Int32) (h0 : Heap) (n0 : Nat) (Z0 : n0 ≤ h0.size) :
    Ctr l Z x code maxLocals ret room_1 ws #[.int sz, .int idx, .int pk, .int u0, .int u1, .int u2] h0 (fun v h L => v = some (.int 1) ∧ Fr n0 L) := by
  refine Ctr.of (plainFor_of_name pn_7) ?_
  intro p e s m below meth c s₁ hx hby hml hrt hlk hnm hown hZ X0 e0
  have N0 := Fr.nil n0
  refine Go.cast (ef_0 m sz idx pk u0 u1 u2) ?_
  replace hown : s.vm.findClass "com/example/vestline/vestline/number/GrowthWithRoomPinLaw" = some m.cls := hown
  replace hml : c.maxLocals = 16 := hml
  replace hrt : meth.sig.returnType = some .boolean := hrt
  refine g_iloadN (q := 1) X0.here hx (hb hby at_0) rfl rfl ?_
  refine g_bipush (q := 3) (v := (7 : Int32)) X0.here hx (hb hby at_1) rfl rfl ?_
  refine g_iand (q := 4) X0.here hx (hb hby at_3) rfl ?_
  obtain ⟨sn, hsn7e, hsn7⟩ : ∃ sn : Int32, (sz &&& (7 : Int32)) = sn ∧ (0 ≤ sn.toInt ∧ sn.toInt ≤ 7) := ⟨_, rfl, own_mk7 _⟩
  rw [hsn7e]
  refine g_istore (q := 6) (L' := #[.val (.int sz), .val (.int idx), .val (.int pk), .val (.int u0), .val (.int u1), .val (.int u2), .val (.int sn), .unset, .unset, .unset, .unset, .unset, .unset, .unset, .unset, .unset]) X0.here hx (hb hby at_4) rfl rfl ?_
  refine g_iloadN (q := 7) X0.here hx (hb hby at_6) rfl rfl ?_
  refine g_bipush (q := 9) (v := (32 : Int32)) X0.here hx (hb hby at_7) rfl rfl ?_
  refine g_irem (q := 10) X0.here hx (hb hby at_9) (by decide) rfl ?_
  obtain ⟨ix, hixe, hix⟩ : ∃ ix : Int32, (idx % (32 : Int32)) = ix ∧ (-31 ≤ ix.toInt ∧ ix.toInt ≤ 31) := ⟨_, rfl, own_rm32 _⟩
  rw [hixe]
  refine g_istore (q := 12) (L' := #[.val (.int sz), .val (.int idx), .val (.int pk), .val (.int u0), .val (.int u1), .val (.int u2), .val (.int sn), .val (.int ix), .unset, .unset, .unset, .unset, .unset, .unset, .unset, .unset]) X0.here hx (hb hby at_10) rfl rfl ?_
  refine g_iloadN (q := 13) X0.here hx (hb hby at_12) rfl rfl ?_
  refine g_bipush (q := 15) (v := (63 : Int32)) X0.here hx (hb hby at_13) rfl rfl ?_
  refine g_iand (q := 16) X0.here hx (hb hby at_15) rfl ?_
  obtain ⟨kd, hkde, hkd⟩ : ∃ kd : Int32, (pk &&& (63 : Int32)) = kd ∧ (0 ≤ kd.toInt ∧ kd.toInt ≤ 63) := ⟨_, rfl, own_mk63 _⟩
  rw [hkde]
  refine g_istore (q := 18) (L' := #[.val (.int sz), .val (.int idx), .val (.int pk), .val (.int u0), .val (.int u1), .val (.int u2), .val (.int sn), .val (.int ix), .val (.int kd), .unset, .unset, .unset, .unset, .unset, .unset, .unset]) X0.here hx (hb hby at_16) rfl rfl ?_
  refine g_iload (q := 20) X0.here hx (hb hby at_18) rfl rfl ?_
  refine g_inew_ (q := 22) (n := sn.toInt.toNat) (cap := 7) X0 hx hZ (hw _ (List.mem_of_getElem? (i := 0) rfl)) e0 (own_nn hsn7) (own_n7 hsn7) (by decide) (hb hby at_20) rfl (by decide) (by decide) ?_
  intro T1 h1 o1 X1 e1 E1 q1 A1
  have g2 : n0 ≤ o1 := ge_new Z0 q1
  have Z3 : n0 ≤ h1.size := Nat.le_trans Z0 E1.1
  refine g_astore (q := 24) (L' := #[.val (.int sz), .val (.int idx), .val (.int pk), .val (.int u0), .val (.int u1), .val (.int u2), .val (.int sn), .val (.int ix), .val (.int kd), .val (.ref o1), .unset, .unset, .unset, .unset, .unset, .unset]) X1.here hx (hb hby at_22) rfl rfl rfl ?_
  have LP159_b4 : ∀ (Tb4 : State) (hh : Heap) (lcb4 : List Loc) (vs : List Int32) (Xb4 : Stand p l e room_1 s m #[.int sz, .int idx, .int pk, .int u0, .int u1, .int u2] below meth c Tb4 (lcb4) (0 + 1) (0 + 7)) (eb4 : Tb4.heap = hh) (Nb4 : Fr n0 lcb4) (Zb4 : n0 ≤ hh.size) (_Av : IA Z hh o1 vs) (_hlv : (vs.length : Int) = sn.toInt) (_hgv : ∀ i : Nat, i < vs.length → vs.getD i 0 = own_el (Int32.ofNat i) u0 u1 u2), Go p e below (Fin0 s room_1 (fun v h L => v = some (.int 1) ∧ Fr n0 L)) (Tb4.setTop (mkF m 159 #[.val (.int sz), .val (.int idx), .val (.int pk), .val (.int u0), .val (.int u1), .val (.int u2), .val (.int sn), .val (.int ix), .val (.int kd), .val (.ref o1), .unset, .unset, .unset, .unset, .unset, .unset] [])) := by
    intro Tb4 hh lcb4 vs Xb4 eb4 Nb4 Zb4 _Av _hlv _hgv
    refine g_aload (q := 161) Xb4.here hx (hb hby at_159) rfl rfl rfl ?_
    refine g_iload (q := 163) Xb4.here hx (hb hby at_161) rfl rfl ?_
    rcases Int.lt_or_le ix.toInt (vs.length : Int) with hlt | hge
    · skip
      refine g_callS (q := 166) Xb4 hx hZ hown (hw _ (List.mem_of_getElem? (i := 1) rfl)) (hw _ (List.mem_of_getElem? (i := 2) rfl)) (hw _ (List.mem_of_getElem? (i := 3) rfl)) (hw _ (List.mem_of_getElem? (i := 4) rfl)) (by decide) (rm1_s l Z a0 hw [] o1 ix hh n0 Zb4 vs _Av sn _hlv.symm (own_l7 _hlv hsn7) hlt) (argsL := [.ref o1, .int ix]) (rest := []) pd_6 rfl rfl rfl (hb hby at_163) rfl (by rw [hml]; rfl) eb4 (by decide) (W := 0) rfl (by decide) (by decide) (by decide) ?_
      intro v5 T5 Lc5 X5 Q5
      obtain ⟨rfl, e5, rfl⟩ := Q5
      rw [List.append_nil] at X5
      refine g_astore (q := 168) (L' := #[.val (.int sz), .val (.int idx), .val (.int pk), .val (.int u0), .val (.int u1), .val (.int u2), .val (.int sn), .val (.int ix), .val (.int kd), .val (.ref o1), .val (.ref o1), .unset, .unset, .unset, .unset, .unset]) X5.here hx (hb hby at_166) rfl rfl rfl ?_
      refine g_iload (q := 170) X5.here hx (hb hby at_168) rfl rfl ?_
      refine g_iload (q := 172) X5.here hx (hb hby at_170) rfl rfl ?_
      refine g_icmp_ge (q := 193) (q0 := 175) X5.here hx (hb hby at_172) (by decide) (by decide) rfl ?_ ?_
      · intro c6
        refine g_iconst (q := 194) (v := (1 : Int32)) X5.here hx (hb hby at_193) rfl rfl ?_
        refine g_goto (q := 198) X5.here hx (hb hby at_194) (by decide) (by decide) ?_
        refine g_istore (q := 200) (L' := #[.val (.int sz), .val (.int idx), .val (.int pk), .val (.int u0), .val (.int u1), .val (.int u2), .val (.int sn), .val (.int ix), .val (.int kd), .val (.ref o1), .val (.ref o1), .val (.int (1 : Int32)), .unset, .unset, .unset, .unset]) X5.here hx (hb hby at_198) rfl rfl ?_
        refine g_iload (q := 202) X5.here hx (hb hby at_200) rfl rfl ?_
        refine g_iload (q := 204) X5.here hx (hb hby at_202) rfl rfl ?_
        refine g_icmp_ge (q := 225) (q0 := 207) X5.here hx (hb hby at_204) (by decide) (by decide) rfl ?_ ?_
        · intro c7
          exfalso; rw [_hlv] at hlt; exact absurd hlt (Int.not_lt.mpr c7)
        · intro c7
          refine g_aload (q := 209) X5.here hx (hb hby at_207) rfl rfl rfl ?_
          refine g_aload (q := 211) X5.here hx (hb hby at_209) rfl rfl rfl ?_
          refine g_acmp_ne (q := 223) (q0 := 214) X5 hx (hb hby at_211) (by decide) (by decide) rfl ?_ ?_
          · intro c8
            exact absurd rfl c8
          · intro c8
            refine g_iload (q := 216) X5.here hx (hb hby at_214) rfl rfl ?_
            refine g_sel_if_eq (q := 224) X5.here hx (hb hby at_216) (by decide) (by decide) rfl (hb hby at_223) (hb hby at_219) (hb hby at_220) rfl (by decide) (by decide) rfl ?_
            rw [show b2i (decide ((1 : Int32).toInt ≠ 0)) = (1 : Int32) from by decide]
            exact g_zreturn (b := true) X5 hx hlk hrt (hb hby at_224) (by decide) (by decide) ⟨rfl, Nb4⟩
      · intro c6
        refine g_aload (q := 177) X5.here hx (hb hby at_175) rfl rfl rfl ?_
        refine g_iload (q := 179) X5.here hx (hb hby at_177) rfl rfl ?_
        refine g_iload_ (q := 180) (i := kd.toInt.toNat) (v := (own_el kd u0 u1 u2)) X5 hx hZ e5 _Av (own_tn hkd.1) (own_r2 _hlv _hgv hkd c6) (hb hby at_179) rfl ?_
        refine g_iload (q := 182) X5.here hx (hb hby at_180) rfl rfl ?_
        refine g_iloadN (q := 183) X5.here hx (hb hby at_182) rfl rfl ?_
        refine g_iload (q := 185) X5.here hx (hb hby at_183) rfl rfl ?_
        refine g_iload (q := 187) X5.here hx (hb hby at_185) rfl rfl ?_
        refine g_callSP (q := 190) X5 hx hZ hown (hw _ (List.mem_of_getElem? (i := 45) rfl)) (hw _ (List.mem_of_getElem? (i := 46) rfl)) (hw _ (List.mem_of_getElem? (i := 47) rfl)) (hw _ (List.mem_of_getElem? (i := 48) rfl)) (by decide) (rm11 l Z a0 hw [] kd u0 u1 u2 hh n0 Zb4) (argsL := [.int kd, .int u0, .int u1, .int u2]) (rest := [.int (own_el kd u0 u1 u2)]) pd_7 rfl rfl rfl (hb hby at_187) rfl (by rw [hml]; rfl) e5 (by decide) (W := 1) rfl (by decide) rfl rfl (by decide) (by decide) ?_
        intro T9 X9 e9
        refine g_icmp_ne (q := 197) (q0 := 193) X9.here hx (hb hby at_190) (by decide) (by decide) rfl ?_ ?_
        · intro c10; exfalso; omega
        · intro c10
          refine g_iconst (q := 194) (v := (1 : Int32)) X9.here hx (hb hby at_193) rfl rfl ?_
          refine g_goto (q := 198) X9.here hx (hb hby at_194) (by decide) (by decide) ?_
          refine g_istore (q := 200) (L' := #[.val (.int sz), .val (.int idx), .val (.int pk), .val (.int u0), .val (.int u1), .val (.int u2), .val (.int sn), .val (.int ix), .val (.int kd), .val (.ref o1), .val (.ref o1), .val (.int (1 : Int32)), .unset, .unset, .unset, .unset]) X9.here hx (hb hby at_198) rfl rfl ?_
          refine g_iload (q := 202) X9.here hx (hb hby at_200) rfl rfl ?_
          refine g_iload (q := 204) X9.here hx (hb hby at_202) rfl rfl ?_
          refine g_icmp_ge (q := 225) (q0 := 207) X9.here hx (hb hby at_204) (by decide) (by decide) rfl ?_ ?_
          · intro c11
            exfalso; rw [_hlv] at hlt; exact absurd hlt (Int.not_lt.mpr c11)
          · intro c11
            refine g_aload (q := 209) X9.here hx (hb hby at_207) rfl rfl rfl ?_
            refine g_aload (q := 211) X9.here hx (hb hby at_209) rfl rfl rfl ?_
            refine g_acmp_ne (q := 223) (q0 := 214) X9 hx (hb hby at_211) (by decide) (by decide) rfl ?_ ?_
            · intro c12
              exact absurd rfl c12
            · intro c12
              refine g_iload (q := 216) X9.here hx (hb hby at_214) rfl rfl ?_
              refine g_sel_if_eq (q := 224) X9.here hx (hb hby at_216) (by decide) (by decide) rfl (hb hby at_223) (hb hby at_219) (hb hby at_220) rfl (by decide) (by decide) rfl ?_
              rw [show b2i (decide ((1 : Int32).toInt ≠ 0)) = (1 : Int32) from by decide]
              exact g_zreturn (b := true) X9 hx hlk hrt (hb hby at_224) (by decide) (by decide) ⟨rfl, Nb4⟩
    · skip
      refine g_callS (q := 166) Xb4 hx hZ hown (hw _ (List.mem_of_getElem? (i := 1) rfl)) (hw _ (List.mem_of_getElem? (i := 2) rfl)) (hw _ (List.mem_of_getElem? (i := 3) rfl)) (hw _ (List.mem_of_getElem? (i := 4) rfl)) (by decide) (rm1_g l Z a0 hw [] o1 ix hh n0 Zb4 vs _Av sn _hlv.symm (own_l7 _hlv hsn7) hge hix.2) (argsL := [.ref o1, .int ix]) (rest := []) pd_6 rfl rfl rfl (hb hby at_163) rfl (by rw [hml]; rfl) eb4 (by decide) (W := 0) rfl (by decide) (by decide) (by decide) ?_
      intro v13 T13 Lc13 X13 Q13
      obtain ⟨Nq13, o13, nN, rr, rfl, hrr, q13, Kq13, A13, hN2, hN3, hN4, hN5⟩ := Q13
      have N14 := Fr.app Nb4 Nq13
      have n15 : o1 ≠ o13 := ne_ge _Av.lt q13
      have F16 := ArrL.keep _Av Kq13 nin0
      have Z17 : n0 ≤ T13.heap.size := Nat.le_trans Zb4 Kq13.1
      refine g_astore (q := 168) (L' := #[.val (.int sz), .val (.int idx), .val (.int pk), .val (.int u0), .val (.int u1), .val (.int u2), .val (.int sn), .val (.int ix), .val (.int kd), .val (.ref o1), .val (.ref o13), .unset, .unset, .unset, .unset, .unset]) X13.here hx (hb hby at_166) rfl rfl rfl ?_
      refine g_iload (q := 170) X13.here hx (hb hby at_168) rfl rfl ?_
      refine g_iload (q := 172) X13.here hx (hb hby at_170) rfl rfl ?_
      refine g_icmp_ge (q := 193) (q0 := 175) X13.here hx (hb hby at_172) (by decide) (by decide) rfl ?_ ?_
      · intro c18
        refine g_iconst (q := 194) (v := (1 : Int32)) X13.here hx (hb hby at_193) rfl rfl ?_
        refine g_goto (q := 198) X13.here hx (hb hby at_194) (by decide) (by decide) ?_
        refine g_istore (q := 200) (L' := #[.val (.int sz), .val (.int idx), .val (.int pk), .val (.int u0), .val (.int u1), .val (.int u2), .val (.int sn), .val (.int ix), .val (.int kd), .val (.ref o1), .val (.ref o13), .val (.int (1 : Int32)), .unset, .unset, .unset, .unset]) X13.here hx (hb hby at_198) rfl rfl ?_
        refine g_iload (q := 202) X13.here hx (hb hby at_200) rfl rfl ?_
        refine g_iload (q := 204) X13.here hx (hb hby at_202) rfl rfl ?_
        refine g_icmp_ge (q := 225) (q0 := 207) X13.here hx (hb hby at_204) (by decide) (by decide) rfl ?_ ?_
        · intro c19
          refine g_iload (q := 227) X13.here hx (hb hby at_225) rfl rfl ?_
          refine g_iconst (q := 228) (v := (1 : Int32)) X13.here hx (hb hby at_227) rfl rfl ?_
          refine g_iadd (q := 229) X13.here hx (hb hby at_228) rfl ?_
          refine g_iconst (q := 230) (v := (2 : Int32)) X13.here hx (hb hby at_229) rfl rfl ?_
          refine g_iload (q := 232) X13.here hx (hb hby at_230) rfl rfl ?_
          refine g_imul (q := 233) X13.here hx (hb hby at_232) rfl ?_
          refine g_callSI (q := 236) X13 hx hZ hown (hw _ (List.mem_of_getElem? (i := 42) rfl)) (hw _ (List.mem_of_getElem? (i := 43) rfl)) (hw _ (List.mem_of_getElem? (i := 13) rfl)) (hw _ (List.mem_of_getElem? (i := 44) rfl)) (by decide) (rm10 l Z a0 hw [] (ix + (1 : Int32)) ((2 : Int32) * sn) T13.heap n0 Z17) (argsL := [.int (ix + (1 : Int32)), .int ((2 : Int32) * sn)]) (rest := []) pd_4 rfl rfl rfl (hb hby at_233) rfl (by rw [hml]; rfl) rfl (by decide) (W := 0) rfl (by decide) rfl rfl (by decide) (by decide) ?_
          intro T20 r21 X20 e20 hr21
          refine g_istore (q := 238) (L' := #[.val (.int sz), .val (.int idx), .val (.int pk), .val (.int u0), .val (.int u1), .val (.int u2), .val (.int sn), .val (.int ix), .val (.int kd), .val (.ref o1), .val (.ref o13), .val (.int (1 : Int32)), .val (.int r21), .unset, .unset, .unset]) X20.here hx (hb hby at_236) rfl rfl ?_
          refine g_iload (q := 240) X20.here hx (hb hby at_238) rfl rfl ?_
          refine g_iconst (q := 241) (v := (4 : Int32)) X20.here hx (hb hby at_240) rfl rfl ?_
          refine g_icmp_gt (q := 248) (q0 := 244) X20.here hx (hb hby at_241) (by decide) (by decide) rfl ?_ ?_
          · intro c22
            refine g_iload (q := 250) X20.here hx (hb hby at_248) rfl rfl ?_
            refine g_bipush (q := 252) (v := (12 : Int32)) X20.here hx (hb hby at_250) rfl rfl ?_
            refine g_icmp_gt (q := 260) (q0 := 255) X20.here hx (hb hby at_252) (by decide) (by decide) rfl ?_ ?_
            · intro c23
              refine g_iload (q := 262) X20.here hx (hb hby at_260) rfl rfl ?_
              refine g_bipush (q := 264) (v := (28 : Int32)) X20.here hx (hb hby at_262) rfl rfl ?_
              refine g_icmp_gt (q := 272) (q0 := 267) X20.here hx (hb hby at_264) (by decide) (by decide) rfl ?_ ?_
              · intro c24
                refine g_bipush (q := 274) (v := (60 : Int32)) X20.here hx (hb hby at_272) rfl rfl ?_
                refine g_istore (q := 276) (L' := #[.val (.int sz), .val (.int idx), .val (.int pk), .val (.int u0), .val (.int u1), .val (.int u2), .val (.int sn), .val (.int ix), .val (.int kd), .val (.ref o1), .val (.ref o13), .val (.int (1 : Int32)), .val (.int r21), .val (.int (60 : Int32)), .unset, .unset]) X20.here hx (hb hby at_274) rfl rfl ?_
                obtain ⟨M1, M2, M3, M4⟩ := own_m2 hrr _hlv (own_l7 _hlv hsn7) hN4 hix hge hN5 hr21
                have hE : rr.toInt = (60 : Int32).toInt := M4 c24
                refine g_aload (q := 278) X20.here hx (hb hby at_276) rfl rfl rfl ?_
                refine g_aload (q := 280) X20.here hx (hb hby at_278) rfl rfl rfl ?_
                refine g_acmp_eq (q := 291) (q0 := 283) X20 hx (hb hby at_280) (by decide) (by decide) rfl ?_ ?_
                · intro c25
                  exact absurd c25 (Ne.symm n15)
                · intro c25
                  refine g_aload (q := 285) X20.here hx (hb hby at_283) rfl rfl rfl ?_
                  refine g_alen (q := 286) (v := rr) X20 hx hZ e20 A13 (by rw [List.length_map]; exact own_apl2 hrr hN2) (hb hby at_285) rfl ?_
                  refine g_iload (q := 288) X20.here hx (hb hby at_286) rfl rfl ?_
                  refine g_icmp_eq (q := 293) (q0 := 291) X20.here hx (hb hby at_288) (by decide) (by decide) rfl ?_ ?_
                  · intro c26
                    refine g_iload (q := 295) X20.here hx (hb hby at_293) rfl rfl ?_
                    refine g_iload (q := 297) X20.here hx (hb hby at_295) rfl rfl ?_
                    refine g_icmp_ge (q := 313) (q0 := 300) X20.here hx (hb hby at_297) (by decide) (by decide) rfl ?_ ?_
                    · intro c27
                      refine g_iconst (q := 314) (v := (0 : Int32)) X20.here hx (hb hby at_313) rfl rfl ?_
                      refine g_istore (q := 316) (L' := #[.val (.int sz), .val (.int idx), .val (.int pk), .val (.int u0), .val (.int u1), .val (.int u2), .val (.int sn), .val (.int ix), .val (.int kd), .val (.ref o1), .val (.ref o13), .val (.int (1 : Int32)), .val (.int r21), .val (.int (60 : Int32)), .val (.int (0 : Int32)), .unset]) X20.here hx (hb hby at_314) rfl rfl ?_
                      refine g_iload (q := 318) X20.here hx (hb hby at_316) rfl rfl ?_
                      refine g_iload (q := 320) X20.here hx (hb hby at_318) rfl rfl ?_
                      refine g_icmp_ge (q := 333) (q0 := 323) X20.here hx (hb hby at_320) (by decide) (by decide) rfl ?_ ?_
                      · intro c28
                        refine g_iconst (q := 334) (v := (1 : Int32)) X20.here hx (hb hby at_333) rfl rfl ?_
                        refine g_goto (q := 338) X20.here hx (hb hby at_334) (by decide) (by decide) ?_
                        refine g_istore (q := 340) (L' := #[.val (.int sz), .val (.int idx), .val (.int pk), .val (.int u0), .val (.int u1), .val (.int u2), .val (.int sn), .val (.int ix), .val (.int kd), .val (.ref o1), .val (.ref o13), .val (.int (1 : Int32)), .val (.int r21), .val (.int (60 : Int32)), .val (.int (0 : Int32)), .val (.int (1 : Int32))]) X20.here hx (hb hby at_338) rfl rfl ?_
                        refine g_iload (q := 342) X20.here hx (hb hby at_340) rfl rfl ?_
                        refine g_if_eq (q := 354) (q0 := 345) X20.here hx (hb hby at_342) (by decide) (by decide) rfl ?_ ?_
                        · intro c29; exact absurd c29 (by decide)
                        · intro c29
                          refine g_iload (q := 347) X20.here hx (hb hby at_345) rfl rfl ?_
                          refine g_sel_if_eq (q := 355) X20.here hx (hb hby at_347) (by decide) (by decide) rfl (hb hby at_354) (hb hby at_350) (hb hby at_351) rfl (by decide) (by decide) rfl ?_
                          rw [show b2i (decide ((1 : Int32).toInt ≠ 0)) = (1 : Int32) from by decide]
                          exact g_zreturn (b := true) X20 hx hlk hrt (hb hby at_355) (by decide) (by decide) ⟨rfl, N14⟩
                      · intro c28
                        refine g_aload (q := 325) X20.here hx (hb hby at_323) rfl rfl rfl ?_
                        refine g_iload (q := 327) X20.here hx (hb hby at_325) rfl rfl ?_
                        refine g_iload_ (q := 328) (i := kd.toInt.toNat) (v := (0 : Int32)) X20 hx hZ e20 A13 (own_tn hkd.1) (own_r0 _hlv hkd c18 hrr hE c28) (hb hby at_327) rfl ?_
                        refine g_iload (q := 330) X20.here hx (hb hby at_328) rfl rfl ?_
                        refine g_icmp_ne (q := 337) (q0 := 333) X20.here hx (hb hby at_330) (by decide) (by decide) rfl ?_ ?_
                        · intro c30; exact absurd c30 (by decide)
                        · intro c30
                          refine g_iconst (q := 334) (v := (1 : Int32)) X20.here hx (hb hby at_333) rfl rfl ?_
                          refine g_goto (q := 338) X20.here hx (hb hby at_334) (by decide) (by decide) ?_
                          refine g_istore (q := 340) (L' := #[.val (.int sz), .val (.int idx), .val (.int pk), .val (.int u0), .val (.int u1), .val (.int u2), .val (.int sn), .val (.int ix), .val (.int kd), .val (.ref o1), .val (.ref o13), .val (.int (1 : Int32)), .val (.int r21), .val (.int (60 : Int32)), .val (.int (0 : Int32)), .val (.int (1 : Int32))]) X20.here hx (hb hby at_338) rfl rfl ?_
                          refine g_iload (q := 342) X20.here hx (hb hby at_340) rfl rfl ?_
                          refine g_if_eq (q := 354) (q0 := 345) X20.here hx (hb hby at_342) (by decide) (by decide) rfl ?_ ?_
                          · intro c31; exact absurd c31 (by decide)
                          · intro c31
                            refine g_iload (q := 347) X20.here hx (hb hby at_345) rfl rfl ?_
                            refine g_sel_if_eq (q := 355) X20.here hx (hb hby at_347) (by decide) (by decide) rfl (hb hby at_354) (hb hby at_350) (hb hby at_351) rfl (by decide) (by decide) rfl ?_
                            rw [show b2i (decide ((1 : Int32).toInt ≠ 0)) = (1 : Int32) from by decide]
                            exact g_zreturn (b := true) X20 hx hlk hrt (hb hby at_355) (by decide) (by decide) ⟨rfl, N14⟩
                    · intro c27
                      exact absurd c27 (Int.not_lt.mpr c18)
                  · intro c26
                    exact absurd hE c26
              · intro c24
                refine g_bipush (q := 269) (v := (28 : Int32)) X20.here hx (hb hby at_267) rfl rfl ?_
                refine g_goto (q := 274) X20.here hx (hb hby at_269) (by decide) (by decide) ?_
                refine g_istore (q := 276) (L' := #[.val (.int sz), .val (.int idx), .val (.int pk), .val (.int u0), .val (.int u1), .val (.int u2), .val (.int sn), .val (.int ix), .val (.int kd), .val (.ref o1), .val (.ref o13), .val (.int (1 : Int32)), .val (.int r21), .val (.int (28 : Int32)), .unset, .unset]) X20.here hx (hb hby at_274) rfl rfl ?_
                obtain ⟨M1, M2, M3, M4⟩ := own_m2 hrr _hlv (own_l7 _hlv hsn7) hN4 hix hge hN5 hr21
                have hE : rr.toInt = (28 : Int32).toInt := M3 c23 c24
                refine g_aload (q := 278) X20.here hx (hb hby at_276) rfl rfl rfl ?_
                refine g_aload (q := 280) X20.here hx (hb hby at_278) rfl rfl rfl ?_
                refine g_acmp_eq (q := 291) (q0 := 283) X20 hx (hb hby at_280) (by decide) (by decide) rfl ?_ ?_
                · intro c32
                  exact absurd c32 (Ne.symm n15)
                · intro c32
                  refine g_aload (q := 285) X20.here hx (hb hby at_283) rfl rfl rfl ?_
                  refine g_alen (q := 286) (v := rr) X20 hx hZ e20 A13 (by rw [List.length_map]; exact own_apl2 hrr hN2) (hb hby at_285) rfl ?_
                  refine g_iload (q := 288) X20.here hx (hb hby at_286) rfl rfl ?_
                  refine g_icmp_eq (q := 293) (q0 := 291) X20.here hx (hb hby at_288) (by decide) (by decide) rfl ?_ ?_
                  · intro c33
                    refine g_iload (q := 295) X20.here hx (hb hby at_293) rfl rfl ?_
                    refine g_iload (q := 297) X20.here hx (hb hby at_295) rfl rfl ?_
                    refine g_icmp_ge (q := 313) (q0 := 300) X20.here hx (hb hby at_297) (by decide) (by decide) rfl ?_ ?_
                    · intro c34
                      refine g_iconst (q := 314) (v := (0 : Int32)) X20.here hx (hb hby at_313) rfl rfl ?_
                      refine g_istore (q := 316) (L' := #[.val (.int sz), .val (.int idx), .val (.int pk), .val (.int u0), .val (.int u1), .val (.int u2), .val (.int sn), .val (.int ix), .val (.int kd), .val (.ref o1), .val (.ref o13), .val (.int (1 : Int32)), .val (.int r21), .val (.int (28 : Int32)), .val (.int (0 : Int32)), .unset]) X20.here hx (hb hby at_314) rfl rfl ?_
                      refine g_iload (q := 318) X20.here hx (hb hby at_316) rfl rfl ?_
                      refine g_iload (q := 320) X20.here hx (hb hby at_318) rfl rfl ?_
                      refine g_icmp_ge (q := 333) (q0 := 323) X20.here hx (hb hby at_320) (by decide) (by decide) rfl ?_ ?_
                      · intro c35
                        refine g_iconst (q := 334) (v := (1 : Int32)) X20.here hx (hb hby at_333) rfl rfl ?_
                        refine g_goto (q := 338) X20.here hx (hb hby at_334) (by decide) (by decide) ?_
                        refine g_istore (q := 340) (L' := #[.val (.int sz), .val (.int idx), .val (.int pk), .val (.int u0), .val (.int u1), .val (.int u2), .val (.int sn), .val (.int ix), .val (.int kd), .val (.ref o1), .val (.ref o13), .val (.int (1 : Int32)), .val (.int r21), .val (.int (28 : Int32)), .val (.int (0 : Int32)), .val (.int (1 : Int32))]) X20.here hx (hb hby at_338) rfl rfl ?_
                        refine g_iload (q := 342) X20.here hx (hb hby at_340) rfl rfl ?_
                        refine g_if_eq (q := 354) (q0 := 345) X20.here hx (hb hby at_342) (by decide) (by decide) rfl ?_ ?_
                        · intro c36; exact absurd c36 (by decide)
                        · intro c36
                          refine g_iload (q := 347) X20.here hx (hb hby at_345) rfl rfl ?_
                          refine g_sel_if_eq (q := 355) X20.here hx (hb hby at_347) (by decide) (by decide) rfl (hb hby at_354) (hb hby at_350) (hb hby at_351) rfl (by decide) (by decide) rfl ?_
                          rw [show b2i (decide ((1 : Int32).toInt ≠ 0)) = (1 : Int32) from by decide]
                          exact g_zreturn (b := true) X20 hx hlk hrt (hb hby at_355) (by decide) (by decide) ⟨rfl, N14⟩
                      · intro c35
                        refine g_aload (q := 325) X20.here hx (hb hby at_323) rfl rfl rfl ?_
                        refine g_iload (q := 327) X20.here hx (hb hby at_325) rfl rfl ?_
                        refine g_iload_ (q := 328) (i := kd.toInt.toNat) (v := (0 : Int32)) X20 hx hZ e20 A13 (own_tn hkd.1) (own_r0 _hlv hkd c18 hrr hE c35) (hb hby at_327) rfl ?_
                        refine g_iload (q := 330) X20.here hx (hb hby at_328) rfl rfl ?_
                        refine g_icmp_ne (q := 337) (q0 := 333) X20.here hx (hb hby at_330) (by decide) (by decide) rfl ?_ ?_
                        · intro c37; exact absurd c37 (by decide)
                        · intro c37
                          refine g_iconst (q := 334) (v := (1 : Int32)) X20.here hx (hb hby at_333) rfl rfl ?_
                          refine g_goto (q := 338) X20.here hx (hb hby at_334) (by decide) (by decide) ?_
                          refine g_istore (q := 340) (L' := #[.val (.int sz), .val (.int idx), .val (.int pk), .val (.int u0), .val (.int u1), .val (.int u2), .val (.int sn), .val (.int ix), .val (.int kd), .val (.ref o1), .val (.ref o13), .val (.int (1 : Int32)), .val (.int r21), .val (.int (28 : Int32)), .val (.int (0 : Int32)), .val (.int (1 : Int32))]) X20.here hx (hb hby at_338) rfl rfl ?_
                          refine g_iload (q := 342) X20.here hx (hb hby at_340) rfl rfl ?_
                          refine g_if_eq (q := 354) (q0 := 345) X20.here hx (hb hby at_342) (by decide) (by decide) rfl ?_ ?_
                          · intro c38; exact absurd c38 (by decide)
                          · intro c38
                            refine g_iload (q := 347) X20.here hx (hb hby at_345) rfl rfl ?_
                            refine g_sel_if_eq (q := 355) X20.here hx (hb hby at_347) (by decide) (by decide) rfl (hb hby at_354) (hb hby at_350) (hb hby at_351) rfl (by decide) (by decide) rfl ?_
                            rw [show b2i (decide ((1 : Int32).toInt ≠ 0)) = (1 : Int32) from by decide]
                            exact g_zreturn (b := true) X20 hx hlk hrt (hb hby at_355) (by decide) (by decide) ⟨rfl, N14⟩
                    · intro c34
                      exact absurd c34 (Int.not_lt.mpr c18)
                  · intro c33
                    exact absurd hE c33
            · intro c23
              refine g_bipush (q := 257) (v := (12 : Int32)) X20.here hx (hb hby at_255) rfl rfl ?_
              refine g_goto (q := 274) X20.here hx (hb hby at_257) (by decide) (by decide) ?_
              refine g_istore (q := 276) (L' := #[.val (.int sz), .val (.int idx), .val (.int pk), .val (.int u0), .val (.int u1), .val (.int u2), .val (.int sn), .val (.int ix), .val (.int kd), .val (.ref o1), .val (.ref o13), .val (.int (1 : Int32)), .val (.int r21), .val (.int (12 : Int32)), .unset, .unset]) X20.here hx (hb hby at_274) rfl rfl ?_
              obtain ⟨M1, M2, M3, M4⟩ := own_m2 hrr _hlv (own_l7 _hlv hsn7) hN4 hix hge hN5 hr21
              have hE : rr.toInt = (12 : Int32).toInt := M2 c22 c23
              refine g_aload (q := 278) X20.here hx (hb hby at_276) rfl rfl rfl ?_
              refine g_aload (q := 280) X20.here hx (hb hby at_278) rfl rfl rfl ?_
              refine g_acmp_eq (q := 291) (q0 := 283) X20 hx (hb hby at_280) (by decide) (by decide) rfl ?_ ?_
              · intro c39
                exact absurd c39 (Ne.symm n15)
              · intro c39
                refine g_aload (q := 285) X20.here hx (hb hby at_283) rfl rfl rfl ?_
                refine g_alen (q := 286) (v := rr) X20 hx hZ e20 A13 (by rw [List.length_map]; exact own_apl2 hrr hN2) (hb hby at_285) rfl ?_
                refine g_iload (q := 288) X20.here hx (hb hby at_286) rfl rfl ?_
                refine g_icmp_eq (q := 293) (q0 := 291) X20.here hx (hb hby at_288) (by decide) (by decide) rfl ?_ ?_
                · intro c40
                  refine g_iload (q := 295) X20.here hx (hb hby at_293) rfl rfl ?_
                  refine g_iload (q := 297) X20.here hx (hb hby at_295) rfl rfl ?_
                  refine g_icmp_ge (q := 313) (q0 := 300) X20.here hx (hb hby at_297) (by decide) (by decide) rfl ?_ ?_
                  · intro c41
                    refine g_iconst (q := 314) (v := (0 : Int32)) X20.here hx (hb hby at_313) rfl rfl ?_
                    refine g_istore (q := 316) (L' := #[.val (.int sz), .val (.int idx), .val (.int pk), .val (.int u0), .val (.int u1), .val (.int u2), .val (.int sn), .val (.int ix), .val (.int kd), .val (.ref o1), .val (.ref o13), .val (.int (1 : Int32)), .val (.int r21), .val (.int (12 : Int32)), .val (.int (0 : Int32)), .unset]) X20.here hx (hb hby at_314) rfl rfl ?_
                    refine g_iload (q := 318) X20.here hx (hb hby at_316) rfl rfl ?_
                    refine g_iload (q := 320) X20.here hx (hb hby at_318) rfl rfl ?_
                    refine g_icmp_ge (q := 333) (q0 := 323) X20.here hx (hb hby at_320) (by decide) (by decide) rfl ?_ ?_
                    · intro c42
                      refine g_iconst (q := 334) (v := (1 : Int32)) X20.here hx (hb hby at_333) rfl rfl ?_
                      refine g_goto (q := 338) X20.here hx (hb hby at_334) (by decide) (by decide) ?_
                      refine g_istore (q := 340) (L' := #[.val (.int sz), .val (.int idx), .val (.int pk), .val (.int u0), .val (.int u1), .val (.int u2), .val (.int sn), .val (.int ix), .val (.int kd), .val (.ref o1), .val (.ref o13), .val (.int (1 : Int32)), .val (.int r21), .val (.int (12 : Int32)), .val (.int (0 : Int32)), .val (.int (1 : Int32))]) X20.here hx (hb hby at_338) rfl rfl ?_
                      refine g_iload (q := 342) X20.here hx (hb hby at_340) rfl rfl ?_
                      refine g_if_eq (q := 354) (q0 := 345) X20.here hx (hb hby at_342) (by decide) (by decide) rfl ?_ ?_
                      · intro c43; exact absurd c43 (by decide)
                      · intro c43
                        refine g_iload (q := 347) X20.here hx (hb hby at_345) rfl rfl ?_
                        refine g_sel_if_eq (q := 355) X20.here hx (hb hby at_347) (by decide) (by decide) rfl (hb hby at_354) (hb hby at_350) (hb hby at_351) rfl (by decide) (by decide) rfl ?_
                        rw [show b2i (decide ((1 : Int32).toInt ≠ 0)) = (1 : Int32) from by decide]
                        exact g_zreturn (b := true) X20 hx hlk hrt (hb hby at_355) (by decide) (by decide) ⟨rfl, N14⟩
                    · intro c42
                      refine g_aload (q := 325) X20.here hx (hb hby at_323) rfl rfl rfl ?_
                      refine g_iload (q := 327) X20.here hx (hb hby at_325) rfl rfl ?_
                      refine g_iload_ (q := 328) (i := kd.toInt.toNat) (v := (0 : Int32)) X20 hx hZ e20 A13 (own_tn hkd.1) (own_r0 _hlv hkd c18 hrr hE c42) (hb hby at_327) rfl ?_
                      refine g_iload (q := 330) X20.here hx (hb hby at_328) rfl rfl ?_
                      refine g_icmp_ne (q := 337) (q0 := 333) X20.here hx (hb hby at_330) (by decide) (by decide) rfl ?_ ?_
                      · intro c44; exact absurd c44 (by decide)
                      · intro c44
                        refine g_iconst (q := 334) (v := (1 : Int32)) X20.here hx (hb hby at_333) rfl rfl ?_
                        refine g_goto (q := 338) X20.here hx (hb hby at_334) (by decide) (by decide) ?_
                        refine g_istore (q := 340) (L' := #[.val (.int sz), .val (.int idx), .val (.int pk), .val (.int u0), .val (.int u1), .val (.int u2), .val (.int sn), .val (.int ix), .val (.int kd), .val (.ref o1), .val (.ref o13), .val (.int (1 : Int32)), .val (.int r21), .val (.int (12 : Int32)), .val (.int (0 : Int32)), .val (.int (1 : Int32))]) X20.here hx (hb hby at_338) rfl rfl ?_
                        refine g_iload (q := 342) X20.here hx (hb hby at_340) rfl rfl ?_
                        refine g_if_eq (q := 354) (q0 := 345) X20.here hx (hb hby at_342) (by decide) (by decide) rfl ?_ ?_
                        · intro c45; exact absurd c45 (by decide)
                        · intro c45
                          refine g_iload (q := 347) X20.here hx (hb hby at_345) rfl rfl ?_
                          refine g_sel_if_eq (q := 355) X20.here hx (hb hby at_347) (by decide) (by decide) rfl (hb hby at_354) (hb hby at_350) (hb hby at_351) rfl (by decide) (by decide) rfl ?_
                          rw [show b2i (decide ((1 : Int32).toInt ≠ 0)) = (1 : Int32) from by decide]
                          exact g_zreturn (b := true) X20 hx hlk hrt (hb hby at_355) (by decide) (by decide) ⟨rfl, N14⟩
                  · intro c41
                    exact absurd c41 (Int.not_lt.mpr c18)
                · intro c40
                  exact absurd hE c40
          · intro c22
            refine g_iconst (q := 245) (v := (4 : Int32)) X20.here hx (hb hby at_244) rfl rfl ?_
            refine g_goto (q := 274) X20.here hx (hb hby at_245) (by decide) (by decide) ?_
            refine g_istore (q := 276) (L' := #[.val (.int sz), .val (.int idx), .val (.int pk), .val (.int u0), .val (.int u1), .val (.int u2), .val (.int sn), .val (.int ix), .val (.int kd), .val (.ref o1), .val (.ref o13), .val (.int (1 : Int32)), .val (.int r21), .val (.int (4 : Int32)), .unset, .unset]) X20.here hx (hb hby at_274) rfl rfl ?_
            obtain ⟨M1, M2, M3, M4⟩ := own_m2 hrr _hlv (own_l7 _hlv hsn7) hN4 hix hge hN5 hr21
            have hE : rr.toInt = (4 : Int32).toInt := M1 c22
            refine g_aload (q := 278) X20.here hx (hb hby at_276) rfl rfl rfl ?_
            refine g_aload (q := 280) X20.here hx (hb hby at_278) rfl rfl rfl ?_
            refine g_acmp_eq (q := 291) (q0 := 283) X20 hx (hb hby at_280) (by decide) (by decide) rfl ?_ ?_
            · intro c46
              exact absurd c46 (Ne.symm n15)
            · intro c46
              refine g_aload (q := 285) X20.here hx (hb hby at_283) rfl rfl rfl ?_
              refine g_alen (q := 286) (v := rr) X20 hx hZ e20 A13 (by rw [List.length_map]; exact own_apl2 hrr hN2) (hb hby at_285) rfl ?_
              refine g_iload (q := 288) X20.here hx (hb hby at_286) rfl rfl ?_
              refine g_icmp_eq (q := 293) (q0 := 291) X20.here hx (hb hby at_288) (by decide) (by decide) rfl ?_ ?_
              · intro c47
                refine g_iload (q := 295) X20.here hx (hb hby at_293) rfl rfl ?_
                refine g_iload (q := 297) X20.here hx (hb hby at_295) rfl rfl ?_
                refine g_icmp_ge (q := 313) (q0 := 300) X20.here hx (hb hby at_297) (by decide) (by decide) rfl ?_ ?_
                · intro c48
                  refine g_iconst (q := 314) (v := (0 : Int32)) X20.here hx (hb hby at_313) rfl rfl ?_
                  refine g_istore (q := 316) (L' := #[.val (.int sz), .val (.int idx), .val (.int pk), .val (.int u0), .val (.int u1), .val (.int u2), .val (.int sn), .val (.int ix), .val (.int kd), .val (.ref o1), .val (.ref o13), .val (.int (1 : Int32)), .val (.int r21), .val (.int (4 : Int32)), .val (.int (0 : Int32)), .unset]) X20.here hx (hb hby at_314) rfl rfl ?_
                  refine g_iload (q := 318) X20.here hx (hb hby at_316) rfl rfl ?_
                  refine g_iload (q := 320) X20.here hx (hb hby at_318) rfl rfl ?_
                  refine g_icmp_ge (q := 333) (q0 := 323) X20.here hx (hb hby at_320) (by decide) (by decide) rfl ?_ ?_
                  · intro c49
                    refine g_iconst (q := 334) (v := (1 : Int32)) X20.here hx (hb hby at_333) rfl rfl ?_
                    refine g_goto (q := 338) X20.here hx (hb hby at_334) (by decide) (by decide) ?_
                    refine g_istore (q := 340) (L' := #[.val (.int sz), .val (.int idx), .val (.int pk), .val (.int u0), .val (.int u1), .val (.int u2), .val (.int sn), .val (.int ix), .val (.int kd), .val (.ref o1), .val (.ref o13), .val (.int (1 : Int32)), .val (.int r21), .val (.int (4 : Int32)), .val (.int (0 : Int32)), .val (.int (1 : Int32))]) X20.here hx (hb hby at_338) rfl rfl ?_
                    refine g_iload (q := 342) X20.here hx (hb hby at_340) rfl rfl ?_
                    refine g_if_eq (q := 354) (q0 := 345) X20.here hx (hb hby at_342) (by decide) (by decide) rfl ?_ ?_
                    · intro c50; exact absurd c50 (by decide)
                    · intro c50
                      refine g_iload (q := 347) X20.here hx (hb hby at_345) rfl rfl ?_
                      refine g_sel_if_eq (q := 355) X20.here hx (hb hby at_347) (by decide) (by decide) rfl (hb hby at_354) (hb hby at_350) (hb hby at_351) rfl (by decide) (by decide) rfl ?_
                      rw [show b2i (decide ((1 : Int32).toInt ≠ 0)) = (1 : Int32) from by decide]
                      exact g_zreturn (b := true) X20 hx hlk hrt (hb hby at_355) (by decide) (by decide) ⟨rfl, N14⟩
                  · intro c49
                    refine g_aload (q := 325) X20.here hx (hb hby at_323) rfl rfl rfl ?_
                    refine g_iload (q := 327) X20.here hx (hb hby at_325) rfl rfl ?_
                    refine g_iload_ (q := 328) (i := kd.toInt.toNat) (v := (0 : Int32)) X20 hx hZ e20 A13 (own_tn hkd.1) (own_r0 _hlv hkd c18 hrr hE c49) (hb hby at_327) rfl ?_
                    refine g_iload (q := 330) X20.here hx (hb hby at_328) rfl rfl ?_
                    refine g_icmp_ne (q := 337) (q0 := 333) X20.here hx (hb hby at_330) (by decide) (by decide) rfl ?_ ?_
                    · intro c51; exact absurd c51 (by decide)
                    · intro c51
                      refine g_iconst (q := 334) (v := (1 : Int32)) X20.here hx (hb hby at_333) rfl rfl ?_
                      refine g_goto (q := 338) X20.here hx (hb hby at_334) (by decide) (by decide) ?_
                      refine g_istore (q := 340) (L' := #[.val (.int sz), .val (.int idx), .val (.int pk), .val (.int u0), .val (.int u1), .val (.int u2), .val (.int sn), .val (.int ix), .val (.int kd), .val (.ref o1), .val (.ref o13), .val (.int (1 : Int32)), .val (.int r21), .val (.int (4 : Int32)), .val (.int (0 : Int32)), .val (.int (1 : Int32))]) X20.here hx (hb hby at_338) rfl rfl ?_
                      refine g_iload (q := 342) X20.here hx (hb hby at_340) rfl rfl ?_
                      refine g_if_eq (q := 354) (q0 := 345) X20.here hx (hb hby at_342) (by decide) (by decide) rfl ?_ ?_
                      · intro c52; exact absurd c52 (by decide)
                      · intro c52
                        refine g_iload (q := 347) X20.here hx (hb hby at_345) rfl rfl ?_
                        refine g_sel_if_eq (q := 355) X20.here hx (hb hby at_347) (by decide) (by decide) rfl (hb hby at_354) (hb hby at_350) (hb hby at_351) rfl (by decide) (by decide) rfl ?_
                        rw [show b2i (decide ((1 : Int32).toInt ≠ 0)) = (1 : Int32) from by decide]
                        exact g_zreturn (b := true) X20 hx hlk hrt (hb hby at_355) (by decide) (by decide) ⟨rfl, N14⟩
                · intro c48
                  exact absurd c48 (Int.not_lt.mpr c18)
              · intro c47
                exact absurd hE c47
        · intro c19
          exfalso; rw [_hlv] at hge; exact absurd c19 (Int.not_lt.mpr hge)
      · intro c18
        refine g_aload (q := 177) X13.here hx (hb hby at_175) rfl rfl rfl ?_
        refine g_iload (q := 179) X13.here hx (hb hby at_177) rfl rfl ?_
        refine g_iload_ (q := 180) (i := kd.toInt.toNat) (v := (own_el kd u0 u1 u2)) X13 hx hZ rfl F16 (own_tn hkd.1) (own_r2 _hlv _hgv hkd c18) (hb hby at_179) rfl ?_
        refine g_iload (q := 182) X13.here hx (hb hby at_180) rfl rfl ?_
        refine g_iloadN (q := 183) X13.here hx (hb hby at_182) rfl rfl ?_
        refine g_iload (q := 185) X13.here hx (hb hby at_183) rfl rfl ?_
        refine g_iload (q := 187) X13.here hx (hb hby at_185) rfl rfl ?_
        refine g_callSP (q := 190) X13 hx hZ hown (hw _ (List.mem_of_getElem? (i := 45) rfl)) (hw _ (List.mem_of_getElem? (i := 46) rfl)) (hw _ (List.mem_of_getElem? (i := 47) rfl)) (hw _ (List.mem_of_getElem? (i := 48) rfl)) (by decide) (rm11 l Z a0 hw [] kd u0 u1 u2 T13.heap n0 Z17) (argsL := [.int kd, .int u0, .int u1, .int u2]) (rest := [.int (own_el kd u0 u1 u2)]) pd_7 rfl rfl rfl (hb hby at_187) rfl (by rw [hml]; rfl) rfl (by decide) (W := 1) rfl (by decide) rfl rfl (by decide) (by decide) ?_
        intro T53 X53 e53
        refine g_icmp_ne (q := 197) (q0 := 193) X53.here hx (hb hby at_190) (by decide) (by decide) rfl ?_ ?_
        · intro c54; exfalso; omega
        · intro c54
          refine g_iconst (q := 194) (v := (1 : Int32)) X53.here hx (hb hby at_193) rfl rfl ?_
          refine g_goto (q := 198) X53.here hx (hb hby at_194) (by decide) (by decide) ?_
          refine g_istore (q := 200) (L' := #[.val (.int sz), .val (.int idx), .val (.int pk), .val (.int u0), .val (.int u1), .val (.int u2), .val (.int sn), .val (.int ix), .val (.int kd), .val (.ref o1), .val (.ref o13), .val (.int (1 : Int32)), .unset, .unset, .unset, .unset]) X53.here hx (hb hby at_198) rfl rfl ?_
          refine g_iload (q := 202) X53.here hx (hb hby at_200) rfl rfl ?_
          refine g_iload (q := 204) X53.here hx (hb hby at_202) rfl rfl ?_
          refine g_icmp_ge (q := 225) (q0 := 207) X53.here hx (hb hby at_204) (by decide) (by decide) rfl ?_ ?_
          · intro c55
            refine g_iload (q := 227) X53.here hx (hb hby at_225) rfl rfl ?_
            refine g_iconst (q := 228) (v := (1 : Int32)) X53.here hx (hb hby at_227) rfl rfl ?_
            refine g_iadd (q := 229) X53.here hx (hb hby at_228) rfl ?_
            refine g_iconst (q := 230) (v := (2 : Int32)) X53.here hx (hb hby at_229) rfl rfl ?_
            refine g_iload (q := 232) X53.here hx (hb hby at_230) rfl rfl ?_
            refine g_imul (q := 233) X53.here hx (hb hby at_232) rfl ?_
            refine g_callSI (q := 236) X53 hx hZ hown (hw _ (List.mem_of_getElem? (i := 42) rfl)) (hw _ (List.mem_of_getElem? (i := 43) rfl)) (hw _ (List.mem_of_getElem? (i := 13) rfl)) (hw _ (List.mem_of_getElem? (i := 44) rfl)) (by decide) (rm10 l Z a0 hw [] (ix + (1 : Int32)) ((2 : Int32) * sn) T13.heap n0 Z17) (argsL := [.int (ix + (1 : Int32)), .int ((2 : Int32) * sn)]) (rest := []) pd_4 rfl rfl rfl (hb hby at_233) rfl (by rw [hml]; rfl) e53 (by decide) (W := 0) rfl (by decide) rfl rfl (by decide) (by decide) ?_
            intro T56 r57 X56 e56 hr57
            refine g_istore (q := 238) (L' := #[.val (.int sz), .val (.int idx), .val (.int pk), .val (.int u0), .val (.int u1), .val (.int u2), .val (.int sn), .val (.int ix), .val (.int kd), .val (.ref o1), .val (.ref o13), .val (.int (1 : Int32)), .val (.int r57), .unset, .unset, .unset]) X56.here hx (hb hby at_236) rfl rfl ?_
            refine g_iload (q := 240) X56.here hx (hb hby at_238) rfl rfl ?_
            refine g_iconst (q := 241) (v := (4 : Int32)) X56.here hx (hb hby at_240) rfl rfl ?_
            refine g_icmp_gt (q := 248) (q0 := 244) X56.here hx (hb hby at_241) (by decide) (by decide) rfl ?_ ?_
            · intro c58
              refine g_iload (q := 250) X56.here hx (hb hby at_248) rfl rfl ?_
              refine g_bipush (q := 252) (v := (12 : Int32)) X56.here hx (hb hby at_250) rfl rfl ?_
              refine g_icmp_gt (q := 260) (q0 := 255) X56.here hx (hb hby at_252) (by decide) (by decide) rfl ?_ ?_
              · intro c59
                refine g_iload (q := 262) X56.here hx (hb hby at_260) rfl rfl ?_
                refine g_bipush (q := 264) (v := (28 : Int32)) X56.here hx (hb hby at_262) rfl rfl ?_
                refine g_icmp_gt (q := 272) (q0 := 267) X56.here hx (hb hby at_264) (by decide) (by decide) rfl ?_ ?_
                · intro c60
                  refine g_bipush (q := 274) (v := (60 : Int32)) X56.here hx (hb hby at_272) rfl rfl ?_
                  refine g_istore (q := 276) (L' := #[.val (.int sz), .val (.int idx), .val (.int pk), .val (.int u0), .val (.int u1), .val (.int u2), .val (.int sn), .val (.int ix), .val (.int kd), .val (.ref o1), .val (.ref o13), .val (.int (1 : Int32)), .val (.int r57), .val (.int (60 : Int32)), .unset, .unset]) X56.here hx (hb hby at_274) rfl rfl ?_
                  obtain ⟨M1, M2, M3, M4⟩ := own_m2 hrr _hlv (own_l7 _hlv hsn7) hN4 hix hge hN5 hr57
                  have hE : rr.toInt = (60 : Int32).toInt := M4 c60
                  refine g_aload (q := 278) X56.here hx (hb hby at_276) rfl rfl rfl ?_
                  refine g_aload (q := 280) X56.here hx (hb hby at_278) rfl rfl rfl ?_
                  refine g_acmp_eq (q := 291) (q0 := 283) X56 hx (hb hby at_280) (by decide) (by decide) rfl ?_ ?_
                  · intro c61
                    exact absurd c61 (Ne.symm n15)
                  · intro c61
                    refine g_aload (q := 285) X56.here hx (hb hby at_283) rfl rfl rfl ?_
                    refine g_alen (q := 286) (v := rr) X56 hx hZ e56 A13 (by rw [List.length_map]; exact own_apl2 hrr hN2) (hb hby at_285) rfl ?_
                    refine g_iload (q := 288) X56.here hx (hb hby at_286) rfl rfl ?_
                    refine g_icmp_eq (q := 293) (q0 := 291) X56.here hx (hb hby at_288) (by decide) (by decide) rfl ?_ ?_
                    · intro c62
                      refine g_iload (q := 295) X56.here hx (hb hby at_293) rfl rfl ?_
                      refine g_iload (q := 297) X56.here hx (hb hby at_295) rfl rfl ?_
                      refine g_icmp_ge (q := 313) (q0 := 300) X56.here hx (hb hby at_297) (by decide) (by decide) rfl ?_ ?_
                      · intro c63
                        exact absurd c18 (Int.not_lt.mpr c63)
                      · intro c63
                        refine g_iload (q := 302) X56.here hx (hb hby at_300) rfl rfl ?_
                        refine g_iloadN (q := 303) X56.here hx (hb hby at_302) rfl rfl ?_
                        refine g_iload (q := 305) X56.here hx (hb hby at_303) rfl rfl ?_
                        refine g_iload (q := 307) X56.here hx (hb hby at_305) rfl rfl ?_
                        refine g_callSP (q := 310) X56 hx hZ hown (hw _ (List.mem_of_getElem? (i := 45) rfl)) (hw _ (List.mem_of_getElem? (i := 46) rfl)) (hw _ (List.mem_of_getElem? (i := 47) rfl)) (hw _ (List.mem_of_getElem? (i := 48) rfl)) (by decide) (rm11 l Z a0 hw [] kd u0 u1 u2 T13.heap n0 Z17) (argsL := [.int kd, .int u0, .int u1, .int u2]) (rest := []) pd_7 rfl rfl rfl (hb hby at_307) rfl (by rw [hml]; rfl) e56 (by decide) (W := 0) rfl (by decide) rfl rfl (by decide) (by decide) ?_
                        intro T64 X64 e64
                        refine g_goto (q := 314) X64.here hx (hb hby at_310) (by decide) (by decide) ?_
                        refine g_istore (q := 316) (L' := #[.val (.int sz), .val (.int idx), .val (.int pk), .val (.int u0), .val (.int u1), .val (.int u2), .val (.int sn), .val (.int ix), .val (.int kd), .val (.ref o1), .val (.ref o13), .val (.int (1 : Int32)), .val (.int r57), .val (.int (60 : Int32)), .val (.int (own_el kd u0 u1 u2)), .unset]) X64.here hx (hb hby at_314) rfl rfl ?_
                        refine g_iload (q := 318) X64.here hx (hb hby at_316) rfl rfl ?_
                        refine g_iload (q := 320) X64.here hx (hb hby at_318) rfl rfl ?_
                        refine g_icmp_ge (q := 333) (q0 := 323) X64.here hx (hb hby at_320) (by decide) (by decide) rfl ?_ ?_
                        · intro c65
                          refine g_iconst (q := 334) (v := (1 : Int32)) X64.here hx (hb hby at_333) rfl rfl ?_
                          refine g_goto (q := 338) X64.here hx (hb hby at_334) (by decide) (by decide) ?_
                          refine g_istore (q := 340) (L' := #[.val (.int sz), .val (.int idx), .val (.int pk), .val (.int u0), .val (.int u1), .val (.int u2), .val (.int sn), .val (.int ix), .val (.int kd), .val (.ref o1), .val (.ref o13), .val (.int (1 : Int32)), .val (.int r57), .val (.int (60 : Int32)), .val (.int (own_el kd u0 u1 u2)), .val (.int (1 : Int32))]) X64.here hx (hb hby at_338) rfl rfl ?_
                          refine g_iload (q := 342) X64.here hx (hb hby at_340) rfl rfl ?_
                          refine g_if_eq (q := 354) (q0 := 345) X64.here hx (hb hby at_342) (by decide) (by decide) rfl ?_ ?_
                          · intro c66; exact absurd c66 (by decide)
                          · intro c66
                            refine g_iload (q := 347) X64.here hx (hb hby at_345) rfl rfl ?_
                            refine g_sel_if_eq (q := 355) X64.here hx (hb hby at_347) (by decide) (by decide) rfl (hb hby at_354) (hb hby at_350) (hb hby at_351) rfl (by decide) (by decide) rfl ?_
                            rw [show b2i (decide ((1 : Int32).toInt ≠ 0)) = (1 : Int32) from by decide]
                            exact g_zreturn (b := true) X64 hx hlk hrt (hb hby at_355) (by decide) (by decide) ⟨rfl, N14⟩
                        · intro c65
                          refine g_aload (q := 325) X64.here hx (hb hby at_323) rfl rfl rfl ?_
                          refine g_iload (q := 327) X64.here hx (hb hby at_325) rfl rfl ?_
                          refine g_iload_ (q := 328) (i := kd.toInt.toNat) (v := (own_el kd u0 u1 u2)) X64 hx hZ e64 A13 (own_tn hkd.1) (own_r3 _hlv _hgv hkd c18) (hb hby at_327) rfl ?_
                          refine g_iload (q := 330) X64.here hx (hb hby at_328) rfl rfl ?_
                          refine g_icmp_ne (q := 337) (q0 := 333) X64.here hx (hb hby at_330) (by decide) (by decide) rfl ?_ ?_
                          · intro c67; exfalso; omega
                          · intro c67
                            refine g_iconst (q := 334) (v := (1 : Int32)) X64.here hx (hb hby at_333) rfl rfl ?_
                            refine g_goto (q := 338) X64.here hx (hb hby at_334) (by decide) (by decide) ?_
                            refine g_istore (q := 340) (L' := #[.val (.int sz), .val (.int idx), .val (.int pk), .val (.int u0), .val (.int u1), .val (.int u2), .val (.int sn), .val (.int ix), .val (.int kd), .val (.ref o1), .val (.ref o13), .val (.int (1 : Int32)), .val (.int r57), .val (.int (60 : Int32)), .val (.int (own_el kd u0 u1 u2)), .val (.int (1 : Int32))]) X64.here hx (hb hby at_338) rfl rfl ?_
                            refine g_iload (q := 342) X64.here hx (hb hby at_340) rfl rfl ?_
                            refine g_if_eq (q := 354) (q0 := 345) X64.here hx (hb hby at_342) (by decide) (by decide) rfl ?_ ?_
                            · intro c68; exact absurd c68 (by decide)
                            · intro c68
                              refine g_iload (q := 347) X64.here hx (hb hby at_345) rfl rfl ?_
                              refine g_sel_if_eq (q := 355) X64.here hx (hb hby at_347) (by decide) (by decide) rfl (hb hby at_354) (hb hby at_350) (hb hby at_351) rfl (by decide) (by decide) rfl ?_
                              rw [show b2i (decide ((1 : Int32).toInt ≠ 0)) = (1 : Int32) from by decide]
                              exact g_zreturn (b := true) X64 hx hlk hrt (hb hby at_355) (by decide) (by decide) ⟨rfl, N14⟩
                    · intro c62
                      exact absurd hE c62
                · intro c60
                  refine g_bipush (q := 269) (v := (28 : Int32)) X56.here hx (hb hby at_267) rfl rfl ?_
                  refine g_goto (q := 274) X56.here hx (hb hby at_269) (by decide) (by decide) ?_
                  refine g_istore (q := 276) (L' := #[.val (.int sz), .val (.int idx), .val (.int pk), .val (.int u0), .val (.int u1), .val (.int u2), .val (.int sn), .val (.int ix), .val (.int kd), .val (.ref o1), .val (.ref o13), .val (.int (1 : Int32)), .val (.int r57), .val (.int (28 : Int32)), .unset, .unset]) X56.here hx (hb hby at_274) rfl rfl ?_
                  obtain ⟨M1, M2, M3, M4⟩ := own_m2 hrr _hlv (own_l7 _hlv hsn7) hN4 hix hge hN5 hr57
                  have hE : rr.toInt = (28 : Int32).toInt := M3 c59 c60
                  refine g_aload (q := 278) X56.here hx (hb hby at_276) rfl rfl rfl ?_
                  refine g_aload (q := 280) X56.here hx (hb hby at_278) rfl rfl rfl ?_
                  refine g_acmp_eq (q := 291) (q0 := 283) X56 hx (hb hby at_280) (by decide) (by decide) rfl ?_ ?_
                  · intro c69
                    exact absurd c69 (Ne.symm n15)
                  · intro c69
                    refine g_aload (q := 285) X56.here hx (hb hby at_283) rfl rfl rfl ?_
                    refine g_alen (q := 286) (v := rr) X56 hx hZ e56 A13 (by rw [List.length_map]; exact own_apl2 hrr hN2) (hb hby at_285) rfl ?_
                    refine g_iload (q := 288) X56.here hx (hb hby at_286) rfl rfl ?_
                    refine g_icmp_eq (q := 293) (q0 := 291) X56.here hx (hb hby at_288) (by decide) (by decide) rfl ?_ ?_
                    · intro c70
                      refine g_iload (q := 295) X56.here hx (hb hby at_293) rfl rfl ?_
                      refine g_iload (q := 297) X56.here hx (hb hby at_295) rfl rfl ?_
                      refine g_icmp_ge (q := 313) (q0 := 300) X56.here hx (hb hby at_297) (by decide) (by decide) rfl ?_ ?_
                      · intro c71
                        exact absurd c18 (Int.not_lt.mpr c71)
                      · intro c71
                        refine g_iload (q := 302) X56.here hx (hb hby at_300) rfl rfl ?_
                        refine g_iloadN (q := 303) X56.here hx (hb hby at_302) rfl rfl ?_
                        refine g_iload (q := 305) X56.here hx (hb hby at_303) rfl rfl ?_
                        refine g_iload (q := 307) X56.here hx (hb hby at_305) rfl rfl ?_
                        refine g_callSP (q := 310) X56 hx hZ hown (hw _ (List.mem_of_getElem? (i := 45) rfl)) (hw _ (List.mem_of_getElem? (i := 46) rfl)) (hw _ (List.mem_of_getElem? (i := 47) rfl)) (hw _ (List.mem_of_getElem? (i := 48) rfl)) (by decide) (rm11 l Z a0 hw [] kd u0 u1 u2 T13.heap n0 Z17) (argsL := [.int kd, .int u0, .int u1, .int u2]) (rest := []) pd_7 rfl rfl rfl (hb hby at_307) rfl (by rw [hml]; rfl) e56 (by decide) (W := 0) rfl (by decide) rfl rfl (by decide) (by decide) ?_
                        intro T72 X72 e72
                        refine g_goto (q := 314) X72.here hx (hb hby at_310) (by decide) (by decide) ?_
                        refine g_istore (q := 316) (L' := #[.val (.int sz), .val (.int idx), .val (.int pk), .val (.int u0), .val (.int u1), .val (.int u2), .val (.int sn), .val (.int ix), .val (.int kd), .val (.ref o1), .val (.ref o13), .val (.int (1 : Int32)), .val (.int r57), .val (.int (28 : Int32)), .val (.int (own_el kd u0 u1 u2)), .unset]) X72.here hx (hb hby at_314) rfl rfl ?_
                        refine g_iload (q := 318) X72.here hx (hb hby at_316) rfl rfl ?_
                        refine g_iload (q := 320) X72.here hx (hb hby at_318) rfl rfl ?_
                        refine g_icmp_ge (q := 333) (q0 := 323) X72.here hx (hb hby at_320) (by decide) (by decide) rfl ?_ ?_
                        · intro c73
                          refine g_iconst (q := 334) (v := (1 : Int32)) X72.here hx (hb hby at_333) rfl rfl ?_
                          refine g_goto (q := 338) X72.here hx (hb hby at_334) (by decide) (by decide) ?_
                          refine g_istore (q := 340) (L' := #[.val (.int sz), .val (.int idx), .val (.int pk), .val (.int u0), .val (.int u1), .val (.int u2), .val (.int sn), .val (.int ix), .val (.int kd), .val (.ref o1), .val (.ref o13), .val (.int (1 : Int32)), .val (.int r57), .val (.int (28 : Int32)), .val (.int (own_el kd u0 u1 u2)), .val (.int (1 : Int32))]) X72.here hx (hb hby at_338) rfl rfl ?_
                          refine g_iload (q := 342) X72.here hx (hb hby at_340) rfl rfl ?_
                          refine g_if_eq (q := 354) (q0 := 345) X72.here hx (hb hby at_342) (by decide) (by decide) rfl ?_ ?_
                          · intro c74; exact absurd c74 (by decide)
                          · intro c74
                            refine g_iload (q := 347) X72.here hx (hb hby at_345) rfl rfl ?_
                            refine g_sel_if_eq (q := 355) X72.here hx (hb hby at_347) (by decide) (by decide) rfl (hb hby at_354) (hb hby at_350) (hb hby at_351) rfl (by decide) (by decide) rfl ?_
                            rw [show b2i (decide ((1 : Int32).toInt ≠ 0)) = (1 : Int32) from by decide]
                            exact g_zreturn (b := true) X72 hx hlk hrt (hb hby at_355) (by decide) (by decide) ⟨rfl, N14⟩
                        · intro c73
                          refine g_aload (q := 325) X72.here hx (hb hby at_323) rfl rfl rfl ?_
                          refine g_iload (q := 327) X72.here hx (hb hby at_325) rfl rfl ?_
                          refine g_iload_ (q := 328) (i := kd.toInt.toNat) (v := (own_el kd u0 u1 u2)) X72 hx hZ e72 A13 (own_tn hkd.1) (own_r3 _hlv _hgv hkd c18) (hb hby at_327) rfl ?_
                          refine g_iload (q := 330) X72.here hx (hb hby at_328) rfl rfl ?_
                          refine g_icmp_ne (q := 337) (q0 := 333) X72.here hx (hb hby at_330) (by decide) (by decide) rfl ?_ ?_
                          · intro c75; exfalso; omega
                          · intro c75
                            refine g_iconst (q := 334) (v := (1 : Int32)) X72.here hx (hb hby at_333) rfl rfl ?_
                            refine g_goto (q := 338) X72.here hx (hb hby at_334) (by decide) (by decide) ?_
                            refine g_istore (q := 340) (L' := #[.val (.int sz), .val (.int idx), .val (.int pk), .val (.int u0), .val (.int u1), .val (.int u2), .val (.int sn), .val (.int ix), .val (.int kd), .val (.ref o1), .val (.ref o13), .val (.int (1 : Int32)), .val (.int r57), .val (.int (28 : Int32)), .val (.int (own_el kd u0 u1 u2)), .val (.int (1 : Int32))]) X72.here hx (hb hby at_338) rfl rfl ?_
                            refine g_iload (q := 342) X72.here hx (hb hby at_340) rfl rfl ?_
                            refine g_if_eq (q := 354) (q0 := 345) X72.here hx (hb hby at_342) (by decide) (by decide) rfl ?_ ?_
                            · intro c76; exact absurd c76 (by decide)
                            · intro c76
                              refine g_iload (q := 347) X72.here hx (hb hby at_345) rfl rfl ?_
                              refine g_sel_if_eq (q := 355) X72.here hx (hb hby at_347) (by decide) (by decide) rfl (hb hby at_354) (hb hby at_350) (hb hby at_351) rfl (by decide) (by decide) rfl ?_
                              rw [show b2i (decide ((1 : Int32).toInt ≠ 0)) = (1 : Int32) from by decide]
                              exact g_zreturn (b := true) X72 hx hlk hrt (hb hby at_355) (by decide) (by decide) ⟨rfl, N14⟩
                    · intro c70
                      exact absurd hE c70
              · intro c59
                refine g_bipush (q := 257) (v := (12 : Int32)) X56.here hx (hb hby at_255) rfl rfl ?_
                refine g_goto (q := 274) X56.here hx (hb hby at_257) (by decide) (by decide) ?_
                refine g_istore (q := 276) (L' := #[.val (.int sz), .val (.int idx), .val (.int pk), .val (.int u0), .val (.int u1), .val (.int u2), .val (.int sn), .val (.int ix), .val (.int kd), .val (.ref o1), .val (.ref o13), .val (.int (1 : Int32)), .val (.int r57), .val (.int (12 : Int32)), .unset, .unset]) X56.here hx (hb hby at_274) rfl rfl ?_
                obtain ⟨M1, M2, M3, M4⟩ := own_m2 hrr _hlv (own_l7 _hlv hsn7) hN4 hix hge hN5 hr57
                have hE : rr.toInt = (12 : Int32).toInt := M2 c58 c59
                refine g_aload (q := 278) X56.here hx (hb hby at_276) rfl rfl rfl ?_
                refine g_aload (q := 280) X56.here hx (hb hby at_278) rfl rfl rfl ?_
                refine g_acmp_eq (q := 291) (q0 := 283) X56 hx (hb hby at_280) (by decide) (by decide) rfl ?_ ?_
                · intro c77
                  exact absurd c77 (Ne.symm n15)
                · intro c77
                  refine g_aload (q := 285) X56.here hx (hb hby at_283) rfl rfl rfl ?_
                  refine g_alen (q := 286) (v := rr) X56 hx hZ e56 A13 (by rw [List.length_map]; exact own_apl2 hrr hN2) (hb hby at_285) rfl ?_
                  refine g_iload (q := 288) X56.here hx (hb hby at_286) rfl rfl ?_
                  refine g_icmp_eq (q := 293) (q0 := 291) X56.here hx (hb hby at_288) (by decide) (by decide) rfl ?_ ?_
                  · intro c78
                    refine g_iload (q := 295) X56.here hx (hb hby at_293) rfl rfl ?_
                    refine g_iload (q := 297) X56.here hx (hb hby at_295) rfl rfl ?_
                    refine g_icmp_ge (q := 313) (q0 := 300) X56.here hx (hb hby at_297) (by decide) (by decide) rfl ?_ ?_
                    · intro c79
                      exact absurd c18 (Int.not_lt.mpr c79)
                    · intro c79
                      refine g_iload (q := 302) X56.here hx (hb hby at_300) rfl rfl ?_
                      refine g_iloadN (q := 303) X56.here hx (hb hby at_302) rfl rfl ?_
                      refine g_iload (q := 305) X56.here hx (hb hby at_303) rfl rfl ?_
                      refine g_iload (q := 307) X56.here hx (hb hby at_305) rfl rfl ?_
                      refine g_callSP (q := 310) X56 hx hZ hown (hw _ (List.mem_of_getElem? (i := 45) rfl)) (hw _ (List.mem_of_getElem? (i := 46) rfl)) (hw _ (List.mem_of_getElem? (i := 47) rfl)) (hw _ (List.mem_of_getElem? (i := 48) rfl)) (by decide) (rm11 l Z a0 hw [] kd u0 u1 u2 T13.heap n0 Z17) (argsL := [.int kd, .int u0, .int u1, .int u2]) (rest := []) pd_7 rfl rfl rfl (hb hby at_307) rfl (by rw [hml]; rfl) e56 (by decide) (W := 0) rfl (by decide) rfl rfl (by decide) (by decide) ?_
                      intro T80 X80 e80
                      refine g_goto (q := 314) X80.here hx (hb hby at_310) (by decide) (by decide) ?_
                      refine g_istore (q := 316) (L' := #[.val (.int sz), .val (.int idx), .val (.int pk), .val (.int u0), .val (.int u1), .val (.int u2), .val (.int sn), .val (.int ix), .val (.int kd), .val (.ref o1), .val (.ref o13), .val (.int (1 : Int32)), .val (.int r57), .val (.int (12 : Int32)), .val (.int (own_el kd u0 u1 u2)), .unset]) X80.here hx (hb hby at_314) rfl rfl ?_
                      refine g_iload (q := 318) X80.here hx (hb hby at_316) rfl rfl ?_
                      refine g_iload (q := 320) X80.here hx (hb hby at_318) rfl rfl ?_
                      refine g_icmp_ge (q := 333) (q0 := 323) X80.here hx (hb hby at_320) (by decide) (by decide) rfl ?_ ?_
                      · intro c81
                        refine g_iconst (q := 334) (v := (1 : Int32)) X80.here hx (hb hby at_333) rfl rfl ?_
                        refine g_goto (q := 338) X80.here hx (hb hby at_334) (by decide) (by decide) ?_
                        refine g_istore (q := 340) (L' := #[.val (.int sz), .val (.int idx), .val (.int pk), .val (.int u0), .val (.int u1), .val (.int u2), .val (.int sn), .val (.int ix), .val (.int kd), .val (.ref o1), .val (.ref o13), .val (.int (1 : Int32)), .val (.int r57), .val (.int (12 : Int32)), .val (.int (own_el kd u0 u1 u2)), .val (.int (1 : Int32))]) X80.here hx (hb hby at_338) rfl rfl ?_
                        refine g_iload (q := 342) X80.here hx (hb hby at_340) rfl rfl ?_
                        refine g_if_eq (q := 354) (q0 := 345) X80.here hx (hb hby at_342) (by decide) (by decide) rfl ?_ ?_
                        · intro c82; exact absurd c82 (by decide)
                        · intro c82
                          refine g_iload (q := 347) X80.here hx (hb hby at_345) rfl rfl ?_
                          refine g_sel_if_eq (q := 355) X80.here hx (hb hby at_347) (by decide) (by decide) rfl (hb hby at_354) (hb hby at_350) (hb hby at_351) rfl (by decide) (by decide) rfl ?_
                          rw [show b2i (decide ((1 : Int32).toInt ≠ 0)) = (1 : Int32) from by decide]
                          exact g_zreturn (b := true) X80 hx hlk hrt (hb hby at_355) (by decide) (by decide) ⟨rfl, N14⟩
                      · intro c81
                        refine g_aload (q := 325) X80.here hx (hb hby at_323) rfl rfl rfl ?_
                        refine g_iload (q := 327) X80.here hx (hb hby at_325) rfl rfl ?_
                        refine g_iload_ (q := 328) (i := kd.toInt.toNat) (v := (own_el kd u0 u1 u2)) X80 hx hZ e80 A13 (own_tn hkd.1) (own_r3 _hlv _hgv hkd c18) (hb hby at_327) rfl ?_
                        refine g_iload (q := 330) X80.here hx (hb hby at_328) rfl rfl ?_
                        refine g_icmp_ne (q := 337) (q0 := 333) X80.here hx (hb hby at_330) (by decide) (by decide) rfl ?_ ?_
                        · intro c83; exfalso; omega
                        · intro c83
                          refine g_iconst (q := 334) (v := (1 : Int32)) X80.here hx (hb hby at_333) rfl rfl ?_
                          refine g_goto (q := 338) X80.here hx (hb hby at_334) (by decide) (by decide) ?_
                          refine g_istore (q := 340) (L' := #[.val (.int sz), .val (.int idx), .val (.int pk), .val (.int u0), .val (.int u1), .val (.int u2), .val (.int sn), .val (.int ix), .val (.int kd), .val (.ref o1), .val (.ref o13), .val (.int (1 : Int32)), .val (.int r57), .val (.int (12 : Int32)), .val (.int (own_el kd u0 u1 u2)), .val (.int (1 : Int32))]) X80.here hx (hb hby at_338) rfl rfl ?_
                          refine g_iload (q := 342) X80.here hx (hb hby at_340) rfl rfl ?_
                          refine g_if_eq (q := 354) (q0 := 345) X80.here hx (hb hby at_342) (by decide) (by decide) rfl ?_ ?_
                          · intro c84; exact absurd c84 (by decide)
                          · intro c84
                            refine g_iload (q := 347) X80.here hx (hb hby at_345) rfl rfl ?_
                            refine g_sel_if_eq (q := 355) X80.here hx (hb hby at_347) (by decide) (by decide) rfl (hb hby at_354) (hb hby at_350) (hb hby at_351) rfl (by decide) (by decide) rfl ?_
                            rw [show b2i (decide ((1 : Int32).toInt ≠ 0)) = (1 : Int32) from by decide]
                            exact g_zreturn (b := true) X80 hx hlk hrt (hb hby at_355) (by decide) (by decide) ⟨rfl, N14⟩
                  · intro c78
                    exact absurd hE c78
            · intro c58
              refine g_iconst (q := 245) (v := (4 : Int32)) X56.here hx (hb hby at_244) rfl rfl ?_
              refine g_goto (q := 274) X56.here hx (hb hby at_245) (by decide) (by decide) ?_
              refine g_istore (q := 276) (L' := #[.val (.int sz), .val (.int idx), .val (.int pk), .val (.int u0), .val (.int u1), .val (.int u2), .val (.int sn), .val (.int ix), .val (.int kd), .val (.ref o1), .val (.ref o13), .val (.int (1 : Int32)), .val (.int r57), .val (.int (4 : Int32)), .unset, .unset]) X56.here hx (hb hby at_274) rfl rfl ?_
              obtain ⟨M1, M2, M3, M4⟩ := own_m2 hrr _hlv (own_l7 _hlv hsn7) hN4 hix hge hN5 hr57
              have hE : rr.toInt = (4 : Int32).toInt := M1 c58
              refine g_aload (q := 278) X56.here hx (hb hby at_276) rfl rfl rfl ?_
              refine g_aload (q := 280) X56.here hx (hb hby at_278) rfl rfl rfl ?_
              refine g_acmp_eq (q := 291) (q0 := 283) X56 hx (hb hby at_280) (by decide) (by decide) rfl ?_ ?_
              · intro c85
                exact absurd c85 (Ne.symm n15)
              · intro c85
                refine g_aload (q := 285) X56.here hx (hb hby at_283) rfl rfl rfl ?_
                refine g_alen (q := 286) (v := rr) X56 hx hZ e56 A13 (by rw [List.length_map]; exact own_apl2 hrr hN2) (hb hby at_285) rfl ?_
                refine g_iload (q := 288) X56.here hx (hb hby at_286) rfl rfl ?_
                refine g_icmp_eq (q := 293) (q0 := 291) X56.here hx (hb hby at_288) (by decide) (by decide) rfl ?_ ?_
                · intro c86
                  refine g_iload (q := 295) X56.here hx (hb hby at_293) rfl rfl ?_
                  refine g_iload (q := 297) X56.here hx (hb hby at_295) rfl rfl ?_
                  refine g_icmp_ge (q := 313) (q0 := 300) X56.here hx (hb hby at_297) (by decide) (by decide) rfl ?_ ?_
                  · intro c87
                    exact absurd c18 (Int.not_lt.mpr c87)
                  · intro c87
                    refine g_iload (q := 302) X56.here hx (hb hby at_300) rfl rfl ?_
                    refine g_iloadN (q := 303) X56.here hx (hb hby at_302) rfl rfl ?_
                    refine g_iload (q := 305) X56.here hx (hb hby at_303) rfl rfl ?_
                    refine g_iload (q := 307) X56.here hx (hb hby at_305) rfl rfl ?_
                    refine g_callSP (q := 310) X56 hx hZ hown (hw _ (List.mem_of_getElem? (i := 45) rfl)) (hw _ (List.mem_of_getElem? (i := 46) rfl)) (hw _ (List.mem_of_getElem? (i := 47) rfl)) (hw _ (List.mem_of_getElem? (i := 48) rfl)) (by decide) (rm11 l Z a0 hw [] kd u0 u1 u2 T13.heap n0 Z17) (argsL := [.int kd, .int u0, .int u1, .int u2]) (rest := []) pd_7 rfl rfl rfl (hb hby at_307) rfl (by rw [hml]; rfl) e56 (by decide) (W := 0) rfl (by decide) rfl rfl (by decide) (by decide) ?_
                    intro T88 X88 e88
                    refine g_goto (q := 314) X88.here hx (hb hby at_310) (by decide) (by decide) ?_
                    refine g_istore (q := 316) (L' := #[.val (.int sz), .val (.int idx), .val (.int pk), .val (.int u0), .val (.int u1), .val (.int u2), .val (.int sn), .val (.int ix), .val (.int kd), .val (.ref o1), .val (.ref o13), .val (.int (1 : Int32)), .val (.int r57), .val (.int (4 : Int32)), .val (.int (own_el kd u0 u1 u2)), .unset]) X88.here hx (hb hby at_314) rfl rfl ?_
                    refine g_iload (q := 318) X88.here hx (hb hby at_316) rfl rfl ?_
                    refine g_iload (q := 320) X88.here hx (hb hby at_318) rfl rfl ?_
                    refine g_icmp_ge (q := 333) (q0 := 323) X88.here hx (hb hby at_320) (by decide) (by decide) rfl ?_ ?_
                    · intro c89
                      refine g_iconst (q := 334) (v := (1 : Int32)) X88.here hx (hb hby at_333) rfl rfl ?_
                      refine g_goto (q := 338) X88.here hx (hb hby at_334) (by decide) (by decide) ?_
                      refine g_istore (q := 340) (L' := #[.val (.int sz), .val (.int idx), .val (.int pk), .val (.int u0), .val (.int u1), .val (.int u2), .val (.int sn), .val (.int ix), .val (.int kd), .val (.ref o1), .val (.ref o13), .val (.int (1 : Int32)), .val (.int r57), .val (.int (4 : Int32)), .val (.int (own_el kd u0 u1 u2)), .val (.int (1 : Int32))]) X88.here hx (hb hby at_338) rfl rfl ?_
                      refine g_iload (q := 342) X88.here hx (hb hby at_340) rfl rfl ?_
                      refine g_if_eq (q := 354) (q0 := 345) X88.here hx (hb hby at_342) (by decide) (by decide) rfl ?_ ?_
                      · intro c90; exact absurd c90 (by decide)
                      · intro c90
                        refine g_iload (q := 347) X88.here hx (hb hby at_345) rfl rfl ?_
                        refine g_sel_if_eq (q := 355) X88.here hx (hb hby at_347) (by decide) (by decide) rfl (hb hby at_354) (hb hby at_350) (hb hby at_351) rfl (by decide) (by decide) rfl ?_
                        rw [show b2i (decide ((1 : Int32).toInt ≠ 0)) = (1 : Int32) from by decide]
                        exact g_zreturn (b := true) X88 hx hlk hrt (hb hby at_355) (by decide) (by decide) ⟨rfl, N14⟩
                    · intro c89
                      refine g_aload (q := 325) X88.here hx (hb hby at_323) rfl rfl rfl ?_
                      refine g_iload (q := 327) X88.here hx (hb hby at_325) rfl rfl ?_
                      refine g_iload_ (q := 328) (i := kd.toInt.toNat) (v := (own_el kd u0 u1 u2)) X88 hx hZ e88 A13 (own_tn hkd.1) (own_r3 _hlv _hgv hkd c18) (hb hby at_327) rfl ?_
                      refine g_iload (q := 330) X88.here hx (hb hby at_328) rfl rfl ?_
                      refine g_icmp_ne (q := 337) (q0 := 333) X88.here hx (hb hby at_330) (by decide) (by decide) rfl ?_ ?_
                      · intro c91; exfalso; omega
                      · intro c91
                        refine g_iconst (q := 334) (v := (1 : Int32)) X88.here hx (hb hby at_333) rfl rfl ?_
                        refine g_goto (q := 338) X88.here hx (hb hby at_334) (by decide) (by decide) ?_
                        refine g_istore (q := 340) (L' := #[.val (.int sz), .val (.int idx), .val (.int pk), .val (.int u0), .val (.int u1), .val (.int u2), .val (.int sn), .val (.int ix), .val (.int kd), .val (.ref o1), .val (.ref o13), .val (.int (1 : Int32)), .val (.int r57), .val (.int (4 : Int32)), .val (.int (own_el kd u0 u1 u2)), .val (.int (1 : Int32))]) X88.here hx (hb hby at_338) rfl rfl ?_
                        refine g_iload (q := 342) X88.here hx (hb hby at_340) rfl rfl ?_
                        refine g_if_eq (q := 354) (q0 := 345) X88.here hx (hb hby at_342) (by decide) (by decide) rfl ?_ ?_
                        · intro c92; exact absurd c92 (by decide)
                        · intro c92
                          refine g_iload (q := 347) X88.here hx (hb hby at_345) rfl rfl ?_
                          refine g_sel_if_eq (q := 355) X88.here hx (hb hby at_347) (by decide) (by decide) rfl (hb hby at_354) (hb hby at_350) (hb hby at_351) rfl (by decide) (by decide) rfl ?_
                          rw [show b2i (decide ((1 : Int32).toInt ≠ 0)) = (1 : Int32) from by decide]
                          exact g_zreturn (b := true) X88 hx hlk hrt (hb hby at_355) (by decide) (by decide) ⟨rfl, N14⟩
                · intro c86
                  exact absurd hE c86
          · intro c55
            exfalso; rw [_hlv] at hge; exact absurd c55 (Int.not_lt.mpr hge)
  rcases own_n8 hsn7 with hq | hq | hq | hq | hq | hq | hq | hq
  · have Aq : IA Z h1 o1 ([] : List Int32) := IA.eq A1 (by rw [hq]; rfl)
    refine g_iload (q := 26) X1.here hx (hb hby at_24) rfl rfl ?_
    refine g_if_le (q := 42) (q0 := 29) X1.here hx (hb hby at_26) (by decide) (by decide) rfl ?_ ?_
    · intro c93
      refine g_iload (q := 44) X1.here hx (hb hby at_42) rfl rfl ?_
      refine g_iconst (q := 45) (v := (1 : Int32)) X1.here hx (hb hby at_44) rfl rfl ?_
      refine g_icmp_le (q := 61) (q0 := 48) X1.here hx (hb hby at_45) (by decide) (by decide) rfl ?_ ?_
      · intro c94
        refine g_iload (q := 63) X1.here hx (hb hby at_61) rfl rfl ?_
        refine g_iconst (q := 64) (v := (2 : Int32)) X1.here hx (hb hby at_63) rfl rfl ?_
        refine g_icmp_le (q := 80) (q0 := 67) X1.here hx (hb hby at_64) (by decide) (by decide) rfl ?_ ?_
        · intro c95
          refine g_iload (q := 82) X1.here hx (hb hby at_80) rfl rfl ?_
          refine g_iconst (q := 83) (v := (3 : Int32)) X1.here hx (hb hby at_82) rfl rfl ?_
          refine g_icmp_le (q := 99) (q0 := 86) X1.here hx (hb hby at_83) (by decide) (by decide) rfl ?_ ?_
          · intro c96
            refine g_iload (q := 101) X1.here hx (hb hby at_99) rfl rfl ?_
            refine g_iconst (q := 102) (v := (4 : Int32)) X1.here hx (hb hby at_101) rfl rfl ?_
            refine g_icmp_le (q := 118) (q0 := 105) X1.here hx (hb hby at_102) (by decide) (by decide) rfl ?_ ?_
            · intro c97
              refine g_iload (q := 120) X1.here hx (hb hby at_118) rfl rfl ?_
              refine g_iconst (q := 121) (v := (5 : Int32)) X1.here hx (hb hby at_120) rfl rfl ?_
              refine g_icmp_le (q := 137) (q0 := 124) X1.here hx (hb hby at_121) (by decide) (by decide) rfl ?_ ?_
              · intro c98
                refine g_iload (q := 139) X1.here hx (hb hby at_137) rfl rfl ?_
                refine g_bipush (q := 141) (v := (6 : Int32)) X1.here hx (hb hby at_139) rfl rfl ?_
                refine g_icmp_le (q := 159) (q0 := 144) X1.here hx (hb hby at_141) (by decide) (by decide) rfl ?_ ?_
                · intro c99
                  exact LP159_b4 _ h1 _ ([] : List Int32) X1 e1 N0 Z3 Aq (by rw [hq]; rfl) (by intro i hi; exact absurd hi (Nat.not_lt_zero _))
                · intro c99
                  exfalso; rw [hq] at c99; exact absurd c99 (by decide)
              · intro c98
                exfalso; rw [hq] at c98; exact absurd c98 (by decide)
            · intro c97
              exfalso; rw [hq] at c97; exact absurd c97 (by decide)
          · intro c96
            exfalso; rw [hq] at c96; exact absurd c96 (by decide)
        · intro c95
          exfalso; rw [hq] at c95; exact absurd c95 (by decide)
      · intro c94
        exfalso; rw [hq] at c94; exact absurd c94 (by decide)
    · intro c93
      exfalso; rw [hq] at c93; exact absurd c93 (by decide)
  · have Aq : IA Z h1 o1 ([(0 : Int32)] : List Int32) := IA.eq A1 (by rw [hq]; rfl)
    refine g_iload (q := 26) X1.here hx (hb hby at_24) rfl rfl ?_
    refine g_if_le (q := 42) (q0 := 29) X1.here hx (hb hby at_26) (by decide) (by decide) rfl ?_ ?_
    · intro c100
      exfalso; rw [hq] at c100; exact absurd c100 (by decide)
    · intro c100
      refine g_aload (q := 31) X1.here hx (hb hby at_29) rfl rfl rfl ?_
      refine g_iconst (q := 32) (v := (0 : Int32)) X1.here hx (hb hby at_31) rfl rfl ?_
      refine g_iconst (q := 33) (v := (0 : Int32)) X1.here hx (hb hby at_32) rfl rfl ?_
      refine g_iloadN (q := 34) X1.here hx (hb hby at_33) rfl rfl ?_
      refine g_iload (q := 36) X1.here hx (hb hby at_34) rfl rfl ?_
      refine g_iload (q := 38) X1.here hx (hb hby at_36) rfl rfl ?_
      refine g_callSP (q := 41) X1 hx hZ hown (hw _ (List.mem_of_getElem? (i := 45) rfl)) (hw _ (List.mem_of_getElem? (i := 46) rfl)) (hw _ (List.mem_of_getElem? (i := 47) rfl)) (hw _ (List.mem_of_getElem? (i := 48) rfl)) (by decide) (rm11 l Z a0 hw [] (0 : Int32) u0 u1 u2 h1 n0 Z3) (argsL := [.int (0 : Int32), .int u0, .int u1, .int u2]) (rest := [.int (0 : Int32), .ref o1]) pd_7 rfl rfl rfl (hb hby at_38) rfl (by rw [hml]; rfl) e1 (by decide) (W := 2) rfl (by decide) rfl rfl (by decide) (by decide) ?_
      intro T101 X101 e101
      refine g_istore_ (q := 42) (i := 0) (v := (own_el (0 : Int32) u0 u1 u2)) X101 hx hZ e101 Aq rfl (by show 0 < 1; decide) (hb hby at_41) rfl ?_
      intro T102 h102 X102 e102 W102 A102
      replace A102 : IA Z h102 o1 ([(own_el (0 : Int32) u0 u1 u2)] : List Int32) := A102
      have N104 := Fr.snoc X102 N0 g2
      have Z105 : n0 ≤ h102.size := Nat.le_trans Z3 (Nat.le_of_eq W102.size.symm)
      refine g_iload (q := 44) X102.here hx (hb hby at_42) rfl rfl ?_
      refine g_iconst (q := 45) (v := (1 : Int32)) X102.here hx (hb hby at_44) rfl rfl ?_
      refine g_icmp_le (q := 61) (q0 := 48) X102.here hx (hb hby at_45) (by decide) (by decide) rfl ?_ ?_
      · intro c106
        refine g_iload (q := 63) X102.here hx (hb hby at_61) rfl rfl ?_
        refine g_iconst (q := 64) (v := (2 : Int32)) X102.here hx (hb hby at_63) rfl rfl ?_
        refine g_icmp_le (q := 80) (q0 := 67) X102.here hx (hb hby at_64) (by decide) (by decide) rfl ?_ ?_
        · intro c107
          refine g_iload (q := 82) X102.here hx (hb hby at_80) rfl rfl ?_
          refine g_iconst (q := 83) (v := (3 : Int32)) X102.here hx (hb hby at_82) rfl rfl ?_
          refine g_icmp_le (q := 99) (q0 := 86) X102.here hx (hb hby at_83) (by decide) (by decide) rfl ?_ ?_
          · intro c108
            refine g_iload (q := 101) X102.here hx (hb hby at_99) rfl rfl ?_
            refine g_iconst (q := 102) (v := (4 : Int32)) X102.here hx (hb hby at_101) rfl rfl ?_
            refine g_icmp_le (q := 118) (q0 := 105) X102.here hx (hb hby at_102) (by decide) (by decide) rfl ?_ ?_
            · intro c109
              refine g_iload (q := 120) X102.here hx (hb hby at_118) rfl rfl ?_
              refine g_iconst (q := 121) (v := (5 : Int32)) X102.here hx (hb hby at_120) rfl rfl ?_
              refine g_icmp_le (q := 137) (q0 := 124) X102.here hx (hb hby at_121) (by decide) (by decide) rfl ?_ ?_
              · intro c110
                refine g_iload (q := 139) X102.here hx (hb hby at_137) rfl rfl ?_
                refine g_bipush (q := 141) (v := (6 : Int32)) X102.here hx (hb hby at_139) rfl rfl ?_
                refine g_icmp_le (q := 159) (q0 := 144) X102.here hx (hb hby at_141) (by decide) (by decide) rfl ?_ ?_
                · intro c111
                  exact LP159_b4 _ h102 _ ([(own_el (0 : Int32) u0 u1 u2)] : List Int32) X102 e102 N104 Z105 A102 (by rw [hq]; rfl) (by intro i hi; rcases i with _ | i; all_goals (first | rfl | (exfalso; simp at hi; done) | (exfalso; simp at hi; omega)))
                · intro c111
                  exfalso; rw [hq] at c111; exact absurd c111 (by decide)
              · intro c110
                exfalso; rw [hq] at c110; exact absurd c110 (by decide)
            · intro c109
              exfalso; rw [hq] at c109; exact absurd c109 (by decide)
          · intro c108
            exfalso; rw [hq] at c108; exact absurd c108 (by decide)
        · intro c107
          exfalso; rw [hq] at c107; exact absurd c107 (by decide)
      · intro c106
        exfalso; rw [hq] at c106; exact absurd c106 (by decide)
  · have Aq : IA Z h1 o1 ([(0 : Int32), (0 : Int32)] : List Int32) := IA.eq A1 (by rw [hq]; rfl)
    refine g_iload (q := 26) X1.here hx (hb hby at_24) rfl rfl ?_
    refine g_if_le (q := 42) (q0 := 29) X1.here hx (hb hby at_26) (by decide) (by decide) rfl ?_ ?_
    · intro c112
      exfalso; rw [hq] at c112; exact absurd c112 (by decide)
    · intro c112
      refine g_aload (q := 31) X1.here hx (hb hby at_29) rfl rfl rfl ?_
      refine g_iconst (q := 32) (v := (0 : Int32)) X1.here hx (hb hby at_31) rfl rfl ?_
      refine g_iconst (q := 33) (v := (0 : Int32)) X1.here hx (hb hby at_32) rfl rfl ?_
      refine g_iloadN (q := 34) X1.here hx (hb hby at_33) rfl rfl ?_
      refine g_iload (q := 36) X1.here hx (hb hby at_34) rfl rfl ?_
      refine g_iload (q := 38) X1.here hx (hb hby at_36) rfl rfl ?_
      refine g_callSP (q := 41) X1 hx hZ hown (hw _ (List.mem_of_getElem? (i := 45) rfl)) (hw _ (List.mem_of_getElem? (i := 46) rfl)) (hw _ (List.mem_of_getElem? (i := 47) rfl)) (hw _ (List.mem_of_getElem? (i := 48) rfl)) (by decide) (rm11 l Z a0 hw [] (0 : Int32) u0 u1 u2 h1 n0 Z3) (argsL := [.int (0 : Int32), .int u0, .int u1, .int u2]) (rest := [.int (0 : Int32), .ref o1]) pd_7 rfl rfl rfl (hb hby at_38) rfl (by rw [hml]; rfl) e1 (by decide) (W := 2) rfl (by decide) rfl rfl (by decide) (by decide) ?_
      intro T113 X113 e113
      refine g_istore_ (q := 42) (i := 0) (v := (own_el (0 : Int32) u0 u1 u2)) X113 hx hZ e113 Aq rfl (by show 0 < 2; decide) (hb hby at_41) rfl ?_
      intro T114 h114 X114 e114 W114 A114
      replace A114 : IA Z h114 o1 ([(own_el (0 : Int32) u0 u1 u2), (0 : Int32)] : List Int32) := A114
      have N116 := Fr.snoc X114 N0 g2
      have Z117 : n0 ≤ h114.size := Nat.le_trans Z3 (Nat.le_of_eq W114.size.symm)
      refine g_iload (q := 44) X114.here hx (hb hby at_42) rfl rfl ?_
      refine g_iconst (q := 45) (v := (1 : Int32)) X114.here hx (hb hby at_44) rfl rfl ?_
      refine g_icmp_le (q := 61) (q0 := 48) X114.here hx (hb hby at_45) (by decide) (by decide) rfl ?_ ?_
      · intro c118
        exfalso; rw [hq] at c118; exact absurd c118 (by decide)
      · intro c118
        refine g_aload (q := 50) X114.here hx (hb hby at_48) rfl rfl rfl ?_
        refine g_iconst (q := 51) (v := (1 : Int32)) X114.here hx (hb hby at_50) rfl rfl ?_
        refine g_iconst (q := 52) (v := (1 : Int32)) X114.here hx (hb hby at_51) rfl rfl ?_
        refine g_iloadN (q := 53) X114.here hx (hb hby at_52) rfl rfl ?_
        refine g_iload (q := 55) X114.here hx (hb hby at_53) rfl rfl ?_
        refine g_iload (q := 57) X114.here hx (hb hby at_55) rfl rfl ?_
        refine g_callSP (q := 60) X114 hx hZ hown (hw _ (List.mem_of_getElem? (i := 45) rfl)) (hw _ (List.mem_of_getElem? (i := 46) rfl)) (hw _ (List.mem_of_getElem? (i := 47) rfl)) (hw _ (List.mem_of_getElem? (i := 48) rfl)) (by decide) (rm11 l Z a0 hw [] (1 : Int32) u0 u1 u2 h114 n0 Z117) (argsL := [.int (1 : Int32), .int u0, .int u1, .int u2]) (rest := [.int (1 : Int32), .ref o1]) pd_7 rfl rfl rfl (hb hby at_57) rfl (by rw [hml]; rfl) e114 (by decide) (W := 2) rfl (by decide) rfl rfl (by decide) (by decide) ?_
        intro T119 X119 e119
        refine g_istore_ (q := 61) (i := 1) (v := (own_el (1 : Int32) u0 u1 u2)) X119 hx hZ e119 A114 rfl (by show 1 < 2; decide) (hb hby at_60) rfl ?_
        intro T120 h120 X120 e120 W120 A120
        replace A120 : IA Z h120 o1 ([(own_el (0 : Int32) u0 u1 u2), (own_el (1 : Int32) u0 u1 u2)] : List Int32) := A120
        have N122 := Fr.snoc X120 N116 g2
        have Z123 : n0 ≤ h120.size := Nat.le_trans Z117 (Nat.le_of_eq W120.size.symm)
        refine g_iload (q := 63) X120.here hx (hb hby at_61) rfl rfl ?_
        refine g_iconst (q := 64) (v := (2 : Int32)) X120.here hx (hb hby at_63) rfl rfl ?_
        refine g_icmp_le (q := 80) (q0 := 67) X120.here hx (hb hby at_64) (by decide) (by decide) rfl ?_ ?_
        · intro c124
          refine g_iload (q := 82) X120.here hx (hb hby at_80) rfl rfl ?_
          refine g_iconst (q := 83) (v := (3 : Int32)) X120.here hx (hb hby at_82) rfl rfl ?_
          refine g_icmp_le (q := 99) (q0 := 86) X120.here hx (hb hby at_83) (by decide) (by decide) rfl ?_ ?_
          · intro c125
            refine g_iload (q := 101) X120.here hx (hb hby at_99) rfl rfl ?_
            refine g_iconst (q := 102) (v := (4 : Int32)) X120.here hx (hb hby at_101) rfl rfl ?_
            refine g_icmp_le (q := 118) (q0 := 105) X120.here hx (hb hby at_102) (by decide) (by decide) rfl ?_ ?_
            · intro c126
              refine g_iload (q := 120) X120.here hx (hb hby at_118) rfl rfl ?_
              refine g_iconst (q := 121) (v := (5 : Int32)) X120.here hx (hb hby at_120) rfl rfl ?_
              refine g_icmp_le (q := 137) (q0 := 124) X120.here hx (hb hby at_121) (by decide) (by decide) rfl ?_ ?_
              · intro c127
                refine g_iload (q := 139) X120.here hx (hb hby at_137) rfl rfl ?_
                refine g_bipush (q := 141) (v := (6 : Int32)) X120.here hx (hb hby at_139) rfl rfl ?_
                refine g_icmp_le (q := 159) (q0 := 144) X120.here hx (hb hby at_141) (by decide) (by decide) rfl ?_ ?_
                · intro c128
                  exact LP159_b4 _ h120 _ ([(own_el (0 : Int32) u0 u1 u2), (own_el (1 : Int32) u0 u1 u2)] : List Int32) X120 e120 N122 Z123 A120 (by rw [hq]; rfl) (by intro i hi; rcases i with _ | _ | i; all_goals (first | rfl | (exfalso; simp at hi; done) | (exfalso; simp at hi; omega)))
                · intro c128
                  exfalso; rw [hq] at c128; exact absurd c128 (by decide)
              · intro c127
                exfalso; rw [hq] at c127; exact absurd c127 (by decide)
            · intro c126
              exfalso; rw [hq] at c126; exact absurd c126 (by decide)
          · intro c125
            exfalso; rw [hq] at c125; exact absurd c125 (by decide)
        · intro c124
          exfalso; rw [hq] at c124; exact absurd c124 (by decide)
  · have Aq : IA Z h1 o1 ([(0 : Int32), (0 : Int32), (0 : Int32)] : List Int32) := IA.eq A1 (by rw [hq]; rfl)
    refine g_iload (q := 26) X1.here hx (hb hby at_24) rfl rfl ?_
    refine g_if_le (q := 42) (q0 := 29) X1.here hx (hb hby at_26) (by decide) (by decide) rfl ?_ ?_
    · intro c129
      exfalso; rw [hq] at c129; exact absurd c129 (by decide)
    · intro c129
      refine g_aload (q := 31) X1.here hx (hb hby at_29) rfl rfl rfl ?_
      refine g_iconst (q := 32) (v := (0 : Int32)) X1.here hx (hb hby at_31) rfl rfl ?_
      refine g_iconst (q := 33) (v := (0 : Int32)) X1.here hx (hb hby at_32) rfl rfl ?_
      refine g_iloadN (q := 34) X1.here hx (hb hby at_33) rfl rfl ?_
      refine g_iload (q := 36) X1.here hx (hb hby at_34) rfl rfl ?_
      refine g_iload (q := 38) X1.here hx (hb hby at_36) rfl rfl ?_
      refine g_callSP (q := 41) X1 hx hZ hown (hw _ (List.mem_of_getElem? (i := 45) rfl)) (hw _ (List.mem_of_getElem? (i := 46) rfl)) (hw _ (List.mem_of_getElem? (i := 47) rfl)) (hw _ (List.mem_of_getElem? (i := 48) rfl)) (by decide) (rm11 l Z a0 hw [] (0 : Int32) u0 u1 u2 h1 n0 Z3) (argsL := [.int (0 : Int32), .int u0, .int u1, .int u2]) (rest := [.int (0 : Int32), .ref o1]) pd_7 rfl rfl rfl (hb hby at_38) rfl (by rw [hml]; rfl) e1 (by decide) (W := 2) rfl (by decide) rfl rfl (by decide) (by decide) ?_
      intro T130 X130 e130
      refine g_istore_ (q := 42) (i := 0) (v := (own_el (0 : Int32) u0 u1 u2)) X130 hx hZ e130 Aq rfl (by show 0 < 3; decide) (hb hby at_41) rfl ?_
      intro T131 h131 X131 e131 W131 A131
      replace A131 : IA Z h131 o1 ([(own_el (0 : Int32) u0 u1 u2), (0 : Int32), (0 : Int32)] : List Int32) := A131
      have N133 := Fr.snoc X131 N0 g2
      have Z134 : n0 ≤ h131.size := Nat.le_trans Z3 (Nat.le_of_eq W131.size.symm)
      refine g_iload (q := 44) X131.here hx (hb hby at_42) rfl rfl ?_
      refine g_iconst (q := 45) (v := (1 : Int32)) X131.here hx (hb hby at_44) rfl rfl ?_
      refine g_icmp_le (q := 61) (q0 := 48) X131.here hx (hb hby at_45) (by decide) (by decide) rfl ?_ ?_
      · intro c135
        exfalso; rw [hq] at c135; exact absurd c135 (by decide)
      · intro c135
        refine g_aload (q := 50) X131.here hx (hb hby at_48) rfl rfl rfl ?_
        refine g_iconst (q := 51) (v := (1 : Int32)) X131.here hx (hb hby at_50) rfl rfl ?_
        refine g_iconst (q := 52) (v := (1 : Int32)) X131.here hx (hb hby at_51) rfl rfl ?_
        refine g_iloadN (q := 53) X131.here hx (hb hby at_52) rfl rfl ?_
        refine g_iload (q := 55) X131.here hx (hb hby at_53) rfl rfl ?_
        refine g_iload (q := 57) X131.here hx (hb hby at_55) rfl rfl ?_
        refine g_callSP (q := 60) X131 hx hZ hown (hw _ (List.mem_of_getElem? (i := 45) rfl)) (hw _ (List.mem_of_getElem? (i := 46) rfl)) (hw _ (List.mem_of_getElem? (i := 47) rfl)) (hw _ (List.mem_of_getElem? (i := 48) rfl)) (by decide) (rm11 l Z a0 hw [] (1 : Int32) u0 u1 u2 h131 n0 Z134) (argsL := [.int (1 : Int32), .int u0, .int u1, .int u2]) (rest := [.int (1 : Int32), .ref o1]) pd_7 rfl rfl rfl (hb hby at_57) rfl (by rw [hml]; rfl) e131 (by decide) (W := 2) rfl (by decide) rfl rfl (by decide) (by decide) ?_
        intro T136 X136 e136
        refine g_istore_ (q := 61) (i := 1) (v := (own_el (1 : Int32) u0 u1 u2)) X136 hx hZ e136 A131 rfl (by show 1 < 3; decide) (hb hby at_60) rfl ?_
        intro T137 h137 X137 e137 W137 A137
        replace A137 : IA Z h137 o1 ([(own_el (0 : Int32) u0 u1 u2), (own_el (1 : Int32) u0 u1 u2), (0 : Int32)] : List Int32) := A137
        have N139 := Fr.snoc X137 N133 g2
        have Z140 : n0 ≤ h137.size := Nat.le_trans Z134 (Nat.le_of_eq W137.size.symm)
        refine g_iload (q := 63) X137.here hx (hb hby at_61) rfl rfl ?_
        refine g_iconst (q := 64) (v := (2 : Int32)) X137.here hx (hb hby at_63) rfl rfl ?_
        refine g_icmp_le (q := 80) (q0 := 67) X137.here hx (hb hby at_64) (by decide) (by decide) rfl ?_ ?_
        · intro c141
          exfalso; rw [hq] at c141; exact absurd c141 (by decide)
        · intro c141
          refine g_aload (q := 69) X137.here hx (hb hby at_67) rfl rfl rfl ?_
          refine g_iconst (q := 70) (v := (2 : Int32)) X137.here hx (hb hby at_69) rfl rfl ?_
          refine g_iconst (q := 71) (v := (2 : Int32)) X137.here hx (hb hby at_70) rfl rfl ?_
          refine g_iloadN (q := 72) X137.here hx (hb hby at_71) rfl rfl ?_
          refine g_iload (q := 74) X137.here hx (hb hby at_72) rfl rfl ?_
          refine g_iload (q := 76) X137.here hx (hb hby at_74) rfl rfl ?_
          refine g_callSP (q := 79) X137 hx hZ hown (hw _ (List.mem_of_getElem? (i := 45) rfl)) (hw _ (List.mem_of_getElem? (i := 46) rfl)) (hw _ (List.mem_of_getElem? (i := 47) rfl)) (hw _ (List.mem_of_getElem? (i := 48) rfl)) (by decide) (rm11 l Z a0 hw [] (2 : Int32) u0 u1 u2 h137 n0 Z140) (argsL := [.int (2 : Int32), .int u0, .int u1, .int u2]) (rest := [.int (2 : Int32), .ref o1]) pd_7 rfl rfl rfl (hb hby at_76) rfl (by rw [hml]; rfl) e137 (by decide) (W := 2) rfl (by decide) rfl rfl (by decide) (by decide) ?_
          intro T142 X142 e142
          refine g_istore_ (q := 80) (i := 2) (v := (own_el (2 : Int32) u0 u1 u2)) X142 hx hZ e142 A137 rfl (by show 2 < 3; decide) (hb hby at_79) rfl ?_
          intro T143 h143 X143 e143 W143 A143
          replace A143 : IA Z h143 o1 ([(own_el (0 : Int32) u0 u1 u2), (own_el (1 : Int32) u0 u1 u2), (own_el (2 : Int32) u0 u1 u2)] : List Int32) := A143
          have N145 := Fr.snoc X143 N139 g2
          have Z146 : n0 ≤ h143.size := Nat.le_trans Z140 (Nat.le_of_eq W143.size.symm)
          refine g_iload (q := 82) X143.here hx (hb hby at_80) rfl rfl ?_
          refine g_iconst (q := 83) (v := (3 : Int32)) X143.here hx (hb hby at_82) rfl rfl ?_
          refine g_icmp_le (q := 99) (q0 := 86) X143.here hx (hb hby at_83) (by decide) (by decide) rfl ?_ ?_
          · intro c147
            refine g_iload (q := 101) X143.here hx (hb hby at_99) rfl rfl ?_
            refine g_iconst (q := 102) (v := (4 : Int32)) X143.here hx (hb hby at_101) rfl rfl ?_
            refine g_icmp_le (q := 118) (q0 := 105) X143.here hx (hb hby at_102) (by decide) (by decide) rfl ?_ ?_
            · intro c148
              refine g_iload (q := 120) X143.here hx (hb hby at_118) rfl rfl ?_
              refine g_iconst (q := 121) (v := (5 : Int32)) X143.here hx (hb hby at_120) rfl rfl ?_
              refine g_icmp_le (q := 137) (q0 := 124) X143.here hx (hb hby at_121) (by decide) (by decide) rfl ?_ ?_
              · intro c149
                refine g_iload (q := 139) X143.here hx (hb hby at_137) rfl rfl ?_
                refine g_bipush (q := 141) (v := (6 : Int32)) X143.here hx (hb hby at_139) rfl rfl ?_
                refine g_icmp_le (q := 159) (q0 := 144) X143.here hx (hb hby at_141) (by decide) (by decide) rfl ?_ ?_
                · intro c150
                  exact LP159_b4 _ h143 _ ([(own_el (0 : Int32) u0 u1 u2), (own_el (1 : Int32) u0 u1 u2), (own_el (2 : Int32) u0 u1 u2)] : List Int32) X143 e143 N145 Z146 A143 (by rw [hq]; rfl) (by intro i hi; rcases i with _ | _ | _ | i; all_goals (first | rfl | (exfalso; simp at hi; done) | (exfalso; simp at hi; omega)))
                · intro c150
                  exfalso; rw [hq] at c150; exact absurd c150 (by decide)
              · intro c149
                exfalso; rw [hq] at c149; exact absurd c149 (by decide)
            · intro c148
              exfalso; rw [hq] at c148; exact absurd c148 (by decide)
          · intro c147
            exfalso; rw [hq] at c147; exact absurd c147 (by decide)
  · have Aq : IA Z h1 o1 ([(0 : Int32), (0 : Int32), (0 : Int32), (0 : Int32)] : List Int32) := IA.eq A1 (by rw [hq]; rfl)
    refine g_iload (q := 26) X1.here hx (hb hby at_24) rfl rfl ?_
    refine g_if_le (q := 42) (q0 := 29) X1.here hx (hb hby at_26) (by decide) (by decide) rfl ?_ ?_
    · intro c151
      exfalso; rw [hq] at c151; exact absurd c151 (by decide)
    · intro c151
      refine g_aload (q := 31) X1.here hx (hb hby at_29) rfl rfl rfl ?_
      refine g_iconst (q := 32) (v := (0 : Int32)) X1.here hx (hb hby at_31) rfl rfl ?_
      refine g_iconst (q := 33) (v := (0 : Int32)) X1.here hx (hb hby at_32) rfl rfl ?_
      refine g_iloadN (q := 34) X1.here hx (hb hby at_33) rfl rfl ?_
      refine g_iload (q := 36) X1.here hx (hb hby at_34) rfl rfl ?_
      refine g_iload (q := 38) X1.here hx (hb hby at_36) rfl rfl ?_
      refine g_callSP (q := 41) X1 hx hZ hown (hw _ (List.mem_of_getElem? (i := 45) rfl)) (hw _ (List.mem_of_getElem? (i := 46) rfl)) (hw _ (List.mem_of_getElem? (i := 47) rfl)) (hw _ (List.mem_of_getElem? (i := 48) rfl)) (by decide) (rm11 l Z a0 hw [] (0 : Int32) u0 u1 u2 h1 n0 Z3) (argsL := [.int (0 : Int32), .int u0, .int u1, .int u2]) (rest := [.int (0 : Int32), .ref o1]) pd_7 rfl rfl rfl (hb hby at_38) rfl (by rw [hml]; rfl) e1 (by decide) (W := 2) rfl (by decide) rfl rfl (by decide) (by decide) ?_
      intro T152 X152 e152
      refine g_istore_ (q := 42) (i := 0) (v := (own_el (0 : Int32) u0 u1 u2)) X152 hx hZ e152 Aq rfl (by show 0 < 4; decide) (hb hby at_41) rfl ?_
      intro T153 h153 X153 e153 W153 A153
      replace A153 : IA Z h153 o1 ([(own_el (0 : Int32) u0 u1 u2), (0 : Int32), (0 : Int32), (0 : Int32)] : List Int32) := A153
      have N155 := Fr.snoc X153 N0 g2
      have Z156 : n0 ≤ h153.size := Nat.le_trans Z3 (Nat.le_of_eq W153.size.symm)
      refine g_iload (q := 44) X153.here hx (hb hby at_42) rfl rfl ?_
      refine g_iconst (q := 45) (v := (1 : Int32)) X153.here hx (hb hby at_44) rfl rfl ?_
      refine g_icmp_le (q := 61) (q0 := 48) X153.here hx (hb hby at_45) (by decide) (by decide) rfl ?_ ?_
      · intro c157
        exfalso; rw [hq] at c157; exact absurd c157 (by decide)
      · intro c157
        refine g_aload (q := 50) X153.here hx (hb hby at_48) rfl rfl rfl ?_
        refine g_iconst (q := 51) (v := (1 : Int32)) X153.here hx (hb hby at_50) rfl rfl ?_
        refine g_iconst (q := 52) (v := (1 : Int32)) X153.here hx (hb hby at_51) rfl rfl ?_
        refine g_iloadN (q := 53) X153.here hx (hb hby at_52) rfl rfl ?_
        refine g_iload (q := 55) X153.here hx (hb hby at_53) rfl rfl ?_
        refine g_iload (q := 57) X153.here hx (hb hby at_55) rfl rfl ?_
        refine g_callSP (q := 60) X153 hx hZ hown (hw _ (List.mem_of_getElem? (i := 45) rfl)) (hw _ (List.mem_of_getElem? (i := 46) rfl)) (hw _ (List.mem_of_getElem? (i := 47) rfl)) (hw _ (List.mem_of_getElem? (i := 48) rfl)) (by decide) (rm11 l Z a0 hw [] (1 : Int32) u0 u1 u2 h153 n0 Z156) (argsL := [.int (1 : Int32), .int u0, .int u1, .int u2]) (rest := [.int (1 : Int32), .ref o1]) pd_7 rfl rfl rfl (hb hby at_57) rfl (by rw [hml]; rfl) e153 (by decide) (W := 2) rfl (by decide) rfl rfl (by decide) (by decide) ?_
        intro T158 X158 e158
        refine g_istore_ (q := 61) (i := 1) (v := (own_el (1 : Int32) u0 u1 u2)) X158 hx hZ e158 A153 rfl (by show 1 < 4; decide) (hb hby at_60) rfl ?_
        intro T159 h159 X159 e159 W159 A159
        replace A159 : IA Z h159 o1 ([(own_el (0 : Int32) u0 u1 u2), (own_el (1 : Int32) u0 u1 u2), (0 : Int32), (0 : Int32)] : List Int32) := A159
        have N161 := Fr.snoc X159 N155 g2
        have Z162 : n0 ≤ h159.size := Nat.le_trans Z156 (Nat.le_of_eq W159.size.symm)
        refine g_iload (q := 63) X159.here hx (hb hby at_61) rfl rfl ?_
        refine g_iconst (q := 64) (v := (2 : Int32)) X159.here hx (hb hby at_63) rfl rfl ?_
        refine g_icmp_le (q := 80) (q0 := 67) X159.here hx (hb hby at_64) (by decide) (by decide) rfl ?_ ?_
        · intro c163
          exfalso; rw [hq] at c163; exact absurd c163 (by decide)
        · intro c163
          refine g_aload (q := 69) X159.here hx (hb hby at_67) rfl rfl rfl ?_
          refine g_iconst (q := 70) (v := (2 : Int32)) X159.here hx (hb hby at_69) rfl rfl ?_
          refine g_iconst (q := 71) (v := (2 : Int32)) X159.here hx (hb hby at_70) rfl rfl ?_
          refine g_iloadN (q := 72) X159.here hx (hb hby at_71) rfl rfl ?_
          refine g_iload (q := 74) X159.here hx (hb hby at_72) rfl rfl ?_
          refine g_iload (q := 76) X159.here hx (hb hby at_74) rfl rfl ?_
          refine g_callSP (q := 79) X159 hx hZ hown (hw _ (List.mem_of_getElem? (i := 45) rfl)) (hw _ (List.mem_of_getElem? (i := 46) rfl)) (hw _ (List.mem_of_getElem? (i := 47) rfl)) (hw _ (List.mem_of_getElem? (i := 48) rfl)) (by decide) (rm11 l Z a0 hw [] (2 : Int32) u0 u1 u2 h159 n0 Z162) (argsL := [.int (2 : Int32), .int u0, .int u1, .int u2]) (rest := [.int (2 : Int32), .ref o1]) pd_7 rfl rfl rfl (hb hby at_76) rfl (by rw [hml]; rfl) e159 (by decide) (W := 2) rfl (by decide) rfl rfl (by decide) (by decide) ?_
          intro T164 X164 e164
          refine g_istore_ (q := 80) (i := 2) (v := (own_el (2 : Int32) u0 u1 u2)) X164 hx hZ e164 A159 rfl (by show 2 < 4; decide) (hb hby at_79) rfl ?_
          intro T165 h165 X165 e165 W165 A165
          replace A165 : IA Z h165 o1 ([(own_el (0 : Int32) u0 u1 u2), (own_el (1 : Int32) u0 u1 u2), (own_el (2 : Int32) u0 u1 u2), (0 : Int32)] : List Int32) := A165
          have N167 := Fr.snoc X165 N161 g2
          have Z168 : n0 ≤ h165.size := Nat.le_trans Z162 (Nat.le_of_eq W165.size.symm)
          refine g_iload (q := 82) X165.here hx (hb hby at_80) rfl rfl ?_
          refine g_iconst (q := 83) (v := (3 : Int32)) X165.here hx (hb hby at_82) rfl rfl ?_
          refine g_icmp_le (q := 99) (q0 := 86) X165.here hx (hb hby at_83) (by decide) (by decide) rfl ?_ ?_
          · intro c169
            exfalso; rw [hq] at c169; exact absurd c169 (by decide)
          · intro c169
            refine g_aload (q := 88) X165.here hx (hb hby at_86) rfl rfl rfl ?_
            refine g_iconst (q := 89) (v := (3 : Int32)) X165.here hx (hb hby at_88) rfl rfl ?_
            refine g_iconst (q := 90) (v := (3 : Int32)) X165.here hx (hb hby at_89) rfl rfl ?_
            refine g_iloadN (q := 91) X165.here hx (hb hby at_90) rfl rfl ?_
            refine g_iload (q := 93) X165.here hx (hb hby at_91) rfl rfl ?_
            refine g_iload (q := 95) X165.here hx (hb hby at_93) rfl rfl ?_
            refine g_callSP (q := 98) X165 hx hZ hown (hw _ (List.mem_of_getElem? (i := 45) rfl)) (hw _ (List.mem_of_getElem? (i := 46) rfl)) (hw _ (List.mem_of_getElem? (i := 47) rfl)) (hw _ (List.mem_of_getElem? (i := 48) rfl)) (by decide) (rm11 l Z a0 hw [] (3 : Int32) u0 u1 u2 h165 n0 Z168) (argsL := [.int (3 : Int32), .int u0, .int u1, .int u2]) (rest := [.int (3 : Int32), .ref o1]) pd_7 rfl rfl rfl (hb hby at_95) rfl (by rw [hml]; rfl) e165 (by decide) (W := 2) rfl (by decide) rfl rfl (by decide) (by decide) ?_
            intro T170 X170 e170
            refine g_istore_ (q := 99) (i := 3) (v := (own_el (3 : Int32) u0 u1 u2)) X170 hx hZ e170 A165 rfl (by show 3 < 4; decide) (hb hby at_98) rfl ?_
            intro T171 h171 X171 e171 W171 A171
            replace A171 : IA Z h171 o1 ([(own_el (0 : Int32) u0 u1 u2), (own_el (1 : Int32) u0 u1 u2), (own_el (2 : Int32) u0 u1 u2), (own_el (3 : Int32) u0 u1 u2)] : List Int32) := A171
            have N173 := Fr.snoc X171 N167 g2
            have Z174 : n0 ≤ h171.size := Nat.le_trans Z168 (Nat.le_of_eq W171.size.symm)
            refine g_iload (q := 101) X171.here hx (hb hby at_99) rfl rfl ?_
            refine g_iconst (q := 102) (v := (4 : Int32)) X171.here hx (hb hby at_101) rfl rfl ?_
            refine g_icmp_le (q := 118) (q0 := 105) X171.here hx (hb hby at_102) (by decide) (by decide) rfl ?_ ?_
            · intro c175
              refine g_iload (q := 120) X171.here hx (hb hby at_118) rfl rfl ?_
              refine g_iconst (q := 121) (v := (5 : Int32)) X171.here hx (hb hby at_120) rfl rfl ?_
              refine g_icmp_le (q := 137) (q0 := 124) X171.here hx (hb hby at_121) (by decide) (by decide) rfl ?_ ?_
              · intro c176
                refine g_iload (q := 139) X171.here hx (hb hby at_137) rfl rfl ?_
                refine g_bipush (q := 141) (v := (6 : Int32)) X171.here hx (hb hby at_139) rfl rfl ?_
                refine g_icmp_le (q := 159) (q0 := 144) X171.here hx (hb hby at_141) (by decide) (by decide) rfl ?_ ?_
                · intro c177
                  exact LP159_b4 _ h171 _ ([(own_el (0 : Int32) u0 u1 u2), (own_el (1 : Int32) u0 u1 u2), (own_el (2 : Int32) u0 u1 u2), (own_el (3 : Int32) u0 u1 u2)] : List Int32) X171 e171 N173 Z174 A171 (by rw [hq]; rfl) (by intro i hi; rcases i with _ | _ | _ | _ | i; all_goals (first | rfl | (exfalso; simp at hi; done) | (exfalso; simp at hi; omega)))
                · intro c177
                  exfalso; rw [hq] at c177; exact absurd c177 (by decide)
              · intro c176
                exfalso; rw [hq] at c176; exact absurd c176 (by decide)
            · intro c175
              exfalso; rw [hq] at c175; exact absurd c175 (by decide)
  · have Aq : IA Z h1 o1 ([(0 : Int32), (0 : Int32), (0 : Int32), (0 : Int32), (0 : Int32)] : List Int32) := IA.eq A1 (by rw [hq]; rfl)
    refine g_iload (q := 26) X1.here hx (hb hby at_24) rfl rfl ?_
    refine g_if_le (q := 42) (q0 := 29) X1.here hx (hb hby at_26) (by decide) (by decide) rfl ?_ ?_
    · intro c178
      exfalso; rw [hq] at c178; exact absurd c178 (by decide)
    · intro c178
      refine g_aload (q := 31) X1.here hx (hb hby at_29) rfl rfl rfl ?_
      refine g_iconst (q := 32) (v := (0 : Int32)) X1.here hx (hb hby at_31) rfl rfl ?_
      refine g_iconst (q := 33) (v := (0 : Int32)) X1.here hx (hb hby at_32) rfl rfl ?_
      refine g_iloadN (q := 34) X1.here hx (hb hby at_33) rfl rfl ?_
      refine g_iload (q := 36) X1.here hx (hb hby at_34) rfl rfl ?_
      refine g_iload (q := 38) X1.here hx (hb hby at_36) rfl rfl ?_
      refine g_callSP (q := 41) X1 hx hZ hown (hw _ (List.mem_of_getElem? (i := 45) rfl)) (hw _ (List.mem_of_getElem? (i := 46) rfl)) (hw _ (List.mem_of_getElem? (i := 47) rfl)) (hw _ (List.mem_of_getElem? (i := 48) rfl)) (by decide) (rm11 l Z a0 hw [] (0 : Int32) u0 u1 u2 h1 n0 Z3) (argsL := [.int (0 : Int32), .int u0, .int u1, .int u2]) (rest := [.int (0 : Int32), .ref o1]) pd_7 rfl rfl rfl (hb hby at_38) rfl (by rw [hml]; rfl) e1 (by decide) (W := 2) rfl (by decide) rfl rfl (by decide) (by decide) ?_
      intro T179 X179 e179
      refine g_istore_ (q := 42) (i := 0) (v := (own_el (0 : Int32) u0 u1 u2)) X179 hx hZ e179 Aq rfl (by show 0 < 5; decide) (hb hby at_41) rfl ?_
      intro T180 h180 X180 e180 W180 A180
      replace A180 : IA Z h180 o1 ([(own_el (0 : Int32) u0 u1 u2), (0 : Int32), (0 : Int32), (0 : Int32), (0 : Int32)] : List Int32) := A180
      have N182 := Fr.snoc X180 N0 g2
      have Z183 : n0 ≤ h180.size := Nat.le_trans Z3 (Nat.le_of_eq W180.size.symm)
      refine g_iload (q := 44) X180.here hx (hb hby at_42) rfl rfl ?_
      refine g_iconst (q := 45) (v := (1 : Int32)) X180.here hx (hb hby at_44) rfl rfl ?_
      refine g_icmp_le (q := 61) (q0 := 48) X180.here hx (hb hby at_45) (by decide) (by decide) rfl ?_ ?_
      · intro c184
        exfalso; rw [hq] at c184; exact absurd c184 (by decide)
      · intro c184
        refine g_aload (q := 50) X180.here hx (hb hby at_48) rfl rfl rfl ?_
        refine g_iconst (q := 51) (v := (1 : Int32)) X180.here hx (hb hby at_50) rfl rfl ?_
        refine g_iconst (q := 52) (v := (1 : Int32)) X180.here hx (hb hby at_51) rfl rfl ?_
        refine g_iloadN (q := 53) X180.here hx (hb hby at_52) rfl rfl ?_
        refine g_iload (q := 55) X180.here hx (hb hby at_53) rfl rfl ?_
        refine g_iload (q := 57) X180.here hx (hb hby at_55) rfl rfl ?_
        refine g_callSP (q := 60) X180 hx hZ hown (hw _ (List.mem_of_getElem? (i := 45) rfl)) (hw _ (List.mem_of_getElem? (i := 46) rfl)) (hw _ (List.mem_of_getElem? (i := 47) rfl)) (hw _ (List.mem_of_getElem? (i := 48) rfl)) (by decide) (rm11 l Z a0 hw [] (1 : Int32) u0 u1 u2 h180 n0 Z183) (argsL := [.int (1 : Int32), .int u0, .int u1, .int u2]) (rest := [.int (1 : Int32), .ref o1]) pd_7 rfl rfl rfl (hb hby at_57) rfl (by rw [hml]; rfl) e180 (by decide) (W := 2) rfl (by decide) rfl rfl (by decide) (by decide) ?_
        intro T185 X185 e185
        refine g_istore_ (q := 61) (i := 1) (v := (own_el (1 : Int32) u0 u1 u2)) X185 hx hZ e185 A180 rfl (by show 1 < 5; decide) (hb hby at_60) rfl ?_
        intro T186 h186 X186 e186 W186 A186
        replace A186 : IA Z h186 o1 ([(own_el (0 : Int32) u0 u1 u2), (own_el (1 : Int32) u0 u1 u2), (0 : Int32), (0 : Int32), (0 : Int32)] : List Int32) := A186
        have N188 := Fr.snoc X186 N182 g2
        have Z189 : n0 ≤ h186.size := Nat.le_trans Z183 (Nat.le_of_eq W186.size.symm)
        refine g_iload (q := 63) X186.here hx (hb hby at_61) rfl rfl ?_
        refine g_iconst (q := 64) (v := (2 : Int32)) X186.here hx (hb hby at_63) rfl rfl ?_
        refine g_icmp_le (q := 80) (q0 := 67) X186.here hx (hb hby at_64) (by decide) (by decide) rfl ?_ ?_
        · intro c190
          exfalso; rw [hq] at c190; exact absurd c190 (by decide)
        · intro c190
          refine g_aload (q := 69) X186.here hx (hb hby at_67) rfl rfl rfl ?_
          refine g_iconst (q := 70) (v := (2 : Int32)) X186.here hx (hb hby at_69) rfl rfl ?_
          refine g_iconst (q := 71) (v := (2 : Int32)) X186.here hx (hb hby at_70) rfl rfl ?_
          refine g_iloadN (q := 72) X186.here hx (hb hby at_71) rfl rfl ?_
          refine g_iload (q := 74) X186.here hx (hb hby at_72) rfl rfl ?_
          refine g_iload (q := 76) X186.here hx (hb hby at_74) rfl rfl ?_
          refine g_callSP (q := 79) X186 hx hZ hown (hw _ (List.mem_of_getElem? (i := 45) rfl)) (hw _ (List.mem_of_getElem? (i := 46) rfl)) (hw _ (List.mem_of_getElem? (i := 47) rfl)) (hw _ (List.mem_of_getElem? (i := 48) rfl)) (by decide) (rm11 l Z a0 hw [] (2 : Int32) u0 u1 u2 h186 n0 Z189) (argsL := [.int (2 : Int32), .int u0, .int u1, .int u2]) (rest := [.int (2 : Int32), .ref o1]) pd_7 rfl rfl rfl (hb hby at_76) rfl (by rw [hml]; rfl) e186 (by decide) (W := 2) rfl (by decide) rfl rfl (by decide) (by decide) ?_
          intro T191 X191 e191
          refine g_istore_ (q := 80) (i := 2) (v := (own_el (2 : Int32) u0 u1 u2)) X191 hx hZ e191 A186 rfl (by show 2 < 5; decide) (hb hby at_79) rfl ?_
          intro T192 h192 X192 e192 W192 A192
          replace A192 : IA Z h192 o1 ([(own_el (0 : Int32) u0 u1 u2), (own_el (1 : Int32) u0 u1 u2), (own_el (2 : Int32) u0 u1 u2), (0 : Int32), (0 : Int32)] : List Int32) := A192
          have N194 := Fr.snoc X192 N188 g2
          have Z195 : n0 ≤ h192.size := Nat.le_trans Z189 (Nat.le_of_eq W192.size.symm)
          refine g_iload (q := 82) X192.here hx (hb hby at_80) rfl rfl ?_
          refine g_iconst (q := 83) (v := (3 : Int32)) X192.here hx (hb hby at_82) rfl rfl ?_
          refine g_icmp_le (q := 99) (q0 := 86) X192.here hx (hb hby at_83) (by decide) (by decide) rfl ?_ ?_
          · intro c196
            exfalso; rw [hq] at c196; exact absurd c196 (by decide)
          · intro c196
            refine g_aload (q := 88) X192.here hx (hb hby at_86) rfl rfl rfl ?_
            refine g_iconst (q := 89) (v := (3 : Int32)) X192.here hx (hb hby at_88) rfl rfl ?_
            refine g_iconst (q := 90) (v := (3 : Int32)) X192.here hx (hb hby at_89) rfl rfl ?_
            refine g_iloadN (q := 91) X192.here hx (hb hby at_90) rfl rfl ?_
            refine g_iload (q := 93) X192.here hx (hb hby at_91) rfl rfl ?_
            refine g_iload (q := 95) X192.here hx (hb hby at_93) rfl rfl ?_
            refine g_callSP (q := 98) X192 hx hZ hown (hw _ (List.mem_of_getElem? (i := 45) rfl)) (hw _ (List.mem_of_getElem? (i := 46) rfl)) (hw _ (List.mem_of_getElem? (i := 47) rfl)) (hw _ (List.mem_of_getElem? (i := 48) rfl)) (by decide) (rm11 l Z a0 hw [] (3 : Int32) u0 u1 u2 h192 n0 Z195) (argsL := [.int (3 : Int32), .int u0, .int u1, .int u2]) (rest := [.int (3 : Int32), .ref o1]) pd_7 rfl rfl rfl (hb hby at_95) rfl (by rw [hml]; rfl) e192 (by decide) (W := 2) rfl (by decide) rfl rfl (by decide) (by decide) ?_
            intro T197 X197 e197
            refine g_istore_ (q := 99) (i := 3) (v := (own_el (3 : Int32) u0 u1 u2)) X197 hx hZ e197 A192 rfl (by show 3 < 5; decide) (hb hby at_98) rfl ?_
            intro T198 h198 X198 e198 W198 A198
            replace A198 : IA Z h198 o1 ([(own_el (0 : Int32) u0 u1 u2), (own_el (1 : Int32) u0 u1 u2), (own_el (2 : Int32) u0 u1 u2), (own_el (3 : Int32) u0 u1 u2), (0 : Int32)] : List Int32) := A198
            have N200 := Fr.snoc X198 N194 g2
            have Z201 : n0 ≤ h198.size := Nat.le_trans Z195 (Nat.le_of_eq W198.size.symm)
            refine g_iload (q := 101) X198.here hx (hb hby at_99) rfl rfl ?_
            refine g_iconst (q := 102) (v := (4 : Int32)) X198.here hx (hb hby at_101) rfl rfl ?_
            refine g_icmp_le (q := 118) (q0 := 105) X198.here hx (hb hby at_102) (by decide) (by decide) rfl ?_ ?_
            · intro c202
              exfalso; rw [hq] at c202; exact absurd c202 (by decide)
            · intro c202
              refine g_aload (q := 107) X198.here hx (hb hby at_105) rfl rfl rfl ?_
              refine g_iconst (q := 108) (v := (4 : Int32)) X198.here hx (hb hby at_107) rfl rfl ?_
              refine g_iconst (q := 109) (v := (4 : Int32)) X198.here hx (hb hby at_108) rfl rfl ?_
              refine g_iloadN (q := 110) X198.here hx (hb hby at_109) rfl rfl ?_
              refine g_iload (q := 112) X198.here hx (hb hby at_110) rfl rfl ?_
              refine g_iload (q := 114) X198.here hx (hb hby at_112) rfl rfl ?_
              refine g_callSP (q := 117) X198 hx hZ hown (hw _ (List.mem_of_getElem? (i := 45) rfl)) (hw _ (List.mem_of_getElem? (i := 46) rfl)) (hw _ (List.mem_of_getElem? (i := 47) rfl)) (hw _ (List.mem_of_getElem? (i := 48) rfl)) (by decide) (rm11 l Z a0 hw [] (4 : Int32) u0 u1 u2 h198 n0 Z201) (argsL := [.int (4 : Int32), .int u0, .int u1, .int u2]) (rest := [.int (4 : Int32), .ref o1]) pd_7 rfl rfl rfl (hb hby at_114) rfl (by rw [hml]; rfl) e198 (by decide) (W := 2) rfl (by decide) rfl rfl (by decide) (by decide) ?_
              intro T203 X203 e203
              refine g_istore_ (q := 118) (i := 4) (v := (own_el (4 : Int32) u0 u1 u2)) X203 hx hZ e203 A198 rfl (by show 4 < 5; decide) (hb hby at_117) rfl ?_
              intro T204 h204 X204 e204 W204 A204
              replace A204 : IA Z h204 o1 ([(own_el (0 : Int32) u0 u1 u2), (own_el (1 : Int32) u0 u1 u2), (own_el (2 : Int32) u0 u1 u2), (own_el (3 : Int32) u0 u1 u2), (own_el (4 : Int32) u0 u1 u2)] : List Int32) := A204
              have N206 := Fr.snoc X204 N200 g2
              have Z207 : n0 ≤ h204.size := Nat.le_trans Z201 (Nat.le_of_eq W204.size.symm)
              refine g_iload (q := 120) X204.here hx (hb hby at_118) rfl rfl ?_
              refine g_iconst (q := 121) (v := (5 : Int32)) X204.here hx (hb hby at_120) rfl rfl ?_
              refine g_icmp_le (q := 137) (q0 := 124) X204.here hx (hb hby at_121) (by decide) (by decide) rfl ?_ ?_
              · intro c208
                refine g_iload (q := 139) X204.here hx (hb hby at_137) rfl rfl ?_
                refine g_bipush (q := 141) (v := (6 : Int32)) X204.here hx (hb hby at_139) rfl rfl ?_
                refine g_icmp_le (q := 159) (q0 := 144) X204.here hx (hb hby at_141) (by decide) (by decide) rfl ?_ ?_
                · intro c209
                  exact LP159_b4 _ h204 _ ([(own_el (0 : Int32) u0 u1 u2), (own_el (1 : Int32) u0 u1 u2), (own_el (2 : Int32) u0 u1 u2), (own_el (3 : Int32) u0 u1 u2), (own_el (4 : Int32) u0 u1 u2)] : List Int32) X204 e204 N206 Z207 A204 (by rw [hq]; rfl) (by intro i hi; rcases i with _ | _ | _ | _ | _ | i; all_goals (first | rfl | (exfalso; simp at hi; done) | (exfalso; simp at hi; omega)))
                · intro c209
                  exfalso; rw [hq] at c209; exact absurd c209 (by decide)
              · intro c208
                exfalso; rw [hq] at c208; exact absurd c208 (by decide)
  · have Aq : IA Z h1 o1 ([(0 : Int32), (0 : Int32), (0 : Int32), (0 : Int32), (0 : Int32), (0 : Int32)] : List Int32) := IA.eq A1 (by rw [hq]; rfl)
    refine g_iload (q := 26) X1.here hx (hb hby at_24) rfl rfl ?_
    refine g_if_le (q := 42) (q0 := 29) X1.here hx (hb hby at_26) (by decide) (by decide) rfl ?_ ?_
    · intro c210
      exfalso; rw [hq] at c210; exact absurd c210 (by decide)
    · intro c210
      refine g_aload (q := 31) X1.here hx (hb hby at_29) rfl rfl rfl ?_
      refine g_iconst (q := 32) (v := (0 : Int32)) X1.here hx (hb hby at_31) rfl rfl ?_
      refine g_iconst (q := 33) (v := (0 : Int32)) X1.here hx (hb hby at_32) rfl rfl ?_
      refine g_iloadN (q := 34) X1.here hx (hb hby at_33) rfl rfl ?_
      refine g_iload (q := 36) X1.here hx (hb hby at_34) rfl rfl ?_
      refine g_iload (q := 38) X1.here hx (hb hby at_36) rfl rfl ?_
      refine g_callSP (q := 41) X1 hx hZ hown (hw _ (List.mem_of_getElem? (i := 45) rfl)) (hw _ (List.mem_of_getElem? (i := 46) rfl)) (hw _ (List.mem_of_getElem? (i := 47) rfl)) (hw _ (List.mem_of_getElem? (i := 48) rfl)) (by decide) (rm11 l Z a0 hw [] (0 : Int32) u0 u1 u2 h1 n0 Z3) (argsL := [.int (0 : Int32), .int u0, .int u1, .int u2]) (rest := [.int (0 : Int32), .ref o1]) pd_7 rfl rfl rfl (hb hby at_38) rfl (by rw [hml]; rfl) e1 (by decide) (W := 2) rfl (by decide) rfl rfl (by decide) (by decide) ?_
      intro T211 X211 e211
      refine g_istore_ (q := 42) (i := 0) (v := (own_el (0 : Int32) u0 u1 u2)) X211 hx hZ e211 Aq rfl (by show 0 < 6; decide) (hb hby at_41) rfl ?_
      intro T212 h212 X212 e212 W212 A212
      replace A212 : IA Z h212 o1 ([(own_el (0 : Int32) u0 u1 u2), (0 : Int32), (0 : Int32), (0 : Int32), (0 : Int32), (0 : Int32)] : List Int32) := A212
      have N214 := Fr.snoc X212 N0 g2
      have Z215 : n0 ≤ h212.size := Nat.le_trans Z3 (Nat.le_of_eq W212.size.symm)
      refine g_iload (q := 44) X212.here hx (hb hby at_42) rfl rfl ?_
      refine g_iconst (q := 45) (v := (1 : Int32)) X212.here hx (hb hby at_44) rfl rfl ?_
      refine g_icmp_le (q := 61) (q0 := 48) X212.here hx (hb hby at_45) (by decide) (by decide) rfl ?_ ?_
      · intro c216
        exfalso; rw [hq] at c216; exact absurd c216 (by decide)
      · intro c216
        refine g_aload (q := 50) X212.here hx (hb hby at_48) rfl rfl rfl ?_
        refine g_iconst (q := 51) (v := (1 : Int32)) X212.here hx (hb hby at_50) rfl rfl ?_
        refine g_iconst (q := 52) (v := (1 : Int32)) X212.here hx (hb hby at_51) rfl rfl ?_
        refine g_iloadN (q := 53) X212.here hx (hb hby at_52) rfl rfl ?_
        refine g_iload (q := 55) X212.here hx (hb hby at_53) rfl rfl ?_
        refine g_iload (q := 57) X212.here hx (hb hby at_55) rfl rfl ?_
        refine g_callSP (q := 60) X212 hx hZ hown (hw _ (List.mem_of_getElem? (i := 45) rfl)) (hw _ (List.mem_of_getElem? (i := 46) rfl)) (hw _ (List.mem_of_getElem? (i := 47) rfl)) (hw _ (List.mem_of_getElem? (i := 48) rfl)) (by decide) (rm11 l Z a0 hw [] (1 : Int32) u0 u1 u2 h212 n0 Z215) (argsL := [.int (1 : Int32), .int u0, .int u1, .int u2]) (rest := [.int (1 : Int32), .ref o1]) pd_7 rfl rfl rfl (hb hby at_57) rfl (by rw [hml]; rfl) e212 (by decide) (W := 2) rfl (by decide) rfl rfl (by decide) (by decide) ?_
        intro T217 X217 e217
        refine g_istore_ (q := 61) (i := 1) (v := (own_el (1 : Int32) u0 u1 u2)) X217 hx hZ e217 A212 rfl (by show 1 < 6; decide) (hb hby at_60) rfl ?_
        intro T218 h218 X218 e218 W218 A218
        replace A218 : IA Z h218 o1 ([(own_el (0 : Int32) u0 u1 u2), (own_el (1 : Int32) u0 u1 u2), (0 : Int32), (0 : Int32), (0 : Int32), (0 : Int32)] : List Int32) := A218
        have N220 := Fr.snoc X218 N214 g2
        have Z221 : n0 ≤ h218.size := Nat.le_trans Z215 (Nat.le_of_eq W218.size.symm)
        refine g_iload (q := 63) X218.here hx (hb hby at_61) rfl rfl ?_
        refine g_iconst (q := 64) (v := (2 : Int32)) X218.here hx (hb hby at_63) rfl rfl ?_
        refine g_icmp_le (q := 80) (q0 := 67) X218.here hx (hb hby at_64) (by decide) (by decide) rfl ?_ ?_
        · intro c222
          exfalso; rw [hq] at c222; exact absurd c222 (by decide)
        · intro c222
          refine g_aload (q := 69) X218.here hx (hb hby at_67) rfl rfl rfl ?_
          refine g_iconst (q := 70) (v := (2 : Int32)) X218.here hx (hb hby at_69) rfl rfl ?_
          refine g_iconst (q := 71) (v := (2 : Int32)) X218.here hx (hb hby at_70) rfl rfl ?_
          refine g_iloadN (q := 72) X218.here hx (hb hby at_71) rfl rfl ?_
          refine g_iload (q := 74) X218.here hx (hb hby at_72) rfl rfl ?_
          refine g_iload (q := 76) X218.here hx (hb hby at_74) rfl rfl ?_
          refine g_callSP (q := 79) X218 hx hZ hown (hw _ (List.mem_of_getElem? (i := 45) rfl)) (hw _ (List.mem_of_getElem? (i := 46) rfl)) (hw _ (List.mem_of_getElem? (i := 47) rfl)) (hw _ (List.mem_of_getElem? (i := 48) rfl)) (by decide) (rm11 l Z a0 hw [] (2 : Int32) u0 u1 u2 h218 n0 Z221) (argsL := [.int (2 : Int32), .int u0, .int u1, .int u2]) (rest := [.int (2 : Int32), .ref o1]) pd_7 rfl rfl rfl (hb hby at_76) rfl (by rw [hml]; rfl) e218 (by decide) (W := 2) rfl (by decide) rfl rfl (by decide) (by decide) ?_
          intro T223 X223 e223
          refine g_istore_ (q := 80) (i := 2) (v := (own_el (2 : Int32) u0 u1 u2)) X223 hx hZ e223 A218 rfl (by show 2 < 6; decide) (hb hby at_79) rfl ?_
          intro T224 h224 X224 e224 W224 A224
          replace A224 : IA Z h224 o1 ([(own_el (0 : Int32) u0 u1 u2), (own_el (1 : Int32) u0 u1 u2), (own_el (2 : Int32) u0 u1 u2), (0 : Int32), (0 : Int32), (0 : Int32)] : List Int32) := A224
          have N226 := Fr.snoc X224 N220 g2
          have Z227 : n0 ≤ h224.size := Nat.le_trans Z221 (Nat.le_of_eq W224.size.symm)
          refine g_iload (q := 82) X224.here hx (hb hby at_80) rfl rfl ?_
          refine g_iconst (q := 83) (v := (3 : Int32)) X224.here hx (hb hby at_82) rfl rfl ?_
          refine g_icmp_le (q := 99) (q0 := 86) X224.here hx (hb hby at_83) (by decide) (by decide) rfl ?_ ?_
          · intro c228
            exfalso; rw [hq] at c228; exact absurd c228 (by decide)
          · intro c228
            refine g_aload (q := 88) X224.here hx (hb hby at_86) rfl rfl rfl ?_
            refine g_iconst (q := 89) (v := (3 : Int32)) X224.here hx (hb hby at_88) rfl rfl ?_
            refine g_iconst (q := 90) (v := (3 : Int32)) X224.here hx (hb hby at_89) rfl rfl ?_
            refine g_iloadN (q := 91) X224.here hx (hb hby at_90) rfl rfl ?_
            refine g_iload (q := 93) X224.here hx (hb hby at_91) rfl rfl ?_
            refine g_iload (q := 95) X224.here hx (hb hby at_93) rfl rfl ?_
            refine g_callSP (q := 98) X224 hx hZ hown (hw _ (List.mem_of_getElem? (i := 45) rfl)) (hw _ (List.mem_of_getElem? (i := 46) rfl)) (hw _ (List.mem_of_getElem? (i := 47) rfl)) (hw _ (List.mem_of_getElem? (i := 48) rfl)) (by decide) (rm11 l Z a0 hw [] (3 : Int32) u0 u1 u2 h224 n0 Z227) (argsL := [.int (3 : Int32), .int u0, .int u1, .int u2]) (rest := [.int (3 : Int32), .ref o1]) pd_7 rfl rfl rfl (hb hby at_95) rfl (by rw [hml]; rfl) e224 (by decide) (W := 2) rfl (by decide) rfl rfl (by decide) (by decide) ?_
            intro T229 X229 e229
            refine g_istore_ (q := 99) (i := 3) (v := (own_el (3 : Int32) u0 u1 u2)) X229 hx hZ e229 A224 rfl (by show 3 < 6; decide) (hb hby at_98) rfl ?_
            intro T230 h230 X230 e230 W230 A230
            replace A230 : IA Z h230 o1 ([(own_el (0 : Int32) u0 u1 u2), (own_el (1 : Int32) u0 u1 u2), (own_el (2 : Int32) u0 u1 u2), (own_el (3 : Int32) u0 u1 u2), (0 : Int32), (0 : Int32)] : List Int32) := A230
            have N232 := Fr.snoc X230 N226 g2
            have Z233 : n0 ≤ h230.size := Nat.le_trans Z227 (Nat.le_of_eq W230.size.symm)
            refine g_iload (q := 101) X230.here hx (hb hby at_99) rfl rfl ?_
            refine g_iconst (q := 102) (v := (4 : Int32)) X230.here hx (hb hby at_101) rfl rfl ?_
            refine g_icmp_le (q := 118) (q0 := 105) X230.here hx (hb hby at_102) (by decide) (by decide) rfl ?_ ?_
            · intro c234
              exfalso; rw [hq] at c234; exact absurd c234 (by decide)
            · intro c234
              refine g_aload (q := 107) X230.here hx (hb hby at_105) rfl rfl rfl ?_
              refine g_iconst (q := 108) (v := (4 : Int32)) X230.here hx (hb hby at_107) rfl rfl ?_
              refine g_iconst (q := 109) (v := (4 : Int32)) X230.here hx (hb hby at_108) rfl rfl ?_
              refine g_iloadN (q := 110) X230.here hx (hb hby at_109) rfl rfl ?_
              refine g_iload (q := 112) X230.here hx (hb hby at_110) rfl rfl ?_
              refine g_iload (q := 114) X230.here hx (hb hby at_112) rfl rfl ?_
              refine g_callSP (q := 117) X230 hx hZ hown (hw _ (List.mem_of_getElem? (i := 45) rfl)) (hw _ (List.mem_of_getElem? (i := 46) rfl)) (hw _ (List.mem_of_getElem? (i := 47) rfl)) (hw _ (List.mem_of_getElem? (i := 48) rfl)) (by decide) (rm11 l Z a0 hw [] (4 : Int32) u0 u1 u2 h230 n0 Z233) (argsL := [.int (4 : Int32), .int u0, .int u1, .int u2]) (rest := [.int (4 : Int32), .ref o1]) pd_7 rfl rfl rfl (hb hby at_114) rfl (by rw [hml]; rfl) e230 (by decide) (W := 2) rfl (by decide) rfl rfl (by decide) (by decide) ?_
              intro T235 X235 e235
              refine g_istore_ (q := 118) (i := 4) (v := (own_el (4 : Int32) u0 u1 u2)) X235 hx hZ e235 A230 rfl (by show 4 < 6; decide) (hb hby at_117) rfl ?_
              intro T236 h236 X236 e236 W236 A236
              replace A236 : IA Z h236 o1 ([(own_el (0 : Int32) u0 u1 u2), (own_el (1 : Int32) u0 u1 u2), (own_el (2 : Int32) u0 u1 u2), (own_el (3 : Int32) u0 u1 u2), (own_el (4 : Int32) u0 u1 u2), (0 : Int32)] : List Int32) := A236
              have N238 := Fr.snoc X236 N232 g2
              have Z239 : n0 ≤ h236.size := Nat.le_trans Z233 (Nat.le_of_eq W236.size.symm)
              refine g_iload (q := 120) X236.here hx (hb hby at_118) rfl rfl ?_
              refine g_iconst (q := 121) (v := (5 : Int32)) X236.here hx (hb hby at_120) rfl rfl ?_
              refine g_icmp_le (q := 137) (q0 := 124) X236.here hx (hb hby at_121) (by decide) (by decide) rfl ?_ ?_
              · intro c240
                exfalso; rw [hq] at c240; exact absurd c240 (by decide)
              · intro c240
                refine g_aload (q := 126) X236.here hx (hb hby at_124) rfl rfl rfl ?_
                refine g_iconst (q := 127) (v := (5 : Int32)) X236.here hx (hb hby at_126) rfl rfl ?_
                refine g_iconst (q := 128) (v := (5 : Int32)) X236.here hx (hb hby at_127) rfl rfl ?_
                refine g_iloadN (q := 129) X236.here hx (hb hby at_128) rfl rfl ?_
                refine g_iload (q := 131) X236.here hx (hb hby at_129) rfl rfl ?_
                refine g_iload (q := 133) X236.here hx (hb hby at_131) rfl rfl ?_
                refine g_callSP (q := 136) X236 hx hZ hown (hw _ (List.mem_of_getElem? (i := 45) rfl)) (hw _ (List.mem_of_getElem? (i := 46) rfl)) (hw _ (List.mem_of_getElem? (i := 47) rfl)) (hw _ (List.mem_of_getElem? (i := 48) rfl)) (by decide) (rm11 l Z a0 hw [] (5 : Int32) u0 u1 u2 h236 n0 Z239) (argsL := [.int (5 : Int32), .int u0, .int u1, .int u2]) (rest := [.int (5 : Int32), .ref o1]) pd_7 rfl rfl rfl (hb hby at_133) rfl (by rw [hml]; rfl) e236 (by decide) (W := 2) rfl (by decide) rfl rfl (by decide) (by decide) ?_
                intro T241 X241 e241
                refine g_istore_ (q := 137) (i := 5) (v := (own_el (5 : Int32) u0 u1 u2)) X241 hx hZ e241 A236 rfl (by show 5 < 6; decide) (hb hby at_136) rfl ?_
                intro T242 h242 X242 e242 W242 A242
                replace A242 : IA Z h242 o1 ([(own_el (0 : Int32) u0 u1 u2), (own_el (1 : Int32) u0 u1 u2), (own_el (2 : Int32) u0 u1 u2), (own_el (3 : Int32) u0 u1 u2), (own_el (4 : Int32) u0 u1 u2), (own_el (5 : Int32) u0 u1 u2)] : List Int32) := A242
                have N244 := Fr.snoc X242 N238 g2
                have Z245 : n0 ≤ h242.size := Nat.le_trans Z239 (Nat.le_of_eq W242.size.symm)
                refine g_iload (q := 139) X242.here hx (hb hby at_137) rfl rfl ?_
                refine g_bipush (q := 141) (v := (6 : Int32)) X242.here hx (hb hby at_139) rfl rfl ?_
                refine g_icmp_le (q := 159) (q0 := 144) X242.here hx (hb hby at_141) (by decide) (by decide) rfl ?_ ?_
                · intro c246
                  exact LP159_b4 _ h242 _ ([(own_el (0 : Int32) u0 u1 u2), (own_el (1 : Int32) u0 u1 u2), (own_el (2 : Int32) u0 u1 u2), (own_el (3 : Int32) u0 u1 u2), (own_el (4 : Int32) u0 u1 u2), (own_el (5 : Int32) u0 u1 u2)] : List Int32) X242 e242 N244 Z245 A242 (by rw [hq]; rfl) (by intro i hi; rcases i with _ | _ | _ | _ | _ | _ | i; all_goals (first | rfl | (exfalso; simp at hi; done) | (exfalso; simp at hi; omega)))
                · intro c246
                  exfalso; rw [hq] at c246; exact absurd c246 (by decide)
  · have Aq : IA Z h1 o1 ([(0 : Int32), (0 : Int32), (0 : Int32), (0 : Int32), (0 : Int32), (0 : Int32), (0 : Int32)] : List Int32) := IA.eq A1 (by rw [hq]; rfl)
    refine g_iload (q := 26) X1.here hx (hb hby at_24) rfl rfl ?_
    refine g_if_le (q := 42) (q0 := 29) X1.here hx (hb hby at_26) (by decide) (by decide) rfl ?_ ?_
    · intro c247
      exfalso; rw [hq] at c247; exact absurd c247 (by decide)
    · intro c247
      refine g_aload (q := 31) X1.here hx (hb hby at_29) rfl rfl rfl ?_
      refine g_iconst (q := 32) (v := (0 : Int32)) X1.here hx (hb hby at_31) rfl rfl ?_
      refine g_iconst (q := 33) (v := (0 : Int32)) X1.here hx (hb hby at_32) rfl rfl ?_
      refine g_iloadN (q := 34) X1.here hx (hb hby at_33) rfl rfl ?_
      refine g_iload (q := 36) X1.here hx (hb hby at_34) rfl rfl ?_
      refine g_iload (q := 38) X1.here hx (hb hby at_36) rfl rfl ?_
      refine g_callSP (q := 41) X1 hx hZ hown (hw _ (List.mem_of_getElem? (i := 45) rfl)) (hw _ (List.mem_of_getElem? (i := 46) rfl)) (hw _ (List.mem_of_getElem? (i := 47) rfl)) (hw _ (List.mem_of_getElem? (i := 48) rfl)) (by decide) (rm11 l Z a0 hw [] (0 : Int32) u0 u1 u2 h1 n0 Z3) (argsL := [.int (0 : Int32), .int u0, .int u1, .int u2]) (rest := [.int (0 : Int32), .ref o1]) pd_7 rfl rfl rfl (hb hby at_38) rfl (by rw [hml]; rfl) e1 (by decide) (W := 2) rfl (by decide) rfl rfl (by decide) (by decide) ?_
      intro T248 X248 e248
      refine g_istore_ (q := 42) (i := 0) (v := (own_el (0 : Int32) u0 u1 u2)) X248 hx hZ e248 Aq rfl (by show 0 < 7; decide) (hb hby at_41) rfl ?_
      intro T249 h249 X249 e249 W249 A249
      replace A249 : IA Z h249 o1 ([(own_el (0 : Int32) u0 u1 u2), (0 : Int32), (0 : Int32), (0 : Int32), (0 : Int32), (0 : Int32), (0 : Int32)] : List Int32) := A249
      have N251 := Fr.snoc X249 N0 g2
      have Z252 : n0 ≤ h249.size := Nat.le_trans Z3 (Nat.le_of_eq W249.size.symm)
      refine g_iload (q := 44) X249.here hx (hb hby at_42) rfl rfl ?_
      refine g_iconst (q := 45) (v := (1 : Int32)) X249.here hx (hb hby at_44) rfl rfl ?_
      refine g_icmp_le (q := 61) (q0 := 48) X249.here hx (hb hby at_45) (by decide) (by decide) rfl ?_ ?_
      · intro c253
        exfalso; rw [hq] at c253; exact absurd c253 (by decide)
      · intro c253
        refine g_aload (q := 50) X249.here hx (hb hby at_48) rfl rfl rfl ?_
        refine g_iconst (q := 51) (v := (1 : Int32)) X249.here hx (hb hby at_50) rfl rfl ?_
        refine g_iconst (q := 52) (v := (1 : Int32)) X249.here hx (hb hby at_51) rfl rfl ?_
        refine g_iloadN (q := 53) X249.here hx (hb hby at_52) rfl rfl ?_
        refine g_iload (q := 55) X249.here hx (hb hby at_53) rfl rfl ?_
        refine g_iload (q := 57) X249.here hx (hb hby at_55) rfl rfl ?_
        refine g_callSP (q := 60) X249 hx hZ hown (hw _ (List.mem_of_getElem? (i := 45) rfl)) (hw _ (List.mem_of_getElem? (i := 46) rfl)) (hw _ (List.mem_of_getElem? (i := 47) rfl)) (hw _ (List.mem_of_getElem? (i := 48) rfl)) (by decide) (rm11 l Z a0 hw [] (1 : Int32) u0 u1 u2 h249 n0 Z252) (argsL := [.int (1 : Int32), .int u0, .int u1, .int u2]) (rest := [.int (1 : Int32), .ref o1]) pd_7 rfl rfl rfl (hb hby at_57) rfl (by rw [hml]; rfl) e249 (by decide) (W := 2) rfl (by decide) rfl rfl (by decide) (by decide) ?_
        intro T254 X254 e254
        refine g_istore_ (q := 61) (i := 1) (v := (own_el (1 : Int32) u0 u1 u2)) X254 hx hZ e254 A249 rfl (by show 1 < 7; decide) (hb hby at_60) rfl ?_
        intro T255 h255 X255 e255 W255 A255
        replace A255 : IA Z h255 o1 ([(own_el (0 : Int32) u0 u1 u2), (own_el (1 : Int32) u0 u1 u2), (0 : Int32), (0 : Int32), (0 : Int32), (0 : Int32), (0 : Int32)] : List Int32) := A255
        have N257 := Fr.snoc X255 N251 g2
        have Z258 : n0 ≤ h255.size := Nat.le_trans Z252 (Nat.le_of_eq W255.size.symm)
        refine g_iload (q := 63) X255.here hx (hb hby at_61) rfl rfl ?_
        refine g_iconst (q := 64) (v := (2 : Int32)) X255.here hx (hb hby at_63) rfl rfl ?_
        refine g_icmp_le (q := 80) (q0 := 67) X255.here hx (hb hby at_64) (by decide) (by decide) rfl ?_ ?_
        · intro c259
          exfalso; rw [hq] at c259; exact absurd c259 (by decide)
        · intro c259
          refine g_aload (q := 69) X255.here hx (hb hby at_67) rfl rfl rfl ?_
          refine g_iconst (q := 70) (v := (2 : Int32)) X255.here hx (hb hby at_69) rfl rfl ?_
          refine g_iconst (q := 71) (v := (2 : Int32)) X255.here hx (hb hby at_70) rfl rfl ?_
          refine g_iloadN (q := 72) X255.here hx (hb hby at_71) rfl rfl ?_
          refine g_iload (q := 74) X255.here hx (hb hby at_72) rfl rfl ?_
          refine g_iload (q := 76) X255.here hx (hb hby at_74) rfl rfl ?_
          refine g_callSP (q := 79) X255 hx hZ hown (hw _ (List.mem_of_getElem? (i := 45) rfl)) (hw _ (List.mem_of_getElem? (i := 46) rfl)) (hw _ (List.mem_of_getElem? (i := 47) rfl)) (hw _ (List.mem_of_getElem? (i := 48) rfl)) (by decide) (rm11 l Z a0 hw [] (2 : Int32) u0 u1 u2 h255 n0 Z258) (argsL := [.int (2 : Int32), .int u0, .int u1, .int u2]) (rest := [.int (2 : Int32), .ref o1]) pd_7 rfl rfl rfl (hb hby at_76) rfl (by rw [hml]; rfl) e255 (by decide) (W := 2) rfl (by decide) rfl rfl (by decide) (by decide) ?_
          intro T260 X260 e260
          refine g_istore_ (q := 80) (i := 2) (v := (own_el (2 : Int32) u0 u1 u2)) X260 hx hZ e260 A255 rfl (by show 2 < 7; decide) (hb hby at_79) rfl ?_
          intro T261 h261 X261 e261 W261 A261
          replace A261 : IA Z h261 o1 ([(own_el (0 : Int32) u0 u1 u2), (own_el (1 : Int32) u0 u1 u2), (own_el (2 : Int32) u0 u1 u2), (0 : Int32), (0 : Int32), (0 : Int32), (0 : Int32)] : List Int32) := A261
          have N263 := Fr.snoc X261 N257 g2
          have Z264 : n0 ≤ h261.size := Nat.le_trans Z258 (Nat.le_of_eq W261.size.symm)
          refine g_iload (q := 82) X261.here hx (hb hby at_80) rfl rfl ?_
          refine g_iconst (q := 83) (v := (3 : Int32)) X261.here hx (hb hby at_82) rfl rfl ?_
          refine g_icmp_le (q := 99) (q0 := 86) X261.here hx (hb hby at_83) (by decide) (by decide) rfl ?_ ?_
          · intro c265
            exfalso; rw [hq] at c265; exact absurd c265 (by decide)
          · intro c265
            refine g_aload (q := 88) X261.here hx (hb hby at_86) rfl rfl rfl ?_
            refine g_iconst (q := 89) (v := (3 : Int32)) X261.here hx (hb hby at_88) rfl rfl ?_
            refine g_iconst (q := 90) (v := (3 : Int32)) X261.here hx (hb hby at_89) rfl rfl ?_
            refine g_iloadN (q := 91) X261.here hx (hb hby at_90) rfl rfl ?_
            refine g_iload (q := 93) X261.here hx (hb hby at_91) rfl rfl ?_
            refine g_iload (q := 95) X261.here hx (hb hby at_93) rfl rfl ?_
            refine g_callSP (q := 98) X261 hx hZ hown (hw _ (List.mem_of_getElem? (i := 45) rfl)) (hw _ (List.mem_of_getElem? (i := 46) rfl)) (hw _ (List.mem_of_getElem? (i := 47) rfl)) (hw _ (List.mem_of_getElem? (i := 48) rfl)) (by decide) (rm11 l Z a0 hw [] (3 : Int32) u0 u1 u2 h261 n0 Z264) (argsL := [.int (3 : Int32), .int u0, .int u1, .int u2]) (rest := [.int (3 : Int32), .ref o1]) pd_7 rfl rfl rfl (hb hby at_95) rfl (by rw [hml]; rfl) e261 (by decide) (W := 2) rfl (by decide) rfl rfl (by decide) (by decide) ?_
            intro T266 X266 e266
            refine g_istore_ (q := 99) (i := 3) (v := (own_el (3 : Int32) u0 u1 u2)) X266 hx hZ e266 A261 rfl (by show 3 < 7; decide) (hb hby at_98) rfl ?_
            intro T267 h267 X267 e267 W267 A267
            replace A267 : IA Z h267 o1 ([(own_el (0 : Int32) u0 u1 u2), (own_el (1 : Int32) u0 u1 u2), (own_el (2 : Int32) u0 u1 u2), (own_el (3 : Int32) u0 u1 u2), (0 : Int32), (0 : Int32), (0 : Int32)] : List Int32) := A267
            have N269 := Fr.snoc X267 N263 g2
            have Z270 : n0 ≤ h267.size := Nat.le_trans Z264 (Nat.le_of_eq W267.size.symm)
            refine g_iload (q := 101) X267.here hx (hb hby at_99) rfl rfl ?_
            refine g_iconst (q := 102) (v := (4 : Int32)) X267.here hx (hb hby at_101) rfl rfl ?_
            refine g_icmp_le (q := 118) (q0 := 105) X267.here hx (hb hby at_102) (by decide) (by decide) rfl ?_ ?_
            · intro c271
              exfalso; rw [hq] at c271; exact absurd c271 (by decide)
            · intro c271
              refine g_aload (q := 107) X267.here hx (hb hby at_105) rfl rfl rfl ?_
              refine g_iconst (q := 108) (v := (4 : Int32)) X267.here hx (hb hby at_107) rfl rfl ?_
              refine g_iconst (q := 109) (v := (4 : Int32)) X267.here hx (hb hby at_108) rfl rfl ?_
              refine g_iloadN (q := 110) X267.here hx (hb hby at_109) rfl rfl ?_
              refine g_iload (q := 112) X267.here hx (hb hby at_110) rfl rfl ?_
              refine g_iload (q := 114) X267.here hx (hb hby at_112) rfl rfl ?_
              refine g_callSP (q := 117) X267 hx hZ hown (hw _ (List.mem_of_getElem? (i := 45) rfl)) (hw _ (List.mem_of_getElem? (i := 46) rfl)) (hw _ (List.mem_of_getElem? (i := 47) rfl)) (hw _ (List.mem_of_getElem? (i := 48) rfl)) (by decide) (rm11 l Z a0 hw [] (4 : Int32) u0 u1 u2 h267 n0 Z270) (argsL := [.int (4 : Int32), .int u0, .int u1, .int u2]) (rest := [.int (4 : Int32), .ref o1]) pd_7 rfl rfl rfl (hb hby at_114) rfl (by rw [hml]; rfl) e267 (by decide) (W := 2) rfl (by decide) rfl rfl (by decide) (by decide) ?_
              intro T272 X272 e272
              refine g_istore_ (q := 118) (i := 4) (v := (own_el (4 : Int32) u0 u1 u2)) X272 hx hZ e272 A267 rfl (by show 4 < 7; decide) (hb hby at_117) rfl ?_
              intro T273 h273 X273 e273 W273 A273
              replace A273 : IA Z h273 o1 ([(own_el (0 : Int32) u0 u1 u2), (own_el (1 : Int32) u0 u1 u2), (own_el (2 : Int32) u0 u1 u2), (own_el (3 : Int32) u0 u1 u2), (own_el (4 : Int32) u0 u1 u2), (0 : Int32), (0 : Int32)] : List Int32) := A273
              have N275 := Fr.snoc X273 N269 g2
              have Z276 : n0 ≤ h273.size := Nat.le_trans Z270 (Nat.le_of_eq W273.size.symm)
              refine g_iload (q := 120) X273.here hx (hb hby at_118) rfl rfl ?_
              refine g_iconst (q := 121) (v := (5 : Int32)) X273.here hx (hb hby at_120) rfl rfl ?_
              refine g_icmp_le (q := 137) (q0 := 124) X273.here hx (hb hby at_121) (by decide) (by decide) rfl ?_ ?_
              · intro c277
                exfalso; rw [hq] at c277; exact absurd c277 (by decide)
              · intro c277
                refine g_aload (q := 126) X273.here hx (hb hby at_124) rfl rfl rfl ?_
                refine g_iconst (q := 127) (v := (5 : Int32)) X273.here hx (hb hby at_126) rfl rfl ?_
                refine g_iconst (q := 128) (v := (5 : Int32)) X273.here hx (hb hby at_127) rfl rfl ?_
                refine g_iloadN (q := 129) X273.here hx (hb hby at_128) rfl rfl ?_
                refine g_iload (q := 131) X273.here hx (hb hby at_129) rfl rfl ?_
                refine g_iload (q := 133) X273.here hx (hb hby at_131) rfl rfl ?_
                refine g_callSP (q := 136) X273 hx hZ hown (hw _ (List.mem_of_getElem? (i := 45) rfl)) (hw _ (List.mem_of_getElem? (i := 46) rfl)) (hw _ (List.mem_of_getElem? (i := 47) rfl)) (hw _ (List.mem_of_getElem? (i := 48) rfl)) (by decide) (rm11 l Z a0 hw [] (5 : Int32) u0 u1 u2 h273 n0 Z276) (argsL := [.int (5 : Int32), .int u0, .int u1, .int u2]) (rest := [.int (5 : Int32), .ref o1]) pd_7 rfl rfl rfl (hb hby at_133) rfl (by rw [hml]; rfl) e273 (by decide) (W := 2) rfl (by decide) rfl rfl (by decide) (by decide) ?_
                intro T278 X278 e278
                refine g_istore_ (q := 137) (i := 5) (v := (own_el (5 : Int32) u0 u1 u2)) X278 hx hZ e278 A273 rfl (by show 5 < 7; decide) (hb hby at_136) rfl ?_
                intro T279 h279 X279 e279 W279 A279
                replace A279 : IA Z h279 o1 ([(own_el (0 : Int32) u0 u1 u2), (own_el (1 : Int32) u0 u1 u2), (own_el (2 : Int32) u0 u1 u2), (own_el (3 : Int32) u0 u1 u2), (own_el (4 : Int32) u0 u1 u2), (own_el (5 : Int32) u0 u1 u2), (0 : Int32)] : List Int32) := A279
                have N281 := Fr.snoc X279 N275 g2
                have Z282 : n0 ≤ h279.size := Nat.le_trans Z276 (Nat.le_of_eq W279.size.symm)
                refine g_iload (q := 139) X279.here hx (hb hby at_137) rfl rfl ?_
                refine g_bipush (q := 141) (v := (6 : Int32)) X279.here hx (hb hby at_139) rfl rfl ?_
                refine g_icmp_le (q := 159) (q0 := 144) X279.here hx (hb hby at_141) (by decide) (by decide) rfl ?_ ?_
                · intro c283
                  exfalso; rw [hq] at c283; exact absurd c283 (by decide)
                · intro c283
                  refine g_aload (q := 146) X279.here hx (hb hby at_144) rfl rfl rfl ?_
                  refine g_bipush (q := 148) (v := (6 : Int32)) X279.here hx (hb hby at_146) rfl rfl ?_
                  refine g_bipush (q := 150) (v := (6 : Int32)) X279.here hx (hb hby at_148) rfl rfl ?_
                  refine g_iloadN (q := 151) X279.here hx (hb hby at_150) rfl rfl ?_
                  refine g_iload (q := 153) X279.here hx (hb hby at_151) rfl rfl ?_
                  refine g_iload (q := 155) X279.here hx (hb hby at_153) rfl rfl ?_
                  refine g_callSP (q := 158) X279 hx hZ hown (hw _ (List.mem_of_getElem? (i := 45) rfl)) (hw _ (List.mem_of_getElem? (i := 46) rfl)) (hw _ (List.mem_of_getElem? (i := 47) rfl)) (hw _ (List.mem_of_getElem? (i := 48) rfl)) (by decide) (rm11 l Z a0 hw [] (6 : Int32) u0 u1 u2 h279 n0 Z282) (argsL := [.int (6 : Int32), .int u0, .int u1, .int u2]) (rest := [.int (6 : Int32), .ref o1]) pd_7 rfl rfl rfl (hb hby at_155) rfl (by rw [hml]; rfl) e279 (by decide) (W := 2) rfl (by decide) rfl rfl (by decide) (by decide) ?_
                  intro T284 X284 e284
                  refine g_istore_ (q := 159) (i := 6) (v := (own_el (6 : Int32) u0 u1 u2)) X284 hx hZ e284 A279 rfl (by show 6 < 7; decide) (hb hby at_158) rfl ?_
                  intro T285 h285 X285 e285 W285 A285
                  replace A285 : IA Z h285 o1 ([(own_el (0 : Int32) u0 u1 u2), (own_el (1 : Int32) u0 u1 u2), (own_el (2 : Int32) u0 u1 u2), (own_el (3 : Int32) u0 u1 u2), (own_el (4 : Int32) u0 u1 u2), (own_el (5 : Int32) u0 u1 u2), (own_el (6 : Int32) u0 u1 u2)] : List Int32) := A285
                  have N287 := Fr.snoc X285 N281 g2
                  have Z288 : n0 ≤ h285.size := Nat.le_trans Z282 (Nat.le_of_eq W285.size.symm)
                  exact LP159_b4 _ h285 _ ([(own_el (0 : Int32) u0 u1 u2), (own_el (1 : Int32) u0 u1 u2), (own_el (2 : Int32) u0 u1 u2), (own_el (3 : Int32) u0 u1 u2), (own_el (4 : Int32) u0 u1 u2), (own_el (5 : Int32) u0 u1 u2), (own_el (6 : Int32) u0 u1 u2)] : List Int32) X285 e285 N287 Z288 A285 (by rw [hq]; rfl) (by intro i hi; rcases i with _ | _ | _ | _ | _ | _ | _ | i; all_goals (first | rfl | (exfalso; simp at hi; done) | (exfalso; simp at hi; omega)))
set_option maxRecDepth 65536 in
set_option maxHeartbeats 40000000 in
theorem comes_1 {Post : Tables → Env → Array Value → State → Outcome → State → Prop} (hpost : ∀ tb e args s v u, (limb_1_1.after args s (.returned v) u = true ∧ limb_1_2.after args s (.returned v) u = true ∧ True) → FrameEnd s (.returned v) u (Jvm.fieldLocs frame_1_writes args s ++ Jvm.arrayLocs frame_1_arrays args s ++ Jvm.staticLocs frame_1_statics s) 16 256 → Post tb e args s (.returned v) u) :
    ArmFor flags0 classFile x code maxLocals ret World_1 tables_1 room_1 Calls_1 rest_1 Pre_1 Post := by
  intro l hfl _ _ p e ha hc hk s m args below hf hA hF happ hP
  obtain ⟨hcalls, hrest, hpre⟩ := hP
  obtain ⟨-, -, -, hnamed, -, -, -, hat⟩ := (Spec.applies_iff hf).mp happ
  obtain ⟨hg, hn⟩ := and_e (Cond.before_iff.mp (show (Jvm.Cond.and given_1 narrow_1).before args s = true from hpre))
  obtain ⟨g1, g2⟩ := and_e hg
  obtain ⟨g3, g4⟩ := and_e g2
  obtain ⟨g5, g6⟩ := and_e g4
  obtain ⟨g7, g8⟩ := and_e g6
  obtain ⟨g9, g10⟩ := and_e g8
  obtain ⟨g11, g12⟩ := and_e g10
  obtain ⟨w0, w1, w2, w3, w4, w5, rfl⟩ : ∃ w0 w1 w2 w3 w4 w5 : Value, args = #[w0, w1, w2, w3, w4, w5] := by
    have hs : args.size = 6 := by simpa [Cond.value, given_1] using g1
    obtain ⟨L⟩ := args
    match L, hs with
    | [w0, w1, w2, w3, w4, w5], _ => exact ⟨w0, w1, w2, w3, w4, w5, rfl⟩
  have hw := fun d (hd : d ∈ tables_1) => atoms_spec (ws := Jvm.Cond.code x code maxLocals ret :: tables_1) hat d (List.mem_cons_of_mem _ hd)
  obtain ⟨i0, ei0⟩ := is_v g3
  obtain rfl : w0 = (.int i0) := Option.some.inj ei0
  obtain ⟨i1, ei1⟩ := is_v g5
  obtain rfl : w1 = (.int i1) := Option.some.inj ei1
  obtain ⟨i2, ei2⟩ := is_v g7
  obtain rfl : w2 = (.int i2) := Option.some.inj ei2
  obtain ⟨i3, ei3⟩ := is_v g9
  obtain rfl : w3 = (.int i3) := Option.some.inj ei3
  obtain ⟨i4, ei4⟩ := is_v g11
  obtain rfl : w4 = (.int i4) := Option.some.inj ei4
  obtain ⟨i5, ei5⟩ := is_v g12
  obtain rfl : w5 = (.int i5) := Option.some.inj ei5
  obtain ⟨n, o, h1, h2, h3, _, L, rfl, ⟨rfl, N⟩, hq⟩ := rm0 l s _ hw tables_1 i0 i1 i2 i3 i4 i5 s.heap s.heap.size (Nat.le_refl _) p e ha hc hk s m _ below hf ((Spec.applies_iff_loose hf).mp happ).1 ⟨rfl, State.Warmed39.refl s, rfl⟩ trivial
  refine ⟨n, _, h1, h2, h3, hpost _ _ _ _ _ _ ⟨Cond.after_iff.mpr rfl, Cond.after_iff.mpr (eq_i res_at (Term.int_eval (1)) rfl), trivial⟩ ⟨hq.1, hq.2.1, (hq.2.2.sift fun y hy => Or.inr (N y hy)).mono (by decide) (by decide)⟩⟩
theorem main_1_1 : Claimed_1_1 := comes_1 fun _ _ _ _ _ _ h hF => ⟨h.1, hF⟩
theorem main_1_2 : Claimed_1_2 := comes_1 fun _ _ _ _ _ _ h hF => ⟨h.2.1, hF⟩
end Jvm.Pilot.@@N@@
namespace Jvm.Pilot.@@N@@
open Jvm Jvm.ClassFile Sem Op Lib Jvm.Free Jvm.Stand Jvm.Pilot.@@N@@.Jvm.D
/-! MADE BY PROGRAM (witnessworld.py) out of the Statement's table words and the real class files: 18 classes; the members and pool entries that the words name. The judged class is class 1, her method 2. -/
namespace start1
open Jvm.ClassFile
def u (s : String) : CpInfo := .utf8 (stringToUtf16 s)
/-- a pool by its gaps: so many unusable entries, then the entry; so many at the end -/
def gap : Nat → List CpInfo → List CpInfo
  | 0, r => r
  | n + 1, r => .unusable :: gap n r
def poolList (es : List (Nat × CpInfo)) (last : Nat) : List CpInfo := es.foldr (fun e r => gap e.1 (e.2 :: r)) (gap last [])
def pool (es : List (Nat × CpInfo)) (last : Nat) : Array CpInfo := ⟨poolList es last⟩
def fileOf (pool : Array CpInfo) (this : Nat) (attrs : Array Attribute := #[]) (ms : Array MethodInfo := #[]) (fl : Nat := 33) (sup : Nat := 0) (ifs : Array Nat := #[]) (fds : Array FieldInfo := #[]) : ClassFile where
  minorVersion := 0
  majorVersion := 65
  constantPool := pool
  accessFlags := fl
  thisClass := this
  superClass := sup
  interfaces := ifs
  fields := fds
  methods := ms
  attributes := attrs
def plain (name : String) (sup : Option ClassId) : Class where
  name := name
  kind := .ordinary
  loader := none
  accessFlags := 33
  super := sup
  interfaces := #[]
  cf := none
  fields := #[]
  methods := #[]
  instanceTypes := #[]
  staticTypes := #[]
  resolved := #[]
  callSites := []
  init := .initialized
  statics := none
  mirror := none

def pool0 : Array CpInfo := pool [(5, u "<init>"), (0, u "()V"), (1, .class_ 10), (1, u "java/lang/Object")] 113

def k0m0 : Method := { name := "<init>", desc := "()V", sig := { parameters := [], returnType := none }, accessFlags := 1, code := none }
/-- java/lang/Object -/
def k0 : Class := { plain "java/lang/Object" none with
  accessFlags := 33
  interfaces := #[]
  cf := some (fileOf pool0 8 #[] #[{ accessFlags := 1, nameIndex := 5, descriptorIndex := 6, attributes := #[] }] 33 0 #[] #[])
  fields := #[]
  methods := #[k0m0]
  instanceTypes := #[]
  staticTypes := #[]
  resolved := Array.replicate 124 none
  statics := none }

def pool1 : Array CpInfo := pool [(2, .class_ 4), (1, u "java/lang/Object"), (0, u "<init>"), (0, u "()V"), (0, .methodref 8 9), (0, .class_ 10), (0, .nameAndType 11 12), (0, u "com/example/vestline/vestline/number/GrowthWithRoomPinLaw"), (0, u "elem"), (0, u "(IIII)I"), (0, .methodref 14 15), (0, .class_ 16), (0, .nameAndType 17 18), (0, u "com/example/vestline/vestline/number/Growth"), (0, u "withRoom"), (0, u "([II)[I"), (0, .methodref 20 21), (0, .class_ 22), (0, .nameAndType 23 24), (0, u "java/lang/Math"), (0, u "max"), (0, u "(II)I"), (3, u "law"), (0, u "(IIIIII)Z")] 4

def k1m0 : Method := { name := "<init>", desc := "()V", sig := { parameters := [], returnType := none }, accessFlags := 1, code := none }
def k1c1 : Code := { maxStack := 2, maxLocals := 6, code := method_2_code, exceptionTable := #[], attributes := #[] }
def k1m1 : Method := { name := "elem", desc := "(IIII)I", sig := { parameters := [.int, .int, .int, .int], returnType := some .int }, accessFlags := 10, code := some k1c1 }
def k1c2 : Code := { maxStack := 6, maxLocals := 16, code := code, exceptionTable := #[], attributes := #[] }
def k1m2 : Method := { name := "law", desc := "(IIIIII)Z", sig := { parameters := [.int, .int, .int, .int, .int, .int], returnType := some .boolean }, accessFlags := 9, code := some k1c2 }
/-- com/example/vestline/vestline/number/GrowthWithRoomPinLaw -/
def k1 : Class := { plain "com/example/vestline/vestline/number/GrowthWithRoomPinLaw" (some 0) with
  accessFlags := 49
  interfaces := #[]
  cf := some (fileOf pool1 8 #[] #[{ accessFlags := 1, nameIndex := 5, descriptorIndex := 6, attributes := #[] }, { accessFlags := 10, nameIndex := 11, descriptorIndex := 12, attributes := #[] }, { accessFlags := 9, nameIndex := 28, descriptorIndex := 29, attributes := #[] }] 49 2 #[] #[])
  fields := #[]
  methods := #[k1m0, k1m1, k1m2]
  instanceTypes := #[]
  staticTypes := #[]
  resolved := Array.replicate 34 none
  statics := none }

def pool2 : Array CpInfo := pool [(4, .class_ 6), (1, u "java/lang/Object"), (0, u "<init>"), (0, u "()V"), (0, .class_ 10), (0, u "com/example/vestline/vestline/number/Growth"), (0, .long 2147483639), (10, .long 16), (1, .long 2), (1, .methodref 27 28), (0, .class_ 29), (0, .nameAndType 30 31), (0, u "java/lang/Math"), (0, u "max"), (0, u "(JJ)J"), (0, .methodref 33 34), (0, .class_ 35), (0, .nameAndType 36 37), (0, u "java/lang/Long"), (0, u "highestOneBit"), (0, u "(J)J"), (0, .methodref 27 39), (0, .nameAndType 40 31), (0, u "min"), (0, .methodref 9 42), (0, .nameAndType 43 44), (0, u "grown"), (0, u "(IJI)I"), (0, .methodref 46 47), (0, .class_ 48), (0, .nameAndType 49 50), (0, u "java/util/Arrays"), (0, u "copyOf"), (0, u "([II)[I"), (6, u "HEADER"), (0, u "J"), (1, u "MOST_LENGTH"), (0, u "I"), (1, u "REFERENCE"), (4, u "withRoom")] 25

def k2m0 : Method := { name := "<init>", desc := "()V", sig := { parameters := [], returnType := none }, accessFlags := 2, code := none }
def k2c1 : Code := { maxStack := 8, maxLocals := 8, code := prog_67_method_2_code, exceptionTable := #[], attributes := #[] }
def k2m1 : Method := { name := "grown", desc := "(IJI)I", sig := { parameters := [.int, .long, .int], returnType := some .int }, accessFlags := 9, code := some k2c1 }
def k2c2 : Code := { maxStack := 6, maxLocals := 2, code := prog_67_method_3_code, exceptionTable := #[], attributes := #[] }
def k2m2 : Method := { name := "withRoom", desc := "([II)[I", sig := { parameters := [(.array .int), .int], returnType := some (.array .int) }, accessFlags := 9, code := some k2c2 }
/-- com/example/vestline/vestline/number/Growth -/
def k2 : Class := { plain "com/example/vestline/vestline/number/Growth" (some 0) with
  accessFlags := 49
  interfaces := #[]
  cf := some (fileOf pool2 9 #[] #[{ accessFlags := 2, nameIndex := 7, descriptorIndex := 8, attributes := #[] }, { accessFlags := 9, nameIndex := 43, descriptorIndex := 44, attributes := #[] }, { accessFlags := 9, nameIndex := 68, descriptorIndex := 50, attributes := #[] }] 49 4 #[] #[{ accessFlags := 26, nameIndex := 57, descriptorIndex := 58, attributes := #[] }, { accessFlags := 26, nameIndex := 60, descriptorIndex := 61, attributes := #[] }, { accessFlags := 26, nameIndex := 63, descriptorIndex := 61, attributes := #[] }])
  fields := #[{ name := "HEADER", type := .long, accessFlags := 26, slot := 0, constantValue := 0 }, { name := "MOST_LENGTH", type := .int, accessFlags := 26, slot := 1, constantValue := 0 }, { name := "REFERENCE", type := .int, accessFlags := 26, slot := 2, constantValue := 0 }]
  methods := #[k2m0, k2m1, k2m2]
  instanceTypes := #[]
  staticTypes := #[.long, .int, .int]
  resolved := Array.replicate 94 none
  statics := none }

def pool3 : Array CpInfo := pool [(1, .class_ 2), (0, u "java/lang/Math"), (1, .class_ 6), (1, u "java/lang/Object"), (0, u "<init>"), (0, u "()V"), (89, .class_ 100), (1, u "java/lang/Math$RandomNumberGeneratorHolder"), (20, u "(JJ)J"), (50, u "negativeZeroFloatBits"), (0, u "J"), (2, u "negativeZeroDoubleBits"), (21, u "max"), (2, u "min"), (43, u "$assertionsDisabled"), (0, u "Z"), (88, u "(II)I"), (2, u "twoToTheDoubleScaleDown"), (0, u "D"), (4, u "twoToTheDoubleScaleUp"), (9, u "E"), (3, u "PI"), (2, u "TAU"), (2, u "DEGREES_TO_RADIANS"), (0, u "RADIANS_TO_DEGREES")] 94

def k3m0 : Method := { name := "<init>", desc := "()V", sig := { parameters := [], returnType := none }, accessFlags := 2, code := none }
def k3c1 : Code := { maxStack := 2, maxLocals := 2, code := jdk_29_method_65_code, exceptionTable := #[], attributes := #[] }
def k3m1 : Method := { name := "max", desc := "(II)I", sig := { parameters := [.int, .int], returnType := some .int }, accessFlags := 9, code := some k3c1 }
def k3c2 : Code := { maxStack := 4, maxLocals := 4, code := jdk_29_method_66_code, exceptionTable := #[], attributes := #[] }
def k3m2 : Method := { name := "max", desc := "(JJ)J", sig := { parameters := [.long, .long], returnType := some .long }, accessFlags := 9, code := some k3c2 }
def k3c3 : Code := { maxStack := 2, maxLocals := 2, code := jdk_29_method_69_code, exceptionTable := #[], attributes := #[] }
def k3m3 : Method := { name := "min", desc := "(II)I", sig := { parameters := [.int, .int], returnType := some .int }, accessFlags := 9, code := some k3c3 }
def k3c4 : Code := { maxStack := 4, maxLocals := 4, code := jdk_29_method_70_code, exceptionTable := #[], attributes := #[] }
def k3m4 : Method := { name := "min", desc := "(JJ)J", sig := { parameters := [.long, .long], returnType := some .long }, accessFlags := 9, code := some k3c4 }
/-- java/lang/Math -/
def k3 : Class := { plain "java/lang/Math" (some 0) with
  accessFlags := 49
  interfaces := #[]
  cf := some (fileOf pool3 1 #[.nestMembers #[98]] #[{ accessFlags := 2, nameIndex := 7, descriptorIndex := 8, attributes := #[] }, { accessFlags := 9, nameIndex := 198, descriptorIndex := 335, attributes := #[] }, { accessFlags := 9, nameIndex := 198, descriptorIndex := 121, attributes := #[] }, { accessFlags := 9, nameIndex := 201, descriptorIndex := 335, attributes := #[] }, { accessFlags := 9, nameIndex := 201, descriptorIndex := 121, attributes := #[] }] 49 4 #[] #[{ accessFlags := 25, nameIndex := 354, descriptorIndex := 339, attributes := #[] }, { accessFlags := 25, nameIndex := 358, descriptorIndex := 339, attributes := #[] }, { accessFlags := 25, nameIndex := 361, descriptorIndex := 339, attributes := #[] }, { accessFlags := 26, nameIndex := 364, descriptorIndex := 339, attributes := #[] }, { accessFlags := 26, nameIndex := 365, descriptorIndex := 339, attributes := #[] }, { accessFlags := 26, nameIndex := 172, descriptorIndex := 173, attributes := #[] }, { accessFlags := 26, nameIndex := 176, descriptorIndex := 173, attributes := #[] }, { accessFlags := 8, nameIndex := 344, descriptorIndex := 339, attributes := #[] }, { accessFlags := 8, nameIndex := 338, descriptorIndex := 339, attributes := #[] }, { accessFlags := 4120, nameIndex := 245, descriptorIndex := 246, attributes := #[] }])
  fields := #[{ name := "E", type := .double, accessFlags := 25, slot := 0, constantValue := 0 }, { name := "PI", type := .double, accessFlags := 25, slot := 1, constantValue := 0 }, { name := "TAU", type := .double, accessFlags := 25, slot := 2, constantValue := 0 }, { name := "DEGREES_TO_RADIANS", type := .double, accessFlags := 26, slot := 3, constantValue := 0 }, { name := "RADIANS_TO_DEGREES", type := .double, accessFlags := 26, slot := 4, constantValue := 0 }, { name := "negativeZeroFloatBits", type := .long, accessFlags := 26, slot := 5, constantValue := 0 }, { name := "negativeZeroDoubleBits", type := .long, accessFlags := 26, slot := 6, constantValue := 0 }, { name := "twoToTheDoubleScaleUp", type := .double, accessFlags := 8, slot := 7, constantValue := 0 }, { name := "twoToTheDoubleScaleDown", type := .double, accessFlags := 8, slot := 8, constantValue := 0 }, { name := "$assertionsDisabled", type := .boolean, accessFlags := 4120, slot := 9, constantValue := 0 }]
  methods := #[k3m0, k3m1, k3m2, k3m3, k3m4]
  instanceTypes := #[]
  staticTypes := #[.double, .double, .double, .double, .double, .long, .long, .double, .double, .boolean]
  resolved := Array.replicate 460 none
  statics := none }

def pool4 : Array CpInfo := pool [(1, .class_ 2), (0, u "java/io/Serializable"), (0, .class_ 4), (0, u "java/lang/Object")] 2

/-- java/io/Serializable -/
def k4 : Class := { plain "java/io/Serializable" (some 0) with
  accessFlags := 1537
  interfaces := #[]
  cf := some (fileOf pool4 1 #[] #[] 1537 3 #[] #[])
  fields := #[]
  methods := #[]
  instanceTypes := #[]
  staticTypes := #[]
  resolved := Array.replicate 7 none
  statics := none }

def pool5 : Array CpInfo := pool [(2, .class_ 4), (1, u "java/lang/Object"), (0, u "<init>"), (0, u "()V"), (1, .class_ 10), (1, u "java/lang/Number"), (2, .class_ 14), (0, u "java/io/Serializable"), (0, u "serialVersionUID"), (0, u "J")] 20

def k5m0 : Method := { name := "<init>", desc := "()V", sig := { parameters := [], returnType := none }, accessFlags := 1, code := none }
/-- java/lang/Number -/
def k5 : Class := { plain "java/lang/Number" (some 0) with
  accessFlags := 1057
  interfaces := #[4]
  cf := some (fileOf pool5 8 #[] #[{ accessFlags := 1, nameIndex := 5, descriptorIndex := 6, attributes := #[] }] 1057 2 #[13] #[{ accessFlags := 26, nameIndex := 15, descriptorIndex := 16, attributes := #[] }])
  fields := #[{ name := "serialVersionUID", type := .long, accessFlags := 26, slot := 0, constantValue := 0 }]
  methods := #[k5m0]
  instanceTypes := #[]
  staticTypes := #[.long]
  resolved := Array.replicate 37 none
  statics := none }

def pool6 : Array CpInfo := pool [(1, .class_ 2), (0, u "java/lang/Comparable"), (0, .class_ 4), (0, u "java/lang/Object")] 7

/-- java/lang/Comparable -/
def k6 : Class := { plain "java/lang/Comparable" (some 0) with
  accessFlags := 1537
  interfaces := #[]
  cf := some (fileOf pool6 1 #[] #[] 1537 3 #[] #[])
  fields := #[]
  methods := #[]
  instanceTypes := #[]
  staticTypes := #[]
  resolved := Array.replicate 12 none
  statics := none }

def pool7 : Array CpInfo := pool [(1, .class_ 2), (0, u "java/lang/constant/Constable"), (0, .class_ 4), (0, u "java/lang/Object")] 6

/-- java/lang/constant/Constable -/
def k7 : Class := { plain "java/lang/constant/Constable" (some 0) with
  accessFlags := 1537
  interfaces := #[]
  cf := some (fileOf pool7 1 #[] #[] 1537 3 #[] #[])
  fields := #[]
  methods := #[]
  instanceTypes := #[]
  staticTypes := #[]
  resolved := Array.replicate 11 none
  statics := none }

def pool8 : Array CpInfo := pool [(1, .class_ 2), (0, u "java/lang/constant/ConstantDesc"), (0, .class_ 4), (0, u "java/lang/Object")] 32

/-- java/lang/constant/ConstantDesc -/
def k8 : Class := { plain "java/lang/constant/ConstantDesc" (some 0) with
  accessFlags := 1537
  interfaces := #[]
  cf := some (fileOf pool8 1 #[] #[] 1537 3 #[] #[])
  fields := #[]
  methods := #[]
  instanceTypes := #[]
  staticTypes := #[]
  resolved := Array.replicate 37 none
  statics := none }

def pool9 : Array CpInfo := pool [(1, .class_ 2), (0, u "java/lang/Long"), (15, .class_ 20), (1, u "java/lang/Integer"), (77, .methodref 1 99), (0, .nameAndType 100 101), (0, u "numberOfLeadingZeros"), (0, u "(J)I"), (66, .long 9223372036854775808), (66, .class_ 237), (1, u "java/lang/Long$LongCache"), (33, .class_ 272), (0, u "java/lang/Number"), (2, u "value"), (0, u "J"), (31, .methodref 18 309), (0, .nameAndType 100 310), (0, u "(I)I"), (12, u "(J)J"), (37, u "TYPE"), (0, u "Ljava/lang/Class;"), (0, .class_ 364), (0, u "java/lang/Comparable"), (0, .class_ 366), (0, u "java/lang/constant/Constable"), (0, .class_ 368), (0, u "java/lang/constant/ConstantDesc"), (0, u "MIN_VALUE"), (1, u "MAX_VALUE"), (4, u "SIZE"), (0, u "I"), (1, u "BYTES"), (1, u "serialVersionUID"), (92, u "highestOneBit")] 49

def k9c0 : Code := { maxStack := 6, maxLocals := 2, code := jdk_35_method_46_code, exceptionTable := #[], attributes := #[] }
def k9m0 : Method := { name := "highestOneBit", desc := "(J)J", sig := { parameters := [.long], returnType := some .long }, accessFlags := 9, code := some k9c0 }
def k9c1 : Code := { maxStack := 3, maxLocals := 3, code := jdk_35_method_48_code, exceptionTable := #[], attributes := #[] }
def k9m1 : Method := { name := "numberOfLeadingZeros", desc := "(J)I", sig := { parameters := [.long], returnType := some .int }, accessFlags := 9, code := some k9c1 }
/-- java/lang/Long -/
def k9 : Class := { plain "java/lang/Long" (some 5) with
  accessFlags := 49
  interfaces := #[6, 7, 8]
  cf := some (fileOf pool9 1 #[.nestMembers #[235]] #[{ accessFlags := 9, nameIndex := 474, descriptorIndex := 323, attributes := #[] }, { accessFlags := 9, nameIndex := 100, descriptorIndex := 101, attributes := #[] }] 49 271 #[363, 365, 367] #[{ accessFlags := 25, nameIndex := 369, descriptorIndex := 276, attributes := #[] }, { accessFlags := 25, nameIndex := 371, descriptorIndex := 276, attributes := #[] }, { accessFlags := 25, nameIndex := 361, descriptorIndex := 362, attributes := #[] }, { accessFlags := 18, nameIndex := 275, descriptorIndex := 276, attributes := #[] }, { accessFlags := 25, nameIndex := 376, descriptorIndex := 377, attributes := #[] }, { accessFlags := 25, nameIndex := 379, descriptorIndex := 377, attributes := #[] }, { accessFlags := 26, nameIndex := 381, descriptorIndex := 276, attributes := #[] }])
  fields := #[{ name := "MIN_VALUE", type := .long, accessFlags := 25, slot := 0, constantValue := 0 }, { name := "MAX_VALUE", type := .long, accessFlags := 25, slot := 1, constantValue := 0 }, { name := "TYPE", type := (.object "java/lang/Class"), accessFlags := 25, slot := 2, constantValue := 0 }, { name := "value", type := .long, accessFlags := 18, slot := 0, constantValue := 0 }, { name := "SIZE", type := .int, accessFlags := 25, slot := 3, constantValue := 0 }, { name := "BYTES", type := .int, accessFlags := 25, slot := 4, constantValue := 0 }, { name := "serialVersionUID", type := .long, accessFlags := 26, slot := 5, constantValue := 0 }]
  methods := #[k9m0, k9m1]
  instanceTypes := #[.long]
  staticTypes := #[.long, .long, (.object "java/lang/Class"), .int, .int, .long]
  resolved := Array.replicate 524 none
  statics := none }

def pool10 : Array CpInfo := pool [(1, .class_ 2), (0, u "java/lang/Integer"), (16, u "digits"), (0, u "[C"), (32, u "numberOfLeadingZeros"), (0, u "(I)I"), (30, u "DigitOnes"), (0, u "[B"), (2, u "DigitTens"), (99, .class_ 190), (0, u "java/lang/Integer$IntegerCache"), (3, u "I"), (8, .class_ 204), (0, u "java/lang/Number"), (2, u "value"), (56, .integer 65536), (37, u "TYPE"), (0, u "Ljava/lang/Class;"), (0, .class_ 305), (0, u "java/lang/Comparable"), (0, .class_ 307), (0, u "java/lang/constant/Constable"), (0, .class_ 309), (0, u "java/lang/constant/ConstantDesc"), (0, u "MIN_VALUE"), (1, u "MAX_VALUE"), (3, u "SIZE"), (1, u "BYTES"), (1, u "serialVersionUID"), (0, u "J")] 131

def k10c0 : Code := { maxStack := 3, maxLocals := 2, code := jdk_33_method_47_code, exceptionTable := #[], attributes := #[] }
def k10m0 : Method := { name := "numberOfLeadingZeros", desc := "(I)I", sig := { parameters := [.int], returnType := some .int }, accessFlags := 9, code := some k10c0 }
/-- java/lang/Integer -/
def k10 : Class := { plain "java/lang/Integer" (some 5) with
  accessFlags := 49
  interfaces := #[6, 7, 8]
  cf := some (fileOf pool10 1 #[.nestMembers #[189]] #[{ accessFlags := 9, nameIndex := 53, descriptorIndex := 54, attributes := #[] }] 49 203 #[304, 306, 308] #[{ accessFlags := 25, nameIndex := 310, descriptorIndex := 194, attributes := #[] }, { accessFlags := 25, nameIndex := 312, descriptorIndex := 194, attributes := #[] }, { accessFlags := 25, nameIndex := 302, descriptorIndex := 303, attributes := #[] }, { accessFlags := 24, nameIndex := 19, descriptorIndex := 20, attributes := #[] }, { accessFlags := 24, nameIndex := 89, descriptorIndex := 86, attributes := #[] }, { accessFlags := 24, nameIndex := 85, descriptorIndex := 86, attributes := #[] }, { accessFlags := 18, nameIndex := 207, descriptorIndex := 194, attributes := #[] }, { accessFlags := 25, nameIndex := 316, descriptorIndex := 194, attributes := #[] }, { accessFlags := 25, nameIndex := 318, descriptorIndex := 194, attributes := #[] }, { accessFlags := 26, nameIndex := 320, descriptorIndex := 321, attributes := #[] }])
  fields := #[{ name := "MIN_VALUE", type := .int, accessFlags := 25, slot := 0, constantValue := 0 }, { name := "MAX_VALUE", type := .int, accessFlags := 25, slot := 1, constantValue := 0 }, { name := "TYPE", type := (.object "java/lang/Class"), accessFlags := 25, slot := 2, constantValue := 0 }, { name := "digits", type := (.array .char), accessFlags := 24, slot := 3, constantValue := 0 }, { name := "DigitTens", type := (.array .byte), accessFlags := 24, slot := 4, constantValue := 0 }, { name := "DigitOnes", type := (.array .byte), accessFlags := 24, slot := 5, constantValue := 0 }, { name := "value", type := .int, accessFlags := 18, slot := 0, constantValue := 0 }, { name := "SIZE", type := .int, accessFlags := 25, slot := 6, constantValue := 0 }, { name := "BYTES", type := .int, accessFlags := 25, slot := 7, constantValue := 0 }, { name := "serialVersionUID", type := .long, accessFlags := 26, slot := 8, constantValue := 0 }]
  methods := #[k10m0]
  instanceTypes := #[.int]
  staticTypes := #[.int, .int, (.object "java/lang/Class"), (.array .char), (.array .byte), (.array .byte), .int, .int, .long]
  resolved := Array.replicate 453 none
  statics := none }

def pool11 : Array CpInfo := pool [(2, .class_ 4), (1, u "java/lang/Object"), (0, u "<init>"), (0, u "()V"), (7, .class_ 16), (1, u "java/util/Arrays"), (57, .class_ 76), (1, u "java/util/Arrays$NaturalOrder"), (36, .class_ 115), (1, u "java/util/Arrays$LegacyMergeSort"), (1, u "Z"), (32, .methodref 151 152), (0, .class_ 153), (0, .nameAndType 154 155), (0, u "java/lang/System"), (0, u "arraycopy"), (0, u "(Ljava/lang/Object;ILjava/lang/Object;II)V"), (146, u "copyOf"), (1, .methodref 305 306), (0, .class_ 307), (0, .nameAndType 308 309), (0, u "java/lang/Math"), (0, u "min"), (0, u "(II)I"), (65, .class_ 376), (0, u "java/util/Arrays$ArrayList"), (68, u "$assertionsDisabled"), (269, u "MIN_ARRAY_SORT_GRAN"), (0, u "I"), (2, u "INSERTIONSORT_THRESHOLD"), (151, u "([II)[I"), (103, .class_ 976), (0, u "java/util/Arrays$ArrayItr")] 52

def k11m0 : Method := { name := "<init>", desc := "()V", sig := { parameters := [], returnType := none }, accessFlags := 2, code := none }
def k11c1 : Code := { maxStack := 6, maxLocals := 3, code := jdk_65_method_123_code, exceptionTable := #[], attributes := #[] }
def k11m1 : Method := { name := "copyOf", desc := "([II)[I", sig := { parameters := [(.array .int), .int], returnType := some (.array .int) }, accessFlags := 9, code := some k11c1 }
/-- java/util/Arrays -/
def k11 : Class := { plain "java/util/Arrays" (some 0) with
  accessFlags := 49
  interfaces := #[]
  cf := some (fileOf pool11 14 #[.nestMembers #[975, 375, 113, 74]] #[{ accessFlags := 2, nameIndex := 5, descriptorIndex := 6, attributes := #[] }, { accessFlags := 9, nameIndex := 302, descriptorIndex := 871, attributes := #[] }] 49 2 #[] #[{ accessFlags := 26, nameIndex := 715, descriptorIndex := 716, attributes := #[] }, { accessFlags := 26, nameIndex := 719, descriptorIndex := 716, attributes := #[] }, { accessFlags := 4120, nameIndex := 445, descriptorIndex := 117, attributes := #[] }])
  fields := #[{ name := "MIN_ARRAY_SORT_GRAN", type := .int, accessFlags := 26, slot := 0, constantValue := 0 }, { name := "INSERTIONSORT_THRESHOLD", type := .int, accessFlags := 26, slot := 1, constantValue := 0 }, { name := "$assertionsDisabled", type := .boolean, accessFlags := 4120, slot := 2, constantValue := 0 }]
  methods := #[k11m0, k11m1]
  instanceTypes := #[]
  staticTypes := #[.int, .int, .boolean]
  resolved := Array.replicate 1029 none
  statics := none }

def pool12 : Array CpInfo := pool [(2, .class_ 4), (1, u "java/lang/Object"), (0, u "<init>"), (0, u "()V"), (1, .class_ 10), (1, u "java/lang/System"), (0, u "allowSecurityManager"), (0, u "I"), (16, u "cons"), (0, u "Ljava/io/Console;"), (77, .class_ 110), (1, u "java/lang/System$CallersHolder"), (43, u "initialErrStream"), (0, u "Ljava/io/PrintStream;"), (19, u "security"), (0, u "Ljava/lang/SecurityManager;"), (31, .class_ 209), (0, u "java/lang/System$1"), (7, u "props"), (0, u "Ljava/util/Properties;"), (2, u "lineSeparator"), (0, u "Ljava/lang/String;"), (96, .class_ 321), (1, u "java/lang/System$LoggerFinder"), (5, .class_ 328), (0, u "java/lang/System$Logger"), (67, u "err"), (2, u "out"), (91, u "notSupportedJnuEncoding"), (15, u "in"), (17, u "initialIn"), (0, u "Ljava/io/InputStream;"), (35, u "bootLayer"), (0, u "Ljava/lang/ModuleLayer;"), (99, .class_ 664), (0, u "java/lang/System$2"), (9, u "NEVER"), (2, u "MAYBE"), (49, u "arraycopy"), (0, u "(Ljava/lang/Object;ILjava/lang/Object;II)V"), (72, .class_ 802), (0, u "java/lang/System$Logger$Level")] 31

def k12m0 : Method := { name := "<init>", desc := "()V", sig := { parameters := [], returnType := none }, accessFlags := 2, code := none }
def k12m1 : Method := { name := "arraycopy", desc := "(Ljava/lang/Object;ILjava/lang/Object;II)V", sig := { parameters := [(.object "java/lang/Object"), .int, (.object "java/lang/Object"), .int, .int], returnType := none }, accessFlags := 265, code := none }
/-- java/lang/System -/
def k12 : Class := { plain "java/lang/System" (some 0) with
  accessFlags := 49
  interfaces := #[]
  cf := some (fileOf pool12 8 #[.nestMembers #[319, 327, 801, 108, 663, 208]] #[{ accessFlags := 2, nameIndex := 5, descriptorIndex := 6, attributes := #[] }, { accessFlags := 265, nameIndex := 727, descriptorIndex := 728, attributes := #[] }] 49 2 #[] #[{ accessFlags := 25, nameIndex := 507, descriptorIndex := 526, attributes := #[] }, { accessFlags := 25, nameIndex := 399, descriptorIndex := 155, attributes := #[] }, { accessFlags := 25, nameIndex := 396, descriptorIndex := 155, attributes := #[] }, { accessFlags := 10, nameIndex := 525, descriptorIndex := 526, attributes := #[] }, { accessFlags := 26, nameIndex := 674, descriptorIndex := 12, attributes := #[] }, { accessFlags := 26, nameIndex := 677, descriptorIndex := 12, attributes := #[] }, { accessFlags := 10, nameIndex := 11, descriptorIndex := 12, attributes := #[] }, { accessFlags := 74, nameIndex := 175, descriptorIndex := 176, attributes := #[] }, { accessFlags := 10, nameIndex := 491, descriptorIndex := 222, attributes := #[] }, { accessFlags := 74, nameIndex := 29, descriptorIndex := 30, attributes := #[] }, { accessFlags := 74, nameIndex := 154, descriptorIndex := 155, attributes := #[] }, { accessFlags := 10, nameIndex := 217, descriptorIndex := 218, attributes := #[] }, { accessFlags := 10, nameIndex := 221, descriptorIndex := 222, attributes := #[] }, { accessFlags := 8, nameIndex := 562, descriptorIndex := 563, attributes := #[] }])
  fields := #[{ name := "in", type := (.object "java/io/InputStream"), accessFlags := 25, slot := 0, constantValue := 0 }, { name := "out", type := (.object "java/io/PrintStream"), accessFlags := 25, slot := 1, constantValue := 0 }, { name := "err", type := (.object "java/io/PrintStream"), accessFlags := 25, slot := 2, constantValue := 0 }, { name := "initialIn", type := (.object "java/io/InputStream"), accessFlags := 10, slot := 3, constantValue := 0 }, { name := "NEVER", type := .int, accessFlags := 26, slot := 4, constantValue := 0 }, { name := "MAYBE", type := .int, accessFlags := 26, slot := 5, constantValue := 0 }, { name := "allowSecurityManager", type := .int, accessFlags := 10, slot := 6, constantValue := 0 }, { name := "security", type := (.object "java/lang/SecurityManager"), accessFlags := 74, slot := 7, constantValue := 0 }, { name := "notSupportedJnuEncoding", type := (.object "java/lang/String"), accessFlags := 10, slot := 8, constantValue := 0 }, { name := "cons", type := (.object "java/io/Console"), accessFlags := 74, slot := 9, constantValue := 0 }, { name := "initialErrStream", type := (.object "java/io/PrintStream"), accessFlags := 74, slot := 10, constantValue := 0 }, { name := "props", type := (.object "java/util/Properties"), accessFlags := 10, slot := 11, constantValue := 0 }, { name := "lineSeparator", type := (.object "java/lang/String"), accessFlags := 10, slot := 12, constantValue := 0 }, { name := "bootLayer", type := (.object "java/lang/ModuleLayer"), accessFlags := 8, slot := 13, constantValue := 0 }]
  methods := #[k12m0, k12m1]
  instanceTypes := #[]
  staticTypes := #[(.object "java/io/InputStream"), (.object "java/io/PrintStream"), (.object "java/io/PrintStream"), (.object "java/io/InputStream"), .int, .int, .int, (.object "java/lang/SecurityManager"), (.object "java/lang/String"), (.object "java/io/Console"), (.object "java/io/PrintStream"), (.object "java/util/Properties"), (.object "java/lang/String"), (.object "java/lang/ModuleLayer")]
  resolved := Array.replicate 834 none
  statics := none }

def pool13 : Array CpInfo := pool [(1, u "java/lang/Cloneable"), (0, .class_ 1), (0, u "java/lang/Object"), (0, .class_ 3)] 3

/-- java/lang/Cloneable -/
def k13 : Class := { plain "java/lang/Cloneable" (some 0) with
  accessFlags := 1537
  interfaces := #[]
  cf := some (fileOf pool13 2 #[] #[] 1537 4 #[] #[])
  fields := #[]
  methods := #[]
  instanceTypes := #[]
  staticTypes := #[]
  resolved := Array.replicate 8 none
  statics := none }

/-- the primitive byte -/
def k14 : Class := { plain "byte" none with kind := .primitive 'B', accessFlags := 0x411 }
/-- [B -/
def k15 : Class := { plain "[B" (some 0) with kind := .array 14 .byte, interfaces := #[13, 4], accessFlags := 1041 }

/-- the primitive int -/
def k16 : Class := { plain "int" none with kind := .primitive 'I', accessFlags := 0x411 }
/-- [I -/
def k17 : Class := { plain "[I" (some 0) with kind := .array 16 .int, interfaces := #[13, 4], accessFlags := 1041 }

def heap : Heap := #[]
def classes : Array Class := #[k0, k1, k2, k3, k4, k5, k6, k7, k8, k9, k10, k11, k12, k13, k14, k15, k16, k17]
def interned : List (Array UInt16 × Addr) := []
def slotsUsed : Nat := 0
def theMethod : MethodId := ⟨1, 2⟩
def args0 : Array Value := #[.int 5, .int 6, .int 7, .int 8, .int 9, .int 10]
def aboutOver (below : List Frame) : State where
  vm := { classes := classes, interned := interned.toArray }
  heap := heap
  slotsUsed := slotsUsed
  threads := #[{ frames := .invoking theMethod args0 :: below }]
def below0 : List Frame := [.native { method := ⟨0, 0⟩, args := #[] }]
def about1 : State := aboutOver below0
def p0 : Program := .bare "" "" ""
def e0 : Env := launch0.env 0 0 0
theorem w_frames : about1.frames = Frame.invoking theMethod args0 :: below0 := rfl
set_option maxRecDepth 65536 in
theorem w_args : argsFit about1.vm theMethod args0 = true := by decide +kernel
set_option maxRecDepth 65536 in
theorem w_heap : heapFits about1 = true := by decide +kernel
set_option maxRecDepth 65536 in
theorem w_runnable : about1.curStatus? = some .runnable := by decide +kernel
set_option maxRecDepth 65536 in
theorem w_alone : about1.alone = true := by decide +kernel
set_option maxRecDepth 65536 in
theorem w_named : about1.methodNamed? x = some theMethod := by decide +kernel
set_option maxRecDepth 65536 in
theorem w_hears : about1.hears theMethod below0 = true := by decide +kernel
set_option maxRecDepth 65536 in
theorem w_ripe : about1.ripe theMethod args0 below0 = true := by decide +kernel
theorem w_running : about1.status = .running := rfl
set_option maxRecDepth 65536 in
theorem w_room : about1.hasRoom e0.platform room_1 = true :=
  launch0.hasRoom_least _ room_1 (by decide +kernel) (by decide +kernel) (by decide +kernel) (by decide +kernel) (by decide +kernel) (by decide +kernel)
theorem allAtoms_all (ts : List Jvm.Cond) (a : Array Jvm.Value) (st : Jvm.State) : (allAtoms ts).before a st = ts.all (fun c => c.before a st) := by
  induction ts with
  | nil => rfl
  | cons c t ih =>
    show (Jvm.Cond.and c (allAtoms t)).before a st = _
    rw [Jvm.Cond.before_and, ih, List.all_cons]
def words1 : List Jvm.Cond := Jvm.Cond.code x code maxLocals ret :: tables_1
/-- a 'code' word, met by the world's own term for the bytes: nothing is compared byte by byte -/
theorem code_word {y : MethodName} {bytes : ByteArray} {mx : Nat} {rt : Option FieldType} {a : Array Value} {s : State} {m : MethodId} {meth : Method} {c : Code} (h1 : s.methodNamed? y = some m) (h2 : s.vm.method? m = some meth) (h3 : meth.code = some c) (h4 : c.code = bytes)
    (h5 : (c.maxLocals == mx && c.exceptionTable.isEmpty && decide (c.maxStack ≤ mostOperands) && decide (meth.sig.returnType = rt) && !meth.locks && decide (parseMethodDescriptor y.desc = some meth.sig)) = true) : (Jvm.Cond.code y bytes mx rt).before a s = true := by
  simp only [Bool.and_eq_true, beq_iff_eq, Bool.not_eq_true', decide_eq_true_eq] at h5
  obtain ⟨⟨⟨⟨⟨g1, g2⟩, g3⟩, g4⟩, g5⟩, g6⟩ := h5
  simp [Cond.before, Cond.holds, Cond.value, h1, h2, h3, h4, g1, g2, g3, g4, g5, g6]
def isCode : Jvm.Cond → Bool
  | .code _ _ _ _ => true
  | _ => false
theorem all_split {L : List Jvm.Cond} {P : Jvm.Cond → Bool} (h1 : L.all (fun c => isCode c || P c) = true) (h2 : ∀ c ∈ L.filter isCode, P c = true) : L.all P = true := by
  refine List.all_eq_true.mpr fun c hc => ?_
  have h := List.all_eq_true.mp h1 c hc
  rcases Bool.eq_false_or_eq_true (isCode c) with hi | hi
  · exact h2 c (List.mem_filter.mpr ⟨hc, hi⟩)
  · simpa [hi] using h
set_option maxRecDepth 65536 in
theorem w_c0 : (Jvm.Cond.code x code maxLocals ret).before args0 about1 = true := code_word (m := ⟨1, 2⟩) (meth := k1m2) (c := k1c2) (by decide +kernel) rfl rfl rfl (by decide +kernel)
set_option maxRecDepth 65536 in
theorem w_c1 : (Jvm.Cond.code ({ cls := "com/example/vestline/vestline/number/Growth", name := "withRoom", desc := "([II)[I" } : Jvm.MethodName) prog_67_method_3_code (2 : Nat) (Option.some (Jvm.ClassFile.FieldType.array Jvm.ClassFile.FieldType.int))).before args0 about1 = true := code_word (m := ⟨2, 2⟩) (meth := k2m2) (c := k2c2) (by decide +kernel) rfl rfl rfl (by decide +kernel)
set_option maxRecDepth 65536 in
theorem w_c2 : (Jvm.Cond.code ({ cls := "com/example/vestline/vestline/number/Growth", name := "grown", desc := "(IJI)I" } : Jvm.MethodName) prog_67_method_2_code (8 : Nat) (Option.some Jvm.ClassFile.FieldType.int)).before args0 about1 = true := code_word (m := ⟨2, 1⟩) (meth := k2m1) (c := k2c1) (by decide +kernel) rfl rfl rfl (by decide +kernel)
set_option maxRecDepth 65536 in
theorem w_c3 : (Jvm.Cond.code ({ cls := "java/lang/Math", name := "max", desc := "(JJ)J" } : Jvm.MethodName) jdk_29_method_66_code (4 : Nat) (Option.some Jvm.ClassFile.FieldType.long)).before args0 about1 = true := code_word (m := ⟨3, 2⟩) (meth := k3m2) (c := k3c2) (by decide +kernel) rfl rfl rfl (by decide +kernel)
set_option maxRecDepth 65536 in
theorem w_c4 : (Jvm.Cond.code ({ cls := "java/lang/Long", name := "highestOneBit", desc := "(J)J" } : Jvm.MethodName) jdk_35_method_46_code (2 : Nat) (Option.some Jvm.ClassFile.FieldType.long)).before args0 about1 = true := code_word (m := ⟨9, 0⟩) (meth := k9m0) (c := k9c0) (by decide +kernel) rfl rfl rfl (by decide +kernel)
set_option maxRecDepth 65536 in
theorem w_c5 : (Jvm.Cond.code ({ cls := "java/lang/Long", name := "numberOfLeadingZeros", desc := "(J)I" } : Jvm.MethodName) jdk_35_method_48_code (3 : Nat) (Option.some Jvm.ClassFile.FieldType.int)).before args0 about1 = true := code_word (m := ⟨9, 1⟩) (meth := k9m1) (c := k9c1) (by decide +kernel) rfl rfl rfl (by decide +kernel)
set_option maxRecDepth 65536 in
theorem w_c6 : (Jvm.Cond.code ({ cls := "java/lang/Integer", name := "numberOfLeadingZeros", desc := "(I)I" } : Jvm.MethodName) jdk_33_method_47_code (2 : Nat) (Option.some Jvm.ClassFile.FieldType.int)).before args0 about1 = true := code_word (m := ⟨10, 0⟩) (meth := k10m0) (c := k10c0) (by decide +kernel) rfl rfl rfl (by decide +kernel)
set_option maxRecDepth 65536 in
theorem w_c7 : (Jvm.Cond.code ({ cls := "java/lang/Math", name := "min", desc := "(JJ)J" } : Jvm.MethodName) jdk_29_method_70_code (4 : Nat) (Option.some Jvm.ClassFile.FieldType.long)).before args0 about1 = true := code_word (m := ⟨3, 4⟩) (meth := k3m4) (c := k3c4) (by decide +kernel) rfl rfl rfl (by decide +kernel)
set_option maxRecDepth 65536 in
theorem w_c8 : (Jvm.Cond.code ({ cls := "java/util/Arrays", name := "copyOf", desc := "([II)[I" } : Jvm.MethodName) jdk_65_method_123_code (3 : Nat) (Option.some (Jvm.ClassFile.FieldType.array Jvm.ClassFile.FieldType.int))).before args0 about1 = true := code_word (m := ⟨11, 1⟩) (meth := k11m1) (c := k11c1) (by decide +kernel) rfl rfl rfl (by decide +kernel)
set_option maxRecDepth 65536 in
theorem w_c9 : (Jvm.Cond.code ({ cls := "java/lang/Math", name := "min", desc := "(II)I" } : Jvm.MethodName) jdk_29_method_69_code (2 : Nat) (Option.some Jvm.ClassFile.FieldType.int)).before args0 about1 = true := code_word (m := ⟨3, 3⟩) (meth := k3m3) (c := k3c3) (by decide +kernel) rfl rfl rfl (by decide +kernel)
set_option maxRecDepth 65536 in
theorem w_c10 : (Jvm.Cond.code ({ cls := "java/lang/Math", name := "max", desc := "(II)I" } : Jvm.MethodName) jdk_29_method_65_code (2 : Nat) (Option.some Jvm.ClassFile.FieldType.int)).before args0 about1 = true := code_word (m := ⟨3, 1⟩) (meth := k3m1) (c := k3c1) (by decide +kernel) rfl rfl rfl (by decide +kernel)
set_option maxRecDepth 65536 in
theorem w_c11 : (Jvm.Cond.code ({ cls := "com/example/vestline/vestline/number/GrowthWithRoomPinLaw", name := "elem", desc := "(IIII)I" } : Jvm.MethodName) method_2_code (6 : Nat) (Option.some Jvm.ClassFile.FieldType.int)).before args0 about1 = true := code_word (m := ⟨1, 1⟩) (meth := k1m1) (c := k1c1) (by decide +kernel) rfl rfl rfl (by decide +kernel)
def codes1 : List Jvm.Cond := [Jvm.Cond.code x code maxLocals ret, Jvm.Cond.code ({ cls := "com/example/vestline/vestline/number/Growth", name := "withRoom", desc := "([II)[I" } : Jvm.MethodName) prog_67_method_3_code (2 : Nat) (Option.some (Jvm.ClassFile.FieldType.array Jvm.ClassFile.FieldType.int)), Jvm.Cond.code ({ cls := "com/example/vestline/vestline/number/Growth", name := "grown", desc := "(IJI)I" } : Jvm.MethodName) prog_67_method_2_code (8 : Nat) (Option.some Jvm.ClassFile.FieldType.int), Jvm.Cond.code ({ cls := "java/lang/Math", name := "max", desc := "(JJ)J" } : Jvm.MethodName) jdk_29_method_66_code (4 : Nat) (Option.some Jvm.ClassFile.FieldType.long), Jvm.Cond.code ({ cls := "java/lang/Long", name := "highestOneBit", desc := "(J)J" } : Jvm.MethodName) jdk_35_method_46_code (2 : Nat) (Option.some Jvm.ClassFile.FieldType.long), Jvm.Cond.code ({ cls := "java/lang/Long", name := "numberOfLeadingZeros", desc := "(J)I" } : Jvm.MethodName) jdk_35_method_48_code (3 : Nat) (Option.some Jvm.ClassFile.FieldType.int), Jvm.Cond.code ({ cls := "java/lang/Integer", name := "numberOfLeadingZeros", desc := "(I)I" } : Jvm.MethodName) jdk_33_method_47_code (2 : Nat) (Option.some Jvm.ClassFile.FieldType.int), Jvm.Cond.code ({ cls := "java/lang/Math", name := "min", desc := "(JJ)J" } : Jvm.MethodName) jdk_29_method_70_code (4 : Nat) (Option.some Jvm.ClassFile.FieldType.long), Jvm.Cond.code ({ cls := "java/util/Arrays", name := "copyOf", desc := "([II)[I" } : Jvm.MethodName) jdk_65_method_123_code (3 : Nat) (Option.some (Jvm.ClassFile.FieldType.array Jvm.ClassFile.FieldType.int)), Jvm.Cond.code ({ cls := "java/lang/Math", name := "min", desc := "(II)I" } : Jvm.MethodName) jdk_29_method_69_code (2 : Nat) (Option.some Jvm.ClassFile.FieldType.int), Jvm.Cond.code ({ cls := "java/lang/Math", name := "max", desc := "(II)I" } : Jvm.MethodName) jdk_29_method_65_code (2 : Nat) (Option.some Jvm.ClassFile.FieldType.int), Jvm.Cond.code ({ cls := "com/example/vestline/vestline/number/GrowthWithRoomPinLaw", name := "elem", desc := "(IIII)I" } : Jvm.MethodName) method_2_code (6 : Nat) (Option.some Jvm.ClassFile.FieldType.int)]
set_option maxRecDepth 65536 in
theorem codes_eq : words1.filter isCode = codes1 := rfl
theorem w_codes : ∀ c ∈ words1.filter isCode, c.before args0 about1 = true := by
  rw [codes_eq]
  intro c hc
  simp only [codes1, List.mem_cons, List.not_mem_nil, or_false] at hc
  rcases hc with rfl | rfl | rfl | rfl | rfl | rfl | rfl | rfl | rfl | rfl | rfl | rfl
  · exact w_c0
  · exact w_c1
  · exact w_c2
  · exact w_c3
  · exact w_c4
  · exact w_c5
  · exact w_c6
  · exact w_c7
  · exact w_c8
  · exact w_c9
  · exact w_c10
  · exact w_c11
set_option maxRecDepth 65536 in
theorem w_t1 : (words1.take 24).all (fun c => isCode c || c.before args0 about1) = true := by decide +kernel
set_option maxRecDepth 65536 in
theorem w_t2 : ((words1.drop 24).take 24).all (fun c => isCode c || c.before args0 about1) = true := by decide +kernel
set_option maxRecDepth 65536 in
theorem w_t3 : ((words1.drop 24).drop 24).all (fun c => isCode c || c.before args0 about1) = true := by decide +kernel
theorem w_tables : (allAtoms (Jvm.Cond.code x code maxLocals ret :: tables_1)).before args0 about1 = true := by
  rw [allAtoms_all]
  show words1.all (fun c => c.before args0 about1) = true
  refine all_split ?_ w_codes
  rw [← List.take_append_drop 24 words1, List.all_append, w_t1, ← List.take_append_drop 24 (words1.drop 24), List.all_append, w_t2, w_t3]
  rfl
set_option maxRecDepth 65536 in
theorem w_case : (Jvm.Cond.and given_1 narrow_1).before args0 about1 = true := by decide +kernel
theorem w_applies : (headSpec (Jvm.Cond.code x code maxLocals ret :: tables_1) room_1).applies x e0.platform about1 = true :=
  (Spec.applies_iff w_frames).mpr ⟨w_running, w_runnable, w_alone, w_named, w_hears, w_ripe, w_room, w_tables⟩
theorem atStart : AtStart classFile x code maxLocals ret World_1 tables_1 room_1 Calls_1 rest_1 Pre_1 launch0 p0 e0 about1 theMethod args0 below0 :=
  ⟨lists_1, trivial, launch0.admits_env _ _ _, launch0.least_env, fairChoices_fair.cas, fairChoices_fair.clock, w_frames, w_args, w_heap, w_applies, trivial, trivial, w_case⟩
end start1
theorem witness_1 : WitnessClaimed_1 := ⟨start1.p0, start1.e0, start1.about1, start1.theMethod, start1.args0, start1.below0, start1.atStart⟩
end Jvm.Pilot.@@N@@
