import JvmDerived
import JvmDerived.Pilot.@@N@@Statement
import JvmDerived.Pilot.@@N@@Code
set_option linter.unusedVariables false
set_option linter.unusedSimpArgs false
namespace Jvm.Pilot.@@N@@
open Jvm Jvm.ClassFile Sem Op Lib Jvm.Free Jvm.Stand Jvm.LawKit Jvm.RoadKit Bundle Jvm.Pilot.@@N@@.Jvm.D

/-! ### the own kit: a walk's goal in continuation form -/
def Go (p : Program) (e : Env) (below : List Frame) (Φ : Outcome → State → Prop) (U : State) : Prop :=
  ∃ s₂ o, Steps p.tables e below U s₂ ∧ s₂.status = .running ∧ Ended s₂ below o ∧ Φ o s₂
def Fin0 (s : State) (rm : Room) (Q : Option Value → Heap → List Loc → Prop) : Outcome → State → Prop :=
  fun o U' => ∃ v L, o = .returned v ∧ Q v U'.heap L ∧ FrameEnd s o U' L rm.cells rm.slots
abbrev Ctr (l : Launch) (Z : State) (y : MethodName) (bytes : ByteArray) (ml : Nat) (rt : Option FieldType) (rm : Room) (ws : List Jvm.Cond) (as' : Array Value) (h0 : Heap) (Q : Option Value → Heap → List Loc → Prop) : Prop :=
  MetFree l y (head1 (Jvm.Cond.code y bytes ml rt :: ws) rm) (fun a U => a = as' ∧ Z.Warmed39 U.vm ∧ U.heap = h0) (fun _ _ _ _ _ => True) (fun _ U o U' => ∃ v L, o = .returned v ∧ Q v U'.heap L ∧ FrameEnd U o U' L rm.cells rm.slots)
def b2i (b : Bool) : Int32 := if b then 1 else 0
theorem b2i_t : b2i true = 1 := rfl
theorem b2i_f : b2i false = 0 := rfl
theorem b2i_nar (b : Bool) : nar .boolean (b2i b) = b2i b := by cases b <;> rfl
theorem b2i_inj {a b : Bool} : b2i a = b2i b ↔ a = b := by cases a <;> cases b <;> decide
theorem i32e {x y : Int32} : x = y ↔ x.toInt = y.toInt := Int32.toInt_inj.symm
theorem i64e {x y : Int64} : x = y ↔ x.toInt = y.toInt := Int64.toInt_inj.symm
theorem okB {b : Bool} (h : b = true) : some (Value.int (b2i b)) = some (Value.int 1) := by rw [h]; rfl
theorem eqT {P : Prop} [Decidable P] (h : P) : some (Value.int (b2i true)) = some (Value.int (b2i (decide P))) := by rw [decide_eq_true h]
theorem eqF {P : Prop} [Decidable P] (h : ¬ P) : some (Value.int (b2i false)) = some (Value.int (b2i (decide P))) := by rw [decide_eq_false h]
theorem eqD {P Q : Prop} [Decidable P] [Decidable Q] (h : Q ↔ P) : some (Value.int (b2i (decide Q))) = some (Value.int (b2i (decide P))) := by rw [decide_eq_decide.mpr h]
theorem eqB {P : Prop} [Decidable P] {b : Bool} (h : b = true ↔ P) : some (Value.int (b2i b)) = some (Value.int (b2i (decide P))) := by
  rw [show b = decide P from by by_cases q : P <;> simp [q, h] <;> (cases b <;> simp_all)]
/-- what a pure callee leaves that returns an int (a long) of which P is said -/
def IQ (P : Int32 → Prop) (h0 : Heap) : Option Value → Heap → List Loc → Prop := fun v h L => ∃ r, v = some (.int r) ∧ P r ∧ h = h0 ∧ L = []
def JQ (P : Int64 → Prop) (h0 : Heap) : Option Value → Heap → List Loc → Prop := fun v h L => ∃ r, v = some (.long r) ∧ P r ∧ h = h0 ∧ L = []
/-- what a pure callee leaves -/
def PQ (r : Value) (h0 : Heap) : Option Value → Heap → List Loc → Prop := fun v h L => v = some r ∧ h = h0 ∧ L = []
theorem Ctr.of {l : Launch} {Z : State} {y : MethodName} {bytes : ByteArray} {ml : Nat} {rt : Option FieldType} {rm : Room} {ws : List Jvm.Cond} {as' : Array Value} {h0 : Heap} {Q : Option Value → Heap → List Loc → Prop} (hp : plainFor y = true)
    (body : ∀ (p : Program) (e : Env) (s : State) (m : MethodId) (below : List Frame) (meth : Method) (c : Code) (s₁ : State), p.tables.exec = Jvm.exec → c.code = bytes → c.maxLocals = ml → meth.sig.returnType = rt → meth.locks = false → meth.name = y.name → s.vm.findClass y.cls = some m.cls → Z.Warmed39 s.vm → Stand p l e rm s m as' below meth c s₁ [] 0 0 → s₁.heap = h0 →
      Go p e below (Fin0 s rm Q) (s₁.setTop (entryFrame m as' ml))) : Ctr l Z y bytes ml rt rm ws as' h0 Q := by
  refine MetFree.of_bodySF hp hisR ?_
  intro p e s m args below meth c s₁ Bd hml0 hP hK
  obtain ⟨rfl, hZ, hh⟩ := hP
  obtain ⟨s₂, o, g1, g2, g3, v, L, g4, g5, g6⟩ := body p e s m below meth c s₁ Bd.exec Bd.bytes hml0 Bd.returns Bd.notSynchronized (name_of_methodNamed Bd.named Bd.method).1 (findClass_of_methodNamed Bd.named) hZ (Stand.of_body Bd) (by rw [← hh, Bd.state]; rfl)
  exact ⟨s₂, o, g1, g2, g3, v, L, g4, g5, g6⟩
theorem st_one {L L' : Array Slot} {i : Nat} {o : Slot} {v : Value} (h : L[i]? = some o) (ho : One o) (hv : v.category = 1) (hL : L.setIfInBounds i (.val v) = L') : storeLocals L i v = some L' := by
  rw [XS.store1 h ho hv, hL]
section OwnKit
variable {p : Program} {l : Launch} {e : Env} {R : Room} {s : State} {m : MethodId} {args : Array Value} {below : List Frame} {meth : Method} {c : Code} {T : State} {locs : List Loc} {cells slots : Nat} {Z : State} {a0 : Array Value} {h : Heap} {Φ : Outcome → State → Prop} {pc q : Nat} {L : Array Slot} {S : List Value}
theorem Go.by {U U' : State} (h : ∀ t, Steps p.tables e below U' t → Steps p.tables e below U t) (k : Go p e below Φ U') : Go p e below Φ U := by
  obtain ⟨s₂, o, h1, r⟩ := k; exact ⟨s₂, o, h _ h1, r⟩
theorem Go.cast {g g' : JFrame} (q : g = g') (k : Go p e below Φ (T.setTop g')) : Go p e below Φ (T.setTop g) := q ▸ k
theorem g_iloadN (hA : At T m c below) (hx : p.tables.exec = Jvm.exec) {j : Fin 4} {v : Int32} (hd : decode c.code pc = .ok (.iload_n j, 1)) (hl : L[j.val]? = some (.val (.int v))) (hq : pc + 1 = q) (k : Go p e below Φ (T.setTop (mkF m q L (.int v :: S)))) : Go p e below Φ (T.setTop (mkF m pc L S)) := by
  subst hq; exact Go.by (fun _ => XS.iloadN hA hx rfl hd hl) k
theorem g_iload (hA : At T m c below) (hx : p.tables.exec = Jvm.exec) {j : Nat} {v : Int32} (hd : decode c.code pc = .ok (.iload j, 2)) (hl : L[j]? = some (.val (.int v))) (hq : pc + 2 = q) (k : Go p e below Φ (T.setTop (mkF m q L (.int v :: S)))) : Go p e below Φ (T.setTop (mkF m pc L S)) := by
  subst hq; exact Go.by (fun _ => XS.iload hA hx rfl hd hl) k
theorem g_istoreN (hA : At T m c below) (hx : p.tables.exec = Jvm.exec) {j : Fin 4} {v : Int32} {L' : Array Slot} (hd : decode c.code pc = .ok (.istore_n j, 1)) (hl : storeLocals L j.val (.int v) = some L') (hq : pc + 1 = q) (k : Go p e below Φ (T.setTop (mkF m q L' S))) : Go p e below Φ (T.setTop (mkF m pc L (.int v :: S))) := by
  subst hq; exact Go.by (fun _ => XS.istoreN hA hx rfl hd rfl hl) k
theorem g_istore (hA : At T m c below) (hx : p.tables.exec = Jvm.exec) {j : Nat} {v : Int32} {L' : Array Slot} (hd : decode c.code pc = .ok (.istore j, 2)) (hl : storeLocals L j (.int v) = some L') (hq : pc + 2 = q) (k : Go p e below Φ (T.setTop (mkF m q L' S))) : Go p e below Φ (T.setTop (mkF m pc L (.int v :: S))) := by
  subst hq; exact Go.by (fun _ => XS.istore hA hx rfl hd rfl hl) k
theorem g_lloadN (hA : At T m c below) (hx : p.tables.exec = Jvm.exec) {j : Fin 4} {v : Int64} (hd : decode c.code pc = .ok (.lload_n j, 1)) (hl : L[j.val]? = some (.val (.long v))) (hq : pc + 1 = q) (k : Go p e below Φ (T.setTop (mkF m q L (.long v :: S)))) : Go p e below Φ (T.setTop (mkF m pc L S)) := by
  subst hq; exact Go.by (fun _ => XS.lloadN hA hx rfl hd hl) k
theorem g_lload (hA : At T m c below) (hx : p.tables.exec = Jvm.exec) {j : Nat} {v : Int64} (hd : decode c.code pc = .ok (.lload j, 2)) (hl : L[j]? = some (.val (.long v))) (hq : pc + 2 = q) (k : Go p e below Φ (T.setTop (mkF m q L (.long v :: S)))) : Go p e below Φ (T.setTop (mkF m pc L S)) := by
  subst hq; exact Go.by (fun _ => XS.lload hA hx rfl hd hl) k
theorem g_lstoreN (hA : At T m c below) (hx : p.tables.exec = Jvm.exec) {j : Fin 4} {v : Int64} {L' : Array Slot} (hd : decode c.code pc = .ok (.lstore_n j, 1)) (hl : storeLocals L j.val (.long v) = some L') (hq : pc + 1 = q) (k : Go p e below Φ (T.setTop (mkF m q L' S))) : Go p e below Φ (T.setTop (mkF m pc L (.long v :: S))) := by
  subst hq; exact Go.by (fun _ => XS.lstoreN hA hx rfl hd rfl hl) k
theorem g_lstore (hA : At T m c below) (hx : p.tables.exec = Jvm.exec) {j : Nat} {v : Int64} {L' : Array Slot} (hd : decode c.code pc = .ok (.lstore j, 2)) (hl : storeLocals L j (.long v) = some L') (hq : pc + 2 = q) (k : Go p e below Φ (T.setTop (mkF m q L' S))) : Go p e below Φ (T.setTop (mkF m pc L (.long v :: S))) := by
  subst hq; exact Go.by (fun _ => XS.lstore hA hx rfl hd rfl hl) k
theorem g_aloadN (hA : At T m c below) (hx : p.tables.exec = Jvm.exec) {j : Fin 4} {v : Value} (hd : decode c.code pc = .ok (.aload_n j, 1)) (hl : L[j.val]? = some (.val v)) (hv : v.isRef = true) (hq : pc + 1 = q) (k : Go p e below Φ (T.setTop (mkF m q L (v :: S)))) : Go p e below Φ (T.setTop (mkF m pc L S)) := by
  subst hq; exact Go.by (fun _ => XS.aloadN hA hx rfl hd hl hv) k
theorem g_aload (hA : At T m c below) (hx : p.tables.exec = Jvm.exec) {j : Nat} {v : Value} (hd : decode c.code pc = .ok (.aload j, 2)) (hl : L[j]? = some (.val v)) (hv : v.isRef = true) (hq : pc + 2 = q) (k : Go p e below Φ (T.setTop (mkF m q L (v :: S)))) : Go p e below Φ (T.setTop (mkF m pc L S)) := by
  subst hq; exact Go.by (fun _ => XS.aload hA hx rfl hd hl hv) k
theorem g_astoreN (hA : At T m c below) (hx : p.tables.exec = Jvm.exec) {j : Fin 4} {v : Value} {L' : Array Slot} (hd : decode c.code pc = .ok (.astore_n j, 1)) (hv : v.isRef = true) (hl : storeLocals L j.val v = some L') (hq : pc + 1 = q) (k : Go p e below Φ (T.setTop (mkF m q L' S))) : Go p e below Φ (T.setTop (mkF m pc L (v :: S))) := by
  subst hq; exact Go.by (fun _ => XS.astoreN hA hx rfl hd rfl hv hl) k
theorem g_astore (hA : At T m c below) (hx : p.tables.exec = Jvm.exec) {j : Nat} {v : Value} {L' : Array Slot} (hd : decode c.code pc = .ok (.astore j, 2)) (hv : v.isRef = true) (hl : storeLocals L j v = some L') (hq : pc + 2 = q) (k : Go p e below Φ (T.setTop (mkF m q L' S))) : Go p e below Φ (T.setTop (mkF m pc L (v :: S))) := by
  subst hq; exact Go.by (fun _ => XS.astore hA hx rfl hd rfl hv hl) k
theorem g_iconst (hA : At T m c below) (hx : p.tables.exec = Jvm.exec) {i : Int} {v : Int32} (hd : decode c.code pc = .ok (.iconst i, 1)) (hv : Int32.ofInt i = v) (hq : pc + 1 = q) (k : Go p e below Φ (T.setTop (mkF m q L (.int v :: S)))) : Go p e below Φ (T.setTop (mkF m pc L S)) := by
  subst hq hv; exact Go.by (fun _ => XS.iconst hA hx rfl hd) k
theorem g_bipush (hA : At T m c below) (hx : p.tables.exec = Jvm.exec) {i : Int} {v : Int32} (hd : decode c.code pc = .ok (.bipush i, 2)) (hv : (Int8.ofInt i).toInt32 = v) (hq : pc + 2 = q) (k : Go p e below Φ (T.setTop (mkF m q L (.int v :: S)))) : Go p e below Φ (T.setTop (mkF m pc L S)) := by
  subst hq hv; exact Go.by (fun _ => XS.bipush hA hx rfl hd) k
theorem g_sipush (hA : At T m c below) (hx : p.tables.exec = Jvm.exec) {i : Int} {v : Int32} (hd : decode c.code pc = .ok (.sipush i, 3)) (hv : (Int16.ofInt i).toInt32 = v) (hq : pc + 3 = q) (k : Go p e below Φ (T.setTop (mkF m q L (.int v :: S)))) : Go p e below Φ (T.setTop (mkF m pc L S)) := by
  subst hq hv; exact Go.by (fun _ => XS.sipush hA hx rfl hd) k
theorem g_lconst0 (hA : At T m c below) (hx : p.tables.exec = Jvm.exec) (hd : decode c.code pc = .ok (.lconst 0, 1)) (hq : pc + 1 = q) (k : Go p e below Φ (T.setTop (mkF m q L (.long 0 :: S)))) : Go p e below Φ (T.setTop (mkF m pc L S)) := by
  subst hq; exact Go.by (fun _ => XS.lconst hA hx rfl hd) k
theorem g_lconst1 (hA : At T m c below) (hx : p.tables.exec = Jvm.exec) (hd : decode c.code pc = .ok (.lconst 1, 1)) (hq : pc + 1 = q) (k : Go p e below Φ (T.setTop (mkF m q L (.long 1 :: S)))) : Go p e below Φ (T.setTop (mkF m pc L S)) := by
  subst hq; exact Go.by (fun _ => XS.lconst hA hx rfl hd) k
theorem g_aconst_null (hA : At T m c below) (hx : p.tables.exec = Jvm.exec) (hd : decode c.code pc = .ok (.aconst_null, 1)) (hq : pc + 1 = q) (k : Go p e below Φ (T.setTop (mkF m q L (.null :: S)))) : Go p e below Φ (T.setTop (mkF m pc L S)) := by
  subst hq; exact Go.by (fun _ => XS.aconstNull hA hx rfl hd) k
theorem g_iadd (hA : At T m c below) (hx : p.tables.exec = Jvm.exec) {x y : Int32} (hd : decode c.code pc = .ok (.iadd, 1)) (hq : pc + 1 = q) (k : Go p e below Φ (T.setTop (mkF m q L (.int (x + y) :: S)))) : Go p e below Φ (T.setTop (mkF m pc L (.int y :: .int x :: S))) := by
  subst hq; exact Go.by (fun _ => XS.iadd hA hx rfl hd rfl) k
theorem g_isub (hA : At T m c below) (hx : p.tables.exec = Jvm.exec) {x y : Int32} (hd : decode c.code pc = .ok (.isub, 1)) (hq : pc + 1 = q) (k : Go p e below Φ (T.setTop (mkF m q L (.int (x - y) :: S)))) : Go p e below Φ (T.setTop (mkF m pc L (.int y :: .int x :: S))) := by
  subst hq; exact Go.by (fun _ => XS.isub hA hx rfl hd rfl) k
theorem g_imul (hA : At T m c below) (hx : p.tables.exec = Jvm.exec) {x y : Int32} (hd : decode c.code pc = .ok (.imul, 1)) (hq : pc + 1 = q) (k : Go p e below Φ (T.setTop (mkF m q L (.int (x * y) :: S)))) : Go p e below Φ (T.setTop (mkF m pc L (.int y :: .int x :: S))) := by
  subst hq; exact Go.by (fun _ => XS.imul hA hx rfl hd rfl) k
theorem g_iand (hA : At T m c below) (hx : p.tables.exec = Jvm.exec) {x y : Int32} (hd : decode c.code pc = .ok (.iand, 1)) (hq : pc + 1 = q) (k : Go p e below Φ (T.setTop (mkF m q L (.int (x &&& y) :: S)))) : Go p e below Φ (T.setTop (mkF m pc L (.int y :: .int x :: S))) := by
  subst hq; exact Go.by (fun _ => XS.iand hA hx rfl hd rfl) k
theorem g_ior (hA : At T m c below) (hx : p.tables.exec = Jvm.exec) {x y : Int32} (hd : decode c.code pc = .ok (.ior, 1)) (hq : pc + 1 = q) (k : Go p e below Φ (T.setTop (mkF m q L (.int (x ||| y) :: S)))) : Go p e below Φ (T.setTop (mkF m pc L (.int y :: .int x :: S))) := by
  subst hq; exact Go.by (fun _ => XS.ior hA hx rfl hd rfl) k
theorem g_ixor (hA : At T m c below) (hx : p.tables.exec = Jvm.exec) {x y : Int32} (hd : decode c.code pc = .ok (.ixor, 1)) (hq : pc + 1 = q) (k : Go p e below Φ (T.setTop (mkF m q L (.int (x ^^^ y) :: S)))) : Go p e below Φ (T.setTop (mkF m pc L (.int y :: .int x :: S))) := by
  subst hq; exact Go.by (fun _ => XS.ixor hA hx rfl hd rfl) k
theorem g_ishl (hA : At T m c below) (hx : p.tables.exec = Jvm.exec) {x y : Int32} (hd : decode c.code pc = .ok (.ishl, 1)) (hq : pc + 1 = q) (k : Go p e below Φ (T.setTop (mkF m q L (.int (x <<< (y &&& 31)) :: S)))) : Go p e below Φ (T.setTop (mkF m pc L (.int y :: .int x :: S))) := by
  subst hq; exact Go.by (fun _ => XS.ishl hA hx rfl hd rfl) k
theorem g_ishr (hA : At T m c below) (hx : p.tables.exec = Jvm.exec) {x y : Int32} (hd : decode c.code pc = .ok (.ishr, 1)) (hq : pc + 1 = q) (k : Go p e below Φ (T.setTop (mkF m q L (.int (x >>> (y &&& 31)) :: S)))) : Go p e below Φ (T.setTop (mkF m pc L (.int y :: .int x :: S))) := by
  subst hq; exact Go.by (fun _ => XS.ishr hA hx rfl hd rfl) k
theorem g_iushr (hA : At T m c below) (hx : p.tables.exec = Jvm.exec) {x y : Int32} (hd : decode c.code pc = .ok (.iushr, 1)) (hq : pc + 1 = q) (k : Go p e below Φ (T.setTop (mkF m q L (.int ((x.toUInt32 >>> (y &&& 31).toUInt32).toInt32) :: S)))) : Go p e below Φ (T.setTop (mkF m pc L (.int y :: .int x :: S))) := by
  subst hq; exact Go.by (fun _ => XS.iushr hA hx rfl hd rfl) k
theorem g_ladd (hA : At T m c below) (hx : p.tables.exec = Jvm.exec) {x y : Int64} (hd : decode c.code pc = .ok (.ladd, 1)) (hq : pc + 1 = q) (k : Go p e below Φ (T.setTop (mkF m q L (.long (x + y) :: S)))) : Go p e below Φ (T.setTop (mkF m pc L (.long y :: .long x :: S))) := by
  subst hq; exact Go.by (fun _ => XS.ladd hA hx rfl hd rfl) k
theorem g_lsub (hA : At T m c below) (hx : p.tables.exec = Jvm.exec) {x y : Int64} (hd : decode c.code pc = .ok (.lsub, 1)) (hq : pc + 1 = q) (k : Go p e below Φ (T.setTop (mkF m q L (.long (x - y) :: S)))) : Go p e below Φ (T.setTop (mkF m pc L (.long y :: .long x :: S))) := by
  subst hq; exact Go.by (fun _ => XS.lsub hA hx rfl hd rfl) k
theorem g_lmul (hA : At T m c below) (hx : p.tables.exec = Jvm.exec) {x y : Int64} (hd : decode c.code pc = .ok (.lmul, 1)) (hq : pc + 1 = q) (k : Go p e below Φ (T.setTop (mkF m q L (.long (x * y) :: S)))) : Go p e below Φ (T.setTop (mkF m pc L (.long y :: .long x :: S))) := by
  subst hq; exact Go.by (fun _ => XS.lmul hA hx rfl hd rfl) k
theorem g_land (hA : At T m c below) (hx : p.tables.exec = Jvm.exec) {x y : Int64} (hd : decode c.code pc = .ok (.land, 1)) (hq : pc + 1 = q) (k : Go p e below Φ (T.setTop (mkF m q L (.long (x &&& y) :: S)))) : Go p e below Φ (T.setTop (mkF m pc L (.long y :: .long x :: S))) := by
  subst hq; exact Go.by (fun _ => XS.land hA hx rfl hd rfl) k
theorem g_lor (hA : At T m c below) (hx : p.tables.exec = Jvm.exec) {x y : Int64} (hd : decode c.code pc = .ok (.lor, 1)) (hq : pc + 1 = q) (k : Go p e below Φ (T.setTop (mkF m q L (.long (x ||| y) :: S)))) : Go p e below Φ (T.setTop (mkF m pc L (.long y :: .long x :: S))) := by
  subst hq; exact Go.by (fun _ => XS.lor hA hx rfl hd rfl) k
theorem g_lxor (hA : At T m c below) (hx : p.tables.exec = Jvm.exec) {x y : Int64} (hd : decode c.code pc = .ok (.lxor, 1)) (hq : pc + 1 = q) (k : Go p e below Φ (T.setTop (mkF m q L (.long (x ^^^ y) :: S)))) : Go p e below Φ (T.setTop (mkF m pc L (.long y :: .long x :: S))) := by
  subst hq; exact Go.by (fun _ => XS.lxor hA hx rfl hd rfl) k
theorem g_lshl (hA : At T m c below) (hx : p.tables.exec = Jvm.exec) {x : Int64} {y : Int32} (hd : decode c.code pc = .ok (.lshl, 1)) (hq : pc + 1 = q) (k : Go p e below Φ (T.setTop (mkF m q L (.long (x <<< (y &&& 0x3f).toInt64) :: S)))) : Go p e below Φ (T.setTop (mkF m pc L (.int y :: .long x :: S))) := by
  subst hq; exact Go.by (fun _ => XS.lshl hA hx rfl hd rfl) k
theorem g_lshr (hA : At T m c below) (hx : p.tables.exec = Jvm.exec) {x : Int64} {y : Int32} (hd : decode c.code pc = .ok (.lshr, 1)) (hq : pc + 1 = q) (k : Go p e below Φ (T.setTop (mkF m q L (.long (x >>> (y &&& 0x3f).toInt64) :: S)))) : Go p e below Φ (T.setTop (mkF m pc L (.int y :: .long x :: S))) := by
  subst hq; exact Go.by (fun _ => XS.lshr hA hx rfl hd rfl) k
theorem g_lushr (hA : At T m c below) (hx : p.tables.exec = Jvm.exec) {x : Int64} {y : Int32} (hd : decode c.code pc = .ok (.lushr, 1)) (hq : pc + 1 = q) (k : Go p e below Φ (T.setTop (mkF m q L (.long ((x.toUInt64 >>> (y &&& 0x3f).toInt64.toUInt64).toInt64) :: S)))) : Go p e below Φ (T.setTop (mkF m pc L (.int y :: .long x :: S))) := by
  subst hq; exact Go.by (fun _ => XS.lushr hA hx rfl hd rfl) k
theorem g_idiv (hA : At T m c below) (hx : p.tables.exec = Jvm.exec) {x y : Int32} (hd : decode c.code pc = .ok (.idiv, 1)) (hy : y ≠ 0) (hq : pc + 1 = q) (k : Go p e below Φ (T.setTop (mkF m q L (.int (x / y) :: S)))) : Go p e below Φ (T.setTop (mkF m pc L (.int y :: .int x :: S))) := by
  subst hq; exact Go.by (fun _ => XS.idiv hA hx rfl hd rfl hy) k
theorem g_irem (hA : At T m c below) (hx : p.tables.exec = Jvm.exec) {x y : Int32} (hd : decode c.code pc = .ok (.irem, 1)) (hy : y ≠ 0) (hq : pc + 1 = q) (k : Go p e below Φ (T.setTop (mkF m q L (.int (x % y) :: S)))) : Go p e below Φ (T.setTop (mkF m pc L (.int y :: .int x :: S))) := by
  subst hq; exact Go.by (fun _ => fun r => XS.irem hA hx rfl hd rfl hy (by rw [irem_eq_mod x y]; exact r)) k
theorem g_ldiv (hA : At T m c below) (hx : p.tables.exec = Jvm.exec) {x y : Int64} (hd : decode c.code pc = .ok (.ldiv, 1)) (hy : y ≠ 0) (hq : pc + 1 = q) (k : Go p e below Φ (T.setTop (mkF m q L (.long (x / y) :: S)))) : Go p e below Φ (T.setTop (mkF m pc L (.long y :: .long x :: S))) := by
  subst hq; exact Go.by (fun _ => XS.ldiv hA hx rfl hd rfl hy) k
theorem g_lrem (hA : At T m c below) (hx : p.tables.exec = Jvm.exec) {x y : Int64} (hd : decode c.code pc = .ok (.lrem, 1)) (hy : y ≠ 0) (hq : pc + 1 = q) (k : Go p e below Φ (T.setTop (mkF m q L (.long (x % y) :: S)))) : Go p e below Φ (T.setTop (mkF m pc L (.long y :: .long x :: S))) := by
  subst hq; exact Go.by (fun _ => fun r => XS.lrem hA hx rfl hd rfl hy (by rw [lrem_mod x y]; exact r)) k
theorem g_ineg (hA : At T m c below) (hx : p.tables.exec = Jvm.exec) {x : Int32} (hd : decode c.code pc = .ok (.ineg, 1)) (hq : pc + 1 = q) (k : Go p e below Φ (T.setTop (mkF m q L (.int (-x) :: S)))) : Go p e below Φ (T.setTop (mkF m pc L (.int x :: S))) := by
  subst hq; exact Go.by (fun _ => XS.ineg hA hx rfl hd rfl) k
theorem g_i2l (hA : At T m c below) (hx : p.tables.exec = Jvm.exec) {x : Int32} (hd : decode c.code pc = .ok (.i2l, 1)) (hq : pc + 1 = q) (k : Go p e below Φ (T.setTop (mkF m q L (.long x.toInt64 :: S)))) : Go p e below Φ (T.setTop (mkF m pc L (.int x :: S))) := by
  subst hq; exact Go.by (fun _ => XS.i2l hA hx rfl hd rfl) k
theorem g_l2i (hA : At T m c below) (hx : p.tables.exec = Jvm.exec) {x : Int64} (hd : decode c.code pc = .ok (.l2i, 1)) (hq : pc + 1 = q) (k : Go p e below Φ (T.setTop (mkF m q L (.int x.toInt32 :: S)))) : Go p e below Φ (T.setTop (mkF m pc L (.long x :: S))) := by
  subst hq; exact Go.by (fun _ => XS.l2i hA hx rfl hd rfl) k
theorem g_i2c (hA : At T m c below) (hx : p.tables.exec = Jvm.exec) {x : Int32} (hd : decode c.code pc = .ok (.i2c, 1)) (hq : pc + 1 = q) (k : Go p e below Φ (T.setTop (mkF m q L (.int x.toUInt32.toUInt16.toUInt32.toInt32 :: S)))) : Go p e below Φ (T.setTop (mkF m pc L (.int x :: S))) := by
  subst hq; exact Go.by (fun _ => XS.i2c hA hx rfl hd rfl) k
theorem g_lcmp (hA : At T m c below) (hx : p.tables.exec = Jvm.exec) {x y : Int64} (hd : decode c.code pc = .ok (.lcmp, 1)) (hq : pc + 1 = q) (k : Go p e below Φ (T.setTop (mkF m q L (.int (lcmpW x y) :: S)))) : Go p e below Φ (T.setTop (mkF m pc L (.long y :: .long x :: S))) := by
  subst hq; exact Go.by (fun _ => XS.lcmp hA hx rfl hd rfl) k
theorem g_iinc (hA : At T m c below) (hx : p.tables.exec = Jvm.exec) {j : Nat} {i : Int} {x v : Int32} {L' : Array Slot} (hd : decode c.code pc = .ok (.iinc j i, 3)) (hl : L[j]? = some (.val (.int x))) (hv : x + Int32.ofInt i = v) (hl' : storeLocals L j (.int v) = some L') (hq : pc + 3 = q) (k : Go p e below Φ (T.setTop (mkF m q L' S))) : Go p e below Φ (T.setTop (mkF m pc L S)) := by
  subst hq; exact Go.by (fun _ => XS.iinc hA hx rfl hd hl (by rw [hv]; exact hl')) k
theorem g_dup (hA : At T m c below) (hx : p.tables.exec = Jvm.exec) {v : Value} (hd : decode c.code pc = .ok (.dup, 1)) (hv : v.category = 1) (hq : pc + 1 = q) (k : Go p e below Φ (T.setTop (mkF m q L (v :: v :: S)))) : Go p e below Φ (T.setTop (mkF m pc L (v :: S))) := by
  subst hq; exact Go.by (fun _ => XS.dup hA hx rfl hd rfl hv) k
theorem g_pop (hA : At T m c below) (hx : p.tables.exec = Jvm.exec) {v : Value} (hd : decode c.code pc = .ok (.pop, 1)) (hv : v.category = 1) (hq : pc + 1 = q) (k : Go p e below Φ (T.setTop (mkF m q L S))) : Go p e below Φ (T.setTop (mkF m pc L (v :: S))) := by
  subst hq; exact Go.by (fun _ => XS.pop hA hx rfl hd rfl hv) k
theorem g_dupX1 (hA : At T m c below) (hx : p.tables.exec = Jvm.exec) {v w : Value} (hd : decode c.code pc = .ok (.dup_x1, 1)) (hv : v.category = 1) (hw' : w.category = 1) (hq : pc + 1 = q) (k : Go p e below Φ (T.setTop (mkF m q L (v :: w :: v :: S)))) : Go p e below Φ (T.setTop (mkF m pc L (v :: w :: S))) := by
  subst hq; exact Go.by (fun _ => XS.dupX1 hA hx rfl hd rfl hv hw') k
theorem g_dup2 (hA : At T m c below) (hx : p.tables.exec = Jvm.exec) {v w : Value} (hd : decode c.code pc = .ok (.dup2, 1)) (hv : v.category = 1) (hw' : w.category = 1) (hq : pc + 1 = q) (k : Go p e below Φ (T.setTop (mkF m q L (v :: w :: v :: w :: S)))) : Go p e below Φ (T.setTop (mkF m pc L (v :: w :: S))) := by
  subst hq; exact Go.by (fun _ => Jvm.Free.XT.dup2 hA hx rfl hd rfl hv hw') k
theorem g_goto (hA : At T m c below) (hx : p.tables.exec = Jvm.exec) {o : Int} (hd : decode c.code pc = .ok (.goto o, 3)) (ho : 0 ≤ (pc : Int) + o) (hq : ((pc : Int) + o).toNat = q) (k : Go p e below Φ (T.setTop (mkF m q L S))) : Go p e below Φ (T.setTop (mkF m pc L S)) := Go.by (fun _ => XS.goto hA hx rfl rfl hd ho hq) k
theorem g_icmp (hA : At T m c below) (hx : p.tables.exec = Jvm.exec) {cd : ClassFile.Cond} {o : Int} {q0 : Nat} {x y : Int32} (hd : decode c.code pc = .ok (.if_icmp cd o, 3)) (ho : 0 ≤ (pc : Int) + o) (hq : ((pc : Int) + o).toNat = q) (hq0 : pc + 3 = q0) (k1 : if_icmp.holds cd x y = true → Go p e below Φ (T.setTop (mkF m q L S))) (k0 : if_icmp.holds cd x y = false → Go p e below Φ (T.setTop (mkF m q0 L S))) : Go p e below Φ (T.setTop (mkF m pc L (.int y :: .int x :: S))) := by
  subst hq0
  cases hb : if_icmp.holds cd x y
  · exact Go.by (fun _ => XS.icmpNo hA hx rfl hd rfl hb) (k0 hb)
  · exact Go.by (fun _ => XS.icmpYes hA hx rfl rfl hd rfl hb ho hq) (k1 hb)
theorem g_if0 (hA : At T m c below) (hx : p.tables.exec = Jvm.exec) {cd : ClassFile.Cond} {o : Int} {q0 : Nat} {x : Int32} (hd : decode c.code pc = .ok (.ifCond cd o, 3)) (ho : 0 ≤ (pc : Int) + o) (hq : ((pc : Int) + o).toNat = q) (hq0 : pc + 3 = q0) (k1 : if_icmp.holds cd x 0 = true → Go p e below Φ (T.setTop (mkF m q L S))) (k0 : if_icmp.holds cd x 0 = false → Go p e below Φ (T.setTop (mkF m q0 L S))) : Go p e below Φ (T.setTop (mkF m pc L (.int x :: S))) := by
  subst hq0
  cases hb : if_icmp.holds cd x 0
  · exact Go.by (fun _ => XS.ifNo hA hx rfl hd rfl ((if0 _ _).trans hb)) (k0 hb)
  · exact Go.by (fun _ => XS.ifYes hA hx rfl rfl hd rfl ((if0 _ _).trans hb) ho hq) (k1 hb)
theorem rel_eq {x y : Int32} : (if_icmp.holds .eq x y = true → x.toInt = y.toInt) ∧ (if_icmp.holds .eq x y = false → x.toInt ≠ y.toInt) := by
  constructor <;> intro h <;> simp [if_icmp.holds, Int32.lt_iff_toInt_lt, Int32.le_iff_toInt_le, ← Int32.toInt_inj] at h <;> omega
theorem g_icmp_eq (hA : At T m c below) (hx : p.tables.exec = Jvm.exec) {o : Int} {q0 : Nat} {x y : Int32} (hd : decode c.code pc = .ok (.if_icmp .eq o, 3)) (ho : 0 ≤ (pc : Int) + o) (hq : ((pc : Int) + o).toNat = q) (hq0 : pc + 3 = q0) (k1 : x.toInt = y.toInt → Go p e below Φ (T.setTop (mkF m q L S))) (k0 : x.toInt ≠ y.toInt → Go p e below Φ (T.setTop (mkF m q0 L S))) : Go p e below Φ (T.setTop (mkF m pc L (.int y :: .int x :: S))) := g_icmp hA hx hd ho hq hq0 (fun h => k1 (rel_eq.1 h)) (fun h => k0 (rel_eq.2 h))
theorem g_if_eq (hA : At T m c below) (hx : p.tables.exec = Jvm.exec) {o : Int} {q0 : Nat} {x : Int32} (hd : decode c.code pc = .ok (.ifCond .eq o, 3)) (ho : 0 ≤ (pc : Int) + o) (hq : ((pc : Int) + o).toNat = q) (hq0 : pc + 3 = q0) (k1 : x.toInt = 0 → Go p e below Φ (T.setTop (mkF m q L S))) (k0 : x.toInt ≠ 0 → Go p e below Φ (T.setTop (mkF m q0 L S))) : Go p e below Φ (T.setTop (mkF m pc L (.int x :: S))) := g_if0 hA hx hd ho hq hq0 (fun h => k1 (rel_eq.1 h)) (fun h => k0 (rel_eq.2 h))
theorem rell_eq {x y : Int64} : (if_icmp.holds .eq (lcmpW x y) 0 = true → x.toInt = y.toInt) ∧ (if_icmp.holds .eq (lcmpW x y) 0 = false → x.toInt ≠ y.toInt) := by
  have q := c_lcmp x y
  constructor <;> intro h
  · have h' := (rel_eq (x := lcmpW x y) (y := 0)).1 h; rw [show (0 : Int32).toInt = 0 from rfl] at h'; generalize lcmpW x y = w at *; omega
  · have h' := (rel_eq (x := lcmpW x y) (y := 0)).2 h; rw [show (0 : Int32).toInt = 0 from rfl] at h'; generalize lcmpW x y = w at *; omega
theorem g_lcmp_eq (hA : At T m c below) (hx : p.tables.exec = Jvm.exec) {o : Int} {q1 q0 : Nat} {x y : Int64} (hd : decode c.code pc = .ok (.lcmp, 1)) (hq1 : pc + 1 = q1) (hd' : decode c.code q1 = .ok (.ifCond .eq o, 3)) (ho : 0 ≤ (q1 : Int) + o) (hq : ((q1 : Int) + o).toNat = q) (hq0 : q1 + 3 = q0) (k1 : x.toInt = y.toInt → Go p e below Φ (T.setTop (mkF m q L S))) (k0 : x.toInt ≠ y.toInt → Go p e below Φ (T.setTop (mkF m q0 L S))) : Go p e below Φ (T.setTop (mkF m pc L (.long y :: .long x :: S))) := g_lcmp hA hx hd hq1 (g_if0 hA hx hd' ho hq hq0 (fun h => k1 (rell_eq.1 h)) (fun h => k0 (rell_eq.2 h)))
theorem rel_ne {x y : Int32} : (if_icmp.holds .ne x y = true → x.toInt ≠ y.toInt) ∧ (if_icmp.holds .ne x y = false → x.toInt = y.toInt) := by
  constructor <;> intro h <;> simp [if_icmp.holds, Int32.lt_iff_toInt_lt, Int32.le_iff_toInt_le, ← Int32.toInt_inj] at h <;> omega
theorem g_icmp_ne (hA : At T m c below) (hx : p.tables.exec = Jvm.exec) {o : Int} {q0 : Nat} {x y : Int32} (hd : decode c.code pc = .ok (.if_icmp .ne o, 3)) (ho : 0 ≤ (pc : Int) + o) (hq : ((pc : Int) + o).toNat = q) (hq0 : pc + 3 = q0) (k1 : x.toInt ≠ y.toInt → Go p e below Φ (T.setTop (mkF m q L S))) (k0 : x.toInt = y.toInt → Go p e below Φ (T.setTop (mkF m q0 L S))) : Go p e below Φ (T.setTop (mkF m pc L (.int y :: .int x :: S))) := g_icmp hA hx hd ho hq hq0 (fun h => k1 (rel_ne.1 h)) (fun h => k0 (rel_ne.2 h))
theorem g_if_ne (hA : At T m c below) (hx : p.tables.exec = Jvm.exec) {o : Int} {q0 : Nat} {x : Int32} (hd : decode c.code pc = .ok (.ifCond .ne o, 3)) (ho : 0 ≤ (pc : Int) + o) (hq : ((pc : Int) + o).toNat = q) (hq0 : pc + 3 = q0) (k1 : x.toInt ≠ 0 → Go p e below Φ (T.setTop (mkF m q L S))) (k0 : x.toInt = 0 → Go p e below Φ (T.setTop (mkF m q0 L S))) : Go p e below Φ (T.setTop (mkF m pc L (.int x :: S))) := g_if0 hA hx hd ho hq hq0 (fun h => k1 (rel_ne.1 h)) (fun h => k0 (rel_ne.2 h))
theorem rell_ne {x y : Int64} : (if_icmp.holds .ne (lcmpW x y) 0 = true → x.toInt ≠ y.toInt) ∧ (if_icmp.holds .ne (lcmpW x y) 0 = false → x.toInt = y.toInt) := by
  have q := c_lcmp x y
  constructor <;> intro h
  · have h' := (rel_ne (x := lcmpW x y) (y := 0)).1 h; rw [show (0 : Int32).toInt = 0 from rfl] at h'; generalize lcmpW x y = w at *; omega
  · have h' := (rel_ne (x := lcmpW x y) (y := 0)).2 h; rw [show (0 : Int32).toInt = 0 from rfl] at h'; generalize lcmpW x y = w at *; omega
theorem g_lcmp_ne (hA : At T m c below) (hx : p.tables.exec = Jvm.exec) {o : Int} {q1 q0 : Nat} {x y : Int64} (hd : decode c.code pc = .ok (.lcmp, 1)) (hq1 : pc + 1 = q1) (hd' : decode c.code q1 = .ok (.ifCond .ne o, 3)) (ho : 0 ≤ (q1 : Int) + o) (hq : ((q1 : Int) + o).toNat = q) (hq0 : q1 + 3 = q0) (k1 : x.toInt ≠ y.toInt → Go p e below Φ (T.setTop (mkF m q L S))) (k0 : x.toInt = y.toInt → Go p e below Φ (T.setTop (mkF m q0 L S))) : Go p e below Φ (T.setTop (mkF m pc L (.long y :: .long x :: S))) := g_lcmp hA hx hd hq1 (g_if0 hA hx hd' ho hq hq0 (fun h => k1 (rell_ne.1 h)) (fun h => k0 (rell_ne.2 h)))
theorem rel_lt {x y : Int32} : (if_icmp.holds .lt x y = true → x.toInt < y.toInt) ∧ (if_icmp.holds .lt x y = false → y.toInt ≤ x.toInt) := by
  constructor <;> intro h <;> simp [if_icmp.holds, Int32.lt_iff_toInt_lt, Int32.le_iff_toInt_le, ← Int32.toInt_inj] at h <;> omega
theorem g_icmp_lt (hA : At T m c below) (hx : p.tables.exec = Jvm.exec) {o : Int} {q0 : Nat} {x y : Int32} (hd : decode c.code pc = .ok (.if_icmp .lt o, 3)) (ho : 0 ≤ (pc : Int) + o) (hq : ((pc : Int) + o).toNat = q) (hq0 : pc + 3 = q0) (k1 : x.toInt < y.toInt → Go p e below Φ (T.setTop (mkF m q L S))) (k0 : y.toInt ≤ x.toInt → Go p e below Φ (T.setTop (mkF m q0 L S))) : Go p e below Φ (T.setTop (mkF m pc L (.int y :: .int x :: S))) := g_icmp hA hx hd ho hq hq0 (fun h => k1 (rel_lt.1 h)) (fun h => k0 (rel_lt.2 h))
theorem g_if_lt (hA : At T m c below) (hx : p.tables.exec = Jvm.exec) {o : Int} {q0 : Nat} {x : Int32} (hd : decode c.code pc = .ok (.ifCond .lt o, 3)) (ho : 0 ≤ (pc : Int) + o) (hq : ((pc : Int) + o).toNat = q) (hq0 : pc + 3 = q0) (k1 : x.toInt < 0 → Go p e below Φ (T.setTop (mkF m q L S))) (k0 : 0 ≤ x.toInt → Go p e below Φ (T.setTop (mkF m q0 L S))) : Go p e below Φ (T.setTop (mkF m pc L (.int x :: S))) := g_if0 hA hx hd ho hq hq0 (fun h => k1 (rel_lt.1 h)) (fun h => k0 (rel_lt.2 h))
theorem rell_lt {x y : Int64} : (if_icmp.holds .lt (lcmpW x y) 0 = true → x.toInt < y.toInt) ∧ (if_icmp.holds .lt (lcmpW x y) 0 = false → y.toInt ≤ x.toInt) := by
  have q := c_lcmp x y
  constructor <;> intro h
  · have h' := (rel_lt (x := lcmpW x y) (y := 0)).1 h; rw [show (0 : Int32).toInt = 0 from rfl] at h'; generalize lcmpW x y = w at *; omega
  · have h' := (rel_lt (x := lcmpW x y) (y := 0)).2 h; rw [show (0 : Int32).toInt = 0 from rfl] at h'; generalize lcmpW x y = w at *; omega
theorem g_lcmp_lt (hA : At T m c below) (hx : p.tables.exec = Jvm.exec) {o : Int} {q1 q0 : Nat} {x y : Int64} (hd : decode c.code pc = .ok (.lcmp, 1)) (hq1 : pc + 1 = q1) (hd' : decode c.code q1 = .ok (.ifCond .lt o, 3)) (ho : 0 ≤ (q1 : Int) + o) (hq : ((q1 : Int) + o).toNat = q) (hq0 : q1 + 3 = q0) (k1 : x.toInt < y.toInt → Go p e below Φ (T.setTop (mkF m q L S))) (k0 : y.toInt ≤ x.toInt → Go p e below Φ (T.setTop (mkF m q0 L S))) : Go p e below Φ (T.setTop (mkF m pc L (.long y :: .long x :: S))) := g_lcmp hA hx hd hq1 (g_if0 hA hx hd' ho hq hq0 (fun h => k1 (rell_lt.1 h)) (fun h => k0 (rell_lt.2 h)))
theorem rel_ge {x y : Int32} : (if_icmp.holds .ge x y = true → y.toInt ≤ x.toInt) ∧ (if_icmp.holds .ge x y = false → x.toInt < y.toInt) := by
  constructor <;> intro h <;> simp [if_icmp.holds, Int32.lt_iff_toInt_lt, Int32.le_iff_toInt_le, ← Int32.toInt_inj] at h <;> omega
theorem g_icmp_ge (hA : At T m c below) (hx : p.tables.exec = Jvm.exec) {o : Int} {q0 : Nat} {x y : Int32} (hd : decode c.code pc = .ok (.if_icmp .ge o, 3)) (ho : 0 ≤ (pc : Int) + o) (hq : ((pc : Int) + o).toNat = q) (hq0 : pc + 3 = q0) (k1 : y.toInt ≤ x.toInt → Go p e below Φ (T.setTop (mkF m q L S))) (k0 : x.toInt < y.toInt → Go p e below Φ (T.setTop (mkF m q0 L S))) : Go p e below Φ (T.setTop (mkF m pc L (.int y :: .int x :: S))) := g_icmp hA hx hd ho hq hq0 (fun h => k1 (rel_ge.1 h)) (fun h => k0 (rel_ge.2 h))
theorem g_if_ge (hA : At T m c below) (hx : p.tables.exec = Jvm.exec) {o : Int} {q0 : Nat} {x : Int32} (hd : decode c.code pc = .ok (.ifCond .ge o, 3)) (ho : 0 ≤ (pc : Int) + o) (hq : ((pc : Int) + o).toNat = q) (hq0 : pc + 3 = q0) (k1 : 0 ≤ x.toInt → Go p e below Φ (T.setTop (mkF m q L S))) (k0 : x.toInt < 0 → Go p e below Φ (T.setTop (mkF m q0 L S))) : Go p e below Φ (T.setTop (mkF m pc L (.int x :: S))) := g_if0 hA hx hd ho hq hq0 (fun h => k1 (rel_ge.1 h)) (fun h => k0 (rel_ge.2 h))
theorem rell_ge {x y : Int64} : (if_icmp.holds .ge (lcmpW x y) 0 = true → y.toInt ≤ x.toInt) ∧ (if_icmp.holds .ge (lcmpW x y) 0 = false → x.toInt < y.toInt) := by
  have q := c_lcmp x y
  constructor <;> intro h
  · have h' := (rel_ge (x := lcmpW x y) (y := 0)).1 h; rw [show (0 : Int32).toInt = 0 from rfl] at h'; generalize lcmpW x y = w at *; omega
  · have h' := (rel_ge (x := lcmpW x y) (y := 0)).2 h; rw [show (0 : Int32).toInt = 0 from rfl] at h'; generalize lcmpW x y = w at *; omega
theorem g_lcmp_ge (hA : At T m c below) (hx : p.tables.exec = Jvm.exec) {o : Int} {q1 q0 : Nat} {x y : Int64} (hd : decode c.code pc = .ok (.lcmp, 1)) (hq1 : pc + 1 = q1) (hd' : decode c.code q1 = .ok (.ifCond .ge o, 3)) (ho : 0 ≤ (q1 : Int) + o) (hq : ((q1 : Int) + o).toNat = q) (hq0 : q1 + 3 = q0) (k1 : y.toInt ≤ x.toInt → Go p e below Φ (T.setTop (mkF m q L S))) (k0 : x.toInt < y.toInt → Go p e below Φ (T.setTop (mkF m q0 L S))) : Go p e below Φ (T.setTop (mkF m pc L (.long y :: .long x :: S))) := g_lcmp hA hx hd hq1 (g_if0 hA hx hd' ho hq hq0 (fun h => k1 (rell_ge.1 h)) (fun h => k0 (rell_ge.2 h)))
theorem rel_gt {x y : Int32} : (if_icmp.holds .gt x y = true → y.toInt < x.toInt) ∧ (if_icmp.holds .gt x y = false → x.toInt ≤ y.toInt) := by
  constructor <;> intro h <;> simp [if_icmp.holds, Int32.lt_iff_toInt_lt, Int32.le_iff_toInt_le, ← Int32.toInt_inj] at h <;> omega
theorem g_icmp_gt (hA : At T m c below) (hx : p.tables.exec = Jvm.exec) {o : Int} {q0 : Nat} {x y : Int32} (hd : decode c.code pc = .ok (.if_icmp .gt o, 3)) (ho : 0 ≤ (pc : Int) + o) (hq : ((pc : Int) + o).toNat = q) (hq0 : pc + 3 = q0) (k1 : y.toInt < x.toInt → Go p e below Φ (T.setTop (mkF m q L S))) (k0 : x.toInt ≤ y.toInt → Go p e below Φ (T.setTop (mkF m q0 L S))) : Go p e below Φ (T.setTop (mkF m pc L (.int y :: .int x :: S))) := g_icmp hA hx hd ho hq hq0 (fun h => k1 (rel_gt.1 h)) (fun h => k0 (rel_gt.2 h))
theorem g_if_gt (hA : At T m c below) (hx : p.tables.exec = Jvm.exec) {o : Int} {q0 : Nat} {x : Int32} (hd : decode c.code pc = .ok (.ifCond .gt o, 3)) (ho : 0 ≤ (pc : Int) + o) (hq : ((pc : Int) + o).toNat = q) (hq0 : pc + 3 = q0) (k1 : 0 < x.toInt → Go p e below Φ (T.setTop (mkF m q L S))) (k0 : x.toInt ≤ 0 → Go p e below Φ (T.setTop (mkF m q0 L S))) : Go p e below Φ (T.setTop (mkF m pc L (.int x :: S))) := g_if0 hA hx hd ho hq hq0 (fun h => k1 (rel_gt.1 h)) (fun h => k0 (rel_gt.2 h))
theorem rell_gt {x y : Int64} : (if_icmp.holds .gt (lcmpW x y) 0 = true → y.toInt < x.toInt) ∧ (if_icmp.holds .gt (lcmpW x y) 0 = false → x.toInt ≤ y.toInt) := by
  have q := c_lcmp x y
  constructor <;> intro h
  · have h' := (rel_gt (x := lcmpW x y) (y := 0)).1 h; rw [show (0 : Int32).toInt = 0 from rfl] at h'; generalize lcmpW x y = w at *; omega
  · have h' := (rel_gt (x := lcmpW x y) (y := 0)).2 h; rw [show (0 : Int32).toInt = 0 from rfl] at h'; generalize lcmpW x y = w at *; omega
theorem g_lcmp_gt (hA : At T m c below) (hx : p.tables.exec = Jvm.exec) {o : Int} {q1 q0 : Nat} {x y : Int64} (hd : decode c.code pc = .ok (.lcmp, 1)) (hq1 : pc + 1 = q1) (hd' : decode c.code q1 = .ok (.ifCond .gt o, 3)) (ho : 0 ≤ (q1 : Int) + o) (hq : ((q1 : Int) + o).toNat = q) (hq0 : q1 + 3 = q0) (k1 : y.toInt < x.toInt → Go p e below Φ (T.setTop (mkF m q L S))) (k0 : x.toInt ≤ y.toInt → Go p e below Φ (T.setTop (mkF m q0 L S))) : Go p e below Φ (T.setTop (mkF m pc L (.long y :: .long x :: S))) := g_lcmp hA hx hd hq1 (g_if0 hA hx hd' ho hq hq0 (fun h => k1 (rell_gt.1 h)) (fun h => k0 (rell_gt.2 h)))
theorem rel_le {x y : Int32} : (if_icmp.holds .le x y = true → x.toInt ≤ y.toInt) ∧ (if_icmp.holds .le x y = false → y.toInt < x.toInt) := by
  constructor <;> intro h <;> simp [if_icmp.holds, Int32.lt_iff_toInt_lt, Int32.le_iff_toInt_le, ← Int32.toInt_inj] at h <;> omega
theorem g_icmp_le (hA : At T m c below) (hx : p.tables.exec = Jvm.exec) {o : Int} {q0 : Nat} {x y : Int32} (hd : decode c.code pc = .ok (.if_icmp .le o, 3)) (ho : 0 ≤ (pc : Int) + o) (hq : ((pc : Int) + o).toNat = q) (hq0 : pc + 3 = q0) (k1 : x.toInt ≤ y.toInt → Go p e below Φ (T.setTop (mkF m q L S))) (k0 : y.toInt < x.toInt → Go p e below Φ (T.setTop (mkF m q0 L S))) : Go p e below Φ (T.setTop (mkF m pc L (.int y :: .int x :: S))) := g_icmp hA hx hd ho hq hq0 (fun h => k1 (rel_le.1 h)) (fun h => k0 (rel_le.2 h))
theorem g_if_le (hA : At T m c below) (hx : p.tables.exec = Jvm.exec) {o : Int} {q0 : Nat} {x : Int32} (hd : decode c.code pc = .ok (.ifCond .le o, 3)) (ho : 0 ≤ (pc : Int) + o) (hq : ((pc : Int) + o).toNat = q) (hq0 : pc + 3 = q0) (k1 : x.toInt ≤ 0 → Go p e below Φ (T.setTop (mkF m q L S))) (k0 : 0 < x.toInt → Go p e below Φ (T.setTop (mkF m q0 L S))) : Go p e below Φ (T.setTop (mkF m pc L (.int x :: S))) := g_if0 hA hx hd ho hq hq0 (fun h => k1 (rel_le.1 h)) (fun h => k0 (rel_le.2 h))
theorem rell_le {x y : Int64} : (if_icmp.holds .le (lcmpW x y) 0 = true → x.toInt ≤ y.toInt) ∧ (if_icmp.holds .le (lcmpW x y) 0 = false → y.toInt < x.toInt) := by
  have q := c_lcmp x y
  constructor <;> intro h
  · have h' := (rel_le (x := lcmpW x y) (y := 0)).1 h; rw [show (0 : Int32).toInt = 0 from rfl] at h'; generalize lcmpW x y = w at *; omega
  · have h' := (rel_le (x := lcmpW x y) (y := 0)).2 h; rw [show (0 : Int32).toInt = 0 from rfl] at h'; generalize lcmpW x y = w at *; omega
theorem g_lcmp_le (hA : At T m c below) (hx : p.tables.exec = Jvm.exec) {o : Int} {q1 q0 : Nat} {x y : Int64} (hd : decode c.code pc = .ok (.lcmp, 1)) (hq1 : pc + 1 = q1) (hd' : decode c.code q1 = .ok (.ifCond .le o, 3)) (ho : 0 ≤ (q1 : Int) + o) (hq : ((q1 : Int) + o).toNat = q) (hq0 : q1 + 3 = q0) (k1 : x.toInt ≤ y.toInt → Go p e below Φ (T.setTop (mkF m q L S))) (k0 : y.toInt < x.toInt → Go p e below Φ (T.setTop (mkF m q0 L S))) : Go p e below Φ (T.setTop (mkF m pc L (.long y :: .long x :: S))) := g_lcmp hA hx hd hq1 (g_if0 hA hx hd' ho hq hq0 (fun h => k1 (rell_le.1 h)) (fun h => k0 (rell_le.2 h)))
theorem g_ifB_ne (hA : At T m c below) (hx : p.tables.exec = Jvm.exec) {o : Int} {q0 : Nat} {b : Bool} (hd : decode c.code pc = .ok (.ifCond .ne o, 3)) (ho : 0 ≤ (pc : Int) + o) (hq : ((pc : Int) + o).toNat = q) (hq0 : pc + 3 = q0) (k1 : b = true → Go p e below Φ (T.setTop (mkF m q L S))) (k0 : b = false → Go p e below Φ (T.setTop (mkF m q0 L S))) : Go p e below Φ (T.setTop (mkF m pc L (.int (b2i b) :: S))) := g_if0 hA hx hd ho hq hq0 (fun h => k1 (by cases b <;> first | rfl | exact Bool.noConfusion h)) (fun h => k0 (by cases b <;> first | rfl | exact Bool.noConfusion h))
theorem g_ifB_eq (hA : At T m c below) (hx : p.tables.exec = Jvm.exec) {o : Int} {q0 : Nat} {b : Bool} (hd : decode c.code pc = .ok (.ifCond .eq o, 3)) (ho : 0 ≤ (pc : Int) + o) (hq : ((pc : Int) + o).toNat = q) (hq0 : pc + 3 = q0) (k1 : b = false → Go p e below Φ (T.setTop (mkF m q L S))) (k0 : b = true → Go p e below Φ (T.setTop (mkF m q0 L S))) : Go p e below Φ (T.setTop (mkF m pc L (.int (b2i b) :: S))) := g_if0 hA hx hd ho hq hq0 (fun h => k1 (by cases b <;> first | rfl | exact Bool.noConfusion h)) (fun h => k0 (by cases b <;> first | rfl | exact Bool.noConfusion h))
theorem g_sel_icmp_eq (hA : At T m c below) (hx : p.tables.exec = Jvm.exec) {o o' : Int} {z t t' : Nat} {x y : Int32} (hd : decode c.code pc = .ok (.if_icmp .eq o, 3)) (ho : 0 ≤ (pc : Int) + o) (hz' : ((pc : Int) + o).toNat = z) (ht0 : pc + 3 = t) (hz : decode c.code z = .ok (.iconst 0, 1)) (ht : decode c.code t = .ok (.iconst 1, 1)) (hg : decode c.code t' = .ok (.goto o', 3)) (ht' : t + 1 = t') (hog : 0 ≤ (t' : Int) + o') (hj : ((t' : Int) + o').toNat = q) (hj' : z + 1 = q) (k : Go p e below Φ (T.setTop (mkF m q L (.int (b2i (decide (x.toInt ≠ y.toInt))) :: S)))) : Go p e below Φ (T.setTop (mkF m pc L (.int y :: .int x :: S))) :=
  g_icmp_eq hA hx hd ho hz' ht0 (fun h => g_iconst hA hx hz rfl hj' (by rw [show decide (x.toInt ≠ y.toInt) = false from decide_eq_false (by omega)] at k; exact k)) (fun h => g_iconst hA hx ht rfl ht' (g_goto hA hx hg hog hj (by rw [show decide (x.toInt ≠ y.toInt) = true from decide_eq_true (by omega)] at k; exact k)))
theorem g_sel_icmp_ne (hA : At T m c below) (hx : p.tables.exec = Jvm.exec) {o o' : Int} {z t t' : Nat} {x y : Int32} (hd : decode c.code pc = .ok (.if_icmp .ne o, 3)) (ho : 0 ≤ (pc : Int) + o) (hz' : ((pc : Int) + o).toNat = z) (ht0 : pc + 3 = t) (hz : decode c.code z = .ok (.iconst 0, 1)) (ht : decode c.code t = .ok (.iconst 1, 1)) (hg : decode c.code t' = .ok (.goto o', 3)) (ht' : t + 1 = t') (hog : 0 ≤ (t' : Int) + o') (hj : ((t' : Int) + o').toNat = q) (hj' : z + 1 = q) (k : Go p e below Φ (T.setTop (mkF m q L (.int (b2i (decide (x.toInt = y.toInt))) :: S)))) : Go p e below Φ (T.setTop (mkF m pc L (.int y :: .int x :: S))) :=
  g_icmp_ne hA hx hd ho hz' ht0 (fun h => g_iconst hA hx hz rfl hj' (by rw [show decide (x.toInt = y.toInt) = false from decide_eq_false (by omega)] at k; exact k)) (fun h => g_iconst hA hx ht rfl ht' (g_goto hA hx hg hog hj (by rw [show decide (x.toInt = y.toInt) = true from decide_eq_true (by omega)] at k; exact k)))
theorem g_sel_icmp_lt (hA : At T m c below) (hx : p.tables.exec = Jvm.exec) {o o' : Int} {z t t' : Nat} {x y : Int32} (hd : decode c.code pc = .ok (.if_icmp .lt o, 3)) (ho : 0 ≤ (pc : Int) + o) (hz' : ((pc : Int) + o).toNat = z) (ht0 : pc + 3 = t) (hz : decode c.code z = .ok (.iconst 0, 1)) (ht : decode c.code t = .ok (.iconst 1, 1)) (hg : decode c.code t' = .ok (.goto o', 3)) (ht' : t + 1 = t') (hog : 0 ≤ (t' : Int) + o') (hj : ((t' : Int) + o').toNat = q) (hj' : z + 1 = q) (k : Go p e below Φ (T.setTop (mkF m q L (.int (b2i (decide (y.toInt ≤ x.toInt))) :: S)))) : Go p e below Φ (T.setTop (mkF m pc L (.int y :: .int x :: S))) :=
  g_icmp_lt hA hx hd ho hz' ht0 (fun h => g_iconst hA hx hz rfl hj' (by rw [show decide (y.toInt ≤ x.toInt) = false from decide_eq_false (by omega)] at k; exact k)) (fun h => g_iconst hA hx ht rfl ht' (g_goto hA hx hg hog hj (by rw [show decide (y.toInt ≤ x.toInt) = true from decide_eq_true (by omega)] at k; exact k)))
theorem g_sel_icmp_ge (hA : At T m c below) (hx : p.tables.exec = Jvm.exec) {o o' : Int} {z t t' : Nat} {x y : Int32} (hd : decode c.code pc = .ok (.if_icmp .ge o, 3)) (ho : 0 ≤ (pc : Int) + o) (hz' : ((pc : Int) + o).toNat = z) (ht0 : pc + 3 = t) (hz : decode c.code z = .ok (.iconst 0, 1)) (ht : decode c.code t = .ok (.iconst 1, 1)) (hg : decode c.code t' = .ok (.goto o', 3)) (ht' : t + 1 = t') (hog : 0 ≤ (t' : Int) + o') (hj : ((t' : Int) + o').toNat = q) (hj' : z + 1 = q) (k : Go p e below Φ (T.setTop (mkF m q L (.int (b2i (decide (x.toInt < y.toInt))) :: S)))) : Go p e below Φ (T.setTop (mkF m pc L (.int y :: .int x :: S))) :=
  g_icmp_ge hA hx hd ho hz' ht0 (fun h => g_iconst hA hx hz rfl hj' (by rw [show decide (x.toInt < y.toInt) = false from decide_eq_false (by omega)] at k; exact k)) (fun h => g_iconst hA hx ht rfl ht' (g_goto hA hx hg hog hj (by rw [show decide (x.toInt < y.toInt) = true from decide_eq_true (by omega)] at k; exact k)))
theorem g_sel_icmp_gt (hA : At T m c below) (hx : p.tables.exec = Jvm.exec) {o o' : Int} {z t t' : Nat} {x y : Int32} (hd : decode c.code pc = .ok (.if_icmp .gt o, 3)) (ho : 0 ≤ (pc : Int) + o) (hz' : ((pc : Int) + o).toNat = z) (ht0 : pc + 3 = t) (hz : decode c.code z = .ok (.iconst 0, 1)) (ht : decode c.code t = .ok (.iconst 1, 1)) (hg : decode c.code t' = .ok (.goto o', 3)) (ht' : t + 1 = t') (hog : 0 ≤ (t' : Int) + o') (hj : ((t' : Int) + o').toNat = q) (hj' : z + 1 = q) (k : Go p e below Φ (T.setTop (mkF m q L (.int (b2i (decide (x.toInt ≤ y.toInt))) :: S)))) : Go p e below Φ (T.setTop (mkF m pc L (.int y :: .int x :: S))) :=
  g_icmp_gt hA hx hd ho hz' ht0 (fun h => g_iconst hA hx hz rfl hj' (by rw [show decide (x.toInt ≤ y.toInt) = false from decide_eq_false (by omega)] at k; exact k)) (fun h => g_iconst hA hx ht rfl ht' (g_goto hA hx hg hog hj (by rw [show decide (x.toInt ≤ y.toInt) = true from decide_eq_true (by omega)] at k; exact k)))
theorem g_sel_icmp_le (hA : At T m c below) (hx : p.tables.exec = Jvm.exec) {o o' : Int} {z t t' : Nat} {x y : Int32} (hd : decode c.code pc = .ok (.if_icmp .le o, 3)) (ho : 0 ≤ (pc : Int) + o) (hz' : ((pc : Int) + o).toNat = z) (ht0 : pc + 3 = t) (hz : decode c.code z = .ok (.iconst 0, 1)) (ht : decode c.code t = .ok (.iconst 1, 1)) (hg : decode c.code t' = .ok (.goto o', 3)) (ht' : t + 1 = t') (hog : 0 ≤ (t' : Int) + o') (hj : ((t' : Int) + o').toNat = q) (hj' : z + 1 = q) (k : Go p e below Φ (T.setTop (mkF m q L (.int (b2i (decide (y.toInt < x.toInt))) :: S)))) : Go p e below Φ (T.setTop (mkF m pc L (.int y :: .int x :: S))) :=
  g_icmp_le hA hx hd ho hz' ht0 (fun h => g_iconst hA hx hz rfl hj' (by rw [show decide (y.toInt < x.toInt) = false from decide_eq_false (by omega)] at k; exact k)) (fun h => g_iconst hA hx ht rfl ht' (g_goto hA hx hg hog hj (by rw [show decide (y.toInt < x.toInt) = true from decide_eq_true (by omega)] at k; exact k)))
theorem g_sel_if_eq (hA : At T m c below) (hx : p.tables.exec = Jvm.exec) {o o' : Int} {z t t' : Nat} {x : Int32} (hd : decode c.code pc = .ok (.ifCond .eq o, 3)) (ho : 0 ≤ (pc : Int) + o) (hz' : ((pc : Int) + o).toNat = z) (ht0 : pc + 3 = t) (hz : decode c.code z = .ok (.iconst 0, 1)) (ht : decode c.code t = .ok (.iconst 1, 1)) (hg : decode c.code t' = .ok (.goto o', 3)) (ht' : t + 1 = t') (hog : 0 ≤ (t' : Int) + o') (hj : ((t' : Int) + o').toNat = q) (hj' : z + 1 = q) (k : Go p e below Φ (T.setTop (mkF m q L (.int (b2i (decide (x.toInt ≠ 0))) :: S)))) : Go p e below Φ (T.setTop (mkF m pc L (.int x :: S))) :=
  g_if_eq hA hx hd ho hz' ht0 (fun h => g_iconst hA hx hz rfl hj' (by rw [show decide (x.toInt ≠ 0) = false from decide_eq_false (by omega)] at k; exact k)) (fun h => g_iconst hA hx ht rfl ht' (g_goto hA hx hg hog hj (by rw [show decide (x.toInt ≠ 0) = true from decide_eq_true (by omega)] at k; exact k)))
theorem g_sel_if_ne (hA : At T m c below) (hx : p.tables.exec = Jvm.exec) {o o' : Int} {z t t' : Nat} {x : Int32} (hd : decode c.code pc = .ok (.ifCond .ne o, 3)) (ho : 0 ≤ (pc : Int) + o) (hz' : ((pc : Int) + o).toNat = z) (ht0 : pc + 3 = t) (hz : decode c.code z = .ok (.iconst 0, 1)) (ht : decode c.code t = .ok (.iconst 1, 1)) (hg : decode c.code t' = .ok (.goto o', 3)) (ht' : t + 1 = t') (hog : 0 ≤ (t' : Int) + o') (hj : ((t' : Int) + o').toNat = q) (hj' : z + 1 = q) (k : Go p e below Φ (T.setTop (mkF m q L (.int (b2i (decide (x.toInt = 0))) :: S)))) : Go p e below Φ (T.setTop (mkF m pc L (.int x :: S))) :=
  g_if_ne hA hx hd ho hz' ht0 (fun h => g_iconst hA hx hz rfl hj' (by rw [show decide (x.toInt = 0) = false from decide_eq_false (by omega)] at k; exact k)) (fun h => g_iconst hA hx ht rfl ht' (g_goto hA hx hg hog hj (by rw [show decide (x.toInt = 0) = true from decide_eq_true (by omega)] at k; exact k)))
theorem g_sel_if_lt (hA : At T m c below) (hx : p.tables.exec = Jvm.exec) {o o' : Int} {z t t' : Nat} {x : Int32} (hd : decode c.code pc = .ok (.ifCond .lt o, 3)) (ho : 0 ≤ (pc : Int) + o) (hz' : ((pc : Int) + o).toNat = z) (ht0 : pc + 3 = t) (hz : decode c.code z = .ok (.iconst 0, 1)) (ht : decode c.code t = .ok (.iconst 1, 1)) (hg : decode c.code t' = .ok (.goto o', 3)) (ht' : t + 1 = t') (hog : 0 ≤ (t' : Int) + o') (hj : ((t' : Int) + o').toNat = q) (hj' : z + 1 = q) (k : Go p e below Φ (T.setTop (mkF m q L (.int (b2i (decide (0 ≤ x.toInt))) :: S)))) : Go p e below Φ (T.setTop (mkF m pc L (.int x :: S))) :=
  g_if_lt hA hx hd ho hz' ht0 (fun h => g_iconst hA hx hz rfl hj' (by rw [show decide (0 ≤ x.toInt) = false from decide_eq_false (by omega)] at k; exact k)) (fun h => g_iconst hA hx ht rfl ht' (g_goto hA hx hg hog hj (by rw [show decide (0 ≤ x.toInt) = true from decide_eq_true (by omega)] at k; exact k)))
theorem g_sel_if_ge (hA : At T m c below) (hx : p.tables.exec = Jvm.exec) {o o' : Int} {z t t' : Nat} {x : Int32} (hd : decode c.code pc = .ok (.ifCond .ge o, 3)) (ho : 0 ≤ (pc : Int) + o) (hz' : ((pc : Int) + o).toNat = z) (ht0 : pc + 3 = t) (hz : decode c.code z = .ok (.iconst 0, 1)) (ht : decode c.code t = .ok (.iconst 1, 1)) (hg : decode c.code t' = .ok (.goto o', 3)) (ht' : t + 1 = t') (hog : 0 ≤ (t' : Int) + o') (hj : ((t' : Int) + o').toNat = q) (hj' : z + 1 = q) (k : Go p e below Φ (T.setTop (mkF m q L (.int (b2i (decide (x.toInt < 0))) :: S)))) : Go p e below Φ (T.setTop (mkF m pc L (.int x :: S))) :=
  g_if_ge hA hx hd ho hz' ht0 (fun h => g_iconst hA hx hz rfl hj' (by rw [show decide (x.toInt < 0) = false from decide_eq_false (by omega)] at k; exact k)) (fun h => g_iconst hA hx ht rfl ht' (g_goto hA hx hg hog hj (by rw [show decide (x.toInt < 0) = true from decide_eq_true (by omega)] at k; exact k)))
theorem g_sel_if_gt (hA : At T m c below) (hx : p.tables.exec = Jvm.exec) {o o' : Int} {z t t' : Nat} {x : Int32} (hd : decode c.code pc = .ok (.ifCond .gt o, 3)) (ho : 0 ≤ (pc : Int) + o) (hz' : ((pc : Int) + o).toNat = z) (ht0 : pc + 3 = t) (hz : decode c.code z = .ok (.iconst 0, 1)) (ht : decode c.code t = .ok (.iconst 1, 1)) (hg : decode c.code t' = .ok (.goto o', 3)) (ht' : t + 1 = t') (hog : 0 ≤ (t' : Int) + o') (hj : ((t' : Int) + o').toNat = q) (hj' : z + 1 = q) (k : Go p e below Φ (T.setTop (mkF m q L (.int (b2i (decide (x.toInt ≤ 0))) :: S)))) : Go p e below Φ (T.setTop (mkF m pc L (.int x :: S))) :=
  g_if_gt hA hx hd ho hz' ht0 (fun h => g_iconst hA hx hz rfl hj' (by rw [show decide (x.toInt ≤ 0) = false from decide_eq_false (by omega)] at k; exact k)) (fun h => g_iconst hA hx ht rfl ht' (g_goto hA hx hg hog hj (by rw [show decide (x.toInt ≤ 0) = true from decide_eq_true (by omega)] at k; exact k)))
theorem g_sel_if_le (hA : At T m c below) (hx : p.tables.exec = Jvm.exec) {o o' : Int} {z t t' : Nat} {x : Int32} (hd : decode c.code pc = .ok (.ifCond .le o, 3)) (ho : 0 ≤ (pc : Int) + o) (hz' : ((pc : Int) + o).toNat = z) (ht0 : pc + 3 = t) (hz : decode c.code z = .ok (.iconst 0, 1)) (ht : decode c.code t = .ok (.iconst 1, 1)) (hg : decode c.code t' = .ok (.goto o', 3)) (ht' : t + 1 = t') (hog : 0 ≤ (t' : Int) + o') (hj : ((t' : Int) + o').toNat = q) (hj' : z + 1 = q) (k : Go p e below Φ (T.setTop (mkF m q L (.int (b2i (decide (0 < x.toInt))) :: S)))) : Go p e below Φ (T.setTop (mkF m pc L (.int x :: S))) :=
  g_if_le hA hx hd ho hz' ht0 (fun h => g_iconst hA hx hz rfl hj' (by rw [show decide (0 < x.toInt) = false from decide_eq_false (by omega)] at k; exact k)) (fun h => g_iconst hA hx ht rfl ht' (g_goto hA hx hg hog hj (by rw [show decide (0 < x.toInt) = true from decide_eq_true (by omega)] at k; exact k)))
theorem g_sel_lcmp_eq (hA : At T m c below) (hx : p.tables.exec = Jvm.exec) {o o' : Int} {q1 z t t' : Nat} {x y : Int64} (hd : decode c.code pc = .ok (.lcmp, 1)) (hq1 : pc + 1 = q1) (hd' : decode c.code q1 = .ok (.ifCond .eq o, 3)) (ho : 0 ≤ (q1 : Int) + o) (hz' : ((q1 : Int) + o).toNat = z) (ht0 : q1 + 3 = t) (hz : decode c.code z = .ok (.iconst 0, 1)) (ht : decode c.code t = .ok (.iconst 1, 1)) (hg : decode c.code t' = .ok (.goto o', 3)) (ht' : t + 1 = t') (hog : 0 ≤ (t' : Int) + o') (hj : ((t' : Int) + o').toNat = q) (hj' : z + 1 = q) (k : Go p e below Φ (T.setTop (mkF m q L (.int (b2i (decide (x.toInt ≠ y.toInt))) :: S)))) : Go p e below Φ (T.setTop (mkF m pc L (.long y :: .long x :: S))) :=
  g_lcmp_eq hA hx hd hq1 hd' ho hz' ht0 (fun h => g_iconst hA hx hz rfl hj' (by rw [show decide (x.toInt ≠ y.toInt) = false from decide_eq_false (by omega)] at k; exact k)) (fun h => g_iconst hA hx ht rfl ht' (g_goto hA hx hg hog hj (by rw [show decide (x.toInt ≠ y.toInt) = true from decide_eq_true (by omega)] at k; exact k)))
theorem g_sel_lcmp_ne (hA : At T m c below) (hx : p.tables.exec = Jvm.exec) {o o' : Int} {q1 z t t' : Nat} {x y : Int64} (hd : decode c.code pc = .ok (.lcmp, 1)) (hq1 : pc + 1 = q1) (hd' : decode c.code q1 = .ok (.ifCond .ne o, 3)) (ho : 0 ≤ (q1 : Int) + o) (hz' : ((q1 : Int) + o).toNat = z) (ht0 : q1 + 3 = t) (hz : decode c.code z = .ok (.iconst 0, 1)) (ht : decode c.code t = .ok (.iconst 1, 1)) (hg : decode c.code t' = .ok (.goto o', 3)) (ht' : t + 1 = t') (hog : 0 ≤ (t' : Int) + o') (hj : ((t' : Int) + o').toNat = q) (hj' : z + 1 = q) (k : Go p e below Φ (T.setTop (mkF m q L (.int (b2i (decide (x.toInt = y.toInt))) :: S)))) : Go p e below Φ (T.setTop (mkF m pc L (.long y :: .long x :: S))) :=
  g_lcmp_ne hA hx hd hq1 hd' ho hz' ht0 (fun h => g_iconst hA hx hz rfl hj' (by rw [show decide (x.toInt = y.toInt) = false from decide_eq_false (by omega)] at k; exact k)) (fun h => g_iconst hA hx ht rfl ht' (g_goto hA hx hg hog hj (by rw [show decide (x.toInt = y.toInt) = true from decide_eq_true (by omega)] at k; exact k)))
theorem g_sel_lcmp_lt (hA : At T m c below) (hx : p.tables.exec = Jvm.exec) {o o' : Int} {q1 z t t' : Nat} {x y : Int64} (hd : decode c.code pc = .ok (.lcmp, 1)) (hq1 : pc + 1 = q1) (hd' : decode c.code q1 = .ok (.ifCond .lt o, 3)) (ho : 0 ≤ (q1 : Int) + o) (hz' : ((q1 : Int) + o).toNat = z) (ht0 : q1 + 3 = t) (hz : decode c.code z = .ok (.iconst 0, 1)) (ht : decode c.code t = .ok (.iconst 1, 1)) (hg : decode c.code t' = .ok (.goto o', 3)) (ht' : t + 1 = t') (hog : 0 ≤ (t' : Int) + o') (hj : ((t' : Int) + o').toNat = q) (hj' : z + 1 = q) (k : Go p e below Φ (T.setTop (mkF m q L (.int (b2i (decide (y.toInt ≤ x.toInt))) :: S)))) : Go p e below Φ (T.setTop (mkF m pc L (.long y :: .long x :: S))) :=
  g_lcmp_lt hA hx hd hq1 hd' ho hz' ht0 (fun h => g_iconst hA hx hz rfl hj' (by rw [show decide (y.toInt ≤ x.toInt) = false from decide_eq_false (by omega)] at k; exact k)) (fun h => g_iconst hA hx ht rfl ht' (g_goto hA hx hg hog hj (by rw [show decide (y.toInt ≤ x.toInt) = true from decide_eq_true (by omega)] at k; exact k)))
theorem g_sel_lcmp_ge (hA : At T m c below) (hx : p.tables.exec = Jvm.exec) {o o' : Int} {q1 z t t' : Nat} {x y : Int64} (hd : decode c.code pc = .ok (.lcmp, 1)) (hq1 : pc + 1 = q1) (hd' : decode c.code q1 = .ok (.ifCond .ge o, 3)) (ho : 0 ≤ (q1 : Int) + o) (hz' : ((q1 : Int) + o).toNat = z) (ht0 : q1 + 3 = t) (hz : decode c.code z = .ok (.iconst 0, 1)) (ht : decode c.code t = .ok (.iconst 1, 1)) (hg : decode c.code t' = .ok (.goto o', 3)) (ht' : t + 1 = t') (hog : 0 ≤ (t' : Int) + o') (hj : ((t' : Int) + o').toNat = q) (hj' : z + 1 = q) (k : Go p e below Φ (T.setTop (mkF m q L (.int (b2i (decide (x.toInt < y.toInt))) :: S)))) : Go p e below Φ (T.setTop (mkF m pc L (.long y :: .long x :: S))) :=
  g_lcmp_ge hA hx hd hq1 hd' ho hz' ht0 (fun h => g_iconst hA hx hz rfl hj' (by rw [show decide (x.toInt < y.toInt) = false from decide_eq_false (by omega)] at k; exact k)) (fun h => g_iconst hA hx ht rfl ht' (g_goto hA hx hg hog hj (by rw [show decide (x.toInt < y.toInt) = true from decide_eq_true (by omega)] at k; exact k)))
theorem g_sel_lcmp_gt (hA : At T m c below) (hx : p.tables.exec = Jvm.exec) {o o' : Int} {q1 z t t' : Nat} {x y : Int64} (hd : decode c.code pc = .ok (.lcmp, 1)) (hq1 : pc + 1 = q1) (hd' : decode c.code q1 = .ok (.ifCond .gt o, 3)) (ho : 0 ≤ (q1 : Int) + o) (hz' : ((q1 : Int) + o).toNat = z) (ht0 : q1 + 3 = t) (hz : decode c.code z = .ok (.iconst 0, 1)) (ht : decode c.code t = .ok (.iconst 1, 1)) (hg : decode c.code t' = .ok (.goto o', 3)) (ht' : t + 1 = t') (hog : 0 ≤ (t' : Int) + o') (hj : ((t' : Int) + o').toNat = q) (hj' : z + 1 = q) (k : Go p e below Φ (T.setTop (mkF m q L (.int (b2i (decide (x.toInt ≤ y.toInt))) :: S)))) : Go p e below Φ (T.setTop (mkF m pc L (.long y :: .long x :: S))) :=
  g_lcmp_gt hA hx hd hq1 hd' ho hz' ht0 (fun h => g_iconst hA hx hz rfl hj' (by rw [show decide (x.toInt ≤ y.toInt) = false from decide_eq_false (by omega)] at k; exact k)) (fun h => g_iconst hA hx ht rfl ht' (g_goto hA hx hg hog hj (by rw [show decide (x.toInt ≤ y.toInt) = true from decide_eq_true (by omega)] at k; exact k)))
theorem g_sel_lcmp_le (hA : At T m c below) (hx : p.tables.exec = Jvm.exec) {o o' : Int} {q1 z t t' : Nat} {x y : Int64} (hd : decode c.code pc = .ok (.lcmp, 1)) (hq1 : pc + 1 = q1) (hd' : decode c.code q1 = .ok (.ifCond .le o, 3)) (ho : 0 ≤ (q1 : Int) + o) (hz' : ((q1 : Int) + o).toNat = z) (ht0 : q1 + 3 = t) (hz : decode c.code z = .ok (.iconst 0, 1)) (ht : decode c.code t = .ok (.iconst 1, 1)) (hg : decode c.code t' = .ok (.goto o', 3)) (ht' : t + 1 = t') (hog : 0 ≤ (t' : Int) + o') (hj : ((t' : Int) + o').toNat = q) (hj' : z + 1 = q) (k : Go p e below Φ (T.setTop (mkF m q L (.int (b2i (decide (y.toInt < x.toInt))) :: S)))) : Go p e below Φ (T.setTop (mkF m pc L (.long y :: .long x :: S))) :=
  g_lcmp_le hA hx hd hq1 hd' ho hz' ht0 (fun h => g_iconst hA hx hz rfl hj' (by rw [show decide (y.toInt < x.toInt) = false from decide_eq_false (by omega)] at k; exact k)) (fun h => g_iconst hA hx ht rfl ht' (g_goto hA hx hg hog hj (by rw [show decide (y.toInt < x.toInt) = true from decide_eq_true (by omega)] at k; exact k)))
theorem g_selB_ne (hA : At T m c below) (hx : p.tables.exec = Jvm.exec) {o o' : Int} {z t t' : Nat} {b : Bool} (hd : decode c.code pc = .ok (.ifCond .ne o, 3)) (ho : 0 ≤ (pc : Int) + o) (hz' : ((pc : Int) + o).toNat = z) (ht0 : pc + 3 = t) (hz : decode c.code z = .ok (.iconst 0, 1)) (ht : decode c.code t = .ok (.iconst 1, 1)) (hg : decode c.code t' = .ok (.goto o', 3)) (ht' : t + 1 = t') (hog : 0 ≤ (t' : Int) + o') (hj : ((t' : Int) + o').toNat = q) (hj' : z + 1 = q) (k : Go p e below Φ (T.setTop (mkF m q L (.int (b2i (!b)) :: S)))) : Go p e below Φ (T.setTop (mkF m pc L (.int (b2i b) :: S))) :=
  g_ifB_ne hA hx hd ho hz' ht0 (fun h => g_iconst hA hx hz rfl hj' (by subst h; exact k)) (fun h => g_iconst hA hx ht rfl ht' (g_goto hA hx hg hog hj (by subst h; exact k)))
theorem g_selB_eq (hA : At T m c below) (hx : p.tables.exec = Jvm.exec) {o o' : Int} {z t t' : Nat} {b : Bool} (hd : decode c.code pc = .ok (.ifCond .eq o, 3)) (ho : 0 ≤ (pc : Int) + o) (hz' : ((pc : Int) + o).toNat = z) (ht0 : pc + 3 = t) (hz : decode c.code z = .ok (.iconst 0, 1)) (ht : decode c.code t = .ok (.iconst 1, 1)) (hg : decode c.code t' = .ok (.goto o', 3)) (ht' : t + 1 = t') (hog : 0 ≤ (t' : Int) + o') (hj : ((t' : Int) + o').toNat = q) (hj' : z + 1 = q) (k : Go p e below Φ (T.setTop (mkF m q L (.int (b2i (b)) :: S)))) : Go p e below Φ (T.setTop (mkF m pc L (.int (b2i b) :: S))) :=
  g_ifB_eq hA hx hd ho hz' ht0 (fun h => g_iconst hA hx hz rfl hj' (by subst h; exact k)) (fun h => g_iconst hA hx ht rfl ht' (g_goto hA hx hg hog hj (by subst h; exact k)))
theorem g_selBB_ne (hA : At T m c below) (hx : p.tables.exec = Jvm.exec) {o o' : Int} {z t t' : Nat} {a b : Bool} (hd : decode c.code pc = .ok (.if_icmp .ne o, 3)) (ho : 0 ≤ (pc : Int) + o) (hz' : ((pc : Int) + o).toNat = z) (ht0 : pc + 3 = t) (hz : decode c.code z = .ok (.iconst 0, 1)) (ht : decode c.code t = .ok (.iconst 1, 1)) (hg : decode c.code t' = .ok (.goto o', 3)) (ht' : t + 1 = t') (hog : 0 ≤ (t' : Int) + o') (hj : ((t' : Int) + o').toNat = q) (hj' : z + 1 = q) (k : Go p e below Φ (T.setTop (mkF m q L (.int (b2i (a == b)) :: S)))) : Go p e below Φ (T.setTop (mkF m pc L (.int (b2i b) :: .int (b2i a) :: S))) :=
  g_icmp hA hx hd ho hz' ht0 (fun h => g_iconst hA hx hz rfl hj' (by cases a <;> cases b <;> first | exact k | exact Bool.noConfusion h)) (fun h => g_iconst hA hx ht rfl ht' (g_goto hA hx hg hog hj (by cases a <;> cases b <;> first | exact k | exact Bool.noConfusion h)))
theorem g_selBB_eq (hA : At T m c below) (hx : p.tables.exec = Jvm.exec) {o o' : Int} {z t t' : Nat} {a b : Bool} (hd : decode c.code pc = .ok (.if_icmp .eq o, 3)) (ho : 0 ≤ (pc : Int) + o) (hz' : ((pc : Int) + o).toNat = z) (ht0 : pc + 3 = t) (hz : decode c.code z = .ok (.iconst 0, 1)) (ht : decode c.code t = .ok (.iconst 1, 1)) (hg : decode c.code t' = .ok (.goto o', 3)) (ht' : t + 1 = t') (hog : 0 ≤ (t' : Int) + o') (hj : ((t' : Int) + o').toNat = q) (hj' : z + 1 = q) (k : Go p e below Φ (T.setTop (mkF m q L (.int (b2i (a != b)) :: S)))) : Go p e below Φ (T.setTop (mkF m pc L (.int (b2i b) :: .int (b2i a) :: S))) :=
  g_icmp hA hx hd ho hz' ht0 (fun h => g_iconst hA hx hz rfl hj' (by cases a <;> cases b <;> first | exact k | exact Bool.noConfusion h)) (fun h => g_iconst hA hx ht rfl ht' (g_goto hA hx hg hog hj (by cases a <;> cases b <;> first | exact k | exact Bool.noConfusion h)))
theorem g_ldcI (X : Stand p l e R s m args below meth c T locs cells slots) (hx : p.tables.exec = Jvm.exec) (hZ : Z.Warmed39 s.vm) {own : String} {index : Nat} {v : Int32} (hown : s.vm.findClass own = some m.cls) (w : (Jvm.Cond.constant own index v).before a0 Z = true) (hd : decode c.code pc = .ok (.ldc index, 2)) (hq : pc + 2 = q) (k : Go p e below Φ (T.setTop (mkF m q L (.int v :: S)))) : Go p e below Φ (T.setTop (mkF m pc L S)) := by
  subst hq; exact Go.by (X.ldcInt hx hown (mvT hZ w) rfl hd) k
theorem g_ldcWI (X : Stand p l e R s m args below meth c T locs cells slots) (hx : p.tables.exec = Jvm.exec) (hZ : Z.Warmed39 s.vm) {own : String} {index : Nat} {v : Int32} (hown : s.vm.findClass own = some m.cls) (w : (Jvm.Cond.constant own index v).before a0 Z = true) (hd : decode c.code pc = .ok (.ldc_w index, 3)) (hq : pc + 3 = q) (k : Go p e below Φ (T.setTop (mkF m q L (.int v :: S)))) : Go p e below Φ (T.setTop (mkF m pc L S)) := by
  subst hq; exact Go.by (X.ldcWInt hx hown (mvT hZ w) rfl hd) k
theorem g_ldc2J (X : Stand p l e R s m args below meth c T locs cells slots) (hx : p.tables.exec = Jvm.exec) (hZ : Z.Warmed39 s.vm) {own : String} {index : Nat} {v : Int64} (hown : s.vm.findClass own = some m.cls) (w : (Jvm.Cond.constantLong own index v).before a0 Z = true) (hd : decode c.code pc = .ok (.ldc2_w index, 3)) (hq : pc + 3 = q) (k : Go p e below Φ (T.setTop (mkF m q L (.long v :: S)))) : Go p e below Φ (T.setTop (mkF m pc L S)) := by
  subst hq; exact Go.by (X.ldc2Long hx hown (mvT hZ w) rfl hd) k
theorem g_ireturn (X : Stand p l e R s m args below meth c T locs cells slots) (hx : p.tables.exec = Jvm.exec) {Q : Option Value → Heap → List Loc → Prop} {rm : Room} (hlk : meth.locks = false) {z : Int32} (hrt : meth.sig.returnType = some .int) (hd : decode c.code pc = .ok (.ireturn, 1)) (hc : cells ≤ rm.cells) (hs : slots ≤ rm.slots) (hQ : Q (some (.int z)) T.heap locs) : Go p e below (Fin0 s rm Q) (T.setTop (mkF m pc L (.int z :: S))) := by
  obtain ⟨fs, hr, hrun, hended, hW, hsame⟩ := X.leave (v := (some (.int z))) (fun h => by rw [hrt] at h; cases h) hlk
  exact ⟨_, _, retOut X hx hrt rfl (Or.inl ⟨rfl, Or.inl rfl, z, rfl⟩) hd hr, hrun, hended, _, _, rfl, hQ, ⟨_, rfl⟩, hW, hsame.mono hc hs⟩
theorem g_lreturn (X : Stand p l e R s m args below meth c T locs cells slots) (hx : p.tables.exec = Jvm.exec) {Q : Option Value → Heap → List Loc → Prop} {rm : Room} (hlk : meth.locks = false) {z : Int64} (hrt : meth.sig.returnType = some .long) (hd : decode c.code pc = .ok (.lreturn, 1)) (hc : cells ≤ rm.cells) (hs : slots ≤ rm.slots) (hQ : Q (some (.long z)) T.heap locs) : Go p e below (Fin0 s rm Q) (T.setTop (mkF m pc L (.long z :: S))) := by
  obtain ⟨fs, hr, hrun, hended, hW, hsame⟩ := X.leave (v := (some (.long z))) (fun h => by rw [hrt] at h; cases h) hlk
  exact ⟨_, _, retOut X hx hrt rfl (Or.inr (Or.inl ⟨rfl, rfl, z, rfl⟩)) hd hr, hrun, hended, _, _, rfl, hQ, ⟨_, rfl⟩, hW, hsame.mono hc hs⟩
theorem g_areturn (X : Stand p l e R s m args below meth c T locs cells slots) (hx : p.tables.exec = Jvm.exec) {Q : Option Value → Heap → List Loc → Prop} {rm : Room} (hlk : meth.locks = false) {w : Value} {t : FieldType} (hw : w.isRef = true) (hrt : meth.sig.returnType = some t) (ht : t.isReference = true) (hd : decode c.code pc = .ok (.areturn, 1)) (hc : cells ≤ rm.cells) (hs : slots ≤ rm.slots) (hQ : Q (some w) T.heap locs) : Go p e below (Fin0 s rm Q) (T.setTop (mkF m pc L (w :: S))) := by
  obtain ⟨fs, hr, hrun, hended, hW, hsame⟩ := X.leave (v := (some w)) (fun h => by rw [hrt] at h; cases h) hlk
  exact ⟨_, _, retOut X hx hrt (by cases t <;> first | rfl | cases ht) (Or.inr (Or.inr (Or.inr (Or.inr ⟨rfl, ht, hw⟩)))) hd hr, hrun, hended, _, _, rfl, hQ, ⟨_, rfl⟩, hW, hsame.mono hc hs⟩
theorem g_zreturn (X : Stand p l e R s m args below meth c T locs cells slots) (hx : p.tables.exec = Jvm.exec) {Q : Option Value → Heap → List Loc → Prop} {rm : Room} (hlk : meth.locks = false) {b : Bool} (hrt : meth.sig.returnType = some .boolean) (hd : decode c.code pc = .ok (.ireturn, 1)) (hc : cells ≤ rm.cells) (hs : slots ≤ rm.slots) (hQ : Q (some (.int (b2i b))) T.heap locs) : Go p e below (Fin0 s rm Q) (T.setTop (mkF m pc L (.int (b2i b) :: S))) := by
  obtain ⟨fs, hr, hrun, hended, hW, hsame⟩ := X.leave (v := (some (.int (b2i b)))) (fun h => by rw [hrt] at h; cases h) hlk
  exact ⟨_, _, retOut X hx hrt (by cases b <;> rfl) (Or.inl ⟨rfl, Or.inr (Or.inl rfl), _, rfl⟩) hd hr, hrun, hended, _, _, rfl, hQ, ⟨_, rfl⟩, hW, hsame.mono hc hs⟩
theorem g_nreturn (X : Stand p l e R s m args below meth c T locs cells slots) (hx : p.tables.exec = Jvm.exec) {Q : Option Value → Heap → List Loc → Prop} {rm : Room} (hlk : meth.locks = false) {z : Int32} {t : FieldType} (hn : narrow t (.int z) = .int z) (ht : t = .int ∨ t = .boolean ∨ t = .byte ∨ t = .char ∨ t = .short) (hrt : meth.sig.returnType = some t) (hd : decode c.code pc = .ok (.ireturn, 1)) (hc : cells ≤ rm.cells) (hs : slots ≤ rm.slots) (hQ : Q (some (.int z)) T.heap locs) : Go p e below (Fin0 s rm Q) (T.setTop (mkF m pc L (.int z :: S))) := by
  obtain ⟨fs, hr, hrun, hended, hW, hsame⟩ := X.leave (v := (some (.int z))) (fun h => by rw [hrt] at h; cases h) hlk
  exact ⟨_, _, retOut X hx hrt hn (Or.inl ⟨rfl, ht, z, rfl⟩) hd hr, hrun, hended, _, _, rfl, hQ, ⟨_, rfl⟩, hW, hsame.mono hc hs⟩
theorem g_ret (X : Stand p l e R s m args below meth c T locs cells slots) (hx : p.tables.exec = Jvm.exec) {Q : Option Value → Heap → List Loc → Prop} {rm : Room} (hlk : meth.locks = false) (hrt : meth.sig.returnType = none) (hd : decode c.code pc = .ok (.return_, 1)) (hc : cells ≤ rm.cells) (hs : slots ≤ rm.slots) (hQ : Q none T.heap locs) : Go p e below (Fin0 s rm Q) (T.setTop (mkF m pc L [])) := by
  obtain ⟨fs, hr, hrun, hended, hW, hsame⟩ := X.leave (v := none) (fun _ => rfl) hlk
  exact ⟨_, _, X.returnOut hx hrt hd hr, hrun, hended, _, _, rfl, hQ, ⟨_, rfl⟩, hW, hsame.mono hc hs⟩
theorem g_callS (X : Stand p l e R s m args below meth c T locs cells slots) (hx : p.tables.exec = Jvm.exec) (hZ : Z.Warmed39 s.vm) {own : String} {index : Nat} {y : MethodName} {bytes : ByteArray} {maxL : Nat} {ret : Option FieldType} (hown : s.vm.findClass own = some m.cls) (w1 : (Jvm.Cond.methodLink own index y).before a0 Z = true) (w2 : (Jvm.Cond.static y).before a0 Z = true) (w3 : (Jvm.Cond.initialized y.cls).before a0 Z = true) (w4 : (Jvm.Cond.code y bytes maxL ret).before a0 Z = true) (hy : y.cls ≠ "java/lang/invoke/MethodHandle" ∧ y.cls ≠ "java/lang/invoke/VarHandle")
    {rm : Room} {as' : Array Value} {Q : Option Value → Heap → List Loc → Prop} (C : Ctr l Z y bytes maxL ret rm [] as' h Q) {argsL rest : List Value} {ps : List FieldType} {rt : Option FieldType} (hpd : parseMethodDescriptor y.desc = some ⟨ps, rt⟩) (hlen : argsL.length = ps.length) (hst : S = argsL.reverse ++ rest) (has : argsL.toArray = as') (hd : decode c.code pc = .ok (.invokestatic index, 3)) (hq : pc + 3 = q) (hsz : L.size = c.maxLocals) (eT : T.heap = h)
    (hf : rm.frames + 1 ≤ R.frames) {W : Nat} (hW : (rest.map fun v => v.category).sum = W) (hl : W + (maxL + 11) + rm.locals ≤ R.locals) (hc : cells + rm.cells ≤ R.cells) (hs : slots + rm.slots ≤ R.slots)
    (k : ∀ v T' Lc, Stand p l e R s m args below meth c T' (locs ++ Lc) (cells + rm.cells) (slots + rm.slots) → Q v T'.heap Lc → Go p e below Φ (T'.setTop (mkF m q L (v.toList ++ rest)))) : Go p e below Φ (T.setTop (mkF m pc L S)) := by
  subst hq has
  obtain ⟨v, _, ⟨T', L', k', n'⟩, -, X', ⟨Lc, hQ, l1, y1, z1⟩, st⟩ := Jvm.LawKit.callS X hx (y := y) hown (mvT hZ w1) (mvT hZ w2) (mvT hZ w3) (mvT hZ w4) hy (backOf (W := W) C hZ w4 w3 hf hl) (g := mkF m pc L S) rfl hsz (argsL := argsL) (rest := rest) (lenOf hpd hlen) hst (by show 2 * 0 + _ ≤ _; omega) hd (fun _ _ => ⟨rfl, eT, hc, hs⟩)
  dsimp only [Pt.U, Pt.locs, Pt.cells, Pt.slots] at X' l1 y1 z1 st hQ
  subst l1 y1 z1
  exact Go.by st (k v T' Lc X' hQ)
theorem g_callSP (X : Stand p l e R s m args below meth c T locs cells slots) (hx : p.tables.exec = Jvm.exec) (hZ : Z.Warmed39 s.vm) {own : String} {index : Nat} {y : MethodName} {bytes : ByteArray} {maxL : Nat} {ret : Option FieldType} (hown : s.vm.findClass own = some m.cls) (w1 : (Jvm.Cond.methodLink own index y).before a0 Z = true) (w2 : (Jvm.Cond.static y).before a0 Z = true) (w3 : (Jvm.Cond.initialized y.cls).before a0 Z = true) (w4 : (Jvm.Cond.code y bytes maxL ret).before a0 Z = true) (hy : y.cls ≠ "java/lang/invoke/MethodHandle" ∧ y.cls ≠ "java/lang/invoke/VarHandle")
    {rm : Room} {as' : Array Value} {r : Value} (C : Ctr l Z y bytes maxL ret rm [] as' h (PQ r h)) {argsL rest : List Value} {ps : List FieldType} {rt : Option FieldType} (hpd : parseMethodDescriptor y.desc = some ⟨ps, rt⟩) (hlen : argsL.length = ps.length) (hst : S = argsL.reverse ++ rest) (has : argsL.toArray = as') (hd : decode c.code pc = .ok (.invokestatic index, 3)) (hq : pc + 3 = q) (hsz : L.size = c.maxLocals) (eT : T.heap = h)
    (hf : rm.frames + 1 ≤ R.frames) {W : Nat} (hW : (rest.map fun v => v.category).sum = W) (hl : W + (maxL + 11) + rm.locals ≤ R.locals) (hc : rm.cells = 0) (hs : rm.slots = 0) (hc' : cells ≤ R.cells) (hs' : slots ≤ R.slots)
    (k : ∀ T', Stand p l e R s m args below meth c T' locs cells slots → T'.heap = h → Go p e below Φ (T'.setTop (mkF m q L (r :: rest)))) : Go p e below Φ (T.setTop (mkF m pc L S)) := by
  refine g_callS X hx hZ hown w1 w2 w3 w4 hy C hpd hlen hst has hd hq hsz eT hf hW hl (by omega) (by omega) ?_
  intro v T' Lc X' hQ
  obtain ⟨rfl, e1, rfl⟩ := hQ
  rw [hc, hs, List.append_nil] at X'
  exact k T' X' e1
theorem g_callSI (X : Stand p l e R s m args below meth c T locs cells slots) (hx : p.tables.exec = Jvm.exec) (hZ : Z.Warmed39 s.vm) {own : String} {index : Nat} {y : MethodName} {bytes : ByteArray} {maxL : Nat} {ret : Option FieldType} (hown : s.vm.findClass own = some m.cls) (w1 : (Jvm.Cond.methodLink own index y).before a0 Z = true) (w2 : (Jvm.Cond.static y).before a0 Z = true) (w3 : (Jvm.Cond.initialized y.cls).before a0 Z = true) (w4 : (Jvm.Cond.code y bytes maxL ret).before a0 Z = true) (hy : y.cls ≠ "java/lang/invoke/MethodHandle" ∧ y.cls ≠ "java/lang/invoke/VarHandle")
    {rm : Room} {as' : Array Value} {P : Int32 → Prop} (C : Ctr l Z y bytes maxL ret rm [] as' h (IQ P h)) {argsL rest : List Value} {ps : List FieldType} {rt : Option FieldType} (hpd : parseMethodDescriptor y.desc = some ⟨ps, rt⟩) (hlen : argsL.length = ps.length) (hst : S = argsL.reverse ++ rest) (has : argsL.toArray = as') (hd : decode c.code pc = .ok (.invokestatic index, 3)) (hq : pc + 3 = q) (hsz : L.size = c.maxLocals) (eT : T.heap = h)
    (hf : rm.frames + 1 ≤ R.frames) {W : Nat} (hW : (rest.map fun v => v.category).sum = W) (hl : W + (maxL + 11) + rm.locals ≤ R.locals) (hc : rm.cells = 0) (hs : rm.slots = 0) (hc' : cells ≤ R.cells) (hs' : slots ≤ R.slots)
    (k : ∀ T' r, Stand p l e R s m args below meth c T' locs cells slots → T'.heap = h → P r → Go p e below Φ (T'.setTop (mkF m q L (.int r :: rest)))) : Go p e below Φ (T.setTop (mkF m pc L S)) := by
  refine g_callS X hx hZ hown w1 w2 w3 w4 hy C hpd hlen hst has hd hq hsz eT hf hW hl (by omega) (by omega) ?_
  intro v T' Lc X' hQ
  obtain ⟨r, rfl, hP, e1, rfl⟩ := hQ
  rw [hc, hs, List.append_nil] at X'
  exact k T' r X' e1 hP
theorem g_callSJ (X : Stand p l e R s m args below meth c T locs cells slots) (hx : p.tables.exec = Jvm.exec) (hZ : Z.Warmed39 s.vm) {own : String} {index : Nat} {y : MethodName} {bytes : ByteArray} {maxL : Nat} {ret : Option FieldType} (hown : s.vm.findClass own = some m.cls) (w1 : (Jvm.Cond.methodLink own index y).before a0 Z = true) (w2 : (Jvm.Cond.static y).before a0 Z = true) (w3 : (Jvm.Cond.initialized y.cls).before a0 Z = true) (w4 : (Jvm.Cond.code y bytes maxL ret).before a0 Z = true) (hy : y.cls ≠ "java/lang/invoke/MethodHandle" ∧ y.cls ≠ "java/lang/invoke/VarHandle")
    {rm : Room} {as' : Array Value} {P : Int64 → Prop} (C : Ctr l Z y bytes maxL ret rm [] as' h (JQ P h)) {argsL rest : List Value} {ps : List FieldType} {rt : Option FieldType} (hpd : parseMethodDescriptor y.desc = some ⟨ps, rt⟩) (hlen : argsL.length = ps.length) (hst : S = argsL.reverse ++ rest) (has : argsL.toArray = as') (hd : decode c.code pc = .ok (.invokestatic index, 3)) (hq : pc + 3 = q) (hsz : L.size = c.maxLocals) (eT : T.heap = h)
    (hf : rm.frames + 1 ≤ R.frames) {W : Nat} (hW : (rest.map fun v => v.category).sum = W) (hl : W + (maxL + 11) + rm.locals ≤ R.locals) (hc : rm.cells = 0) (hs : rm.slots = 0) (hc' : cells ≤ R.cells) (hs' : slots ≤ R.slots)
    (k : ∀ T' r, Stand p l e R s m args below meth c T' locs cells slots → T'.heap = h → P r → Go p e below Φ (T'.setTop (mkF m q L (.long r :: rest)))) : Go p e below Φ (T.setTop (mkF m pc L S)) := by
  refine g_callS X hx hZ hown w1 w2 w3 w4 hy C hpd hlen hst has hd hq hsz eT hf hW hl (by omega) (by omega) ?_
  intro v T' Lc X' hQ
  obtain ⟨r, rfl, hP, e1, rfl⟩ := hQ
  rw [hc, hs, List.append_nil] at X'
  exact k T' r X' e1 hP
end OwnKit
def RM_rm1 : Room := ({ frames := 0, cells := 0, slots := 0, locals := 0 } : Room)
theorem d1_0 : decode prog_27_method_11_code 0 = .ok (.iload_n 0, 1) := by decide +kernel
theorem d1_1 : decode prog_27_method_11_code 1 = .ok (.iconst (-1), 1) := by decide +kernel
theorem d1_2 : decode prog_27_method_11_code 2 = .ok (.if_icmp .ne 7, 3) := by decide +kernel
theorem d1_5 : decode prog_27_method_11_code 5 = .ok (.iconst 1, 1) := by decide +kernel
theorem d1_6 : decode prog_27_method_11_code 6 = .ok (.goto 6, 3) := by decide +kernel
theorem d1_9 : decode prog_27_method_11_code 9 = .ok (.iload_n 0, 1) := by decide +kernel
theorem d1_10 : decode prog_27_method_11_code 10 = .ok (.iconst 1, 1) := by decide +kernel
theorem d1_11 : decode prog_27_method_11_code 11 = .ok (.iadd, 1) := by decide +kernel
theorem d1_12 : decode prog_27_method_11_code 12 = .ok (.ireturn, 1) := by decide +kernel
theorem ef_1 (m : MethodId) (z0 : Int32) : entryFrame m #[.int z0] 1 = mkF m 0 #[.val (.int z0)] [] := by first | (simp [entryFrame, mkF, argsToLocals, Value.category]; done) | rfl
theorem pn_0 : plainName "com/example/sealcall/sealcall/rx/RxPacket" = true := by first | (simp [plainName, overriddenIn]; done) | decide +kernel
set_option maxRecDepth 65536 in
set_option maxHeartbeats 40000000 in
theorem rm1 (l : Launch) (Z : State) (a0 : Array Value) (hw : ∀ d ∈ tables_1, d.before a0 Z = true) (ws : List Jvm.Cond) (a : Int32) (h0 : Heap) (n0 : Nat) (Z0 : n0 ≤ h0.size) :
    Ctr l Z (⟨"com/example/sealcall/sealcall/rx/RxPacket", "nextCallNumber", "(I)I"⟩ : MethodName) prog_27_method_11_code 1 (some .int) RM_rm1 ws #[.int a] h0 (IQ (fun r => (a.toInt = -1 ∧ r.toInt = 1) ∨ (a.toInt ≠ -1 ∧ (r.toInt = a.toInt + 1 ∨ r.toInt = a.toInt + 1 - 4294967296))) h0) := by
  refine Ctr.of (plainFor_of_name pn_0) ?_
  intro p e s m below meth c s₁ hx hby hml hrt hlk hnm hown hZ X0 e0
  have N0 := Fr.nil n0
  refine Go.cast (ef_1 m a) ?_
  refine g_iloadN (q := 1) X0.here hx (hb hby d1_0) rfl rfl ?_
  refine g_iconst (q := 2) (v := (-1 : Int32)) X0.here hx (hb hby d1_1) rfl rfl ?_
  refine g_icmp_ne (q := 9) (q0 := 5) X0.here hx (hb hby d1_2) (by decide) (by decide) rfl ?_ ?_
  · intro c1
    refine g_iloadN (q := 10) X0.here hx (hb hby d1_9) rfl rfl ?_
    refine g_iconst (q := 11) (v := (1 : Int32)) X0.here hx (hb hby d1_10) rfl rfl ?_
    refine g_iadd (q := 12) X0.here hx (hb hby d1_11) rfl ?_
    exact g_ireturn X0 hx hlk hrt (hb hby d1_12) (by decide) (by decide) ⟨_, rfl, (show (a.toInt = -1 ∧ (a + (1 : Int32)).toInt = 1) ∨ (a.toInt ≠ -1 ∧ ((a + (1 : Int32)).toInt = a.toInt + 1 ∨ (a + (1 : Int32)).toInt = a.toInt + 1 - 4294967296)) by (try simp only [Int32.reduceToInt, Int64.reduceToInt] at c1); have f1 := rng32 a; (try simp only [Int32.reduceToInt, Int64.reduceToInt] at f1); have f3 := rng32 (a + (1 : Int32)); (try simp only [Int32.reduceToInt, Int64.reduceToInt] at f3); have f4 := c_iadd a (1 : Int32); (try simp only [Int32.reduceToInt, Int64.reduceToInt] at f4); (try have f4e : (a + (1 : Int32)).toInt = a.toInt + (1 : Int) := (by omega)); (try simp only [Int32.reduceToInt, Int64.reduceToInt, and_true, true_and, or_true, true_or]); (first | done | omega)), e0, rfl⟩
  · intro c1
    refine g_iconst (q := 6) (v := (1 : Int32)) X0.here hx (hb hby d1_5) rfl rfl ?_
    refine g_goto (q := 12) X0.here hx (hb hby d1_6) (by decide) (by decide) ?_
    exact g_ireturn X0 hx hlk hrt (hb hby d1_12) (by decide) (by decide) ⟨_, rfl, (show (a.toInt = -1 ∧ (1 : Int32).toInt = 1) ∨ (a.toInt ≠ -1 ∧ ((1 : Int32).toInt = a.toInt + 1 ∨ (1 : Int32).toInt = a.toInt + 1 - 4294967296)) by (try simp only [Int32.reduceToInt, Int64.reduceToInt] at c1); have f1 := rng32 a; (try simp only [Int32.reduceToInt, Int64.reduceToInt] at f1); (try simp only [Int32.reduceToInt, Int64.reduceToInt, and_true, true_and, or_true, true_or]); (first | done | omega)), e0, rfl⟩
theorem pd_0 : parseMethodDescriptor "(I)I" = some ⟨[.int], some .int⟩ := by decide +kernel
theorem ef_0 (m : MethodId) (z0 : Int32) (z1 : Int32) : entryFrame m #[.int z0, .int z1] maxLocals = mkF m 0 #[.val (.int z0), .val (.int z1), .unset, .unset, .unset, .unset, .unset, .unset, .unset, .unset, .unset] [] := by first | (simp [entryFrame, mkF, argsToLocals, Value.category, maxLocals]; done) | rfl
theorem pn_1 : plainName "com/example/sealcall/sealcall/rx/RxPacketNextCallNumberPinLaw" = true := by first | (simp [plainName, overriddenIn]; done) | decide +kernel
set_option maxRecDepth 65536 in
set_option maxHeartbeats 40000000 in
theorem rm0 (l : Launch) (Z : State) (a0 : Array Value) (hw : ∀ d ∈ tables_1, d.before a0 Z = true) (ws : List Jvm.Cond) (a : Int32) (b : Int32) (h0 : Heap) (n0 : Nat) (Z0 : n0 ≤ h0.size) :
    Ctr l Z x code maxLocals ret room_1 ws #[.int a, .int b] h0 (fun v h L => v = some (.int 1) ∧ Fr n0 L) := by
  refine Ctr.of (plainFor_of_name pn_1) ?_
  intro p e s m below meth c s₁ hx hby hml hrt hlk hnm hown hZ X0 e0
  have N0 := Fr.nil n0
  refine Go.cast (ef_0 m a b) ?_
  replace hown : s.vm.findClass "com/example/sealcall/sealcall/rx/RxPacketNextCallNumberPinLaw" = some m.cls := hown
  replace hml : c.maxLocals = 11 := hml
  replace hrt : meth.sig.returnType = some .boolean := hrt
  refine g_iloadN (q := 1) X0.here hx (hb hby at_0) rfl rfl ?_
  refine g_bipush (q := 3) (v := (7 : Int32)) X0.here hx (hb hby at_1) rfl rfl ?_
  refine g_iand (q := 4) X0.here hx (hb hby at_3) rfl ?_
  refine g_istoreN (q := 5) (L' := #[.val (.int a), .val (.int b), .val (.int (b &&& (7 : Int32))), .unset, .unset, .unset, .unset, .unset, .unset, .unset, .unset]) X0.here hx (hb hby at_4) rfl rfl ?_
  refine g_iloadN (q := 6) X0.here hx (hb hby at_5) rfl rfl ?_
  refine g_iconst (q := 7) (v := (1 : Int32)) X0.here hx (hb hby at_6) rfl rfl ?_
  refine g_icmp_ne (q := 15) (q0 := 10) X0.here hx (hb hby at_7) (by decide) (by decide) rfl ?_ ?_
  · intro c1
    refine g_iloadN (q := 16) X0.here hx (hb hby at_15) rfl rfl ?_
    refine g_iconst (q := 17) (v := (2 : Int32)) X0.here hx (hb hby at_16) rfl rfl ?_
    refine g_icmp_ne (q := 26) (q0 := 20) X0.here hx (hb hby at_17) (by decide) (by decide) rfl ?_ ?_
    · intro c2
      refine g_iloadN (q := 27) X0.here hx (hb hby at_26) rfl rfl ?_
      refine g_iconst (q := 28) (v := (3 : Int32)) X0.here hx (hb hby at_27) rfl rfl ?_
      refine g_icmp_ne (q := 36) (q0 := 31) X0.here hx (hb hby at_28) (by decide) (by decide) rfl ?_ ?_
      · intro c3
        refine g_iloadN (q := 37) X0.here hx (hb hby at_36) rfl rfl ?_
        refine g_iconst (q := 38) (v := (4 : Int32)) X0.here hx (hb hby at_37) rfl rfl ?_
        refine g_icmp_ne (q := 47) (q0 := 41) X0.here hx (hb hby at_38) (by decide) (by decide) rfl ?_ ?_
        · intro c4
          refine g_iloadN (q := 48) X0.here hx (hb hby at_47) rfl rfl ?_
          refine g_iconst (q := 49) (v := (5 : Int32)) X0.here hx (hb hby at_48) rfl rfl ?_
          refine g_icmp_ne (q := 58) (q0 := 52) X0.here hx (hb hby at_49) (by decide) (by decide) rfl ?_ ?_
          · intro c5
            refine g_iloadN (q := 59) X0.here hx (hb hby at_58) rfl rfl ?_
            refine g_istoreN (q := 60) (L' := #[.val (.int a), .val (.int b), .val (.int (b &&& (7 : Int32))), .val (.int a), .unset, .unset, .unset, .unset, .unset, .unset, .unset]) X0.here hx (hb hby at_59) rfl rfl ?_
            refine g_iloadN (q := 61) X0.here hx (hb hby at_60) rfl rfl ?_
            refine g_i2l (q := 62) X0.here hx (hb hby at_61) rfl ?_
            refine g_ldc2J (q := 65) X0 hx hZ hown (hw _ (List.mem_of_getElem? (i := 0) rfl)) (hb hby at_62) rfl ?_
            refine g_land (q := 66) X0.here hx (hb hby at_65) rfl ?_
            refine g_lstore (q := 68) (L' := #[.val (.int a), .val (.int b), .val (.int (b &&& (7 : Int32))), .val (.int a), .val (.long (a.toInt64 &&& (4294967295 : Int64))), .second, .unset, .unset, .unset, .unset, .unset]) X0.here hx (hb hby at_66) rfl rfl ?_
            refine g_lload (q := 70) X0.here hx (hb hby at_68) rfl rfl ?_
            refine g_ldc2J (q := 73) X0 hx hZ hown (hw _ (List.mem_of_getElem? (i := 0) rfl)) (hb hby at_70) rfl ?_
            refine g_lrem (q := 74) X0.here hx (hb hby at_73) (by decide) rfl ?_
            refine g_lconst1 (q := 75) X0.here hx (hb hby at_74) rfl ?_
            refine g_ladd (q := 76) X0.here hx (hb hby at_75) rfl ?_
            generalize hv_v6 : (((a.toInt64 &&& (4294967295 : Int64)) % (4294967295 : Int64)) + (1 : Int64)) = v6
            refine g_lstore (q := 78) (L' := #[.val (.int a), .val (.int b), .val (.int (b &&& (7 : Int32))), .val (.int a), .val (.long (a.toInt64 &&& (4294967295 : Int64))), .second, .val (.long v6), .second, .unset, .unset, .unset]) X0.here hx (hb hby at_76) rfl rfl ?_
            refine g_iloadN (q := 79) X0.here hx (hb hby at_78) rfl rfl ?_
            refine g_callSI (q := 82) X0 hx hZ hown (hw _ (List.mem_of_getElem? (i := 1) rfl)) (hw _ (List.mem_of_getElem? (i := 2) rfl)) (hw _ (List.mem_of_getElem? (i := 3) rfl)) (hw _ (List.mem_of_getElem? (i := 4) rfl)) (by decide) (rm1 l Z a0 hw [] a h0 n0 Z0) (argsL := [.int a]) (rest := []) pd_0 rfl rfl rfl (hb hby at_79) rfl (by rw [hml]; rfl) e0 (by decide) (W := 0) rfl (by decide) rfl rfl (by decide) (by decide) ?_
            intro T7 r8 X7 e7 hr8
            refine g_istore (q := 84) (L' := #[.val (.int a), .val (.int b), .val (.int (b &&& (7 : Int32))), .val (.int a), .val (.long (a.toInt64 &&& (4294967295 : Int64))), .second, .val (.long v6), .second, .val (.int r8), .unset, .unset]) X7.here hx (hb hby at_82) rfl rfl ?_
            refine g_iload (q := 86) X7.here hx (hb hby at_84) rfl rfl ?_
            refine g_i2l (q := 87) X7.here hx (hb hby at_86) rfl ?_
            refine g_ldc2J (q := 90) X7 hx hZ hown (hw _ (List.mem_of_getElem? (i := 0) rfl)) (hb hby at_87) rfl ?_
            refine g_land (q := 91) X7.here hx (hb hby at_90) rfl ?_
            refine g_lstore (q := 93) (L' := #[.val (.int a), .val (.int b), .val (.int (b &&& (7 : Int32))), .val (.int a), .val (.long (a.toInt64 &&& (4294967295 : Int64))), .second, .val (.long v6), .second, .val (.int r8), .val (.long (r8.toInt64 &&& (4294967295 : Int64))), .second]) X7.here hx (hb hby at_91) rfl rfl ?_
            refine g_lload (q := 95) X7.here hx (hb hby at_93) rfl rfl ?_
            refine g_lload (q := 97) X7.here hx (hb hby at_95) rfl rfl ?_
            refine g_lcmp_ne (q := 110) (q1 := 98) (q0 := 101) X7.here hx (hb hby at_97) rfl (hb hby at_98) (by decide) (by decide) rfl ?_ ?_
            · intro c9
              refine g_iconst (q := 111) (v := (0 : Int32)) X7.here hx (hb hby at_110) rfl rfl ?_
              exact g_zreturn (b := false) X7 hx hlk hrt (hb hby at_111) (by decide) (by decide) (by exfalso; (try simp only [Int32.reduceToInt, Int64.reduceToInt] at c1); (try simp only [Int32.reduceToInt, Int64.reduceToInt] at c2); (try simp only [Int32.reduceToInt, Int64.reduceToInt] at c3); (try simp only [Int32.reduceToInt, Int64.reduceToInt] at c4); (try simp only [Int32.reduceToInt, Int64.reduceToInt] at c5); (try simp only [Int32.reduceToInt, Int64.reduceToInt] at hv_v6); (try simp only [Int32.reduceToInt, Int64.reduceToInt] at hr8); (try simp only [Int32.reduceToInt, Int64.reduceToInt] at c9); have f2 := rng32 b; (try simp only [Int32.reduceToInt, Int64.reduceToInt] at f2); have f3 := rng32 (b &&& (7 : Int32)); (try simp only [Int32.reduceToInt, Int64.reduceToInt] at f3); have f4 := c_mask b (7 : Int32) 3 (by decide) (by decide); (try simp only [Int32.reduceToInt, Int64.reduceToInt] at f4); (try have f4e : (b &&& (7 : Int32)).toInt = b.toInt ∨ (b &&& (7 : Int32)).toInt = b.toInt + 8 := (by omega)); have f6 := rng32 a; (try simp only [Int32.reduceToInt, Int64.reduceToInt] at f6); have f12 := c_i2l a; (try simp only [Int32.reduceToInt, Int64.reduceToInt] at f12); have f13 := rng64 (a.toInt64 &&& (4294967295 : Int64)); (try simp only [Int32.reduceToInt, Int64.reduceToInt] at f13); have f14 := c_maskL a.toInt64 (4294967295 : Int64) 32 (by decide) (by decide); (try simp only [Int32.reduceToInt, Int64.reduceToInt] at f14); (try have f14e : (a.toInt64 &&& (4294967295 : Int64)).toInt = a.toInt64.toInt ∨ (a.toInt64 &&& (4294967295 : Int64)).toInt = a.toInt64.toInt + 4294967296 := (by omega)); have f15 := rng64 ((a.toInt64 &&& (4294967295 : Int64)) % (4294967295 : Int64)); (try simp only [Int32.reduceToInt, Int64.reduceToInt] at f15); have f16 := (show (0 ≤ (a.toInt64 &&& (4294967295 : Int64)).toInt → (((a.toInt64 &&& (4294967295 : Int64)) % (4294967295 : Int64))).toInt = (a.toInt64 &&& (4294967295 : Int64)).toInt % 4294967295) ∧ ((a.toInt64 &&& (4294967295 : Int64)).toInt < 0 → (((a.toInt64 &&& (4294967295 : Int64)) % (4294967295 : Int64))).toInt = -((-(a.toInt64 &&& (4294967295 : Int64)).toInt) % 4294967295)) from by rw [← lrem_mod]; exact c_lrem (a.toInt64 &&& (4294967295 : Int64)) (4294967295 : Int64) 4294967295 (by decide)); (try simp only [Int32.reduceToInt, Int64.reduceToInt] at f16); (try have f16e : ((a.toInt64 &&& (4294967295 : Int64)) % (4294967295 : Int64)).toInt = (a.toInt64 &&& (4294967295 : Int64)).toInt ∨ ((a.toInt64 &&& (4294967295 : Int64)) % (4294967295 : Int64)).toInt = (a.toInt64 &&& (4294967295 : Int64)).toInt - 4294967295 := (by omega)); have f17 := rng64 (((a.toInt64 &&& (4294967295 : Int64)) % (4294967295 : Int64)) + (1 : Int64)); (try simp only [Int32.reduceToInt, Int64.reduceToInt] at f17); have f18 := c_ladd ((a.toInt64 &&& (4294967295 : Int64)) % (4294967295 : Int64)) (1 : Int64); (try simp only [Int32.reduceToInt, Int64.reduceToInt] at f18); (try have f18e : (((a.toInt64 &&& (4294967295 : Int64)) % (4294967295 : Int64)) + (1 : Int64)).toInt = ((a.toInt64 &&& (4294967295 : Int64)) % (4294967295 : Int64)).toInt + (1 : Int) := (by omega)); have f19 := congrArg Int64.toInt hv_v6; (try simp only [Int32.reduceToInt, Int64.reduceToInt] at f19); have f20 := rng64 v6; (try simp only [Int32.reduceToInt, Int64.reduceToInt] at f20); have f24 := rng32 r8; (try simp only [Int32.reduceToInt, Int64.reduceToInt] at f24); have f25 := c_i2l r8; (try simp only [Int32.reduceToInt, Int64.reduceToInt] at f25); have f26 := rng64 (r8.toInt64 &&& (4294967295 : Int64)); (try simp only [Int32.reduceToInt, Int64.reduceToInt] at f26); have f27 := c_maskL r8.toInt64 (4294967295 : Int64) 32 (by decide) (by decide); (try simp only [Int32.reduceToInt, Int64.reduceToInt] at f27); (try have f27e : (r8.toInt64 &&& (4294967295 : Int64)).toInt = r8.toInt64.toInt ∨ (r8.toInt64 &&& (4294967295 : Int64)).toInt = r8.toInt64.toInt + 4294967296 := (by omega)); (try simp only [Int32.reduceToInt, Int64.reduceToInt, and_true, true_and, or_true, true_or]); (first | done | omega))
            · intro c9
              refine g_iload (q := 103) X7.here hx (hb hby at_101) rfl rfl ?_
              refine g_sel_if_eq (q := 111) X7.here hx (hb hby at_103) (by decide) (by decide) rfl (hb hby at_110) (hb hby at_106) (hb hby at_107) rfl (by decide) (by decide) rfl ?_
              exact g_zreturn (b := decide (r8.toInt ≠ 0)) X7 hx hlk hrt (hb hby at_111) (by decide) (by decide) ⟨okB (decide_eq_true (by (try simp only [Int32.reduceToInt, Int64.reduceToInt] at c1); (try simp only [Int32.reduceToInt, Int64.reduceToInt] at c2); (try simp only [Int32.reduceToInt, Int64.reduceToInt] at c3); (try simp only [Int32.reduceToInt, Int64.reduceToInt] at c4); (try simp only [Int32.reduceToInt, Int64.reduceToInt] at c5); (try simp only [Int32.reduceToInt, Int64.reduceToInt] at hv_v6); (try simp only [Int32.reduceToInt, Int64.reduceToInt] at hr8); (try simp only [Int32.reduceToInt, Int64.reduceToInt] at c9); have f2 := rng32 b; (try simp only [Int32.reduceToInt, Int64.reduceToInt] at f2); have f3 := rng32 (b &&& (7 : Int32)); (try simp only [Int32.reduceToInt, Int64.reduceToInt] at f3); have f4 := c_mask b (7 : Int32) 3 (by decide) (by decide); (try simp only [Int32.reduceToInt, Int64.reduceToInt] at f4); (try have f4e : (b &&& (7 : Int32)).toInt = b.toInt ∨ (b &&& (7 : Int32)).toInt = b.toInt + 8 := (by omega)); have f6 := rng32 a; (try simp only [Int32.reduceToInt, Int64.reduceToInt] at f6); have f12 := c_i2l a; (try simp only [Int32.reduceToInt, Int64.reduceToInt] at f12); have f13 := rng64 (a.toInt64 &&& (4294967295 : Int64)); (try simp only [Int32.reduceToInt, Int64.reduceToInt] at f13); have f14 := c_maskL a.toInt64 (4294967295 : Int64) 32 (by decide) (by decide); (try simp only [Int32.reduceToInt, Int64.reduceToInt] at f14); (try have f14e : (a.toInt64 &&& (4294967295 : Int64)).toInt = a.toInt64.toInt ∨ (a.toInt64 &&& (4294967295 : Int64)).toInt = a.toInt64.toInt + 4294967296 := (by omega)); have f15 := rng64 ((a.toInt64 &&& (4294967295 : Int64)) % (4294967295 : Int64)); (try simp only [Int32.reduceToInt, Int64.reduceToInt] at f15); have f16 := (show (0 ≤ (a.toInt64 &&& (4294967295 : Int64)).toInt → (((a.toInt64 &&& (4294967295 : Int64)) % (4294967295 : Int64))).toInt = (a.toInt64 &&& (4294967295 : Int64)).toInt % 4294967295) ∧ ((a.toInt64 &&& (4294967295 : Int64)).toInt < 0 → (((a.toInt64 &&& (4294967295 : Int64)) % (4294967295 : Int64))).toInt = -((-(a.toInt64 &&& (4294967295 : Int64)).toInt) % 4294967295)) from by rw [← lrem_mod]; exact c_lrem (a.toInt64 &&& (4294967295 : Int64)) (4294967295 : Int64) 4294967295 (by decide)); (try simp only [Int32.reduceToInt, Int64.reduceToInt] at f16); (try have f16e : ((a.toInt64 &&& (4294967295 : Int64)) % (4294967295 : Int64)).toInt = (a.toInt64 &&& (4294967295 : Int64)).toInt ∨ ((a.toInt64 &&& (4294967295 : Int64)) % (4294967295 : Int64)).toInt = (a.toInt64 &&& (4294967295 : Int64)).toInt - 4294967295 := (by omega)); have f17 := rng64 (((a.toInt64 &&& (4294967295 : Int64)) % (4294967295 : Int64)) + (1 : Int64)); (try simp only [Int32.reduceToInt, Int64.reduceToInt] at f17); have f18 := c_ladd ((a.toInt64 &&& (4294967295 : Int64)) % (4294967295 : Int64)) (1 : Int64); (try simp only [Int32.reduceToInt, Int64.reduceToInt] at f18); (try have f18e : (((a.toInt64 &&& (4294967295 : Int64)) % (4294967295 : Int64)) + (1 : Int64)).toInt = ((a.toInt64 &&& (4294967295 : Int64)) % (4294967295 : Int64)).toInt + (1 : Int) := (by omega)); have f19 := congrArg Int64.toInt hv_v6; (try simp only [Int32.reduceToInt, Int64.reduceToInt] at f19); have f20 := rng64 v6; (try simp only [Int32.reduceToInt, Int64.reduceToInt] at f20); have f24 := rng32 r8; (try simp only [Int32.reduceToInt, Int64.reduceToInt] at f24); have f25 := c_i2l r8; (try simp only [Int32.reduceToInt, Int64.reduceToInt] at f25); have f26 := rng64 (r8.toInt64 &&& (4294967295 : Int64)); (try simp only [Int32.reduceToInt, Int64.reduceToInt] at f26); have f27 := c_maskL r8.toInt64 (4294967295 : Int64) 32 (by decide) (by decide); (try simp only [Int32.reduceToInt, Int64.reduceToInt] at f27); (try have f27e : (r8.toInt64 &&& (4294967295 : Int64)).toInt = r8.toInt64.toInt ∨ (r8.toInt64 &&& (4294967295 : Int64)).toInt = r8.toInt64.toInt + 4294967296 := (by omega)); (try simp only [Int32.reduceToInt, Int64.reduceToInt, and_true, true_and, or_true, true_or]); (first | done | omega))), (Fr.nil n0)⟩
          · intro c5
            refine g_ldcI (q := 54) X0 hx hZ hown (hw _ (List.mem_of_getElem? (i := 5) rfl)) (hb hby at_52) rfl ?_
            refine g_istoreN (q := 55) (L' := #[.val (.int a), .val (.int b), .val (.int (b &&& (7 : Int32))), .val (.int (-2147483648 : Int32)), .unset, .unset, .unset, .unset, .unset, .unset, .unset]) X0.here hx (hb hby at_54) rfl rfl ?_
            refine g_goto (q := 60) X0.here hx (hb hby at_55) (by decide) (by decide) ?_
            refine g_iloadN (q := 61) X0.here hx (hb hby at_60) rfl rfl ?_
            refine g_i2l (q := 62) X0.here hx (hb hby at_61) rfl ?_
            rw [show (-2147483648 : Int32).toInt64 = (-2147483648 : Int64) from by decide]
            refine g_ldc2J (q := 65) X0 hx hZ hown (hw _ (List.mem_of_getElem? (i := 0) rfl)) (hb hby at_62) rfl ?_
            refine g_land (q := 66) X0.here hx (hb hby at_65) rfl ?_
            rw [show ((-2147483648 : Int64) &&& (4294967295 : Int64)) = (2147483648 : Int64) from by decide]
            refine g_lstore (q := 68) (L' := #[.val (.int a), .val (.int b), .val (.int (b &&& (7 : Int32))), .val (.int (-2147483648 : Int32)), .val (.long (2147483648 : Int64)), .second, .unset, .unset, .unset, .unset, .unset]) X0.here hx (hb hby at_66) rfl rfl ?_
            refine g_lload (q := 70) X0.here hx (hb hby at_68) rfl rfl ?_
            refine g_ldc2J (q := 73) X0 hx hZ hown (hw _ (List.mem_of_getElem? (i := 0) rfl)) (hb hby at_70) rfl ?_
            refine g_lrem (q := 74) X0.here hx (hb hby at_73) (by decide) rfl ?_
            refine g_lconst1 (q := 75) X0.here hx (hb hby at_74) rfl ?_
            refine g_ladd (q := 76) X0.here hx (hb hby at_75) rfl ?_
            generalize hv_v10 : (((2147483648 : Int64) % (4294967295 : Int64)) + (1 : Int64)) = v10
            refine g_lstore (q := 78) (L' := #[.val (.int a), .val (.int b), .val (.int (b &&& (7 : Int32))), .val (.int (-2147483648 : Int32)), .val (.long (2147483648 : Int64)), .second, .val (.long v10), .second, .unset, .unset, .unset]) X0.here hx (hb hby at_76) rfl rfl ?_
            refine g_iloadN (q := 79) X0.here hx (hb hby at_78) rfl rfl ?_
            refine g_callSI (q := 82) X0 hx hZ hown (hw _ (List.mem_of_getElem? (i := 1) rfl)) (hw _ (List.mem_of_getElem? (i := 2) rfl)) (hw _ (List.mem_of_getElem? (i := 3) rfl)) (hw _ (List.mem_of_getElem? (i := 4) rfl)) (by decide) (rm1 l Z a0 hw [] (-2147483648 : Int32) h0 n0 Z0) (argsL := [.int (-2147483648 : Int32)]) (rest := []) pd_0 rfl rfl rfl (hb hby at_79) rfl (by rw [hml]; rfl) e0 (by decide) (W := 0) rfl (by decide) rfl rfl (by decide) (by decide) ?_
            intro T11 r12 X11 e11 hr12
            refine g_istore (q := 84) (L' := #[.val (.int a), .val (.int b), .val (.int (b &&& (7 : Int32))), .val (.int (-2147483648 : Int32)), .val (.long (2147483648 : Int64)), .second, .val (.long v10), .second, .val (.int r12), .unset, .unset]) X11.here hx (hb hby at_82) rfl rfl ?_
            refine g_iload (q := 86) X11.here hx (hb hby at_84) rfl rfl ?_
            refine g_i2l (q := 87) X11.here hx (hb hby at_86) rfl ?_
            refine g_ldc2J (q := 90) X11 hx hZ hown (hw _ (List.mem_of_getElem? (i := 0) rfl)) (hb hby at_87) rfl ?_
            refine g_land (q := 91) X11.here hx (hb hby at_90) rfl ?_
            refine g_lstore (q := 93) (L' := #[.val (.int a), .val (.int b), .val (.int (b &&& (7 : Int32))), .val (.int (-2147483648 : Int32)), .val (.long (2147483648 : Int64)), .second, .val (.long v10), .second, .val (.int r12), .val (.long (r12.toInt64 &&& (4294967295 : Int64))), .second]) X11.here hx (hb hby at_91) rfl rfl ?_
            refine g_lload (q := 95) X11.here hx (hb hby at_93) rfl rfl ?_
            refine g_lload (q := 97) X11.here hx (hb hby at_95) rfl rfl ?_
            refine g_lcmp_ne (q := 110) (q1 := 98) (q0 := 101) X11.here hx (hb hby at_97) rfl (hb hby at_98) (by decide) (by decide) rfl ?_ ?_
            · intro c13
              refine g_iconst (q := 111) (v := (0 : Int32)) X11.here hx (hb hby at_110) rfl rfl ?_
              exact g_zreturn (b := false) X11 hx hlk hrt (hb hby at_111) (by decide) (by decide) (by exfalso; (try simp only [Int32.reduceToInt, Int64.reduceToInt] at c1); (try simp only [Int32.reduceToInt, Int64.reduceToInt] at c2); (try simp only [Int32.reduceToInt, Int64.reduceToInt] at c3); (try simp only [Int32.reduceToInt, Int64.reduceToInt] at c4); (try simp only [Int32.reduceToInt, Int64.reduceToInt] at c5); (try simp only [Int32.reduceToInt, Int64.reduceToInt] at hv_v10); (try simp only [Int32.reduceToInt, Int64.reduceToInt] at hr12); (try simp only [Int32.reduceToInt, Int64.reduceToInt] at c13); have f2 := rng32 b; (try simp only [Int32.reduceToInt, Int64.reduceToInt] at f2); have f3 := rng32 (b &&& (7 : Int32)); (try simp only [Int32.reduceToInt, Int64.reduceToInt] at f3); have f4 := c_mask b (7 : Int32) 3 (by decide) (by decide); (try simp only [Int32.reduceToInt, Int64.reduceToInt] at f4); (try have f4e : (b &&& (7 : Int32)).toInt = b.toInt ∨ (b &&& (7 : Int32)).toInt = b.toInt + 8 := (by omega)); have f8 := rng64 ((2147483648 : Int64) % (4294967295 : Int64)); (try simp only [Int32.reduceToInt, Int64.reduceToInt] at f8); have f9 := (show (0 ≤ (2147483648 : Int64).toInt → (((2147483648 : Int64) % (4294967295 : Int64))).toInt = (2147483648 : Int64).toInt % 4294967295) ∧ ((2147483648 : Int64).toInt < 0 → (((2147483648 : Int64) % (4294967295 : Int64))).toInt = -((-(2147483648 : Int64).toInt) % 4294967295)) from by rw [← lrem_mod]; exact c_lrem (2147483648 : Int64) (4294967295 : Int64) 4294967295 (by decide)); (try simp only [Int32.reduceToInt, Int64.reduceToInt] at f9); (try have f9e : ((2147483648 : Int64) % (4294967295 : Int64)).toInt = (2147483648 : Int) ∨ ((2147483648 : Int64) % (4294967295 : Int64)).toInt = (2147483648 : Int) - 4294967295 := (by omega)); have f10 := rng64 (((2147483648 : Int64) % (4294967295 : Int64)) + (1 : Int64)); (try simp only [Int32.reduceToInt, Int64.reduceToInt] at f10); have f11 := c_ladd ((2147483648 : Int64) % (4294967295 : Int64)) (1 : Int64); (try simp only [Int32.reduceToInt, Int64.reduceToInt] at f11); (try have f11e : (((2147483648 : Int64) % (4294967295 : Int64)) + (1 : Int64)).toInt = ((2147483648 : Int64) % (4294967295 : Int64)).toInt + (1 : Int) := (by omega)); have f12 := congrArg Int64.toInt hv_v10; (try simp only [Int32.reduceToInt, Int64.reduceToInt] at f12); have f13 := rng64 v10; (try simp only [Int32.reduceToInt, Int64.reduceToInt] at f13); have f17 := rng32 r12; (try simp only [Int32.reduceToInt, Int64.reduceToInt] at f17); have f18 := c_i2l r12; (try simp only [Int32.reduceToInt, Int64.reduceToInt] at f18); have f19 := rng64 (r12.toInt64 &&& (4294967295 : Int64)); (try simp only [Int32.reduceToInt, Int64.reduceToInt] at f19); have f20 := c_maskL r12.toInt64 (4294967295 : Int64) 32 (by decide) (by decide); (try simp only [Int32.reduceToInt, Int64.reduceToInt] at f20); (try have f20e : (r12.toInt64 &&& (4294967295 : Int64)).toInt = r12.toInt64.toInt ∨ (r12.toInt64 &&& (4294967295 : Int64)).toInt = r12.toInt64.toInt + 4294967296 := (by omega)); (try simp only [Int32.reduceToInt, Int64.reduceToInt, and_true, true_and, or_true, true_or]); (first | done | omega))
            · intro c13
              refine g_iload (q := 103) X11.here hx (hb hby at_101) rfl rfl ?_
              refine g_sel_if_eq (q := 111) X11.here hx (hb hby at_103) (by decide) (by decide) rfl (hb hby at_110) (hb hby at_106) (hb hby at_107) rfl (by decide) (by decide) rfl ?_
              exact g_zreturn (b := decide (r12.toInt ≠ 0)) X11 hx hlk hrt (hb hby at_111) (by decide) (by decide) ⟨okB (decide_eq_true (by (try simp only [Int32.reduceToInt, Int64.reduceToInt] at c1); (try simp only [Int32.reduceToInt, Int64.reduceToInt] at c2); (try simp only [Int32.reduceToInt, Int64.reduceToInt] at c3); (try simp only [Int32.reduceToInt, Int64.reduceToInt] at c4); (try simp only [Int32.reduceToInt, Int64.reduceToInt] at c5); (try simp only [Int32.reduceToInt, Int64.reduceToInt] at hv_v10); (try simp only [Int32.reduceToInt, Int64.reduceToInt] at hr12); (try simp only [Int32.reduceToInt, Int64.reduceToInt] at c13); have f2 := rng32 b; (try simp only [Int32.reduceToInt, Int64.reduceToInt] at f2); have f3 := rng32 (b &&& (7 : Int32)); (try simp only [Int32.reduceToInt, Int64.reduceToInt] at f3); have f4 := c_mask b (7 : Int32) 3 (by decide) (by decide); (try simp only [Int32.reduceToInt, Int64.reduceToInt] at f4); (try have f4e : (b &&& (7 : Int32)).toInt = b.toInt ∨ (b &&& (7 : Int32)).toInt = b.toInt + 8 := (by omega)); have f8 := rng64 ((2147483648 : Int64) % (4294967295 : Int64)); (try simp only [Int32.reduceToInt, Int64.reduceToInt] at f8); have f9 := (show (0 ≤ (2147483648 : Int64).toInt → (((2147483648 : Int64) % (4294967295 : Int64))).toInt = (2147483648 : Int64).toInt % 4294967295) ∧ ((2147483648 : Int64).toInt < 0 → (((2147483648 : Int64) % (4294967295 : Int64))).toInt = -((-(2147483648 : Int64).toInt) % 4294967295)) from by rw [← lrem_mod]; exact c_lrem (2147483648 : Int64) (4294967295 : Int64) 4294967295 (by decide)); (try simp only [Int32.reduceToInt, Int64.reduceToInt] at f9); (try have f9e : ((2147483648 : Int64) % (4294967295 : Int64)).toInt = (2147483648 : Int) ∨ ((2147483648 : Int64) % (4294967295 : Int64)).toInt = (2147483648 : Int) - 4294967295 := (by omega)); have f10 := rng64 (((2147483648 : Int64) % (4294967295 : Int64)) + (1 : Int64)); (try simp only [Int32.reduceToInt, Int64.reduceToInt] at f10); have f11 := c_ladd ((2147483648 : Int64) % (4294967295 : Int64)) (1 : Int64); (try simp only [Int32.reduceToInt, Int64.reduceToInt] at f11); (try have f11e : (((2147483648 : Int64) % (4294967295 : Int64)) + (1 : Int64)).toInt = ((2147483648 : Int64) % (4294967295 : Int64)).toInt + (1 : Int) := (by omega)); have f12 := congrArg Int64.toInt hv_v10; (try simp only [Int32.reduceToInt, Int64.reduceToInt] at f12); have f13 := rng64 v10; (try simp only [Int32.reduceToInt, Int64.reduceToInt] at f13); have f17 := rng32 r12; (try simp only [Int32.reduceToInt, Int64.reduceToInt] at f17); have f18 := c_i2l r12; (try simp only [Int32.reduceToInt, Int64.reduceToInt] at f18); have f19 := rng64 (r12.toInt64 &&& (4294967295 : Int64)); (try simp only [Int32.reduceToInt, Int64.reduceToInt] at f19); have f20 := c_maskL r12.toInt64 (4294967295 : Int64) 32 (by decide) (by decide); (try simp only [Int32.reduceToInt, Int64.reduceToInt] at f20); (try have f20e : (r12.toInt64 &&& (4294967295 : Int64)).toInt = r12.toInt64.toInt ∨ (r12.toInt64 &&& (4294967295 : Int64)).toInt = r12.toInt64.toInt + 4294967296 := (by omega)); (try simp only [Int32.reduceToInt, Int64.reduceToInt, and_true, true_and, or_true, true_or]); (first | done | omega))), (Fr.nil n0)⟩
        · intro c4
          refine g_bipush (q := 43) (v := (-2 : Int32)) X0.here hx (hb hby at_41) rfl rfl ?_
          refine g_istoreN (q := 44) (L' := #[.val (.int a), .val (.int b), .val (.int (b &&& (7 : Int32))), .val (.int (-2 : Int32)), .unset, .unset, .unset, .unset, .unset, .unset, .unset]) X0.here hx (hb hby at_43) rfl rfl ?_
          refine g_goto (q := 60) X0.here hx (hb hby at_44) (by decide) (by decide) ?_
          refine g_iloadN (q := 61) X0.here hx (hb hby at_60) rfl rfl ?_
          refine g_i2l (q := 62) X0.here hx (hb hby at_61) rfl ?_
          rw [show (-2 : Int32).toInt64 = (-2 : Int64) from by decide]
          refine g_ldc2J (q := 65) X0 hx hZ hown (hw _ (List.mem_of_getElem? (i := 0) rfl)) (hb hby at_62) rfl ?_
          refine g_land (q := 66) X0.here hx (hb hby at_65) rfl ?_
          rw [show ((-2 : Int64) &&& (4294967295 : Int64)) = (4294967294 : Int64) from by decide]
          refine g_lstore (q := 68) (L' := #[.val (.int a), .val (.int b), .val (.int (b &&& (7 : Int32))), .val (.int (-2 : Int32)), .val (.long (4294967294 : Int64)), .second, .unset, .unset, .unset, .unset, .unset]) X0.here hx (hb hby at_66) rfl rfl ?_
          refine g_lload (q := 70) X0.here hx (hb hby at_68) rfl rfl ?_
          refine g_ldc2J (q := 73) X0 hx hZ hown (hw _ (List.mem_of_getElem? (i := 0) rfl)) (hb hby at_70) rfl ?_
          refine g_lrem (q := 74) X0.here hx (hb hby at_73) (by decide) rfl ?_
          refine g_lconst1 (q := 75) X0.here hx (hb hby at_74) rfl ?_
          refine g_ladd (q := 76) X0.here hx (hb hby at_75) rfl ?_
          generalize hv_v14 : (((4294967294 : Int64) % (4294967295 : Int64)) + (1 : Int64)) = v14
          refine g_lstore (q := 78) (L' := #[.val (.int a), .val (.int b), .val (.int (b &&& (7 : Int32))), .val (.int (-2 : Int32)), .val (.long (4294967294 : Int64)), .second, .val (.long v14), .second, .unset, .unset, .unset]) X0.here hx (hb hby at_76) rfl rfl ?_
          refine g_iloadN (q := 79) X0.here hx (hb hby at_78) rfl rfl ?_
          refine g_callSI (q := 82) X0 hx hZ hown (hw _ (List.mem_of_getElem? (i := 1) rfl)) (hw _ (List.mem_of_getElem? (i := 2) rfl)) (hw _ (List.mem_of_getElem? (i := 3) rfl)) (hw _ (List.mem_of_getElem? (i := 4) rfl)) (by decide) (rm1 l Z a0 hw [] (-2 : Int32) h0 n0 Z0) (argsL := [.int (-2 : Int32)]) (rest := []) pd_0 rfl rfl rfl (hb hby at_79) rfl (by rw [hml]; rfl) e0 (by decide) (W := 0) rfl (by decide) rfl rfl (by decide) (by decide) ?_
          intro T15 r16 X15 e15 hr16
          refine g_istore (q := 84) (L' := #[.val (.int a), .val (.int b), .val (.int (b &&& (7 : Int32))), .val (.int (-2 : Int32)), .val (.long (4294967294 : Int64)), .second, .val (.long v14), .second, .val (.int r16), .unset, .unset]) X15.here hx (hb hby at_82) rfl rfl ?_
          refine g_iload (q := 86) X15.here hx (hb hby at_84) rfl rfl ?_
          refine g_i2l (q := 87) X15.here hx (hb hby at_86) rfl ?_
          refine g_ldc2J (q := 90) X15 hx hZ hown (hw _ (List.mem_of_getElem? (i := 0) rfl)) (hb hby at_87) rfl ?_
          refine g_land (q := 91) X15.here hx (hb hby at_90) rfl ?_
          refine g_lstore (q := 93) (L' := #[.val (.int a), .val (.int b), .val (.int (b &&& (7 : Int32))), .val (.int (-2 : Int32)), .val (.long (4294967294 : Int64)), .second, .val (.long v14), .second, .val (.int r16), .val (.long (r16.toInt64 &&& (4294967295 : Int64))), .second]) X15.here hx (hb hby at_91) rfl rfl ?_
          refine g_lload (q := 95) X15.here hx (hb hby at_93) rfl rfl ?_
          refine g_lload (q := 97) X15.here hx (hb hby at_95) rfl rfl ?_
          refine g_lcmp_ne (q := 110) (q1 := 98) (q0 := 101) X15.here hx (hb hby at_97) rfl (hb hby at_98) (by decide) (by decide) rfl ?_ ?_
          · intro c17
            refine g_iconst (q := 111) (v := (0 : Int32)) X15.here hx (hb hby at_110) rfl rfl ?_
            exact g_zreturn (b := false) X15 hx hlk hrt (hb hby at_111) (by decide) (by decide) (by exfalso; (try simp only [Int32.reduceToInt, Int64.reduceToInt] at c1); (try simp only [Int32.reduceToInt, Int64.reduceToInt] at c2); (try simp only [Int32.reduceToInt, Int64.reduceToInt] at c3); (try simp only [Int32.reduceToInt, Int64.reduceToInt] at c4); (try simp only [Int32.reduceToInt, Int64.reduceToInt] at hv_v14); (try simp only [Int32.reduceToInt, Int64.reduceToInt] at hr16); (try simp only [Int32.reduceToInt, Int64.reduceToInt] at c17); have f2 := rng32 b; (try simp only [Int32.reduceToInt, Int64.reduceToInt] at f2); have f3 := rng32 (b &&& (7 : Int32)); (try simp only [Int32.reduceToInt, Int64.reduceToInt] at f3); have f4 := c_mask b (7 : Int32) 3 (by decide) (by decide); (try simp only [Int32.reduceToInt, Int64.reduceToInt] at f4); (try have f4e : (b &&& (7 : Int32)).toInt = b.toInt ∨ (b &&& (7 : Int32)).toInt = b.toInt + 8 := (by omega)); have f8 := rng64 ((4294967294 : Int64) % (4294967295 : Int64)); (try simp only [Int32.reduceToInt, Int64.reduceToInt] at f8); have f9 := (show (0 ≤ (4294967294 : Int64).toInt → (((4294967294 : Int64) % (4294967295 : Int64))).toInt = (4294967294 : Int64).toInt % 4294967295) ∧ ((4294967294 : Int64).toInt < 0 → (((4294967294 : Int64) % (4294967295 : Int64))).toInt = -((-(4294967294 : Int64).toInt) % 4294967295)) from by rw [← lrem_mod]; exact c_lrem (4294967294 : Int64) (4294967295 : Int64) 4294967295 (by decide)); (try simp only [Int32.reduceToInt, Int64.reduceToInt] at f9); (try have f9e : ((4294967294 : Int64) % (4294967295 : Int64)).toInt = (4294967294 : Int) ∨ ((4294967294 : Int64) % (4294967295 : Int64)).toInt = (4294967294 : Int) - 4294967295 := (by omega)); have f10 := rng64 (((4294967294 : Int64) % (4294967295 : Int64)) + (1 : Int64)); (try simp only [Int32.reduceToInt, Int64.reduceToInt] at f10); have f11 := c_ladd ((4294967294 : Int64) % (4294967295 : Int64)) (1 : Int64); (try simp only [Int32.reduceToInt, Int64.reduceToInt] at f11); (try have f11e : (((4294967294 : Int64) % (4294967295 : Int64)) + (1 : Int64)).toInt = ((4294967294 : Int64) % (4294967295 : Int64)).toInt + (1 : Int) := (by omega)); have f12 := congrArg Int64.toInt hv_v14; (try simp only [Int32.reduceToInt, Int64.reduceToInt] at f12); have f13 := rng64 v14; (try simp only [Int32.reduceToInt, Int64.reduceToInt] at f13); have f17 := rng32 r16; (try simp only [Int32.reduceToInt, Int64.reduceToInt] at f17); have f18 := c_i2l r16; (try simp only [Int32.reduceToInt, Int64.reduceToInt] at f18); have f19 := rng64 (r16.toInt64 &&& (4294967295 : Int64)); (try simp only [Int32.reduceToInt, Int64.reduceToInt] at f19); have f20 := c_maskL r16.toInt64 (4294967295 : Int64) 32 (by decide) (by decide); (try simp only [Int32.reduceToInt, Int64.reduceToInt] at f20); (try have f20e : (r16.toInt64 &&& (4294967295 : Int64)).toInt = r16.toInt64.toInt ∨ (r16.toInt64 &&& (4294967295 : Int64)).toInt = r16.toInt64.toInt + 4294967296 := (by omega)); (try simp only [Int32.reduceToInt, Int64.reduceToInt, and_true, true_and, or_true, true_or]); (first | done | omega))
          · intro c17
            refine g_iload (q := 103) X15.here hx (hb hby at_101) rfl rfl ?_
            refine g_sel_if_eq (q := 111) X15.here hx (hb hby at_103) (by decide) (by decide) rfl (hb hby at_110) (hb hby at_106) (hb hby at_107) rfl (by decide) (by decide) rfl ?_
            exact g_zreturn (b := decide (r16.toInt ≠ 0)) X15 hx hlk hrt (hb hby at_111) (by decide) (by decide) ⟨okB (decide_eq_true (by (try simp only [Int32.reduceToInt, Int64.reduceToInt] at c1); (try simp only [Int32.reduceToInt, Int64.reduceToInt] at c2); (try simp only [Int32.reduceToInt, Int64.reduceToInt] at c3); (try simp only [Int32.reduceToInt, Int64.reduceToInt] at c4); (try simp only [Int32.reduceToInt, Int64.reduceToInt] at hv_v14); (try simp only [Int32.reduceToInt, Int64.reduceToInt] at hr16); (try simp only [Int32.reduceToInt, Int64.reduceToInt] at c17); have f2 := rng32 b; (try simp only [Int32.reduceToInt, Int64.reduceToInt] at f2); have f3 := rng32 (b &&& (7 : Int32)); (try simp only [Int32.reduceToInt, Int64.reduceToInt] at f3); have f4 := c_mask b (7 : Int32) 3 (by decide) (by decide); (try simp only [Int32.reduceToInt, Int64.reduceToInt] at f4); (try have f4e : (b &&& (7 : Int32)).toInt = b.toInt ∨ (b &&& (7 : Int32)).toInt = b.toInt + 8 := (by omega)); have f8 := rng64 ((4294967294 : Int64) % (4294967295 : Int64)); (try simp only [Int32.reduceToInt, Int64.reduceToInt] at f8); have f9 := (show (0 ≤ (4294967294 : Int64).toInt → (((4294967294 : Int64) % (4294967295 : Int64))).toInt = (4294967294 : Int64).toInt % 4294967295) ∧ ((4294967294 : Int64).toInt < 0 → (((4294967294 : Int64) % (4294967295 : Int64))).toInt = -((-(4294967294 : Int64).toInt) % 4294967295)) from by rw [← lrem_mod]; exact c_lrem (4294967294 : Int64) (4294967295 : Int64) 4294967295 (by decide)); (try simp only [Int32.reduceToInt, Int64.reduceToInt] at f9); (try have f9e : ((4294967294 : Int64) % (4294967295 : Int64)).toInt = (4294967294 : Int) ∨ ((4294967294 : Int64) % (4294967295 : Int64)).toInt = (4294967294 : Int) - 4294967295 := (by omega)); have f10 := rng64 (((4294967294 : Int64) % (4294967295 : Int64)) + (1 : Int64)); (try simp only [Int32.reduceToInt, Int64.reduceToInt] at f10); have f11 := c_ladd ((4294967294 : Int64) % (4294967295 : Int64)) (1 : Int64); (try simp only [Int32.reduceToInt, Int64.reduceToInt] at f11); (try have f11e : (((4294967294 : Int64) % (4294967295 : Int64)) + (1 : Int64)).toInt = ((4294967294 : Int64) % (4294967295 : Int64)).toInt + (1 : Int) := (by omega)); have f12 := congrArg Int64.toInt hv_v14; (try simp only [Int32.reduceToInt, Int64.reduceToInt] at f12); have f13 := rng64 v14; (try simp only [Int32.reduceToInt, Int64.reduceToInt] at f13); have f17 := rng32 r16; (try simp only [Int32.reduceToInt, Int64.reduceToInt] at f17); have f18 := c_i2l r16; (try simp only [Int32.reduceToInt, Int64.reduceToInt] at f18); have f19 := rng64 (r16.toInt64 &&& (4294967295 : Int64)); (try simp only [Int32.reduceToInt, Int64.reduceToInt] at f19); have f20 := c_maskL r16.toInt64 (4294967295 : Int64) 32 (by decide) (by decide); (try simp only [Int32.reduceToInt, Int64.reduceToInt] at f20); (try have f20e : (r16.toInt64 &&& (4294967295 : Int64)).toInt = r16.toInt64.toInt ∨ (r16.toInt64 &&& (4294967295 : Int64)).toInt = r16.toInt64.toInt + 4294967296 := (by omega)); (try simp only [Int32.reduceToInt, Int64.reduceToInt, and_true, true_and, or_true, true_or]); (first | done | omega))), (Fr.nil n0)⟩
      · intro c3
        refine g_iconst (q := 32) (v := (0 : Int32)) X0.here hx (hb hby at_31) rfl rfl ?_
        refine g_istoreN (q := 33) (L' := #[.val (.int a), .val (.int b), .val (.int (b &&& (7 : Int32))), .val (.int (0 : Int32)), .unset, .unset, .unset, .unset, .unset, .unset, .unset]) X0.here hx (hb hby at_32) rfl rfl ?_
        refine g_goto (q := 60) X0.here hx (hb hby at_33) (by decide) (by decide) ?_
        refine g_iloadN (q := 61) X0.here hx (hb hby at_60) rfl rfl ?_
        refine g_i2l (q := 62) X0.here hx (hb hby at_61) rfl ?_
        rw [show (0 : Int32).toInt64 = (0 : Int64) from by decide]
        refine g_ldc2J (q := 65) X0 hx hZ hown (hw _ (List.mem_of_getElem? (i := 0) rfl)) (hb hby at_62) rfl ?_
        refine g_land (q := 66) X0.here hx (hb hby at_65) rfl ?_
        rw [show ((0 : Int64) &&& (4294967295 : Int64)) = (0 : Int64) from by decide]
        refine g_lstore (q := 68) (L' := #[.val (.int a), .val (.int b), .val (.int (b &&& (7 : Int32))), .val (.int (0 : Int32)), .val (.long (0 : Int64)), .second, .unset, .unset, .unset, .unset, .unset]) X0.here hx (hb hby at_66) rfl rfl ?_
        refine g_lload (q := 70) X0.here hx (hb hby at_68) rfl rfl ?_
        refine g_ldc2J (q := 73) X0 hx hZ hown (hw _ (List.mem_of_getElem? (i := 0) rfl)) (hb hby at_70) rfl ?_
        refine g_lrem (q := 74) X0.here hx (hb hby at_73) (by decide) rfl ?_
        refine g_lconst1 (q := 75) X0.here hx (hb hby at_74) rfl ?_
        refine g_ladd (q := 76) X0.here hx (hb hby at_75) rfl ?_
        refine g_lstore (q := 78) (L' := #[.val (.int a), .val (.int b), .val (.int (b &&& (7 : Int32))), .val (.int (0 : Int32)), .val (.long (0 : Int64)), .second, .val (.long (((0 : Int64) % (4294967295 : Int64)) + (1 : Int64))), .second, .unset, .unset, .unset]) X0.here hx (hb hby at_76) rfl rfl ?_
        refine g_iloadN (q := 79) X0.here hx (hb hby at_78) rfl rfl ?_
        refine g_callSI (q := 82) X0 hx hZ hown (hw _ (List.mem_of_getElem? (i := 1) rfl)) (hw _ (List.mem_of_getElem? (i := 2) rfl)) (hw _ (List.mem_of_getElem? (i := 3) rfl)) (hw _ (List.mem_of_getElem? (i := 4) rfl)) (by decide) (rm1 l Z a0 hw [] (0 : Int32) h0 n0 Z0) (argsL := [.int (0 : Int32)]) (rest := []) pd_0 rfl rfl rfl (hb hby at_79) rfl (by rw [hml]; rfl) e0 (by decide) (W := 0) rfl (by decide) rfl rfl (by decide) (by decide) ?_
        intro T18 r19 X18 e18 hr19
        refine g_istore (q := 84) (L' := #[.val (.int a), .val (.int b), .val (.int (b &&& (7 : Int32))), .val (.int (0 : Int32)), .val (.long (0 : Int64)), .second, .val (.long (((0 : Int64) % (4294967295 : Int64)) + (1 : Int64))), .second, .val (.int r19), .unset, .unset]) X18.here hx (hb hby at_82) rfl rfl ?_
        refine g_iload (q := 86) X18.here hx (hb hby at_84) rfl rfl ?_
        refine g_i2l (q := 87) X18.here hx (hb hby at_86) rfl ?_
        refine g_ldc2J (q := 90) X18 hx hZ hown (hw _ (List.mem_of_getElem? (i := 0) rfl)) (hb hby at_87) rfl ?_
        refine g_land (q := 91) X18.here hx (hb hby at_90) rfl ?_
        refine g_lstore (q := 93) (L' := #[.val (.int a), .val (.int b), .val (.int (b &&& (7 : Int32))), .val (.int (0 : Int32)), .val (.long (0 : Int64)), .second, .val (.long (((0 : Int64) % (4294967295 : Int64)) + (1 : Int64))), .second, .val (.int r19), .val (.long (r19.toInt64 &&& (4294967295 : Int64))), .second]) X18.here hx (hb hby at_91) rfl rfl ?_
        refine g_lload (q := 95) X18.here hx (hb hby at_93) rfl rfl ?_
        refine g_lload (q := 97) X18.here hx (hb hby at_95) rfl rfl ?_
        refine g_lcmp_ne (q := 110) (q1 := 98) (q0 := 101) X18.here hx (hb hby at_97) rfl (hb hby at_98) (by decide) (by decide) rfl ?_ ?_
        · intro c20
          refine g_iconst (q := 111) (v := (0 : Int32)) X18.here hx (hb hby at_110) rfl rfl ?_
          exact g_zreturn (b := false) X18 hx hlk hrt (hb hby at_111) (by decide) (by decide) (by exfalso; (try simp only [Int32.reduceToInt, Int64.reduceToInt] at c1); (try simp only [Int32.reduceToInt, Int64.reduceToInt] at c2); (try simp only [Int32.reduceToInt, Int64.reduceToInt] at c3); (try simp only [Int32.reduceToInt, Int64.reduceToInt] at hr19); (try simp only [Int32.reduceToInt, Int64.reduceToInt] at c20); have f2 := rng32 b; (try simp only [Int32.reduceToInt, Int64.reduceToInt] at f2); have f3 := rng32 (b &&& (7 : Int32)); (try simp only [Int32.reduceToInt, Int64.reduceToInt] at f3); have f4 := c_mask b (7 : Int32) 3 (by decide) (by decide); (try simp only [Int32.reduceToInt, Int64.reduceToInt] at f4); (try have f4e : (b &&& (7 : Int32)).toInt = b.toInt ∨ (b &&& (7 : Int32)).toInt = b.toInt + 8 := (by omega)); have f7 := rng64 ((0 : Int64) % (4294967295 : Int64)); (try simp only [Int32.reduceToInt, Int64.reduceToInt] at f7); have f8 := (show (0 ≤ (0 : Int64).toInt → (((0 : Int64) % (4294967295 : Int64))).toInt = (0 : Int64).toInt % 4294967295) ∧ ((0 : Int64).toInt < 0 → (((0 : Int64) % (4294967295 : Int64))).toInt = -((-(0 : Int64).toInt) % 4294967295)) from by rw [← lrem_mod]; exact c_lrem (0 : Int64) (4294967295 : Int64) 4294967295 (by decide)); (try simp only [Int32.reduceToInt, Int64.reduceToInt] at f8); (try have f8e : ((0 : Int64) % (4294967295 : Int64)).toInt = (0 : Int) ∨ ((0 : Int64) % (4294967295 : Int64)).toInt = (0 : Int) - 4294967295 := (by omega)); have f9 := rng64 (((0 : Int64) % (4294967295 : Int64)) + (1 : Int64)); (try simp only [Int32.reduceToInt, Int64.reduceToInt] at f9); have f10 := c_ladd ((0 : Int64) % (4294967295 : Int64)) (1 : Int64); (try simp only [Int32.reduceToInt, Int64.reduceToInt] at f10); (try have f10e : (((0 : Int64) % (4294967295 : Int64)) + (1 : Int64)).toInt = ((0 : Int64) % (4294967295 : Int64)).toInt + (1 : Int) := (by omega)); have f14 := rng32 r19; (try simp only [Int32.reduceToInt, Int64.reduceToInt] at f14); have f15 := c_i2l r19; (try simp only [Int32.reduceToInt, Int64.reduceToInt] at f15); have f16 := rng64 (r19.toInt64 &&& (4294967295 : Int64)); (try simp only [Int32.reduceToInt, Int64.reduceToInt] at f16); have f17 := c_maskL r19.toInt64 (4294967295 : Int64) 32 (by decide) (by decide); (try simp only [Int32.reduceToInt, Int64.reduceToInt] at f17); (try have f17e : (r19.toInt64 &&& (4294967295 : Int64)).toInt = r19.toInt64.toInt ∨ (r19.toInt64 &&& (4294967295 : Int64)).toInt = r19.toInt64.toInt + 4294967296 := (by omega)); (try simp only [Int32.reduceToInt, Int64.reduceToInt, and_true, true_and, or_true, true_or]); (first | done | omega))
        · intro c20
          refine g_iload (q := 103) X18.here hx (hb hby at_101) rfl rfl ?_
          refine g_sel_if_eq (q := 111) X18.here hx (hb hby at_103) (by decide) (by decide) rfl (hb hby at_110) (hb hby at_106) (hb hby at_107) rfl (by decide) (by decide) rfl ?_
          exact g_zreturn (b := decide (r19.toInt ≠ 0)) X18 hx hlk hrt (hb hby at_111) (by decide) (by decide) ⟨okB (decide_eq_true (by (try simp only [Int32.reduceToInt, Int64.reduceToInt] at c1); (try simp only [Int32.reduceToInt, Int64.reduceToInt] at c2); (try simp only [Int32.reduceToInt, Int64.reduceToInt] at c3); (try simp only [Int32.reduceToInt, Int64.reduceToInt] at hr19); (try simp only [Int32.reduceToInt, Int64.reduceToInt] at c20); have f2 := rng32 b; (try simp only [Int32.reduceToInt, Int64.reduceToInt] at f2); have f3 := rng32 (b &&& (7 : Int32)); (try simp only [Int32.reduceToInt, Int64.reduceToInt] at f3); have f4 := c_mask b (7 : Int32) 3 (by decide) (by decide); (try simp only [Int32.reduceToInt, Int64.reduceToInt] at f4); (try have f4e : (b &&& (7 : Int32)).toInt = b.toInt ∨ (b &&& (7 : Int32)).toInt = b.toInt + 8 := (by omega)); have f7 := rng64 ((0 : Int64) % (4294967295 : Int64)); (try simp only [Int32.reduceToInt, Int64.reduceToInt] at f7); have f8 := (show (0 ≤ (0 : Int64).toInt → (((0 : Int64) % (4294967295 : Int64))).toInt = (0 : Int64).toInt % 4294967295) ∧ ((0 : Int64).toInt < 0 → (((0 : Int64) % (4294967295 : Int64))).toInt = -((-(0 : Int64).toInt) % 4294967295)) from by rw [← lrem_mod]; exact c_lrem (0 : Int64) (4294967295 : Int64) 4294967295 (by decide)); (try simp only [Int32.reduceToInt, Int64.reduceToInt] at f8); (try have f8e : ((0 : Int64) % (4294967295 : Int64)).toInt = (0 : Int) ∨ ((0 : Int64) % (4294967295 : Int64)).toInt = (0 : Int) - 4294967295 := (by omega)); have f9 := rng64 (((0 : Int64) % (4294967295 : Int64)) + (1 : Int64)); (try simp only [Int32.reduceToInt, Int64.reduceToInt] at f9); have f10 := c_ladd ((0 : Int64) % (4294967295 : Int64)) (1 : Int64); (try simp only [Int32.reduceToInt, Int64.reduceToInt] at f10); (try have f10e : (((0 : Int64) % (4294967295 : Int64)) + (1 : Int64)).toInt = ((0 : Int64) % (4294967295 : Int64)).toInt + (1 : Int) := (by omega)); have f14 := rng32 r19; (try simp only [Int32.reduceToInt, Int64.reduceToInt] at f14); have f15 := c_i2l r19; (try simp only [Int32.reduceToInt, Int64.reduceToInt] at f15); have f16 := rng64 (r19.toInt64 &&& (4294967295 : Int64)); (try simp only [Int32.reduceToInt, Int64.reduceToInt] at f16); have f17 := c_maskL r19.toInt64 (4294967295 : Int64) 32 (by decide) (by decide); (try simp only [Int32.reduceToInt, Int64.reduceToInt] at f17); (try have f17e : (r19.toInt64 &&& (4294967295 : Int64)).toInt = r19.toInt64.toInt ∨ (r19.toInt64 &&& (4294967295 : Int64)).toInt = r19.toInt64.toInt + 4294967296 := (by omega)); (try simp only [Int32.reduceToInt, Int64.reduceToInt, and_true, true_and, or_true, true_or]); (first | done | omega))), (Fr.nil n0)⟩
    · intro c2
      refine g_ldcI (q := 22) X0 hx hZ hown (hw _ (List.mem_of_getElem? (i := 6) rfl)) (hb hby at_20) rfl ?_
      refine g_istoreN (q := 23) (L' := #[.val (.int a), .val (.int b), .val (.int (b &&& (7 : Int32))), .val (.int (2147483647 : Int32)), .unset, .unset, .unset, .unset, .unset, .unset, .unset]) X0.here hx (hb hby at_22) rfl rfl ?_
      refine g_goto (q := 60) X0.here hx (hb hby at_23) (by decide) (by decide) ?_
      refine g_iloadN (q := 61) X0.here hx (hb hby at_60) rfl rfl ?_
      refine g_i2l (q := 62) X0.here hx (hb hby at_61) rfl ?_
      rw [show (2147483647 : Int32).toInt64 = (2147483647 : Int64) from by decide]
      refine g_ldc2J (q := 65) X0 hx hZ hown (hw _ (List.mem_of_getElem? (i := 0) rfl)) (hb hby at_62) rfl ?_
      refine g_land (q := 66) X0.here hx (hb hby at_65) rfl ?_
      rw [show ((2147483647 : Int64) &&& (4294967295 : Int64)) = (2147483647 : Int64) from by decide]
      refine g_lstore (q := 68) (L' := #[.val (.int a), .val (.int b), .val (.int (b &&& (7 : Int32))), .val (.int (2147483647 : Int32)), .val (.long (2147483647 : Int64)), .second, .unset, .unset, .unset, .unset, .unset]) X0.here hx (hb hby at_66) rfl rfl ?_
      refine g_lload (q := 70) X0.here hx (hb hby at_68) rfl rfl ?_
      refine g_ldc2J (q := 73) X0 hx hZ hown (hw _ (List.mem_of_getElem? (i := 0) rfl)) (hb hby at_70) rfl ?_
      refine g_lrem (q := 74) X0.here hx (hb hby at_73) (by decide) rfl ?_
      refine g_lconst1 (q := 75) X0.here hx (hb hby at_74) rfl ?_
      refine g_ladd (q := 76) X0.here hx (hb hby at_75) rfl ?_
      generalize hv_v21 : (((2147483647 : Int64) % (4294967295 : Int64)) + (1 : Int64)) = v21
      refine g_lstore (q := 78) (L' := #[.val (.int a), .val (.int b), .val (.int (b &&& (7 : Int32))), .val (.int (2147483647 : Int32)), .val (.long (2147483647 : Int64)), .second, .val (.long v21), .second, .unset, .unset, .unset]) X0.here hx (hb hby at_76) rfl rfl ?_
      refine g_iloadN (q := 79) X0.here hx (hb hby at_78) rfl rfl ?_
      refine g_callSI (q := 82) X0 hx hZ hown (hw _ (List.mem_of_getElem? (i := 1) rfl)) (hw _ (List.mem_of_getElem? (i := 2) rfl)) (hw _ (List.mem_of_getElem? (i := 3) rfl)) (hw _ (List.mem_of_getElem? (i := 4) rfl)) (by decide) (rm1 l Z a0 hw [] (2147483647 : Int32) h0 n0 Z0) (argsL := [.int (2147483647 : Int32)]) (rest := []) pd_0 rfl rfl rfl (hb hby at_79) rfl (by rw [hml]; rfl) e0 (by decide) (W := 0) rfl (by decide) rfl rfl (by decide) (by decide) ?_
      intro T22 r23 X22 e22 hr23
      refine g_istore (q := 84) (L' := #[.val (.int a), .val (.int b), .val (.int (b &&& (7 : Int32))), .val (.int (2147483647 : Int32)), .val (.long (2147483647 : Int64)), .second, .val (.long v21), .second, .val (.int r23), .unset, .unset]) X22.here hx (hb hby at_82) rfl rfl ?_
      refine g_iload (q := 86) X22.here hx (hb hby at_84) rfl rfl ?_
      refine g_i2l (q := 87) X22.here hx (hb hby at_86) rfl ?_
      refine g_ldc2J (q := 90) X22 hx hZ hown (hw _ (List.mem_of_getElem? (i := 0) rfl)) (hb hby at_87) rfl ?_
      refine g_land (q := 91) X22.here hx (hb hby at_90) rfl ?_
      refine g_lstore (q := 93) (L' := #[.val (.int a), .val (.int b), .val (.int (b &&& (7 : Int32))), .val (.int (2147483647 : Int32)), .val (.long (2147483647 : Int64)), .second, .val (.long v21), .second, .val (.int r23), .val (.long (r23.toInt64 &&& (4294967295 : Int64))), .second]) X22.here hx (hb hby at_91) rfl rfl ?_
      refine g_lload (q := 95) X22.here hx (hb hby at_93) rfl rfl ?_
      refine g_lload (q := 97) X22.here hx (hb hby at_95) rfl rfl ?_
      refine g_lcmp_ne (q := 110) (q1 := 98) (q0 := 101) X22.here hx (hb hby at_97) rfl (hb hby at_98) (by decide) (by decide) rfl ?_ ?_
      · intro c24
        refine g_iconst (q := 111) (v := (0 : Int32)) X22.here hx (hb hby at_110) rfl rfl ?_
        exact g_zreturn (b := false) X22 hx hlk hrt (hb hby at_111) (by decide) (by decide) (by exfalso; (try simp only [Int32.reduceToInt, Int64.reduceToInt] at c1); (try simp only [Int32.reduceToInt, Int64.reduceToInt] at c2); (try simp only [Int32.reduceToInt, Int64.reduceToInt] at hv_v21); (try simp only [Int32.reduceToInt, Int64.reduceToInt] at hr23); (try simp only [Int32.reduceToInt, Int64.reduceToInt] at c24); have f2 := rng32 b; (try simp only [Int32.reduceToInt, Int64.reduceToInt] at f2); have f3 := rng32 (b &&& (7 : Int32)); (try simp only [Int32.reduceToInt, Int64.reduceToInt] at f3); have f4 := c_mask b (7 : Int32) 3 (by decide) (by decide); (try simp only [Int32.reduceToInt, Int64.reduceToInt] at f4); (try have f4e : (b &&& (7 : Int32)).toInt = b.toInt ∨ (b &&& (7 : Int32)).toInt = b.toInt + 8 := (by omega)); have f8 := rng64 ((2147483647 : Int64) % (4294967295 : Int64)); (try simp only [Int32.reduceToInt, Int64.reduceToInt] at f8); have f9 := (show (0 ≤ (2147483647 : Int64).toInt → (((2147483647 : Int64) % (4294967295 : Int64))).toInt = (2147483647 : Int64).toInt % 4294967295) ∧ ((2147483647 : Int64).toInt < 0 → (((2147483647 : Int64) % (4294967295 : Int64))).toInt = -((-(2147483647 : Int64).toInt) % 4294967295)) from by rw [← lrem_mod]; exact c_lrem (2147483647 : Int64) (4294967295 : Int64) 4294967295 (by decide)); (try simp only [Int32.reduceToInt, Int64.reduceToInt] at f9); (try have f9e : ((2147483647 : Int64) % (4294967295 : Int64)).toInt = (2147483647 : Int) ∨ ((2147483647 : Int64) % (4294967295 : Int64)).toInt = (2147483647 : Int) - 4294967295 := (by omega)); have f10 := rng64 (((2147483647 : Int64) % (4294967295 : Int64)) + (1 : Int64)); (try simp only [Int32.reduceToInt, Int64.reduceToInt] at f10); have f11 := c_ladd ((2147483647 : Int64) % (4294967295 : Int64)) (1 : Int64); (try simp only [Int32.reduceToInt, Int64.reduceToInt] at f11); (try have f11e : (((2147483647 : Int64) % (4294967295 : Int64)) + (1 : Int64)).toInt = ((2147483647 : Int64) % (4294967295 : Int64)).toInt + (1 : Int) := (by omega)); have f12 := congrArg Int64.toInt hv_v21; (try simp only [Int32.reduceToInt, Int64.reduceToInt] at f12); have f13 := rng64 v21; (try simp only [Int32.reduceToInt, Int64.reduceToInt] at f13); have f17 := rng32 r23; (try simp only [Int32.reduceToInt, Int64.reduceToInt] at f17); have f18 := c_i2l r23; (try simp only [Int32.reduceToInt, Int64.reduceToInt] at f18); have f19 := rng64 (r23.toInt64 &&& (4294967295 : Int64)); (try simp only [Int32.reduceToInt, Int64.reduceToInt] at f19); have f20 := c_maskL r23.toInt64 (4294967295 : Int64) 32 (by decide) (by decide); (try simp only [Int32.reduceToInt, Int64.reduceToInt] at f20); (try have f20e : (r23.toInt64 &&& (4294967295 : Int64)).toInt = r23.toInt64.toInt ∨ (r23.toInt64 &&& (4294967295 : Int64)).toInt = r23.toInt64.toInt + 4294967296 := (by omega)); (try simp only [Int32.reduceToInt, Int64.reduceToInt, and_true, true_and, or_true, true_or]); (first | done | omega))
      · intro c24
        refine g_iload (q := 103) X22.here hx (hb hby at_101) rfl rfl ?_
        refine g_sel_if_eq (q := 111) X22.here hx (hb hby at_103) (by decide) (by decide) rfl (hb hby at_110) (hb hby at_106) (hb hby at_107) rfl (by decide) (by decide) rfl ?_
        exact g_zreturn (b := decide (r23.toInt ≠ 0)) X22 hx hlk hrt (hb hby at_111) (by decide) (by decide) ⟨okB (decide_eq_true (by (try simp only [Int32.reduceToInt, Int64.reduceToInt] at c1); (try simp only [Int32.reduceToInt, Int64.reduceToInt] at c2); (try simp only [Int32.reduceToInt, Int64.reduceToInt] at hv_v21); (try simp only [Int32.reduceToInt, Int64.reduceToInt] at hr23); (try simp only [Int32.reduceToInt, Int64.reduceToInt] at c24); have f2 := rng32 b; (try simp only [Int32.reduceToInt, Int64.reduceToInt] at f2); have f3 := rng32 (b &&& (7 : Int32)); (try simp only [Int32.reduceToInt, Int64.reduceToInt] at f3); have f4 := c_mask b (7 : Int32) 3 (by decide) (by decide); (try simp only [Int32.reduceToInt, Int64.reduceToInt] at f4); (try have f4e : (b &&& (7 : Int32)).toInt = b.toInt ∨ (b &&& (7 : Int32)).toInt = b.toInt + 8 := (by omega)); have f8 := rng64 ((2147483647 : Int64) % (4294967295 : Int64)); (try simp only [Int32.reduceToInt, Int64.reduceToInt] at f8); have f9 := (show (0 ≤ (2147483647 : Int64).toInt → (((2147483647 : Int64) % (4294967295 : Int64))).toInt = (2147483647 : Int64).toInt % 4294967295) ∧ ((2147483647 : Int64).toInt < 0 → (((2147483647 : Int64) % (4294967295 : Int64))).toInt = -((-(2147483647 : Int64).toInt) % 4294967295)) from by rw [← lrem_mod]; exact c_lrem (2147483647 : Int64) (4294967295 : Int64) 4294967295 (by decide)); (try simp only [Int32.reduceToInt, Int64.reduceToInt] at f9); (try have f9e : ((2147483647 : Int64) % (4294967295 : Int64)).toInt = (2147483647 : Int) ∨ ((2147483647 : Int64) % (4294967295 : Int64)).toInt = (2147483647 : Int) - 4294967295 := (by omega)); have f10 := rng64 (((2147483647 : Int64) % (4294967295 : Int64)) + (1 : Int64)); (try simp only [Int32.reduceToInt, Int64.reduceToInt] at f10); have f11 := c_ladd ((2147483647 : Int64) % (4294967295 : Int64)) (1 : Int64); (try simp only [Int32.reduceToInt, Int64.reduceToInt] at f11); (try have f11e : (((2147483647 : Int64) % (4294967295 : Int64)) + (1 : Int64)).toInt = ((2147483647 : Int64) % (4294967295 : Int64)).toInt + (1 : Int) := (by omega)); have f12 := congrArg Int64.toInt hv_v21; (try simp only [Int32.reduceToInt, Int64.reduceToInt] at f12); have f13 := rng64 v21; (try simp only [Int32.reduceToInt, Int64.reduceToInt] at f13); have f17 := rng32 r23; (try simp only [Int32.reduceToInt, Int64.reduceToInt] at f17); have f18 := c_i2l r23; (try simp only [Int32.reduceToInt, Int64.reduceToInt] at f18); have f19 := rng64 (r23.toInt64 &&& (4294967295 : Int64)); (try simp only [Int32.reduceToInt, Int64.reduceToInt] at f19); have f20 := c_maskL r23.toInt64 (4294967295 : Int64) 32 (by decide) (by decide); (try simp only [Int32.reduceToInt, Int64.reduceToInt] at f20); (try have f20e : (r23.toInt64 &&& (4294967295 : Int64)).toInt = r23.toInt64.toInt ∨ (r23.toInt64 &&& (4294967295 : Int64)).toInt = r23.toInt64.toInt + 4294967296 := (by omega)); (try simp only [Int32.reduceToInt, Int64.reduceToInt, and_true, true_and, or_true, true_or]); (first | done | omega))), (Fr.nil n0)⟩
  · intro c1
    refine g_iconst (q := 11) (v := (-1 : Int32)) X0.here hx (hb hby at_10) rfl rfl ?_
    refine g_istoreN (q := 12) (L' := #[.val (.int a), .val (.int b), .val (.int (b &&& (7 : Int32))), .val (.int (-1 : Int32)), .unset, .unset, .unset, .unset, .unset, .unset, .unset]) X0.here hx (hb hby at_11) rfl rfl ?_
    refine g_goto (q := 60) X0.here hx (hb hby at_12) (by decide) (by decide) ?_
    refine g_iloadN (q := 61) X0.here hx (hb hby at_60) rfl rfl ?_
    refine g_i2l (q := 62) X0.here hx (hb hby at_61) rfl ?_
    rw [show (-1 : Int32).toInt64 = (-1 : Int64) from by decide]
    refine g_ldc2J (q := 65) X0 hx hZ hown (hw _ (List.mem_of_getElem? (i := 0) rfl)) (hb hby at_62) rfl ?_
    refine g_land (q := 66) X0.here hx (hb hby at_65) rfl ?_
    rw [show ((-1 : Int64) &&& (4294967295 : Int64)) = (4294967295 : Int64) from by decide]
    refine g_lstore (q := 68) (L' := #[.val (.int a), .val (.int b), .val (.int (b &&& (7 : Int32))), .val (.int (-1 : Int32)), .val (.long (4294967295 : Int64)), .second, .unset, .unset, .unset, .unset, .unset]) X0.here hx (hb hby at_66) rfl rfl ?_
    refine g_lload (q := 70) X0.here hx (hb hby at_68) rfl rfl ?_
    refine g_ldc2J (q := 73) X0 hx hZ hown (hw _ (List.mem_of_getElem? (i := 0) rfl)) (hb hby at_70) rfl ?_
    refine g_lrem (q := 74) X0.here hx (hb hby at_73) (by decide) rfl ?_
    refine g_lconst1 (q := 75) X0.here hx (hb hby at_74) rfl ?_
    refine g_ladd (q := 76) X0.here hx (hb hby at_75) rfl ?_
    generalize hv_v25 : (((4294967295 : Int64) % (4294967295 : Int64)) + (1 : Int64)) = v25
    refine g_lstore (q := 78) (L' := #[.val (.int a), .val (.int b), .val (.int (b &&& (7 : Int32))), .val (.int (-1 : Int32)), .val (.long (4294967295 : Int64)), .second, .val (.long v25), .second, .unset, .unset, .unset]) X0.here hx (hb hby at_76) rfl rfl ?_
    refine g_iloadN (q := 79) X0.here hx (hb hby at_78) rfl rfl ?_
    refine g_callSI (q := 82) X0 hx hZ hown (hw _ (List.mem_of_getElem? (i := 1) rfl)) (hw _ (List.mem_of_getElem? (i := 2) rfl)) (hw _ (List.mem_of_getElem? (i := 3) rfl)) (hw _ (List.mem_of_getElem? (i := 4) rfl)) (by decide) (rm1 l Z a0 hw [] (-1 : Int32) h0 n0 Z0) (argsL := [.int (-1 : Int32)]) (rest := []) pd_0 rfl rfl rfl (hb hby at_79) rfl (by rw [hml]; rfl) e0 (by decide) (W := 0) rfl (by decide) rfl rfl (by decide) (by decide) ?_
    intro T26 r27 X26 e26 hr27
    refine g_istore (q := 84) (L' := #[.val (.int a), .val (.int b), .val (.int (b &&& (7 : Int32))), .val (.int (-1 : Int32)), .val (.long (4294967295 : Int64)), .second, .val (.long v25), .second, .val (.int r27), .unset, .unset]) X26.here hx (hb hby at_82) rfl rfl ?_
    refine g_iload (q := 86) X26.here hx (hb hby at_84) rfl rfl ?_
    refine g_i2l (q := 87) X26.here hx (hb hby at_86) rfl ?_
    refine g_ldc2J (q := 90) X26 hx hZ hown (hw _ (List.mem_of_getElem? (i := 0) rfl)) (hb hby at_87) rfl ?_
    refine g_land (q := 91) X26.here hx (hb hby at_90) rfl ?_
    refine g_lstore (q := 93) (L' := #[.val (.int a), .val (.int b), .val (.int (b &&& (7 : Int32))), .val (.int (-1 : Int32)), .val (.long (4294967295 : Int64)), .second, .val (.long v25), .second, .val (.int r27), .val (.long (r27.toInt64 &&& (4294967295 : Int64))), .second]) X26.here hx (hb hby at_91) rfl rfl ?_
    refine g_lload (q := 95) X26.here hx (hb hby at_93) rfl rfl ?_
    refine g_lload (q := 97) X26.here hx (hb hby at_95) rfl rfl ?_
    refine g_lcmp_ne (q := 110) (q1 := 98) (q0 := 101) X26.here hx (hb hby at_97) rfl (hb hby at_98) (by decide) (by decide) rfl ?_ ?_
    · intro c28
      refine g_iconst (q := 111) (v := (0 : Int32)) X26.here hx (hb hby at_110) rfl rfl ?_
      exact g_zreturn (b := false) X26 hx hlk hrt (hb hby at_111) (by decide) (by decide) (by exfalso; (try simp only [Int32.reduceToInt, Int64.reduceToInt] at c1); (try simp only [Int32.reduceToInt, Int64.reduceToInt] at hv_v25); (try simp only [Int32.reduceToInt, Int64.reduceToInt] at hr27); (try simp only [Int32.reduceToInt, Int64.reduceToInt] at c28); have f2 := rng32 b; (try simp only [Int32.reduceToInt, Int64.reduceToInt] at f2); have f3 := rng32 (b &&& (7 : Int32)); (try simp only [Int32.reduceToInt, Int64.reduceToInt] at f3); have f4 := c_mask b (7 : Int32) 3 (by decide) (by decide); (try simp only [Int32.reduceToInt, Int64.reduceToInt] at f4); (try have f4e : (b &&& (7 : Int32)).toInt = b.toInt ∨ (b &&& (7 : Int32)).toInt = b.toInt + 8 := (by omega)); have f8 := rng64 ((4294967295 : Int64) % (4294967295 : Int64)); (try simp only [Int32.reduceToInt, Int64.reduceToInt] at f8); have f9 := (show (0 ≤ (4294967295 : Int64).toInt → (((4294967295 : Int64) % (4294967295 : Int64))).toInt = (4294967295 : Int64).toInt % 4294967295) ∧ ((4294967295 : Int64).toInt < 0 → (((4294967295 : Int64) % (4294967295 : Int64))).toInt = -((-(4294967295 : Int64).toInt) % 4294967295)) from by rw [← lrem_mod]; exact c_lrem (4294967295 : Int64) (4294967295 : Int64) 4294967295 (by decide)); (try simp only [Int32.reduceToInt, Int64.reduceToInt] at f9); (try have f9e : ((4294967295 : Int64) % (4294967295 : Int64)).toInt = (4294967295 : Int) ∨ ((4294967295 : Int64) % (4294967295 : Int64)).toInt = (4294967295 : Int) - 4294967295 := (by omega)); have f10 := rng64 (((4294967295 : Int64) % (4294967295 : Int64)) + (1 : Int64)); (try simp only [Int32.reduceToInt, Int64.reduceToInt] at f10); have f11 := c_ladd ((4294967295 : Int64) % (4294967295 : Int64)) (1 : Int64); (try simp only [Int32.reduceToInt, Int64.reduceToInt] at f11); (try have f11e : (((4294967295 : Int64) % (4294967295 : Int64)) + (1 : Int64)).toInt = ((4294967295 : Int64) % (4294967295 : Int64)).toInt + (1 : Int) := (by omega)); have f12 := congrArg Int64.toInt hv_v25; (try simp only [Int32.reduceToInt, Int64.reduceToInt] at f12); have f13 := rng64 v25; (try simp only [Int32.reduceToInt, Int64.reduceToInt] at f13); have f17 := rng32 r27; (try simp only [Int32.reduceToInt, Int64.reduceToInt] at f17); have f18 := c_i2l r27; (try simp only [Int32.reduceToInt, Int64.reduceToInt] at f18); have f19 := rng64 (r27.toInt64 &&& (4294967295 : Int64)); (try simp only [Int32.reduceToInt, Int64.reduceToInt] at f19); have f20 := c_maskL r27.toInt64 (4294967295 : Int64) 32 (by decide) (by decide); (try simp only [Int32.reduceToInt, Int64.reduceToInt] at f20); (try have f20e : (r27.toInt64 &&& (4294967295 : Int64)).toInt = r27.toInt64.toInt ∨ (r27.toInt64 &&& (4294967295 : Int64)).toInt = r27.toInt64.toInt + 4294967296 := (by omega)); (try simp only [Int32.reduceToInt, Int64.reduceToInt, and_true, true_and, or_true, true_or]); (first | done | omega))
    · intro c28
      refine g_iload (q := 103) X26.here hx (hb hby at_101) rfl rfl ?_
      refine g_sel_if_eq (q := 111) X26.here hx (hb hby at_103) (by decide) (by decide) rfl (hb hby at_110) (hb hby at_106) (hb hby at_107) rfl (by decide) (by decide) rfl ?_
      exact g_zreturn (b := decide (r27.toInt ≠ 0)) X26 hx hlk hrt (hb hby at_111) (by decide) (by decide) ⟨okB (decide_eq_true (by (try simp only [Int32.reduceToInt, Int64.reduceToInt] at c1); (try simp only [Int32.reduceToInt, Int64.reduceToInt] at hv_v25); (try simp only [Int32.reduceToInt, Int64.reduceToInt] at hr27); (try simp only [Int32.reduceToInt, Int64.reduceToInt] at c28); have f2 := rng32 b; (try simp only [Int32.reduceToInt, Int64.reduceToInt] at f2); have f3 := rng32 (b &&& (7 : Int32)); (try simp only [Int32.reduceToInt, Int64.reduceToInt] at f3); have f4 := c_mask b (7 : Int32) 3 (by decide) (by decide); (try simp only [Int32.reduceToInt, Int64.reduceToInt] at f4); (try have f4e : (b &&& (7 : Int32)).toInt = b.toInt ∨ (b &&& (7 : Int32)).toInt = b.toInt + 8 := (by omega)); have f8 := rng64 ((4294967295 : Int64) % (4294967295 : Int64)); (try simp only [Int32.reduceToInt, Int64.reduceToInt] at f8); have f9 := (show (0 ≤ (4294967295 : Int64).toInt → (((4294967295 : Int64) % (4294967295 : Int64))).toInt = (4294967295 : Int64).toInt % 4294967295) ∧ ((4294967295 : Int64).toInt < 0 → (((4294967295 : Int64) % (4294967295 : Int64))).toInt = -((-(4294967295 : Int64).toInt) % 4294967295)) from by rw [← lrem_mod]; exact c_lrem (4294967295 : Int64) (4294967295 : Int64) 4294967295 (by decide)); (try simp only [Int32.reduceToInt, Int64.reduceToInt] at f9); (try have f9e : ((4294967295 : Int64) % (4294967295 : Int64)).toInt = (4294967295 : Int) ∨ ((4294967295 : Int64) % (4294967295 : Int64)).toInt = (4294967295 : Int) - 4294967295 := (by omega)); have f10 := rng64 (((4294967295 : Int64) % (4294967295 : Int64)) + (1 : Int64)); (try simp only [Int32.reduceToInt, Int64.reduceToInt] at f10); have f11 := c_ladd ((4294967295 : Int64) % (4294967295 : Int64)) (1 : Int64); (try simp only [Int32.reduceToInt, Int64.reduceToInt] at f11); (try have f11e : (((4294967295 : Int64) % (4294967295 : Int64)) + (1 : Int64)).toInt = ((4294967295 : Int64) % (4294967295 : Int64)).toInt + (1 : Int) := (by omega)); have f12 := congrArg Int64.toInt hv_v25; (try simp only [Int32.reduceToInt, Int64.reduceToInt] at f12); have f13 := rng64 v25; (try simp only [Int32.reduceToInt, Int64.reduceToInt] at f13); have f17 := rng32 r27; (try simp only [Int32.reduceToInt, Int64.reduceToInt] at f17); have f18 := c_i2l r27; (try simp only [Int32.reduceToInt, Int64.reduceToInt] at f18); have f19 := rng64 (r27.toInt64 &&& (4294967295 : Int64)); (try simp only [Int32.reduceToInt, Int64.reduceToInt] at f19); have f20 := c_maskL r27.toInt64 (4294967295 : Int64) 32 (by decide) (by decide); (try simp only [Int32.reduceToInt, Int64.reduceToInt] at f20); (try have f20e : (r27.toInt64 &&& (4294967295 : Int64)).toInt = r27.toInt64.toInt ∨ (r27.toInt64 &&& (4294967295 : Int64)).toInt = r27.toInt64.toInt + 4294967296 := (by omega)); (try simp only [Int32.reduceToInt, Int64.reduceToInt, and_true, true_and, or_true, true_or]); (first | done | omega))), (Fr.nil n0)⟩
set_option maxRecDepth 65536 in
set_option maxHeartbeats 40000000 in
theorem comes_1 {Post : Tables → Env → Array Value → State → Outcome → State → Prop} (hpost : ∀ tb e args s v u, (limb_1_1.after args s (.returned v) u = true ∧ limb_1_2.after args s (.returned v) u = true ∧ True) → FrameEnd s (.returned v) u (Jvm.fieldLocs frame_1_writes args s ++ Jvm.arrayLocs frame_1_arrays args s ++ Jvm.staticLocs frame_1_statics s) 0 0 → Post tb e args s (.returned v) u) :
    ArmFor flags0 classFile x code maxLocals ret World_1 tables_1 room_1 Calls_1 rest_1 Pre_1 Post := by
  intro l hfl _ _ p e ha hc hk s m args below hf hA hF happ hP
  obtain ⟨hcalls, hrest, hpre⟩ := hP
  obtain ⟨-, -, -, hnamed, -, -, -, hat⟩ := (Spec.applies_iff hf).mp happ
  obtain ⟨hg, hn⟩ := and_e (Cond.before_iff.mp (show (Jvm.Cond.and given_1 narrow_1).before args s = true from hpre))
  obtain ⟨g1, g2⟩ := and_e hg
  obtain ⟨g3, g4⟩ := and_e g2
  obtain ⟨w0, w1, rfl⟩ : ∃ w0 w1 : Value, args = #[w0, w1] := by
    have hs : args.size = 2 := by simpa [Cond.value, given_1] using g1
    obtain ⟨L⟩ := args
    match L, hs with
    | [w0, w1], _ => exact ⟨w0, w1, rfl⟩
  have hw := fun d (hd : d ∈ tables_1) => atoms_spec (ws := Jvm.Cond.code x code maxLocals ret :: tables_1) hat d (List.mem_cons_of_mem _ hd)
  obtain ⟨i0, ei0⟩ := is_v g3
  obtain rfl : w0 = (.int i0) := Option.some.inj ei0
  obtain ⟨i1, ei1⟩ := is_v g4
  obtain rfl : w1 = (.int i1) := Option.some.inj ei1
  obtain ⟨n, o, h1, h2, h3, _, L, rfl, ⟨rfl, N⟩, hq⟩ := rm0 l s _ hw tables_1 i0 i1 s.heap s.heap.size (Nat.le_refl _) p e ha hc hk s m _ below hf ((Spec.applies_iff_loose hf).mp happ).1 ⟨rfl, State.Warmed39.refl s, rfl⟩ trivial
  refine ⟨n, _, h1, h2, h3, hpost _ _ _ _ _ _ ⟨Cond.after_iff.mpr rfl, Cond.after_iff.mpr (eq_i res_at (Term.int_eval (1)) rfl), trivial⟩ ⟨hq.1, hq.2.1, (hq.2.2.sift fun y hy => Or.inr (N y hy)).mono (by decide) (by decide)⟩⟩
theorem main_1_1 : Claimed_1_1 := comes_1 fun _ _ _ _ _ _ h hF => ⟨h.1, hF⟩
theorem main_1_2 : Claimed_1_2 := comes_1 fun _ _ _ _ _ _ h hF => ⟨h.2.1, hF⟩
end Jvm.Pilot.@@N@@
namespace Jvm.Pilot.@@N@@
open Jvm Jvm.ClassFile Sem Op Lib Jvm.Free Jvm.Stand Jvm.Pilot.@@N@@.Jvm.D
/-! MADE BY PROGRAM (witnessworld.py) out of the Statement's table words and the real class files: 10 classes; the members and pool entries that the words name. The judged class is class 1, her method 1. -/
namespace start1
open Jvm.ClassFile
def u (s : String) : CpInfo := .utf8 (stringToUtf16 s)
/-- a pool by its gaps: so many unusable entries, then the entry; so many at the end -/
def gap : Nat → List CpInfo → List CpInfo
  | 0, r => r
  | n + 1, r => .unusable :: gap n r
def poolList (es : List (Nat × CpInfo)) (last : Nat) : List CpInfo := es.foldr (fun e r => gap e.1 (e.2 :: r)) (gap last [])
def pool (es : List (Nat × CpInfo)) (last : Nat) : Array CpInfo := ⟨poolList es last⟩
def fileOf (pool : Array CpInfo) (this : Nat) (attrs : Array Attribute := #[]) (ms : Array MethodInfo := #[]) (fl : Nat := 33) (sup : Nat := 0) (ifs : Array Nat := #[]) (fds : Array FieldInfo := #[]) : ClassFile where
  minorVersion := 0
  majorVersion := 65
  constantPool := pool
  accessFlags := fl
  thisClass := this
  superClass := sup
  interfaces := ifs
  fields := fds
  methods := ms
  attributes := attrs
def plain (name : String) (sup : Option ClassId) : Class where
  name := name
  kind := .ordinary
  loader := none
  accessFlags := 33
  super := sup
  interfaces := #[]
  cf := none
  fields := #[]
  methods := #[]
  instanceTypes := #[]
  staticTypes := #[]
  resolved := #[]
  callSites := []
  init := .initialized
  statics := none
  mirror := none

def pool0 : Array CpInfo := pool [(5, u "<init>"), (0, u "()V"), (1, .class_ 10), (1, u "java/lang/Object")] 113

def k0m0 : Method := { name := "<init>", desc := "()V", sig := { parameters := [], returnType := none }, accessFlags := 1, code := none }
/-- java/lang/Object -/
def k0 : Class := { plain "java/lang/Object" none with
  accessFlags := 33
  interfaces := #[]
  cf := some (fileOf pool0 8 #[] #[{ accessFlags := 1, nameIndex := 5, descriptorIndex := 6, attributes := #[] }] 33 0 #[] #[])
  fields := #[]
  methods := #[k0m0]
  instanceTypes := #[]
  staticTypes := #[]
  resolved := Array.replicate 124 none
  statics := none }

def pool1 : Array CpInfo := pool [(2, .class_ 4), (1, u "java/lang/Object"), (0, u "<init>"), (0, u "()V"), (2, .integer 2147483647), (0, .integer 2147483648), (0, .long 4294967295), (1, .methodref 14 15), (0, .class_ 16), (0, .nameAndType 17 18), (0, u "com/example/sealcall/sealcall/rx/RxPacket"), (0, u "nextCallNumber"), (0, u "(I)I"), (0, .class_ 20), (0, u "com/example/sealcall/sealcall/rx/RxPacketNextCallNumberPinLaw"), (2, u "law"), (0, u "(II)Z")] 3

def k1m0 : Method := { name := "<init>", desc := "()V", sig := { parameters := [], returnType := none }, accessFlags := 2, code := none }
def k1c1 : Code := { maxStack := 4, maxLocals := 11, code := code, exceptionTable := #[], attributes := #[] }
def k1m1 : Method := { name := "law", desc := "(II)Z", sig := { parameters := [.int, .int], returnType := some .boolean }, accessFlags := 9, code := some k1c1 }
/-- com/example/sealcall/sealcall/rx/RxPacketNextCallNumberPinLaw -/
def k1 : Class := { plain "com/example/sealcall/sealcall/rx/RxPacketNextCallNumberPinLaw" (some 0) with
  accessFlags := 49
  interfaces := #[]
  cf := some (fileOf pool1 19 #[] #[{ accessFlags := 2, nameIndex := 5, descriptorIndex := 6, attributes := #[] }, { accessFlags := 9, nameIndex := 23, descriptorIndex := 24, attributes := #[] }] 49 2 #[] #[])
  fields := #[]
  methods := #[k1m0, k1m1]
  instanceTypes := #[]
  staticTypes := #[]
  resolved := Array.replicate 28 none
  statics := none }

def pool2 : Array CpInfo := pool [(2, .class_ 4), (1, u "java/lang/Object"), (0, u "<init>"), (0, u "()V"), (0, .class_ 8), (0, u "java/lang/Record")] 13

def k2m0 : Method := { name := "<init>", desc := "()V", sig := { parameters := [], returnType := none }, accessFlags := 4, code := none }
/-- java/lang/Record -/
def k2 : Class := { plain "java/lang/Record" (some 0) with
  accessFlags := 1057
  interfaces := #[]
  cf := some (fileOf pool2 7 #[] #[{ accessFlags := 4, nameIndex := 5, descriptorIndex := 6, attributes := #[] }] 1057 2 #[] #[])
  fields := #[]
  methods := #[k2m0]
  instanceTypes := #[]
  staticTypes := #[]
  resolved := Array.replicate 22 none
  statics := none }

def pool3 : Array CpInfo := pool [(2, .class_ 4), (1, u "java/lang/Record"), (3, .class_ 10), (1, u "com/example/sealcall/sealcall/rx/RxPacket"), (0, u "epoch"), (0, u "I"), (2, u "cid"), (2, u "callNumber"), (2, u "seq"), (2, u "serial"), (2, u "type"), (2, u "flags"), (2, u "userStatus"), (2, u "securityIndex"), (2, u "spare"), (2, u "serviceId"), (2, u "payload"), (0, u "[B"), (83, u "(I)I"), (12, u "HEADER_SIZE"), (2, u "MAX_DATAGRAM_SIZE"), (1, u "DATA"), (1, u "ACK"), (1, u "ABORT"), (1, u "DEBUG"), (1, u "VERSION"), (1, u "CLIENT_INITIATED"), (0, u "LAST_PACKET"), (0, u "CHANNEL_MASK"), (1, u "EPOCH_ADDRESS_FREE"), (1, u "ACK_DELAY"), (0, u "ACK_FIXED_SIZE"), (19, u "nextCallNumber")] 44

def k3c0 : Code := { maxStack := 2, maxLocals := 1, code := prog_27_method_11_code, exceptionTable := #[], attributes := #[] }
def k3m0 : Method := { name := "nextCallNumber", desc := "(I)I", sig := { parameters := [.int], returnType := some .int }, accessFlags := 8, code := some k3c0 }
/-- com/example/sealcall/sealcall/rx/RxPacket -/
def k3 : Class := { plain "com/example/sealcall/sealcall/rx/RxPacket" (some 2) with
  accessFlags := 48
  interfaces := #[]
  cf := some (fileOf pool3 8 #[] #[{ accessFlags := 8, nameIndex := 185, descriptorIndex := 130, attributes := #[] }] 48 2 #[] #[{ accessFlags := 18, nameIndex := 11, descriptorIndex := 12, attributes := #[] }, { accessFlags := 18, nameIndex := 15, descriptorIndex := 12, attributes := #[] }, { accessFlags := 18, nameIndex := 18, descriptorIndex := 12, attributes := #[] }, { accessFlags := 18, nameIndex := 21, descriptorIndex := 12, attributes := #[] }, { accessFlags := 18, nameIndex := 24, descriptorIndex := 12, attributes := #[] }, { accessFlags := 18, nameIndex := 27, descriptorIndex := 12, attributes := #[] }, { accessFlags := 18, nameIndex := 30, descriptorIndex := 12, attributes := #[] }, { accessFlags := 18, nameIndex := 33, descriptorIndex := 12, attributes := #[] }, { accessFlags := 18, nameIndex := 36, descriptorIndex := 12, attributes := #[] }, { accessFlags := 18, nameIndex := 39, descriptorIndex := 12, attributes := #[] }, { accessFlags := 18, nameIndex := 42, descriptorIndex := 12, attributes := #[] }, { accessFlags := 18, nameIndex := 45, descriptorIndex := 46, attributes := #[] }, { accessFlags := 24, nameIndex := 143, descriptorIndex := 12, attributes := #[] }, { accessFlags := 24, nameIndex := 146, descriptorIndex := 12, attributes := #[] }, { accessFlags := 24, nameIndex := 148, descriptorIndex := 12, attributes := #[] }, { accessFlags := 24, nameIndex := 150, descriptorIndex := 12, attributes := #[] }, { accessFlags := 24, nameIndex := 152, descriptorIndex := 12, attributes := #[] }, { accessFlags := 24, nameIndex := 154, descriptorIndex := 12, attributes := #[] }, { accessFlags := 24, nameIndex := 156, descriptorIndex := 12, attributes := #[] }, { accessFlags := 24, nameIndex := 158, descriptorIndex := 12, attributes := #[] }, { accessFlags := 24, nameIndex := 159, descriptorIndex := 12, attributes := #[] }, { accessFlags := 24, nameIndex := 160, descriptorIndex := 12, attributes := #[] }, { accessFlags := 24, nameIndex := 162, descriptorIndex := 12, attributes := #[] }, { accessFlags := 24, nameIndex := 164, descriptorIndex := 12, attributes := #[] }, { accessFlags := 26, nameIndex := 165, descriptorIndex := 12, attributes := #[] }])
  fields := #[{ name := "epoch", type := .int, accessFlags := 18, slot := 0, constantValue := 0 }, { name := "cid", type := .int, accessFlags := 18, slot := 1, constantValue := 0 }, { name := "callNumber", type := .int, accessFlags := 18, slot := 2, constantValue := 0 }, { name := "seq", type := .int, accessFlags := 18, slot := 3, constantValue := 0 }, { name := "serial", type := .int, accessFlags := 18, slot := 4, constantValue := 0 }, { name := "type", type := .int, accessFlags := 18, slot := 5, constantValue := 0 }, { name := "flags", type := .int, accessFlags := 18, slot := 6, constantValue := 0 }, { name := "userStatus", type := .int, accessFlags := 18, slot := 7, constantValue := 0 }, { name := "securityIndex", type := .int, accessFlags := 18, slot := 8, constantValue := 0 }, { name := "spare", type := .int, accessFlags := 18, slot := 9, constantValue := 0 }, { name := "serviceId", type := .int, accessFlags := 18, slot := 10, constantValue := 0 }, { name := "payload", type := (.array .byte), accessFlags := 18, slot := 11, constantValue := 0 }, { name := "HEADER_SIZE", type := .int, accessFlags := 24, slot := 0, constantValue := 0 }, { name := "MAX_DATAGRAM_SIZE", type := .int, accessFlags := 24, slot := 1, constantValue := 0 }, { name := "DATA", type := .int, accessFlags := 24, slot := 2, constantValue := 0 }, { name := "ACK", type := .int, accessFlags := 24, slot := 3, constantValue := 0 }, { name := "ABORT", type := .int, accessFlags := 24, slot := 4, constantValue := 0 }, { name := "DEBUG", type := .int, accessFlags := 24, slot := 5, constantValue := 0 }, { name := "VERSION", type := .int, accessFlags := 24, slot := 6, constantValue := 0 }, { name := "CLIENT_INITIATED", type := .int, accessFlags := 24, slot := 7, constantValue := 0 }, { name := "LAST_PACKET", type := .int, accessFlags := 24, slot := 8, constantValue := 0 }, { name := "CHANNEL_MASK", type := .int, accessFlags := 24, slot := 9, constantValue := 0 }, { name := "EPOCH_ADDRESS_FREE", type := .int, accessFlags := 24, slot := 10, constantValue := 0 }, { name := "ACK_DELAY", type := .int, accessFlags := 24, slot := 11, constantValue := 0 }, { name := "ACK_FIXED_SIZE", type := .int, accessFlags := 26, slot := 12, constantValue := 0 }]
  methods := #[k3m0]
  instanceTypes := #[.int, .int, .int, .int, .int, .int, .int, .int, .int, .int, .int, (.array .byte)]
  staticTypes := #[.int, .int, .int, .int, .int, .int, .int, .int, .int, .int, .int, .int, .int]
  resolved := Array.replicate 230 none
  statics := none }

def pool4 : Array CpInfo := pool [(1, u "java/lang/Cloneable"), (0, .class_ 1), (0, u "java/lang/Object"), (0, .class_ 3)] 3

/-- java/lang/Cloneable -/
def k4 : Class := { plain "java/lang/Cloneable" (some 0) with
  accessFlags := 1537
  interfaces := #[]
  cf := some (fileOf pool4 2 #[] #[] 1537 4 #[] #[])
  fields := #[]
  methods := #[]
  instanceTypes := #[]
  staticTypes := #[]
  resolved := Array.replicate 8 none
  statics := none }

def pool5 : Array CpInfo := pool [(1, u "java/io/Serializable"), (0, .class_ 1), (0, u "java/lang/Object"), (0, .class_ 3)] 3

/-- java/io/Serializable -/
def k5 : Class := { plain "java/io/Serializable" (some 0) with
  accessFlags := 1537
  interfaces := #[]
  cf := some (fileOf pool5 2 #[] #[] 1537 4 #[] #[])
  fields := #[]
  methods := #[]
  instanceTypes := #[]
  staticTypes := #[]
  resolved := Array.replicate 8 none
  statics := none }

/-- the primitive byte -/
def k6 : Class := { plain "byte" none with kind := .primitive 'B', accessFlags := 0x411 }
/-- [B -/
def k7 : Class := { plain "[B" (some 0) with kind := .array 6 .byte, interfaces := #[4, 5], accessFlags := 1041 }

/-- the primitive int -/
def k8 : Class := { plain "int" none with kind := .primitive 'I', accessFlags := 0x411 }
/-- [I -/
def k9 : Class := { plain "[I" (some 0) with kind := .array 8 .int, interfaces := #[4, 5], accessFlags := 1041 }

def heap : Heap := #[]
def classes : Array Class := #[k0, k1, k2, k3, k4, k5, k6, k7, k8, k9]
def interned : List (Array UInt16 × Addr) := []
def slotsUsed : Nat := 0
def theMethod : MethodId := ⟨1, 1⟩
def args0 : Array Value := #[.int 5, .int 6]
def aboutOver (below : List Frame) : State where
  vm := { classes := classes, interned := interned.toArray }
  heap := heap
  slotsUsed := slotsUsed
  threads := #[{ frames := .invoking theMethod args0 :: below }]
def below0 : List Frame := [.native { method := ⟨0, 0⟩, args := #[] }]
def about1 : State := aboutOver below0
def p0 : Program := .bare "" "" ""
def e0 : Env := launch0.env 0 0 0
theorem w_frames : about1.frames = Frame.invoking theMethod args0 :: below0 := rfl
set_option maxRecDepth 65536 in
theorem w_args : argsFit about1.vm theMethod args0 = true := by decide +kernel
set_option maxRecDepth 65536 in
theorem w_heap : heapFits about1 = true := by decide +kernel
set_option maxRecDepth 65536 in
theorem w_runnable : about1.curStatus? = some .runnable := by decide +kernel
set_option maxRecDepth 65536 in
theorem w_alone : about1.alone = true := by decide +kernel
set_option maxRecDepth 65536 in
theorem w_named : about1.methodNamed? x = some theMethod := by decide +kernel
set_option maxRecDepth 65536 in
theorem w_hears : about1.hears theMethod below0 = true := by decide +kernel
set_option maxRecDepth 65536 in
theorem w_ripe : about1.ripe theMethod args0 below0 = true := by decide +kernel
theorem w_running : about1.status = .running := rfl
set_option maxRecDepth 65536 in
theorem w_room : about1.hasRoom e0.platform room_1 = true :=
  launch0.hasRoom_least _ room_1 (by decide +kernel) (by decide +kernel) (by decide +kernel) (by decide +kernel) (by decide +kernel) (by decide +kernel)
theorem allAtoms_all (ts : List Jvm.Cond) (a : Array Jvm.Value) (st : Jvm.State) : (allAtoms ts).before a st = ts.all (fun c => c.before a st) := by
  induction ts with
  | nil => rfl
  | cons c t ih =>
    show (Jvm.Cond.and c (allAtoms t)).before a st = _
    rw [Jvm.Cond.before_and, ih, List.all_cons]
def words1 : List Jvm.Cond := Jvm.Cond.code x code maxLocals ret :: tables_1
/-- a 'code' word, met by the world's own term for the bytes: nothing is compared byte by byte -/
theorem code_word {y : MethodName} {bytes : ByteArray} {mx : Nat} {rt : Option FieldType} {a : Array Value} {s : State} {m : MethodId} {meth : Method} {c : Code} (h1 : s.methodNamed? y = some m) (h2 : s.vm.method? m = some meth) (h3 : meth.code = some c) (h4 : c.code = bytes)
    (h5 : (c.maxLocals == mx && c.exceptionTable.isEmpty && decide (c.maxStack ≤ mostOperands) && decide (meth.sig.returnType = rt) && !meth.locks && decide (parseMethodDescriptor y.desc = some meth.sig)) = true) : (Jvm.Cond.code y bytes mx rt).before a s = true := by
  simp only [Bool.and_eq_true, beq_iff_eq, Bool.not_eq_true', decide_eq_true_eq] at h5
  obtain ⟨⟨⟨⟨⟨g1, g2⟩, g3⟩, g4⟩, g5⟩, g6⟩ := h5
  simp [Cond.before, Cond.holds, Cond.value, h1, h2, h3, h4, g1, g2, g3, g4, g5, g6]
def isCode : Jvm.Cond → Bool
  | .code _ _ _ _ => true
  | _ => false
theorem all_split {L : List Jvm.Cond} {P : Jvm.Cond → Bool} (h1 : L.all (fun c => isCode c || P c) = true) (h2 : ∀ c ∈ L.filter isCode, P c = true) : L.all P = true := by
  refine List.all_eq_true.mpr fun c hc => ?_
  have h := List.all_eq_true.mp h1 c hc
  rcases Bool.eq_false_or_eq_true (isCode c) with hi | hi
  · exact h2 c (List.mem_filter.mpr ⟨hc, hi⟩)
  · simpa [hi] using h
set_option maxRecDepth 65536 in
theorem w_c0 : (Jvm.Cond.code x code maxLocals ret).before args0 about1 = true := code_word (m := ⟨1, 1⟩) (meth := k1m1) (c := k1c1) (by decide +kernel) rfl rfl rfl (by decide +kernel)
set_option maxRecDepth 65536 in
theorem w_c1 : (Jvm.Cond.code ({ cls := "com/example/sealcall/sealcall/rx/RxPacket", name := "nextCallNumber", desc := "(I)I" } : Jvm.MethodName) prog_27_method_11_code (1 : Nat) (Option.some Jvm.ClassFile.FieldType.int)).before args0 about1 = true := code_word (m := ⟨3, 0⟩) (meth := k3m0) (c := k3c0) (by decide +kernel) rfl rfl rfl (by decide +kernel)
def codes1 : List Jvm.Cond := [Jvm.Cond.code x code maxLocals ret, Jvm.Cond.code ({ cls := "com/example/sealcall/sealcall/rx/RxPacket", name := "nextCallNumber", desc := "(I)I" } : Jvm.MethodName) prog_27_method_11_code (1 : Nat) (Option.some Jvm.ClassFile.FieldType.int)]
set_option maxRecDepth 65536 in
theorem codes_eq : words1.filter isCode = codes1 := rfl
theorem w_codes : ∀ c ∈ words1.filter isCode, c.before args0 about1 = true := by
  rw [codes_eq]
  intro c hc
  simp only [codes1, List.mem_cons, List.not_mem_nil, or_false] at hc
  rcases hc with rfl | rfl
  · exact w_c0
  · exact w_c1
set_option maxRecDepth 65536 in
theorem w_t1 : words1.all (fun c => isCode c || c.before args0 about1) = true := by decide +kernel
theorem w_tables : (allAtoms (Jvm.Cond.code x code maxLocals ret :: tables_1)).before args0 about1 = true := by
  rw [allAtoms_all]
  show words1.all (fun c => c.before args0 about1) = true
  refine all_split ?_ w_codes
  rw [w_t1]
set_option maxRecDepth 65536 in
theorem w_case : (Jvm.Cond.and given_1 narrow_1).before args0 about1 = true := by decide +kernel
theorem w_applies : (headSpec (Jvm.Cond.code x code maxLocals ret :: tables_1) room_1).applies x e0.platform about1 = true :=
  (Spec.applies_iff w_frames).mpr ⟨w_running, w_runnable, w_alone, w_named, w_hears, w_ripe, w_room, w_tables⟩
theorem atStart : AtStart classFile x code maxLocals ret World_1 tables_1 room_1 Calls_1 rest_1 Pre_1 launch0 p0 e0 about1 theMethod args0 below0 :=
  ⟨lists_1, trivial, launch0.admits_env _ _ _, launch0.least_env, fairChoices_fair.cas, fairChoices_fair.clock, w_frames, w_args, w_heap, w_applies, trivial, trivial, w_case⟩
end start1
theorem witness_1 : WitnessClaimed_1 := ⟨start1.p0, start1.e0, start1.about1, start1.theMethod, start1.args0, start1.below0, start1.atStart⟩
end Jvm.Pilot.@@N@@
